import JvmDerived
import JvmDerived.Pilot.@@N@@Statement
import JvmDerived.Pilot.@@N@@Code
set_option linter.unusedVariables false
set_option linter.unusedSimpArgs false
/- laws to paste: Road.backV, Road.lenW, Road.empW, Road.chN, Road.codOf (cut by pick.py; bodies as the Statement names them) -/
namespace Jvm.Pilot.@@N@@
namespace StrChars
open Jvm Sem ClassFile Op Lib Jvm.Stand Jvm.Free.XT Jvm.Free.ALB Jvm.Free.JM Jvm.Free
open Jvm.Lib.Cold (StaticIs)
/-- a char array whose places are chars -/
def Ch (a : Addr) (A : Cell) (U : State) : Prop := Arr .char a A U ∧ Typed .char A
theorem Ch.mv {a : Addr} {A : Cell} {U U' : State} (h : Ch a A U) (hal : U.vm.Alike U'.vm) (hh : U'.heap = U.heap) : Ch a A U' := ⟨h.1.mv hal hh, h.2⟩
theorem Ch.keep {a : Addr} {A : Cell} {U U' : State} (h : Ch a A U) (hal : U.vm.Alike U'.vm) (hk : U'.heap[a]? = some A) : Ch a A U' := ⟨h.1.keep hal hk, h.2⟩
/-- what place i of a char[]'s cell holds -/
def cv (A : Cell) (i : Nat) : Int32 := match A.slots[i]? with | some (.int x) => x | _ => 0
theorem Ch.get {a : Addr} {A : Cell} {U : State} (h : Ch a A U) {i : Nat} (hi : i < A.slots.size) : A.slots[i]? = some (.int (cv A i)) := by
  have e := Array.getElem?_eq_getElem hi
  have f := h.2 i _ e
  unfold cv; rw [e]
  generalize A.slots[i] = v at f
  cases v <;> simp [fits] at f ⊢
/-- the byte that i2b leaves of a char -/
def lo8 (x : Int32) : Int32 := x.toInt8.toInt32
theorem fits_lo8 (y : Int32) : fits .byte (.int (lo8 y)) = true := by
  have h1 := y.toInt8.le_toInt
  have h2 := y.toInt8.toInt_lt
  simp only [lo8, fits, Bool.and_eq_true, decide_eq_true_eq, Int32.le_iff_toInt_le, Int8.toInt_toInt32, show (-128 : Int32).toInt = -128 from by decide, show (127 : Int32).toInt = 127 from by decide]
  omega
/-- A' is A but that each place j of lo .. hi - 1 holds f j -/
def Laid (A A' : Cell) (lo hi : Nat) (f : Nat → Value) : Prop := A'.cls = A.cls ∧ A'.vm = A.vm ∧ A'.slots.size = A.slots.size ∧ ∀ i, A'.slots[i]? = if lo ≤ i ∧ i < hi then some (f i) else A.slots[i]?
theorem Laid.zero (A : Cell) (lo : Nat) (f : Nat → Value) : Laid A A lo (lo + 0) f := ⟨rfl, rfl, rfl, fun i => by rw [if_neg (by omega)]⟩
theorem Laid.step {A Ak : Cell} {lo k : Nat} {f : Nat → Value} {v : Value} (h : Laid A Ak lo k f) (hlo : lo ≤ k) (hk : k < Ak.slots.size) (hv : v = f k) : Laid A (Ak.setSlot k v) lo (k + 1) f := by
  refine ⟨h.1, h.2.1, by simpa [Cell.setSlot] using h.2.2.1, fun i => ?_⟩
  by_cases e : k = i
  · subst e; rw [Cell.slots_setSlot_self v hk, if_pos (by omega), hv]
  · rw [Cell.slots_setSlot_ne v e, h.2.2.2 i]
    by_cases q : lo ≤ i ∧ i < k
    · rw [if_pos q, if_pos (by omega)]
    · rw [if_neg q, if_neg (by omega)]
def U16 : String := "java/lang/StringUTF16"
namespace Cmp5
def yN : MethodName := ⟨"java/lang/StringUTF16", "compress", "([CI[BII)I"⟩
abbrev yB : ByteArray := jdk_52_method_21_code
theorem d0 : decode yB 0 = .ok (.iconst 0, 1) := by decide +kernel
theorem d1 : decode yB 1 = .ok (.istore 5, 2) := by decide +kernel
theorem d3 : decode yB 3 = .ok (.iload 5, 2) := by decide +kernel
theorem d5 : decode yB 5 = .ok (.iload 4, 2) := by decide +kernel
theorem d7 : decode yB 7 = .ok (.if_icmp (.ge) 37, 3) := by decide +kernel
theorem d10 : decode yB 10 = .ok (.aload_n 0, 1) := by decide +kernel
theorem d11 : decode yB 11 = .ok (.iload_n 1, 1) := by decide +kernel
theorem d12 : decode yB 12 = .ok (.caload, 1) := by decide +kernel
theorem d13 : decode yB 13 = .ok (.istore 6, 2) := by decide +kernel
theorem d15 : decode yB 15 = .ok (.iload 6, 2) := by decide +kernel
theorem d17 : decode yB 17 = .ok (.sipush 255, 3) := by decide +kernel
theorem d20 : decode yB 20 = .ok (.if_icmp (.le) 6, 3) := by decide +kernel
theorem d26 : decode yB 26 = .ok (.aload_n 2, 1) := by decide +kernel
theorem d27 : decode yB 27 = .ok (.iload_n 3, 1) := by decide +kernel
theorem d28 : decode yB 28 = .ok (.iload 6, 2) := by decide +kernel
theorem d30 : decode yB 30 = .ok (.i2b, 1) := by decide +kernel
theorem d31 : decode yB 31 = .ok (.bastore, 1) := by decide +kernel
theorem d32 : decode yB 32 = .ok (.iinc 1 1, 3) := by decide +kernel
theorem d35 : decode yB 35 = .ok (.iinc 3 1, 3) := by decide +kernel
theorem d38 : decode yB 38 = .ok (.iinc 5 1, 3) := by decide +kernel
theorem d41 : decode yB 41 = .ok (.goto (-38), 3) := by decide +kernel
theorem d44 : decode yB 44 = .ok (.iload 4, 2) := by decide +kernel
theorem d46 : decode yB 46 = .ok (.ireturn, 1) := by decide +kernel
def site : List Cond := []
def tab : Cond := tabOf yN yB 7 (some .int) site
def P (b : Addr) (A : Cell) (d : Addr) (B : Cell) (o q len : Nat) (args : Array Value) (s : State) : Prop := args = #[.ref b, .int (Int32.ofNat o), .ref d, .int (Int32.ofNat q), .int (Int32.ofNat len)] ∧ Ch b A s ∧ Arr .byte d B s ∧ b ≠ d ∧ o + len ≤ A.slots.size ∧ q + len ≤ B.slots.size ∧ ∀ i, i < len → ¬ 255 < cv A (o + i)
def E (b : Addr) (A : Cell) (d : Addr) (B : Cell) (o q len : Nat) (r : Option Value) (s u : State) : Prop := r = some (.int (Int32.ofNat len)) ∧ ∃ B', Put d B' s u ∧ Laid B B' q (q + len) (fun j => Value.int (lo8 (cv A (o + (j - q)))))
/-- no char of the range above 255: len; the places written hold each char's low byte -/
theorem law (l : Launch) (b : Addr) (A : Cell) (d : Addr) (B : Cell) (o q len : Nat) : Law l yN 5 5 0 0 yB 7 (some .int) site (P b A d B o q len) (E b A d B o q len) (copyLocs d q len) 0 0 := by
  refine Law.of_walk (plainFor_of_name (by decide +kernel)) (by decide +kernel) (by decide +kernel) (by decide) (fun _ _ h => by rw [h.1]; rfl) (fun _ U U' hal hh h => ⟨h.1, h.2.1.mv hal hh, h.2.2.1.mv hal hh, h.2.2.2⟩) (fun r U U' V V' h1 hal h2 h => ⟨h.1, h.2.elim fun B' q => ⟨B', q.1.mv h1 h2, q.2⟩⟩) ?_
  intro p e s m args below meth c s₁ X0 hexec hbytes hml hret hlk hnm hown hh0 W hP
  obtain ⟨rfl, hA, hB, hne, l1, l2, hp⟩ := hP
  have c1 : Steps p.tables e below (s₁.setTop (entryFrame m #[.ref b, .int (Int32.ofNat o), .ref d, .int (Int32.ofNat q), .int (Int32.ofNat len)] 7)) (s₁.setTop (mkF m 0 #[.val (.ref b), .val (.int (Int32.ofNat o)), .val (.ref d), .val (.int (Int32.ofNat q)), .val (.int (Int32.ofNat len)), .unset, .unset] [])) := entry rfl
  have hA0 := hA.1.mv X0.warmed.alike hh0
  have hB0 := hB.mv X0.warmed.alike hh0
  have a31 := hA.1.2.2.2
  have c2 : Steps p.tables e below (s₁.setTop (entryFrame m #[.ref b, .int (Int32.ofNat o), .ref d, .int (Int32.ofNat q), .int (Int32.ofNat len)] 7)) (s₁.setTop (mkF m 3 #[.val (.ref b), .val (.int (Int32.ofNat o)), .val (.ref d), .val (.int (Int32.ofNat q)), .val (.int (Int32.ofNat len)), .val (.int 0), .unset] [])) := c1.trans (by
    refine iconstV X0.here hexec rfl 0 (hb hbytes d0) (by decide) ?_
    refine XS.istore X0.here hexec rfl (hb hbytes d1) rfl rfl ?_
    exact Steps.refl _)
  have loop : ∀ (r i : Nat), i + r = len → ∀ (z : Slot), (z = .unset ∨ ∃ w, z = .val w ∧ w.category = 1) → ∀ (Tl : State) (Bk : Cell), Stand p l e { frames := 0, locals := 0, cells := 0, slots := 0 } s m #[.ref b, .int (Int32.ofNat o), .ref d, .int (Int32.ofNat q), .int (Int32.ofNat len)] below meth c Tl ([] ++ copyLocs d q i) 0 0 → Put d Bk s₁ Tl → Laid B Bk q (q + i) (fun j => Value.int (lo8 (cv A (o + (j - q))))) →
      Steps p.tables e below (s₁.setTop (entryFrame m #[.ref b, .int (Int32.ofNat o), .ref d, .int (Int32.ofNat q), .int (Int32.ofNat len)] 7)) (Tl.setTop (mkF m 3 #[.val (.ref b), .val (.int (Int32.ofNat (o + i))), .val (.ref d), .val (.int (Int32.ofNat (q + i))), .val (.int (Int32.ofNat len)), .val (.int (Int32.ofNat i)), z] [])) → ∃ (T' : State) (B' : Cell) (z' : Slot), Stand p l e { frames := 0, locals := 0, cells := 0, slots := 0 } s m #[.ref b, .int (Int32.ofNat o), .ref d, .int (Int32.ofNat q), .int (Int32.ofNat len)] below meth c T' ([] ++ copyLocs d q len) 0 0 ∧ Put d B' s₁ T' ∧ Laid B B' q (q + len) (fun j => Value.int (lo8 (cv A (o + (j - q))))) ∧
      Steps p.tables e below (s₁.setTop (entryFrame m #[.ref b, .int (Int32.ofNat o), .ref d, .int (Int32.ofNat q), .int (Int32.ofNat len)] 7)) (T'.setTop (mkF m 3 #[.val (.ref b), .val (.int (Int32.ofNat (o + len))), .val (.ref d), .val (.int (Int32.ofNat (q + len))), .val (.int (Int32.ofNat len)), .val (.int (Int32.ofNat len)), z'] [])) := by
    intro r
    induction r with
    | zero =>
      intro i hi z hz Tl Bk Xl pl fl cl
      have hil : i = len := by omega
      rw [hil] at Xl fl cl
      exact ⟨Tl, Bk, z, Xl, pl, fl, cl⟩
    | succ r ih =>
      intro i hi z hz Tl Bk Xl pl fl cl
      have all := X0.warmed.alike.symm.trans Xl.warmed.alike
      have hAl := hA0.keep all (pl.other hne hA0.1)
      have hBk := hB0.like all pl.1 fl.1 fl.2.1 fl.2.2.1
      have hlt : q + i < Bk.slots.size := by rw [fl.2.2.1]; omega
      have c3 : Steps p.tables e below (s₁.setTop (entryFrame m #[.ref b, .int (Int32.ofNat o), .ref d, .int (Int32.ofNat q), .int (Int32.ofNat len)] 7)) (Tl.setTop (mkF m 12 #[.val (.ref b), .val (.int (Int32.ofNat (o + i))), .val (.ref d), .val (.int (Int32.ofNat (q + i))), .val (.int (Int32.ofNat len)), .val (.int (Int32.ofNat i)), z] [.int (Int32.ofNat (o + i)), .ref b])) := cl.trans (by
        refine XS.iload Xl.here hexec rfl (hb hbytes d3) rfl ?_
        refine XS.iload Xl.here hexec rfl (hb hbytes d5) rfl ?_
        refine XS.icmpNo Xl.here hexec rfl (hb hbytes d7) rfl (ii_ge_f (lt32 (by omega) (by omega))) ?_
        refine XS.aloadN Xl.here hexec rfl (hb hbytes d10) rfl rfl ?_
        refine XS.iloadN Xl.here hexec rfl (hb hbytes d11) rfl ?_
        exact Steps.refl _)
      have c4 : Steps p.tables e below (s₁.setTop (entryFrame m #[.ref b, .int (Int32.ofNat o), .ref d, .int (Int32.ofNat q), .int (Int32.ofNat len)] 7)) (Tl.setTop (mkF m 13 #[.val (.ref b), .val (.int (Int32.ofNat (o + i))), .val (.ref d), .val (.int (Int32.ofNat (q + i))), .val (.int (Int32.ofNat len)), .val (.int (Int32.ofNat i)), z] [.int (cv A (o + i))])) := c3.trans (by
        refine Xl.aget hexec hAl rfl (hA.get (i := o + i) (by omega)) rfl rfl (hb hbytes d12) ?_
        exact Steps.refl _)
      have c5 : Steps p.tables e below (s₁.setTop (entryFrame m #[.ref b, .int (Int32.ofNat o), .ref d, .int (Int32.ofNat q), .int (Int32.ofNat len)] 7)) (Tl.setTop (mkF m 15 #[.val (.ref b), .val (.int (Int32.ofNat (o + i))), .val (.ref d), .val (.int (Int32.ofNat (q + i))), .val (.int (Int32.ofNat len)), .val (.int (Int32.ofNat i)), .val (.int (cv A (o + i)))] [])) := c4.trans (by
        refine XS.istoreS Xl.here hexec rfl (hb hbytes d13) rfl rfl hz ?_
        exact Steps.refl _)
      have c6 : Steps p.tables e below (s₁.setTop (entryFrame m #[.ref b, .int (Int32.ofNat o), .ref d, .int (Int32.ofNat q), .int (Int32.ofNat len)] 7)) (Tl.setTop (mkF m 31 #[.val (.ref b), .val (.int (Int32.ofNat (o + i))), .val (.ref d), .val (.int (Int32.ofNat (q + i))), .val (.int (Int32.ofNat len)), .val (.int (Int32.ofNat i)), .val (.int (cv A (o + i)))] [.int (lo8 (cv A (o + i))), .int (Int32.ofNat (q + i)), .ref d])) := c5.trans (by
        refine XS.iload Xl.here hexec rfl (hb hbytes d15) rfl ?_
        refine sipushV Xl.here hexec rfl 255 (hb hbytes d17) (by decide) ?_
        refine XS.icmpYes Xl.here hexec rfl (pc0 := 20) rfl (hb hbytes d20) rfl (ii_le_t (hp i (by omega))) (by decide) rfl ?_
        refine XS.aloadN Xl.here hexec rfl (hb hbytes d26) rfl rfl ?_
        refine XS.iloadN Xl.here hexec rfl (hb hbytes d27) rfl ?_
        refine XS.iload Xl.here hexec rfl (hb hbytes d28) rfl ?_
        refine i2b Xl.here hexec rfl (hb hbytes d30) rfl ?_
        exact Steps.refl _)
      obtain ⟨T7, X7, p7, st7⟩ := Xl.aput hexec hBk rfl hlt rfl (fits_lo8 (cv A (o + i))) (g := (mkF m 31 #[.val (.ref b), .val (.int (Int32.ofNat (o + i))), .val (.ref d), .val (.int (Int32.ofNat (q + i))), .val (.int (Int32.ofNat len)), .val (.int (Int32.ofNat i)), .val (.int (cv A (o + i)))] [.int (lo8 (cv A (o + i))), .int (Int32.ofNat (q + i)), .ref d])) rfl (rest := []) rfl (hb hbytes d31)
      have c8 : Steps p.tables e below (s₁.setTop (entryFrame m #[.ref b, .int (Int32.ofNat o), .ref d, .int (Int32.ofNat q), .int (Int32.ofNat len)] 7)) (T7.setTop (mkF m 32 #[.val (.ref b), .val (.int (Int32.ofNat (o + i))), .val (.ref d), .val (.int (Int32.ofNat (q + i))), .val (.int (Int32.ofNat len)), .val (.int (Int32.ofNat i)), .val (.int (cv A (o + i)))] [])) := c6.trans (st7 _ (Steps.refl _))
      have c9 : Steps p.tables e below (s₁.setTop (entryFrame m #[.ref b, .int (Int32.ofNat o), .ref d, .int (Int32.ofNat q), .int (Int32.ofNat len)] 7)) (T7.setTop (mkF m 3 #[.val (.ref b), .val (.int (Int32.ofNat (o + i) + 1)), .val (.ref d), .val (.int (Int32.ofNat (q + i) + 1)), .val (.int (Int32.ofNat len)), .val (.int (Int32.ofNat i + 1)), .val (.int (cv A (o + i)))] [])) := c8.trans (by
        refine iincV X7.here hexec rfl 1 (hb hbytes d32) (by decide) rfl rfl ?_
        refine iincV X7.here hexec rfl 1 (hb hbytes d35) (by decide) rfl rfl ?_
        refine iincV X7.here hexec rfl 1 (hb hbytes d38) (by decide) rfl rfl ?_
        refine XS.goto X7.here hexec rfl (pc0 := 41) rfl (hb hbytes d41) (by decide) rfl ?_
        exact Steps.refl _)
      have c10 : Steps p.tables e below (s₁.setTop (entryFrame m #[.ref b, .int (Int32.ofNat o), .ref d, .int (Int32.ofNat q), .int (Int32.ofNat len)] 7)) (T7.setTop (mkF m 3 #[.val (.ref b), .val (.int (Int32.ofNat (o + (i + 1)))), .val (.ref d), .val (.int (Int32.ofNat (q + (i + 1)))), .val (.int (Int32.ofNat len)), .val (.int (Int32.ofNat (i + 1))), .val (.int (cv A (o + i)))] [])) := by
        have := c9
        rw [succ32, succ32, succ32] at this
        exact this
      exact ih (i + 1) (by omega) _ (Or.inr ⟨_, rfl, rfl⟩) T7 _ (by rw [copyLocs_step, ← List.append_assoc]; exact X7) (pl.trans p7) (fl.step (by omega) hlt (by simp)) c10
  obtain ⟨T9, B9, z9, X9, p9, f9, g9⟩ := loop len 0 (by omega) .unset (Or.inl rfl) s₁ B (by simpa [copyLocs] using X0) ⟨hB0.1, fun _ _ => rfl, rfl⟩ (Laid.zero _ _ _) c2
  have c11 : Steps p.tables e below (s₁.setTop (entryFrame m #[.ref b, .int (Int32.ofNat o), .ref d, .int (Int32.ofNat q), .int (Int32.ofNat len)] 7)) (T9.setTop (mkF m 46 #[.val (.ref b), .val (.int (Int32.ofNat (o + len))), .val (.ref d), .val (.int (Int32.ofNat (q + len))), .val (.int (Int32.ofNat len)), .val (.int (Int32.ofNat len)), z9] [.int (Int32.ofNat len)])) := g9.trans (by
    refine XS.iload X9.here hexec rfl (hb hbytes d3) rfl ?_
    refine XS.iload X9.here hexec rfl (hb hbytes d5) rfl ?_
    refine XS.icmpYes X9.here hexec rfl (pc0 := 7) rfl (hb hbytes d7) rfl (ii_ge_t (nlt32 (by omega) (Nat.le_refl _))) (by decide) rfl ?_
    refine XS.iload X9.here hexec rfl (hb hbytes d44) rfl ?_
    exact Steps.refl _)
  exact ⟨T9, some (.int (Int32.ofNat len)), _, _, _, X9, by simp, rfl, rfl, (fun h => by cases h), ⟨rfl, B9, p9.from hh0, f9⟩, fun fs hl => c11.trans (X9.ireturnOut hexec hret rfl (Or.inl rfl) (hb hbytes d46) hl)⟩
end Cmp5
namespace Cmp3
def yN : MethodName := ⟨"java/lang/StringUTF16", "compress", "([CII)[B"⟩
abbrev yB : ByteArray := jdk_52_method_16_code
theorem d0 : decode yB 0 = .ok (.iload_n 2, 1) := by decide +kernel
theorem d1 : decode yB 1 = .ok (.newarray .byte, 2) := by decide +kernel
theorem d3 : decode yB 3 = .ok (.astore_n 3, 1) := by decide +kernel
theorem d4 : decode yB 4 = .ok (.aload_n 0, 1) := by decide +kernel
theorem d5 : decode yB 5 = .ok (.iload_n 1, 1) := by decide +kernel
theorem d6 : decode yB 6 = .ok (.aload_n 3, 1) := by decide +kernel
theorem d7 : decode yB 7 = .ok (.iconst 0, 1) := by decide +kernel
theorem d8 : decode yB 8 = .ok (.iload_n 2, 1) := by decide +kernel
theorem d9 : decode yB 9 = .ok (.invokestatic 115, 3) := by decide +kernel
theorem d12 : decode yB 12 = .ok (.istore 4, 2) := by decide +kernel
theorem d14 : decode yB 14 = .ok (.iload 4, 2) := by decide +kernel
theorem d16 : decode yB 16 = .ok (.iload_n 2, 1) := by decide +kernel
theorem d17 : decode yB 17 = .ok (.if_icmp (.eq) 40, 3) := by decide +kernel
theorem d57 : decode yB 57 = .ok (.aload_n 3, 1) := by decide +kernel
theorem d58 : decode yB 58 = .ok (.areturn, 1) := by decide +kernel
def site : List Cond := [.arrayClass .byte, Cmp5.tab] ++ staticW U16 115 Cmp5.yN
def tab : Cond := tabOf yN yB 6 (some (.array .byte)) site
def P (b : Addr) (A : Cell) (o len : Nat) (args : Array Value) (s : State) : Prop := args = #[.ref b, .int (Int32.ofNat o), .int (Int32.ofNat len)] ∧ Ch b A s ∧ o + len ≤ A.slots.size ∧ len ≤ 536870912 ∧ ∀ i, i < len → ¬ 255 < cv A (o + i)
def E (b : Addr) (A : Cell) (o len : Nat) (r : Option Value) (s u : State) : Prop := NewArr .byte "[B" len (fun j => .int (lo8 (cv A (o + j)))) r s u ∧ u.heap.size = s.heap.size + 1
/-- no char of the range above 255: a new byte[] of their low bytes -/
theorem law (l : Launch) (b : Addr) (A : Cell) (o len : Nat) : Law l yN 3 3 1 18 yB 6 (some (.array .byte)) site (P b A o len) (E b A o len) [] 1 len := by
  refine Law.of_walk (plainFor_of_name (by decide +kernel)) (by decide +kernel) (by decide +kernel) (by decide) (fun _ _ h => by rw [h.1]; rfl) (fun _ U U' hal hh h => ⟨h.1, h.2.1.mv hal hh, h.2.2⟩) (fun r U U' V V' h1 hal h2 h => ⟨NewArr.mv r U U' V V' h1 hal h2 h.1, by rw [h1, h2]; exact h.2⟩) ?_
  intro p e s m args below meth c s₁ X0 hexec hbytes hml hret hlk hnm hown hh0 W hP
  obtain ⟨rfl, hA, l1, l2, hp⟩ := hP
  have a31 := hA.1.2.2.2
  have c1 : Steps p.tables e below (s₁.setTop (entryFrame m #[.ref b, .int (Int32.ofNat o), .int (Int32.ofNat len)] 6)) (s₁.setTop (mkF m 0 #[.val (.ref b), .val (.int (Int32.ofNat o)), .val (.int (Int32.ofNat len)), .unset, .unset, .unset] [])) := entry rfl
  have c2 : Steps p.tables e below (s₁.setTop (entryFrame m #[.ref b, .int (Int32.ofNat o), .int (Int32.ofNat len)] 6)) (s₁.setTop (mkF m 1 #[.val (.ref b), .val (.int (Int32.ofNat o)), .val (.int (Int32.ofNat len)), .unset, .unset, .unset] [.int (Int32.ofNat len)])) := c1.trans (by
    refine XS.iloadN X0.here hexec rfl (hb hbytes d0) rfl ?_
    exact Steps.refl _)
  obtain ⟨T3, B3, X3, ba3, bs3, bv3, bh3, bf3, st3⟩ := X0.anew hexec (atype := .byte) (wk W (.arrayClass .byte)) rfl (by show len * 1 ≤ _; omega) (by omega) (g := (mkF m 1 #[.val (.ref b), .val (.int (Int32.ofNat o)), .val (.int (Int32.ofNat len)), .unset, .unset, .unset] [.int (Int32.ofNat len)])) rfl (hb hbytes d1) (rest := []) rfl (Nat.le_refl _) (by show 0 + len ≤ len; omega)
  rw [hh0] at ba3 st3
  have kp3 : XT.Kept s T3 := (XT.Kept.of_eq hh0).push bh3
  have hA3 := hA.keep X3.warmed.alike (kp3 _ _ hA.1.1)
  have hne : b ≠ s.heap.size := hA.1.ne
  have c4 : Steps p.tables e below (s₁.setTop (entryFrame m #[.ref b, .int (Int32.ofNat o), .int (Int32.ofNat len)] 6)) (T3.setTop (mkF m 3 #[.val (.ref b), .val (.int (Int32.ofNat o)), .val (.int (Int32.ofNat len)), .unset, .unset, .unset] [.ref s.heap.size])) := c2.trans (st3 _ (Steps.refl _))
  have c5 : Steps p.tables e below (s₁.setTop (entryFrame m #[.ref b, .int (Int32.ofNat o), .int (Int32.ofNat len)] 6)) (T3.setTop (mkF m 9 #[.val (.ref b), .val (.int (Int32.ofNat o)), .val (.int (Int32.ofNat len)), .val (.ref s.heap.size), .unset, .unset] [.int (Int32.ofNat len), .int 0, .ref s.heap.size, .int (Int32.ofNat o), .ref b])) := c4.trans (by
    refine XS.astoreN X3.here hexec rfl (hb hbytes d3) rfl rfl rfl ?_
    refine XS.aloadN X3.here hexec rfl (hb hbytes d4) rfl rfl ?_
    refine XS.iloadN X3.here hexec rfl (hb hbytes d5) rfl ?_
    refine XS.aloadN X3.here hexec rfl (hb hbytes d6) rfl rfl ?_
    refine iconstV X3.here hexec rfl 0 (hb hbytes d7) (by decide) ?_
    refine XS.iloadN X3.here hexec rfl (hb hbytes d8) rfl ?_
    exact Steps.refl _)
  obtain ⟨v6, T6, X6, E6, g6⟩ := X3.callS hexec (Cmp5.law l b A s.heap.size B3 o 0 len) hown (wks W (staticW U16 115 Cmp5.yN)) (wk W Cmp5.tab) (W := 0) (Nat.le_of_ble_eq_true rfl) (Nat.le_of_ble_eq_true rfl) (Nat.le_refl _) (by show 0 + len + 0 ≤ len; omega) (g := (mkF m 9 #[.val (.ref b), .val (.int (Int32.ofNat o)), .val (.int (Int32.ofNat len)), .val (.ref s.heap.size), .unset, .unset] [.int (Int32.ofNat len), .int (Int32.ofNat 0), .ref s.heap.size, .int (Int32.ofNat o), .ref b])) rfl (by rw [hml]; rfl) c5 (argsL := [.ref b, .int (Int32.ofNat o), .ref s.heap.size, .int (Int32.ofNat 0), .int (Int32.ofNat len)]) (rest := []) rfl rfl (by show 2 * 0 + 0 ≤ _; decide) (hb hbytes d9) (⟨rfl, hA3, ba3, hne, l1, by rw [bs3]; simp, hp⟩)
  obtain ⟨rfl, B6, p6, f6⟩ := E6
  have c7 : Steps p.tables e below (s₁.setTop (entryFrame m #[.ref b, .int (Int32.ofNat o), .int (Int32.ofNat len)] 6)) (T6.setTop (mkF m 12 #[.val (.ref b), .val (.int (Int32.ofNat o)), .val (.int (Int32.ofNat len)), .val (.ref s.heap.size), .unset, .unset] [.int (Int32.ofNat len)])) := g6
  have c8 : Steps p.tables e below (s₁.setTop (entryFrame m #[.ref b, .int (Int32.ofNat o), .int (Int32.ofNat len)] 6)) (T6.setTop (mkF m 58 #[.val (.ref b), .val (.int (Int32.ofNat o)), .val (.int (Int32.ofNat len)), .val (.ref s.heap.size), .val (.int (Int32.ofNat len)), .unset] [.ref s.heap.size])) := c7.trans (by
    refine XS.istore X6.here hexec rfl (hb hbytes d12) rfl rfl ?_
    refine XS.iload X6.here hexec rfl (hb hbytes d14) rfl ?_
    refine XS.iloadN X6.here hexec rfl (hb hbytes d16) rfl ?_
    refine XS.icmpYes X6.here hexec rfl (pc0 := 17) rfl (hb hbytes d17) rfl (ii_eq_t rfl) (by decide) rfl ?_
    refine XS.aloadN X6.here hexec rfl (hb hbytes d57) rfl rfl ?_
    exact Steps.refl _)
  have X8 := X6.wide (L' := []) (cells' := 1) (slots' := len) (fun x hx hlt => by
    simp only [List.nil_append, copyLocs, List.mem_map, List.mem_range] at hx
    obtain ⟨i, -, rfl⟩ := hx
    exact absurd hlt (Nat.lt_irrefl _)) (Nat.le_refl _) (by omega)
  exact ⟨T6, some (.ref s.heap.size), _, _, _, X8, rfl, rfl, rfl, (fun h => by cases h), ⟨⟨rfl, B6, ba3.like (X3.warmed.alike.symm.trans X6.warmed.alike) p6.1 f6.1 f6.2.1 f6.2.2.1, f6.2.1.trans bv3, by rw [X6.warmed.alike.findClass, f6.1]; exact bf3, by rw [f6.2.2.1, bs3]; simp, fun j hj => by rw [f6.2.2.2 j, if_pos (by omega)]; rfl, kp3.put p6 (Nat.le_refl _)⟩, by rw [p6.2.2, bh3, hh0]; simp⟩, fun fs hl => c8.trans (X8.areturnOut hexec rfl hret rfl (hb hbytes d58) hl)⟩
end Cmp3
namespace CodL
def yN : MethodName := ⟨"java/lang/StringUTF16", "coderFromArrayLen", "([BI)B"⟩
abbrev yB : ByteArray := jdk_52_method_15_code
theorem d0 : decode yB 0 = .ok (.iload_n 1, 1) := by decide +kernel
theorem d1 : decode yB 1 = .ok (.aload_n 0, 1) := by decide +kernel
theorem d2 : decode yB 2 = .ok (.arraylength, 1) := by decide +kernel
theorem d3 : decode yB 3 = .ok (.isub, 1) := by decide +kernel
theorem d4 : decode yB 4 = .ok (.bipush 31, 2) := by decide +kernel
theorem d6 : decode yB 6 = .ok (.iushr, 1) := by decide +kernel
theorem d7 : decode yB 7 = .ok (.i2b, 1) := by decide +kernel
theorem d8 : decode yB 8 = .ok (.ireturn, 1) := by decide +kernel
def site : List Cond := []
def tab : Cond := tabOf yN yB 2 (some .byte) site
def P (d : Addr) (B : Cell) (args : Array Value) (s : State) : Prop := args = #[.ref d, .int (Int32.ofNat B.slots.size)] ∧ Arr .byte d B s
def E (r : Option Value) (s u : State) : Prop := XT.PureE (some (.int 0)) r s u
/-- an array as long as the number of chars: LATIN1 -/
theorem law (l : Launch) (d : Addr) (B : Cell) : Law l yN 2 2 0 0 yB 2 (some .byte) site (P d B) E [] 0 0 := by
  refine Law.of_walk (plainFor_of_name (by decide +kernel)) (by decide +kernel) (by decide +kernel) (by decide) (fun _ _ h => by rw [h.1]; rfl) (fun _ U U' hal hh h => ⟨h.1, h.2.mv hal hh⟩) (fun r U U' V V' h1 hal h2 h => XT.PureE.mv r U U' V V' h1 hal h2 h) ?_
  intro p e s m args below meth c s₁ X0 hexec hbytes hml hret hlk hnm hown hh0 W hP
  obtain ⟨rfl, hB⟩ := hP
  have hB0 := hB.mv X0.warmed.alike hh0
  have c1 : Steps p.tables e below (s₁.setTop (entryFrame m #[.ref d, .int (Int32.ofNat B.slots.size)] 2)) (s₁.setTop (mkF m 0 #[.val (.ref d), .val (.int (Int32.ofNat B.slots.size))] [])) := entry rfl
  have c2 : Steps p.tables e below (s₁.setTop (entryFrame m #[.ref d, .int (Int32.ofNat B.slots.size)] 2)) (s₁.setTop (mkF m 2 #[.val (.ref d), .val (.int (Int32.ofNat B.slots.size))] [.ref d, .int (Int32.ofNat B.slots.size)])) := c1.trans (by
    refine XS.iloadN X0.here hexec rfl (hb hbytes d0) rfl ?_
    refine XS.aloadN X0.here hexec rfl (hb hbytes d1) rfl rfl ?_
    exact Steps.refl _)
  have c3 : Steps p.tables e below (s₁.setTop (entryFrame m #[.ref d, .int (Int32.ofNat B.slots.size)] 2)) (s₁.setTop (mkF m 8 #[.val (.ref d), .val (.int (Int32.ofNat B.slots.size))] [.int (lo8 (ushr (Int32.ofNat B.slots.size - Int32.ofNat B.slots.size) 31))])) := c2.trans (by
    refine X0.alen hexec hB0 rfl rfl (hb hbytes d2) ?_
    refine XS.isub X0.here hexec rfl (hb hbytes d3) rfl ?_
    refine bipushV X0.here hexec rfl 31 (hb hbytes d4) (by decide) ?_
    refine iushr X0.here hexec rfl (hb hbytes d6) rfl ?_
    refine i2b X0.here hexec rfl (hb hbytes d7) rfl ?_
    exact Steps.refl _)
  have e0 : lo8 (ushr (Int32.ofNat B.slots.size - Int32.ofNat B.slots.size) 31) = 0 := by rw [Int32.sub_self]; decide
  rw [e0] at c3
  exact ⟨s₁, some (.int 0), _, _, _, X0, rfl, rfl, rfl, (fun h => by cases h), ⟨rfl, hh0⟩, fun fs hl => c3.trans (X0.ireturnOut hexec hret rfl (Or.inr (Or.inr (Or.inl rfl))) (hb hbytes d8) hl)⟩
end CodL
/-- the String at a is Latin-1 over a new byte[] (the heap's one new cell): the low bytes of the len chars of A from o on; every cell but a is kept -/
def Got (a : Addr) (D : Cell) (fV fC : Field) (A : Cell) (o len : Nat) (r : Option Value) (s u : State) : Prop := r = none ∧ ∃ D' V : Cell, Blank "java/lang/String" a D' u ∧ Same D D' [fV.slot, fC.slot] ∧ D'.slots[fV.slot]? = some (.ref s.heap.size) ∧ D'.slots[fC.slot]? = some (.int 0) ∧ Arr .byte s.heap.size V u ∧ V.vm = .none ∧ u.vm.findClass "[B" = some V.cls ∧ V.slots.size = len ∧ (∀ j, j < len → V.slots[j]? = some (.int (lo8 (cv A (o + j))))) ∧ (∀ (y : Addr) (c : Cell), y ≠ a → s.heap[y]? = some c → u.heap[y]? = some c) ∧ u.heap.size = s.heap.size + 1
theorem Got.mv {a : Addr} {D A : Cell} {fV fC : Field} {o len : Nat} : ∀ r (U U' V V' : State), U'.heap = U.heap → V.vm.Alike V'.vm → V'.heap = V.heap → Got a D fV fC A o len r U V → Got a D fV fC A o len r U' V' :=
  fun r U U' V V' h1 hal h2 ⟨e0, D', X, a1, a2, a3, a4, a5, a6, a7, a8, a9, a10, a11⟩ => ⟨e0, D', X, a1.mv hal h2, a2, by rw [h1]; exact a3, a4, by rw [h1]; exact a5.mv hal h2, a6, by rw [hal.findClass]; exact a7, a8, a9, by rw [h1, h2]; exact a10, by rw [h1, h2]; exact a11⟩
namespace New4
def yN : MethodName := ⟨"java/lang/String", "<init>", "([CIILjava/lang/Void;)V"⟩
abbrev yB : ByteArray := jdk_42_method_149_code
theorem d0 : decode yB 0 = .ok (.aload_n 0, 1) := by decide +kernel
theorem d1 : decode yB 1 = .ok (.invokespecial 1, 3) := by decide +kernel
theorem d4 : decode yB 4 = .ok (.iload_n 3, 1) := by decide +kernel
theorem d5 : decode yB 5 = .ok (.ifCond (.ne) 22, 3) := by decide +kernel
theorem d27 : decode yB 27 = .ok (.getstatic 38, 3) := by decide +kernel
theorem d30 : decode yB 30 = .ok (.ifCond (.eq) 28, 3) := by decide +kernel
theorem d33 : decode yB 33 = .ok (.aload_n 1, 1) := by decide +kernel
theorem d34 : decode yB 34 = .ok (.iload_n 2, 1) := by decide +kernel
theorem d35 : decode yB 35 = .ok (.iload_n 3, 1) := by decide +kernel
theorem d36 : decode yB 36 = .ok (.invokestatic 177, 3) := by decide +kernel
theorem d39 : decode yB 39 = .ok (.astore 5, 2) := by decide +kernel
theorem d41 : decode yB 41 = .ok (.aload_n 0, 1) := by decide +kernel
theorem d42 : decode yB 42 = .ok (.aload 5, 2) := by decide +kernel
theorem d44 : decode yB 44 = .ok (.iload_n 3, 1) := by decide +kernel
theorem d45 : decode yB 45 = .ok (.invokestatic 47, 3) := by decide +kernel
theorem d48 : decode yB 48 = .ok (.putfield 15, 3) := by decide +kernel
theorem d51 : decode yB 51 = .ok (.aload_n 0, 1) := by decide +kernel
theorem d52 : decode yB 52 = .ok (.aload 5, 2) := by decide +kernel
theorem d54 : decode yB 54 = .ok (.putfield 9, 3) := by decide +kernel
theorem d57 : decode yB 57 = .ok (.return_, 1) := by decide +kernel
def site : List Cond := [.fieldLink "java/lang/String" 38 "java/lang/String" "COMPACT_STRINGS" "Z", Cmp3.tab, CodL.tab, .laysFinal "java/lang/String" "java/lang/String" "value" "[B", .fieldLink "java/lang/String" 9 "java/lang/String" "value" "[B", .laysFinal "java/lang/String" "java/lang/String" "coder" "B", .fieldLink "java/lang/String" 15 "java/lang/String" "coder" "B"] ++ objW "java/lang/String" 1 ++ staticW "java/lang/String" 177 Cmp3.yN ++ staticW "java/lang/String" 47 CodL.yN
def tab : Cond := tabOf yN yB 6 none site
def P (a : Addr) (D : Cell) (fV fC : Field) (b : Addr) (A : Cell) (z : Int32) (o len : Nat) (args : Array Value) (s : State) : Prop := args = #[.ref a, .ref b, .int (Int32.ofNat o), .int (Int32.ofNat len), .null] ∧ Blank "java/lang/String" a D s ∧ Found "java/lang/String" "value" "[B" fV s ∧ Found "java/lang/String" "coder" "B" fC s ∧ Ch b A s ∧ StaticIs s "java/lang/String" "COMPACT_STRINGS" "Z" (.int z) ∧ ¬ z = 0 ∧ 0 < len ∧ o + len ≤ A.slots.size ∧ len ≤ 536870912 ∧ ∀ i, i < len → ¬ 255 < cv A (o + i)
def E (a : Addr) (D : Cell) (fV fC : Field) (A : Cell) (o len : Nat) (r : Option Value) (s u : State) : Prop := Got a D fV fC A o len r s u
/-- len > 0, no char of the range above 255: a Latin-1 String of their low bytes -/
theorem law (l : Launch) (a : Addr) (D : Cell) (fV fC : Field) (b : Addr) (A : Cell) (z : Int32) (o len : Nat) : Law l yN 5 4 2 35 yB 6 none site (P a D fV fC b A z o len) (E a D fV fC A o len) [⟨a, fC.slot⟩, ⟨a, fV.slot⟩] 1 len := by
  refine Law.of_walk (plainFor_of_name (by decide +kernel)) (by decide +kernel) (by decide +kernel) (by decide) (fun _ _ h => by rw [h.1]; rfl) (fun _ U U' hal hh h => ⟨h.1, h.2.1.mv hal hh, h.2.2.1.al hal, h.2.2.2.1.al hal, h.2.2.2.2.1.mv hal hh, h.2.2.2.2.2.1.there hal hh, h.2.2.2.2.2.2⟩) (fun r U U' V V' h1 hal h2 h => Got.mv r U U' V V' h1 hal h2 h) ?_
  intro p e s m args below meth c s₁ X0 hexec hbytes hml hret hlk hnm hown hh0 W hP
  obtain ⟨rfl, hB, f1, f2, hA, s1, hz, l0, l1, l2, hp⟩ := hP
  have a31 := hA.1.2.2.2
  have c1 : Steps p.tables e below (s₁.setTop (entryFrame m #[.ref a, .ref b, .int (Int32.ofNat o), .int (Int32.ofNat len), .null] 6)) (s₁.setTop (mkF m 0 #[.val (.ref a), .val (.ref b), .val (.int (Int32.ofNat o)), .val (.int (Int32.ofNat len)), .val .null, .unset] [])) := entry rfl
  have c2 : Steps p.tables e below (s₁.setTop (entryFrame m #[.ref a, .ref b, .int (Int32.ofNat o), .int (Int32.ofNat len), .null] 6)) (s₁.setTop (mkF m 1 #[.val (.ref a), .val (.ref b), .val (.int (Int32.ofNat o)), .val (.int (Int32.ofNat len)), .val .null, .unset] [.ref a])) := c1.trans (by
    refine XS.aloadN X0.here hexec rfl (hb hbytes d0) rfl rfl ?_
    exact Steps.refl _)
  obtain ⟨T3, X3, q3, st3⟩ := X0.oinit hexec hown (wks W (objW "java/lang/String" 1)) (g := (mkF m 1 #[.val (.ref a), .val (.ref b), .val (.int (Int32.ofNat o)), .val (.int (Int32.ofNat len)), .val .null, .unset] [.ref a])) rfl (by rw [hml]; rfl) (rest := []) rfl (hb hbytes d1) (W := 0) (by show 2 * 0 + 0 ≤ _; decide) (Nat.le_of_ble_eq_true rfl) (Nat.le_of_ble_eq_true rfl)
  have hh3 := q3.trans hh0
  have c4 : Steps p.tables e below (s₁.setTop (entryFrame m #[.ref a, .ref b, .int (Int32.ofNat o), .int (Int32.ofNat len), .null] 6)) (T3.setTop (mkF m 27 #[.val (.ref a), .val (.ref b), .val (.int (Int32.ofNat o)), .val (.int (Int32.ofNat len)), .val .null, .unset] [])) := (c2.trans (st3 _ (Steps.refl _))).trans (by
    refine XS.iloadN X3.here hexec rfl (hb hbytes d4) rfl ?_
    refine XS.ifYes X3.here hexec rfl (pc0 := 5) rfl (hb hbytes d5) rfl (i0_ne_t (nz32 (by omega) l0)) (by decide) rfl ?_
    exact Steps.refl _)
  obtain ⟨T5, X5, q5, st5⟩ := X3.sget hexec hown (wk W (.fieldLink "java/lang/String" 38 "java/lang/String" "COMPACT_STRINGS" "Z")) s1 (fun _ _ h => by rw [hh3]; exact h) (g := (mkF m 27 #[.val (.ref a), .val (.ref b), .val (.int (Int32.ofNat o)), .val (.int (Int32.ofNat len)), .val .null, .unset] [])) rfl (hb hbytes d27)
  have hh5 := q5.trans hh3
  have c6 : Steps p.tables e below (s₁.setTop (entryFrame m #[.ref a, .ref b, .int (Int32.ofNat o), .int (Int32.ofNat len), .null] 6)) (T5.setTop (mkF m 30 #[.val (.ref a), .val (.ref b), .val (.int (Int32.ofNat o)), .val (.int (Int32.ofNat len)), .val .null, .unset] [.int z])) := c4.trans (st5 _ (Steps.refl _))
  have c7 : Steps p.tables e below (s₁.setTop (entryFrame m #[.ref a, .ref b, .int (Int32.ofNat o), .int (Int32.ofNat len), .null] 6)) (T5.setTop (mkF m 36 #[.val (.ref a), .val (.ref b), .val (.int (Int32.ofNat o)), .val (.int (Int32.ofNat len)), .val .null, .unset] [.int (Int32.ofNat len), .int (Int32.ofNat o), .ref b])) := c6.trans (by
    refine XS.ifNo X5.here hexec rfl (hb hbytes d30) rfl (i0_eq_f hz) ?_
    refine XS.aloadN X5.here hexec rfl (hb hbytes d33) rfl rfl ?_
    refine XS.iloadN X5.here hexec rfl (hb hbytes d34) rfl ?_
    refine XS.iloadN X5.here hexec rfl (hb hbytes d35) rfl ?_
    exact Steps.refl _)
  obtain ⟨v8, T8, X8, E8, g8⟩ := X5.callS hexec (Cmp3.law l b A o len) hown (wks W (staticW "java/lang/String" 177 Cmp3.yN)) (wk W Cmp3.tab) (W := 0) (Nat.le_of_ble_eq_true rfl) (Nat.le_of_ble_eq_true rfl) (Nat.le_refl _) (by show 0 + len ≤ len; omega) (g := (mkF m 36 #[.val (.ref a), .val (.ref b), .val (.int (Int32.ofNat o)), .val (.int (Int32.ofNat len)), .val .null, .unset] [.int (Int32.ofNat len), .int (Int32.ofNat o), .ref b])) rfl (by rw [hml]; rfl) c7 (argsL := [.ref b, .int (Int32.ofNat o), .int (Int32.ofNat len)]) (rest := []) rfl rfl (by show 2 * 0 + 0 ≤ _; decide) (hb hbytes d36) (⟨rfl, hA.mv X5.warmed.alike hh5, l1, l2, hp⟩)
  obtain ⟨e8, z8⟩ := E8
  obtain ⟨rfl, N, n1, n2, n3, n4, n5, n6⟩ := NewArr.mv _ T5 s _ _ hh5.symm (Vm.Alike.refl _) rfl e8
  rw [hh5] at z8
  have hB1 := hB.keep X8.warmed.alike (n6 _ _ hB.1)
  have hne : s.heap.size ≠ a := (Nat.ne_of_lt (Array.getElem?_eq_some_iff.mp hB.1).1).symm
  have c9 : Steps p.tables e below (s₁.setTop (entryFrame m #[.ref a, .ref b, .int (Int32.ofNat o), .int (Int32.ofNat len), .null] 6)) (T8.setTop (mkF m 39 #[.val (.ref a), .val (.ref b), .val (.int (Int32.ofNat o)), .val (.int (Int32.ofNat len)), .val .null, .unset] [.ref s.heap.size])) := g8
  have c10 : Steps p.tables e below (s₁.setTop (entryFrame m #[.ref a, .ref b, .int (Int32.ofNat o), .int (Int32.ofNat len), .null] 6)) (T8.setTop (mkF m 45 #[.val (.ref a), .val (.ref b), .val (.int (Int32.ofNat o)), .val (.int (Int32.ofNat len)), .val .null, .val (.ref s.heap.size)] [.int (Int32.ofNat N.slots.size), .ref s.heap.size, .ref a])) := by
    have hc : Steps p.tables e below (s₁.setTop (entryFrame m #[.ref a, .ref b, .int (Int32.ofNat o), .int (Int32.ofNat len), .null] 6)) (T8.setTop (mkF m 45 #[.val (.ref a), .val (.ref b), .val (.int (Int32.ofNat o)), .val (.int (Int32.ofNat len)), .val .null, .val (.ref s.heap.size)] [.int (Int32.ofNat len), .ref s.heap.size, .ref a])) := c9.trans (by
      refine XS.astore X8.here hexec rfl (hb hbytes d39) rfl rfl rfl ?_
      refine XS.aloadN X8.here hexec rfl (hb hbytes d41) rfl rfl ?_
      refine XS.aload X8.here hexec rfl (hb hbytes d42) rfl rfl ?_
      refine XS.iloadN X8.here hexec rfl (hb hbytes d44) rfl ?_
      exact Steps.refl _)
    rw [n4]; exact hc
  obtain ⟨v11, T11, X11, E11, g11⟩ := X8.callS hexec (CodL.law l s.heap.size N) hown (wks W (staticW "java/lang/String" 47 CodL.yN)) (wk W CodL.tab) (W := 1) (Nat.le_of_ble_eq_true rfl) (Nat.le_of_ble_eq_true rfl) (Nat.le_refl _) (by show 0 + len + 0 ≤ len; omega) (g := (mkF m 45 #[.val (.ref a), .val (.ref b), .val (.int (Int32.ofNat o)), .val (.int (Int32.ofNat len)), .val .null, .val (.ref s.heap.size)] [.int (Int32.ofNat N.slots.size), .ref s.heap.size, .ref a])) rfl (by rw [hml]; rfl) c10 (argsL := [.ref s.heap.size, .int (Int32.ofNat N.slots.size)]) (rest := [.ref a]) rfl rfl (by show 2 * 0 + (1 + 0) ≤ _; decide) (hb hbytes d45) (⟨rfl, n1⟩)
  obtain ⟨rfl, q11⟩ := E11
  have hB11 := hB1.mv (X8.warmed.alike.symm.trans X11.warmed.alike) q11
  have c12 : Steps p.tables e below (s₁.setTop (entryFrame m #[.ref a, .ref b, .int (Int32.ofNat o), .int (Int32.ofNat len), .null] 6)) (T11.setTop (mkF m 48 #[.val (.ref a), .val (.ref b), .val (.int (Int32.ofNat o)), .val (.int (Int32.ofNat len)), .val .null, .val (.ref s.heap.size)] [.int 0, .ref a])) := g11
  obtain ⟨T13, X13, p13, bl13, sl13, st13⟩ := X11.finit hexec hown (wk W (.fieldLink "java/lang/String" 15 "java/lang/String" "coder" "B")) (Or.inr ⟨_, (wk W (.laysFinal "java/lang/String" "java/lang/String" "coder" "B"))⟩) (Or.inl ⟨rfl, hnm⟩) f2 (Or.inl rfl) hB11 (t := .byte) (by decide +kernel) rfl (g := (mkF m 48 #[.val (.ref a), .val (.ref b), .val (.int (Int32.ofNat o)), .val (.int (Int32.ofNat len)), .val .null, .val (.ref s.heap.size)] [.int 0, .ref a])) rfl (rest := []) rfl (hb hbytes d48)
  have c14 : Steps p.tables e below (s₁.setTop (entryFrame m #[.ref a, .ref b, .int (Int32.ofNat o), .int (Int32.ofNat len), .null] 6)) (T13.setTop (mkF m 54 #[.val (.ref a), .val (.ref b), .val (.int (Int32.ofNat o)), .val (.int (Int32.ofNat len)), .val .null, .val (.ref s.heap.size)] [.ref s.heap.size, .ref a])) := (c12.trans (st13 _ (Steps.refl _))).trans (by
    refine XS.aloadN X13.here hexec rfl (hb hbytes d51) rfl rfl ?_
    refine XS.aload X13.here hexec rfl (hb hbytes d52) rfl rfl ?_
    exact Steps.refl _)
  obtain ⟨T15, X15, p15, bl15, sl15, st15⟩ := X13.finit hexec hown (wk W (.fieldLink "java/lang/String" 9 "java/lang/String" "value" "[B")) (Or.inr ⟨_, (wk W (.laysFinal "java/lang/String" "java/lang/String" "value" "[B"))⟩) (Or.inl ⟨rfl, hnm⟩) f1 (Or.inl rfl) bl13 (t := (.array .byte)) (by decide +kernel) rfl (g := (mkF m 54 #[.val (.ref a), .val (.ref b), .val (.int (Int32.ofNat o)), .val (.int (Int32.ofNat len)), .val .null, .val (.ref s.heap.size)] [.ref s.heap.size, .ref a])) rfl (rest := []) rfl (hb hbytes d54)
  have c16 : Steps p.tables e below (s₁.setTop (entryFrame m #[.ref a, .ref b, .int (Int32.ofNat o), .int (Int32.ofNat len), .null] 6)) (T15.setTop (mkF m 57 #[.val (.ref a), .val (.ref b), .val (.int (Int32.ofNat o)), .val (.int (Int32.ofNat len)), .val .null, .val (.ref s.heap.size)] [])) := c14.trans (st15 _ (Steps.refl _))
  have ap := apart (Or.inr ⟨_, (wk W (.laysFinal "java/lang/String" "java/lang/String" "value" "[B"))⟩) (Or.inr ⟨_, (wk W (.laysFinal "java/lang/String" "java/lang/String" "coder" "B"))⟩) f1 f2 (t₁ := .array .byte) (t₂ := .byte) (by decide +kernel) (by decide +kernel) (by decide)
  have al := X8.warmed.alike.symm.trans X15.warmed.alike
  have n7 : T11.heap[s.heap.size]? = some N := by rw [q11]; exact n1.1
  exact ⟨T15, none, _, _, _, X15, by simp, rfl, by omega, (fun _ => rfl), ⟨rfl, _, N, bl15, ((Same.refl D _).set _ (by simp)).set _ (by simp), sl15, (Cell.slots_setSlot_ne _ ap).trans sl13, n1.keep al (p15.other hne (p13.other hne n7)), n2, by rw [al.findClass]; exact n3, n4, n5, fun y c h1 h2 => p15.other h1 (p13.other h1 (by rw [q11]; exact n6 y c h2)), by rw [p15.2.2, p13.2.2, q11]; exact z8⟩, fun fs hl => c16.trans (X15.returnOut hexec hret (hb hbytes d57) hl)⟩
end New4
namespace New1
def yN : MethodName := ⟨"java/lang/String", "<init>", "([C)V"⟩
abbrev yB : ByteArray := jdk_42_method_3_code
theorem d0 : decode yB 0 = .ok (.aload_n 0, 1) := by decide +kernel
theorem d1 : decode yB 1 = .ok (.aload_n 1, 1) := by decide +kernel
theorem d2 : decode yB 2 = .ok (.iconst 0, 1) := by decide +kernel
theorem d3 : decode yB 3 = .ok (.aload_n 1, 1) := by decide +kernel
theorem d4 : decode yB 4 = .ok (.arraylength, 1) := by decide +kernel
theorem d5 : decode yB 5 = .ok (.aconst_null, 1) := by decide +kernel
theorem d6 : decode yB 6 = .ok (.invokespecial 27, 3) := by decide +kernel
theorem d9 : decode yB 9 = .ok (.return_, 1) := by decide +kernel
def site : List Cond := [New4.tab] ++ initW "java/lang/String" 27 New4.yN
def tab : Cond := tabOf yN yB 2 none site
def P (a : Addr) (D : Cell) (fV fC : Field) (b : Addr) (A : Cell) (z : Int32) (args : Array Value) (s : State) : Prop := args = #[.ref a, .ref b] ∧ Blank "java/lang/String" a D s ∧ Found "java/lang/String" "value" "[B" fV s ∧ Found "java/lang/String" "coder" "B" fC s ∧ Ch b A s ∧ StaticIs s "java/lang/String" "COMPACT_STRINGS" "Z" (.int z) ∧ ¬ z = 0 ∧ 0 < A.slots.size ∧ A.slots.size ≤ 536870912 ∧ ∀ i, i < A.slots.size → ¬ 255 < cv A i
def E (a : Addr) (D : Cell) (fV fC : Field) (A : Cell) (r : Option Value) (s u : State) : Prop := Got a D fV fC A 0 A.slots.size r s u
/-- new String(chars), not empty, no char above 255: a Latin-1 String of their low bytes -/
theorem law (l : Launch) (a : Addr) (D : Cell) (fV fC : Field) (b : Addr) (A : Cell) (z : Int32) : Law l yN 2 1 3 52 yB 2 none site (P a D fV fC b A z) (E a D fV fC A) [⟨a, fC.slot⟩, ⟨a, fV.slot⟩] 1 A.slots.size := by
  refine Law.of_walk (plainFor_of_name (by decide +kernel)) (by decide +kernel) (by decide +kernel) (by decide) (fun _ _ h => by rw [h.1]; rfl) (fun _ U U' hal hh h => ⟨h.1, h.2.1.mv hal hh, h.2.2.1.al hal, h.2.2.2.1.al hal, h.2.2.2.2.1.mv hal hh, h.2.2.2.2.2.1.there hal hh, h.2.2.2.2.2.2⟩) (fun r U U' V V' h1 hal h2 h => Got.mv r U U' V V' h1 hal h2 h) ?_
  intro p e s m args below meth c s₁ X0 hexec hbytes hml hret hlk hnm hown hh0 W hP
  obtain ⟨rfl, hB, f1, f2, hA, s1, hz, l0, l2, hp⟩ := hP
  have c1 : Steps p.tables e below (s₁.setTop (entryFrame m #[.ref a, .ref b] 2)) (s₁.setTop (mkF m 0 #[.val (.ref a), .val (.ref b)] [])) := entry rfl
  have c2 : Steps p.tables e below (s₁.setTop (entryFrame m #[.ref a, .ref b] 2)) (s₁.setTop (mkF m 6 #[.val (.ref a), .val (.ref b)] [.null, .int (Int32.ofNat A.slots.size), .int 0, .ref b, .ref a])) := c1.trans (by
    refine XS.aloadN X0.here hexec rfl (hb hbytes d0) rfl rfl ?_
    refine XS.aloadN X0.here hexec rfl (hb hbytes d1) rfl rfl ?_
    refine iconstV X0.here hexec rfl 0 (hb hbytes d2) (by decide) ?_
    refine XS.aloadN X0.here hexec rfl (hb hbytes d3) rfl rfl ?_
    refine X0.alen hexec (hA.1.mv X0.warmed.alike hh0) rfl rfl (hb hbytes d4) ?_
    refine XS.aconstNull X0.here hexec rfl (hb hbytes d5) ?_
    exact Steps.refl _)
  obtain ⟨v3, T3, X3, E3, g3⟩ := X0.callN hexec (New4.law l a D fV fC b A z 0 A.slots.size) rfl hown (wks W (initW "java/lang/String" 27 New4.yN)) (W New4.tab (by simp only [site, List.mem_cons, List.mem_append, true_or, or_true])) (W := 0) (Nat.le_of_ble_eq_true rfl) (Nat.le_of_ble_eq_true rfl) (Nat.le_refl _) (by show 0 + A.slots.size ≤ A.slots.size; omega) (g := (mkF m 6 #[.val (.ref a), .val (.ref b)] [.null, .int (Int32.ofNat A.slots.size), .int (Int32.ofNat 0), .ref b, .ref a])) rfl (by rw [hml]; rfl) c2 (argsL := [.ref b, .int (Int32.ofNat 0), .int (Int32.ofNat A.slots.size), .null]) (rest := []) rfl rfl (by show 2 * 0 + 0 ≤ _; decide) (hb hbytes d6) (⟨rfl, hB.mv X0.warmed.alike hh0, f1.al X0.warmed.alike, f2.al X0.warmed.alike, hA.mv X0.warmed.alike hh0, s1.there X0.warmed.alike hh0, hz, l0, by omega, l2, fun i hi => by rw [Nat.zero_add]; exact hp i hi⟩)
  have e0 := Got.mv _ s₁ s _ _ hh0.symm (Vm.Alike.refl _) rfl E3
  obtain rfl := e0.1
  have c4 : Steps p.tables e below (s₁.setTop (entryFrame m #[.ref a, .ref b] 2)) (T3.setTop (mkF m 9 #[.val (.ref a), .val (.ref b)] [])) := g3
  exact ⟨T3, none, _, _, _, X3, by simp, rfl, by omega, (fun _ => rfl), e0, fun fs hl => c4.trans (X3.returnOut hexec hret (hb hbytes d9) hl)⟩
theorem pays {l : Launch} {R : Room} {p : Program} {e : Env} {below : List Frame} {s : State} {sargs : Array Value} {len W : Nat} (a : Addr) (D : Cell) (fV fC : Field) (b : Addr) (A : Cell) (z : Int32) (htab : tab.before sargs s = true) (hfr : 4 ≤ R.frames) (hlo : W + 65 ≤ R.locals) :
    Back l R p e below s sargs yN len W (fun A₁ a₁ => A₁.cells + 1 ≤ R.cells ∧ A₁.slots + A.slots.size ≤ R.slots ∧ P a D fV fC b A z a₁ A₁.U) (fun A₁ _ v₁ B₁ => E a D fV fC A v₁ A₁.U B₁.U ∧ B₁.locs = A₁.locs ++ [⟨a, fC.slot⟩, ⟨a, fV.slot⟩] ∧ B₁.cells = A₁.cells + 1 ∧ B₁.slots = A₁.slots + A.slots.size) :=
  (law l a D fV fC b A z).pays htab hfr (by omega)
end New1
/-- the byte, read back as charAt reads it, is the char -/
theorem lo8_mask {x : Int32} (h0 : ¬ x < 0) (h1 : ¬ 255 < x) : lo8 x &&& 255 = x := by
  have t : ∀ k : Fin 256, lo8 (Int32.ofNat k.val) &&& 255 = Int32.ofNat k.val := by decide +kernel
  rw [Int32.lt_iff_toInt_lt] at h0 h1
  have e0 : (0 : Int32).toInt = 0 := rfl
  have e1 : (255 : Int32).toInt = 255 := rfl
  obtain ⟨k, hk⟩ : ∃ k : Nat, x.toInt = k := ⟨x.toInt.toNat, by omega⟩
  have hx : x = Int32.ofNat k := Int32.toInt_inj.mp (by rw [hk, Int32.toInt_ofNat_small (by omega)])
  rw [hx]
  exact t ⟨k, by omega⟩
end StrChars
namespace StrChars.Road
open Jvm Sem ClassFile Op Lib Jvm.Stand Jvm.Free Jvm.Free.XT
open Jvm.Lib.Cold (StaticIs)
abbrev ST : String := "java/lang/String"
/-- every table word that New1's law asks, flat -/
abbrev words : List Jvm.Cond := [.code New1.yN New1.yB 2 none, .initialized ST, .methodLink ST 27 New4.yN, .instanceMethod New4.yN,
  .code New4.yN New4.yB 6 none, .fieldLink ST 38 ST "COMPACT_STRINGS" "Z", .laysFinal ST ST "value" "[B", .fieldLink ST 9 ST "value" "[B", .laysFinal ST ST "coder" "B", .fieldLink ST 15 ST "coder" "B",
  .methodLink ST 1 Lib.objectInit, .instanceMethod Lib.objectInit, .code Lib.objectInit ⟨#[0xb1]⟩ 1 none, .methodLink ST 177 Cmp3.yN, .static Cmp3.yN, .methodLink ST 47 CodL.yN, .static CodL.yN,
  .code Cmp3.yN Cmp3.yB 6 (some (.array .byte)), .initialized U16, .arrayClass .byte, .methodLink U16 115 Cmp5.yN, .static Cmp5.yN, .code Cmp5.yN Cmp5.yB 7 (some .int), .code CodL.yN CodL.yB 2 (some .byte)]
theorem tab_of {a : Array Value} {s : State} (h : ∀ w ∈ words, w.before a s = true) : New1.tab.before a s = true := by
  have h5 : Cmp5.tab.before a s = true := unparts (wk h (.code Cmp5.yN Cmp5.yB 7 (some .int))) (wks h (.initialized Cmp5.yN.cls :: Cmp5.site))
  have hc : CodL.tab.before a s = true := unparts (wk h (.code CodL.yN CodL.yB 2 (some .byte))) (wks h (.initialized CodL.yN.cls :: CodL.site))
  have q5 : ∀ w ∈ Cmp5.tab :: words, w.before a s = true := fun w hw => (List.mem_cons.mp hw).elim (fun e => e ▸ h5) (h w)
  have h3 : Cmp3.tab.before a s = true := unparts (wk q5 (.code Cmp3.yN Cmp3.yB 6 (some (.array .byte)))) (wks q5 (.initialized Cmp3.yN.cls :: Cmp3.site))
  have q3 : ∀ w ∈ Cmp3.tab :: CodL.tab :: words, w.before a s = true := fun w hw => (List.mem_cons.mp hw).elim (fun e => e ▸ h3) fun hw => (List.mem_cons.mp hw).elim (fun e => e ▸ hc) (h w)
  have h4 : New4.tab.before a s = true := unparts (wk q3 (.code New4.yN New4.yB 6 none)) (wks q3 (.initialized New4.yN.cls :: New4.site))
  have q4 : ∀ w ∈ New4.tab :: words, w.before a s = true := fun w hw => (List.mem_cons.mp hw).elim (fun e => e ▸ h4) (h w)
  exact unparts (wk q4 (.code New1.yN New1.yB 2 none)) (wks q4 (.initialized New1.yN.cls :: New1.site))
/-- the words ride from the start Z to the walk's own state -/
theorem moved {Z s : State} {a0 args : Array Value} (hZ : Z.Warmed39 s.vm) (hw : ∀ d ∈ words, d.before a0 Z = true) : ∀ d ∈ words, d.before args s = true := fun d hd => by
  have q := hw d hd
  have t : ∀ d ∈ words, d = .arrayClass .byte ∨ (d.onTables && d.keepsFace) = true := by decide +kernel
  rcases t d hd with rfl | t
  · exact RoadKit.mvA hZ q
  · exact RoadKit.mv hZ q t
/-- WHAT COMES BACK, over the tables of the start Z: h the heap at the call, h' behind it -/
def Q (Z : State) (x : Addr) (A : Cell) (h : Heap) (v : Option Value) (h' : Heap) (L : List Loc) : Prop := v = none ∧ (∀ y ∈ L, y.base = x) ∧ RoadKit.Keep h h' [x] ∧ h'.size = h.size + 1 ∧ RoadKit.Exa Z h' x ST ∧ RoadKit.Fld Z h' x ST "value" "[B" (.ref h.size) ∧ RoadKit.Fld Z h' x ST "coder" "B" (.int 0) ∧
  (∃ V : Cell, RoadKit.Arr Z h' h.size V .byte ∧ V.vm = .none ∧ Z.vm.findClass "[B" = some V.cls ∧ V.slots.size = A.slots.size ∧ ∀ j, j < A.slots.size → V.slots[j]? = some (.int (lo8 (cv A j)))) ∧
  ∀ (O n d : String) (w : Value), RoadKit.Fld Z h x O n d w → RoadKit.slotOf Z O n d ≠ RoadKit.slotOf Z ST "value" "[B" → RoadKit.slotOf Z O n d ≠ RoadKit.slotOf Z ST "coder" "B" → RoadKit.Fld Z h' x O n d w
/-- **new String(chars) AT A CALL, IN THE ROAD'S FORM**: for specialBack behind newO: x the fresh String, b the char[] with the cell A -/
theorem back {p : Program} {l : Launch} {e : Env} {R : Room} {s : State} {args : Array Value} {below : List Frame} {len W : Nat} {Z : State} {a0 : Array Value} {h : Heap} (hZ : Z.Warmed39 s.vm) (hw : ∀ d ∈ words, d.before a0 Z = true) {kI : Nat} (wi : (Jvm.Cond.instantiable ST kI).before a0 Z = true)
    {x b : Addr} {A : Cell} {z : Int32} {v0 c0 : Value} (E : RoadKit.Exa Z h x ST) (V : RoadKit.Fld Z h x ST "value" "[B" v0) (C : RoadKit.Fld Z h x ST "coder" "B" c0) (K : RoadKit.Arr Z h b A .char) (hty : Typed .char A) (S : RoadKit.Sta Z h ST "COMPACT_STRINGS" "Z" (.int z)) (hz : ¬ z = 0)
    (l0 : 0 < A.slots.size) (l2 : A.slots.size ≤ 536870912) (hp : ∀ i, i < A.slots.size → ¬ 255 < cv A i) (hfr : 4 ≤ R.frames) (hlo : W + 65 ≤ R.locals) :
    Back l R p e below s args New1.yN len W (fun P a => a = #[.ref x, .ref b] ∧ P.U.heap = h ∧ P.cells + 1 ≤ R.cells ∧ P.slots + A.slots.size ≤ R.slots)
      (fun P _ v B => ∃ L, Q Z x A h v B.U.heap L ∧ B.locs = P.locs ++ L ∧ B.cells = P.cells + 1 ∧ B.slots = P.slots + A.slots.size) := by
  intro m meth c P g ig mk a X hg hsize hdg hW hn hp'
  obtain ⟨rfl, rfl, r1, r2⟩ := hp'
  have al : Z.vm.Alike P.U.vm := hZ.alike.trans X.warmed.alike
  obtain ⟨D, cfV, kV, iV, fV, hD, gV, stV, knV, obV, asV, slV⟩ := id V
  obtain ⟨D', cfC, kC, iC, fC, hD', gC, stC, -, -, asC, slC⟩ := id C
  cases hD.symm.trans hD'
  obtain ⟨D2, kD, e1, e2, e3, e4, e5⟩ := id E
  cases hD.symm.trans e1
  obtain ⟨c2, k2, i1, i2, i3, -⟩ := Cond.instantiable_spec wi
  cases e2.symm.trans i1
  cases e3.symm.trans i2
  obtain ⟨kU, u1, u2⟩ := al.2.2 _ _ e3
  have hB : Blank ST x D P.U := ⟨hD, ⟨knV, fun q hq => by rw [hq] at obV; cases obV⟩, by rw [al.findClass]; exact e2, kU, u1, by rw [u2]; exact i3, by rw [u2]; exact e5 i3⟩
  have F1 : Found ST "value" "[B" fV P.U := ⟨SBG.found_only al ⟨cfV, kV, iV, gV⟩, stV⟩
  have F2 : Found ST "coder" "B" fC P.U := ⟨SBG.found_only al ⟨cfC, kC, iC, gC⟩, stC⟩
  have hA : Ch b A P.U := ⟨⟨K.1, State.isArrayOf_alike al K.2.1, K.2.2, by omega⟩, hty⟩
  have hS : StaticIs P.U ST "COMPACT_STRINGS" "Z" (.int z) := by
    obtain ⟨cfS, iS, kS, fS, st, cS, t1, t2, t3, t4, t5, t6, t7⟩ := S
    exact StaticIs.there (s := { Z with heap := P.U.heap }) ⟨cfS, iS, kS, fS, st, cS, t1, t2, t3, t4, t5, (fun q => by rw [q] at t6; cases t6), t7⟩ al rfl
  obtain ⟨v, B, X', ⟨⟨hv, E', V', q1, q2, q3, q4, q5, q6, q7, q8, q9, q10, q11⟩, hl, hc, hs⟩, st⟩ := New1.pays x D fV fC b A z (tab_of (moved hZ hw)) hfr hlo m meth c P g ig mk _ X hg hsize hdg hW hn ⟨r1, r2, rfl, hB, F1, F2, hA, hS, hz, l0, l2, hp⟩
  have al' : Z.vm.Alike B.U.vm := hZ.alike.trans X'.warmed.alike
  have hsz : E'.slots.size = D.slots.size := by
    obtain ⟨-, -, -, kB, w1, w2, w3⟩ := q1
    obtain ⟨kB', y1, y2⟩ := al'.2.2 _ _ e3
    rw [q2.2.1] at w1
    cases w1.symm.trans y1
    rw [w3, e5 i3, y2]
  refine ⟨v, B, X', ⟨_, ⟨hv, ?_, ⟨by omega, fun y cy hy hn' => q10 y cy (by simpa using hn') hy, fun y cy hy => ?_⟩, q11, ⟨E', _, q1.1, by rw [q2.2.1]; exact e2, by rw [q2.2.1]; exact e3, by rw [q2.1]; exact obV, fun _ => by rw [hsz]; exact e5 i3⟩,
    ⟨E', cfV, kV, iV, fV, q1.1, gV, stV, by rw [q2.1]; exact knV, by rw [q2.1]; exact obV, by rw [q2.2.1]; exact asV, q3⟩, ⟨E', cfC, kC, iC, fC, q1.1, gC, stC, by rw [q2.1]; exact knV, by rw [q2.1]; exact obV, by rw [q2.2.1]; exact asC, q4⟩,
    ⟨V', ⟨q5.1, State.isArrayOf_alike al'.symm q5.2.1, q5.2.2.1⟩, q6, by rw [← al'.findClass]; exact q7, q8, fun j hj => by have := q9 j hj; rwa [Nat.zero_add] at this⟩, fun O n d w F n1 n2 => ?_⟩, hl, hc, hs⟩, st⟩
  · intro y hy
    simp only [List.mem_cons, List.not_mem_nil, or_false] at hy
    rcases hy with rfl | rfl <;> rfl
  · by_cases q : y = x
    · subst q
      cases hD.symm.trans hy
      exact ⟨E', q1.1, q2.2.1, q2.1, hsz⟩
    · exact ⟨cy, q10 y cy q hy, rfl, rfl, rfl⟩
  · obtain ⟨D3, cf, k, i, f, g1, g2, g3, g4, g5, g6, g7⟩ := F
    cases hD.symm.trans g1
    simp only [RoadKit.slotOf, g2, gV, gC, Option.map_some, Option.getD_some] at n1 n2
    exact ⟨E', cf, k, i, f, q1.1, g2, g3, by rw [q2.1]; exact g4, by rw [q2.1]; exact g5, by rw [q2.2.1]; exact g6, by rw [q2.2.2 f.slot (by simp [n1, n2])]; exact g7⟩
end StrChars.Road
namespace StrChars.Road
open Jvm Sem ClassFile Op Lib Jvm.Stand Jvm.Free Jvm.Free.XT
/-- WHAT COMES BACK, the byte[] as a list of values -/
def QA (Z : State) (x : Addr) (zn : Int32) (cs : List Int32) (h : Heap) (v : Option Value) (h' : Heap) (L : List Loc) : Prop := v = none ∧ (∀ y ∈ L, y.base = x) ∧ RoadKit.Keep h h' [x] ∧ h'.size = h.size + 1 ∧ RoadKit.Exa Z h' x ST ∧ RoadKit.Fld Z h' x ST "value" "[B" (.ref h.size) ∧ RoadKit.Fld Z h' x ST "coder" "B" (.int 0) ∧
  (∃ kb, Z.vm.findClass "[B" = some kb ∧ RoadKit.Arv Z h' h.size kb .byte zn (cs.map fun c => .int (lo8 c)) (.int 0)) ∧
  ∀ (O n d : String) (w : Value), RoadKit.Fld Z h x O n d w → RoadKit.slotOf Z O n d ≠ RoadKit.slotOf Z ST "value" "[B" → RoadKit.slotOf Z O n d ≠ RoadKit.slotOf Z ST "coder" "B" → RoadKit.Fld Z h' x O n d w
/-- **new String(chars) AT A CALL, THE ARRAYS AS LISTS**: the char[] at b holds cs, not empty, no char above 255 -/
theorem backArv {p : Program} {l : Launch} {e : Env} {R : Room} {s : State} {args : Array Value} {below : List Frame} {len W : Nat} {Z : State} {a0 : Array Value} {h : Heap} (hZ : Z.Warmed39 s.vm) (hw : ∀ d ∈ words, d.before a0 Z = true) {kI : Nat} (wi : (Jvm.Cond.instantiable ST kI).before a0 Z = true)
    {x b : Addr} {k : ClassId} {zn z : Int32} {cs : List Int32} {dv v0 c0 : Value} (E : RoadKit.Exa Z h x ST) (V : RoadKit.Fld Z h x ST "value" "[B" v0) (C : RoadKit.Fld Z h x ST "coder" "B" c0) (K : RoadKit.Arv Z h b k .char zn (cs.map Value.int) dv) (S : RoadKit.Sta Z h ST "COMPACT_STRINGS" "Z" (.int z)) (hz : ¬ z = 0)
    (hlen : zn.toNatClampNeg = cs.length) (h0 : 0 < cs.length) (hbig : cs.length ≤ 536870912) (hall : ∀ c ∈ cs, ¬ 255 < c) (hfr : 4 ≤ R.frames) (hlo : W + 65 ≤ R.locals) :
    Back l R p e below s args New1.yN len W (fun P a => a = #[.ref x, .ref b] ∧ P.U.heap = h ∧ P.cells + 1 ≤ R.cells ∧ P.slots + cs.length ≤ R.slots)
      (fun P _ v B => ∃ L, QA Z x zn cs h v B.U.heap L ∧ B.locs = P.locs ++ L ∧ B.cells = P.cells + 1 ∧ B.slots = P.slots + cs.length) := by
  obtain ⟨A, K1, K2, K3, K4, K5, K6⟩ := K
  have e : A.slots.size = cs.length := K3.trans hlen
  have hat : ∀ (i : Nat) (hi : i < cs.length), A.slots[i]? = some (.int cs[i]) := fun i hi => by rw [K5 i (by omega)]; simp [List.getD_eq_getElem?_getD, hi]
  have hcv : ∀ (i : Nat) (hi : i < cs.length), cv A i = cs[i] := fun i hi => by unfold cv; rw [hat i hi]
  have hty : Typed .char A := fun i v hv => by
    have hi : i < A.slots.size := (Array.getElem?_eq_some_iff.mp hv).1
    have q := K5 i hi
    rw [hv] at q
    rw [Option.some.inj q]
    exact K6 i hi
  refine Back.mono (back hZ hw wi E V C K1 hty S hz (by omega) (by omega) (fun i hi => by rw [hcv i (by omega)]; exact hall _ (List.getElem_mem _)) hfr hlo) (fun P a hp => ⟨hp.1, hp.2.1, hp.2.2.1, by rw [e]; exact hp.2.2.2⟩) (fun P a v B hp hq => ?_)
  obtain ⟨L, ⟨q1, q2, q3, q4, q5, q6, q7, ⟨V', v1, v2, v3, v4, v5⟩, q9⟩, hl, hc, hs⟩ := hq
  refine ⟨L, ⟨q1, q2, q3, q4, q5, q6, q7, ⟨V'.cls, v3, V', v1, rfl, by rw [v4, e, hlen], K4, fun i hi => ?_, fun i hi => ?_⟩, q9⟩, hl, hc, by rw [hs, e]⟩
  · have hi' : i < cs.length := by omega
    rw [v5 i (by omega), hcv i hi']; simp [List.getD_eq_getElem?_getD, hi']
  · have hi' : i < cs.length := by omega
    simp only [List.getD_eq_getElem?_getD, List.getElem?_map, List.getElem?_eq_getElem hi', Option.map_some, Option.getD_some]
    exact fits_lo8 _
end StrChars.Road
namespace StrChars.Road
open Jvm Sem ClassFile Op Lib Jvm.Stand Jvm.Free Jvm.Free.XT
/-- WHAT COMES BACK, in the writer's own shape -/
def QV (Z : State) (x : Addr) (N : Int32) (bs : List Int32) (h : Heap) (n0 : Nat) (v : Option Value) (h' : Heap) (L : List Loc) : Prop := v = none ∧ RoadKit.Fr n0 L ∧ RoadKit.Keep h h' [x] ∧ RoadKit.Exa Z h' x ST ∧ RoadKit.Fld Z h' x ST "coder" "B" (.int 0) ∧
  ∃ (t : Addr) (kb : ClassId), n0 ≤ t ∧ h.size ≤ t ∧ ¬ t = x ∧ RoadKit.Fld Z h' x ST "value" "[B" (.ref t) ∧ RoadKit.Arv Z h' t kb .byte N (bs.map Value.int) (.int 0)
/-- **new String(chars) AT A CALL, FOR THE WRITER**: a char[] of n known ints, each 0 to 255 -/
theorem backV {p : Program} {l : Launch} {e : Env} {R : Room} {s : State} {args : Array Value} {below : List Frame} {len W : Nat} {Z : State} {a0 : Array Value} {h : Heap} (hZ : Z.Warmed39 s.vm) (hw : ∀ d ∈ words, d.before a0 Z = true) {kI : Nat} (wi : (Jvm.Cond.instantiable ST kI).before a0 Z = true)
    {x b : Addr} {kC : ClassId} {cs bs : List Int32} {d v0 c0 : Value} {z N : Int32} {n n0 : Nat} (hx0 : n0 ≤ x) (hh0 : n0 ≤ h.size) (E : RoadKit.Exa Z h x ST) (V : RoadKit.Fld Z h x ST "value" "[B" v0) (C : RoadKit.Fld Z h x ST "coder" "B" c0) (K : RoadKit.Arv Z h b kC .char N (cs.map Value.int) d) (S : RoadKit.Sta Z h ST "COMPACT_STRINGS" "Z" (.int z)) (hz : ¬ z = 0)
    (hn : cs.length = n) (hN : N = Int32.ofNat n) (l0 : 0 < n) (l2 : n ≤ 4000) (hp : ∀ c ∈ cs, ¬ c < 0 ∧ ¬ (255 : Int32) < c) (hb : bs = cs.map (fun c => c.toInt8.toInt32)) (hfr : 4 ≤ R.frames) (hlo : W + 65 ≤ R.locals) :
    Back l R p e below s args (⟨"java/lang/String", "<init>", "([C)V"⟩ : MethodName) len W (fun P a => a = #[.ref x, .ref b] ∧ P.U.heap = h ∧ P.cells + 1 ≤ R.cells ∧ P.slots + n ≤ R.slots)
      (fun P _ v B => ∃ L, QV Z x N bs h n0 v B.U.heap L ∧ B.locs = P.locs ++ L ∧ B.cells = P.cells + 1 ∧ B.slots = P.slots + n) := by
  subst hn hN hb
  refine Back.mono (backArv hZ hw wi E V C K S hz (n32 (by omega)) l0 (by omega) (fun c hc => (hp c hc).2) hfr hlo) (fun P a hp => hp) (fun P a v B hp hq => ?_)
  obtain ⟨L, ⟨q1, q2, q3, q4, q5, q6, q7, ⟨kb, v1, v2⟩, q9⟩, hl, hc, hs⟩ := hq
  exact ⟨L, ⟨q1, fun y hy => by rw [q2 y hy]; exact hx0, q3, q5, q7, h.size, kb, hh0, Nat.le_refl _, Nat.ne_of_gt E.lt, q6, by rw [List.map_map]; exact v2⟩, hl, hc, hs⟩
end StrChars.Road
namespace StrChars
open Jvm Sem ClassFile Op Lib Jvm.Stand Jvm.Free.XT Jvm.Free.ALB Jvm.Free.JM Jvm.Free
open Jvm.Lib.Cold (StaticIs)
def hi8 (x : Int32) : Int32 := lo8 (x >>> ((8 : Int32) &&& 31))
/-- what StringUTF16.getChar makes of two bytes -/
def pairCh (u v : Int32) : Int32 := (((u &&& 255) <<< ((0 : Int32) &&& 31)) ||| ((v &&& 255) <<< ((8 : Int32) &&& 31))).toUInt32.toUInt16.toUInt32.toInt32
theorem shr0 (c : Int32) : c >>> ((0 : Int32) &&& 31) = c := by
  have e : ((0 : Int32) &&& 31) = 0 := by decide
  rw [e]
  apply Int32.toBitVec_inj.mp
  rw [Int32.toBitVec_shiftRight]
  have e1 : ((0 : Int32).toBitVec.smod 32) = 0#32 := by decide
  rw [e1, BitVec.sshiftRight_eq']
  exact BitVec.sshiftRight_zero
theorem lo8_and (x : Int32) : (lo8 x &&& 255).toBitVec.toNat = x.toBitVec.toNat % 256 := by
  have h : (lo8 x).toBitVec = (x.toBitVec.signExtend 8).signExtend 32 := by rw [lo8, Int8.toBitVec_toInt32, Int32.toBitVec_toInt8]
  rw [Int32.toBitVec_and, BitVec.toNat_and, h]
  have e : ((x.toBitVec.signExtend 8).signExtend 32).toNat % 256 = x.toBitVec.toNat % 256 := by
    rw [BitVec.toNat_signExtend]
    have hlt := x.toBitVec.isLt
    simp only [BitVec.toNat_setWidth, BitVec.toNat_signExtend]
    split <;> split <;> omega
  rw [← e]
  exact Nat.and_two_pow_sub_one_eq_mod _ 8
theorem pair_says {c : Int32} (h0 : ¬ c < 0) (h1 : ¬ 65535 < c) : pairCh (lo8 c) (hi8 c) = c := by
  rw [Int32.lt_iff_toInt_lt] at h0 h1
  have e0 : (0 : Int32).toInt = 0 := rfl
  have e1 : (65535 : Int32).toInt = 65535 := rfl
  have hc : c.toInt = c.toBitVec.toNat := by
    have := c.toBitVec.isLt
    have e : c.toInt = c.toBitVec.toInt := rfl
    rw [e] at h0 h1
    rw [e]
    rw [BitVec.toInt_eq_toNat_cond] at h0 h1 ⊢
    split at h0 <;> split <;> omega
  have hn : c.toBitVec.toNat < 65536 := by omega
  have a1 := lo8_and c
  have a2 : (hi8 c &&& 255).toBitVec.toNat = c.toBitVec.toNat / 256 := by
    rw [hi8, lo8_and]
    have e : ((8 : Int32) &&& 31) = 8 := by decide
    rw [e, Int32.toBitVec_shiftRight]
    have e2 : ((8 : Int32).toBitVec.smod 32) = 8#32 := by decide
    rw [e2, BitVec.sshiftRight_eq', BitVec.toNat_sshiftRight_of_msb_false (by rw [BitVec.msb_eq_false_iff_two_mul_lt]; omega)]
    show c.toBitVec.toNat >>> 8 % 256 = _
    rw [Nat.shiftRight_eq_div_pow]
    omega
  unfold pairCh
  apply Int32.toBitVec_inj.mp
  apply BitVec.eq_of_toNat_eq
  have f0 : ((0 : Int32) &&& 31) = 0 := by decide
  have f8 : ((8 : Int32) &&& 31) = 8 := by decide
  rw [f0, f8]
  have g : (((lo8 c &&& 255) <<< (0 : Int32)) ||| ((hi8 c &&& 255) <<< (8 : Int32))).toBitVec.toNat = c.toBitVec.toNat := by
    rw [Int32.toBitVec_or, Int32.toBitVec_shiftLeft, Int32.toBitVec_shiftLeft]
    have s0 : ((0 : Int32).toBitVec.smod 32) = 0#32 := by decide
    have s8 : ((8 : Int32).toBitVec.smod 32) = 8#32 := by decide
    rw [s0, s8, BitVec.toNat_or]
    simp only [BitVec.shiftLeft_eq', BitVec.toNat_shiftLeft, a1, a2]
    show (c.toBitVec.toNat % 256) <<< 0 % 2 ^ 32 ||| (c.toBitVec.toNat / 256) <<< 8 % 2 ^ 32 = _
    rw [Nat.shiftLeft_zero, Nat.mod_eq_of_lt (show c.toBitVec.toNat % 256 < 2 ^ 32 by omega), Nat.mod_eq_of_lt (show (c.toBitVec.toNat / 256) <<< 8 < 2 ^ 32 by rw [Nat.shiftLeft_eq]; omega), Nat.or_comm, ← Nat.shiftLeft_add_eq_or_of_lt (by omega), Nat.shiftLeft_eq]
    omega
  show BitVec.toNat (((((lo8 c &&& 255) <<< (0 : Int32)) ||| ((hi8 c &&& 255) <<< (8 : Int32))).toBitVec.setWidth 16).setWidth 32) = _
  rw [BitVec.toNat_setWidth, BitVec.toNat_setWidth, g]
  omega
end StrChars
namespace StrChars
open Jvm Sem ClassFile Op Lib Jvm.Stand Jvm.Free.XT Jvm.Free.ALB Jvm.Free.JM Jvm.Free
open Jvm.Lib.Cold (StaticIs)
theorem shr1 {n : Nat} (h : 2 * n < 2 ^ 31) : Int32.ofNat (2 * n) >>> ((1 : Int32) &&& 31) = Int32.ofNat n := by
  have e : ((1 : Int32) &&& 31) = 1 := by decide
  rw [e]
  apply Int32.toBitVec_inj.mp
  rw [Int32.toBitVec_shiftRight]
  have e1 : ((1 : Int32).toBitVec.smod 32) = 1#32 := by decide
  have hm : (BitVec.ofNat 32 (2 * n)).toNat = 2 * n := by rw [BitVec.toNat_ofNat, Nat.mod_eq_of_lt (by omega)]
  rw [e1, BitVec.sshiftRight_eq']
  apply BitVec.eq_of_toNat_eq
  show ((BitVec.ofNat 32 (2 * n)).sshiftRight 1).toNat = (BitVec.ofNat 32 n).toNat
  rw [BitVec.toNat_sshiftRight_of_msb_false (by rw [BitVec.msb_eq_false_iff_two_mul_lt, hm]; omega), hm, BitVec.toNat_ofNat, Nat.shiftRight_eq_div_pow]
  omega
/-- charAt's cast of a byte read back -/
def chr8 (u : Int32) : Int32 := (u &&& 255).toUInt32.toUInt16.toUInt32.toInt32
theorem chr8_lo8 {c : Int32} (h0 : ¬ c < 0) (h1 : ¬ 255 < c) : chr8 (lo8 c) = c := by
  have t : ∀ k : Fin 256, (Int32.ofNat k.val).toUInt32.toUInt16.toUInt32.toInt32 = Int32.ofNat k.val := by decide +kernel
  unfold chr8
  rw [lo8_mask h0 h1]
  rw [Int32.lt_iff_toInt_lt] at h0 h1
  have e0 : (0 : Int32).toInt = 0 := rfl
  have e1 : (255 : Int32).toInt = 255 := rfl
  obtain ⟨k, hk⟩ : ∃ k : Nat, c.toInt = k := ⟨c.toInt.toNat, by omega⟩
  have hx : c = Int32.ofNat k := Int32.toInt_inj.mp (by rw [hk, Int32.toInt_ofNat_small (by omega)])
  rw [hx]
  exact t ⟨k, by omega⟩
theorem narrow_ch {c : Int32} (h0 : ¬ c < 0) (h1 : ¬ 65535 < c) : narrow .char (.int c) = .int c := by
  have q : narrow .char (.int (pairCh (lo8 c) (hi8 c))) = .int (pairCh (lo8 c) (hi8 c)) := narrow_c _
  rwa [pair_says h0 h1] at q
/-- the array's cell V codes the n chars f 0 .. f (n - 1) by the coder cd, as the JDK does: coder 1 just where some char is above 255 -/
def Cod (cd : Int32) (n : Nat) (f : Nat → Int32) (V : Cell) : Prop := (cd = 0 ∧ V.slots.size = n ∧ ∀ j, j < n → V.slots[j]? = some (.int (lo8 (f j))) ∧ ¬ 255 < f j) ∨ (cd = 1 ∧ V.slots.size = 2 * n ∧ (∀ j, j < n → V.slots[2 * j]? = some (.int (lo8 (f j))) ∧ V.slots[2 * j + 1]? = some (.int (hi8 (f j)))) ∧ ∃ j, j < n ∧ 255 < f j)
theorem Cod.cd {cd : Int32} {n : Nat} {f : Nat → Int32} {V : Cell} (h : Cod cd n f V) : cd = 0 ∨ cd = 1 := h.imp (fun q => q.1) fun q => q.1
theorem Cod.len {cd : Int32} {n : Nat} {f : Nat → Int32} {V : Cell} (h : Cod cd n f V) (hs : V.slots.size < 2 ^ 31) : Int32.ofNat V.slots.size >>> (cd &&& 31) = Int32.ofNat n := by
  rcases h with ⟨rfl, h, -⟩ | ⟨rfl, h, -⟩
  · rw [shr0, h]
  · rw [h, shr1 (by omega)]
/-- **x is a String of the n chars f 0 .. f (n - 1)**, Latin-1 or UTF-16; its array at t has the cell V -/
def Txt (x t : Addr) (V : Cell) (cd : Int32) (n : Nat) (f : Nat → Int32) (U : State) : Prop := Exact "java/lang/String" x U ∧ Has x "java/lang/String" "value" "[B" (.ref t) U ∧ Has x "java/lang/String" "coder" "B" (.int cd) U ∧ XT.Arr .byte t V U ∧ Cod cd n f V ∧ ∀ j, j < n → ¬ f j < 0 ∧ ¬ 65535 < f j
theorem Txt.mv {x t : Addr} {V : Cell} {cd : Int32} {n : Nat} {f : Nat → Int32} {U U' : State} (h : Txt x t V cd n f U) (hal : U.vm.Alike U'.vm) (hh : U'.heap = U.heap) : Txt x t V cd n f U' := ⟨h.1.mv hal hh, h.2.1.mv hal hh, h.2.2.1.mv hal hh, h.2.2.2.1.mv hal hh, h.2.2.2.2⟩
namespace Cdr
def yN : MethodName := ⟨"java/lang/String", "coder", "()B"⟩
abbrev yB : ByteArray := jdk_42_method_152_code
theorem d0 : decode yB 0 = .ok (.getstatic 38, 3) := by decide +kernel
theorem d3 : decode yB 3 = .ok (.ifCond (.eq) 10, 3) := by decide +kernel
theorem d6 : decode yB 6 = .ok (.aload_n 0, 1) := by decide +kernel
theorem d7 : decode yB 7 = .ok (.getfield 15, 3) := by decide +kernel
theorem d10 : decode yB 10 = .ok (.goto 4, 3) := by decide +kernel
theorem d14 : decode yB 14 = .ok (.ireturn, 1) := by decide +kernel
def site : List Cond := [.fieldLink "java/lang/String" 38 "java/lang/String" "COMPACT_STRINGS" "Z", .fieldLink "java/lang/String" 15 "java/lang/String" "coder" "B"]
def tab : Cond := tabOf yN yB 1 (some .byte) site
def P (x : Addr) (cd z : Int32) (args : Array Value) (s : State) : Prop := args = #[.ref x] ∧ Has x "java/lang/String" "coder" "B" (.int cd) s ∧ (cd = 0 ∨ cd = 1) ∧ StaticIs s "java/lang/String" "COMPACT_STRINGS" "Z" (.int z) ∧ ¬ z = 0
def E (cd : Int32) (r : Option Value) (s u : State) : Prop := XT.PureE (some (.int cd)) r s u
theorem law (l : Launch) (x : Addr) (cd z : Int32) : Law l yN 1 0 0 0 yB 1 (some .byte) site (P x cd z) (E cd) [] 0 0 := by
  refine Law.of_walk (plainFor_of_name (by decide +kernel)) (by decide +kernel) (by decide +kernel) (by decide) (fun _ _ h => by rw [h.1]; rfl) (fun _ U U' hal hh h => ⟨h.1, h.2.1.mv hal hh, h.2.2.1, h.2.2.2.1.there hal hh, h.2.2.2.2⟩) (fun r U U' V V' h1 hal h2 h => XT.PureE.mv r U U' V V' h1 hal h2 h) ?_
  intro p e s m args below meth c s₁ X0 hexec hbytes hml hret hlk hnm hown hh0 W hP
  obtain ⟨rfl, hx, hc, s1, hz⟩ := hP
  have c1 : Steps p.tables e below (s₁.setTop (entryFrame m #[.ref x] 1)) (s₁.setTop (mkF m 0 #[.val (.ref x)] [])) := entry rfl
  obtain ⟨T2, X2, q2, st2⟩ := X0.sget hexec hown (wk W (.fieldLink "java/lang/String" 38 "java/lang/String" "COMPACT_STRINGS" "Z")) s1 (fun _ _ h => by rw [hh0]; exact h) (g := (mkF m 0 #[.val (.ref x)] [])) rfl (hb hbytes d0)
  have hh2 := q2.trans hh0
  have c3 : Steps p.tables e below (s₁.setTop (entryFrame m #[.ref x] 1)) (T2.setTop (mkF m 7 #[.val (.ref x)] [.ref x])) := (c1.trans (st2 _ (Steps.refl _))).trans (by
    refine XS.ifNo X2.here hexec rfl (hb hbytes d3) rfl (i0_eq_f hz) ?_
    refine XS.aloadN X2.here hexec rfl (hb hbytes d6) rfl rfl ?_
    exact Steps.refl _)
  obtain ⟨T4, X4, q4, st4⟩ := X2.hget hexec hown (wk W (.fieldLink "java/lang/String" 15 "java/lang/String" "coder" "B")) (hx.mv X2.warmed.alike hh2) (g := (mkF m 7 #[.val (.ref x)] [.ref x])) rfl (rest := []) rfl (hb hbytes d7)
  have c5 : Steps p.tables e below (s₁.setTop (entryFrame m #[.ref x] 1)) (T4.setTop (mkF m 14 #[.val (.ref x)] [.int cd])) := (c3.trans (st4 _ (Steps.refl _))).trans (by
    refine XS.goto X4.here hexec rfl (pc0 := 10) rfl (hb hbytes d10) (by decide) rfl ?_
    exact Steps.refl _)
  exact ⟨T4, some (.int cd), _, _, _, X4, rfl, rfl, rfl, (fun h => by cases h), ⟨rfl, q4.trans hh2⟩, fun fs hl => c5.trans (X4.ireturnOut hexec hret (by rcases hc with rfl | rfl <;> rfl) (Or.inr (Or.inr (Or.inl rfl))) (hb hbytes d14) hl)⟩
end Cdr
namespace Len
def yN : MethodName := ⟨"java/lang/String", "length", "()I"⟩
abbrev yB : ByteArray := jdk_42_method_54_code
theorem d0 : decode yB 0 = .ok (.aload_n 0, 1) := by decide +kernel
theorem d1 : decode yB 1 = .ok (.getfield 9, 3) := by decide +kernel
theorem d4 : decode yB 4 = .ok (.arraylength, 1) := by decide +kernel
theorem d5 : decode yB 5 = .ok (.aload_n 0, 1) := by decide +kernel
theorem d6 : decode yB 6 = .ok (.invokevirtual 335, 3) := by decide +kernel
theorem d9 : decode yB 9 = .ok (.ishr, 1) := by decide +kernel
theorem d10 : decode yB 10 = .ok (.ireturn, 1) := by decide +kernel
def site : List Cond := [.fieldLink "java/lang/String" 9 "java/lang/String" "value" "[B", Cdr.tab] ++ virtW "java/lang/String" 335 "java/lang/String" Cdr.yN Cdr.yN
def tab : Cond := tabOf yN yB 1 (some .int) site
def P (x t : Addr) (V : Cell) (cd : Int32) (n : Nat) (f : Nat → Int32) (z : Int32) (args : Array Value) (s : State) : Prop := args = #[.ref x] ∧ Txt x t V cd n f s ∧ StaticIs s "java/lang/String" "COMPACT_STRINGS" "Z" (.int z) ∧ ¬ z = 0
def E (n : Nat) (r : Option Value) (s u : State) : Prop := XT.PureE (some (.int (Int32.ofNat n))) r s u
/-- length() of a String of n chars, in either coding -/
theorem law (l : Launch) (x t : Addr) (V : Cell) (cd : Int32) (n : Nat) (f : Nat → Int32) (z : Int32) : Law l yN 1 0 1 13 yB 1 (some .int) site (P x t V cd n f z) (E n) [] 0 0 := by
  refine Law.of_walk (plainFor_of_name (by decide +kernel)) (by decide +kernel) (by decide +kernel) (by decide) (fun _ _ h => by rw [h.1]; rfl) (fun _ U U' hal hh h => ⟨h.1, h.2.1.mv hal hh, h.2.2.1.there hal hh, h.2.2.2⟩) (fun r U U' V V' h1 hal h2 h => XT.PureE.mv r U U' V V' h1 hal h2 h) ?_
  intro p e s m args below meth c s₁ X0 hexec hbytes hml hret hlk hnm hown hh0 W hP
  obtain ⟨rfl, hx, s1, hz⟩ := hP
  have v31 := hx.2.2.2.1.2.2.2
  have c1 : Steps p.tables e below (s₁.setTop (entryFrame m #[.ref x] 1)) (s₁.setTop (mkF m 1 #[.val (.ref x)] [.ref x])) := Steps.trans (entry rfl) (by
    show Steps p.tables e below (s₁.setTop (mkF m 0 #[.val (.ref x)] [])) _
    refine XS.aloadN X0.here hexec rfl (hb hbytes d0) rfl rfl ?_
    exact Steps.refl _)
  obtain ⟨T2, X2, q2, st2⟩ := X0.hget hexec hown (wk W (.fieldLink "java/lang/String" 9 "java/lang/String" "value" "[B")) (hx.mv X0.warmed.alike hh0).2.1 (g := (mkF m 1 #[.val (.ref x)] [.ref x])) rfl (rest := []) rfl (hb hbytes d1)
  have hh2 := q2.trans hh0
  have hx2 := hx.mv X2.warmed.alike hh2
  have c3 : Steps p.tables e below (s₁.setTop (entryFrame m #[.ref x] 1)) (T2.setTop (mkF m 6 #[.val (.ref x)] [.ref x, .int (Int32.ofNat V.slots.size)])) := (c1.trans (st2 _ (Steps.refl _))).trans (by
    refine X2.alen hexec hx2.2.2.2.1 rfl rfl (hb hbytes d4) ?_
    refine XS.aloadN X2.here hexec rfl (hb hbytes d5) rfl rfl ?_
    exact Steps.refl _)
  obtain ⟨v4, T4, X4, E4, g4⟩ := X2.callV hexec (Cdr.law l x cd z) hown (wks W (virtW "java/lang/String" 335 "java/lang/String" Cdr.yN Cdr.yN)) rfl (by decide) (wk W Cdr.tab) (W := 1) (Nat.le_of_ble_eq_true rfl) (Nat.le_of_ble_eq_true rfl) (Nat.le_refl _) (Nat.le_refl _) (hx2.1.fc X2.warmed.alike) hx2.1.is (g := (mkF m 6 #[.val (.ref x)] [.ref x, .int (Int32.ofNat V.slots.size)])) rfl (by rw [hml]; rfl) c3 (argsL := []) (rest := [.int (Int32.ofNat V.slots.size)]) rfl rfl (by show 2 * 0 + (1 + 0) ≤ _; decide) (hb hbytes d6) (⟨rfl, hx2.2.2.1, hx.2.2.2.2.1.cd, s1.there X2.warmed.alike hh2, hz⟩)
  obtain ⟨rfl, q4⟩ := E4
  have c5 : Steps p.tables e below (s₁.setTop (entryFrame m #[.ref x] 1)) (T4.setTop (mkF m 10 #[.val (.ref x)] [.int (Int32.ofNat V.slots.size >>> (cd &&& 31))])) := Steps.trans g4 (by
    refine ishr X4.here hexec rfl (hb hbytes d9) rfl ?_
    exact Steps.refl _)
  rw [hx.2.2.2.2.1.len v31] at c5
  exact ⟨T4, some (.int (Int32.ofNat n)), _, _, _, X4, rfl, rfl, rfl, (fun h => by cases h), ⟨rfl, q4.trans hh2⟩, fun fs hl => c5.trans (X4.ireturnOut hexec hret rfl (Or.inl rfl) (hb hbytes d10) hl)⟩
theorem pays {l : Launch} {R : Room} {p : Program} {e : Env} {below : List Frame} {s : State} {sargs : Array Value} {len W : Nat} (x t : Addr) (V : Cell) (cd : Int32) (n : Nat) (f : Nat → Int32) (z : Int32) (htab : tab.before sargs s = true) (hfr : 2 ≤ R.frames) (hlo : W + 25 ≤ R.locals) :
    Back l R p e below s sargs yN len W (fun A₁ a₁ => A₁.cells + 0 ≤ R.cells ∧ A₁.slots + 0 ≤ R.slots ∧ P x t V cd n f z a₁ A₁.U) (fun A₁ _ v₁ B₁ => E n v₁ A₁.U B₁.U ∧ B₁.locs = A₁.locs ++ [] ∧ B₁.cells = A₁.cells + 0 ∧ B₁.slots = A₁.slots + 0) :=
  (law l x t V cd n f z).pays htab hfr (by omega)
end Len
namespace IsL
def yN : MethodName := ⟨"java/lang/String", "isLatin1", "()Z"⟩
abbrev yB : ByteArray := jdk_42_method_154_code
theorem d0 : decode yB 0 = .ok (.getstatic 38, 3) := by decide +kernel
theorem d3 : decode yB 3 = .ok (.ifCond (.eq) 14, 3) := by decide +kernel
theorem d6 : decode yB 6 = .ok (.aload_n 0, 1) := by decide +kernel
theorem d7 : decode yB 7 = .ok (.getfield 15, 3) := by decide +kernel
theorem d10 : decode yB 10 = .ok (.ifCond (.ne) 7, 3) := by decide +kernel
theorem d13 : decode yB 13 = .ok (.iconst 1, 1) := by decide +kernel
theorem d14 : decode yB 14 = .ok (.goto 4, 3) := by decide +kernel
theorem d17 : decode yB 17 = .ok (.iconst 0, 1) := by decide +kernel
theorem d18 : decode yB 18 = .ok (.ireturn, 1) := by decide +kernel
def site : List Cond := [.fieldLink "java/lang/String" 38 "java/lang/String" "COMPACT_STRINGS" "Z", .fieldLink "java/lang/String" 15 "java/lang/String" "coder" "B"]
def tab : Cond := tabOf yN yB 1 (some .boolean) site
def P (x : Addr) (cd z : Int32) (args : Array Value) (s : State) : Prop := args = #[.ref x] ∧ Has x "java/lang/String" "coder" "B" (.int cd) s ∧ (cd = 0 ∨ cd = 1) ∧ StaticIs s "java/lang/String" "COMPACT_STRINGS" "Z" (.int z) ∧ ¬ z = 0
def E (cd : Int32) (r : Option Value) (s u : State) : Prop := XT.PureE (some (.int (1 - cd))) r s u
theorem law (l : Launch) (x : Addr) (cd z : Int32) : Law l yN 1 0 0 0 yB 1 (some .boolean) site (P x cd z) (E cd) [] 0 0 := by
  refine Law.of_walk (plainFor_of_name (by decide +kernel)) (by decide +kernel) (by decide +kernel) (by decide) (fun _ _ h => by rw [h.1]; rfl) (fun _ U U' hal hh h => ⟨h.1, h.2.1.mv hal hh, h.2.2.1, h.2.2.2.1.there hal hh, h.2.2.2.2⟩) (fun r U U' V V' h1 hal h2 h => XT.PureE.mv r U U' V V' h1 hal h2 h) ?_
  intro p e s m args below meth c s₁ X0 hexec hbytes hml hret hlk hnm hown hh0 W hP
  obtain ⟨rfl, hx, hc, s1, hz⟩ := hP
  have c1 : Steps p.tables e below (s₁.setTop (entryFrame m #[.ref x] 1)) (s₁.setTop (mkF m 0 #[.val (.ref x)] [])) := entry rfl
  obtain ⟨T2, X2, q2, st2⟩ := X0.sget hexec hown (wk W (.fieldLink "java/lang/String" 38 "java/lang/String" "COMPACT_STRINGS" "Z")) s1 (fun _ _ h => by rw [hh0]; exact h) (g := (mkF m 0 #[.val (.ref x)] [])) rfl (hb hbytes d0)
  have hh2 := q2.trans hh0
  have c3 : Steps p.tables e below (s₁.setTop (entryFrame m #[.ref x] 1)) (T2.setTop (mkF m 7 #[.val (.ref x)] [.ref x])) := (c1.trans (st2 _ (Steps.refl _))).trans (by
    refine XS.ifNo X2.here hexec rfl (hb hbytes d3) rfl (i0_eq_f hz) ?_
    refine XS.aloadN X2.here hexec rfl (hb hbytes d6) rfl rfl ?_
    exact Steps.refl _)
  obtain ⟨T4, X4, q4, st4⟩ := X2.hget hexec hown (wk W (.fieldLink "java/lang/String" 15 "java/lang/String" "coder" "B")) (hx.mv X2.warmed.alike hh2) (g := (mkF m 7 #[.val (.ref x)] [.ref x])) rfl (rest := []) rfl (hb hbytes d7)
  have c5 : Steps p.tables e below (s₁.setTop (entryFrame m #[.ref x] 1)) (T4.setTop (mkF m 10 #[.val (.ref x)] [.int cd])) := c3.trans (st4 _ (Steps.refl _))
  have c6 : Steps p.tables e below (s₁.setTop (entryFrame m #[.ref x] 1)) (T4.setTop (mkF m 18 #[.val (.ref x)] [.int (1 - cd)])) := by
    rcases hc with rfl | rfl
    · exact c5.trans (by
        refine XS.ifNo X4.here hexec rfl (hb hbytes d10) rfl (i0_ne_f rfl) ?_
        refine iconstV X4.here hexec rfl 1 (hb hbytes d13) (by decide) ?_
        refine XS.goto X4.here hexec rfl (pc0 := 14) rfl (hb hbytes d14) (by decide) rfl ?_
        exact Steps.refl _)
    · exact c5.trans (by
        refine XS.ifYes X4.here hexec rfl (pc0 := 10) rfl (hb hbytes d10) rfl (i0_ne_t (by decide)) (by decide) rfl ?_
        refine iconstV X4.here hexec rfl 0 (hb hbytes d17) (by decide) ?_
        exact Steps.refl _)
  exact ⟨T4, some (.int (1 - cd)), _, _, _, X4, rfl, rfl, rfl, (fun h => by cases h), ⟨rfl, q4.trans hh2⟩, fun fs hl => c6.trans (X4.ireturnOut hexec hret (by rcases hc with rfl | rfl <;> rfl) (Or.inr (Or.inl rfl)) (hb hbytes d18) hl)⟩
end IsL
namespace LChA
def yN : MethodName := ⟨"java/lang/StringLatin1", "charAt", "([BI)C"⟩
abbrev yB : ByteArray := jdk_43_method_2_code
theorem d0 : decode yB 0 = .ok (.iload_n 1, 1) := by decide +kernel
theorem d1 : decode yB 1 = .ok (.aload_n 0, 1) := by decide +kernel
theorem d2 : decode yB 2 = .ok (.arraylength, 1) := by decide +kernel
theorem d3 : decode yB 3 = .ok (.invokestatic 9, 3) := by decide +kernel
theorem d6 : decode yB 6 = .ok (.aload_n 0, 1) := by decide +kernel
theorem d7 : decode yB 7 = .ok (.iload_n 1, 1) := by decide +kernel
theorem d8 : decode yB 8 = .ok (.baload, 1) := by decide +kernel
theorem d9 : decode yB 9 = .ok (.sipush 255, 3) := by decide +kernel
theorem d12 : decode yB 12 = .ok (.iand, 1) := by decide +kernel
theorem d13 : decode yB 13 = .ok (.i2c, 1) := by decide +kernel
theorem d14 : decode yB 14 = .ok (.ireturn, 1) := by decide +kernel
def site : List Cond := [JO.Str_checkIndex.tab] ++ staticW "java/lang/StringLatin1" 9 JO.Str_checkIndex.yN
def tab : Cond := tabOf yN yB 2 (some .char) site
def P (t : Addr) (V : Cell) (i : Nat) (u : Int32) (fm : Value) (args : Array Value) (s : State) : Prop := args = #[.ref t, .int (Int32.ofNat i)] ∧ XT.Arr .byte t V s ∧ V.slots[i]? = some (.int u) ∧ (StaticIs s "jdk/internal/util/Preconditions" "SIOOBE_FORMATTER" "Ljava/util/function/BiFunction;" fm ∧ fm.isRef = true)
def E (u : Int32) (r : Option Value) (s w : State) : Prop := XT.PureE (some (.int (chr8 u))) r s w
theorem law (l : Launch) (t : Addr) (V : Cell) (i : Nat) (u : Int32) (fm : Value) : Law l yN 2 2 2 27 yB 2 (some .char) site (P t V i u fm) (E u) [] 0 0 := by
  refine Law.of_walk (plainFor_of_name (by decide +kernel)) (by decide +kernel) (by decide +kernel) (by decide) (fun _ _ h => by rw [h.1]; rfl) (fun _ U U' hal hh h => ⟨h.1, h.2.1.mv hal hh, h.2.2.1, h.2.2.2.1.there hal hh, h.2.2.2.2⟩) (fun r U U' V V' h1 hal h2 h => XT.PureE.mv r U U' V V' h1 hal h2 h) ?_
  intro p e s m args below meth c s₁ X0 hexec hbytes hml hret hlk hnm hown hh0 W hP
  obtain ⟨rfl, hV, hu, s1, rf⟩ := hP
  have v31 := hV.2.2.2
  have hi : i < V.slots.size := (Array.getElem?_eq_some_iff.mp hu).1
  have c1 : Steps p.tables e below (s₁.setTop (entryFrame m #[.ref t, .int (Int32.ofNat i)] 2)) (s₁.setTop (mkF m 0 #[.val (.ref t), .val (.int (Int32.ofNat i))] [])) := entry rfl
  have c2 : Steps p.tables e below (s₁.setTop (entryFrame m #[.ref t, .int (Int32.ofNat i)] 2)) (s₁.setTop (mkF m 3 #[.val (.ref t), .val (.int (Int32.ofNat i))] [.int (Int32.ofNat V.slots.size), .int (Int32.ofNat i)])) := c1.trans (by
    refine XS.iloadN X0.here hexec rfl (hb hbytes d0) rfl ?_
    refine XS.aloadN X0.here hexec rfl (hb hbytes d1) rfl rfl ?_
    refine X0.alen hexec (hV.mv X0.warmed.alike hh0) rfl rfl (hb hbytes d2) ?_
    exact Steps.refl _)
  obtain ⟨v3, T3, X3, E3, g3⟩ := X0.callS hexec (JO.Str_checkIndex.law l (Int32.ofNat i) (Int32.ofNat V.slots.size) fm) hown (wks W (staticW "java/lang/StringLatin1" 9 JO.Str_checkIndex.yN)) (wk W JO.Str_checkIndex.tab) (W := 0) (Nat.le_of_ble_eq_true rfl) (Nat.le_of_ble_eq_true rfl) (Nat.le_refl _) (Nat.le_refl _) (g := (mkF m 3 #[.val (.ref t), .val (.int (Int32.ofNat i))] [.int (Int32.ofNat V.slots.size), .int (Int32.ofNat i)])) rfl (by rw [hml]; rfl) c2 (argsL := [.int (Int32.ofNat i), .int (Int32.ofNat V.slots.size)]) (rest := []) rfl rfl (by show 2 * 0 + 0 ≤ _; decide) (hb hbytes d3) (⟨rfl, rf, s1.there X0.warmed.alike hh0, Int32.ofNat_not_neg (by omega), lt32 v31 hi⟩)
  obtain ⟨rfl, q3⟩ := E3
  have hh3 := q3.trans hh0
  have c4 : Steps p.tables e below (s₁.setTop (entryFrame m #[.ref t, .int (Int32.ofNat i)] 2)) (T3.setTop (mkF m 14 #[.val (.ref t), .val (.int (Int32.ofNat i))] [.int (chr8 u)])) := Steps.trans g3 (by
    refine XS.aloadN X3.here hexec rfl (hb hbytes d6) rfl rfl ?_
    refine XS.iloadN X3.here hexec rfl (hb hbytes d7) rfl ?_
    refine X3.aget hexec (hV.mv X3.warmed.alike hh3) rfl hu rfl rfl (hb hbytes d8) ?_
    refine sipushV X3.here hexec rfl 255 (hb hbytes d9) (by decide) ?_
    refine XS.iand X3.here hexec rfl (hb hbytes d12) rfl ?_
    refine i2c X3.here hexec rfl (hb hbytes d13) rfl ?_
    exact Steps.refl _)
  exact ⟨T3, some (.int (chr8 u)), _, _, _, X3, rfl, rfl, rfl, (fun h => by cases h), ⟨rfl, hh3⟩, fun fs hl => c4.trans (X3.ireturnOut hexec hret (narrow_c _) (Or.inr (Or.inr (Or.inr (Or.inl rfl)))) (hb hbytes d14) hl)⟩
end LChA
end StrChars
namespace StrChars.Road
open Jvm Sem ClassFile Op Lib Jvm.Stand Jvm.Free Jvm.Free.XT
open Jvm.Lib.Cold (StaticIs)
theorem consq {a : Array Value} {s : State} {c : Jvm.Cond} {L : List Jvm.Cond} (h0 : c.before a s = true) (h : ∀ w ∈ L, w.before a s = true) : ∀ w ∈ c :: L, w.before a s = true := fun w hw => (List.mem_cons.mp hw).elim (fun e => e ▸ h0) (h w)
/-- the words of String.length(), either coding -/
abbrev wordsLen : List Jvm.Cond := [.code Len.yN Len.yB 1 (some .int), .initialized ST, .fieldLink ST 9 ST "value" "[B", .fieldLink ST 38 ST "COMPACT_STRINGS" "Z", .fieldLink ST 15 ST "coder" "B", .code Cdr.yN Cdr.yB 1 (some .byte), .methodLink ST 335 Cdr.yN, .declares Cdr.yN, .selects ST Cdr.yN Cdr.yN, .instanceMethod Cdr.yN]
theorem tabLen_of {a : Array Value} {s : State} (h : ∀ w ∈ wordsLen, w.before a s = true) : Len.tab.before a s = true := by
  have hc : Cdr.tab.before a s = true := unparts (wk h (.code Cdr.yN Cdr.yB 1 (some .byte))) (wks h (.initialized Cdr.yN.cls :: Cdr.site))
  have q := consq hc h
  exact unparts (wk q (.code Len.yN Len.yB 1 (some .int))) (wks q (.initialized Len.yN.cls :: Len.site))
theorem movedLen {Z s : State} {a0 args : Array Value} (hZ : Z.Warmed39 s.vm) (hw : ∀ d ∈ wordsLen, d.before a0 Z = true) : ∀ d ∈ wordsLen, d.before args s = true := fun d hd => by
  have q := hw d hd
  have t : ∀ d ∈ wordsLen, d = .arrayClass .byte ∨ (d.onTables && d.keepsFace) = true := by decide +kernel
  rcases t d hd with rfl | t
  · exact RoadKit.mvA hZ q
  · exact RoadKit.mv hZ q t
/-- the bytes of the chars cs, low before high -/
def wideBytes : List Int32 → List Value
  | [] => []
  | c :: cs => .int (lo8 c) :: .int (hi8 c) :: wideBytes cs
theorem wide_lo (d : Value) : ∀ (cs : List Int32) (j : Nat), j < cs.length → (wideBytes cs).getD (2 * j) d = .int (lo8 (cs.getD j 0))
  | [], j, h => absurd h (Nat.not_lt_zero j)
  | c :: cs, 0, _ => rfl
  | c :: cs, j + 1, h => by
    have q := wide_lo d cs j (by simpa using h)
    rw [show 2 * (j + 1) = 2 * j + 1 + 1 from by omega]
    simpa [wideBytes] using q
theorem wide_hi (d : Value) : ∀ (cs : List Int32) (j : Nat), j < cs.length → (wideBytes cs).getD (2 * j + 1) d = .int (hi8 (cs.getD j 0))
  | [], j, h => absurd h (Nat.not_lt_zero j)
  | c :: cs, 0, _ => rfl
  | c :: cs, j + 1, h => by
    have q := wide_hi d cs j (by simpa using h)
    rw [show 2 * (j + 1) + 1 = 2 * j + 1 + 1 + 1 from by omega]
    simpa [wideBytes] using q
theorem low_at (d : Value) (cs : List Int32) (j : Nat) (h : j < cs.length) : (cs.map fun c => Value.int (lo8 c)).getD j d = .int (lo8 (cs.getD j 0)) := by
  simp [List.getD_eq_getElem?_getD, h]
/-- an array of N2 bytes vs codes the chars cs by the coder cd -/
def CodA (cs : List Int32) (cd N2 : Int32) (vs : List Value) : Prop := (cd = 0 ∧ N2 = Int32.ofNat cs.length ∧ vs = (cs.map fun c => Value.int (lo8 c)) ∧ ∀ c ∈ cs, ¬ 255 < c) ∨ (cd = 1 ∧ N2 = Int32.ofNat (2 * cs.length) ∧ vs = wideBytes cs ∧ ∃ c ∈ cs, 255 < c)
theorem CodA.cod {cs : List Int32} {cd N2 : Int32} {vs : List Value} {V : Cell} (h : CodA cs cd N2 vs) (hn : 2 * cs.length < 2 ^ 31) (hs : V.slots.size = N2.toNatClampNeg) (hv : RoadKit.Has V vs (.int 0)) : Cod cd cs.length (fun j => cs.getD j 0) V := by
  rcases h with ⟨rfl, rfl, rfl, h⟩ | ⟨rfl, rfl, rfl, c, hc, hw⟩
  · rw [n32 (by omega)] at hs
    exact Or.inl ⟨rfl, hs, fun j hj => ⟨by rw [hv j (by omega), low_at _ _ _ hj], by
      have e : cs.getD j 0 = cs[j] := by simp [List.getD_eq_getElem?_getD, hj]
      show ¬ 255 < cs.getD j 0
      rw [e]; exact h _ (List.getElem_mem _)⟩⟩
  · rw [n32 (by omega)] at hs
    obtain ⟨j, hj, rfl⟩ := List.getElem_of_mem hc
    exact Or.inr ⟨rfl, hs, fun j hj => ⟨by rw [hv _ (by omega), wide_lo _ _ _ hj], by rw [hv _ (by omega), wide_hi _ _ _ hj]⟩, j, hj, by
      have e : cs.getD j 0 = cs[j] := by simp [List.getD_eq_getElem?_getD, hj]
      show 255 < cs.getD j 0
      rw [e]; exact hw⟩
/-- an object of exactly java/lang/String, its two fields found: as the laws ask it -/
theorem strObj {Z U : State} {a0 : Array Value} {kI : Nat} (wi : (Jvm.Cond.instantiable ST kI).before a0 Z = true) (al : Z.vm.Alike U.vm) {x : Addr} {v0 c0 : Value} (E : RoadKit.Exa Z U.heap x ST) (V : RoadKit.Fld Z U.heap x ST "value" "[B" v0) (C : RoadKit.Fld Z U.heap x ST "coder" "B" c0) :
    ∃ (D : Cell) (fV fC : Field), Blank ST x D U ∧ Found ST "value" "[B" fV U ∧ Found ST "coder" "B" fC U ∧ D.slots[fV.slot]? = some v0 ∧ D.slots[fC.slot]? = some c0 ∧ RoadKit.slotOf Z ST "value" "[B" = fV.slot ∧ RoadKit.slotOf Z ST "coder" "B" = fC.slot := by
  obtain ⟨D, cfV, kV, iV, fV, hD, gV, stV, knV, obV, asV, slV⟩ := V
  obtain ⟨D', cfC, kC, iC, fC, hD', gC, stC, -, -, asC, slC⟩ := C
  cases hD.symm.trans hD'
  obtain ⟨D2, kD, e1, e2, e3, e4, e5⟩ := E
  cases hD.symm.trans e1
  obtain ⟨c2, k2, i1, i2, i3, -⟩ := Cond.instantiable_spec wi
  cases e2.symm.trans i1
  cases e3.symm.trans i2
  obtain ⟨kU, u1, u2⟩ := al.2.2 _ _ e3
  exact ⟨D, fV, fC, ⟨hD, ⟨knV, fun q hq => by rw [hq] at obV; cases obV⟩, by rw [al.findClass]; exact e2, kU, u1, by rw [u2]; exact i3, by rw [u2]; exact e5 i3⟩, ⟨SBG.found_only al ⟨cfV, kV, iV, gV⟩, stV⟩, ⟨SBG.found_only al ⟨cfC, kC, iC, gC⟩, stC⟩, slV, slC, by simp [RoadKit.slotOf, gV], by simp [RoadKit.slotOf, gC]⟩
theorem sta_is {Z U : State} (al : Z.vm.Alike U.vm) {C n d : String} {v : Value} (S : RoadKit.Sta Z U.heap C n d v) : StaticIs U C n d v := by
  obtain ⟨cfS, iS, kS, fS, st, cS, t1, t2, t3, t4, t5, t6, t7⟩ := S
  exact StaticIs.there (s := { Z with heap := U.heap }) ⟨cfS, iS, kS, fS, st, cS, t1, t2, t3, t4, t5, (fun q => by rw [q] at t6; cases t6), t7⟩ al rfl
/-- **length() OF SUCH A STRING** -/
theorem lenW {p : Program} {l : Launch} {e : Env} {R : Room} {s : State} {args : Array Value} {below : List Frame} {len W : Nat} {Z : State} {a0 : Array Value} {h : Heap} (hZ : Z.Warmed39 s.vm) (hw : ∀ d ∈ wordsLen, d.before a0 Z = true) {kI : Nat} (wi : (Jvm.Cond.instantiable ST kI).before a0 Z = true)
    {x t : Addr} {kb : ClassId} {cs : List Int32} {cd N2 z : Int32} {vs : List Value} (E : RoadKit.Exa Z h x ST) (V : RoadKit.Fld Z h x ST "value" "[B" (.ref t)) (C : RoadKit.Fld Z h x ST "coder" "B" (.int cd)) (K : RoadKit.Arv Z h t kb .byte N2 vs (.int 0)) (hc : CodA cs cd N2 vs) (hb : ∀ c ∈ cs, ¬ c < 0 ∧ ¬ (65535 : Int32) < c)
    (S : RoadKit.Sta Z h ST "COMPACT_STRINGS" "Z" (.int z)) (hz : ¬ z = 0) (l2 : cs.length ≤ 4000) (hfr : 2 ≤ R.frames) (hlo : W + 25 ≤ R.locals) :
    Back l R p e below s args (⟨"java/lang/String", "length", "()I"⟩ : MethodName) len W (fun P a => a = #[.ref x] ∧ P.U.heap = h ∧ P.cells + 0 ≤ R.cells ∧ P.slots + 0 ≤ R.slots)
      (fun P _ v B => ∃ L, (v = some (.int (Int32.ofNat cs.length)) ∧ L = [] ∧ B.U.heap = h) ∧ B.locs = P.locs ++ L ∧ B.cells = P.cells + 0 ∧ B.slots = P.slots + 0) := by
  obtain ⟨A, K1, K2, K3, K4, K5, K6⟩ := K
  have hcod := hc.cod (by omega) K3 K5
  intro m meth c P g ig mk a X hg hsize hdg hW hn hp'
  obtain ⟨rfl, rfl, r1, r2⟩ := hp'
  have al : Z.vm.Alike P.U.vm := hZ.alike.trans X.warmed.alike
  obtain ⟨D, fV, fC, hB, F1, F2, g1, g2, -, -⟩ := strObj wi al E V C
  have hx : Txt x t A cd cs.length (fun j => cs.getD j 0) P.U := ⟨⟨_, hB.2.2.1, D, hB.1, rfl, by cases q : D.vm <;> first | rfl | exact absurd q (hB.2.1.2 _)⟩, Has.of hB F1 g1, Has.of hB F2 g2, ⟨K1.1, State.isArrayOf_alike al K1.2.1, K1.2.2, by rcases hcod with ⟨-, q, -⟩ | ⟨-, q, -⟩ <;> omega⟩, hcod, fun j hj => by
    have e : cs.getD j 0 = cs[j] := by simp [List.getD_eq_getElem?_getD, hj]
    show ¬ cs.getD j 0 < 0 ∧ ¬ 65535 < cs.getD j 0
    rw [e]; exact hb _ (List.getElem_mem _)⟩
  obtain ⟨v, B, X', ⟨⟨hv, hh⟩, hl, hk, hs⟩, st⟩ := Len.pays x t A cd cs.length (fun j => cs.getD j 0) z (tabLen_of (movedLen hZ hw)) hfr hlo m meth c P g ig mk _ X hg hsize hdg hW hn ⟨r1, r2, rfl, hx, sta_is al S, hz⟩
  exact ⟨v, B, X', ⟨[], ⟨hv, rfl, hh⟩, hl, hk, hs⟩, st⟩
end StrChars.Road
namespace StrChars
open Jvm Sem ClassFile Op Lib Jvm.Stand Jvm.Free.XT Jvm.Free.ALB Jvm.Free.JM Jvm.Free
open Jvm.Lib.Cold (StaticIs)
namespace Emp
def yN : MethodName := ⟨"java/lang/String", "isEmpty", "()Z"⟩
abbrev yB : ByteArray := jdk_42_method_55_code
theorem d0 : decode yB 0 = .ok (.aload_n 0, 1) := by decide +kernel
theorem d1 : decode yB 1 = .ok (.getfield 9, 3) := by decide +kernel
theorem d4 : decode yB 4 = .ok (.arraylength, 1) := by decide +kernel
theorem d5 : decode yB 5 = .ok (.ifCond (.ne) 7, 3) := by decide +kernel
theorem d8 : decode yB 8 = .ok (.iconst 1, 1) := by decide +kernel
theorem d9 : decode yB 9 = .ok (.goto 4, 3) := by decide +kernel
theorem d12 : decode yB 12 = .ok (.iconst 0, 1) := by decide +kernel
theorem d13 : decode yB 13 = .ok (.ireturn, 1) := by decide +kernel
def site : List Cond := [.fieldLink "java/lang/String" 9 "java/lang/String" "value" "[B"]
def tab : Cond := tabOf yN yB 1 (some .boolean) site
def P (x t : Addr) (V : Cell) (cd : Int32) (n : Nat) (f : Nat → Int32) (args : Array Value) (s : State) : Prop := args = #[.ref x] ∧ Txt x t V cd n f s
def E (n : Nat) (r : Option Value) (s u : State) : Prop := XT.PureE (some (.int (if n = 0 then 1 else 0))) r s u
/-- isEmpty() of a String of n chars -/
theorem law (l : Launch) (x t : Addr) (V : Cell) (cd : Int32) (n : Nat) (f : Nat → Int32) : Law l yN 1 0 0 0 yB 1 (some .boolean) site (P x t V cd n f) (E n) [] 0 0 := by
  refine Law.of_walk (plainFor_of_name (by decide +kernel)) (by decide +kernel) (by decide +kernel) (by decide) (fun _ _ h => by rw [h.1]; rfl) (fun _ U U' hal hh h => ⟨h.1, h.2.mv hal hh⟩) (fun r U U' V V' h1 hal h2 h => XT.PureE.mv r U U' V V' h1 hal h2 h) ?_
  intro p e s m args below meth c s₁ X0 hexec hbytes hml hret hlk hnm hown hh0 W hP
  obtain ⟨rfl, hx⟩ := hP
  have v31 := hx.2.2.2.1.2.2.2
  have c1 : Steps p.tables e below (s₁.setTop (entryFrame m #[.ref x] 1)) (s₁.setTop (mkF m 1 #[.val (.ref x)] [.ref x])) := Steps.trans (entry rfl) (by
    show Steps p.tables e below (s₁.setTop (mkF m 0 #[.val (.ref x)] [])) _
    refine XS.aloadN X0.here hexec rfl (hb hbytes d0) rfl rfl ?_
    exact Steps.refl _)
  obtain ⟨T2, X2, q2, st2⟩ := X0.hget hexec hown (wk W (.fieldLink "java/lang/String" 9 "java/lang/String" "value" "[B")) (hx.mv X0.warmed.alike hh0).2.1 (g := (mkF m 1 #[.val (.ref x)] [.ref x])) rfl (rest := []) rfl (hb hbytes d1)
  have hh2 := q2.trans hh0
  have hx2 := hx.mv X2.warmed.alike hh2
  have c3 : Steps p.tables e below (s₁.setTop (entryFrame m #[.ref x] 1)) (T2.setTop (mkF m 5 #[.val (.ref x)] [.int (Int32.ofNat V.slots.size)])) := (c1.trans (st2 _ (Steps.refl _))).trans (by
    refine X2.alen hexec hx2.2.2.2.1 rfl rfl (hb hbytes d4) ?_
    exact Steps.refl _)
  have hz : V.slots.size = 0 ↔ n = 0 := by
    rcases hx.2.2.2.2.1 with ⟨-, q, -⟩ | ⟨-, q, -⟩ <;> omega
  by_cases h0 : n = 0
  · have c4 : Steps p.tables e below (s₁.setTop (entryFrame m #[.ref x] 1)) (T2.setTop (mkF m 13 #[.val (.ref x)] [.int 1])) := c3.trans (by
      refine XS.ifNo X2.here hexec rfl (hb hbytes d5) rfl (i0_ne_f (by rw [hz.mpr h0]; rfl)) ?_
      refine iconstV X2.here hexec rfl 1 (hb hbytes d8) (by decide) ?_
      refine XS.goto X2.here hexec rfl (pc0 := 9) rfl (hb hbytes d9) (by decide) rfl ?_
      exact Steps.refl _)
    exact ⟨T2, some (.int 1), _, _, _, X2, rfl, rfl, rfl, (fun h => by cases h), ⟨by rw [if_pos h0], hh2⟩, fun fs hl => c4.trans (X2.ireturnOut hexec hret rfl (Or.inr (Or.inl rfl)) (hb hbytes d13) hl)⟩
  · have c4 : Steps p.tables e below (s₁.setTop (entryFrame m #[.ref x] 1)) (T2.setTop (mkF m 13 #[.val (.ref x)] [.int 0])) := c3.trans (by
      refine XS.ifYes X2.here hexec rfl (pc0 := 5) rfl (hb hbytes d5) rfl (i0_ne_t (nz32 v31 (by omega))) (by decide) rfl ?_
      refine iconstV X2.here hexec rfl 0 (hb hbytes d12) (by decide) ?_
      exact Steps.refl _)
    exact ⟨T2, some (.int 0), _, _, _, X2, rfl, rfl, rfl, (fun h => by cases h), ⟨by rw [if_neg h0], hh2⟩, fun fs hl => c4.trans (X2.ireturnOut hexec hret rfl (Or.inr (Or.inl rfl)) (hb hbytes d13) hl)⟩
theorem pays {l : Launch} {R : Room} {p : Program} {e : Env} {below : List Frame} {s : State} {sargs : Array Value} {len W : Nat} (x t : Addr) (V : Cell) (cd : Int32) (n : Nat) (f : Nat → Int32) (htab : tab.before sargs s = true) (hfr : 1 ≤ R.frames) (hlo : W + 12 ≤ R.locals) :
    Back l R p e below s sargs yN len W (fun A₁ a₁ => A₁.cells + 0 ≤ R.cells ∧ A₁.slots + 0 ≤ R.slots ∧ P x t V cd n f a₁ A₁.U) (fun A₁ _ v₁ B₁ => E n v₁ A₁.U B₁.U ∧ B₁.locs = A₁.locs ++ [] ∧ B₁.cells = A₁.cells + 0 ∧ B₁.slots = A₁.slots + 0) :=
  (law l x t V cd n f).pays htab hfr (by omega)
end Emp
end StrChars
namespace StrChars.Road
open Jvm Sem ClassFile Op Lib Jvm.Stand Jvm.Free Jvm.Free.XT
open Jvm.Lib.Cold (StaticIs)
/-- the words of String.isEmpty() -/
abbrev wordsEmp : List Jvm.Cond := [.code Emp.yN Emp.yB 1 (some .boolean), .initialized ST, .fieldLink ST 9 ST "value" "[B"]
theorem tabEmp_of {a : Array Value} {s : State} (h : ∀ w ∈ wordsEmp, w.before a s = true) : Emp.tab.before a s = true := unparts (wk h (.code Emp.yN Emp.yB 1 (some .boolean))) (wks h (.initialized Emp.yN.cls :: Emp.site))
theorem movedEmp {Z s : State} {a0 args : Array Value} (hZ : Z.Warmed39 s.vm) (hw : ∀ d ∈ wordsEmp, d.before a0 Z = true) : ∀ d ∈ wordsEmp, d.before args s = true := fun d hd => by
  have t : ∀ d ∈ wordsEmp, (d.onTables && d.keepsFace) = true := by decide +kernel
  exact RoadKit.mv hZ (hw d hd) (t d hd)
/-- the road's facts of a String, as the laws ask it -/
theorem txt_of {Z U : State} {a0 : Array Value} {kI : Nat} (wi : (Jvm.Cond.instantiable ST kI).before a0 Z = true) (al : Z.vm.Alike U.vm) {x t : Addr} {kb : ClassId} {cs : List Int32} {cd N2 : Int32} {vs : List Value} (E : RoadKit.Exa Z U.heap x ST) (V : RoadKit.Fld Z U.heap x ST "value" "[B" (.ref t)) (C : RoadKit.Fld Z U.heap x ST "coder" "B" (.int cd)) (K : RoadKit.Arv Z U.heap t kb .byte N2 vs (.int 0)) (hc : CodA cs cd N2 vs) (hb : ∀ c ∈ cs, ¬ c < 0 ∧ ¬ (65535 : Int32) < c) (l2 : cs.length ≤ 4000) :
    ∃ A, Txt x t A cd cs.length (fun j => cs.getD j 0) U := by
  obtain ⟨A, K1, K2, K3, K4, K5, K6⟩ := K
  have hcod := hc.cod (by omega) K3 K5
  obtain ⟨D, fV, fC, hB, F1, F2, g1, g2, -, -⟩ := strObj wi al E V C
  exact ⟨A, ⟨_, hB.2.2.1, D, hB.1, rfl, by cases q : D.vm <;> first | rfl | exact absurd q (hB.2.1.2 _)⟩, Has.of hB F1 g1, Has.of hB F2 g2, ⟨K1.1, State.isArrayOf_alike al K1.2.1, K1.2.2, by rcases hcod with ⟨-, q, -⟩ | ⟨-, q, -⟩ <;> omega⟩, hcod, fun j hj => by
    have e : cs.getD j 0 = cs[j] := by simp [List.getD_eq_getElem?_getD, hj]
    show ¬ cs.getD j 0 < 0 ∧ ¬ 65535 < cs.getD j 0
    rw [e]; exact hb _ (List.getElem_mem _)⟩
/-- **isEmpty() OF SUCH A STRING** -/
theorem empW {p : Program} {l : Launch} {e : Env} {R : Room} {s : State} {args : Array Value} {below : List Frame} {len W : Nat} {Z : State} {a0 : Array Value} {h : Heap} (hZ : Z.Warmed39 s.vm) (hw : ∀ d ∈ wordsEmp, d.before a0 Z = true) {kI : Nat} (wi : (Jvm.Cond.instantiable ST kI).before a0 Z = true)
    {x t : Addr} {kb : ClassId} {cs : List Int32} {cd N2 : Int32} {vs : List Value} (E : RoadKit.Exa Z h x ST) (V : RoadKit.Fld Z h x ST "value" "[B" (.ref t)) (C : RoadKit.Fld Z h x ST "coder" "B" (.int cd)) (K : RoadKit.Arv Z h t kb .byte N2 vs (.int 0)) (hc : CodA cs cd N2 vs) (hb : ∀ c ∈ cs, ¬ c < 0 ∧ ¬ (65535 : Int32) < c) (l2 : cs.length ≤ 4000) (hfr : 1 ≤ R.frames) (hlo : W + 12 ≤ R.locals) :
    Back l R p e below s args (⟨"java/lang/String", "isEmpty", "()Z"⟩ : MethodName) len W (fun P a => a = #[.ref x] ∧ P.U.heap = h ∧ P.cells + 0 ≤ R.cells ∧ P.slots + 0 ≤ R.slots)
      (fun P _ v B => ∃ L, (v = some (.int (if cs.length = 0 then 1 else 0)) ∧ L = [] ∧ B.U.heap = h) ∧ B.locs = P.locs ++ L ∧ B.cells = P.cells + 0 ∧ B.slots = P.slots + 0) := by
  intro m meth c P g ig mk a X hg hsize hdg hW hn hp'
  obtain ⟨rfl, rfl, r1, r2⟩ := hp'
  have al : Z.vm.Alike P.U.vm := hZ.alike.trans X.warmed.alike
  obtain ⟨A, hx⟩ := txt_of wi al E V C K hc hb l2
  obtain ⟨v, B, X', ⟨⟨hv, hh⟩, hl, hk, hs⟩, st⟩ := Emp.pays x t A cd cs.length (fun j => cs.getD j 0) (tabEmp_of (movedEmp hZ hw)) hfr hlo m meth c P g ig mk _ X hg hsize hdg hW hn ⟨r1, r2, rfl, hx⟩
  exact ⟨v, B, X', ⟨[], ⟨hv, rfl, hh⟩, hl, hk, hs⟩, st⟩
end StrChars.Road
namespace StrChars
open Jvm Sem ClassFile Op Lib Jvm.Stand Jvm.Free.XT Jvm.Free.ALB Jvm.Free.JM Jvm.Free
open Jvm.Lib.Cold (StaticIs)
namespace ChN
def yN : MethodName := ⟨"java/lang/String", "charAt", "(I)C"⟩
abbrev yB : ByteArray := jdk_42_method_56_code
theorem d0 : decode yB 0 = .ok (.aload_n 0, 1) := by decide +kernel
theorem d1 : decode yB 1 = .ok (.invokevirtual 492, 3) := by decide +kernel
theorem d4 : decode yB 4 = .ok (.ifCond (.eq) 12, 3) := by decide +kernel
theorem d7 : decode yB 7 = .ok (.aload_n 0, 1) := by decide +kernel
theorem d8 : decode yB 8 = .ok (.getfield 9, 3) := by decide +kernel
theorem d11 : decode yB 11 = .ok (.iload_n 1, 1) := by decide +kernel
theorem d12 : decode yB 12 = .ok (.invokestatic 495, 3) := by decide +kernel
theorem d15 : decode yB 15 = .ok (.ireturn, 1) := by decide +kernel
def site : List Cond := [.fieldLink "java/lang/String" 9 "java/lang/String" "value" "[B", IsL.tab, LChA.tab] ++ virtW "java/lang/String" 492 "java/lang/String" IsL.yN IsL.yN ++ staticW "java/lang/String" 495 LChA.yN
def tab : Cond := tabOf yN yB 2 (some .char) site
def P (x t : Addr) (V : Cell) (n : Nat) (f : Nat → Int32) (z : Int32) (fm : Value) (i : Nat) (args : Array Value) (s : State) : Prop := args = #[.ref x, .int (Int32.ofNat i)] ∧ Txt x t V 0 n f s ∧ i < n ∧ StaticIs s "java/lang/String" "COMPACT_STRINGS" "Z" (.int z) ∧ ¬ z = 0 ∧ StaticIs s "jdk/internal/util/Preconditions" "SIOOBE_FORMATTER" "Ljava/util/function/BiFunction;" fm ∧ fm.isRef = true
def E (f : Nat → Int32) (i : Nat) (r : Option Value) (s u : State) : Prop := XT.PureE (some (.int (f i))) r s u
/-- charAt(i) of a Latin-1 String of n chars, i < n: f i -/
theorem law (l : Launch) (x t : Addr) (V : Cell) (n : Nat) (f : Nat → Int32) (z : Int32) (fm : Value) (i : Nat) : Law l yN 2 1 3 40 yB 2 (some .char) site (P x t V n f z fm i) (E f i) [] 0 0 := by
  refine Law.of_walk (plainFor_of_name (by decide +kernel)) (by decide +kernel) (by decide +kernel) (by decide) (fun _ _ h => by rw [h.1]; rfl) (fun _ U U' hal hh h => ⟨h.1, h.2.1.mv hal hh, h.2.2.1, h.2.2.2.1.there hal hh, h.2.2.2.2.1, h.2.2.2.2.2.1.there hal hh, h.2.2.2.2.2.2⟩) (fun r U U' V V' h1 hal h2 h => XT.PureE.mv r U U' V V' h1 hal h2 h) ?_
  intro p e s m args below meth c s₁ X0 hexec hbytes hml hret hlk hnm hown hh0 W hP
  obtain ⟨rfl, hx, hi, s1, hz, s3, rf⟩ := hP
  have v31 := hx.2.2.2.1.2.2.2
  have hr := hx.2.2.2.2.2 i hi
  have hx0 := hx.mv X0.warmed.alike hh0
  have c1 : Steps p.tables e below (s₁.setTop (entryFrame m #[.ref x, .int (Int32.ofNat i)] 2)) (s₁.setTop (mkF m 1 #[.val (.ref x), .val (.int (Int32.ofNat i))] [.ref x])) := Steps.trans (entry rfl) (by
    show Steps p.tables e below (s₁.setTop (mkF m 0 #[.val (.ref x), .val (.int (Int32.ofNat i))] [])) _
    refine XS.aloadN X0.here hexec rfl (hb hbytes d0) rfl rfl ?_
    exact Steps.refl _)
  obtain ⟨v2, T2, X2, E2, g2⟩ := X0.callV hexec (IsL.law l x 0 z) hown (wks W (virtW "java/lang/String" 492 "java/lang/String" IsL.yN IsL.yN)) rfl (by decide) (wk W IsL.tab) (W := 0) (Nat.le_of_ble_eq_true rfl) (Nat.le_of_ble_eq_true rfl) (Nat.le_refl _) (Nat.le_refl _) (hx0.1.fc X0.warmed.alike) hx0.1.is (g := (mkF m 1 #[.val (.ref x), .val (.int (Int32.ofNat i))] [.ref x])) rfl (by rw [hml]; rfl) c1 (argsL := []) (rest := []) rfl rfl (by show 2 * 0 + 0 ≤ _; decide) (hb hbytes d1) (⟨rfl, hx0.2.2.1, hx.2.2.2.2.1.cd, s1.there X0.warmed.alike hh0, hz⟩)
  obtain ⟨rfl, q2⟩ := E2
  have hh2 := q2.trans hh0
  have hx2 := hx.mv X2.warmed.alike hh2
  obtain ⟨-, k1, k2⟩ | ⟨k0, -⟩ := hx.2.2.2.2.1
  · have c3 : Steps p.tables e below (s₁.setTop (entryFrame m #[.ref x, .int (Int32.ofNat i)] 2)) (T2.setTop (mkF m 8 #[.val (.ref x), .val (.int (Int32.ofNat i))] [.ref x])) := Steps.trans g2 (by
      refine XS.ifNo X2.here hexec rfl (hb hbytes d4) rfl (i0_eq_f (by decide)) ?_
      refine XS.aloadN X2.here hexec rfl (hb hbytes d7) rfl rfl ?_
      exact Steps.refl _)
    obtain ⟨T4, X4, q4, st4⟩ := X2.hget hexec hown (wk W (.fieldLink "java/lang/String" 9 "java/lang/String" "value" "[B")) hx2.2.1 (g := (mkF m 8 #[.val (.ref x), .val (.int (Int32.ofNat i))] [.ref x])) rfl (rest := []) rfl (hb hbytes d8)
    have hh4 := q4.trans hh2
    have c5 : Steps p.tables e below (s₁.setTop (entryFrame m #[.ref x, .int (Int32.ofNat i)] 2)) (T4.setTop (mkF m 12 #[.val (.ref x), .val (.int (Int32.ofNat i))] [.int (Int32.ofNat i), .ref t])) := (c3.trans (st4 _ (Steps.refl _))).trans (by
      refine XS.iloadN X4.here hexec rfl (hb hbytes d11) rfl ?_
      exact Steps.refl _)
    obtain ⟨v6, T6, X6, E6, g6⟩ := X4.callS hexec (LChA.law l t V i (lo8 (f i)) fm) hown (wks W (staticW "java/lang/String" 495 LChA.yN)) (wk W LChA.tab) (W := 0) (Nat.le_of_ble_eq_true rfl) (Nat.le_of_ble_eq_true rfl) (Nat.le_refl _) (Nat.le_refl _) (g := (mkF m 12 #[.val (.ref x), .val (.int (Int32.ofNat i))] [.int (Int32.ofNat i), .ref t])) rfl (by rw [hml]; rfl) c5 (argsL := [.ref t, .int (Int32.ofNat i)]) (rest := []) rfl rfl (by show 2 * 0 + 0 ≤ _; decide) (hb hbytes d12) (⟨rfl, hx.2.2.2.1.mv X4.warmed.alike hh4, (k2 i hi).1, s3.there X4.warmed.alike hh4, rf⟩)
    obtain ⟨rfl, q6⟩ := E6
    rw [chr8_lo8 hr.1 (k2 i hi).2] at g6
    exact ⟨T6, some (.int (f i)), _, _, _, X6, rfl, rfl, rfl, (fun h => by cases h), ⟨rfl, q6.trans hh4⟩, fun fs hl => Steps.trans g6 (X6.ireturnOut hexec hret (narrow_ch hr.1 hr.2) (Or.inr (Or.inr (Or.inr (Or.inl rfl)))) (hb hbytes d15) hl)⟩
  · exact absurd k0 (by decide)
theorem pays {l : Launch} {R : Room} {p : Program} {e : Env} {below : List Frame} {s : State} {sargs : Array Value} {len W : Nat} (x t : Addr) (V : Cell) (n : Nat) (f : Nat → Int32) (z : Int32) (fm : Value) (i : Nat) (htab : tab.before sargs s = true) (hfr : 4 ≤ R.frames) (hlo : W + 53 ≤ R.locals) :
    Back l R p e below s sargs yN len W (fun A₁ a₁ => A₁.cells + 0 ≤ R.cells ∧ A₁.slots + 0 ≤ R.slots ∧ P x t V n f z fm i a₁ A₁.U) (fun A₁ _ v₁ B₁ => E f i v₁ A₁.U B₁.U ∧ B₁.locs = A₁.locs ++ [] ∧ B₁.cells = A₁.cells + 0 ∧ B₁.slots = A₁.slots + 0) :=
  (law l x t V n f z fm i).pays htab hfr (by omega)
end ChN
end StrChars
namespace StrChars.Road
open Jvm Sem ClassFile Op Lib Jvm.Stand Jvm.Free Jvm.Free.XT
open Jvm.Lib.Cold (StaticIs)
/-- the words of String.charAt(int), the Latin-1 road alone -/
abbrev wordsChN : List Jvm.Cond := [.code ChN.yN ChN.yB 2 (some .char), .initialized ST, .fieldLink ST 9 ST "value" "[B", .fieldLink ST 38 ST "COMPACT_STRINGS" "Z", .fieldLink ST 15 ST "coder" "B", .code IsL.yN IsL.yB 1 (some .boolean), .methodLink ST 492 IsL.yN, .declares IsL.yN, .selects ST IsL.yN IsL.yN, .instanceMethod IsL.yN,
  .methodLink ST 495 LChA.yN, .static LChA.yN, .code LChA.yN LChA.yB 2 (some .char), .initialized "java/lang/StringLatin1", .methodLink "java/lang/StringLatin1" 9 JO.Str_checkIndex.yN, .static JO.Str_checkIndex.yN, .code JO.Str_checkIndex.yN JO.Str_checkIndex.yB 2 none,
  .fieldLink ST 1053 "jdk/internal/util/Preconditions" "SIOOBE_FORMATTER" "Ljava/util/function/BiFunction;", .methodLink ST 1059 JC.PreCheck.yN, .static JC.PreCheck.yN, .code JC.PreCheck.yN JC.PreCheck.yB 3 (some .int), .initialized "jdk/internal/util/Preconditions"]
theorem tabChN_of {a : Array Value} {s : State} (h : ∀ w ∈ wordsChN, w.before a s = true) : ChN.tab.before a s = true := by
  have hp : JC.PreCheck.tab.before a s = true := unparts (wk h (.code JC.PreCheck.yN JC.PreCheck.yB 3 (some .int))) (wks h (.initialized JC.PreCheck.yN.cls :: JC.PreCheck.site))
  have qk := consq hp h
  have hk : JO.Str_checkIndex.tab.before a s = true := unparts (wk qk (.code JO.Str_checkIndex.yN JO.Str_checkIndex.yB 2 none)) (wks qk (.initialized JO.Str_checkIndex.yN.cls :: JO.Str_checkIndex.site))
  have ql := consq hk h
  have hl : LChA.tab.before a s = true := unparts (wk ql (.code LChA.yN LChA.yB 2 (some .char))) (wks ql (.initialized LChA.yN.cls :: LChA.site))
  have hi : IsL.tab.before a s = true := unparts (wk h (.code IsL.yN IsL.yB 1 (some .boolean))) (wks h (.initialized IsL.yN.cls :: IsL.site))
  have q := consq hi (consq hl h)
  exact unparts (wk q (.code ChN.yN ChN.yB 2 (some .char))) (wks q (.initialized ChN.yN.cls :: ChN.site))
theorem movedChN {Z s : State} {a0 args : Array Value} (hZ : Z.Warmed39 s.vm) (hw : ∀ d ∈ wordsChN, d.before a0 Z = true) : ∀ d ∈ wordsChN, d.before args s = true := fun d hd => by
  have t : ∀ d ∈ wordsChN, (d.onTables && d.keepsFace) = true := by decide +kernel
  exact RoadKit.mv hZ (hw d hd) (t d hd)
/-- **charAt(i) OF A LATIN-1 STRING**, i < n: the char -/
theorem chN {p : Program} {l : Launch} {e : Env} {R : Room} {s : State} {args : Array Value} {below : List Frame} {len W : Nat} {Z : State} {a0 : Array Value} {h : Heap} (hZ : Z.Warmed39 s.vm) (hw : ∀ d ∈ wordsChN, d.before a0 Z = true) {kI : Nat} (wi : (Jvm.Cond.instantiable ST kI).before a0 Z = true)
    {x t : Addr} {kb : ClassId} {cs : List Int32} {N2 z : Int32} {vs : List Value} {fm : Value} {i : Nat} {j : Int32} (E : RoadKit.Exa Z h x ST) (V : RoadKit.Fld Z h x ST "value" "[B" (.ref t)) (C : RoadKit.Fld Z h x ST "coder" "B" (.int 0)) (K : RoadKit.Arv Z h t kb .byte N2 vs (.int 0)) (hc : CodA cs 0 N2 vs) (hb : ∀ c ∈ cs, ¬ c < 0 ∧ ¬ (65535 : Int32) < c)
    (S : RoadKit.Sta Z h ST "COMPACT_STRINGS" "Z" (.int z)) (hz : ¬ z = 0) (F : RoadKit.Sta Z h "jdk/internal/util/Preconditions" "SIOOBE_FORMATTER" "Ljava/util/function/BiFunction;" fm) (rf : fm.isRef = true) (l2 : cs.length ≤ 4000) (hi : i < cs.length) (hj : j = Int32.ofNat i) (hfr : 4 ≤ R.frames) (hlo : W + 53 ≤ R.locals) :
    Back l R p e below s args (⟨"java/lang/String", "charAt", "(I)C"⟩ : MethodName) len W (fun P a => a = #[.ref x, .int j] ∧ P.U.heap = h ∧ P.cells + 0 ≤ R.cells ∧ P.slots + 0 ≤ R.slots)
      (fun P _ v B => ∃ L, (v = some (.int (cs.getD i 0)) ∧ L = [] ∧ B.U.heap = h) ∧ B.locs = P.locs ++ L ∧ B.cells = P.cells + 0 ∧ B.slots = P.slots + 0) := by
  subst hj
  intro m meth c P g ig mk a X hg hsize hdg hW hn hp'
  obtain ⟨rfl, rfl, r1, r2⟩ := hp'
  have al : Z.vm.Alike P.U.vm := hZ.alike.trans X.warmed.alike
  obtain ⟨A, hx⟩ := txt_of wi al E V C K hc hb l2
  obtain ⟨v, B, X', ⟨⟨hv, hh⟩, hl, hk, hs⟩, st⟩ := ChN.pays x t A cs.length (fun j => cs.getD j 0) z fm i (tabChN_of (movedChN hZ hw)) hfr hlo m meth c P g ig mk _ X hg hsize hdg hW hn ⟨r1, r2, rfl, hx, hi, sta_is al S, hz, sta_is al F, rf⟩
  exact ⟨v, B, X', ⟨[], ⟨hv, rfl, hh⟩, hl, hk, hs⟩, st⟩
/-- what backV says of its String, as the contracts of this text ask it: cs's low bytes, coder 0 -/
theorem codOf {cs : List Int32} {n : Nat} (hn : cs.length = n) (hb : ∀ c ∈ cs, ¬ 255 < c) : CodA cs 0 (Int32.ofNat n) ((cs.map lo8).map Value.int) := Or.inl ⟨rfl, by rw [hn], by simp [List.map_map, Function.comp_def], hb⟩
end StrChars.Road
end Jvm.Pilot.@@N@@

namespace Jvm.Pilot.@@N@@
open Jvm Jvm.ClassFile Sem Op Lib Jvm.Free Jvm.Stand Jvm.LawKit Jvm.RoadKit Bundle Jvm.Pilot.@@N@@.Jvm.D
section Own
variable {p : Program} {l : Launch} {e : Env} {R : Room} {s : State} {m : MethodId} {args : Array Value} {below : List Frame} {meth : Method} {c : Code} {T : State} {locs : List Loc} {cells slots : Nat}
/-- from t on the body comes to an end, with at most C cells and S slots made, and Q says of it -/
def own_Comes (p : Program) (e : Env) (below : List Frame) (s : State) (C S : Nat) (Q : Option Value → Heap → List Loc → Prop) (t : State) : Prop :=
  ∃ (U : State) (o : Outcome), Steps p.tables e below t U ∧ U.status = .running ∧ Ended U below o ∧ ∃ v L, o = .returned v ∧ Q v U.heap L ∧ FrameEnd s o U L C S
theorem own_by {C S : Nat} {Q : Option Value → Heap → List Loc → Prop} {t t' : State} (st : ∀ target, Steps p.tables e below t' target → Steps p.tables e below t target) (h : own_Comes p e below s C S Q t') : own_Comes p e below s C S Q t := by
  obtain ⟨U, o, h1, h2⟩ := h
  exact ⟨U, o, st _ h1, h2⟩
theorem own_tr {C S : Nat} {Q : Option Value → Heap → List Loc → Prop} {t t' : State} (st : Steps p.tables e below t t') (h : own_Comes p e below s C S Q t') : own_Comes p e below s C S Q t := by
  obtain ⟨U, o, h1, h2⟩ := h
  exact ⟨U, o, st.trans h1, h2⟩
theorem own_ret (X : Stand p l e R s m args below meth c T locs cells slots) {C S : Nat} {Q : Option Value → Heap → List Loc → Prop} {v : Option Value} {t : State} (hv : meth.sig.returnType = none → v = none) (hlk : meth.locks = false) (hC : cells ≤ C) (hS : slots ≤ S) (hQ : Q v T.heap locs)
    (st : ∀ fs, (∀ (f : JFrame) (acts : List Action), f.method = m → f.locked = none → f.entered = [] → (doReturn e (T.setTop f) acts v).1 = T.setFrames fs) → Steps p.tables e below t (T.setFrames fs)) : own_Comes p e below s C S Q t := by
  obtain ⟨fs, hr, hrun, hended, hW, hsame⟩ := X.leave (v := v) hv hlk
  exact ⟨_, _, st fs hr, hrun, hended, v, locs, rfl, hQ, ⟨_, rfl⟩, hW, hsame.mono hC hS⟩
theorem retI (X : Stand p l e R s m args below meth c T locs cells slots) (hx : p.tables.exec = Jvm.exec) {pc : Nat} {Ls : Array Slot} {z : Int32} {rest : List Value} (hret : meth.sig.returnType = some .int) (hd : decode c.code pc = .ok (.ireturn, 1)) {fs : List Frame}
    (hl : ∀ (f : JFrame) (acts : List Action), f.method = m → f.locked = none → f.entered = [] → (doReturn e (T.setTop f) acts (some (.int z))).1 = T.setFrames fs) : Steps p.tables e below (T.setTop (mkF m pc Ls (.int z :: rest))) (T.setFrames fs) := by
  have hm' : T.vm.method? m = some meth := X.method'
  have hn : narrow .int (.int z) = .int z := rfl
  show Steps p.tables e below (T.setTop { method := m, pc := pc, locals := Ls, stack := _ :: rest, locked := none }) _
  jvm_step X.here [X.here.top, hx, hd, hm', hret, hn]
  first | (intro acts; rw [hl _ acts rfl rfl rfl]) | rw [hl _ _ rfl rfl rfl]
  exact Steps.refl _
theorem own_reta (X : Stand p l e R s m args below meth c T locs cells slots) (hx : p.tables.exec = Jvm.exec) {pc : Nat} {Ls : Array Slot} {w : Value} {t : FieldType} {rest : List Value} (hret : meth.sig.returnType = some t) (ht : t.isReference = true) (hw : w.isRef = true) (hd : decode c.code pc = .ok (.areturn, 1)) {fs : List Frame}
    (hl : ∀ (f : JFrame) (acts : List Action), f.method = m → f.locked = none → f.entered = [] → (doReturn e (T.setTop f) acts (some w)).1 = T.setFrames fs) : Steps p.tables e below (T.setTop (mkF m pc Ls (w :: rest))) (T.setFrames fs) := by
  have hm' : T.vm.method? m = some meth := X.method'
  have hn : narrow t w = w := by cases t <;> first | (cases ht; done) | (cases w <;> rfl)
  rcases ref_cases hw with rfl | ⟨z, rfl⟩
  all_goals
    show Steps p.tables e below (T.setTop { method := m, pc := pc, locals := Ls, stack := _ :: rest, locked := none }) _
    jvm_step X.here [X.here.top, hx, hd, hm', hret, hn, Value.isRef]
    try (refine ⟨ht, ?_⟩)
    first | (intro acts; rw [hl _ acts rfl rfl rfl]) | rw [hl _ _ rfl rfl rfl]
    exact Steps.refl _
/-- what is kept with nothing old written is only added to -/
theorem own_ext {h h' : Heap} (K : Keep h h' []) : Ext h h' := ⟨K.1, fun x c q => K.2.1 x c q nin0⟩
/-- the same, where String constants may have been loaded -/
def own_ComesW (p : Program) (e : Env) (below : List Frame) (s : State) (C S : Nat) (Q : Option Value → Heap → List Loc → Prop) (t : State) : Prop :=
  ∃ (U : State) (o : Outcome), Steps p.tables e below t U ∧ U.status = .running ∧ Ended U below o ∧ ∃ v L, o = .returned v ∧ Q v U.heap L ∧ ReturnedEndW s o U L C S
theorem own_byW {C S : Nat} {Q : Option Value → Heap → List Loc → Prop} {t t' : State} (st : ∀ target, Steps p.tables e below t' target → Steps p.tables e below t target) (h : own_ComesW p e below s C S Q t') : own_ComesW p e below s C S Q t := by
  obtain ⟨U, o, h1, h2⟩ := h
  exact ⟨U, o, st _ h1, h2⟩
theorem own_trW {C S : Nat} {Q : Option Value → Heap → List Loc → Prop} {t t' : State} (st : Steps p.tables e below t t') (h : own_ComesW p e below s C S Q t') : own_ComesW p e below s C S Q t := by
  obtain ⟨U, o, h1, h2⟩ := h
  exact ⟨U, o, st.trans h1, h2⟩
theorem own_retW {vm1 : Vm} (X : Stand p l e R (s.setVm vm1) m args below meth c T locs cells slots) {k : Nat} (hS : s.Since vm1 k) (hk : k ≤ T.heap.size) {C S : Nat} {Q : Option Value → Heap → List Loc → Prop} {v : Option Value} {t : State} (hv : meth.sig.returnType = none → v = none) (hlk : meth.locks = false) (hC : cells ≤ C) (hSl : slots ≤ S) (hQ : Q v T.heap locs)
    (st : ∀ fs, (∀ (f : JFrame) (acts : List Action), f.method = m → f.locked = none → f.entered = [] → (doReturn e (T.setTop f) acts v).1 = T.setFrames fs) → Steps p.tables e below t (T.setFrames fs)) : own_ComesW p e below s C S Q t := by
  obtain ⟨fs, hr, hrun, hended, hE⟩ := X.leaveW hS hk (v := v) hv hlk
  exact ⟨_, _, st fs hr, hrun, hended, v, locs, rfl, hQ, hE.1, hE.2.1, hE.2.2.1, hE.2.2.2.mono hC hSl⟩
end Own
theorem own_cat {w : Value} (i : w.isRef = true) : w.category = 1 := by rcases ref_cases i with rfl | ⟨z, rfl⟩ <;> rfl
section OwnU
open StrChars StrChars.Road
def own_Txt (Z : State) (h : Heap) (x : Addr) (cs : List Int32) : Prop :=
  Exa Z h x "java/lang/String" ∧ ∃ (t : Addr) (kb : ClassId) (cd N2 : Int32) (vs : List Value), Fld Z h x "java/lang/String" "value" "[B" (.ref t) ∧ Fld Z h x "java/lang/String" "coder" "B" (.int cd) ∧ Arv Z h t kb .byte N2 vs (.int 0) ∧ CodA cs cd N2 vs ∧ (∀ c ∈ cs, ¬ c < 0 ∧ ¬ (65535 : Int32) < c) ∧ cs.length ≤ 4000
theorem own_Txt.ext {Z : State} {h h' : Heap} {x : Addr} {cs : List Int32} (A : own_Txt Z h x cs) (E : Ext h h') : own_Txt Z h' x cs := by
  obtain ⟨a1, t, kb, cd, N2, vs, a2, a3, a4, a5⟩ := A
  exact ⟨a1.ext E, t, kb, cd, N2, vs, a2.ext E, a3.ext E, a4.ext E, a5⟩
theorem own_tn {k : Nat} (h : k < 2 ^ 31) : (Int32.ofNat k).toNatClampNeg = k := Int32.toNatClampNeg_ofNat_of_lt h
theorem own_ti {k : Nat} (h : k < 2 ^ 31) : (Int32.ofNat k).toInt = k := Int32.toInt_ofNat_of_lt h
theorem own_neg {k : Nat} (h : k < 2 ^ 31) : ¬ Int32.ofNat k < 0 := by
  have e0 : (0 : Int32).toInt = 0 := by decide
  rw [Int32.lt_iff_toInt_lt, own_ti h]; omega
theorem own_lt {a b : Nat} (ha : a < 2 ^ 31) (hB : b < 2 ^ 31) : Int32.ofNat a < Int32.ofNat b ↔ a < b := by
  rw [Int32.lt_iff_toInt_lt, own_ti ha, own_ti hB]; omega
theorem own_inb {c : Cell} {n k : Nat} (S : c.slots.size = (Int32.ofNat n).toNatClampNeg) (hn : n < 2 ^ 31) (hk : k < n) : ¬ (Int32.ofNat k < 0 ∨ c.slots.size ≤ (Int32.ofNat k).toNatClampNeg) := by
  rw [S, own_tn hn, own_tn (by omega)]
  rintro (q | q)
  · exact own_neg (by omega) q
  · omega
theorem own_succ {k : Nat} (h : k + 1 < 2 ^ 31) : Int32.ofNat k + (1 : Int32) = Int32.ofNat (k + 1) := by
  have e1 : (1 : Int32).toInt = 1 := by decide
  have q := c_iadd (Int32.ofNat k) (1 : Int32)
  have r := rng32 (Int32.ofNat k + (1 : Int32))
  rw [own_ti (by omega), e1] at q
  apply Int32.toInt_inj.mp
  rw [own_ti h]; omega
theorem own_shl {k : Nat} (h : k ≤ 4000) : Int32.ofNat k <<< ((1 : Int32) &&& 31) = Int32.ofNat (2 * k) := by
  have q := c_ishl (Int32.ofNat k) (1 : Int32) 1 (by decide)
  have r := rng32 (Int32.ofNat k <<< ((1 : Int32) &&& 31))
  rw [own_ti (by omega)] at q
  apply Int32.toInt_inj.mp
  rw [own_ti (by omega)]; omega
theorem own_mem {cs : List Int32} {i : Nat} (h : i < cs.length) : cs.getD i 0 ∈ cs := by
  rw [List.getD_eq_getElem?_getD, List.getElem?_eq_getElem h]; exact List.getElem_mem h
theorem own_nar16 {x : Int32} (h : ¬ x < 0 ∧ ¬ (65535 : Int32) < x) : nar .char x = x := by
  show x.toUInt32.toUInt16.toUInt32.toInt32 = x
  have e0 : (0 : Int32).toInt = 0 := by decide
  have e : (65535 : Int32).toInt = 65535 := by decide
  have q := c_i2c x
  rw [Int32.lt_iff_toInt_lt, Int32.lt_iff_toInt_lt] at h
  apply Int32.toInt_inj.mp; omega
theorem own_up {c : Int32} (h : ¬ c < 0 ∧ ¬ (255 : Int32) < c) : ¬ c < 0 ∧ ¬ (65535 : Int32) < c := by
  have e0 : (0 : Int32).toInt = 0 := by decide
  have e : (255 : Int32).toInt = 255 := by decide
  have e' : (65535 : Int32).toInt = 65535 := by decide
  rw [Int32.lt_iff_toInt_lt, Int32.lt_iff_toInt_lt] at h ⊢; omega
theorem own_gc {c : Int32} (h : ¬ c < 0 ∧ ¬ (65535 : Int32) < c) : nar .char (((((lo8 c) &&& (255 : Int32)) <<< ((0 : Int32) &&& 31)) ||| (((hi8 c) &&& (255 : Int32)) <<< ((8 : Int32) &&& 31))).toUInt32.toUInt16.toUInt32.toInt32) = c := by
  have q : ((((lo8 c) &&& (255 : Int32)) <<< ((0 : Int32) &&& 31)) ||| (((hi8 c) &&& (255 : Int32)) <<< ((8 : Int32) &&& 31))).toUInt32.toUInt16.toUInt32.toInt32 = c := pair_says h.1 h.2
  rw [q]; exact own_nar16 h
theorem own_gl {c : Int32} (h : ¬ c < 0 ∧ ¬ (255 : Int32) < c) : nar .char (((lo8 c) &&& (255 : Int32)).toUInt32.toUInt16.toUInt32.toInt32) = c := by
  have q : ((lo8 c) &&& (255 : Int32)).toUInt32.toUInt16.toUInt32.toInt32 = c := chr8_lo8 h.1 h.2
  rw [q]; exact own_nar16 (own_up h)
theorem own_b1 (c : Int32) : ((c >>> ((0 : Int32) &&& 31)).toInt8.toInt32).toInt8.toInt32 = lo8 c := by
  rw [shr0]; show c.toInt8.toInt32.toInt8.toInt32 = c.toInt8.toInt32
  simp
theorem own_b2 (c : Int32) : ((c >>> ((8 : Int32) &&& 31)).toInt8.toInt32).toInt8.toInt32 = hi8 c := by
  show (c >>> ((8 : Int32) &&& 31)).toInt8.toInt32.toInt8.toInt32 = (c >>> ((8 : Int32) &&& 31)).toInt8.toInt32
  simp
theorem own_wlen (cs : List Int32) : (wideBytes cs).length = 2 * cs.length := by
  induction cs with
  | nil => rfl
  | cons c cs ih => simp only [wideBytes, List.length_cons, ih]; omega
/-- the bytes written so far -/
def own_Half (cs : List Int32) (i : Nat) (vs : List Value) : Prop := vs.length = 2 * cs.length ∧ ∀ j, j < 2 * i → vs.getD j (.int 0) = (wideBytes cs).getD j (.int 0)
theorem own_Half.zero (cs : List Int32) : own_Half cs 0 (List.replicate (2 * cs.length) (.int (0 : Int32))) := ⟨by simp, fun j hj => absurd hj (by omega)⟩
theorem own_Half.step {cs : List Int32} {i : Nat} {vs : List Value} (h : own_Half cs i vs) (hi : i < cs.length) : own_Half cs (i + 1) ((vs.set (2 * i) (.int (lo8 (cs.getD i 0)))).set (2 * i + 1) (.int (hi8 (cs.getD i 0)))) := by
  obtain ⟨h1, h2⟩ := h
  refine ⟨by simp [h1], fun j hj => ?_⟩
  by_cases q1 : j = 2 * i + 1
  · subst q1
    rw [wide_hi _ cs i hi, List.getD_eq_getElem?_getD, List.getElem?_set_self (by simp only [List.length_set]; omega)]; rfl
  · rw [List.getD_eq_getElem?_getD, List.getElem?_set_ne (Ne.symm q1)]
    by_cases q2 : j = 2 * i
    · subst q2
      rw [wide_lo _ cs i hi, List.getElem?_set_self (by omega)]; rfl
    · rw [List.getElem?_set_ne (Ne.symm q2), ← List.getD_eq_getElem?_getD]; exact h2 j (by omega)
theorem own_Half.full {cs : List Int32} {vs : List Value} (h : own_Half cs cs.length vs) : vs = wideBytes cs := by
  obtain ⟨h1, h2⟩ := h
  apply List.ext_getElem (by rw [h1, own_wlen])
  intro j q1 q2
  have := h2 j (by rw [h1] at q1; exact q1)
  rw [List.getD_eq_getElem?_getD, List.getD_eq_getElem?_getD, List.getElem?_eq_getElem q1, List.getElem?_eq_getElem q2] at this
  exact this
theorem own_cod {n : Nat} (h0 : 0 < n) (h : n ≤ 4000) : nar .byte ((((Int32.ofNat n) - (Int32.ofNat (2 * n))).toUInt32 >>> ((31 : Int32) &&& 31).toUInt32).toInt32.toInt8.toInt32) = 1 := by
  have q := c_isub (Int32.ofNat n) (Int32.ofNat (2 * n))
  have r := rng32 (Int32.ofNat n - Int32.ofNat (2 * n))
  rw [own_ti (by omega), own_ti (by omega)] at q
  have u := c_iushr (Int32.ofNat n - Int32.ofNat (2 * n)) (31 : Int32) 31 (by decide) (by decide)
  have e : (((Int32.ofNat n) - (Int32.ofNat (2 * n))).toUInt32 >>> ((31 : Int32) &&& 31).toUInt32).toInt32 = 1 := by
    apply Int32.toInt_inj.mp
    have e1 : (1 : Int32).toInt = 1 := by decide
    rw [u, e1]; omega
  rw [e]; decide
theorem own_shr1 {n : Nat} (h : n ≤ 4000) : Int32.ofNat (2 * n) >>> ((1 : Int32) &&& 31) = Int32.ofNat n := shr1 (by omega)
theorem own_char {cs : List Int32} {i : Nat} (h : i < cs.length) : (cs.map Value.int).getD i (.int 0) = .int (cs.getD i 0) := by
  rw [List.getD_eq_getElem?_getD, List.getElem?_map, List.getElem?_eq_getElem h, List.getD_eq_getElem?_getD, List.getElem?_eq_getElem h]; rfl
theorem own_first {cs : List Int32} {i : Nat} (hw : ∃ c ∈ cs, (255 : Int32) < c) (h : ∀ j, j < i → ¬ (255 : Int32) < cs.getD j 0) (hi : i ≤ cs.length) : i < cs.length := by
  by_cases q : i < cs.length
  · exact q
  · obtain ⟨c, hc, hc2⟩ := hw
    obtain ⟨j, hj, rfl⟩ := List.getElem_of_mem hc
    refine absurd ?_ (h j (by omega))
    rw [List.getD_eq_getElem?_getD, List.getElem?_eq_getElem hj]; exact hc2
theorem own_next {cs : List Int32} {i : Nat} (h : ∀ j, j < i → ¬ (255 : Int32) < cs.getD j 0) (k : ¬ (255 : Int32) < cs.getD i 0) : ∀ j, j < i + 1 → ¬ (255 : Int32) < cs.getD j 0 := fun j hj => by
  by_cases q : j = i
  · subst q; exact k
  · exact h j (by omega)
theorem own_ne32 {a b : Nat} (ha : a < 2 ^ 31) (hB : b < 2 ^ 31) (h : a < b) : ¬ Int32.ofNat a = Int32.ofNat b := fun q => by
  have := congrArg Int32.toInt q
  rw [own_ti ha, own_ti hB] at this; omega
theorem own_big {k : Nat} (h : k ≤ 4000) : Int32.ofNat k < (1073741823 : Int32) := by
  have e : (1073741823 : Int32).toInt = 1073741823 := by decide
  rw [Int32.lt_iff_toInt_lt, own_ti (by omega), e]; omega
theorem own_not0 {k : Nat} (h0 : 0 < k) (h : k ≤ 4000) : ¬ Int32.ofNat k = (0 : Int32) := fun q => by
  have e0 : (0 : Int32).toInt = 0 := by decide
  have := congrArg Int32.toInt q
  rw [own_ti (by omega), e0] at this; omega
end OwnU
def Q23 (Z : State) (p0 : Int32) (h0 : Heap) (n0 : Nat) (v : Option Value) (h : Heap) (L : List Loc) : Prop := v = some (.int p0) ∧ Fr n0 L ∧ h = h0
theorem ef_rm23 (m : MethodId) (x0 : Int32) (x1 : Int32) (x2 : Value) (c2 : x2.category = 1) : entryFrame m #[(.int x0), (.int x1), x2] 3 = mkF m 0 #[.val (.int x0), .val (.int x1), .val x2] [] := by first | (simp [entryFrame, mkF, argsToLocals, (show ((.int x0) : Value).category = 1 from rfl), (show ((.int x1) : Value).category = 1 from rfl), c2]; done) | rfl
theorem pn_jdk_internal_util_Preconditions : plainName "jdk/internal/util/Preconditions" = true := by first | (simp [plainName, overriddenIn]; done) | decide +kernel
theorem d23_0 : decode jdk_41_method_11_code 0 = .ok (.iload_n 0, 1) := by decide +kernel
theorem d23_1 : decode jdk_41_method_11_code 1 = .ok (.ifCond .lt 8, 3) := by decide +kernel
theorem d23_4 : decode jdk_41_method_11_code 4 = .ok (.iload_n 0, 1) := by decide +kernel
theorem d23_5 : decode jdk_41_method_11_code 5 = .ok (.iload_n 1, 1) := by decide +kernel
theorem d23_6 : decode jdk_41_method_11_code 6 = .ok (.if_icmp .lt 10, 3) := by decide +kernel
theorem d23_16 : decode jdk_41_method_11_code 16 = .ok (.iload_n 0, 1) := by decide +kernel
theorem d23_17 : decode jdk_41_method_11_code 17 = .ok (.ireturn, 1) := by decide +kernel
set_option maxRecDepth 65536 in
set_option maxHeartbeats 40000000 in
theorem rm23 (l : Launch) (Z : State) (a0 : Array Value) (hw : ∀ d ∈ tables_1, d.before a0 Z = true) (ws : List Jvm.Cond) (p0 p1 : Int32) (fm : Value) (h0 : Heap) (n0 : Nat) (Z0 : n0 ≤ h0.size) (k1 : ¬ p0 < (0 : Int32)) (k2 : p0 < p1) (c_fm : fm.category = 1) :
    MetFree l (⟨"jdk/internal/util/Preconditions", "checkIndex", "(IILjava/util/function/BiFunction;)I"⟩ : MethodName) (head1 (Jvm.Cond.code (⟨"jdk/internal/util/Preconditions", "checkIndex", "(IILjava/util/function/BiFunction;)I"⟩ : MethodName) jdk_41_method_11_code 3 (some .int) :: ws) ({ frames := 0, cells := 0, slots := 0, locals := 0 } : Room)) (fun aX UX => aX = #[(.int p0), (.int p1), fm] ∧ Z.Warmed39 UX.vm ∧ UX.heap = h0) (fun _ _ _ _ _ => True) (fun _ UX oX UX' => ∃ vX LX, oX = .returned vX ∧ Q23 Z p0 h0 n0 vX UX'.heap LX ∧ FrameEnd UX oX UX' LX ({ frames := 0, cells := 0, slots := 0, locals := 0 } : Room).cells ({ frames := 0, cells := 0, slots := 0, locals := 0 } : Room).slots) := by
  refine MetFree.of_bodySF (plainFor_of_name pn_jdk_internal_util_Preconditions) hisR ?_
  intro p e s m args below meth c s₁ Bd hml0 hP hK
  obtain ⟨rfl, hZ, hh⟩ := hP
  have hx := Bd.exec
  have hby := Bd.bytes
  have hml : c.maxLocals = 3 := hml0
  have hown : s.vm.findClass "jdk/internal/util/Preconditions" = some m.cls := findClass_of_methodNamed Bd.named
  have hnm := (name_of_methodNamed Bd.named Bd.method).1
  have X0 : Stand p l e ({ frames := 0, cells := 0, slots := 0, locals := 0 } : Room) s m #[(.int p0), (.int p1), fm] below meth c s₁ [] 0 0 := Stand.of_body Bd
  have e0 : s₁.heap = h0 := by rw [← hh, Bd.state]; rfl
  have N0 := Fr.nil n0
  show own_Comes p e below s ({ frames := 0, cells := 0, slots := 0, locals := 0 } : Room).cells ({ frames := 0, cells := 0, slots := 0, locals := 0 } : Room).slots (Q23 Z p0 h0 n0) _
  rw [show entryFrame m #[(.int p0), (.int p1), fm] 3 = mkF m 0 #[.val (.int p0), .val (.int p1), .val fm] [] from ef_rm23 m p0 p1 fm c_fm]
  show own_Comes p e below s _ _ _ (s₁.setTop (mkF m 0 #[.val (.int p0), .val (.int p1), .val fm] []))
  refine own_by (fun _ kS => XS.iloadN X0.here hx rfl (hb hby d23_0) rfl kS) ?_
  show own_Comes p e below s _ _ _ (s₁.setTop (mkF m 1 #[.val (.int p0), .val (.int p1), .val fm] [(.int p0)]))
  refine own_by (fun _ kS => XS.ifNo X0.here hx rfl (hb hby d23_1) rfl ((if0 _ _).trans (flt k1).1) kS) ?_
  show own_Comes p e below s _ _ _ (s₁.setTop (mkF m 4 #[.val (.int p0), .val (.int p1), .val fm] []))
  refine own_by (fun _ kS => XS.iloadN X0.here hx rfl (hb hby d23_4) rfl kS) ?_
  show own_Comes p e below s _ _ _ (s₁.setTop (mkF m 5 #[.val (.int p0), .val (.int p1), .val fm] [(.int p0)]))
  refine own_by (fun _ kS => XS.iloadN X0.here hx rfl (hb hby d23_5) rfl kS) ?_
  show own_Comes p e below s _ _ _ (s₁.setTop (mkF m 6 #[.val (.int p0), .val (.int p1), .val fm] [(.int p1), (.int p0)]))
  refine own_by (fun _ kS => XS.icmpYes X0.here hx rfl (pc0 := 6) (pc' := 16) rfl (hb hby d23_6) rfl (tlt k2).1 (by decide) (by decide) kS) ?_
  show own_Comes p e below s _ _ _ (s₁.setTop (mkF m 16 #[.val (.int p0), .val (.int p1), .val fm] []))
  refine own_by (fun _ kS => XS.iloadN X0.here hx rfl (hb hby d23_16) rfl kS) ?_
  show own_Comes p e below s _ _ _ (s₁.setTop (mkF m 17 #[.val (.int p0), .val (.int p1), .val fm] [(.int p0)]))
  refine own_ret X0 (v := some (.int p0)) (fun h => by rw [Bd.returns] at h; cases h) Bd.notSynchronized (by decide) (by decide) ?_ (fun fs hr => retI X0 hx Bd.returns (hb hby d23_17) hr)
  rw [e0]; exact ⟨rfl, N0, rfl⟩
def Q22 (Z : State)  (h0 : Heap) (n0 : Nat) (v : Option Value) (h : Heap) (L : List Loc) : Prop := v = none ∧ Fr n0 L ∧ h = h0
theorem ef_rm22 (m : MethodId) (x0 : Int32) (x1 : Int32) : entryFrame m #[(.int x0), (.int x1)] 2 = mkF m 0 #[.val (.int x0), .val (.int x1)] [] := by first | (simp [entryFrame, mkF, argsToLocals, Value.category]; done) | rfl
theorem pn_java_lang_String : plainName "java/lang/String" = true := by first | (simp [plainName, overriddenIn]; done) | decide +kernel
theorem d22_0 : decode jdk_42_method_155_code 0 = .ok (.iload_n 0, 1) := by decide +kernel
theorem d22_1 : decode jdk_42_method_155_code 1 = .ok (.iload_n 1, 1) := by decide +kernel
theorem d22_2 : decode jdk_42_method_155_code 2 = .ok (.getstatic 1053, 3) := by decide +kernel
theorem pd__IILjava_util_function_BiFunction__I_328 : parseMethodDescriptor "(IILjava/util/function/BiFunction;)I" = some ⟨[.int, .int, (.object "java/util/function/BiFunction")], some .int⟩ := by decide +kernel
theorem d22_5 : decode jdk_42_method_155_code 5 = .ok (.invokestatic 1059, 3) := by decide +kernel
theorem d22_8 : decode jdk_42_method_155_code 8 = .ok (.pop, 1) := by decide +kernel
theorem d22_9 : decode jdk_42_method_155_code 9 = .ok (.return_, 1) := by decide +kernel
set_option maxRecDepth 65536 in
set_option maxHeartbeats 40000000 in
theorem rm22 (l : Launch) (Z : State) (a0 : Array Value) (hw : ∀ d ∈ tables_1, d.before a0 Z = true) (ws : List Jvm.Cond) (p0 p1 : Int32) (fm : Value) (h0 : Heap) (n0 : Nat) (Z0 : n0 ≤ h0.size) (O0 : Old Z n0 h0) (Sf : Sta Z Z.heap "jdk/internal/util/Preconditions" "SIOOBE_FORMATTER" "Ljava/util/function/BiFunction;" fm) (i_fm : fm.isRef = true) (k1 : ¬ p0 < (0 : Int32)) (k2 : p0 < p1) :
    MetFree l (⟨"java/lang/String", "checkIndex", "(II)V"⟩ : MethodName) (head1 (Jvm.Cond.code (⟨"java/lang/String", "checkIndex", "(II)V"⟩ : MethodName) jdk_42_method_155_code 2 none :: ws) ({ frames := 1, cells := 0, slots := 0, locals := 14 } : Room)) (fun aX UX => aX = #[(.int p0), (.int p1)] ∧ Z.Warmed39 UX.vm ∧ UX.heap = h0) (fun _ _ _ _ _ => True) (fun _ UX oX UX' => ∃ vX LX, oX = .returned vX ∧ Q22 Z  h0 n0 vX UX'.heap LX ∧ FrameEnd UX oX UX' LX ({ frames := 1, cells := 0, slots := 0, locals := 14 } : Room).cells ({ frames := 1, cells := 0, slots := 0, locals := 14 } : Room).slots) := by
  refine MetFree.of_bodySF (plainFor_of_name pn_java_lang_String) hisR ?_
  intro p e s m args below meth c s₁ Bd hml0 hP hK
  obtain ⟨rfl, hZ, hh⟩ := hP
  have hx := Bd.exec
  have hby := Bd.bytes
  have hml : c.maxLocals = 2 := hml0
  have hown : s.vm.findClass "java/lang/String" = some m.cls := findClass_of_methodNamed Bd.named
  have hnm := (name_of_methodNamed Bd.named Bd.method).1
  have X0 : Stand p l e ({ frames := 1, cells := 0, slots := 0, locals := 14 } : Room) s m #[(.int p0), (.int p1)] below meth c s₁ [] 0 0 := Stand.of_body Bd
  have e0 : s₁.heap = h0 := by rw [← hh, Bd.state]; rfl
  have N0 := Fr.nil n0
  show own_Comes p e below s ({ frames := 1, cells := 0, slots := 0, locals := 14 } : Room).cells ({ frames := 1, cells := 0, slots := 0, locals := 14 } : Room).slots (Q22 Z  h0 n0) _
  rw [show entryFrame m #[(.int p0), (.int p1)] 2 = mkF m 0 #[.val (.int p0), .val (.int p1)] [] from ef_rm22 m p0 p1]
  show own_Comes p e below s _ _ _ (s₁.setTop (mkF m 0 #[.val (.int p0), .val (.int p1)] []))
  refine own_by (fun _ kS => XS.iloadN X0.here hx rfl (hb hby d22_0) rfl kS) ?_
  show own_Comes p e below s _ _ _ (s₁.setTop (mkF m 1 #[.val (.int p0), .val (.int p1)] [(.int p0)]))
  refine own_by (fun _ kS => XS.iloadN X0.here hx rfl (hb hby d22_1) rfl kS) ?_
  show own_Comes p e below s _ _ _ (s₁.setTop (mkF m 2 #[.val (.int p0), .val (.int p1)] [(.int p1), (.int p0)]))
  obtain ⟨T1, X1, e1, st1⟩ := getS2 X0 hx hZ hown (host := "") (Or.inl (hw _ (List.mem_of_getElem? (i := 98) rfl))) Via.refl e0 (Sf.ext O0.2) (g := (mkF m 2 #[.val (.int p0), .val (.int p1)] [(.int p1), (.int p0)])) rfl (hb hby d22_2)
  refine own_by st1 ?_
  show own_Comes p e below s _ _ _ (T1.setTop (mkF m 5 #[.val (.int p0), .val (.int p1)] [fm, (.int p1), (.int p0)]))
  obtain ⟨vv2, _, ⟨T2, L2, k2, n2⟩, -, X2, ⟨Lc2, hQ2, l2, y2, z2⟩, st2⟩ := Jvm.LawKit.callS X1 hx (y := (⟨"jdk/internal/util/Preconditions", "checkIndex", "(IILjava/util/function/BiFunction;)I"⟩ : MethodName)) hown (mvT hZ (hw _ (List.mem_of_getElem? (i := 100) rfl))) (mvT hZ (hw _ (List.mem_of_getElem? (i := 101) rfl))) (mvT hZ (hw _ (List.mem_of_getElem? (i := 99) rfl))) (mvT hZ (hw _ (List.mem_of_getElem? (i := 102) rfl))) (by decide) (backOf (W := 0) (rm23 l Z a0 hw [] p0 p1 fm h0 n0 Z0 k1 k2 (own_cat i_fm)) hZ (hw _ (List.mem_of_getElem? (i := 102) rfl)) (hw _ (List.mem_of_getElem? (i := 99) rfl)) (by decide) (by decide)) (g := (mkF m 5 #[.val (.int p0), .val (.int p1)] [fm, (.int p1), (.int p0)])) rfl (by rw [hml]; rfl) (argsL := [(.int p0), (.int p1), fm]) (rest := []) (lenOf pd__IILjava_util_function_BiFunction__I_328 rfl) rfl (by show 2 * 0 + _ ≤ _; exact Nat.le_of_eq rfl) (hb hby d22_5) (fun _ _ => ⟨rfl, e1, (by decide : 0 + 0 ≤ _), (by decide : 0 + 0 ≤ _)⟩)
  dsimp only [Pt.U, Pt.locs, Pt.cells, Pt.slots] at X2 l2 y2 z2 st2 hQ2
  subst l2 y2 z2
  obtain ⟨rfl, N2q, e2q⟩ := hQ2
  have N2 := Fr.app N0 N2q
  refine own_by st2 ?_
  have e2 : T2.heap = h0 := e2q
  show own_Comes p e below s _ _ _ (T2.setTop (mkF m 8 #[.val (.int p0), .val (.int p1)] [(.int p0)]))
  refine own_by (fun _ kS => XS.pop X2.here hx rfl (hb hby d22_8) rfl rfl kS) ?_
  show own_Comes p e below s _ _ _ (T2.setTop (mkF m 9 #[.val (.int p0), .val (.int p1)] []))
  refine own_ret X2 (v := none) (fun _ => rfl) Bd.notSynchronized (by decide) (by decide) ?_ (fun fs hr => X2.returnOut hx Bd.returns (hb hby d22_9) hr)
  rw [e2]; exact ⟨rfl, N2, rfl⟩
def Q33 (Z : State) (n : Nat) (h0 : Heap) (n0 : Nat) (v : Option Value) (h : Heap) (L : List Loc) : Prop := v = some (.int (Int32.ofNat n)) ∧ Fr n0 L ∧ h = h0
theorem ef_rm33 (m : MethodId) (x0 : Addr) : entryFrame m #[(.ref x0)] 1 = mkF m 0 #[.val (.ref x0)] [] := by first | (simp [entryFrame, mkF, argsToLocals, Value.category]; done) | rfl
theorem pn_java_lang_StringUTF16 : plainName "java/lang/StringUTF16" = true := by first | (simp [plainName, overriddenIn]; done) | decide +kernel
theorem d33_0 : decode jdk_52_method_6_code 0 = .ok (.aload_n 0, 1) := by decide +kernel
theorem d33_1 : decode jdk_52_method_6_code 1 = .ok (.arraylength, 1) := by decide +kernel
theorem d33_2 : decode jdk_52_method_6_code 2 = .ok (.iconst 1, 1) := by decide +kernel
theorem d33_3 : decode jdk_52_method_6_code 3 = .ok (.ishr, 1) := by decide +kernel
theorem d33_4 : decode jdk_52_method_6_code 4 = .ok (.ireturn, 1) := by decide +kernel
set_option maxRecDepth 65536 in
set_option maxHeartbeats 40000000 in
theorem rm33 (l : Launch) (Z : State) (a0 : Array Value) (hw : ∀ d ∈ tables_1, d.before a0 Z = true) (ws : List Jvm.Cond) (r0 : Addr) (kb : ClassId) (cs : List Int32) (h0 : Heap) (n0 : Nat) (Z0 : n0 ≤ h0.size) (Va : Arv Z h0 r0 kb .byte (Int32.ofNat (2 * cs.length)) (StrChars.Road.wideBytes cs) (.int 0)) (hl : cs.length ≤ 4000) :
    MetFree l (⟨"java/lang/StringUTF16", "length", "([B)I"⟩ : MethodName) (head1 (Jvm.Cond.code (⟨"java/lang/StringUTF16", "length", "([B)I"⟩ : MethodName) jdk_52_method_6_code 1 (some .int) :: ws) ({ frames := 0, cells := 0, slots := 0, locals := 0 } : Room)) (fun aX UX => aX = #[(.ref r0)] ∧ Z.Warmed39 UX.vm ∧ UX.heap = h0) (fun _ _ _ _ _ => True) (fun _ UX oX UX' => ∃ vX LX, oX = .returned vX ∧ Q33 Z cs.length h0 n0 vX UX'.heap LX ∧ FrameEnd UX oX UX' LX ({ frames := 0, cells := 0, slots := 0, locals := 0 } : Room).cells ({ frames := 0, cells := 0, slots := 0, locals := 0 } : Room).slots) := by
  refine MetFree.of_bodySF (plainFor_of_name pn_java_lang_StringUTF16) hisR ?_
  intro p e s m args below meth c s₁ Bd hml0 hP hK
  obtain ⟨rfl, hZ, hh⟩ := hP
  have hx := Bd.exec
  have hby := Bd.bytes
  have hml : c.maxLocals = 1 := hml0
  have hown : s.vm.findClass "java/lang/StringUTF16" = some m.cls := findClass_of_methodNamed Bd.named
  have hnm := (name_of_methodNamed Bd.named Bd.method).1
  have X0 : Stand p l e ({ frames := 0, cells := 0, slots := 0, locals := 0 } : Room) s m #[(.ref r0)] below meth c s₁ [] 0 0 := Stand.of_body Bd
  have e0 : s₁.heap = h0 := by rw [← hh, Bd.state]; rfl
  have N0 := Fr.nil n0
  show own_Comes p e below s ({ frames := 0, cells := 0, slots := 0, locals := 0 } : Room).cells ({ frames := 0, cells := 0, slots := 0, locals := 0 } : Room).slots (Q33 Z cs.length h0 n0) _
  rw [show entryFrame m #[(.ref r0)] 1 = mkF m 0 #[.val (.ref r0)] [] from ef_rm33 m r0]
  show own_Comes p e below s _ _ _ (s₁.setTop (mkF m 0 #[.val (.ref r0)] []))
  refine own_by (fun _ kS => XS.aloadN X0.here hx rfl (hb hby d33_0) rfl rfl kS) ?_
  show own_Comes p e below s _ _ _ (s₁.setTop (mkF m 1 #[.val (.ref r0)] [(.ref r0)]))
  have Vo3 := Va
  obtain ⟨cl3, Ar3, qA3, SA3, NA3, HA3, GA3⟩ := Vo3
  refine own_by (fun _ kS => X0.arraylength hx (by rw [e0]; exact Ar3.1) (State.isArrayOf_alike hZ.alike Ar3.2.1) (g := (mkF m 1 #[.val (.ref r0)] [(.ref r0)])) rfl rfl (hb hby d33_1) _ kS) ?_
  rw [len_of SA3 NA3]
  show own_Comes p e below s _ _ _ (s₁.setTop (mkF m 2 #[.val (.ref r0)] [(.int (Int32.ofNat (2 * cs.length)))]))
  refine own_by (fun _ kS => XS.iconst X0.here hx rfl (hb hby d33_2) kS) ?_
  show own_Comes p e below s _ _ _ (s₁.setTop (mkF m 3 #[.val (.ref r0)] [(.int (1 : Int32)), (.int (Int32.ofNat (2 * cs.length)))]))
  refine own_by (fun _ kS => XS.ishr X0.here hx rfl (hb hby d33_3) rfl kS) ?_
  show own_Comes p e below s _ _ _ (s₁.setTop (mkF m 4 #[.val (.ref r0)] [(.int ((Int32.ofNat (2 * cs.length)) >>> ((1 : Int32) &&& 31)))]))
  rw [show ((Int32.ofNat (2 * cs.length)) >>> ((1 : Int32) &&& 31)) = (Int32.ofNat cs.length) from own_shr1 hl]
  show own_Comes p e below s _ _ _ (s₁.setTop (mkF m 4 #[.val (.ref r0)] [(.int (Int32.ofNat cs.length))]))
  refine own_ret X0 (v := some (.int (Int32.ofNat cs.length))) (fun h => by rw [Bd.returns] at h; cases h) Bd.notSynchronized (by decide) (by decide) ?_ (fun fs hr => retI X0 hx Bd.returns (hb hby d33_4) hr)
  rw [e0]; exact ⟨rfl, N0, rfl⟩
def Q32 (Z : State)  (h0 : Heap) (n0 : Nat) (v : Option Value) (h : Heap) (L : List Loc) : Prop := v = none ∧ Fr n0 L ∧ h = h0
theorem ef_rm32 (m : MethodId) (x0 : Int32) (x1 : Addr) : entryFrame m #[(.int x0), (.ref x1)] 2 = mkF m 0 #[.val (.int x0), .val (.ref x1)] [] := by first | (simp [entryFrame, mkF, argsToLocals, Value.category]; done) | rfl
theorem d32_0 : decode jdk_52_method_91_code 0 = .ok (.iload_n 0, 1) := by decide +kernel
theorem d32_1 : decode jdk_52_method_91_code 1 = .ok (.aload_n 1, 1) := by decide +kernel
theorem pd___B_I_311 : parseMethodDescriptor "([B)I" = some ⟨[(.array .byte)], some .int⟩ := by decide +kernel
theorem d32_2 : decode jdk_52_method_91_code 2 = .ok (.invokestatic 48, 3) := by decide +kernel
theorem pd__II_V_313 : parseMethodDescriptor "(II)V" = some ⟨[.int, .int], none⟩ := by decide +kernel
theorem d32_5 : decode jdk_52_method_91_code 5 = .ok (.invokestatic 414, 3) := by decide +kernel
theorem d32_8 : decode jdk_52_method_91_code 8 = .ok (.return_, 1) := by decide +kernel
set_option maxRecDepth 65536 in
set_option maxHeartbeats 40000000 in
theorem rm32 (l : Launch) (Z : State) (a0 : Array Value) (hw : ∀ d ∈ tables_1, d.before a0 Z = true) (ws : List Jvm.Cond) (i : Nat) (r1 : Addr) (kb : ClassId) (cs : List Int32) (fm : Value) (h0 : Heap) (n0 : Nat) (Z0 : n0 ≤ h0.size) (O0 : Old Z n0 h0) (Sf : Sta Z Z.heap "jdk/internal/util/Preconditions" "SIOOBE_FORMATTER" "Ljava/util/function/BiFunction;" fm) (i_fm : fm.isRef = true) (Va : Arv Z h0 r1 kb .byte (Int32.ofNat (2 * cs.length)) (StrChars.Road.wideBytes cs) (.int 0)) (hl : cs.length ≤ 4000) (hi : i < cs.length) :
    MetFree l (⟨"java/lang/StringUTF16", "checkIndex", "(I[B)V"⟩ : MethodName) (head1 (Jvm.Cond.code (⟨"java/lang/StringUTF16", "checkIndex", "(I[B)V"⟩ : MethodName) jdk_52_method_91_code 2 none :: ws) ({ frames := 2, cells := 0, slots := 0, locals := 27 } : Room)) (fun aX UX => aX = #[(.int (Int32.ofNat i)), (.ref r1)] ∧ Z.Warmed39 UX.vm ∧ UX.heap = h0) (fun _ _ _ _ _ => True) (fun _ UX oX UX' => ∃ vX LX, oX = .returned vX ∧ Q32 Z  h0 n0 vX UX'.heap LX ∧ FrameEnd UX oX UX' LX ({ frames := 2, cells := 0, slots := 0, locals := 27 } : Room).cells ({ frames := 2, cells := 0, slots := 0, locals := 27 } : Room).slots) := by
  refine MetFree.of_bodySF (plainFor_of_name pn_java_lang_StringUTF16) hisR ?_
  intro p e s m args below meth c s₁ Bd hml0 hP hK
  obtain ⟨rfl, hZ, hh⟩ := hP
  have hx := Bd.exec
  have hby := Bd.bytes
  have hml : c.maxLocals = 2 := hml0
  have hown : s.vm.findClass "java/lang/StringUTF16" = some m.cls := findClass_of_methodNamed Bd.named
  have hnm := (name_of_methodNamed Bd.named Bd.method).1
  have X0 : Stand p l e ({ frames := 2, cells := 0, slots := 0, locals := 27 } : Room) s m #[(.int (Int32.ofNat i)), (.ref r1)] below meth c s₁ [] 0 0 := Stand.of_body Bd
  have e0 : s₁.heap = h0 := by rw [← hh, Bd.state]; rfl
  have N0 := Fr.nil n0
  show own_Comes p e below s ({ frames := 2, cells := 0, slots := 0, locals := 27 } : Room).cells ({ frames := 2, cells := 0, slots := 0, locals := 27 } : Room).slots (Q32 Z  h0 n0) _
  rw [show entryFrame m #[(.int (Int32.ofNat i)), (.ref r1)] 2 = mkF m 0 #[.val (.int (Int32.ofNat i)), .val (.ref r1)] [] from ef_rm32 m (Int32.ofNat i) r1]
  show own_Comes p e below s _ _ _ (s₁.setTop (mkF m 0 #[.val (.int (Int32.ofNat i)), .val (.ref r1)] []))
  refine own_by (fun _ kS => XS.iloadN X0.here hx rfl (hb hby d32_0) rfl kS) ?_
  show own_Comes p e below s _ _ _ (s₁.setTop (mkF m 1 #[.val (.int (Int32.ofNat i)), .val (.ref r1)] [(.int (Int32.ofNat i))]))
  refine own_by (fun _ kS => XS.aloadN X0.here hx rfl (hb hby d32_1) rfl rfl kS) ?_
  show own_Comes p e below s _ _ _ (s₁.setTop (mkF m 2 #[.val (.int (Int32.ofNat i)), .val (.ref r1)] [(.ref r1), (.int (Int32.ofNat i))]))
  obtain ⟨vv4, _, ⟨T4, L4, k4, n4⟩, -, X4, ⟨Lc4, hQ4, l4, y4, z4⟩, st4⟩ := Jvm.LawKit.callS X0 hx (y := (⟨"java/lang/StringUTF16", "length", "([B)I"⟩ : MethodName)) hown (mvT hZ (hw _ (List.mem_of_getElem? (i := 151) rfl))) (mvT hZ (hw _ (List.mem_of_getElem? (i := 152) rfl))) (mvT hZ (hw _ (List.mem_of_getElem? (i := 24) rfl))) (mvT hZ (hw _ (List.mem_of_getElem? (i := 153) rfl))) (by decide) (backOf (W := 1) (rm33 l Z a0 hw [] r1 kb cs h0 n0 Z0 Va hl) hZ (hw _ (List.mem_of_getElem? (i := 153) rfl)) (hw _ (List.mem_of_getElem? (i := 24) rfl)) (by decide) (by decide)) (g := (mkF m 2 #[.val (.int (Int32.ofNat i)), .val (.ref r1)] [(.ref r1), (.int (Int32.ofNat i))])) rfl (by rw [hml]; rfl) (argsL := [(.ref r1)]) (rest := [(.int (Int32.ofNat i))]) (lenOf pd___B_I_311 rfl) rfl (by show 2 * 0 + _ ≤ _; exact Nat.le_of_eq rfl) (hb hby d32_2) (fun _ _ => ⟨rfl, e0, (by decide : 0 + 0 ≤ _), (by decide : 0 + 0 ≤ _)⟩)
  dsimp only [Pt.U, Pt.locs, Pt.cells, Pt.slots] at X4 l4 y4 z4 st4 hQ4
  subst l4 y4 z4
  obtain ⟨rfl, N4q, e4q⟩ := hQ4
  have N4 := Fr.app N0 N4q
  refine own_by st4 ?_
  have e4 : T4.heap = h0 := e4q
  show own_Comes p e below s _ _ _ (T4.setTop (mkF m 5 #[.val (.int (Int32.ofNat i)), .val (.ref r1)] [(.int (Int32.ofNat cs.length)), (.int (Int32.ofNat i))]))
  obtain ⟨vv5, _, ⟨T5, L5, k5, n5⟩, -, X5, ⟨Lc5, hQ5, l5, y5, z5⟩, st5⟩ := Jvm.LawKit.callS X4 hx (y := (⟨"java/lang/String", "checkIndex", "(II)V"⟩ : MethodName)) hown (mvT hZ (hw _ (List.mem_of_getElem? (i := 154) rfl))) (mvT hZ (hw _ (List.mem_of_getElem? (i := 96) rfl))) (mvT hZ (hw _ (List.mem_of_getElem? (i := 10) rfl))) (mvT hZ (hw _ (List.mem_of_getElem? (i := 97) rfl))) (by decide) (backOf (W := 0) (rm22 l Z a0 hw [] (Int32.ofNat i) (Int32.ofNat cs.length) fm h0 n0 Z0 O0 Sf i_fm (own_neg (by omega)) ((own_lt (by omega) (by omega)).mpr hi)) hZ (hw _ (List.mem_of_getElem? (i := 97) rfl)) (hw _ (List.mem_of_getElem? (i := 10) rfl)) (by decide) (by decide)) (g := (mkF m 5 #[.val (.int (Int32.ofNat i)), .val (.ref r1)] [(.int (Int32.ofNat cs.length)), (.int (Int32.ofNat i))])) rfl (by rw [hml]; rfl) (argsL := [(.int (Int32.ofNat i)), (.int (Int32.ofNat cs.length))]) (rest := []) (lenOf pd__II_V_313 rfl) rfl (by show 2 * 0 + _ ≤ _; exact Nat.le_of_eq rfl) (hb hby d32_5) (fun _ _ => ⟨rfl, e4, (by decide : 0 + 0 ≤ _), (by decide : 0 + 0 ≤ _)⟩)
  dsimp only [Pt.U, Pt.locs, Pt.cells, Pt.slots] at X5 l5 y5 z5 st5 hQ5
  subst l5 y5 z5
  obtain ⟨rfl, N5q, e5q⟩ := hQ5
  have N5 := Fr.app N4 N5q
  refine own_by st5 ?_
  have e5 : T5.heap = h0 := e5q
  show own_Comes p e below s _ _ _ (T5.setTop (mkF m 8 #[.val (.int (Int32.ofNat i)), .val (.ref r1)] []))
  refine own_ret X5 (v := none) (fun _ => rfl) Bd.notSynchronized (by decide) (by decide) ?_ (fun fs hr => X5.returnOut hx Bd.returns (hb hby d32_8) hr)
  rw [e5]; exact ⟨rfl, N5, rfl⟩
def Q13 (Z : State) (c : Int32) (h0 : Heap) (n0 : Nat) (v : Option Value) (h : Heap) (L : List Loc) : Prop := v = some (.int c) ∧ Fr n0 L ∧ h = h0
theorem ef_rm13 (m : MethodId) (x0 : Addr) (x1 : Int32) : entryFrame m #[(.ref x0), (.int x1)] 2 = mkF m 0 #[.val (.ref x0), .val (.int x1)] [] := by first | (simp [entryFrame, mkF, argsToLocals, Value.category]; done) | rfl
theorem d13_0 : decode jdk_52_method_5_code 0 = .ok (.getstatic 44, 3) := by decide +kernel
theorem d13_3 : decode jdk_52_method_5_code 3 = .ok (.ifCond .ne 25, 3) := by decide +kernel
theorem d13_28 : decode jdk_52_method_5_code 28 = .ok (.iload_n 1, 1) := by decide +kernel
theorem d13_29 : decode jdk_52_method_5_code 29 = .ok (.iconst 1, 1) := by decide +kernel
theorem d13_30 : decode jdk_52_method_5_code 30 = .ok (.ishl, 1) := by decide +kernel
theorem d13_31 : decode jdk_52_method_5_code 31 = .ok (.istore_n 1, 1) := by decide +kernel
theorem d13_32 : decode jdk_52_method_5_code 32 = .ok (.aload_n 0, 1) := by decide +kernel
theorem d13_33 : decode jdk_52_method_5_code 33 = .ok (.iload_n 1, 1) := by decide +kernel
theorem d13_34 : decode jdk_52_method_5_code 34 = .ok (.iinc 1 1, 3) := by decide +kernel
theorem d13_37 : decode jdk_52_method_5_code 37 = .ok (.baload, 1) := by decide +kernel
theorem d13_38 : decode jdk_52_method_5_code 38 = .ok (.sipush 255, 3) := by decide +kernel
theorem d13_41 : decode jdk_52_method_5_code 41 = .ok (.iand, 1) := by decide +kernel
theorem d13_42 : decode jdk_52_method_5_code 42 = .ok (.getstatic 59, 3) := by decide +kernel
theorem d13_45 : decode jdk_52_method_5_code 45 = .ok (.ishl, 1) := by decide +kernel
theorem d13_46 : decode jdk_52_method_5_code 46 = .ok (.aload_n 0, 1) := by decide +kernel
theorem d13_47 : decode jdk_52_method_5_code 47 = .ok (.iload_n 1, 1) := by decide +kernel
theorem d13_48 : decode jdk_52_method_5_code 48 = .ok (.baload, 1) := by decide +kernel
theorem d13_49 : decode jdk_52_method_5_code 49 = .ok (.sipush 255, 3) := by decide +kernel
theorem d13_52 : decode jdk_52_method_5_code 52 = .ok (.iand, 1) := by decide +kernel
theorem d13_53 : decode jdk_52_method_5_code 53 = .ok (.getstatic 63, 3) := by decide +kernel
theorem d13_56 : decode jdk_52_method_5_code 56 = .ok (.ishl, 1) := by decide +kernel
theorem d13_57 : decode jdk_52_method_5_code 57 = .ok (.ior, 1) := by decide +kernel
theorem d13_58 : decode jdk_52_method_5_code 58 = .ok (.i2c, 1) := by decide +kernel
theorem d13_59 : decode jdk_52_method_5_code 59 = .ok (.ireturn, 1) := by decide +kernel
set_option maxRecDepth 65536 in
set_option maxHeartbeats 40000000 in
theorem rm13 (l : Launch) (Z : State) (a0 : Array Value) (hw : ∀ d ∈ tables_1, d.before a0 Z = true) (ws : List Jvm.Cond) (r0 : Addr) (i : Nat) (kb : ClassId) (cs : List Int32) (h0 : Heap) (n0 : Nat) (Z0 : n0 ≤ h0.size) (O0 : Old Z n0 h0) (Sd : Sta Z Z.heap "java/lang/StringUTF16" "$assertionsDisabled" "Z" (.int (1 : Int32))) (Sh : Sta Z Z.heap "java/lang/StringUTF16" "HI_BYTE_SHIFT" "I" (.int (0 : Int32))) (Sl : Sta Z Z.heap "java/lang/StringUTF16" "LO_BYTE_SHIFT" "I" (.int (8 : Int32))) (Va : Arv Z h0 r0 kb .byte (Int32.ofNat (2 * cs.length)) (StrChars.Road.wideBytes cs) (.int 0)) (hl : cs.length ≤ 4000) (hi : i < cs.length) (hB : ∀ c ∈ cs, ¬ c < 0 ∧ ¬ (65535 : Int32) < c) :
    MetFree l (⟨"java/lang/StringUTF16", "getChar", "([BI)C"⟩ : MethodName) (head1 (Jvm.Cond.code (⟨"java/lang/StringUTF16", "getChar", "([BI)C"⟩ : MethodName) jdk_52_method_5_code 2 (some .char) :: ws) ({ frames := 0, cells := 0, slots := 0, locals := 0 } : Room)) (fun aX UX => aX = #[(.ref r0), (.int (Int32.ofNat i))] ∧ Z.Warmed39 UX.vm ∧ UX.heap = h0) (fun _ _ _ _ _ => True) (fun _ UX oX UX' => ∃ vX LX, oX = .returned vX ∧ Q13 Z (cs.getD i 0) h0 n0 vX UX'.heap LX ∧ FrameEnd UX oX UX' LX ({ frames := 0, cells := 0, slots := 0, locals := 0 } : Room).cells ({ frames := 0, cells := 0, slots := 0, locals := 0 } : Room).slots) := by
  refine MetFree.of_bodySF (plainFor_of_name pn_java_lang_StringUTF16) hisR ?_
  intro p e s m args below meth c s₁ Bd hml0 hP hK
  obtain ⟨rfl, hZ, hh⟩ := hP
  have hx := Bd.exec
  have hby := Bd.bytes
  have hml : c.maxLocals = 2 := hml0
  have hown : s.vm.findClass "java/lang/StringUTF16" = some m.cls := findClass_of_methodNamed Bd.named
  have hnm := (name_of_methodNamed Bd.named Bd.method).1
  have X0 : Stand p l e ({ frames := 0, cells := 0, slots := 0, locals := 0 } : Room) s m #[(.ref r0), (.int (Int32.ofNat i))] below meth c s₁ [] 0 0 := Stand.of_body Bd
  have e0 : s₁.heap = h0 := by rw [← hh, Bd.state]; rfl
  have N0 := Fr.nil n0
  show own_Comes p e below s ({ frames := 0, cells := 0, slots := 0, locals := 0 } : Room).cells ({ frames := 0, cells := 0, slots := 0, locals := 0 } : Room).slots (Q13 Z (cs.getD i 0) h0 n0) _
  rw [show entryFrame m #[(.ref r0), (.int (Int32.ofNat i))] 2 = mkF m 0 #[.val (.ref r0), .val (.int (Int32.ofNat i))] [] from ef_rm13 m r0 (Int32.ofNat i)]
  show own_Comes p e below s _ _ _ (s₁.setTop (mkF m 0 #[.val (.ref r0), .val (.int (Int32.ofNat i))] []))
  obtain ⟨T6, X6, e6, st6⟩ := getS2 X0 hx hZ hown (host := "") (Or.inl (hw _ (List.mem_of_getElem? (i := 53) rfl))) Via.refl e0 (Sd.ext O0.2) (g := (mkF m 0 #[.val (.ref r0), .val (.int (Int32.ofNat i))] [])) rfl (hb hby d13_0)
  refine own_by st6 ?_
  show own_Comes p e below s _ _ _ (T6.setTop (mkF m 3 #[.val (.ref r0), .val (.int (Int32.ofNat i))] [(.int (1 : Int32))]))
  have hb7 : ¬ ((1 : Int32) = (0 : Int32)) := by decide
  refine own_by (fun _ kS => XS.ifYes X6.here hx rfl (pc0 := 3) (pc' := 28) rfl (hb hby d13_3) rfl ((if0 _ _).trans (feq hb7).2) (by decide) (by decide) kS) ?_
  show own_Comes p e below s _ _ _ (T6.setTop (mkF m 28 #[.val (.ref r0), .val (.int (Int32.ofNat i))] []))
  refine own_by (fun _ kS => XS.iloadN X6.here hx rfl (hb hby d13_28) rfl kS) ?_
  show own_Comes p e below s _ _ _ (T6.setTop (mkF m 29 #[.val (.ref r0), .val (.int (Int32.ofNat i))] [(.int (Int32.ofNat i))]))
  refine own_by (fun _ kS => XS.iconst X6.here hx rfl (hb hby d13_29) kS) ?_
  show own_Comes p e below s _ _ _ (T6.setTop (mkF m 30 #[.val (.ref r0), .val (.int (Int32.ofNat i))] [(.int (1 : Int32)), (.int (Int32.ofNat i))]))
  refine own_by (fun _ kS => XS.ishl X6.here hx rfl (hb hby d13_30) rfl kS) ?_
  show own_Comes p e below s _ _ _ (T6.setTop (mkF m 31 #[.val (.ref r0), .val (.int (Int32.ofNat i))] [(.int ((Int32.ofNat i) <<< ((1 : Int32) &&& 31)))]))
  rw [show ((Int32.ofNat i) <<< ((1 : Int32) &&& 31)) = (Int32.ofNat (2 * i)) from own_shl (by omega)]
  show own_Comes p e below s _ _ _ (T6.setTop (mkF m 31 #[.val (.ref r0), .val (.int (Int32.ofNat i))] [(.int (Int32.ofNat (2 * i)))]))
  refine own_by (fun _ kS => XS.istoreN X6.here hx rfl (hb hby d13_31) rfl (l' := #[.val (.ref r0), .val (.int (Int32.ofNat (2 * i)))]) rfl kS) ?_
  show own_Comes p e below s _ _ _ (T6.setTop (mkF m 32 #[.val (.ref r0), .val (.int (Int32.ofNat (2 * i)))] []))
  refine own_by (fun _ kS => XS.aloadN X6.here hx rfl (hb hby d13_32) rfl rfl kS) ?_
  show own_Comes p e below s _ _ _ (T6.setTop (mkF m 33 #[.val (.ref r0), .val (.int (Int32.ofNat (2 * i)))] [(.ref r0)]))
  refine own_by (fun _ kS => XS.iloadN X6.here hx rfl (hb hby d13_33) rfl kS) ?_
  show own_Comes p e below s _ _ _ (T6.setTop (mkF m 34 #[.val (.ref r0), .val (.int (Int32.ofNat (2 * i)))] [(.int (Int32.ofNat (2 * i))), (.ref r0)]))
  refine own_by (fun _ kS => XS.iinc X6.here hx rfl (hb hby d13_34) rfl (l' := #[.val (.ref r0), .val (.int ((Int32.ofNat (2 * i)) + (1 : Int32)))]) rfl kS) ?_
  show own_Comes p e below s _ _ _ (T6.setTop (mkF m 37 #[.val (.ref r0), .val (.int ((Int32.ofNat (2 * i)) + (1 : Int32)))] [(.int (Int32.ofNat (2 * i))), (.ref r0)]))
  rw [show ((Int32.ofNat (2 * i)) + (1 : Int32)) = (Int32.ofNat (2 * i + 1)) from own_succ (by omega)]
  show own_Comes p e below s _ _ _ (T6.setTop (mkF m 37 #[.val (.ref r0), .val (.int (Int32.ofNat (2 * i + 1)))] [(.int (Int32.ofNat (2 * i))), (.ref r0)]))
  have Vo8 := Va
  obtain ⟨cl8, Ar8, qA8, SA8, NA8, HA8, GA8⟩ := Vo8
  have hin8 : ¬ ((Int32.ofNat (2 * i)) < 0 ∨ cl8.slots.size ≤ ((Int32.ofNat (2 * i))).toNatClampNeg) := own_inb SA8 (by omega) (by omega)
  have hat8 : cl8.slots[((Int32.ofNat (2 * i))).toNatClampNeg]? = some (.int (StrChars.lo8 (cs.getD i 0))) := HA8.at hin8 (by rw [own_tn (by omega)]; exact StrChars.Road.wide_lo _ cs i hi)
  refine own_by (fun _ kS => X6.baloadBytes hx (j := (Int32.ofNat (2 * i))) (v := (.int (StrChars.lo8 (cs.getD i 0)))) (by rw [e6]; exact Ar8.1) (State.isArrayOf_alike hZ.alike Ar8.2.1) Ar8.2.2 hin8 hat8 (g := (mkF m 37 #[.val (.ref r0), .val (.int (Int32.ofNat (2 * i + 1)))] [(.int (Int32.ofNat (2 * i))), (.ref r0)])) rfl rfl (hb hby d13_37) _ kS) ?_
  show own_Comes p e below s _ _ _ (T6.setTop (mkF m 38 #[.val (.ref r0), .val (.int (Int32.ofNat (2 * i + 1)))] [(.int (StrChars.lo8 (cs.getD i 0)))]))
  refine own_by (fun _ kS => XS.sipush X6.here hx rfl (hb hby d13_38) kS) ?_
  show own_Comes p e below s _ _ _ (T6.setTop (mkF m 41 #[.val (.ref r0), .val (.int (Int32.ofNat (2 * i + 1)))] [(.int (255 : Int32)), (.int (StrChars.lo8 (cs.getD i 0)))]))
  refine own_by (fun _ kS => XS.iand X6.here hx rfl (hb hby d13_41) rfl kS) ?_
  show own_Comes p e below s _ _ _ (T6.setTop (mkF m 42 #[.val (.ref r0), .val (.int (Int32.ofNat (2 * i + 1)))] [(.int ((StrChars.lo8 (cs.getD i 0)) &&& (255 : Int32)))]))
  obtain ⟨T9, X9, e9, st9⟩ := getS2 X6 hx hZ hown (host := "") (Or.inl (hw _ (List.mem_of_getElem? (i := 54) rfl))) Via.refl e6 (Sh.ext O0.2) (g := (mkF m 42 #[.val (.ref r0), .val (.int (Int32.ofNat (2 * i + 1)))] [(.int ((StrChars.lo8 (cs.getD i 0)) &&& (255 : Int32)))])) rfl (hb hby d13_42)
  refine own_by st9 ?_
  show own_Comes p e below s _ _ _ (T9.setTop (mkF m 45 #[.val (.ref r0), .val (.int (Int32.ofNat (2 * i + 1)))] [(.int (0 : Int32)), (.int ((StrChars.lo8 (cs.getD i 0)) &&& (255 : Int32)))]))
  refine own_by (fun _ kS => XS.ishl X9.here hx rfl (hb hby d13_45) rfl kS) ?_
  show own_Comes p e below s _ _ _ (T9.setTop (mkF m 46 #[.val (.ref r0), .val (.int (Int32.ofNat (2 * i + 1)))] [(.int (((StrChars.lo8 (cs.getD i 0)) &&& (255 : Int32)) <<< ((0 : Int32) &&& 31)))]))
  refine own_by (fun _ kS => XS.aloadN X9.here hx rfl (hb hby d13_46) rfl rfl kS) ?_
  show own_Comes p e below s _ _ _ (T9.setTop (mkF m 47 #[.val (.ref r0), .val (.int (Int32.ofNat (2 * i + 1)))] [(.ref r0), (.int (((StrChars.lo8 (cs.getD i 0)) &&& (255 : Int32)) <<< ((0 : Int32) &&& 31)))]))
  refine own_by (fun _ kS => XS.iloadN X9.here hx rfl (hb hby d13_47) rfl kS) ?_
  show own_Comes p e below s _ _ _ (T9.setTop (mkF m 48 #[.val (.ref r0), .val (.int (Int32.ofNat (2 * i + 1)))] [(.int (Int32.ofNat (2 * i + 1))), (.ref r0), (.int (((StrChars.lo8 (cs.getD i 0)) &&& (255 : Int32)) <<< ((0 : Int32) &&& 31)))]))
  have Vo10 := Va
  obtain ⟨cl10, Ar10, qA10, SA10, NA10, HA10, GA10⟩ := Vo10
  have hin10 : ¬ ((Int32.ofNat (2 * i + 1)) < 0 ∨ cl10.slots.size ≤ ((Int32.ofNat (2 * i + 1))).toNatClampNeg) := own_inb SA10 (by omega) (by omega)
  have hat10 : cl10.slots[((Int32.ofNat (2 * i + 1))).toNatClampNeg]? = some (.int (StrChars.hi8 (cs.getD i 0))) := HA10.at hin10 (by rw [own_tn (by omega)]; exact StrChars.Road.wide_hi _ cs i hi)
  refine own_by (fun _ kS => X9.baloadBytes hx (j := (Int32.ofNat (2 * i + 1))) (v := (.int (StrChars.hi8 (cs.getD i 0)))) (by rw [e9]; exact Ar10.1) (State.isArrayOf_alike hZ.alike Ar10.2.1) Ar10.2.2 hin10 hat10 (g := (mkF m 48 #[.val (.ref r0), .val (.int (Int32.ofNat (2 * i + 1)))] [(.int (Int32.ofNat (2 * i + 1))), (.ref r0), (.int (((StrChars.lo8 (cs.getD i 0)) &&& (255 : Int32)) <<< ((0 : Int32) &&& 31)))])) rfl rfl (hb hby d13_48) _ kS) ?_
  show own_Comes p e below s _ _ _ (T9.setTop (mkF m 49 #[.val (.ref r0), .val (.int (Int32.ofNat (2 * i + 1)))] [(.int (StrChars.hi8 (cs.getD i 0))), (.int (((StrChars.lo8 (cs.getD i 0)) &&& (255 : Int32)) <<< ((0 : Int32) &&& 31)))]))
  refine own_by (fun _ kS => XS.sipush X9.here hx rfl (hb hby d13_49) kS) ?_
  show own_Comes p e below s _ _ _ (T9.setTop (mkF m 52 #[.val (.ref r0), .val (.int (Int32.ofNat (2 * i + 1)))] [(.int (255 : Int32)), (.int (StrChars.hi8 (cs.getD i 0))), (.int (((StrChars.lo8 (cs.getD i 0)) &&& (255 : Int32)) <<< ((0 : Int32) &&& 31)))]))
  refine own_by (fun _ kS => XS.iand X9.here hx rfl (hb hby d13_52) rfl kS) ?_
  show own_Comes p e below s _ _ _ (T9.setTop (mkF m 53 #[.val (.ref r0), .val (.int (Int32.ofNat (2 * i + 1)))] [(.int ((StrChars.hi8 (cs.getD i 0)) &&& (255 : Int32))), (.int (((StrChars.lo8 (cs.getD i 0)) &&& (255 : Int32)) <<< ((0 : Int32) &&& 31)))]))
  obtain ⟨T11, X11, e11, st11⟩ := getS2 X9 hx hZ hown (host := "") (Or.inl (hw _ (List.mem_of_getElem? (i := 55) rfl))) Via.refl e9 (Sl.ext O0.2) (g := (mkF m 53 #[.val (.ref r0), .val (.int (Int32.ofNat (2 * i + 1)))] [(.int ((StrChars.hi8 (cs.getD i 0)) &&& (255 : Int32))), (.int (((StrChars.lo8 (cs.getD i 0)) &&& (255 : Int32)) <<< ((0 : Int32) &&& 31)))])) rfl (hb hby d13_53)
  refine own_by st11 ?_
  show own_Comes p e below s _ _ _ (T11.setTop (mkF m 56 #[.val (.ref r0), .val (.int (Int32.ofNat (2 * i + 1)))] [(.int (8 : Int32)), (.int ((StrChars.hi8 (cs.getD i 0)) &&& (255 : Int32))), (.int (((StrChars.lo8 (cs.getD i 0)) &&& (255 : Int32)) <<< ((0 : Int32) &&& 31)))]))
  refine own_by (fun _ kS => XS.ishl X11.here hx rfl (hb hby d13_56) rfl kS) ?_
  show own_Comes p e below s _ _ _ (T11.setTop (mkF m 57 #[.val (.ref r0), .val (.int (Int32.ofNat (2 * i + 1)))] [(.int (((StrChars.hi8 (cs.getD i 0)) &&& (255 : Int32)) <<< ((8 : Int32) &&& 31))), (.int (((StrChars.lo8 (cs.getD i 0)) &&& (255 : Int32)) <<< ((0 : Int32) &&& 31)))]))
  refine own_by (fun _ kS => XS.ior X11.here hx rfl (hb hby d13_57) rfl kS) ?_
  show own_Comes p e below s _ _ _ (T11.setTop (mkF m 58 #[.val (.ref r0), .val (.int (Int32.ofNat (2 * i + 1)))] [(.int ((((StrChars.lo8 (cs.getD i 0)) &&& (255 : Int32)) <<< ((0 : Int32) &&& 31)) ||| (((StrChars.hi8 (cs.getD i 0)) &&& (255 : Int32)) <<< ((8 : Int32) &&& 31))))]))
  refine own_by (fun _ kS => XS.i2c X11.here hx rfl (hb hby d13_58) rfl kS) ?_
  show own_Comes p e below s _ _ _ (T11.setTop (mkF m 59 #[.val (.ref r0), .val (.int (Int32.ofNat (2 * i + 1)))] [(.int (((((StrChars.lo8 (cs.getD i 0)) &&& (255 : Int32)) <<< ((0 : Int32) &&& 31)) ||| (((StrChars.hi8 (cs.getD i 0)) &&& (255 : Int32)) <<< ((8 : Int32) &&& 31))).toUInt32.toUInt16.toUInt32.toInt32))]))
  refine own_ret X11 (v := some (.int (nar .char (((((StrChars.lo8 (cs.getD i 0)) &&& (255 : Int32)) <<< ((0 : Int32) &&& 31)) ||| (((StrChars.hi8 (cs.getD i 0)) &&& (255 : Int32)) <<< ((8 : Int32) &&& 31))).toUInt32.toUInt16.toUInt32.toInt32)))) (fun h => by rw [Bd.returns] at h; cases h) Bd.notSynchronized (by decide) (by decide) ?_ (fun fs hr => retN X11 hx (t := .char) Bd.returns (by simp) (hb hby d13_59) hr)
  rw [e11]; exact ⟨congrArg (fun z => some (Value.int z)) (own_gc (hB _ (own_mem hi))), N0, rfl⟩
def Q31 (Z : State) (c : Int32) (h0 : Heap) (n0 : Nat) (v : Option Value) (h : Heap) (L : List Loc) : Prop := v = some (.int c) ∧ Fr n0 L ∧ h = h0
theorem ef_rm31 (m : MethodId) (x0 : Addr) (x1 : Int32) : entryFrame m #[(.ref x0), (.int x1)] 2 = mkF m 0 #[.val (.ref x0), .val (.int x1)] [] := by first | (simp [entryFrame, mkF, argsToLocals, Value.category]; done) | rfl
theorem d31_0 : decode jdk_52_method_83_code 0 = .ok (.iload_n 1, 1) := by decide +kernel
theorem d31_1 : decode jdk_52_method_83_code 1 = .ok (.aload_n 0, 1) := by decide +kernel
theorem pd__I_B_V_397 : parseMethodDescriptor "(I[B)V" = some ⟨[.int, (.array .byte)], none⟩ := by decide +kernel
theorem d31_2 : decode jdk_52_method_83_code 2 = .ok (.invokestatic 67, 3) := by decide +kernel
theorem d31_5 : decode jdk_52_method_83_code 5 = .ok (.aload_n 0, 1) := by decide +kernel
theorem d31_6 : decode jdk_52_method_83_code 6 = .ok (.iload_n 1, 1) := by decide +kernel
theorem pd___BI_C_378 : parseMethodDescriptor "([BI)C" = some ⟨[(.array .byte), .int], some .char⟩ := by decide +kernel
theorem d31_7 : decode jdk_52_method_83_code 7 = .ok (.invokestatic 71, 3) := by decide +kernel
theorem d31_10 : decode jdk_52_method_83_code 10 = .ok (.ireturn, 1) := by decide +kernel
set_option maxRecDepth 65536 in
set_option maxHeartbeats 40000000 in
theorem rm31 (l : Launch) (Z : State) (a0 : Array Value) (hw : ∀ d ∈ tables_1, d.before a0 Z = true) (ws : List Jvm.Cond) (r0 : Addr) (i : Nat) (kb : ClassId) (cs : List Int32) (fm : Value) (h0 : Heap) (n0 : Nat) (Z0 : n0 ≤ h0.size) (O0 : Old Z n0 h0) (Sf : Sta Z Z.heap "jdk/internal/util/Preconditions" "SIOOBE_FORMATTER" "Ljava/util/function/BiFunction;" fm) (i_fm : fm.isRef = true) (Sd : Sta Z Z.heap "java/lang/StringUTF16" "$assertionsDisabled" "Z" (.int (1 : Int32))) (Sh : Sta Z Z.heap "java/lang/StringUTF16" "HI_BYTE_SHIFT" "I" (.int (0 : Int32))) (Sl : Sta Z Z.heap "java/lang/StringUTF16" "LO_BYTE_SHIFT" "I" (.int (8 : Int32))) (Va : Arv Z h0 r0 kb .byte (Int32.ofNat (2 * cs.length)) (StrChars.Road.wideBytes cs) (.int 0)) (hl : cs.length ≤ 4000) (hi : i < cs.length) (hB : ∀ c ∈ cs, ¬ c < 0 ∧ ¬ (65535 : Int32) < c) :
    MetFree l (⟨"java/lang/StringUTF16", "charAt", "([BI)C"⟩ : MethodName) (head1 (Jvm.Cond.code (⟨"java/lang/StringUTF16", "charAt", "([BI)C"⟩ : MethodName) jdk_52_method_83_code 2 (some .char) :: ws) ({ frames := 3, cells := 0, slots := 0, locals := 40 } : Room)) (fun aX UX => aX = #[(.ref r0), (.int (Int32.ofNat i))] ∧ Z.Warmed39 UX.vm ∧ UX.heap = h0) (fun _ _ _ _ _ => True) (fun _ UX oX UX' => ∃ vX LX, oX = .returned vX ∧ Q31 Z (cs.getD i 0) h0 n0 vX UX'.heap LX ∧ FrameEnd UX oX UX' LX ({ frames := 3, cells := 0, slots := 0, locals := 40 } : Room).cells ({ frames := 3, cells := 0, slots := 0, locals := 40 } : Room).slots) := by
  refine MetFree.of_bodySF (plainFor_of_name pn_java_lang_StringUTF16) hisR ?_
  intro p e s m args below meth c s₁ Bd hml0 hP hK
  obtain ⟨rfl, hZ, hh⟩ := hP
  have hx := Bd.exec
  have hby := Bd.bytes
  have hml : c.maxLocals = 2 := hml0
  have hown : s.vm.findClass "java/lang/StringUTF16" = some m.cls := findClass_of_methodNamed Bd.named
  have hnm := (name_of_methodNamed Bd.named Bd.method).1
  have X0 : Stand p l e ({ frames := 3, cells := 0, slots := 0, locals := 40 } : Room) s m #[(.ref r0), (.int (Int32.ofNat i))] below meth c s₁ [] 0 0 := Stand.of_body Bd
  have e0 : s₁.heap = h0 := by rw [← hh, Bd.state]; rfl
  have N0 := Fr.nil n0
  show own_Comes p e below s ({ frames := 3, cells := 0, slots := 0, locals := 40 } : Room).cells ({ frames := 3, cells := 0, slots := 0, locals := 40 } : Room).slots (Q31 Z (cs.getD i 0) h0 n0) _
  rw [show entryFrame m #[(.ref r0), (.int (Int32.ofNat i))] 2 = mkF m 0 #[.val (.ref r0), .val (.int (Int32.ofNat i))] [] from ef_rm31 m r0 (Int32.ofNat i)]
  show own_Comes p e below s _ _ _ (s₁.setTop (mkF m 0 #[.val (.ref r0), .val (.int (Int32.ofNat i))] []))
  refine own_by (fun _ kS => XS.iloadN X0.here hx rfl (hb hby d31_0) rfl kS) ?_
  show own_Comes p e below s _ _ _ (s₁.setTop (mkF m 1 #[.val (.ref r0), .val (.int (Int32.ofNat i))] [(.int (Int32.ofNat i))]))
  refine own_by (fun _ kS => XS.aloadN X0.here hx rfl (hb hby d31_1) rfl rfl kS) ?_
  show own_Comes p e below s _ _ _ (s₁.setTop (mkF m 2 #[.val (.ref r0), .val (.int (Int32.ofNat i))] [(.ref r0), (.int (Int32.ofNat i))]))
  obtain ⟨vv12, _, ⟨T12, L12, k12, n12⟩, -, X12, ⟨Lc12, hQ12, l12, y12, z12⟩, st12⟩ := Jvm.LawKit.callS X0 hx (y := (⟨"java/lang/StringUTF16", "checkIndex", "(I[B)V"⟩ : MethodName)) hown (mvT hZ (hw _ (List.mem_of_getElem? (i := 148) rfl))) (mvT hZ (hw _ (List.mem_of_getElem? (i := 149) rfl))) (mvT hZ (hw _ (List.mem_of_getElem? (i := 24) rfl))) (mvT hZ (hw _ (List.mem_of_getElem? (i := 150) rfl))) (by decide) (backOf (W := 0) (rm32 l Z a0 hw [] i r0 kb cs fm h0 n0 Z0 O0 Sf i_fm Va hl hi) hZ (hw _ (List.mem_of_getElem? (i := 150) rfl)) (hw _ (List.mem_of_getElem? (i := 24) rfl)) (by decide) (by decide)) (g := (mkF m 2 #[.val (.ref r0), .val (.int (Int32.ofNat i))] [(.ref r0), (.int (Int32.ofNat i))])) rfl (by rw [hml]; rfl) (argsL := [(.int (Int32.ofNat i)), (.ref r0)]) (rest := []) (lenOf pd__I_B_V_397 rfl) rfl (by show 2 * 0 + _ ≤ _; exact Nat.le_of_eq rfl) (hb hby d31_2) (fun _ _ => ⟨rfl, e0, (by decide : 0 + 0 ≤ _), (by decide : 0 + 0 ≤ _)⟩)
  dsimp only [Pt.U, Pt.locs, Pt.cells, Pt.slots] at X12 l12 y12 z12 st12 hQ12
  subst l12 y12 z12
  obtain ⟨rfl, N12q, e12q⟩ := hQ12
  have N12 := Fr.app N0 N12q
  refine own_by st12 ?_
  have e12 : T12.heap = h0 := e12q
  show own_Comes p e below s _ _ _ (T12.setTop (mkF m 5 #[.val (.ref r0), .val (.int (Int32.ofNat i))] []))
  refine own_by (fun _ kS => XS.aloadN X12.here hx rfl (hb hby d31_5) rfl rfl kS) ?_
  show own_Comes p e below s _ _ _ (T12.setTop (mkF m 6 #[.val (.ref r0), .val (.int (Int32.ofNat i))] [(.ref r0)]))
  refine own_by (fun _ kS => XS.iloadN X12.here hx rfl (hb hby d31_6) rfl kS) ?_
  show own_Comes p e below s _ _ _ (T12.setTop (mkF m 7 #[.val (.ref r0), .val (.int (Int32.ofNat i))] [(.int (Int32.ofNat i)), (.ref r0)]))
  obtain ⟨vv13, _, ⟨T13, L13, k13, n13⟩, -, X13, ⟨Lc13, hQ13, l13, y13, z13⟩, st13⟩ := Jvm.LawKit.callS X12 hx (y := (⟨"java/lang/StringUTF16", "getChar", "([BI)C"⟩ : MethodName)) hown (mvT hZ (hw _ (List.mem_of_getElem? (i := 56) rfl))) (mvT hZ (hw _ (List.mem_of_getElem? (i := 57) rfl))) (mvT hZ (hw _ (List.mem_of_getElem? (i := 24) rfl))) (mvT hZ (hw _ (List.mem_of_getElem? (i := 58) rfl))) (by decide) (backOf (W := 0) (rm13 l Z a0 hw [] r0 i kb cs h0 n0 Z0 O0 Sd Sh Sl Va hl hi hB) hZ (hw _ (List.mem_of_getElem? (i := 58) rfl)) (hw _ (List.mem_of_getElem? (i := 24) rfl)) (by decide) (by decide)) (g := (mkF m 7 #[.val (.ref r0), .val (.int (Int32.ofNat i))] [(.int (Int32.ofNat i)), (.ref r0)])) rfl (by rw [hml]; rfl) (argsL := [(.ref r0), (.int (Int32.ofNat i))]) (rest := []) (lenOf pd___BI_C_378 rfl) rfl (by show 2 * 0 + _ ≤ _; exact Nat.le_of_eq rfl) (hb hby d31_7) (fun _ _ => ⟨rfl, e12, (by decide : 0 + 0 ≤ _), (by decide : 0 + 0 ≤ _)⟩)
  dsimp only [Pt.U, Pt.locs, Pt.cells, Pt.slots] at X13 l13 y13 z13 st13 hQ13
  subst l13 y13 z13
  obtain ⟨rfl, N13q, e13q⟩ := hQ13
  have N13 := Fr.app N12 N13q
  refine own_by st13 ?_
  have e13 : T13.heap = h0 := e13q
  show own_Comes p e below s _ _ _ (T13.setTop (mkF m 10 #[.val (.ref r0), .val (.int (Int32.ofNat i))] [(.int (cs.getD i 0))]))
  refine own_ret X13 (v := some (.int (nar .char (cs.getD i 0)))) (fun h => by rw [Bd.returns] at h; cases h) Bd.notSynchronized (by decide) (by decide) ?_ (fun fs hr => retN X13 hx (t := .char) Bd.returns (by simp) (hb hby d31_10) hr)
  rw [e13]; exact ⟨congrArg (fun z => some (Value.int z)) (own_nar16 (hB _ (own_mem hi))), N13, rfl⟩
def Q27 (Z : State) (c : Int32) (h0 : Heap) (n0 : Nat) (v : Option Value) (h : Heap) (L : List Loc) : Prop := v = some (.int c) ∧ Fr n0 L ∧ h = h0
theorem ef_rm27 (m : MethodId) (x0 : Addr) (x1 : Int32) : entryFrame m #[(.ref x0), (.int x1)] 2 = mkF m 0 #[.val (.ref x0), .val (.int x1)] [] := by first | (simp [entryFrame, mkF, argsToLocals, Value.category]; done) | rfl
theorem pn_java_lang_StringLatin1 : plainName "java/lang/StringLatin1" = true := by first | (simp [plainName, overriddenIn]; done) | decide +kernel
theorem d27_0 : decode jdk_43_method_2_code 0 = .ok (.iload_n 1, 1) := by decide +kernel
theorem d27_1 : decode jdk_43_method_2_code 1 = .ok (.aload_n 0, 1) := by decide +kernel
theorem d27_2 : decode jdk_43_method_2_code 2 = .ok (.arraylength, 1) := by decide +kernel
theorem d27_3 : decode jdk_43_method_2_code 3 = .ok (.invokestatic 9, 3) := by decide +kernel
theorem d27_6 : decode jdk_43_method_2_code 6 = .ok (.aload_n 0, 1) := by decide +kernel
theorem d27_7 : decode jdk_43_method_2_code 7 = .ok (.iload_n 1, 1) := by decide +kernel
theorem d27_8 : decode jdk_43_method_2_code 8 = .ok (.baload, 1) := by decide +kernel
theorem d27_9 : decode jdk_43_method_2_code 9 = .ok (.sipush 255, 3) := by decide +kernel
theorem d27_12 : decode jdk_43_method_2_code 12 = .ok (.iand, 1) := by decide +kernel
theorem d27_13 : decode jdk_43_method_2_code 13 = .ok (.i2c, 1) := by decide +kernel
theorem d27_14 : decode jdk_43_method_2_code 14 = .ok (.ireturn, 1) := by decide +kernel
set_option maxRecDepth 65536 in
set_option maxHeartbeats 40000000 in
theorem rm27 (l : Launch) (Z : State) (a0 : Array Value) (hw : ∀ d ∈ tables_1, d.before a0 Z = true) (ws : List Jvm.Cond) (r0 : Addr) (i : Nat) (kb : ClassId) (cs : List Int32) (fm : Value) (h0 : Heap) (n0 : Nat) (Z0 : n0 ≤ h0.size) (O0 : Old Z n0 h0) (Sf : Sta Z Z.heap "jdk/internal/util/Preconditions" "SIOOBE_FORMATTER" "Ljava/util/function/BiFunction;" fm) (i_fm : fm.isRef = true) (Va : Arv Z h0 r0 kb .byte (Int32.ofNat cs.length) (cs.map fun c => Value.int (StrChars.lo8 c)) (.int 0)) (hl : cs.length ≤ 4000) (hi : i < cs.length) (hB : ∀ c ∈ cs, ¬ c < 0 ∧ ¬ (65535 : Int32) < c) (Hl : ∀ c ∈ cs, ¬ (255 : Int32) < c) :
    MetFree l (⟨"java/lang/StringLatin1", "charAt", "([BI)C"⟩ : MethodName) (head1 (Jvm.Cond.code (⟨"java/lang/StringLatin1", "charAt", "([BI)C"⟩ : MethodName) jdk_43_method_2_code 2 (some .char) :: ws) ({ frames := 2, cells := 0, slots := 0, locals := 27 } : Room)) (fun aX UX => aX = #[(.ref r0), (.int (Int32.ofNat i))] ∧ Z.Warmed39 UX.vm ∧ UX.heap = h0) (fun _ _ _ _ _ => True) (fun _ UX oX UX' => ∃ vX LX, oX = .returned vX ∧ Q27 Z (cs.getD i 0) h0 n0 vX UX'.heap LX ∧ FrameEnd UX oX UX' LX ({ frames := 2, cells := 0, slots := 0, locals := 27 } : Room).cells ({ frames := 2, cells := 0, slots := 0, locals := 27 } : Room).slots) := by
  refine MetFree.of_bodySF (plainFor_of_name pn_java_lang_StringLatin1) hisR ?_
  intro p e s m args below meth c s₁ Bd hml0 hP hK
  obtain ⟨rfl, hZ, hh⟩ := hP
  have hx := Bd.exec
  have hby := Bd.bytes
  have hml : c.maxLocals = 2 := hml0
  have hown : s.vm.findClass "java/lang/StringLatin1" = some m.cls := findClass_of_methodNamed Bd.named
  have hnm := (name_of_methodNamed Bd.named Bd.method).1
  have X0 : Stand p l e ({ frames := 2, cells := 0, slots := 0, locals := 27 } : Room) s m #[(.ref r0), (.int (Int32.ofNat i))] below meth c s₁ [] 0 0 := Stand.of_body Bd
  have e0 : s₁.heap = h0 := by rw [← hh, Bd.state]; rfl
  have N0 := Fr.nil n0
  show own_Comes p e below s ({ frames := 2, cells := 0, slots := 0, locals := 27 } : Room).cells ({ frames := 2, cells := 0, slots := 0, locals := 27 } : Room).slots (Q27 Z (cs.getD i 0) h0 n0) _
  rw [show entryFrame m #[(.ref r0), (.int (Int32.ofNat i))] 2 = mkF m 0 #[.val (.ref r0), .val (.int (Int32.ofNat i))] [] from ef_rm27 m r0 (Int32.ofNat i)]
  show own_Comes p e below s _ _ _ (s₁.setTop (mkF m 0 #[.val (.ref r0), .val (.int (Int32.ofNat i))] []))
  refine own_by (fun _ kS => XS.iloadN X0.here hx rfl (hb hby d27_0) rfl kS) ?_
  show own_Comes p e below s _ _ _ (s₁.setTop (mkF m 1 #[.val (.ref r0), .val (.int (Int32.ofNat i))] [(.int (Int32.ofNat i))]))
  refine own_by (fun _ kS => XS.aloadN X0.here hx rfl (hb hby d27_1) rfl rfl kS) ?_
  show own_Comes p e below s _ _ _ (s₁.setTop (mkF m 2 #[.val (.ref r0), .val (.int (Int32.ofNat i))] [(.ref r0), (.int (Int32.ofNat i))]))
  have Vo14 := Va
  obtain ⟨cl14, Ar14, qA14, SA14, NA14, HA14, GA14⟩ := Vo14
  refine own_by (fun _ kS => X0.arraylength hx (by rw [e0]; exact Ar14.1) (State.isArrayOf_alike hZ.alike Ar14.2.1) (g := (mkF m 2 #[.val (.ref r0), .val (.int (Int32.ofNat i))] [(.ref r0), (.int (Int32.ofNat i))])) rfl rfl (hb hby d27_2) _ kS) ?_
  rw [len_of SA14 NA14]
  show own_Comes p e below s _ _ _ (s₁.setTop (mkF m 3 #[.val (.ref r0), .val (.int (Int32.ofNat i))] [(.int (Int32.ofNat cs.length)), (.int (Int32.ofNat i))]))
  obtain ⟨vv15, _, ⟨T15, L15, k15, n15⟩, -, X15, ⟨Lc15, hQ15, l15, y15, z15⟩, st15⟩ := Jvm.LawKit.callS X0 hx (y := (⟨"java/lang/String", "checkIndex", "(II)V"⟩ : MethodName)) hown (mvT hZ (hw _ (List.mem_of_getElem? (i := 132) rfl))) (mvT hZ (hw _ (List.mem_of_getElem? (i := 96) rfl))) (mvT hZ (hw _ (List.mem_of_getElem? (i := 10) rfl))) (mvT hZ (hw _ (List.mem_of_getElem? (i := 97) rfl))) (by decide) (backOf (W := 0) (rm22 l Z a0 hw [] (Int32.ofNat i) (Int32.ofNat cs.length) fm h0 n0 Z0 O0 Sf i_fm (own_neg (by omega)) ((own_lt (by omega) (by omega)).mpr hi)) hZ (hw _ (List.mem_of_getElem? (i := 97) rfl)) (hw _ (List.mem_of_getElem? (i := 10) rfl)) (by decide) (by decide)) (g := (mkF m 3 #[.val (.ref r0), .val (.int (Int32.ofNat i))] [(.int (Int32.ofNat cs.length)), (.int (Int32.ofNat i))])) rfl (by rw [hml]; rfl) (argsL := [(.int (Int32.ofNat i)), (.int (Int32.ofNat cs.length))]) (rest := []) (lenOf pd__II_V_313 rfl) rfl (by show 2 * 0 + _ ≤ _; exact Nat.le_of_eq rfl) (hb hby d27_3) (fun _ _ => ⟨rfl, e0, (by decide : 0 + 0 ≤ _), (by decide : 0 + 0 ≤ _)⟩)
  dsimp only [Pt.U, Pt.locs, Pt.cells, Pt.slots] at X15 l15 y15 z15 st15 hQ15
  subst l15 y15 z15
  obtain ⟨rfl, N15q, e15q⟩ := hQ15
  have N15 := Fr.app N0 N15q
  refine own_by st15 ?_
  have e15 : T15.heap = h0 := e15q
  show own_Comes p e below s _ _ _ (T15.setTop (mkF m 6 #[.val (.ref r0), .val (.int (Int32.ofNat i))] []))
  refine own_by (fun _ kS => XS.aloadN X15.here hx rfl (hb hby d27_6) rfl rfl kS) ?_
  show own_Comes p e below s _ _ _ (T15.setTop (mkF m 7 #[.val (.ref r0), .val (.int (Int32.ofNat i))] [(.ref r0)]))
  refine own_by (fun _ kS => XS.iloadN X15.here hx rfl (hb hby d27_7) rfl kS) ?_
  show own_Comes p e below s _ _ _ (T15.setTop (mkF m 8 #[.val (.ref r0), .val (.int (Int32.ofNat i))] [(.int (Int32.ofNat i)), (.ref r0)]))
  have Vo16 := Va
  obtain ⟨cl16, Ar16, qA16, SA16, NA16, HA16, GA16⟩ := Vo16
  have hin16 : ¬ ((Int32.ofNat i) < 0 ∨ cl16.slots.size ≤ ((Int32.ofNat i)).toNatClampNeg) := own_inb SA16 (by omega) hi
  have hat16 : cl16.slots[((Int32.ofNat i)).toNatClampNeg]? = some (.int (StrChars.lo8 (cs.getD i 0))) := HA16.at hin16 (by rw [own_tn (by omega)]; exact StrChars.Road.low_at _ cs i hi)
  refine own_by (fun _ kS => X15.baloadBytes hx (j := (Int32.ofNat i)) (v := (.int (StrChars.lo8 (cs.getD i 0)))) (by rw [e15]; exact Ar16.1) (State.isArrayOf_alike hZ.alike Ar16.2.1) Ar16.2.2 hin16 hat16 (g := (mkF m 8 #[.val (.ref r0), .val (.int (Int32.ofNat i))] [(.int (Int32.ofNat i)), (.ref r0)])) rfl rfl (hb hby d27_8) _ kS) ?_
  show own_Comes p e below s _ _ _ (T15.setTop (mkF m 9 #[.val (.ref r0), .val (.int (Int32.ofNat i))] [(.int (StrChars.lo8 (cs.getD i 0)))]))
  refine own_by (fun _ kS => XS.sipush X15.here hx rfl (hb hby d27_9) kS) ?_
  show own_Comes p e below s _ _ _ (T15.setTop (mkF m 12 #[.val (.ref r0), .val (.int (Int32.ofNat i))] [(.int (255 : Int32)), (.int (StrChars.lo8 (cs.getD i 0)))]))
  refine own_by (fun _ kS => XS.iand X15.here hx rfl (hb hby d27_12) rfl kS) ?_
  show own_Comes p e below s _ _ _ (T15.setTop (mkF m 13 #[.val (.ref r0), .val (.int (Int32.ofNat i))] [(.int ((StrChars.lo8 (cs.getD i 0)) &&& (255 : Int32)))]))
  refine own_by (fun _ kS => XS.i2c X15.here hx rfl (hb hby d27_13) rfl kS) ?_
  show own_Comes p e below s _ _ _ (T15.setTop (mkF m 14 #[.val (.ref r0), .val (.int (Int32.ofNat i))] [(.int (((StrChars.lo8 (cs.getD i 0)) &&& (255 : Int32)).toUInt32.toUInt16.toUInt32.toInt32))]))
  refine own_ret X15 (v := some (.int (nar .char (((StrChars.lo8 (cs.getD i 0)) &&& (255 : Int32)).toUInt32.toUInt16.toUInt32.toInt32)))) (fun h => by rw [Bd.returns] at h; cases h) Bd.notSynchronized (by decide) (by decide) ?_ (fun fs hr => retN X15 hx (t := .char) Bd.returns (by simp) (hb hby d27_14) hr)
  rw [e15]; exact ⟨congrArg (fun z => some (Value.int z)) (own_gl ⟨(hB _ (own_mem hi)).1, Hl _ (own_mem hi)⟩), N15, rfl⟩
def Q21 (Z : State) (z : Int32) (h0 : Heap) (n0 : Nat) (v : Option Value) (h : Heap) (L : List Loc) : Prop := v = some (.int z) ∧ Fr n0 L ∧ h = h0
theorem ef_rm21l (m : MethodId) (x0 : Addr) : entryFrame m #[(.ref x0)] 1 = mkF m 0 #[.val (.ref x0)] [] := by first | (simp [entryFrame, mkF, argsToLocals, Value.category]; done) | rfl
theorem d21_0 : decode jdk_42_method_154_code 0 = .ok (.getstatic 38, 3) := by decide +kernel
theorem d21_3 : decode jdk_42_method_154_code 3 = .ok (.ifCond .eq 14, 3) := by decide +kernel
theorem d21_6 : decode jdk_42_method_154_code 6 = .ok (.aload_n 0, 1) := by decide +kernel
theorem d21_7 : decode jdk_42_method_154_code 7 = .ok (.getfield 15, 3) := by decide +kernel
theorem d21_10 : decode jdk_42_method_154_code 10 = .ok (.ifCond .ne 7, 3) := by decide +kernel
theorem d21_13 : decode jdk_42_method_154_code 13 = .ok (.iconst 1, 1) := by decide +kernel
theorem d21_14 : decode jdk_42_method_154_code 14 = .ok (.goto 4, 3) := by decide +kernel
theorem d21_18 : decode jdk_42_method_154_code 18 = .ok (.ireturn, 1) := by decide +kernel
set_option maxRecDepth 65536 in
set_option maxHeartbeats 40000000 in
theorem rm21l (l : Launch) (Z : State) (a0 : Array Value) (hw : ∀ d ∈ tables_1, d.before a0 Z = true) (ws : List Jvm.Cond) (r0 : Addr) (zc : Int32) (h0 : Heap) (n0 : Nat) (Z0 : n0 ≤ h0.size) (O0 : Old Z n0 h0) (Sz : Sta Z Z.heap "java/lang/String" "COMPACT_STRINGS" "Z" (.int zc)) (hzc : ¬ zc = 0) (Fc : Fld Z h0 r0 "java/lang/String" "coder" "B" (.int (0 : Int32))) :
    MetFree l (⟨"java/lang/String", "isLatin1", "()Z"⟩ : MethodName) (head1 (Jvm.Cond.code (⟨"java/lang/String", "isLatin1", "()Z"⟩ : MethodName) jdk_42_method_154_code 1 (some .boolean) :: ws) ({ frames := 0, cells := 0, slots := 0, locals := 0 } : Room)) (fun aX UX => aX = #[(.ref r0)] ∧ Z.Warmed39 UX.vm ∧ UX.heap = h0) (fun _ _ _ _ _ => True) (fun _ UX oX UX' => ∃ vX LX, oX = .returned vX ∧ Q21 Z (1 : Int32) h0 n0 vX UX'.heap LX ∧ FrameEnd UX oX UX' LX ({ frames := 0, cells := 0, slots := 0, locals := 0 } : Room).cells ({ frames := 0, cells := 0, slots := 0, locals := 0 } : Room).slots) := by
  refine MetFree.of_bodySF (plainFor_of_name pn_java_lang_String) hisR ?_
  intro p e s m args below meth c s₁ Bd hml0 hP hK
  obtain ⟨rfl, hZ, hh⟩ := hP
  have hx := Bd.exec
  have hby := Bd.bytes
  have hml : c.maxLocals = 1 := hml0
  have hown : s.vm.findClass "java/lang/String" = some m.cls := findClass_of_methodNamed Bd.named
  have hnm := (name_of_methodNamed Bd.named Bd.method).1
  have X0 : Stand p l e ({ frames := 0, cells := 0, slots := 0, locals := 0 } : Room) s m #[(.ref r0)] below meth c s₁ [] 0 0 := Stand.of_body Bd
  have e0 : s₁.heap = h0 := by rw [← hh, Bd.state]; rfl
  have N0 := Fr.nil n0
  show own_Comes p e below s ({ frames := 0, cells := 0, slots := 0, locals := 0 } : Room).cells ({ frames := 0, cells := 0, slots := 0, locals := 0 } : Room).slots (Q21 Z (1 : Int32) h0 n0) _
  rw [show entryFrame m #[(.ref r0)] 1 = mkF m 0 #[.val (.ref r0)] [] from ef_rm21l m r0]
  show own_Comes p e below s _ _ _ (s₁.setTop (mkF m 0 #[.val (.ref r0)] []))
  obtain ⟨T17, X17, e17, st17⟩ := getS2 X0 hx hZ hown (host := "") (Or.inl (hw _ (List.mem_of_getElem? (i := 21) rfl))) Via.refl e0 (Sz.ext O0.2) (g := (mkF m 0 #[.val (.ref r0)] [])) rfl (hb hby d21_0)
  refine own_by st17 ?_
  show own_Comes p e below s _ _ _ (T17.setTop (mkF m 3 #[.val (.ref r0)] [(.int zc)]))
  refine own_by (fun _ kS => XS.ifNo X17.here hx rfl (hb hby d21_3) rfl ((if0 _ _).trans (feq hzc).1) kS) ?_
  show own_Comes p e below s _ _ _ (T17.setTop (mkF m 6 #[.val (.ref r0)] []))
  refine own_by (fun _ kS => XS.aloadN X17.here hx rfl (hb hby d21_6) rfl rfl kS) ?_
  show own_Comes p e below s _ _ _ (T17.setTop (mkF m 7 #[.val (.ref r0)] [(.ref r0)]))
  obtain ⟨T18, X18, e18, st18⟩ := getF X17 hx hZ hown (host := "") (Or.inl (hw _ (List.mem_of_getElem? (i := 33) rfl))) Via.refl e17 Fc (g := (mkF m 7 #[.val (.ref r0)] [(.ref r0)])) rfl rfl (hb hby d21_7)
  refine own_by st18 ?_
  show own_Comes p e below s _ _ _ (T18.setTop (mkF m 10 #[.val (.ref r0)] [(.int (0 : Int32))]))
  have hb19 : (0 : Int32) = (0 : Int32) := by decide
  refine own_by (fun _ kS => XS.ifNo X18.here hx rfl (hb hby d21_10) rfl ((if0 _ _).trans (teq hb19).2) kS) ?_
  show own_Comes p e below s _ _ _ (T18.setTop (mkF m 13 #[.val (.ref r0)] []))
  refine own_by (fun _ kS => XS.iconst X18.here hx rfl (hb hby d21_13) kS) ?_
  show own_Comes p e below s _ _ _ (T18.setTop (mkF m 14 #[.val (.ref r0)] [(.int (1 : Int32))]))
  refine own_by (fun _ kS => XS.goto X18.here hx rfl (pc0 := 14) (pc' := 18) rfl (hb hby d21_14) (by decide) (by decide) kS) ?_
  show own_Comes p e below s _ _ _ (T18.setTop (mkF m 18 #[.val (.ref r0)] [(.int (1 : Int32))]))
  refine own_ret X18 (v := some (.int (1 : Int32))) (fun h => by rw [Bd.returns] at h; cases h) Bd.notSynchronized (by decide) (by decide) ?_ (fun fs hr => retN X18 hx (t := .boolean) Bd.returns (by simp) (hb hby d21_18) hr)
  rw [e18]; exact ⟨rfl, N0, rfl⟩
theorem ef_rm21u (m : MethodId) (x0 : Addr) : entryFrame m #[(.ref x0)] 1 = mkF m 0 #[.val (.ref x0)] [] := by first | (simp [entryFrame, mkF, argsToLocals, Value.category]; done) | rfl
theorem d21_17 : decode jdk_42_method_154_code 17 = .ok (.iconst 0, 1) := by decide +kernel
set_option maxRecDepth 65536 in
set_option maxHeartbeats 40000000 in
theorem rm21u (l : Launch) (Z : State) (a0 : Array Value) (hw : ∀ d ∈ tables_1, d.before a0 Z = true) (ws : List Jvm.Cond) (r0 : Addr) (zc : Int32) (h0 : Heap) (n0 : Nat) (Z0 : n0 ≤ h0.size) (O0 : Old Z n0 h0) (Sz : Sta Z Z.heap "java/lang/String" "COMPACT_STRINGS" "Z" (.int zc)) (hzc : ¬ zc = 0) (Fc : Fld Z h0 r0 "java/lang/String" "coder" "B" (.int (1 : Int32))) :
    MetFree l (⟨"java/lang/String", "isLatin1", "()Z"⟩ : MethodName) (head1 (Jvm.Cond.code (⟨"java/lang/String", "isLatin1", "()Z"⟩ : MethodName) jdk_42_method_154_code 1 (some .boolean) :: ws) ({ frames := 0, cells := 0, slots := 0, locals := 0 } : Room)) (fun aX UX => aX = #[(.ref r0)] ∧ Z.Warmed39 UX.vm ∧ UX.heap = h0) (fun _ _ _ _ _ => True) (fun _ UX oX UX' => ∃ vX LX, oX = .returned vX ∧ Q21 Z (0 : Int32) h0 n0 vX UX'.heap LX ∧ FrameEnd UX oX UX' LX ({ frames := 0, cells := 0, slots := 0, locals := 0 } : Room).cells ({ frames := 0, cells := 0, slots := 0, locals := 0 } : Room).slots) := by
  refine MetFree.of_bodySF (plainFor_of_name pn_java_lang_String) hisR ?_
  intro p e s m args below meth c s₁ Bd hml0 hP hK
  obtain ⟨rfl, hZ, hh⟩ := hP
  have hx := Bd.exec
  have hby := Bd.bytes
  have hml : c.maxLocals = 1 := hml0
  have hown : s.vm.findClass "java/lang/String" = some m.cls := findClass_of_methodNamed Bd.named
  have hnm := (name_of_methodNamed Bd.named Bd.method).1
  have X0 : Stand p l e ({ frames := 0, cells := 0, slots := 0, locals := 0 } : Room) s m #[(.ref r0)] below meth c s₁ [] 0 0 := Stand.of_body Bd
  have e0 : s₁.heap = h0 := by rw [← hh, Bd.state]; rfl
  have N0 := Fr.nil n0
  show own_Comes p e below s ({ frames := 0, cells := 0, slots := 0, locals := 0 } : Room).cells ({ frames := 0, cells := 0, slots := 0, locals := 0 } : Room).slots (Q21 Z (0 : Int32) h0 n0) _
  rw [show entryFrame m #[(.ref r0)] 1 = mkF m 0 #[.val (.ref r0)] [] from ef_rm21u m r0]
  show own_Comes p e below s _ _ _ (s₁.setTop (mkF m 0 #[.val (.ref r0)] []))
  obtain ⟨T20, X20, e20, st20⟩ := getS2 X0 hx hZ hown (host := "") (Or.inl (hw _ (List.mem_of_getElem? (i := 21) rfl))) Via.refl e0 (Sz.ext O0.2) (g := (mkF m 0 #[.val (.ref r0)] [])) rfl (hb hby d21_0)
  refine own_by st20 ?_
  show own_Comes p e below s _ _ _ (T20.setTop (mkF m 3 #[.val (.ref r0)] [(.int zc)]))
  refine own_by (fun _ kS => XS.ifNo X20.here hx rfl (hb hby d21_3) rfl ((if0 _ _).trans (feq hzc).1) kS) ?_
  show own_Comes p e below s _ _ _ (T20.setTop (mkF m 6 #[.val (.ref r0)] []))
  refine own_by (fun _ kS => XS.aloadN X20.here hx rfl (hb hby d21_6) rfl rfl kS) ?_
  show own_Comes p e below s _ _ _ (T20.setTop (mkF m 7 #[.val (.ref r0)] [(.ref r0)]))
  obtain ⟨T21, X21, e21, st21⟩ := getF X20 hx hZ hown (host := "") (Or.inl (hw _ (List.mem_of_getElem? (i := 33) rfl))) Via.refl e20 Fc (g := (mkF m 7 #[.val (.ref r0)] [(.ref r0)])) rfl rfl (hb hby d21_7)
  refine own_by st21 ?_
  show own_Comes p e below s _ _ _ (T21.setTop (mkF m 10 #[.val (.ref r0)] [(.int (1 : Int32))]))
  have hb22 : ¬ ((1 : Int32) = (0 : Int32)) := by decide
  refine own_by (fun _ kS => XS.ifYes X21.here hx rfl (pc0 := 10) (pc' := 17) rfl (hb hby d21_10) rfl ((if0 _ _).trans (feq hb22).2) (by decide) (by decide) kS) ?_
  show own_Comes p e below s _ _ _ (T21.setTop (mkF m 17 #[.val (.ref r0)] []))
  refine own_by (fun _ kS => XS.iconst X21.here hx rfl (hb hby d21_17) kS) ?_
  show own_Comes p e below s _ _ _ (T21.setTop (mkF m 18 #[.val (.ref r0)] [(.int (0 : Int32))]))
  refine own_ret X21 (v := some (.int (0 : Int32))) (fun h => by rw [Bd.returns] at h; cases h) Bd.notSynchronized (by decide) (by decide) ?_ (fun fs hr => retN X21 hx (t := .boolean) Bd.returns (by simp) (hb hby d21_18) hr)
  rw [e21]; exact ⟨rfl, N0, rfl⟩
def Q26 (Z : State) (c : Int32) (h0 : Heap) (n0 : Nat) (v : Option Value) (h : Heap) (L : List Loc) : Prop := v = some (.int c) ∧ Fr n0 L ∧ h = h0
theorem ef_rm26 (m : MethodId) (x0 : Addr) (x1 : Int32) : entryFrame m #[(.ref x0), (.int x1)] 2 = mkF m 0 #[.val (.ref x0), .val (.int x1)] [] := by first | (simp [entryFrame, mkF, argsToLocals, Value.category]; done) | rfl
theorem d26_0 : decode jdk_42_method_56_code 0 = .ok (.aload_n 0, 1) := by decide +kernel
theorem pd___Z_171 : parseMethodDescriptor "()Z" = some ⟨[], some .boolean⟩ := by decide +kernel
theorem d26_1 : decode jdk_42_method_56_code 1 = .ok (.invokevirtual 492, 3) := by decide +kernel
theorem d26_4 : decode jdk_42_method_56_code 4 = .ok (.ifCond .eq 12, 3) := by decide +kernel
theorem d26_7 : decode jdk_42_method_56_code 7 = .ok (.aload_n 0, 1) := by decide +kernel
theorem d26_8 : decode jdk_42_method_56_code 8 = .ok (.getfield 9, 3) := by decide +kernel
theorem d26_11 : decode jdk_42_method_56_code 11 = .ok (.iload_n 1, 1) := by decide +kernel
theorem d26_12 : decode jdk_42_method_56_code 12 = .ok (.invokestatic 495, 3) := by decide +kernel
theorem d26_15 : decode jdk_42_method_56_code 15 = .ok (.ireturn, 1) := by decide +kernel
theorem d26_16 : decode jdk_42_method_56_code 16 = .ok (.aload_n 0, 1) := by decide +kernel
theorem d26_17 : decode jdk_42_method_56_code 17 = .ok (.getfield 9, 3) := by decide +kernel
theorem d26_20 : decode jdk_42_method_56_code 20 = .ok (.iload_n 1, 1) := by decide +kernel
theorem d26_21 : decode jdk_42_method_56_code 21 = .ok (.invokestatic 498, 3) := by decide +kernel
theorem d26_24 : decode jdk_42_method_56_code 24 = .ok (.ireturn, 1) := by decide +kernel
set_option maxRecDepth 65536 in
set_option maxHeartbeats 40000000 in
theorem rm26 (l : Launch) (Z : State) (a0 : Array Value) (hw : ∀ d ∈ tables_1, d.before a0 Z = true) (ws : List Jvm.Cond) (r0 : Addr) (i : Nat) (cs : List Int32) (zc : Int32) (fm : Value) (h0 : Heap) (n0 : Nat) (Z0 : n0 ≤ h0.size) (O0 : Old Z n0 h0) (Sz : Sta Z Z.heap "java/lang/String" "COMPACT_STRINGS" "Z" (.int zc)) (hzc : ¬ zc = 0) (Sf : Sta Z Z.heap "jdk/internal/util/Preconditions" "SIOOBE_FORMATTER" "Ljava/util/function/BiFunction;" fm) (i_fm : fm.isRef = true) (Sd : Sta Z Z.heap "java/lang/StringUTF16" "$assertionsDisabled" "Z" (.int (1 : Int32))) (Sh : Sta Z Z.heap "java/lang/StringUTF16" "HI_BYTE_SHIFT" "I" (.int (0 : Int32))) (Sl : Sta Z Z.heap "java/lang/StringUTF16" "LO_BYTE_SHIFT" "I" (.int (8 : Int32))) (hY : own_Txt Z h0 r0 cs) (hi : i < cs.length) :
    MetFree l (⟨"java/lang/String", "charAt", "(I)C"⟩ : MethodName) (head1 (Jvm.Cond.code (⟨"java/lang/String", "charAt", "(I)C"⟩ : MethodName) jdk_42_method_56_code 2 (some .char) :: ws) ({ frames := 4, cells := 0, slots := 0, locals := 53 } : Room)) (fun aX UX => aX = #[(.ref r0), (.int (Int32.ofNat i))] ∧ Z.Warmed39 UX.vm ∧ UX.heap = h0) (fun _ _ _ _ _ => True) (fun _ UX oX UX' => ∃ vX LX, oX = .returned vX ∧ Q26 Z (cs.getD i 0) h0 n0 vX UX'.heap LX ∧ FrameEnd UX oX UX' LX ({ frames := 4, cells := 0, slots := 0, locals := 53 } : Room).cells ({ frames := 4, cells := 0, slots := 0, locals := 53 } : Room).slots) := by
  refine MetFree.of_bodySF (plainFor_of_name pn_java_lang_String) hisR ?_
  intro p e s m args below meth c s₁ Bd hml0 hP hK
  obtain ⟨rfl, hZ, hh⟩ := hP
  have hx := Bd.exec
  have hby := Bd.bytes
  have hml : c.maxLocals = 2 := hml0
  have hown : s.vm.findClass "java/lang/String" = some m.cls := findClass_of_methodNamed Bd.named
  have hnm := (name_of_methodNamed Bd.named Bd.method).1
  have X0 : Stand p l e ({ frames := 4, cells := 0, slots := 0, locals := 53 } : Room) s m #[(.ref r0), (.int (Int32.ofNat i))] below meth c s₁ [] 0 0 := Stand.of_body Bd
  have e0 : s₁.heap = h0 := by rw [← hh, Bd.state]; rfl
  have N0 := Fr.nil n0
  show own_Comes p e below s ({ frames := 4, cells := 0, slots := 0, locals := 53 } : Room).cells ({ frames := 4, cells := 0, slots := 0, locals := 53 } : Room).slots (Q26 Z (cs.getD i 0) h0 n0) _
  rw [show entryFrame m #[(.ref r0), (.int (Int32.ofNat i))] 2 = mkF m 0 #[.val (.ref r0), .val (.int (Int32.ofNat i))] [] from ef_rm26 m r0 (Int32.ofNat i)]
  show own_Comes p e below s _ _ _ (s₁.setTop (mkF m 0 #[.val (.ref r0), .val (.int (Int32.ofNat i))] []))
  have hYc := hY
  obtain ⟨Er, tr, kr, cdr, Nr, vr, Vr, Cr, Ar, Hr, Br, Lr⟩ := hYc
  rcases Hr with ⟨rfl, rfl, rfl, Hl⟩ | ⟨rfl, rfl, rfl, Hw⟩
  · show own_Comes p e below s _ _ _ (s₁.setTop (mkF m 0 #[.val (.ref r0), .val (.int (Int32.ofNat i))] []))
    refine own_by (fun _ kS => XS.aloadN X0.here hx rfl (hb hby d26_0) rfl rfl kS) ?_
    show own_Comes p e below s _ _ _ (s₁.setTop (mkF m 1 #[.val (.ref r0), .val (.int (Int32.ofNat i))] [(.ref r0)]))
    obtain ⟨cq23, kq23, q23a, q23b, q23c⟩ := isOf hZ e0 Er
    obtain ⟨vv23, _, ⟨T23, L23, k23, n23⟩, -, X23, ⟨Lc23, hQ23, l23, y23, z23⟩, st23⟩ := X0.virtualBack hx (y := (⟨"java/lang/String", "isLatin1", "()Z"⟩ : MethodName)) (z := (⟨"java/lang/String", "isLatin1", "()Z"⟩ : MethodName)) hown (mvT hZ (hw _ (List.mem_of_getElem? (i := 90) rfl))) (mvT hZ (hw _ (List.mem_of_getElem? (i := 91) rfl))) (notFace_of_selects (args := #[]) (mvT hZ (hw _ (List.mem_of_getElem? (i := 93) rfl)))) (mvT hZ (hw _ (List.mem_of_getElem? (i := 93) rfl))) (mvT hZ (hw _ (List.mem_of_getElem? (i := 92) rfl))) (by decide) (backOf (W := 0) (rm21l l Z a0 hw [] r0 zc h0 n0 Z0 O0 Sz hzc Cr) hZ (hw _ (List.mem_of_getElem? (i := 94) rfl)) (hw _ (List.mem_of_getElem? (i := 10) rfl)) (by decide) (by decide)) q23a q23c (g := (mkF m 1 #[.val (.ref r0), .val (.int (Int32.ofNat i))] [(.ref r0)])) rfl (by rw [hml]; rfl) (Steps.refl _) (argsL := []) (rest := []) (lenOf pd___Z_171 rfl) rfl (by show 2 * 0 + _ ≤ _; exact Nat.le_of_eq rfl) (hb hby d26_1) (fun _ _ => ⟨rfl, e0, (by decide : 0 + 0 ≤ _), (by decide : 0 + 0 ≤ _)⟩)
    dsimp only [Pt.U, Pt.locs, Pt.cells, Pt.slots] at X23 l23 y23 z23 st23 hQ23
    subst l23 y23 z23
    obtain ⟨rfl, N23q, e23q⟩ := hQ23
    have N23 := Fr.app N0 N23q
    refine own_tr st23 ?_
    have e23 : T23.heap = h0 := e23q
    show own_Comes p e below s _ _ _ (T23.setTop (mkF m 4 #[.val (.ref r0), .val (.int (Int32.ofNat i))] [(.int (1 : Int32))]))
    have hb24 : ¬ ((1 : Int32) = (0 : Int32)) := by decide
    refine own_by (fun _ kS => XS.ifNo X23.here hx rfl (hb hby d26_4) rfl ((if0 _ _).trans (feq hb24).1) kS) ?_
    show own_Comes p e below s _ _ _ (T23.setTop (mkF m 7 #[.val (.ref r0), .val (.int (Int32.ofNat i))] []))
    refine own_by (fun _ kS => XS.aloadN X23.here hx rfl (hb hby d26_7) rfl rfl kS) ?_
    show own_Comes p e below s _ _ _ (T23.setTop (mkF m 8 #[.val (.ref r0), .val (.int (Int32.ofNat i))] [(.ref r0)]))
    obtain ⟨T25, X25, e25, st25⟩ := getF X23 hx hZ hown (host := "") (Or.inl (hw _ (List.mem_of_getElem? (i := 35) rfl))) Via.refl e23 Vr (g := (mkF m 8 #[.val (.ref r0), .val (.int (Int32.ofNat i))] [(.ref r0)])) rfl rfl (hb hby d26_8)
    refine own_by st25 ?_
    show own_Comes p e below s _ _ _ (T25.setTop (mkF m 11 #[.val (.ref r0), .val (.int (Int32.ofNat i))] [(.ref tr)]))
    refine own_by (fun _ kS => XS.iloadN X25.here hx rfl (hb hby d26_11) rfl kS) ?_
    show own_Comes p e below s _ _ _ (T25.setTop (mkF m 12 #[.val (.ref r0), .val (.int (Int32.ofNat i))] [(.int (Int32.ofNat i)), (.ref tr)]))
    obtain ⟨vv26, _, ⟨T26, L26, k26, n26⟩, -, X26, ⟨Lc26, hQ26, l26, y26, z26⟩, st26⟩ := Jvm.LawKit.callS X25 hx (y := (⟨"java/lang/StringLatin1", "charAt", "([BI)C"⟩ : MethodName)) hown (mvT hZ (hw _ (List.mem_of_getElem? (i := 128) rfl))) (mvT hZ (hw _ (List.mem_of_getElem? (i := 129) rfl))) (mvT hZ (hw _ (List.mem_of_getElem? (i := 130) rfl))) (mvT hZ (hw _ (List.mem_of_getElem? (i := 131) rfl))) (by decide) (backOf (W := 0) (rm27 l Z a0 hw [] tr i kr cs fm h0 n0 Z0 O0 Sf i_fm Ar Lr hi Br Hl) hZ (hw _ (List.mem_of_getElem? (i := 131) rfl)) (hw _ (List.mem_of_getElem? (i := 130) rfl)) (by decide) (by decide)) (g := (mkF m 12 #[.val (.ref r0), .val (.int (Int32.ofNat i))] [(.int (Int32.ofNat i)), (.ref tr)])) rfl (by rw [hml]; rfl) (argsL := [(.ref tr), (.int (Int32.ofNat i))]) (rest := []) (lenOf pd___BI_C_378 rfl) rfl (by show 2 * 0 + _ ≤ _; exact Nat.le_of_eq rfl) (hb hby d26_12) (fun _ _ => ⟨rfl, e25, (by decide : 0 + 0 ≤ _), (by decide : 0 + 0 ≤ _)⟩)
    dsimp only [Pt.U, Pt.locs, Pt.cells, Pt.slots] at X26 l26 y26 z26 st26 hQ26
    subst l26 y26 z26
    obtain ⟨rfl, N26q, e26q⟩ := hQ26
    have N26 := Fr.app N23 N26q
    refine own_by st26 ?_
    have e26 : T26.heap = h0 := e26q
    show own_Comes p e below s _ _ _ (T26.setTop (mkF m 15 #[.val (.ref r0), .val (.int (Int32.ofNat i))] [(.int (cs.getD i 0))]))
    refine own_ret X26 (v := some (.int (nar .char (cs.getD i 0)))) (fun h => by rw [Bd.returns] at h; cases h) Bd.notSynchronized (by decide) (by decide) ?_ (fun fs hr => retN X26 hx (t := .char) Bd.returns (by simp) (hb hby d26_15) hr)
    rw [e26]; exact ⟨congrArg (fun z => some (Value.int z)) (own_nar16 (Br _ (own_mem hi))), N26, rfl⟩
  · show own_Comes p e below s _ _ _ (s₁.setTop (mkF m 0 #[.val (.ref r0), .val (.int (Int32.ofNat i))] []))
    refine own_by (fun _ kS => XS.aloadN X0.here hx rfl (hb hby d26_0) rfl rfl kS) ?_
    show own_Comes p e below s _ _ _ (s₁.setTop (mkF m 1 #[.val (.ref r0), .val (.int (Int32.ofNat i))] [(.ref r0)]))
    obtain ⟨cq27, kq27, q27a, q27b, q27c⟩ := isOf hZ e0 Er
    obtain ⟨vv27, _, ⟨T27, L27, k27, n27⟩, -, X27, ⟨Lc27, hQ27, l27, y27, z27⟩, st27⟩ := X0.virtualBack hx (y := (⟨"java/lang/String", "isLatin1", "()Z"⟩ : MethodName)) (z := (⟨"java/lang/String", "isLatin1", "()Z"⟩ : MethodName)) hown (mvT hZ (hw _ (List.mem_of_getElem? (i := 90) rfl))) (mvT hZ (hw _ (List.mem_of_getElem? (i := 91) rfl))) (notFace_of_selects (args := #[]) (mvT hZ (hw _ (List.mem_of_getElem? (i := 93) rfl)))) (mvT hZ (hw _ (List.mem_of_getElem? (i := 93) rfl))) (mvT hZ (hw _ (List.mem_of_getElem? (i := 92) rfl))) (by decide) (backOf (W := 0) (rm21u l Z a0 hw [] r0 zc h0 n0 Z0 O0 Sz hzc Cr) hZ (hw _ (List.mem_of_getElem? (i := 94) rfl)) (hw _ (List.mem_of_getElem? (i := 10) rfl)) (by decide) (by decide)) q27a q27c (g := (mkF m 1 #[.val (.ref r0), .val (.int (Int32.ofNat i))] [(.ref r0)])) rfl (by rw [hml]; rfl) (Steps.refl _) (argsL := []) (rest := []) (lenOf pd___Z_171 rfl) rfl (by show 2 * 0 + _ ≤ _; exact Nat.le_of_eq rfl) (hb hby d26_1) (fun _ _ => ⟨rfl, e0, (by decide : 0 + 0 ≤ _), (by decide : 0 + 0 ≤ _)⟩)
    dsimp only [Pt.U, Pt.locs, Pt.cells, Pt.slots] at X27 l27 y27 z27 st27 hQ27
    subst l27 y27 z27
    obtain ⟨rfl, N27q, e27q⟩ := hQ27
    have N27 := Fr.app N0 N27q
    refine own_tr st27 ?_
    have e27 : T27.heap = h0 := e27q
    show own_Comes p e below s _ _ _ (T27.setTop (mkF m 4 #[.val (.ref r0), .val (.int (Int32.ofNat i))] [(.int (0 : Int32))]))
    have hb28 : (0 : Int32) = (0 : Int32) := by decide
    refine own_by (fun _ kS => XS.ifYes X27.here hx rfl (pc0 := 4) (pc' := 16) rfl (hb hby d26_4) rfl ((if0 _ _).trans (teq hb28).1) (by decide) (by decide) kS) ?_
    show own_Comes p e below s _ _ _ (T27.setTop (mkF m 16 #[.val (.ref r0), .val (.int (Int32.ofNat i))] []))
    refine own_by (fun _ kS => XS.aloadN X27.here hx rfl (hb hby d26_16) rfl rfl kS) ?_
    show own_Comes p e below s _ _ _ (T27.setTop (mkF m 17 #[.val (.ref r0), .val (.int (Int32.ofNat i))] [(.ref r0)]))
    obtain ⟨T29, X29, e29, st29⟩ := getF X27 hx hZ hown (host := "") (Or.inl (hw _ (List.mem_of_getElem? (i := 35) rfl))) Via.refl e27 Vr (g := (mkF m 17 #[.val (.ref r0), .val (.int (Int32.ofNat i))] [(.ref r0)])) rfl rfl (hb hby d26_17)
    refine own_by st29 ?_
    show own_Comes p e below s _ _ _ (T29.setTop (mkF m 20 #[.val (.ref r0), .val (.int (Int32.ofNat i))] [(.ref tr)]))
    refine own_by (fun _ kS => XS.iloadN X29.here hx rfl (hb hby d26_20) rfl kS) ?_
    show own_Comes p e below s _ _ _ (T29.setTop (mkF m 21 #[.val (.ref r0), .val (.int (Int32.ofNat i))] [(.int (Int32.ofNat i)), (.ref tr)]))
    obtain ⟨vv30, _, ⟨T30, L30, k30, n30⟩, -, X30, ⟨Lc30, hQ30, l30, y30, z30⟩, st30⟩ := Jvm.LawKit.callS X29 hx (y := (⟨"java/lang/StringUTF16", "charAt", "([BI)C"⟩ : MethodName)) hown (mvT hZ (hw _ (List.mem_of_getElem? (i := 145) rfl))) (mvT hZ (hw _ (List.mem_of_getElem? (i := 146) rfl))) (mvT hZ (hw _ (List.mem_of_getElem? (i := 24) rfl))) (mvT hZ (hw _ (List.mem_of_getElem? (i := 147) rfl))) (by decide) (backOf (W := 0) (rm31 l Z a0 hw [] tr i kr cs fm h0 n0 Z0 O0 Sf i_fm Sd Sh Sl Ar Lr hi Br) hZ (hw _ (List.mem_of_getElem? (i := 147) rfl)) (hw _ (List.mem_of_getElem? (i := 24) rfl)) (by decide) (by decide)) (g := (mkF m 21 #[.val (.ref r0), .val (.int (Int32.ofNat i))] [(.int (Int32.ofNat i)), (.ref tr)])) rfl (by rw [hml]; rfl) (argsL := [(.ref tr), (.int (Int32.ofNat i))]) (rest := []) (lenOf pd___BI_C_378 rfl) rfl (by show 2 * 0 + _ ≤ _; exact Nat.le_of_eq rfl) (hb hby d26_21) (fun _ _ => ⟨rfl, e29, (by decide : 0 + 0 ≤ _), (by decide : 0 + 0 ≤ _)⟩)
    dsimp only [Pt.U, Pt.locs, Pt.cells, Pt.slots] at X30 l30 y30 z30 st30 hQ30
    subst l30 y30 z30
    obtain ⟨rfl, N30q, e30q⟩ := hQ30
    have N30 := Fr.app N27 N30q
    refine own_by st30 ?_
    have e30 : T30.heap = h0 := e30q
    show own_Comes p e below s _ _ _ (T30.setTop (mkF m 24 #[.val (.ref r0), .val (.int (Int32.ofNat i))] [(.int (cs.getD i 0))]))
    refine own_ret X30 (v := some (.int (nar .char (cs.getD i 0)))) (fun h => by rw [Bd.returns] at h; cases h) Bd.notSynchronized (by decide) (by decide) ?_ (fun fs hr => retN X30 hx (t := .char) Bd.returns (by simp) (hb hby d26_24) hr)
    rw [e30]; exact ⟨congrArg (fun z => some (Value.int z)) (own_nar16 (Br _ (own_mem hi))), N30, rfl⟩
def Q6 (Z : State) (r2 : Addr) (cs : List Int32) (h0 : Heap) (n0 : Nat) (v : Option Value) (h : Heap) (L : List Loc) : Prop := ∃ k : Nat, v = some (.int (Int32.ofNat k)) ∧ Fr n0 L ∧ Keep h0 h [r2] ∧ k < cs.length ∧ (255 : Int32) < cs.getD k 0
theorem ef_rm6 (m : MethodId) (x0 : Addr) (x1 : Int32) (x2 : Addr) (x3 : Int32) (x4 : Int32) : entryFrame m #[(.ref x0), (.int x1), (.ref x2), (.int x3), (.int x4)] 7 = mkF m 0 #[.val (.ref x0), .val (.int x1), .val (.ref x2), .val (.int x3), .val (.int x4), .unset, .unset] [] := by first | (simp [entryFrame, mkF, argsToLocals, Value.category]; done) | rfl
theorem d6_3 : decode jdk_52_method_21_code 3 = .ok (.iload 5, 2) := by decide +kernel
theorem d6_5 : decode jdk_52_method_21_code 5 = .ok (.iload 4, 2) := by decide +kernel
theorem d6_7 : decode jdk_52_method_21_code 7 = .ok (.if_icmp .ge 37, 3) := by decide +kernel
theorem d6_10 : decode jdk_52_method_21_code 10 = .ok (.aload_n 0, 1) := by decide +kernel
theorem d6_11 : decode jdk_52_method_21_code 11 = .ok (.iload_n 1, 1) := by decide +kernel
theorem d6_12 : decode jdk_52_method_21_code 12 = .ok (.caload, 1) := by decide +kernel
theorem d6_13 : decode jdk_52_method_21_code 13 = .ok (.istore 6, 2) := by decide +kernel
theorem d6_15 : decode jdk_52_method_21_code 15 = .ok (.iload 6, 2) := by decide +kernel
theorem d6_17 : decode jdk_52_method_21_code 17 = .ok (.sipush 255, 3) := by decide +kernel
theorem d6_20 : decode jdk_52_method_21_code 20 = .ok (.if_icmp .le 6, 3) := by decide +kernel
theorem d6_23 : decode jdk_52_method_21_code 23 = .ok (.iload 5, 2) := by decide +kernel
theorem d6_25 : decode jdk_52_method_21_code 25 = .ok (.ireturn, 1) := by decide +kernel
theorem d6_26 : decode jdk_52_method_21_code 26 = .ok (.aload_n 2, 1) := by decide +kernel
theorem d6_27 : decode jdk_52_method_21_code 27 = .ok (.iload_n 3, 1) := by decide +kernel
theorem d6_28 : decode jdk_52_method_21_code 28 = .ok (.iload 6, 2) := by decide +kernel
theorem d6_30 : decode jdk_52_method_21_code 30 = .ok (.i2b, 1) := by decide +kernel
theorem d6_31 : decode jdk_52_method_21_code 31 = .ok (.bastore, 1) := by decide +kernel
theorem d6_32 : decode jdk_52_method_21_code 32 = .ok (.iinc 1 1, 3) := by decide +kernel
theorem d6_35 : decode jdk_52_method_21_code 35 = .ok (.iinc 3 1, 3) := by decide +kernel
theorem d6_38 : decode jdk_52_method_21_code 38 = .ok (.iinc 5 1, 3) := by decide +kernel
theorem d6_41 : decode jdk_52_method_21_code 41 = .ok (.goto (-38), 3) := by decide +kernel
theorem d6_0 : decode jdk_52_method_21_code 0 = .ok (.iconst 0, 1) := by decide +kernel
theorem d6_1 : decode jdk_52_method_21_code 1 = .ok (.istore 5, 2) := by decide +kernel
set_option maxRecDepth 65536 in
set_option maxHeartbeats 40000000 in
theorem rm6 (l : Launch) (Z : State) (a0 : Array Value) (hw : ∀ d ∈ tables_1, d.before a0 Z = true) (ws : List Jvm.Cond) (r0 r2 : Addr) (kc kd : ClassId) (cs : List Int32) (ds : List Value) (h0 : Heap) (n0 : Nat) (Z0 : n0 ≤ h0.size) (Vs : Arv Z h0 r0 kc .char (Int32.ofNat cs.length) (cs.map Value.int) (.int 0)) (Vd : Arv Z h0 r2 kd .byte (Int32.ofNat cs.length) ds (.int 0)) (hds : ds.length = cs.length) (nA : r0 ≠ r2) (g_r2 : n0 ≤ r2) (Hw : ∃ c ∈ cs, (255 : Int32) < c) (hl : cs.length ≤ 4) :
    MetFree l (⟨"java/lang/StringUTF16", "compress", "([CI[BII)I"⟩ : MethodName) (head1 (Jvm.Cond.code (⟨"java/lang/StringUTF16", "compress", "([CI[BII)I"⟩ : MethodName) jdk_52_method_21_code 7 (some .int) :: ws) ({ frames := 0, cells := 0, slots := 0, locals := 0 } : Room)) (fun aX UX => aX = #[(.ref r0), (.int (0 : Int32)), (.ref r2), (.int (0 : Int32)), (.int (Int32.ofNat cs.length))] ∧ Z.Warmed39 UX.vm ∧ UX.heap = h0) (fun _ _ _ _ _ => True) (fun _ UX oX UX' => ∃ vX LX, oX = .returned vX ∧ Q6 Z r2 cs h0 n0 vX UX'.heap LX ∧ FrameEnd UX oX UX' LX ({ frames := 0, cells := 0, slots := 0, locals := 0 } : Room).cells ({ frames := 0, cells := 0, slots := 0, locals := 0 } : Room).slots) := by
  refine MetFree.of_bodySF (plainFor_of_name pn_java_lang_StringUTF16) hisR ?_
  intro p e s m args below meth c s₁ Bd hml0 hP hK
  obtain ⟨rfl, hZ, hh⟩ := hP
  have hx := Bd.exec
  have hby := Bd.bytes
  have hml : c.maxLocals = 7 := hml0
  have hown : s.vm.findClass "java/lang/StringUTF16" = some m.cls := findClass_of_methodNamed Bd.named
  have hnm := (name_of_methodNamed Bd.named Bd.method).1
  have X0 : Stand p l e ({ frames := 0, cells := 0, slots := 0, locals := 0 } : Room) s m #[(.ref r0), (.int (0 : Int32)), (.ref r2), (.int (0 : Int32)), (.int (Int32.ofNat cs.length))] below meth c s₁ [] 0 0 := Stand.of_body Bd
  have e0 : s₁.heap = h0 := by rw [← hh, Bd.state]; rfl
  have N0 := Fr.nil n0
  show own_Comes p e below s ({ frames := 0, cells := 0, slots := 0, locals := 0 } : Room).cells ({ frames := 0, cells := 0, slots := 0, locals := 0 } : Room).slots (Q6 Z r2 cs h0 n0) _
  rw [show entryFrame m #[(.ref r0), (.int (0 : Int32)), (.ref r2), (.int (0 : Int32)), (.int (Int32.ofNat cs.length))] 7 = mkF m 0 #[.val (.ref r0), .val (.int (0 : Int32)), .val (.ref r2), .val (.int (0 : Int32)), .val (.int (Int32.ofNat cs.length)), .unset, .unset] [] from ef_rm6 m r0 (0 : Int32) r2 (0 : Int32) (Int32.ofNat cs.length)]
  show own_Comes p e below s _ _ _ (s₁.setTop (mkF m 0 #[.val (.ref r0), .val (.int (0 : Int32)), .val (.ref r2), .val (.int (0 : Int32)), .val (.int (Int32.ofNat cs.length)), .unset, .unset] []))
  have J3 : ∀ (r : Nat) (i : Nat) (ds : List Value) (sl : Slot) (TJ3 : State) (hJ3 : Heap) (LJ3 : List Loc), (cs.length < i + r) → (sl = .unset ∨ ∃ w : Value, sl = .val w ∧ w.category = 1) → (i ≤ cs.length) → (∀ j, j < i → ¬ (255 : Int32) < cs.getD j 0) → (Keep h0 hJ3 [r2]) → (Arv Z hJ3 r2 kd .byte (Int32.ofNat cs.length) ds (.int 0)) → (ds.length = cs.length) → (Arv Z hJ3 r0 kc .char (Int32.ofNat cs.length) (cs.map Value.int) (.int 0)) → Stand p l e ({ frames := 0, cells := 0, slots := 0, locals := 0 } : Room) s m #[(.ref r0), (.int (0 : Int32)), (.ref r2), (.int (0 : Int32)), (.int (Int32.ofNat cs.length))] below meth c TJ3 LJ3 0 0 → TJ3.heap = hJ3 → Fr n0 LJ3 → n0 ≤ hJ3.size → own_Comes p e below s ({ frames := 0, cells := 0, slots := 0, locals := 0 } : Room).cells ({ frames := 0, cells := 0, slots := 0, locals := 0 } : Room).slots (Q6 Z r2 cs h0 n0) (TJ3.setTop (mkF m 3 #[.val (.ref r0), .val (.int (Int32.ofNat i)), .val (.ref r2), .val (.int (Int32.ofNat i)), .val (.int (Int32.ofNat cs.length)), .val (.int (Int32.ofNat i)), sl] [])) := by
    intro r
    induction r with
    | zero => intro i ds sl TJ3 hJ3 LJ3 hrJ3 hO_sl hiL hj KJ Vd hds VsJ XJ3 eJ3 NJ3 ZJ3; omega
    | succ r ih =>
      intro i ds sl TJ3 hJ3 LJ3 hrJ3 hO_sl hiL hj KJ Vd hds VsJ XJ3 eJ3 NJ3 ZJ3
      show own_Comes p e below s _ _ _ (TJ3.setTop (mkF m 3 #[.val (.ref r0), .val (.int (Int32.ofNat i)), .val (.ref r2), .val (.int (Int32.ofNat i)), .val (.int (Int32.ofNat cs.length)), .val (.int (Int32.ofNat i)), sl] []))
      have hi := own_first Hw hj hiL
      refine own_by (fun _ kS => XS.iload XJ3.here hx rfl (hb hby d6_3) rfl kS) ?_
      show own_Comes p e below s _ _ _ (TJ3.setTop (mkF m 5 #[.val (.ref r0), .val (.int (Int32.ofNat i)), .val (.ref r2), .val (.int (Int32.ofNat i)), .val (.int (Int32.ofNat cs.length)), .val (.int (Int32.ofNat i)), sl] [(.int (Int32.ofNat i))]))
      refine own_by (fun _ kS => XS.iload XJ3.here hx rfl (hb hby d6_5) rfl kS) ?_
      show own_Comes p e below s _ _ _ (TJ3.setTop (mkF m 7 #[.val (.ref r0), .val (.int (Int32.ofNat i)), .val (.ref r2), .val (.int (Int32.ofNat i)), .val (.int (Int32.ofNat cs.length)), .val (.int (Int32.ofNat i)), sl] [(.int (Int32.ofNat cs.length)), (.int (Int32.ofNat i))]))
      have hb31 : (Int32.ofNat i) < (Int32.ofNat cs.length) := (own_lt (by omega) (by omega)).mpr hi
      refine own_by (fun _ kS => XS.icmpNo XJ3.here hx rfl (hb hby d6_7) rfl (tlt hb31).2.1 kS) ?_
      show own_Comes p e below s _ _ _ (TJ3.setTop (mkF m 10 #[.val (.ref r0), .val (.int (Int32.ofNat i)), .val (.ref r2), .val (.int (Int32.ofNat i)), .val (.int (Int32.ofNat cs.length)), .val (.int (Int32.ofNat i)), sl] []))
      refine own_by (fun _ kS => XS.aloadN XJ3.here hx rfl (hb hby d6_10) rfl rfl kS) ?_
      show own_Comes p e below s _ _ _ (TJ3.setTop (mkF m 11 #[.val (.ref r0), .val (.int (Int32.ofNat i)), .val (.ref r2), .val (.int (Int32.ofNat i)), .val (.int (Int32.ofNat cs.length)), .val (.int (Int32.ofNat i)), sl] [(.ref r0)]))
      refine own_by (fun _ kS => XS.iloadN XJ3.here hx rfl (hb hby d6_11) rfl kS) ?_
      show own_Comes p e below s _ _ _ (TJ3.setTop (mkF m 12 #[.val (.ref r0), .val (.int (Int32.ofNat i)), .val (.ref r2), .val (.int (Int32.ofNat i)), .val (.int (Int32.ofNat cs.length)), .val (.int (Int32.ofNat i)), sl] [(.int (Int32.ofNat i)), (.ref r0)]))
      have Vo32 := VsJ
      obtain ⟨cl32, Ar32, qA32, SA32, NA32, HA32, GA32⟩ := Vo32
      have hin32 : ¬ ((Int32.ofNat i) < 0 ∨ cl32.slots.size ≤ ((Int32.ofNat i)).toNatClampNeg) := own_inb SA32 (by omega) hi
      have hat32 : cl32.slots[((Int32.ofNat i)).toNatClampNeg]? = some (.int (cs.getD i 0)) := HA32.at hin32 (by rw [own_tn (by omega)]; exact own_char hi)
      refine own_by (fun _ kS => XJ3.caload hx (j := (Int32.ofNat i)) (v := (.int (cs.getD i 0))) (by rw [eJ3]; exact Ar32.1) (State.isArrayOf_alike hZ.alike Ar32.2.1) Ar32.2.2 hin32 hat32 (g := (mkF m 12 #[.val (.ref r0), .val (.int (Int32.ofNat i)), .val (.ref r2), .val (.int (Int32.ofNat i)), .val (.int (Int32.ofNat cs.length)), .val (.int (Int32.ofNat i)), sl] [(.int (Int32.ofNat i)), (.ref r0)])) rfl rfl (hb hby d6_12) _ kS) ?_
      show own_Comes p e below s _ _ _ (TJ3.setTop (mkF m 13 #[.val (.ref r0), .val (.int (Int32.ofNat i)), .val (.ref r2), .val (.int (Int32.ofNat i)), .val (.int (Int32.ofNat cs.length)), .val (.int (Int32.ofNat i)), sl] [(.int (cs.getD i 0))]))
      refine own_by (fun _ kS => XS.istore XJ3.here hx rfl (hb hby d6_13) rfl (l' := #[.val (.ref r0), .val (.int (Int32.ofNat i)), .val (.ref r2), .val (.int (Int32.ofNat i)), .val (.int (Int32.ofNat cs.length)), .val (.int (Int32.ofNat i)), .val (.int (cs.getD i 0))]) (by first | rfl | (rcases hO_sl with rfl | ⟨w, rfl, hw⟩ <;> first | rfl | (cases w <;> first | rfl | (simp [Value.category] at hw)))) kS) ?_
      show own_Comes p e below s _ _ _ (TJ3.setTop (mkF m 15 #[.val (.ref r0), .val (.int (Int32.ofNat i)), .val (.ref r2), .val (.int (Int32.ofNat i)), .val (.int (Int32.ofNat cs.length)), .val (.int (Int32.ofNat i)), .val (.int (cs.getD i 0))] []))
      refine own_by (fun _ kS => XS.iload XJ3.here hx rfl (hb hby d6_15) rfl kS) ?_
      show own_Comes p e below s _ _ _ (TJ3.setTop (mkF m 17 #[.val (.ref r0), .val (.int (Int32.ofNat i)), .val (.ref r2), .val (.int (Int32.ofNat i)), .val (.int (Int32.ofNat cs.length)), .val (.int (Int32.ofNat i)), .val (.int (cs.getD i 0))] [(.int (cs.getD i 0))]))
      refine own_by (fun _ kS => XS.sipush XJ3.here hx rfl (hb hby d6_17) kS) ?_
      show own_Comes p e below s _ _ _ (TJ3.setTop (mkF m 20 #[.val (.ref r0), .val (.int (Int32.ofNat i)), .val (.ref r2), .val (.int (Int32.ofNat i)), .val (.int (Int32.ofNat cs.length)), .val (.int (Int32.ofNat i)), .val (.int (cs.getD i 0))] [(.int (255 : Int32)), (.int (cs.getD i 0))]))
      by_cases hbig : (255 : Int32) < (cs.getD i 0)
      · refine own_by (fun _ kS => XS.icmpNo XJ3.here hx rfl (hb hby d6_20) rfl (tlt hbig).2.2.2 kS) ?_
        show own_Comes p e below s _ _ _ (TJ3.setTop (mkF m 23 #[.val (.ref r0), .val (.int (Int32.ofNat i)), .val (.ref r2), .val (.int (Int32.ofNat i)), .val (.int (Int32.ofNat cs.length)), .val (.int (Int32.ofNat i)), .val (.int (cs.getD i 0))] []))
        refine own_by (fun _ kS => XS.iload XJ3.here hx rfl (hb hby d6_23) rfl kS) ?_
        show own_Comes p e below s _ _ _ (TJ3.setTop (mkF m 25 #[.val (.ref r0), .val (.int (Int32.ofNat i)), .val (.ref r2), .val (.int (Int32.ofNat i)), .val (.int (Int32.ofNat cs.length)), .val (.int (Int32.ofNat i)), .val (.int (cs.getD i 0))] [(.int (Int32.ofNat i))]))
        refine own_ret XJ3 (v := some (.int (Int32.ofNat i))) (fun h => by rw [Bd.returns] at h; cases h) Bd.notSynchronized (by decide) (by decide) ?_ (fun fs hr => retI XJ3 hx Bd.returns (hb hby d6_25) hr)
        rw [eJ3]; exact ⟨i, rfl, NJ3, KJ, hi, hbig⟩
      · refine own_by (fun _ kS => XS.icmpYes XJ3.here hx rfl (pc0 := 20) (pc' := 26) rfl (hb hby d6_20) rfl (flt hbig).2.2.2 (by decide) (by decide) kS) ?_
        show own_Comes p e below s _ _ _ (TJ3.setTop (mkF m 26 #[.val (.ref r0), .val (.int (Int32.ofNat i)), .val (.ref r2), .val (.int (Int32.ofNat i)), .val (.int (Int32.ofNat cs.length)), .val (.int (Int32.ofNat i)), .val (.int (cs.getD i 0))] []))
        refine own_by (fun _ kS => XS.aloadN XJ3.here hx rfl (hb hby d6_26) rfl rfl kS) ?_
        show own_Comes p e below s _ _ _ (TJ3.setTop (mkF m 27 #[.val (.ref r0), .val (.int (Int32.ofNat i)), .val (.ref r2), .val (.int (Int32.ofNat i)), .val (.int (Int32.ofNat cs.length)), .val (.int (Int32.ofNat i)), .val (.int (cs.getD i 0))] [(.ref r2)]))
        refine own_by (fun _ kS => XS.iloadN XJ3.here hx rfl (hb hby d6_27) rfl kS) ?_
        show own_Comes p e below s _ _ _ (TJ3.setTop (mkF m 28 #[.val (.ref r0), .val (.int (Int32.ofNat i)), .val (.ref r2), .val (.int (Int32.ofNat i)), .val (.int (Int32.ofNat cs.length)), .val (.int (Int32.ofNat i)), .val (.int (cs.getD i 0))] [(.int (Int32.ofNat i)), (.ref r2)]))
        refine own_by (fun _ kS => XS.iload XJ3.here hx rfl (hb hby d6_28) rfl kS) ?_
        show own_Comes p e below s _ _ _ (TJ3.setTop (mkF m 30 #[.val (.ref r0), .val (.int (Int32.ofNat i)), .val (.ref r2), .val (.int (Int32.ofNat i)), .val (.int (Int32.ofNat cs.length)), .val (.int (Int32.ofNat i)), .val (.int (cs.getD i 0))] [(.int (cs.getD i 0)), (.int (Int32.ofNat i)), (.ref r2)]))
        refine own_by (fun _ kS => XS.i2b XJ3.here hx rfl (hb hby d6_30) rfl kS) ?_
        show own_Comes p e below s _ _ _ (TJ3.setTop (mkF m 31 #[.val (.ref r0), .val (.int (Int32.ofNat i)), .val (.ref r2), .val (.int (Int32.ofNat i)), .val (.int (Int32.ofNat cs.length)), .val (.int (Int32.ofNat i)), .val (.int (cs.getD i 0))] [(.int ((cs.getD i 0).toInt8.toInt32)), (.int (Int32.ofNat i)), (.ref r2)]))
        have Vo33 := Vd
        obtain ⟨cl33, Ar33, qA33, SA33, NA33, HA33, GA33⟩ := Vo33
        have hin33 : ¬ ((Int32.ofNat i) < 0 ∨ cl33.slots.size ≤ ((Int32.ofNat i)).toNatClampNeg) := own_inb SA33 (by omega) hi
        obtain ⟨T34, h34, X34, e34, W34, st34⟩ := stB XJ3 hx hZ eJ3 Ar33 (j := (Int32.ofNat i)) hin33 (g := (mkF m 31 #[.val (.ref r0), .val (.int (Int32.ofNat i)), .val (.ref r2), .val (.int (Int32.ofNat i)), .val (.int (Int32.ofNat cs.length)), .val (.int (Int32.ofNat i)), .val (.int (cs.getD i 0))] [(.int ((cs.getD i 0).toInt8.toInt32)), (.int (Int32.ofNat i)), (.ref r2)])) rfl rfl (hb hby d6_31)
        refine own_by st34 ?_
        have V34 : Arv Z h34 r2 kd .byte (Int32.ofNat cs.length) (ds.set i (.int ((cs.getD i 0).toInt8.toInt32.toInt8.toInt32))) (.int 0) := Arv.set Ar33 qA33 SA33 NA33 HA33 GA33 (by first | rfl | exact fits_nar_byte _) W34 i (own_tn (by omega)) (by omega)
        have N34 := Fr.snoc X34 NJ3 g_r2
        show own_Comes p e below s _ _ _ (T34.setTop (mkF m 32 #[.val (.ref r0), .val (.int (Int32.ofNat i)), .val (.ref r2), .val (.int (Int32.ofNat i)), .val (.int (Int32.ofNat cs.length)), .val (.int (Int32.ofNat i)), .val (.int (cs.getD i 0))] []))
        refine own_by (fun _ kS => XS.iinc X34.here hx rfl (hb hby d6_32) rfl (l' := #[.val (.ref r0), .val (.int ((Int32.ofNat i) + (1 : Int32))), .val (.ref r2), .val (.int (Int32.ofNat i)), .val (.int (Int32.ofNat cs.length)), .val (.int (Int32.ofNat i)), .val (.int (cs.getD i 0))]) rfl kS) ?_
        show own_Comes p e below s _ _ _ (T34.setTop (mkF m 35 #[.val (.ref r0), .val (.int ((Int32.ofNat i) + (1 : Int32))), .val (.ref r2), .val (.int (Int32.ofNat i)), .val (.int (Int32.ofNat cs.length)), .val (.int (Int32.ofNat i)), .val (.int (cs.getD i 0))] []))
        refine own_by (fun _ kS => XS.iinc X34.here hx rfl (hb hby d6_35) rfl (l' := #[.val (.ref r0), .val (.int ((Int32.ofNat i) + (1 : Int32))), .val (.ref r2), .val (.int ((Int32.ofNat i) + (1 : Int32))), .val (.int (Int32.ofNat cs.length)), .val (.int (Int32.ofNat i)), .val (.int (cs.getD i 0))]) rfl kS) ?_
        show own_Comes p e below s _ _ _ (T34.setTop (mkF m 38 #[.val (.ref r0), .val (.int ((Int32.ofNat i) + (1 : Int32))), .val (.ref r2), .val (.int ((Int32.ofNat i) + (1 : Int32))), .val (.int (Int32.ofNat cs.length)), .val (.int (Int32.ofNat i)), .val (.int (cs.getD i 0))] []))
        refine own_by (fun _ kS => XS.iinc X34.here hx rfl (hb hby d6_38) rfl (l' := #[.val (.ref r0), .val (.int ((Int32.ofNat i) + (1 : Int32))), .val (.ref r2), .val (.int ((Int32.ofNat i) + (1 : Int32))), .val (.int (Int32.ofNat cs.length)), .val (.int ((Int32.ofNat i) + (1 : Int32))), .val (.int (cs.getD i 0))]) rfl kS) ?_
        show own_Comes p e below s _ _ _ (T34.setTop (mkF m 41 #[.val (.ref r0), .val (.int ((Int32.ofNat i) + (1 : Int32))), .val (.ref r2), .val (.int ((Int32.ofNat i) + (1 : Int32))), .val (.int (Int32.ofNat cs.length)), .val (.int ((Int32.ofNat i) + (1 : Int32))), .val (.int (cs.getD i 0))] []))
        rw [show ((Int32.ofNat i) + (1 : Int32)) = (Int32.ofNat (i + 1)) from own_succ (by omega)]
        show own_Comes p e below s _ _ _ (T34.setTop (mkF m 41 #[.val (.ref r0), .val (.int (Int32.ofNat (i + 1))), .val (.ref r2), .val (.int (Int32.ofNat (i + 1))), .val (.int (Int32.ofNat cs.length)), .val (.int (Int32.ofNat (i + 1))), .val (.int (cs.getD i 0))] []))
        refine own_by (fun _ kS => XS.goto X34.here hx rfl (pc0 := 41) (pc' := 3) rfl (hb hby d6_41) (by decide) (by decide) kS) ?_
        show own_Comes p e below s _ _ _ (T34.setTop (mkF m 3 #[.val (.ref r0), .val (.int (Int32.ofNat (i + 1))), .val (.ref r2), .val (.int (Int32.ofNat (i + 1))), .val (.int (Int32.ofNat cs.length)), .val (.int (Int32.ofNat (i + 1))), .val (.int (cs.getD i 0))] []))
        exact ih (i + 1) _ _ _ _ _ (by omega) (Or.inr ⟨_, rfl, rfl⟩) (by omega) (own_next hj hbig) (KJ.wr W34 (Or.inl (List.mem_of_getElem? (i := 0) rfl))) V34 (by rw [List.length_set]; exact hds) (VsJ.other W34 nA) (X34.more (by decide) (by decide)) e34 N34  (Nat.le_trans ZJ3 (Keep.of_wr W34).1)
  refine own_by (fun _ kS => XS.iconst X0.here hx rfl (hb hby d6_0) kS) ?_
  show own_Comes p e below s _ _ _ (s₁.setTop (mkF m 1 #[.val (.ref r0), .val (.int (0 : Int32)), .val (.ref r2), .val (.int (0 : Int32)), .val (.int (Int32.ofNat cs.length)), .unset, .unset] [(.int (0 : Int32))]))
  refine own_by (fun _ kS => XS.istore X0.here hx rfl (hb hby d6_1) rfl (l' := #[.val (.ref r0), .val (.int (0 : Int32)), .val (.ref r2), .val (.int (0 : Int32)), .val (.int (Int32.ofNat cs.length)), .val (.int (0 : Int32)), .unset]) rfl kS) ?_
  show own_Comes p e below s _ _ _ (s₁.setTop (mkF m 3 #[.val (.ref r0), .val (.int (0 : Int32)), .val (.ref r2), .val (.int (0 : Int32)), .val (.int (Int32.ofNat cs.length)), .val (.int (0 : Int32)), .unset] []))
  exact J3 (cs.length + 1) 0 _ _ _ _ _ (by omega) (Or.inl rfl) (by omega) (fun j hj => absurd hj (by omega)) (Keep.refl _ _) Vd hds Vs (X0.more (by decide) (by decide)) e0 N0  Z0
def Q11 (Z : State) (n : Nat) (h0 : Heap) (n0 : Nat) (v : Option Value) (h : Heap) (L : List Loc) : Prop := v = some (.int (Int32.ofNat (2 * n))) ∧ Fr n0 L ∧ h = h0
theorem ef_rm11 (m : MethodId) (x0 : Int32) : entryFrame m #[(.int x0)] 1 = mkF m 0 #[.val (.int x0)] [] := by first | (simp [entryFrame, mkF, argsToLocals, Value.category]; done) | rfl
theorem d11_0 : decode jdk_52_method_3_code 0 = .ok (.iload_n 0, 1) := by decide +kernel
theorem d11_1 : decode jdk_52_method_3_code 1 = .ok (.ifCond .ge 11, 3) := by decide +kernel
theorem d11_12 : decode jdk_52_method_3_code 12 = .ok (.iload_n 0, 1) := by decide +kernel
theorem d11_13 : decode jdk_52_method_3_code 13 = .ok (.ldc 20, 2) := by decide +kernel
theorem d11_15 : decode jdk_52_method_3_code 15 = .ok (.if_icmp .lt 40, 3) := by decide +kernel
theorem d11_55 : decode jdk_52_method_3_code 55 = .ok (.iload_n 0, 1) := by decide +kernel
theorem d11_56 : decode jdk_52_method_3_code 56 = .ok (.iconst 1, 1) := by decide +kernel
theorem d11_57 : decode jdk_52_method_3_code 57 = .ok (.ishl, 1) := by decide +kernel
theorem d11_58 : decode jdk_52_method_3_code 58 = .ok (.ireturn, 1) := by decide +kernel
set_option maxRecDepth 65536 in
set_option maxHeartbeats 40000000 in
theorem rm11 (l : Launch) (Z : State) (a0 : Array Value) (hw : ∀ d ∈ tables_1, d.before a0 Z = true) (ws : List Jvm.Cond) (n : Nat) (h0 : Heap) (n0 : Nat) (Z0 : n0 ≤ h0.size) (hl : n ≤ 4) :
    MetFree l (⟨"java/lang/StringUTF16", "newBytesLength", "(I)I"⟩ : MethodName) (head1 (Jvm.Cond.code (⟨"java/lang/StringUTF16", "newBytesLength", "(I)I"⟩ : MethodName) jdk_52_method_3_code 1 (some .int) :: ws) ({ frames := 0, cells := 0, slots := 0, locals := 0 } : Room)) (fun aX UX => aX = #[(.int (Int32.ofNat n))] ∧ Z.Warmed39 UX.vm ∧ UX.heap = h0) (fun _ _ _ _ _ => True) (fun _ UX oX UX' => ∃ vX LX, oX = .returned vX ∧ Q11 Z n h0 n0 vX UX'.heap LX ∧ FrameEnd UX oX UX' LX ({ frames := 0, cells := 0, slots := 0, locals := 0 } : Room).cells ({ frames := 0, cells := 0, slots := 0, locals := 0 } : Room).slots) := by
  refine MetFree.of_bodySF (plainFor_of_name pn_java_lang_StringUTF16) hisR ?_
  intro p e s m args below meth c s₁ Bd hml0 hP hK
  obtain ⟨rfl, hZ, hh⟩ := hP
  have hx := Bd.exec
  have hby := Bd.bytes
  have hml : c.maxLocals = 1 := hml0
  have hown : s.vm.findClass "java/lang/StringUTF16" = some m.cls := findClass_of_methodNamed Bd.named
  have hnm := (name_of_methodNamed Bd.named Bd.method).1
  have X0 : Stand p l e ({ frames := 0, cells := 0, slots := 0, locals := 0 } : Room) s m #[(.int (Int32.ofNat n))] below meth c s₁ [] 0 0 := Stand.of_body Bd
  have e0 : s₁.heap = h0 := by rw [← hh, Bd.state]; rfl
  have N0 := Fr.nil n0
  show own_Comes p e below s ({ frames := 0, cells := 0, slots := 0, locals := 0 } : Room).cells ({ frames := 0, cells := 0, slots := 0, locals := 0 } : Room).slots (Q11 Z n h0 n0) _
  rw [show entryFrame m #[(.int (Int32.ofNat n))] 1 = mkF m 0 #[.val (.int (Int32.ofNat n))] [] from ef_rm11 m (Int32.ofNat n)]
  show own_Comes p e below s _ _ _ (s₁.setTop (mkF m 0 #[.val (.int (Int32.ofNat n))] []))
  refine own_by (fun _ kS => XS.iloadN X0.here hx rfl (hb hby d11_0) rfl kS) ?_
  show own_Comes p e below s _ _ _ (s₁.setTop (mkF m 1 #[.val (.int (Int32.ofNat n))] [(.int (Int32.ofNat n))]))
  have hb35 : ¬ ((Int32.ofNat n) < (0 : Int32)) := own_neg (by omega)
  refine own_by (fun _ kS => XS.ifYes X0.here hx rfl (pc0 := 1) (pc' := 12) rfl (hb hby d11_1) rfl ((if0 _ _).trans (flt hb35).2.1) (by decide) (by decide) kS) ?_
  show own_Comes p e below s _ _ _ (s₁.setTop (mkF m 12 #[.val (.int (Int32.ofNat n))] []))
  refine own_by (fun _ kS => XS.iloadN X0.here hx rfl (hb hby d11_12) rfl kS) ?_
  show own_Comes p e below s _ _ _ (s₁.setTop (mkF m 13 #[.val (.int (Int32.ofNat n))] [(.int (Int32.ofNat n))]))
  refine own_by (fun _ kS => X0.ldcInt hx hown (mvT hZ (hw _ (List.mem_of_getElem? (i := 49) rfl))) (g := (mkF m 13 #[.val (.int (Int32.ofNat n))] [(.int (Int32.ofNat n))])) rfl (hb hby d11_13) _ kS) ?_
  show own_Comes p e below s _ _ _ (s₁.setTop (mkF m 15 #[.val (.int (Int32.ofNat n))] [(.int (1073741823 : Int32)), (.int (Int32.ofNat n))]))
  have hb36 : (Int32.ofNat n) < (1073741823 : Int32) := own_big (by omega)
  refine own_by (fun _ kS => XS.icmpYes X0.here hx rfl (pc0 := 15) (pc' := 55) rfl (hb hby d11_15) rfl (tlt hb36).1 (by decide) (by decide) kS) ?_
  show own_Comes p e below s _ _ _ (s₁.setTop (mkF m 55 #[.val (.int (Int32.ofNat n))] []))
  refine own_by (fun _ kS => XS.iloadN X0.here hx rfl (hb hby d11_55) rfl kS) ?_
  show own_Comes p e below s _ _ _ (s₁.setTop (mkF m 56 #[.val (.int (Int32.ofNat n))] [(.int (Int32.ofNat n))]))
  refine own_by (fun _ kS => XS.iconst X0.here hx rfl (hb hby d11_56) kS) ?_
  show own_Comes p e below s _ _ _ (s₁.setTop (mkF m 57 #[.val (.int (Int32.ofNat n))] [(.int (1 : Int32)), (.int (Int32.ofNat n))]))
  refine own_by (fun _ kS => XS.ishl X0.here hx rfl (hb hby d11_57) rfl kS) ?_
  show own_Comes p e below s _ _ _ (s₁.setTop (mkF m 58 #[.val (.int (Int32.ofNat n))] [(.int ((Int32.ofNat n) <<< ((1 : Int32) &&& 31)))]))
  rw [show ((Int32.ofNat n) <<< ((1 : Int32) &&& 31)) = (Int32.ofNat (2 * n)) from own_shl (by omega)]
  show own_Comes p e below s _ _ _ (s₁.setTop (mkF m 58 #[.val (.int (Int32.ofNat n))] [(.int (Int32.ofNat (2 * n)))]))
  refine own_ret X0 (v := some (.int (Int32.ofNat (2 * n)))) (fun h => by rw [Bd.returns] at h; cases h) Bd.notSynchronized (by decide) (by decide) ?_ (fun fs hr => retI X0 hx Bd.returns (hb hby d11_58) hr)
  rw [e0]; exact ⟨rfl, N0, rfl⟩
def Q10 (Z : State) (n : Nat) (h0 : Heap) (n0 : Nat) (v : Option Value) (h : Heap) (L : List Loc) : Prop := ∃ (a : Addr) (kb : ClassId), v = some (.ref a) ∧ Fr n0 L ∧ Ext h0 h ∧ n0 ≤ a ∧ h0.size ≤ a ∧ Arv Z h a kb .byte (Int32.ofNat (2 * n)) (List.replicate (2 * n) (.int (0 : Int32))) (.int (0 : Int32))
theorem ef_rm10 (m : MethodId) (x0 : Int32) : entryFrame m #[(.int x0)] 1 = mkF m 0 #[.val (.int x0)] [] := by first | (simp [entryFrame, mkF, argsToLocals, Value.category]; done) | rfl
theorem d10_0 : decode jdk_52_method_2_code 0 = .ok (.iload_n 0, 1) := by decide +kernel
theorem pd__I_I_227 : parseMethodDescriptor "(I)I" = some ⟨[.int], some .int⟩ := by decide +kernel
theorem d10_1 : decode jdk_52_method_2_code 1 = .ok (.invokestatic 11, 3) := by decide +kernel
theorem d10_4 : decode jdk_52_method_2_code 4 = .ok (.newarray .byte, 2) := by decide +kernel
theorem d10_6 : decode jdk_52_method_2_code 6 = .ok (.areturn, 1) := by decide +kernel
set_option maxRecDepth 65536 in
set_option maxHeartbeats 40000000 in
theorem rm10 (l : Launch) (Z : State) (a0 : Array Value) (hw : ∀ d ∈ tables_1, d.before a0 Z = true) (ws : List Jvm.Cond) (n : Nat) (h0 : Heap) (n0 : Nat) (Z0 : n0 ≤ h0.size) (hl : n ≤ 4) :
    MetFree l (⟨"java/lang/StringUTF16", "newBytesFor", "(I)[B"⟩ : MethodName) (head1 (Jvm.Cond.code (⟨"java/lang/StringUTF16", "newBytesFor", "(I)[B"⟩ : MethodName) jdk_52_method_2_code 1 (some (.array .byte)) :: ws) ({ frames := 1, cells := 1, slots := 8, locals := 12 } : Room)) (fun aX UX => aX = #[(.int (Int32.ofNat n))] ∧ Z.Warmed39 UX.vm ∧ UX.heap = h0) (fun _ _ _ _ _ => True) (fun _ UX oX UX' => ∃ vX LX, oX = .returned vX ∧ Q10 Z n h0 n0 vX UX'.heap LX ∧ FrameEnd UX oX UX' LX ({ frames := 1, cells := 1, slots := 8, locals := 12 } : Room).cells ({ frames := 1, cells := 1, slots := 8, locals := 12 } : Room).slots) := by
  refine MetFree.of_bodySF (plainFor_of_name pn_java_lang_StringUTF16) hisR ?_
  intro p e s m args below meth c s₁ Bd hml0 hP hK
  obtain ⟨rfl, hZ, hh⟩ := hP
  have hx := Bd.exec
  have hby := Bd.bytes
  have hml : c.maxLocals = 1 := hml0
  have hown : s.vm.findClass "java/lang/StringUTF16" = some m.cls := findClass_of_methodNamed Bd.named
  have hnm := (name_of_methodNamed Bd.named Bd.method).1
  have X0 : Stand p l e ({ frames := 1, cells := 1, slots := 8, locals := 12 } : Room) s m #[(.int (Int32.ofNat n))] below meth c s₁ [] 0 0 := Stand.of_body Bd
  have e0 : s₁.heap = h0 := by rw [← hh, Bd.state]; rfl
  have N0 := Fr.nil n0
  show own_Comes p e below s ({ frames := 1, cells := 1, slots := 8, locals := 12 } : Room).cells ({ frames := 1, cells := 1, slots := 8, locals := 12 } : Room).slots (Q10 Z n h0 n0) _
  rw [show entryFrame m #[(.int (Int32.ofNat n))] 1 = mkF m 0 #[.val (.int (Int32.ofNat n))] [] from ef_rm10 m (Int32.ofNat n)]
  show own_Comes p e below s _ _ _ (s₁.setTop (mkF m 0 #[.val (.int (Int32.ofNat n))] []))
  refine own_by (fun _ kS => XS.iloadN X0.here hx rfl (hb hby d10_0) rfl kS) ?_
  show own_Comes p e below s _ _ _ (s₁.setTop (mkF m 1 #[.val (.int (Int32.ofNat n))] [(.int (Int32.ofNat n))]))
  obtain ⟨vv37, _, ⟨T37, L37, k37, n37⟩, -, X37, ⟨Lc37, hQ37, l37, y37, z37⟩, st37⟩ := Jvm.LawKit.callS X0 hx (y := (⟨"java/lang/StringUTF16", "newBytesLength", "(I)I"⟩ : MethodName)) hown (mvT hZ (hw _ (List.mem_of_getElem? (i := 46) rfl))) (mvT hZ (hw _ (List.mem_of_getElem? (i := 47) rfl))) (mvT hZ (hw _ (List.mem_of_getElem? (i := 24) rfl))) (mvT hZ (hw _ (List.mem_of_getElem? (i := 48) rfl))) (by decide) (backOf (W := 0) (rm11 l Z a0 hw [] n h0 n0 Z0 hl) hZ (hw _ (List.mem_of_getElem? (i := 48) rfl)) (hw _ (List.mem_of_getElem? (i := 24) rfl)) (by decide) (by decide)) (g := (mkF m 1 #[.val (.int (Int32.ofNat n))] [(.int (Int32.ofNat n))])) rfl (by rw [hml]; rfl) (argsL := [(.int (Int32.ofNat n))]) (rest := []) (lenOf pd__I_I_227 rfl) rfl (by show 2 * 0 + _ ≤ _; exact Nat.le_of_eq rfl) (hb hby d10_1) (fun _ _ => ⟨rfl, e0, (by decide : 0 + 0 ≤ _), (by decide : 0 + 0 ≤ _)⟩)
  dsimp only [Pt.U, Pt.locs, Pt.cells, Pt.slots] at X37 l37 y37 z37 st37 hQ37
  subst l37 y37 z37
  obtain ⟨rfl, N37q, e37q⟩ := hQ37
  have N37 := Fr.app N0 N37q
  refine own_by st37 ?_
  have e37 : T37.heap = h0 := e37q
  show own_Comes p e below s _ _ _ (T37.setTop (mkF m 4 #[.val (.int (Int32.ofNat n))] [(.int (Int32.ofNat (2 * n)))]))
  obtain ⟨T38, h38, k38, X38, e38, E38, A38, st38⟩ := newP X37 hx hZ (hw _ (List.mem_of_getElem? (i := 26) rfl)) e37 (g := (mkF m 4 #[.val (.int (Int32.ofNat n))] [(.int (Int32.ofNat (2 * n)))])) rfl (hb hby d10_4) rfl (own_neg (by omega)) (cap := 8) (by rw [own_tn (by omega)]; omega) (by decide) (by decide) (by decide)
  obtain ⟨b38, g38⟩ : ∃ z, z = h0.size := ⟨_, rfl⟩
  rw [← g38] at A38 st38
  have g_b38 : n0 ≤ b38 := Nat.le_trans Z0 (Nat.le_of_eq g38.symm)
  refine own_by st38 ?_
  have V_b38 : Arv Z h38 b38 k38 .byte (Int32.ofNat (2 * n)) (List.replicate (2 * n) (.int (0 : Int32))) (.int (0 : Int32)) := (Arv.new A38 (own_neg (by omega))).pad (pad_rep [] (.int (0 : Int32)) (2 * n))
  show own_Comes p e below s _ _ _ (T38.setTop (mkF m 6 #[.val (.int (Int32.ofNat n))] [(.ref b38)]))
  refine own_ret X38 (v := some (.ref b38)) (fun h => by rw [Bd.returns] at h; cases h) Bd.notSynchronized (by decide) (by decide) ?_ (fun fs hr => own_reta X38 hx Bd.returns rfl rfl (hb hby d10_6) hr)
  rw [e38]; exact ⟨_, _, rfl, N37, E38, g_b38, Nat.le_of_eq g38.symm, V_b38⟩
def Q12 (Z : State) (r0 : Addr) (kb : ClassId) (N2 : Int32) (vs : List Value) (i : Nat) (c : Int32) (h0 : Heap) (n0 : Nat) (v : Option Value) (h : Heap) (L : List Loc) : Prop := v = none ∧ Fr n0 L ∧ Keep h0 h [r0] ∧ Arv Z h r0 kb .byte N2 ((vs.set (2 * i) (.int (StrChars.lo8 c))).set (2 * i + 1) (.int (StrChars.hi8 c))) (.int 0)
theorem ef_rm12 (m : MethodId) (x0 : Addr) (x1 : Int32) (x2 : Int32) : entryFrame m #[(.ref x0), (.int x1), (.int x2)] 3 = mkF m 0 #[.val (.ref x0), .val (.int x1), .val (.int x2)] [] := by first | (simp [entryFrame, mkF, argsToLocals, Value.category]; done) | rfl
theorem d12_0 : decode jdk_52_method_4_code 0 = .ok (.getstatic 44, 3) := by decide +kernel
theorem d12_3 : decode jdk_52_method_4_code 3 = .ok (.ifCond .ne 25, 3) := by decide +kernel
theorem d12_28 : decode jdk_52_method_4_code 28 = .ok (.iload_n 1, 1) := by decide +kernel
theorem d12_29 : decode jdk_52_method_4_code 29 = .ok (.iconst 1, 1) := by decide +kernel
theorem d12_30 : decode jdk_52_method_4_code 30 = .ok (.ishl, 1) := by decide +kernel
theorem d12_31 : decode jdk_52_method_4_code 31 = .ok (.istore_n 1, 1) := by decide +kernel
theorem d12_32 : decode jdk_52_method_4_code 32 = .ok (.aload_n 0, 1) := by decide +kernel
theorem d12_33 : decode jdk_52_method_4_code 33 = .ok (.iload_n 1, 1) := by decide +kernel
theorem d12_34 : decode jdk_52_method_4_code 34 = .ok (.iinc 1 1, 3) := by decide +kernel
theorem d12_37 : decode jdk_52_method_4_code 37 = .ok (.iload_n 2, 1) := by decide +kernel
theorem d12_38 : decode jdk_52_method_4_code 38 = .ok (.getstatic 59, 3) := by decide +kernel
theorem d12_41 : decode jdk_52_method_4_code 41 = .ok (.ishr, 1) := by decide +kernel
theorem d12_42 : decode jdk_52_method_4_code 42 = .ok (.i2b, 1) := by decide +kernel
theorem d12_43 : decode jdk_52_method_4_code 43 = .ok (.bastore, 1) := by decide +kernel
theorem d12_44 : decode jdk_52_method_4_code 44 = .ok (.aload_n 0, 1) := by decide +kernel
theorem d12_45 : decode jdk_52_method_4_code 45 = .ok (.iload_n 1, 1) := by decide +kernel
theorem d12_46 : decode jdk_52_method_4_code 46 = .ok (.iload_n 2, 1) := by decide +kernel
theorem d12_47 : decode jdk_52_method_4_code 47 = .ok (.getstatic 63, 3) := by decide +kernel
theorem d12_50 : decode jdk_52_method_4_code 50 = .ok (.ishr, 1) := by decide +kernel
theorem d12_51 : decode jdk_52_method_4_code 51 = .ok (.i2b, 1) := by decide +kernel
theorem d12_52 : decode jdk_52_method_4_code 52 = .ok (.bastore, 1) := by decide +kernel
theorem d12_53 : decode jdk_52_method_4_code 53 = .ok (.return_, 1) := by decide +kernel
set_option maxRecDepth 65536 in
set_option maxHeartbeats 40000000 in
theorem rm12 (l : Launch) (Z : State) (a0 : Array Value) (hw : ∀ d ∈ tables_1, d.before a0 Z = true) (ws : List Jvm.Cond) (r0 : Addr) (i : Nat) (p2 : Int32) (kb : ClassId) (vs : List Value) (n : Nat) (h0 : Heap) (n0 : Nat) (Z0 : n0 ≤ h0.size) (O0 : Old Z n0 h0) (Sd : Sta Z Z.heap "java/lang/StringUTF16" "$assertionsDisabled" "Z" (.int (1 : Int32))) (Sh : Sta Z Z.heap "java/lang/StringUTF16" "HI_BYTE_SHIFT" "I" (.int (0 : Int32))) (Sl : Sta Z Z.heap "java/lang/StringUTF16" "LO_BYTE_SHIFT" "I" (.int (8 : Int32))) (Va : Arv Z h0 r0 kb .byte (Int32.ofNat (2 * n)) vs (.int 0)) (hvs : vs.length = 2 * n) (hl : n ≤ 4) (hi : i < n) (g_r0 : n0 ≤ r0) :
    MetFree l (⟨"java/lang/StringUTF16", "putChar", "([BII)V"⟩ : MethodName) (head1 (Jvm.Cond.code (⟨"java/lang/StringUTF16", "putChar", "([BII)V"⟩ : MethodName) jdk_52_method_4_code 3 none :: ws) ({ frames := 0, cells := 0, slots := 0, locals := 0 } : Room)) (fun aX UX => aX = #[(.ref r0), (.int (Int32.ofNat i)), (.int p2)] ∧ Z.Warmed39 UX.vm ∧ UX.heap = h0) (fun _ _ _ _ _ => True) (fun _ UX oX UX' => ∃ vX LX, oX = .returned vX ∧ Q12 Z r0 kb (Int32.ofNat (2 * n)) vs i p2 h0 n0 vX UX'.heap LX ∧ FrameEnd UX oX UX' LX ({ frames := 0, cells := 0, slots := 0, locals := 0 } : Room).cells ({ frames := 0, cells := 0, slots := 0, locals := 0 } : Room).slots) := by
  refine MetFree.of_bodySF (plainFor_of_name pn_java_lang_StringUTF16) hisR ?_
  intro p e s m args below meth c s₁ Bd hml0 hP hK
  obtain ⟨rfl, hZ, hh⟩ := hP
  have hx := Bd.exec
  have hby := Bd.bytes
  have hml : c.maxLocals = 3 := hml0
  have hown : s.vm.findClass "java/lang/StringUTF16" = some m.cls := findClass_of_methodNamed Bd.named
  have hnm := (name_of_methodNamed Bd.named Bd.method).1
  have X0 : Stand p l e ({ frames := 0, cells := 0, slots := 0, locals := 0 } : Room) s m #[(.ref r0), (.int (Int32.ofNat i)), (.int p2)] below meth c s₁ [] 0 0 := Stand.of_body Bd
  have e0 : s₁.heap = h0 := by rw [← hh, Bd.state]; rfl
  have N0 := Fr.nil n0
  show own_Comes p e below s ({ frames := 0, cells := 0, slots := 0, locals := 0 } : Room).cells ({ frames := 0, cells := 0, slots := 0, locals := 0 } : Room).slots (Q12 Z r0 kb (Int32.ofNat (2 * n)) vs i p2 h0 n0) _
  rw [show entryFrame m #[(.ref r0), (.int (Int32.ofNat i)), (.int p2)] 3 = mkF m 0 #[.val (.ref r0), .val (.int (Int32.ofNat i)), .val (.int p2)] [] from ef_rm12 m r0 (Int32.ofNat i) p2]
  show own_Comes p e below s _ _ _ (s₁.setTop (mkF m 0 #[.val (.ref r0), .val (.int (Int32.ofNat i)), .val (.int p2)] []))
  obtain ⟨T39, X39, e39, st39⟩ := getS2 X0 hx hZ hown (host := "") (Or.inl (hw _ (List.mem_of_getElem? (i := 53) rfl))) Via.refl e0 (Sd.ext O0.2) (g := (mkF m 0 #[.val (.ref r0), .val (.int (Int32.ofNat i)), .val (.int p2)] [])) rfl (hb hby d12_0)
  refine own_by st39 ?_
  show own_Comes p e below s _ _ _ (T39.setTop (mkF m 3 #[.val (.ref r0), .val (.int (Int32.ofNat i)), .val (.int p2)] [(.int (1 : Int32))]))
  have hb40 : ¬ ((1 : Int32) = (0 : Int32)) := by decide
  refine own_by (fun _ kS => XS.ifYes X39.here hx rfl (pc0 := 3) (pc' := 28) rfl (hb hby d12_3) rfl ((if0 _ _).trans (feq hb40).2) (by decide) (by decide) kS) ?_
  show own_Comes p e below s _ _ _ (T39.setTop (mkF m 28 #[.val (.ref r0), .val (.int (Int32.ofNat i)), .val (.int p2)] []))
  refine own_by (fun _ kS => XS.iloadN X39.here hx rfl (hb hby d12_28) rfl kS) ?_
  show own_Comes p e below s _ _ _ (T39.setTop (mkF m 29 #[.val (.ref r0), .val (.int (Int32.ofNat i)), .val (.int p2)] [(.int (Int32.ofNat i))]))
  refine own_by (fun _ kS => XS.iconst X39.here hx rfl (hb hby d12_29) kS) ?_
  show own_Comes p e below s _ _ _ (T39.setTop (mkF m 30 #[.val (.ref r0), .val (.int (Int32.ofNat i)), .val (.int p2)] [(.int (1 : Int32)), (.int (Int32.ofNat i))]))
  refine own_by (fun _ kS => XS.ishl X39.here hx rfl (hb hby d12_30) rfl kS) ?_
  show own_Comes p e below s _ _ _ (T39.setTop (mkF m 31 #[.val (.ref r0), .val (.int (Int32.ofNat i)), .val (.int p2)] [(.int ((Int32.ofNat i) <<< ((1 : Int32) &&& 31)))]))
  rw [show ((Int32.ofNat i) <<< ((1 : Int32) &&& 31)) = (Int32.ofNat (2 * i)) from own_shl (by omega)]
  show own_Comes p e below s _ _ _ (T39.setTop (mkF m 31 #[.val (.ref r0), .val (.int (Int32.ofNat i)), .val (.int p2)] [(.int (Int32.ofNat (2 * i)))]))
  refine own_by (fun _ kS => XS.istoreN X39.here hx rfl (hb hby d12_31) rfl (l' := #[.val (.ref r0), .val (.int (Int32.ofNat (2 * i))), .val (.int p2)]) rfl kS) ?_
  show own_Comes p e below s _ _ _ (T39.setTop (mkF m 32 #[.val (.ref r0), .val (.int (Int32.ofNat (2 * i))), .val (.int p2)] []))
  refine own_by (fun _ kS => XS.aloadN X39.here hx rfl (hb hby d12_32) rfl rfl kS) ?_
  show own_Comes p e below s _ _ _ (T39.setTop (mkF m 33 #[.val (.ref r0), .val (.int (Int32.ofNat (2 * i))), .val (.int p2)] [(.ref r0)]))
  refine own_by (fun _ kS => XS.iloadN X39.here hx rfl (hb hby d12_33) rfl kS) ?_
  show own_Comes p e below s _ _ _ (T39.setTop (mkF m 34 #[.val (.ref r0), .val (.int (Int32.ofNat (2 * i))), .val (.int p2)] [(.int (Int32.ofNat (2 * i))), (.ref r0)]))
  refine own_by (fun _ kS => XS.iinc X39.here hx rfl (hb hby d12_34) rfl (l' := #[.val (.ref r0), .val (.int ((Int32.ofNat (2 * i)) + (1 : Int32))), .val (.int p2)]) rfl kS) ?_
  show own_Comes p e below s _ _ _ (T39.setTop (mkF m 37 #[.val (.ref r0), .val (.int ((Int32.ofNat (2 * i)) + (1 : Int32))), .val (.int p2)] [(.int (Int32.ofNat (2 * i))), (.ref r0)]))
  refine own_by (fun _ kS => XS.iloadN X39.here hx rfl (hb hby d12_37) rfl kS) ?_
  show own_Comes p e below s _ _ _ (T39.setTop (mkF m 38 #[.val (.ref r0), .val (.int ((Int32.ofNat (2 * i)) + (1 : Int32))), .val (.int p2)] [(.int p2), (.int (Int32.ofNat (2 * i))), (.ref r0)]))
  obtain ⟨T41, X41, e41, st41⟩ := getS2 X39 hx hZ hown (host := "") (Or.inl (hw _ (List.mem_of_getElem? (i := 54) rfl))) Via.refl e39 (Sh.ext O0.2) (g := (mkF m 38 #[.val (.ref r0), .val (.int ((Int32.ofNat (2 * i)) + (1 : Int32))), .val (.int p2)] [(.int p2), (.int (Int32.ofNat (2 * i))), (.ref r0)])) rfl (hb hby d12_38)
  refine own_by st41 ?_
  show own_Comes p e below s _ _ _ (T41.setTop (mkF m 41 #[.val (.ref r0), .val (.int ((Int32.ofNat (2 * i)) + (1 : Int32))), .val (.int p2)] [(.int (0 : Int32)), (.int p2), (.int (Int32.ofNat (2 * i))), (.ref r0)]))
  refine own_by (fun _ kS => XS.ishr X41.here hx rfl (hb hby d12_41) rfl kS) ?_
  show own_Comes p e below s _ _ _ (T41.setTop (mkF m 42 #[.val (.ref r0), .val (.int ((Int32.ofNat (2 * i)) + (1 : Int32))), .val (.int p2)] [(.int (p2 >>> ((0 : Int32) &&& 31))), (.int (Int32.ofNat (2 * i))), (.ref r0)]))
  refine own_by (fun _ kS => XS.i2b X41.here hx rfl (hb hby d12_42) rfl kS) ?_
  show own_Comes p e below s _ _ _ (T41.setTop (mkF m 43 #[.val (.ref r0), .val (.int ((Int32.ofNat (2 * i)) + (1 : Int32))), .val (.int p2)] [(.int ((p2 >>> ((0 : Int32) &&& 31)).toInt8.toInt32)), (.int (Int32.ofNat (2 * i))), (.ref r0)]))
  rw [show ((Int32.ofNat (2 * i)) + (1 : Int32)) = (Int32.ofNat (2 * i + 1)) from own_succ (by omega)]
  show own_Comes p e below s _ _ _ (T41.setTop (mkF m 43 #[.val (.ref r0), .val (.int (Int32.ofNat (2 * i + 1))), .val (.int p2)] [(.int ((p2 >>> ((0 : Int32) &&& 31)).toInt8.toInt32)), (.int (Int32.ofNat (2 * i))), (.ref r0)]))
  have Vo42 := Va
  obtain ⟨cl42, Ar42, qA42, SA42, NA42, HA42, GA42⟩ := Vo42
  have hin42 : ¬ ((Int32.ofNat (2 * i)) < 0 ∨ cl42.slots.size ≤ ((Int32.ofNat (2 * i))).toNatClampNeg) := own_inb SA42 (by omega) (by omega)
  obtain ⟨T43, h43, X43, e43, W43, st43⟩ := stB X41 hx hZ e41 Ar42 (j := (Int32.ofNat (2 * i))) hin42 (g := (mkF m 43 #[.val (.ref r0), .val (.int (Int32.ofNat (2 * i + 1))), .val (.int p2)] [(.int ((p2 >>> ((0 : Int32) &&& 31)).toInt8.toInt32)), (.int (Int32.ofNat (2 * i))), (.ref r0)])) rfl rfl (hb hby d12_43)
  refine own_by st43 ?_
  have V43 : Arv Z h43 r0 kb .byte (Int32.ofNat (2 * n)) (vs.set (2 * i) (.int ((p2 >>> ((0 : Int32) &&& 31)).toInt8.toInt32.toInt8.toInt32))) (.int 0) := Arv.set Ar42 qA42 SA42 NA42 HA42 GA42 (by first | rfl | exact fits_nar_byte _) W43 (2 * i) (own_tn (by omega)) (by omega)
  have N43 := Fr.snoc X43 N0 g_r0
  show own_Comes p e below s _ _ _ (T43.setTop (mkF m 44 #[.val (.ref r0), .val (.int (Int32.ofNat (2 * i + 1))), .val (.int p2)] []))
  refine own_by (fun _ kS => XS.aloadN X43.here hx rfl (hb hby d12_44) rfl rfl kS) ?_
  show own_Comes p e below s _ _ _ (T43.setTop (mkF m 45 #[.val (.ref r0), .val (.int (Int32.ofNat (2 * i + 1))), .val (.int p2)] [(.ref r0)]))
  refine own_by (fun _ kS => XS.iloadN X43.here hx rfl (hb hby d12_45) rfl kS) ?_
  show own_Comes p e below s _ _ _ (T43.setTop (mkF m 46 #[.val (.ref r0), .val (.int (Int32.ofNat (2 * i + 1))), .val (.int p2)] [(.int (Int32.ofNat (2 * i + 1))), (.ref r0)]))
  refine own_by (fun _ kS => XS.iloadN X43.here hx rfl (hb hby d12_46) rfl kS) ?_
  show own_Comes p e below s _ _ _ (T43.setTop (mkF m 47 #[.val (.ref r0), .val (.int (Int32.ofNat (2 * i + 1))), .val (.int p2)] [(.int p2), (.int (Int32.ofNat (2 * i + 1))), (.ref r0)]))
  obtain ⟨T44, X44, e44, st44⟩ := getS2 X43 hx hZ hown (host := "") (Or.inl (hw _ (List.mem_of_getElem? (i := 55) rfl))) Via.refl e43 (Sl.ext (O0.wr W43 g_r0).2) (g := (mkF m 47 #[.val (.ref r0), .val (.int (Int32.ofNat (2 * i + 1))), .val (.int p2)] [(.int p2), (.int (Int32.ofNat (2 * i + 1))), (.ref r0)])) rfl (hb hby d12_47)
  refine own_by st44 ?_
  show own_Comes p e below s _ _ _ (T44.setTop (mkF m 50 #[.val (.ref r0), .val (.int (Int32.ofNat (2 * i + 1))), .val (.int p2)] [(.int (8 : Int32)), (.int p2), (.int (Int32.ofNat (2 * i + 1))), (.ref r0)]))
  refine own_by (fun _ kS => XS.ishr X44.here hx rfl (hb hby d12_50) rfl kS) ?_
  show own_Comes p e below s _ _ _ (T44.setTop (mkF m 51 #[.val (.ref r0), .val (.int (Int32.ofNat (2 * i + 1))), .val (.int p2)] [(.int (p2 >>> ((8 : Int32) &&& 31))), (.int (Int32.ofNat (2 * i + 1))), (.ref r0)]))
  refine own_by (fun _ kS => XS.i2b X44.here hx rfl (hb hby d12_51) rfl kS) ?_
  show own_Comes p e below s _ _ _ (T44.setTop (mkF m 52 #[.val (.ref r0), .val (.int (Int32.ofNat (2 * i + 1))), .val (.int p2)] [(.int ((p2 >>> ((8 : Int32) &&& 31)).toInt8.toInt32)), (.int (Int32.ofNat (2 * i + 1))), (.ref r0)]))
  have Vo45 := V43
  obtain ⟨cl45, Ar45, qA45, SA45, NA45, HA45, GA45⟩ := Vo45
  have hin45 : ¬ ((Int32.ofNat (2 * i + 1)) < 0 ∨ cl45.slots.size ≤ ((Int32.ofNat (2 * i + 1))).toNatClampNeg) := own_inb SA45 (by omega) (by omega)
  obtain ⟨T46, h46, X46, e46, W46, st46⟩ := stB X44 hx hZ e44 Ar45 (j := (Int32.ofNat (2 * i + 1))) hin45 (g := (mkF m 52 #[.val (.ref r0), .val (.int (Int32.ofNat (2 * i + 1))), .val (.int p2)] [(.int ((p2 >>> ((8 : Int32) &&& 31)).toInt8.toInt32)), (.int (Int32.ofNat (2 * i + 1))), (.ref r0)])) rfl rfl (hb hby d12_52)
  refine own_by st46 ?_
  have V46 : Arv Z h46 r0 kb .byte (Int32.ofNat (2 * n)) ((vs.set (2 * i) (.int ((p2 >>> ((0 : Int32) &&& 31)).toInt8.toInt32.toInt8.toInt32))).set (2 * i + 1) (.int ((p2 >>> ((8 : Int32) &&& 31)).toInt8.toInt32.toInt8.toInt32))) (.int 0) := Arv.set Ar45 qA45 SA45 NA45 HA45 GA45 (by first | rfl | exact fits_nar_byte _) W46 (2 * i + 1) (own_tn (by omega)) (by rw [List.length_set]; omega)
  have N46 := Fr.snoc X46 N43 g_r0
  show own_Comes p e below s _ _ _ (T46.setTop (mkF m 53 #[.val (.ref r0), .val (.int (Int32.ofNat (2 * i + 1))), .val (.int p2)] []))
  have Vz := V46
  rw [own_b1, own_b2] at Vz
  refine own_ret X46 (v := none) (fun _ => rfl) Bd.notSynchronized (by decide) (by decide) ?_ (fun fs hr => X46.returnOut hx Bd.returns (hb hby d12_53) hr)
  rw [e46]; exact ⟨rfl, N46, (((Keep.refl _ _).wr W43 (Or.inl (List.mem_of_getElem? (i := 0) rfl))).wr W46 (Or.inl (List.mem_of_getElem? (i := 0) rfl))), Vz⟩
def Q9 (Z : State) (cs : List Int32) (h0 : Heap) (n0 : Nat) (v : Option Value) (h : Heap) (L : List Loc) : Prop := ∃ (a : Addr) (kb : ClassId), v = some (.ref a) ∧ Fr n0 L ∧ Ext h0 h ∧ n0 ≤ a ∧ h0.size ≤ a ∧ Arv Z h a kb .byte (Int32.ofNat (2 * cs.length)) (StrChars.Road.wideBytes cs) (.int 0)
theorem ef_rm9 (m : MethodId) (x0 : Addr) (x1 : Int32) (x2 : Int32) : entryFrame m #[(.ref x0), (.int x1), (.int x2)] 5 = mkF m 0 #[.val (.ref x0), .val (.int x1), .val (.int x2), .unset, .unset] [] := by first | (simp [entryFrame, mkF, argsToLocals, Value.category]; done) | rfl
theorem d9_0 : decode jdk_52_method_14_code 0 = .ok (.iload_n 2, 1) := by decide +kernel
theorem pd__I__B_311 : parseMethodDescriptor "(I)[B" = some ⟨[.int], some (.array .byte)⟩ := by decide +kernel
theorem d9_1 : decode jdk_52_method_14_code 1 = .ok (.invokestatic 107, 3) := by decide +kernel
theorem d9_4 : decode jdk_52_method_14_code 4 = .ok (.astore_n 3, 1) := by decide +kernel
theorem d9_5 : decode jdk_52_method_14_code 5 = .ok (.iconst 0, 1) := by decide +kernel
theorem d9_6 : decode jdk_52_method_14_code 6 = .ok (.istore 4, 2) := by decide +kernel
theorem d9_8 : decode jdk_52_method_14_code 8 = .ok (.iload 4, 2) := by decide +kernel
theorem d9_10 : decode jdk_52_method_14_code 10 = .ok (.iload_n 2, 1) := by decide +kernel
theorem d9_11 : decode jdk_52_method_14_code 11 = .ok (.if_icmp .ge 21, 3) := by decide +kernel
theorem d9_14 : decode jdk_52_method_14_code 14 = .ok (.aload_n 3, 1) := by decide +kernel
theorem d9_15 : decode jdk_52_method_14_code 15 = .ok (.iload 4, 2) := by decide +kernel
theorem d9_17 : decode jdk_52_method_14_code 17 = .ok (.aload_n 0, 1) := by decide +kernel
theorem d9_18 : decode jdk_52_method_14_code 18 = .ok (.iload_n 1, 1) := by decide +kernel
theorem d9_19 : decode jdk_52_method_14_code 19 = .ok (.caload, 1) := by decide +kernel
theorem pd___BII_V_470 : parseMethodDescriptor "([BII)V" = some ⟨[(.array .byte), .int, .int], none⟩ := by decide +kernel
theorem d9_20 : decode jdk_52_method_14_code 20 = .ok (.invokestatic 111, 3) := by decide +kernel
theorem d9_23 : decode jdk_52_method_14_code 23 = .ok (.iinc 1 1, 3) := by decide +kernel
theorem d9_26 : decode jdk_52_method_14_code 26 = .ok (.iinc 4 1, 3) := by decide +kernel
theorem d9_29 : decode jdk_52_method_14_code 29 = .ok (.goto (-21), 3) := by decide +kernel
theorem d9_32 : decode jdk_52_method_14_code 32 = .ok (.aload_n 3, 1) := by decide +kernel
theorem d9_33 : decode jdk_52_method_14_code 33 = .ok (.areturn, 1) := by decide +kernel
set_option maxRecDepth 65536 in
set_option maxHeartbeats 40000000 in
theorem rm9 (l : Launch) (Z : State) (a0 : Array Value) (hw : ∀ d ∈ tables_1, d.before a0 Z = true) (ws : List Jvm.Cond) (r0 : Addr) (kc : ClassId) (cs : List Int32) (h0 : Heap) (n0 : Nat) (Z0 : n0 ≤ h0.size) (O0 : Old Z n0 h0) (Sd : Sta Z Z.heap "java/lang/StringUTF16" "$assertionsDisabled" "Z" (.int (1 : Int32))) (Sh : Sta Z Z.heap "java/lang/StringUTF16" "HI_BYTE_SHIFT" "I" (.int (0 : Int32))) (Sl : Sta Z Z.heap "java/lang/StringUTF16" "LO_BYTE_SHIFT" "I" (.int (8 : Int32))) (Vs : Arv Z h0 r0 kc .char (Int32.ofNat cs.length) (cs.map Value.int) (.int 0)) (hl : cs.length ≤ 4) :
    MetFree l (⟨"java/lang/StringUTF16", "toBytes", "([CII)[B"⟩ : MethodName) (head1 (Jvm.Cond.code (⟨"java/lang/StringUTF16", "toBytes", "([CII)[B"⟩ : MethodName) jdk_52_method_14_code 5 (some (.array .byte)) :: ws) ({ frames := 2, cells := 1, slots := 8, locals := 24 } : Room)) (fun aX UX => aX = #[(.ref r0), (.int (0 : Int32)), (.int (Int32.ofNat cs.length))] ∧ Z.Warmed39 UX.vm ∧ UX.heap = h0) (fun _ _ _ _ _ => True) (fun _ UX oX UX' => ∃ vX LX, oX = .returned vX ∧ Q9 Z cs h0 n0 vX UX'.heap LX ∧ FrameEnd UX oX UX' LX ({ frames := 2, cells := 1, slots := 8, locals := 24 } : Room).cells ({ frames := 2, cells := 1, slots := 8, locals := 24 } : Room).slots) := by
  refine MetFree.of_bodySF (plainFor_of_name pn_java_lang_StringUTF16) hisR ?_
  intro p e s m args below meth c s₁ Bd hml0 hP hK
  obtain ⟨rfl, hZ, hh⟩ := hP
  have hx := Bd.exec
  have hby := Bd.bytes
  have hml : c.maxLocals = 5 := hml0
  have hown : s.vm.findClass "java/lang/StringUTF16" = some m.cls := findClass_of_methodNamed Bd.named
  have hnm := (name_of_methodNamed Bd.named Bd.method).1
  have X0 : Stand p l e ({ frames := 2, cells := 1, slots := 8, locals := 24 } : Room) s m #[(.ref r0), (.int (0 : Int32)), (.int (Int32.ofNat cs.length))] below meth c s₁ [] 0 0 := Stand.of_body Bd
  have e0 : s₁.heap = h0 := by rw [← hh, Bd.state]; rfl
  have N0 := Fr.nil n0
  show own_Comes p e below s ({ frames := 2, cells := 1, slots := 8, locals := 24 } : Room).cells ({ frames := 2, cells := 1, slots := 8, locals := 24 } : Room).slots (Q9 Z cs h0 n0) _
  rw [show entryFrame m #[(.ref r0), (.int (0 : Int32)), (.int (Int32.ofNat cs.length))] 5 = mkF m 0 #[.val (.ref r0), .val (.int (0 : Int32)), .val (.int (Int32.ofNat cs.length)), .unset, .unset] [] from ef_rm9 m r0 (0 : Int32) (Int32.ofNat cs.length)]
  show own_Comes p e below s _ _ _ (s₁.setTop (mkF m 0 #[.val (.ref r0), .val (.int (0 : Int32)), .val (.int (Int32.ofNat cs.length)), .unset, .unset] []))
  refine own_by (fun _ kS => XS.iloadN X0.here hx rfl (hb hby d9_0) rfl kS) ?_
  show own_Comes p e below s _ _ _ (s₁.setTop (mkF m 1 #[.val (.ref r0), .val (.int (0 : Int32)), .val (.int (Int32.ofNat cs.length)), .unset, .unset] [(.int (Int32.ofNat cs.length))]))
  obtain ⟨vv47, _, ⟨T47, L47, k47, n47⟩, -, X47, ⟨Lc47, hQ47, l47, y47, z47⟩, st47⟩ := Jvm.LawKit.callS X0 hx (y := (⟨"java/lang/StringUTF16", "newBytesFor", "(I)[B"⟩ : MethodName)) hown (mvT hZ (hw _ (List.mem_of_getElem? (i := 43) rfl))) (mvT hZ (hw _ (List.mem_of_getElem? (i := 44) rfl))) (mvT hZ (hw _ (List.mem_of_getElem? (i := 24) rfl))) (mvT hZ (hw _ (List.mem_of_getElem? (i := 45) rfl))) (by decide) (backOf (W := 0) (rm10 l Z a0 hw [] cs.length h0 n0 Z0 hl) hZ (hw _ (List.mem_of_getElem? (i := 45) rfl)) (hw _ (List.mem_of_getElem? (i := 24) rfl)) (by decide) (by decide)) (g := (mkF m 1 #[.val (.ref r0), .val (.int (0 : Int32)), .val (.int (Int32.ofNat cs.length)), .unset, .unset] [(.int (Int32.ofNat cs.length))])) rfl (by rw [hml]; rfl) (argsL := [(.int (Int32.ofNat cs.length))]) (rest := []) (lenOf pd__I__B_311 rfl) rfl (by show 2 * 0 + _ ≤ _; exact Nat.le_of_eq rfl) (hb hby d9_1) (fun _ _ => ⟨rfl, e0, (by decide : 0 + 1 ≤ _), (by decide : 0 + 8 ≤ _)⟩)
  dsimp only [Pt.U, Pt.locs, Pt.cells, Pt.slots] at X47 l47 y47 z47 st47 hQ47
  subst l47 y47 z47
  obtain ⟨a47, kb47, rfl, N47q, E47, g_a47, sz_a47, V47⟩ := hQ47
  have N47 := Fr.app N0 N47q
  refine own_by st47 ?_
  show own_Comes p e below s _ _ _ (T47.setTop (mkF m 4 #[.val (.ref r0), .val (.int (0 : Int32)), .val (.int (Int32.ofNat cs.length)), .unset, .unset] [(.ref a47)]))
  refine own_by (fun _ kS => XS.astoreN X47.here hx rfl (hb hby d9_4) rfl rfl (l' := #[.val (.ref r0), .val (.int (0 : Int32)), .val (.int (Int32.ofNat cs.length)), .val (.ref a47), .unset]) rfl kS) ?_
  show own_Comes p e below s _ _ _ (T47.setTop (mkF m 5 #[.val (.ref r0), .val (.int (0 : Int32)), .val (.int (Int32.ofNat cs.length)), .val (.ref a47), .unset] []))
  refine own_by (fun _ kS => XS.iconst X47.here hx rfl (hb hby d9_5) kS) ?_
  show own_Comes p e below s _ _ _ (T47.setTop (mkF m 6 #[.val (.ref r0), .val (.int (0 : Int32)), .val (.int (Int32.ofNat cs.length)), .val (.ref a47), .unset] [(.int (0 : Int32))]))
  refine own_by (fun _ kS => XS.istore X47.here hx rfl (hb hby d9_6) rfl (l' := #[.val (.ref r0), .val (.int (0 : Int32)), .val (.int (Int32.ofNat cs.length)), .val (.ref a47), .val (.int (0 : Int32))]) rfl kS) ?_
  show own_Comes p e below s _ _ _ (T47.setTop (mkF m 8 #[.val (.ref r0), .val (.int (0 : Int32)), .val (.int (Int32.ofNat cs.length)), .val (.ref a47), .val (.int (0 : Int32))] []))
  have J8 : ∀ (r : Nat) (i : Nat) (vs : List Value) (TJ8 : State) (hJ8 : Heap) (LJ8 : List Loc), (cs.length < i + r) → (i ≤ cs.length) → (Keep h0 hJ8 []) → (Arv Z hJ8 a47 kb47 .byte (Int32.ofNat (2 * cs.length)) vs (.int 0)) → (own_Half cs i vs) → (Arv Z hJ8 r0 kc .char (Int32.ofNat cs.length) (cs.map Value.int) (.int 0)) → Stand p l e ({ frames := 2, cells := 1, slots := 8, locals := 24 } : Room) s m #[(.ref r0), (.int (0 : Int32)), (.int (Int32.ofNat cs.length))] below meth c TJ8 LJ8 1 8 → TJ8.heap = hJ8 → Fr n0 LJ8 → Old Z n0 hJ8 → n0 ≤ hJ8.size → own_Comes p e below s ({ frames := 2, cells := 1, slots := 8, locals := 24 } : Room).cells ({ frames := 2, cells := 1, slots := 8, locals := 24 } : Room).slots (Q9 Z cs h0 n0) (TJ8.setTop (mkF m 8 #[.val (.ref r0), .val (.int (Int32.ofNat i)), .val (.int (Int32.ofNat cs.length)), .val (.ref a47), .val (.int (Int32.ofNat i))] [])) := by
    intro r
    induction r with
    | zero => intro i vs TJ8 hJ8 LJ8 hrJ8 hiL KJ Va hH VsJ XJ8 eJ8 NJ8 OJ8 ZJ8; omega
    | succ r ih =>
      intro i vs TJ8 hJ8 LJ8 hrJ8 hiL KJ Va hH VsJ XJ8 eJ8 NJ8 OJ8 ZJ8
      show own_Comes p e below s _ _ _ (TJ8.setTop (mkF m 8 #[.val (.ref r0), .val (.int (Int32.ofNat i)), .val (.int (Int32.ofNat cs.length)), .val (.ref a47), .val (.int (Int32.ofNat i))] []))
      have nA : r0 ≠ a47 := Nat.ne_of_lt (Nat.lt_of_lt_of_le Vs.lt sz_a47)
      refine own_by (fun _ kS => XS.iload XJ8.here hx rfl (hb hby d9_8) rfl kS) ?_
      show own_Comes p e below s _ _ _ (TJ8.setTop (mkF m 10 #[.val (.ref r0), .val (.int (Int32.ofNat i)), .val (.int (Int32.ofNat cs.length)), .val (.ref a47), .val (.int (Int32.ofNat i))] [(.int (Int32.ofNat i))]))
      refine own_by (fun _ kS => XS.iloadN XJ8.here hx rfl (hb hby d9_10) rfl kS) ?_
      show own_Comes p e below s _ _ _ (TJ8.setTop (mkF m 11 #[.val (.ref r0), .val (.int (Int32.ofNat i)), .val (.int (Int32.ofNat cs.length)), .val (.ref a47), .val (.int (Int32.ofNat i))] [(.int (Int32.ofNat cs.length)), (.int (Int32.ofNat i))]))
      by_cases hi : i < cs.length
      · have hb48 : (Int32.ofNat i) < (Int32.ofNat cs.length) := (own_lt (by omega) (by omega)).mpr hi
        refine own_by (fun _ kS => XS.icmpNo XJ8.here hx rfl (hb hby d9_11) rfl (tlt hb48).2.1 kS) ?_
        show own_Comes p e below s _ _ _ (TJ8.setTop (mkF m 14 #[.val (.ref r0), .val (.int (Int32.ofNat i)), .val (.int (Int32.ofNat cs.length)), .val (.ref a47), .val (.int (Int32.ofNat i))] []))
        refine own_by (fun _ kS => XS.aloadN XJ8.here hx rfl (hb hby d9_14) rfl rfl kS) ?_
        show own_Comes p e below s _ _ _ (TJ8.setTop (mkF m 15 #[.val (.ref r0), .val (.int (Int32.ofNat i)), .val (.int (Int32.ofNat cs.length)), .val (.ref a47), .val (.int (Int32.ofNat i))] [(.ref a47)]))
        refine own_by (fun _ kS => XS.iload XJ8.here hx rfl (hb hby d9_15) rfl kS) ?_
        show own_Comes p e below s _ _ _ (TJ8.setTop (mkF m 17 #[.val (.ref r0), .val (.int (Int32.ofNat i)), .val (.int (Int32.ofNat cs.length)), .val (.ref a47), .val (.int (Int32.ofNat i))] [(.int (Int32.ofNat i)), (.ref a47)]))
        refine own_by (fun _ kS => XS.aloadN XJ8.here hx rfl (hb hby d9_17) rfl rfl kS) ?_
        show own_Comes p e below s _ _ _ (TJ8.setTop (mkF m 18 #[.val (.ref r0), .val (.int (Int32.ofNat i)), .val (.int (Int32.ofNat cs.length)), .val (.ref a47), .val (.int (Int32.ofNat i))] [(.ref r0), (.int (Int32.ofNat i)), (.ref a47)]))
        refine own_by (fun _ kS => XS.iloadN XJ8.here hx rfl (hb hby d9_18) rfl kS) ?_
        show own_Comes p e below s _ _ _ (TJ8.setTop (mkF m 19 #[.val (.ref r0), .val (.int (Int32.ofNat i)), .val (.int (Int32.ofNat cs.length)), .val (.ref a47), .val (.int (Int32.ofNat i))] [(.int (Int32.ofNat i)), (.ref r0), (.int (Int32.ofNat i)), (.ref a47)]))
        have Vo49 := VsJ
        obtain ⟨cl49, Ar49, qA49, SA49, NA49, HA49, GA49⟩ := Vo49
        have hin49 : ¬ ((Int32.ofNat i) < 0 ∨ cl49.slots.size ≤ ((Int32.ofNat i)).toNatClampNeg) := own_inb SA49 (by omega) hi
        have hat49 : cl49.slots[((Int32.ofNat i)).toNatClampNeg]? = some (.int (cs.getD i 0)) := HA49.at hin49 (by rw [own_tn (by omega)]; exact own_char hi)
        refine own_by (fun _ kS => XJ8.caload hx (j := (Int32.ofNat i)) (v := (.int (cs.getD i 0))) (by rw [eJ8]; exact Ar49.1) (State.isArrayOf_alike hZ.alike Ar49.2.1) Ar49.2.2 hin49 hat49 (g := (mkF m 19 #[.val (.ref r0), .val (.int (Int32.ofNat i)), .val (.int (Int32.ofNat cs.length)), .val (.ref a47), .val (.int (Int32.ofNat i))] [(.int (Int32.ofNat i)), (.ref r0), (.int (Int32.ofNat i)), (.ref a47)])) rfl rfl (hb hby d9_19) _ kS) ?_
        show own_Comes p e below s _ _ _ (TJ8.setTop (mkF m 20 #[.val (.ref r0), .val (.int (Int32.ofNat i)), .val (.int (Int32.ofNat cs.length)), .val (.ref a47), .val (.int (Int32.ofNat i))] [(.int (cs.getD i 0)), (.int (Int32.ofNat i)), (.ref a47)]))
        obtain ⟨vv50, _, ⟨T50, L50, k50, n50⟩, -, X50, ⟨Lc50, hQ50, l50, y50, z50⟩, st50⟩ := Jvm.LawKit.callS XJ8 hx (y := (⟨"java/lang/StringUTF16", "putChar", "([BII)V"⟩ : MethodName)) hown (mvT hZ (hw _ (List.mem_of_getElem? (i := 50) rfl))) (mvT hZ (hw _ (List.mem_of_getElem? (i := 51) rfl))) (mvT hZ (hw _ (List.mem_of_getElem? (i := 24) rfl))) (mvT hZ (hw _ (List.mem_of_getElem? (i := 52) rfl))) (by decide) (backOf (W := 0) (rm12 l Z a0 hw [] a47 i (cs.getD i 0) kb47 vs cs.length hJ8 n0 ZJ8 OJ8 Sd Sh Sl Va hH.1 hl hi g_a47) hZ (hw _ (List.mem_of_getElem? (i := 52) rfl)) (hw _ (List.mem_of_getElem? (i := 24) rfl)) (by decide) (by decide)) (g := (mkF m 20 #[.val (.ref r0), .val (.int (Int32.ofNat i)), .val (.int (Int32.ofNat cs.length)), .val (.ref a47), .val (.int (Int32.ofNat i))] [(.int (cs.getD i 0)), (.int (Int32.ofNat i)), (.ref a47)])) rfl (by rw [hml]; rfl) (argsL := [(.ref a47), (.int (Int32.ofNat i)), (.int (cs.getD i 0))]) (rest := []) (lenOf pd___BII_V_470 rfl) rfl (by show 2 * 0 + _ ≤ _; exact Nat.le_of_eq rfl) (hb hby d9_20) (fun _ _ => ⟨rfl, eJ8, (by decide : 1 + 0 ≤ _), (by decide : 8 + 0 ≤ _)⟩)
        dsimp only [Pt.U, Pt.locs, Pt.cells, Pt.slots] at X50 l50 y50 z50 st50 hQ50
        subst l50 y50 z50
        obtain ⟨rfl, N50q, K50, V50⟩ := hQ50
        have N50 := Fr.app NJ8 N50q
        refine own_by st50 ?_
        show own_Comes p e below s _ _ _ (T50.setTop (mkF m 23 #[.val (.ref r0), .val (.int (Int32.ofNat i)), .val (.int (Int32.ofNat cs.length)), .val (.ref a47), .val (.int (Int32.ofNat i))] []))
        refine own_by (fun _ kS => XS.iinc X50.here hx rfl (hb hby d9_23) rfl (l' := #[.val (.ref r0), .val (.int ((Int32.ofNat i) + (1 : Int32))), .val (.int (Int32.ofNat cs.length)), .val (.ref a47), .val (.int (Int32.ofNat i))]) rfl kS) ?_
        show own_Comes p e below s _ _ _ (T50.setTop (mkF m 26 #[.val (.ref r0), .val (.int ((Int32.ofNat i) + (1 : Int32))), .val (.int (Int32.ofNat cs.length)), .val (.ref a47), .val (.int (Int32.ofNat i))] []))
        refine own_by (fun _ kS => XS.iinc X50.here hx rfl (hb hby d9_26) rfl (l' := #[.val (.ref r0), .val (.int ((Int32.ofNat i) + (1 : Int32))), .val (.int (Int32.ofNat cs.length)), .val (.ref a47), .val (.int ((Int32.ofNat i) + (1 : Int32)))]) rfl kS) ?_
        show own_Comes p e below s _ _ _ (T50.setTop (mkF m 29 #[.val (.ref r0), .val (.int ((Int32.ofNat i) + (1 : Int32))), .val (.int (Int32.ofNat cs.length)), .val (.ref a47), .val (.int ((Int32.ofNat i) + (1 : Int32)))] []))
        rw [show ((Int32.ofNat i) + (1 : Int32)) = (Int32.ofNat (i + 1)) from own_succ (by omega)]
        show own_Comes p e below s _ _ _ (T50.setTop (mkF m 29 #[.val (.ref r0), .val (.int (Int32.ofNat (i + 1))), .val (.int (Int32.ofNat cs.length)), .val (.ref a47), .val (.int (Int32.ofNat (i + 1)))] []))
        refine own_by (fun _ kS => XS.goto X50.here hx rfl (pc0 := 29) (pc' := 8) rfl (hb hby d9_29) (by decide) (by decide) kS) ?_
        show own_Comes p e below s _ _ _ (T50.setTop (mkF m 8 #[.val (.ref r0), .val (.int (Int32.ofNat (i + 1))), .val (.int (Int32.ofNat cs.length)), .val (.ref a47), .val (.int (Int32.ofNat (i + 1)))] []))
        exact ih (i + 1) _ _ _ _ (by omega) (by omega) (KJ.trans K50 (allS (Or.inr sz_a47) all0)) V50 (hH.step hi) (VsJ.keep K50 (ninS nA nin0)) (X50.more (by decide) (by decide)) rfl N50 (OJ8.keep K50 (allS g_a47 all0)) (Nat.le_trans ZJ8 K50.1)
      · have hb51 : ¬ ((Int32.ofNat i) < (Int32.ofNat cs.length)) := fun q => hi ((own_lt (by omega) (by omega)).mp q)
        refine own_by (fun _ kS => XS.icmpYes XJ8.here hx rfl (pc0 := 11) (pc' := 32) rfl (hb hby d9_11) rfl (flt hb51).2.1 (by decide) (by decide) kS) ?_
        show own_Comes p e below s _ _ _ (TJ8.setTop (mkF m 32 #[.val (.ref r0), .val (.int (Int32.ofNat i)), .val (.int (Int32.ofNat cs.length)), .val (.ref a47), .val (.int (Int32.ofNat i))] []))
        refine own_by (fun _ kS => XS.aloadN XJ8.here hx rfl (hb hby d9_32) rfl rfl kS) ?_
        show own_Comes p e below s _ _ _ (TJ8.setTop (mkF m 33 #[.val (.ref r0), .val (.int (Int32.ofNat i)), .val (.int (Int32.ofNat cs.length)), .val (.ref a47), .val (.int (Int32.ofNat i))] [(.ref a47)]))
        obtain rfl : i = cs.length := by omega
        have Vz := Va
        rw [hH.full] at Vz
        refine own_ret XJ8 (v := some (.ref a47)) (fun h => by rw [Bd.returns] at h; cases h) Bd.notSynchronized (by decide) (by decide) ?_ (fun fs hr => own_reta XJ8 hx Bd.returns rfl rfl (hb hby d9_33) hr)
        rw [eJ8]; exact ⟨_, _, rfl, NJ8, own_ext KJ, g_a47, sz_a47, Vz⟩
  exact J8 (cs.length + 1) 0 _ _ _ _ (by omega) (by omega) ((Keep.refl _ _).ext E47) V47 (own_Half.zero cs) (Vs.ext E47) (X47.more (by decide) (by decide)) rfl N47 (O0.ext E47) (Nat.le_trans Z0 E47.1)
def Q5 (Z : State) (cs : List Int32) (h0 : Heap) (n0 : Nat) (v : Option Value) (h : Heap) (L : List Loc) : Prop := ∃ (a : Addr) (kb : ClassId), v = some (.ref a) ∧ Fr n0 L ∧ Ext h0 h ∧ n0 ≤ a ∧ h0.size ≤ a ∧ Arv Z h a kb .byte (Int32.ofNat (2 * cs.length)) (StrChars.Road.wideBytes cs) (.int 0)
theorem ef_rm5 (m : MethodId) (x0 : Addr) (x1 : Int32) (x2 : Int32) : entryFrame m #[(.ref x0), (.int x1), (.int x2)] 6 = mkF m 0 #[.val (.ref x0), .val (.int x1), .val (.int x2), .unset, .unset, .unset] [] := by first | (simp [entryFrame, mkF, argsToLocals, Value.category]; done) | rfl
theorem d5_0 : decode jdk_52_method_16_code 0 = .ok (.iload_n 2, 1) := by decide +kernel
theorem d5_1 : decode jdk_52_method_16_code 1 = .ok (.newarray .byte, 2) := by decide +kernel
theorem d5_3 : decode jdk_52_method_16_code 3 = .ok (.astore_n 3, 1) := by decide +kernel
theorem d5_4 : decode jdk_52_method_16_code 4 = .ok (.aload_n 0, 1) := by decide +kernel
theorem d5_5 : decode jdk_52_method_16_code 5 = .ok (.iload_n 1, 1) := by decide +kernel
theorem d5_6 : decode jdk_52_method_16_code 6 = .ok (.aload_n 3, 1) := by decide +kernel
theorem d5_7 : decode jdk_52_method_16_code 7 = .ok (.iconst 0, 1) := by decide +kernel
theorem d5_8 : decode jdk_52_method_16_code 8 = .ok (.iload_n 2, 1) := by decide +kernel
theorem pd___CI_BII_I_688 : parseMethodDescriptor "([CI[BII)I" = some ⟨[(.array .char), .int, (.array .byte), .int, .int], some .int⟩ := by decide +kernel
theorem d5_9 : decode jdk_52_method_16_code 9 = .ok (.invokestatic 115, 3) := by decide +kernel
theorem d5_12 : decode jdk_52_method_16_code 12 = .ok (.istore 4, 2) := by decide +kernel
theorem d5_14 : decode jdk_52_method_16_code 14 = .ok (.iload 4, 2) := by decide +kernel
theorem d5_16 : decode jdk_52_method_16_code 16 = .ok (.iload_n 2, 1) := by decide +kernel
theorem d5_17 : decode jdk_52_method_16_code 17 = .ok (.if_icmp .eq 40, 3) := by decide +kernel
theorem d5_20 : decode jdk_52_method_16_code 20 = .ok (.aload_n 0, 1) := by decide +kernel
theorem d5_21 : decode jdk_52_method_16_code 21 = .ok (.iload_n 1, 1) := by decide +kernel
theorem d5_22 : decode jdk_52_method_16_code 22 = .ok (.iload_n 2, 1) := by decide +kernel
theorem pd___CII__B_542 : parseMethodDescriptor "([CII)[B" = some ⟨[(.array .char), .int, .int], some (.array .byte)⟩ := by decide +kernel
theorem d5_23 : decode jdk_52_method_16_code 23 = .ok (.invokestatic 119, 3) := by decide +kernel
theorem d5_26 : decode jdk_52_method_16_code 26 = .ok (.astore 5, 2) := by decide +kernel
theorem d5_28 : decode jdk_52_method_16_code 28 = .ok (.aload 5, 2) := by decide +kernel
theorem d5_30 : decode jdk_52_method_16_code 30 = .ok (.iload 4, 2) := by decide +kernel
theorem d5_32 : decode jdk_52_method_16_code 32 = .ok (.invokestatic 71, 3) := by decide +kernel
theorem d5_35 : decode jdk_52_method_16_code 35 = .ok (.sipush 255, 3) := by decide +kernel
theorem d5_38 : decode jdk_52_method_16_code 38 = .ok (.if_icmp .gt 16, 3) := by decide +kernel
theorem d5_54 : decode jdk_52_method_16_code 54 = .ok (.aload 5, 2) := by decide +kernel
theorem d5_56 : decode jdk_52_method_16_code 56 = .ok (.areturn, 1) := by decide +kernel
set_option maxRecDepth 65536 in
set_option maxHeartbeats 40000000 in
theorem rm5 (l : Launch) (Z : State) (a0 : Array Value) (hw : ∀ d ∈ tables_1, d.before a0 Z = true) (ws : List Jvm.Cond) (r0 : Addr) (kc : ClassId) (cs : List Int32) (h0 : Heap) (n0 : Nat) (Z0 : n0 ≤ h0.size) (O0 : Old Z n0 h0) (Sd : Sta Z Z.heap "java/lang/StringUTF16" "$assertionsDisabled" "Z" (.int (1 : Int32))) (Sh : Sta Z Z.heap "java/lang/StringUTF16" "HI_BYTE_SHIFT" "I" (.int (0 : Int32))) (Sl : Sta Z Z.heap "java/lang/StringUTF16" "LO_BYTE_SHIFT" "I" (.int (8 : Int32))) (Vs : Arv Z h0 r0 kc .char (Int32.ofNat cs.length) (cs.map Value.int) (.int 0)) (Hw : ∃ c ∈ cs, (255 : Int32) < c) (hl : cs.length ≤ 4) (hB : ∀ c ∈ cs, ¬ c < 0 ∧ ¬ (65535 : Int32) < c) :
    MetFree l (⟨"java/lang/StringUTF16", "compress", "([CII)[B"⟩ : MethodName) (head1 (Jvm.Cond.code (⟨"java/lang/StringUTF16", "compress", "([CII)[B"⟩ : MethodName) jdk_52_method_16_code 6 (some (.array .byte)) :: ws) ({ frames := 3, cells := 2, slots := 12, locals := 40 } : Room)) (fun aX UX => aX = #[(.ref r0), (.int (0 : Int32)), (.int (Int32.ofNat cs.length))] ∧ Z.Warmed39 UX.vm ∧ UX.heap = h0) (fun _ _ _ _ _ => True) (fun _ UX oX UX' => ∃ vX LX, oX = .returned vX ∧ Q5 Z cs h0 n0 vX UX'.heap LX ∧ FrameEnd UX oX UX' LX ({ frames := 3, cells := 2, slots := 12, locals := 40 } : Room).cells ({ frames := 3, cells := 2, slots := 12, locals := 40 } : Room).slots) := by
  refine MetFree.of_bodySF (plainFor_of_name pn_java_lang_StringUTF16) hisR ?_
  intro p e s m args below meth c s₁ Bd hml0 hP hK
  obtain ⟨rfl, hZ, hh⟩ := hP
  have hx := Bd.exec
  have hby := Bd.bytes
  have hml : c.maxLocals = 6 := hml0
  have hown : s.vm.findClass "java/lang/StringUTF16" = some m.cls := findClass_of_methodNamed Bd.named
  have hnm := (name_of_methodNamed Bd.named Bd.method).1
  have X0 : Stand p l e ({ frames := 3, cells := 2, slots := 12, locals := 40 } : Room) s m #[(.ref r0), (.int (0 : Int32)), (.int (Int32.ofNat cs.length))] below meth c s₁ [] 0 0 := Stand.of_body Bd
  have e0 : s₁.heap = h0 := by rw [← hh, Bd.state]; rfl
  have N0 := Fr.nil n0
  show own_Comes p e below s ({ frames := 3, cells := 2, slots := 12, locals := 40 } : Room).cells ({ frames := 3, cells := 2, slots := 12, locals := 40 } : Room).slots (Q5 Z cs h0 n0) _
  rw [show entryFrame m #[(.ref r0), (.int (0 : Int32)), (.int (Int32.ofNat cs.length))] 6 = mkF m 0 #[.val (.ref r0), .val (.int (0 : Int32)), .val (.int (Int32.ofNat cs.length)), .unset, .unset, .unset] [] from ef_rm5 m r0 (0 : Int32) (Int32.ofNat cs.length)]
  show own_Comes p e below s _ _ _ (s₁.setTop (mkF m 0 #[.val (.ref r0), .val (.int (0 : Int32)), .val (.int (Int32.ofNat cs.length)), .unset, .unset, .unset] []))
  refine own_by (fun _ kS => XS.iloadN X0.here hx rfl (hb hby d5_0) rfl kS) ?_
  show own_Comes p e below s _ _ _ (s₁.setTop (mkF m 1 #[.val (.ref r0), .val (.int (0 : Int32)), .val (.int (Int32.ofNat cs.length)), .unset, .unset, .unset] [(.int (Int32.ofNat cs.length))]))
  obtain ⟨T52, h52, k52, X52, e52, E52, A52, st52⟩ := newP X0 hx hZ (hw _ (List.mem_of_getElem? (i := 26) rfl)) e0 (g := (mkF m 1 #[.val (.ref r0), .val (.int (0 : Int32)), .val (.int (Int32.ofNat cs.length)), .unset, .unset, .unset] [(.int (Int32.ofNat cs.length))])) rfl (hb hby d5_1) rfl (own_neg (by omega)) (cap := 4) (by rw [own_tn (by omega)]; omega) (by decide) (by decide) (by decide)
  obtain ⟨b52, g52⟩ : ∃ z, z = h0.size := ⟨_, rfl⟩
  rw [← g52] at A52 st52
  have g_b52 : n0 ≤ b52 := Nat.le_trans Z0 (Nat.le_of_eq g52.symm)
  refine own_by st52 ?_
  have V_b52 : Arv Z h52 b52 k52 .byte (Int32.ofNat cs.length) (List.replicate cs.length (.int (0 : Int32))) (.int (0 : Int32)) := (Arv.new A52 (own_neg (by omega))).pad (pad_rep [] (.int (0 : Int32)) cs.length)
  show own_Comes p e below s _ _ _ (T52.setTop (mkF m 3 #[.val (.ref r0), .val (.int (0 : Int32)), .val (.int (Int32.ofNat cs.length)), .unset, .unset, .unset] [(.ref b52)]))
  have sz_b52 : h0.size ≤ b52 := Nat.le_of_eq g52.symm
  have nA : r0 ≠ b52 := Nat.ne_of_lt (Nat.lt_of_lt_of_le Vs.lt sz_b52)
  refine own_by (fun _ kS => XS.astoreN X52.here hx rfl (hb hby d5_3) rfl rfl (l' := #[.val (.ref r0), .val (.int (0 : Int32)), .val (.int (Int32.ofNat cs.length)), .val (.ref b52), .unset, .unset]) rfl kS) ?_
  show own_Comes p e below s _ _ _ (T52.setTop (mkF m 4 #[.val (.ref r0), .val (.int (0 : Int32)), .val (.int (Int32.ofNat cs.length)), .val (.ref b52), .unset, .unset] []))
  refine own_by (fun _ kS => XS.aloadN X52.here hx rfl (hb hby d5_4) rfl rfl kS) ?_
  show own_Comes p e below s _ _ _ (T52.setTop (mkF m 5 #[.val (.ref r0), .val (.int (0 : Int32)), .val (.int (Int32.ofNat cs.length)), .val (.ref b52), .unset, .unset] [(.ref r0)]))
  refine own_by (fun _ kS => XS.iloadN X52.here hx rfl (hb hby d5_5) rfl kS) ?_
  show own_Comes p e below s _ _ _ (T52.setTop (mkF m 6 #[.val (.ref r0), .val (.int (0 : Int32)), .val (.int (Int32.ofNat cs.length)), .val (.ref b52), .unset, .unset] [(.int (0 : Int32)), (.ref r0)]))
  refine own_by (fun _ kS => XS.aloadN X52.here hx rfl (hb hby d5_6) rfl rfl kS) ?_
  show own_Comes p e below s _ _ _ (T52.setTop (mkF m 7 #[.val (.ref r0), .val (.int (0 : Int32)), .val (.int (Int32.ofNat cs.length)), .val (.ref b52), .unset, .unset] [(.ref b52), (.int (0 : Int32)), (.ref r0)]))
  refine own_by (fun _ kS => XS.iconst X52.here hx rfl (hb hby d5_7) kS) ?_
  show own_Comes p e below s _ _ _ (T52.setTop (mkF m 8 #[.val (.ref r0), .val (.int (0 : Int32)), .val (.int (Int32.ofNat cs.length)), .val (.ref b52), .unset, .unset] [(.int (0 : Int32)), (.ref b52), (.int (0 : Int32)), (.ref r0)]))
  refine own_by (fun _ kS => XS.iloadN X52.here hx rfl (hb hby d5_8) rfl kS) ?_
  show own_Comes p e below s _ _ _ (T52.setTop (mkF m 9 #[.val (.ref r0), .val (.int (0 : Int32)), .val (.int (Int32.ofNat cs.length)), .val (.ref b52), .unset, .unset] [(.int (Int32.ofNat cs.length)), (.int (0 : Int32)), (.ref b52), (.int (0 : Int32)), (.ref r0)]))
  obtain ⟨vv53, _, ⟨T53, L53, k53, n53⟩, -, X53, ⟨Lc53, hQ53, l53, y53, z53⟩, st53⟩ := Jvm.LawKit.callS X52 hx (y := (⟨"java/lang/StringUTF16", "compress", "([CI[BII)I"⟩ : MethodName)) hown (mvT hZ (hw _ (List.mem_of_getElem? (i := 27) rfl))) (mvT hZ (hw _ (List.mem_of_getElem? (i := 28) rfl))) (mvT hZ (hw _ (List.mem_of_getElem? (i := 24) rfl))) (mvT hZ (hw _ (List.mem_of_getElem? (i := 29) rfl))) (by decide) (backOf (W := 0) (rm6 l Z a0 hw [] r0 b52 kc k52 cs _ h52 n0 (Nat.le_trans Z0 E52.1) (Vs.ext E52) V_b52 (by simp) nA g_b52 Hw hl) hZ (hw _ (List.mem_of_getElem? (i := 29) rfl)) (hw _ (List.mem_of_getElem? (i := 24) rfl)) (by decide) (by decide)) (g := (mkF m 9 #[.val (.ref r0), .val (.int (0 : Int32)), .val (.int (Int32.ofNat cs.length)), .val (.ref b52), .unset, .unset] [(.int (Int32.ofNat cs.length)), (.int (0 : Int32)), (.ref b52), (.int (0 : Int32)), (.ref r0)])) rfl (by rw [hml]; rfl) (argsL := [(.ref r0), (.int (0 : Int32)), (.ref b52), (.int (0 : Int32)), (.int (Int32.ofNat cs.length))]) (rest := []) (lenOf pd___CI_BII_I_688 rfl) rfl (by show 2 * 0 + _ ≤ _; exact Nat.le_of_eq rfl) (hb hby d5_9) (fun _ _ => ⟨rfl, e52, (by decide : 1 + 0 ≤ _), (by decide : 4 + 0 ≤ _)⟩)
  dsimp only [Pt.U, Pt.locs, Pt.cells, Pt.slots] at X53 l53 y53 z53 st53 hQ53
  subst l53 y53 z53
  obtain ⟨kk, rfl, N53q, K53, hk, hbig⟩ := hQ53
  have N53 := Fr.app N0 N53q
  refine own_by st53 ?_
  show own_Comes p e below s _ _ _ (T53.setTop (mkF m 12 #[.val (.ref r0), .val (.int (0 : Int32)), .val (.int (Int32.ofNat cs.length)), .val (.ref b52), .unset, .unset] [(.int (Int32.ofNat kk))]))
  refine own_by (fun _ kS => XS.istore X53.here hx rfl (hb hby d5_12) rfl (l' := #[.val (.ref r0), .val (.int (0 : Int32)), .val (.int (Int32.ofNat cs.length)), .val (.ref b52), .val (.int (Int32.ofNat kk)), .unset]) rfl kS) ?_
  show own_Comes p e below s _ _ _ (T53.setTop (mkF m 14 #[.val (.ref r0), .val (.int (0 : Int32)), .val (.int (Int32.ofNat cs.length)), .val (.ref b52), .val (.int (Int32.ofNat kk)), .unset] []))
  refine own_by (fun _ kS => XS.iload X53.here hx rfl (hb hby d5_14) rfl kS) ?_
  show own_Comes p e below s _ _ _ (T53.setTop (mkF m 16 #[.val (.ref r0), .val (.int (0 : Int32)), .val (.int (Int32.ofNat cs.length)), .val (.ref b52), .val (.int (Int32.ofNat kk)), .unset] [(.int (Int32.ofNat kk))]))
  refine own_by (fun _ kS => XS.iloadN X53.here hx rfl (hb hby d5_16) rfl kS) ?_
  show own_Comes p e below s _ _ _ (T53.setTop (mkF m 17 #[.val (.ref r0), .val (.int (0 : Int32)), .val (.int (Int32.ofNat cs.length)), .val (.ref b52), .val (.int (Int32.ofNat kk)), .unset] [(.int (Int32.ofNat cs.length)), (.int (Int32.ofNat kk))]))
  have hb54 : ¬ ((Int32.ofNat kk) = (Int32.ofNat cs.length)) := own_ne32 (by omega) (by omega) hk
  refine own_by (fun _ kS => XS.icmpNo X53.here hx rfl (hb hby d5_17) rfl (feq hb54).1 kS) ?_
  show own_Comes p e below s _ _ _ (T53.setTop (mkF m 20 #[.val (.ref r0), .val (.int (0 : Int32)), .val (.int (Int32.ofNat cs.length)), .val (.ref b52), .val (.int (Int32.ofNat kk)), .unset] []))
  refine own_by (fun _ kS => XS.aloadN X53.here hx rfl (hb hby d5_20) rfl rfl kS) ?_
  show own_Comes p e below s _ _ _ (T53.setTop (mkF m 21 #[.val (.ref r0), .val (.int (0 : Int32)), .val (.int (Int32.ofNat cs.length)), .val (.ref b52), .val (.int (Int32.ofNat kk)), .unset] [(.ref r0)]))
  refine own_by (fun _ kS => XS.iloadN X53.here hx rfl (hb hby d5_21) rfl kS) ?_
  show own_Comes p e below s _ _ _ (T53.setTop (mkF m 22 #[.val (.ref r0), .val (.int (0 : Int32)), .val (.int (Int32.ofNat cs.length)), .val (.ref b52), .val (.int (Int32.ofNat kk)), .unset] [(.int (0 : Int32)), (.ref r0)]))
  refine own_by (fun _ kS => XS.iloadN X53.here hx rfl (hb hby d5_22) rfl kS) ?_
  show own_Comes p e below s _ _ _ (T53.setTop (mkF m 23 #[.val (.ref r0), .val (.int (0 : Int32)), .val (.int (Int32.ofNat cs.length)), .val (.ref b52), .val (.int (Int32.ofNat kk)), .unset] [(.int (Int32.ofNat cs.length)), (.int (0 : Int32)), (.ref r0)]))
  obtain ⟨vv55, _, ⟨T55, L55, k55, n55⟩, -, X55, ⟨Lc55, hQ55, l55, y55, z55⟩, st55⟩ := Jvm.LawKit.callS X53 hx (y := (⟨"java/lang/StringUTF16", "toBytes", "([CII)[B"⟩ : MethodName)) hown (mvT hZ (hw _ (List.mem_of_getElem? (i := 40) rfl))) (mvT hZ (hw _ (List.mem_of_getElem? (i := 41) rfl))) (mvT hZ (hw _ (List.mem_of_getElem? (i := 24) rfl))) (mvT hZ (hw _ (List.mem_of_getElem? (i := 42) rfl))) (by decide) (backOf (W := 0) (rm9 l Z a0 hw [] r0 kc cs T53.heap n0 (Nat.le_trans (Nat.le_trans Z0 E52.1) K53.1) ((O0.ext E52).keep K53 (allS g_b52 all0)) Sd Sh Sl ((Vs.ext E52).keep K53 (ninS nA nin0)) hl) hZ (hw _ (List.mem_of_getElem? (i := 42) rfl)) (hw _ (List.mem_of_getElem? (i := 24) rfl)) (by decide) (by decide)) (g := (mkF m 23 #[.val (.ref r0), .val (.int (0 : Int32)), .val (.int (Int32.ofNat cs.length)), .val (.ref b52), .val (.int (Int32.ofNat kk)), .unset] [(.int (Int32.ofNat cs.length)), (.int (0 : Int32)), (.ref r0)])) rfl (by rw [hml]; rfl) (argsL := [(.ref r0), (.int (0 : Int32)), (.int (Int32.ofNat cs.length))]) (rest := []) (lenOf pd___CII__B_542 rfl) rfl (by show 2 * 0 + _ ≤ _; exact Nat.le_of_eq rfl) (hb hby d5_23) (fun _ _ => ⟨rfl, rfl, (by decide : 1 + 1 ≤ _), (by decide : 4 + 8 ≤ _)⟩)
  dsimp only [Pt.U, Pt.locs, Pt.cells, Pt.slots] at X55 l55 y55 z55 st55 hQ55
  subst l55 y55 z55
  obtain ⟨a55, kb55, rfl, N55q, E55, g_a55, sz_a55, V55⟩ := hQ55
  have N55 := Fr.app N53 N55q
  refine own_by st55 ?_
  show own_Comes p e below s _ _ _ (T55.setTop (mkF m 26 #[.val (.ref r0), .val (.int (0 : Int32)), .val (.int (Int32.ofNat cs.length)), .val (.ref b52), .val (.int (Int32.ofNat kk)), .unset] [(.ref a55)]))
  refine own_by (fun _ kS => XS.astore X55.here hx rfl (hb hby d5_26) rfl rfl (l' := #[.val (.ref r0), .val (.int (0 : Int32)), .val (.int (Int32.ofNat cs.length)), .val (.ref b52), .val (.int (Int32.ofNat kk)), .val (.ref a55)]) rfl kS) ?_
  show own_Comes p e below s _ _ _ (T55.setTop (mkF m 28 #[.val (.ref r0), .val (.int (0 : Int32)), .val (.int (Int32.ofNat cs.length)), .val (.ref b52), .val (.int (Int32.ofNat kk)), .val (.ref a55)] []))
  refine own_by (fun _ kS => XS.aload X55.here hx rfl (hb hby d5_28) rfl rfl kS) ?_
  show own_Comes p e below s _ _ _ (T55.setTop (mkF m 30 #[.val (.ref r0), .val (.int (0 : Int32)), .val (.int (Int32.ofNat cs.length)), .val (.ref b52), .val (.int (Int32.ofNat kk)), .val (.ref a55)] [(.ref a55)]))
  refine own_by (fun _ kS => XS.iload X55.here hx rfl (hb hby d5_30) rfl kS) ?_
  show own_Comes p e below s _ _ _ (T55.setTop (mkF m 32 #[.val (.ref r0), .val (.int (0 : Int32)), .val (.int (Int32.ofNat cs.length)), .val (.ref b52), .val (.int (Int32.ofNat kk)), .val (.ref a55)] [(.int (Int32.ofNat kk)), (.ref a55)]))
  have c56 := (((O0.ext E52).keep K53 (allS g_b52 all0)).ext E55)
  obtain ⟨vv57, _, ⟨T57, L57, k57, n57⟩, -, X57, ⟨Lc57, hQ57, l57, y57, z57⟩, st57⟩ := Jvm.LawKit.callS X55 hx (y := (⟨"java/lang/StringUTF16", "getChar", "([BI)C"⟩ : MethodName)) hown (mvT hZ (hw _ (List.mem_of_getElem? (i := 56) rfl))) (mvT hZ (hw _ (List.mem_of_getElem? (i := 57) rfl))) (mvT hZ (hw _ (List.mem_of_getElem? (i := 24) rfl))) (mvT hZ (hw _ (List.mem_of_getElem? (i := 58) rfl))) (by decide) (backOf (W := 0) (rm13 l Z a0 hw [] a55 kk kb55 cs T55.heap n0 (Nat.le_trans (Nat.le_trans (Nat.le_trans Z0 E52.1) K53.1) E55.1) c56 Sd Sh Sl V55 (by omega) hk hB) hZ (hw _ (List.mem_of_getElem? (i := 58) rfl)) (hw _ (List.mem_of_getElem? (i := 24) rfl)) (by decide) (by decide)) (g := (mkF m 32 #[.val (.ref r0), .val (.int (0 : Int32)), .val (.int (Int32.ofNat cs.length)), .val (.ref b52), .val (.int (Int32.ofNat kk)), .val (.ref a55)] [(.int (Int32.ofNat kk)), (.ref a55)])) rfl (by rw [hml]; rfl) (argsL := [(.ref a55), (.int (Int32.ofNat kk))]) (rest := []) (lenOf pd___BI_C_378 rfl) rfl (by show 2 * 0 + _ ≤ _; exact Nat.le_of_eq rfl) (hb hby d5_32) (fun _ _ => ⟨rfl, rfl, (by decide : 2 + 0 ≤ _), (by decide : 12 + 0 ≤ _)⟩)
  dsimp only [Pt.U, Pt.locs, Pt.cells, Pt.slots] at X57 l57 y57 z57 st57 hQ57
  subst l57 y57 z57
  obtain ⟨rfl, N57q, e57q⟩ := hQ57
  have N57 := Fr.app N55 N57q
  refine own_by st57 ?_
  have e57 : T57.heap = T55.heap := e57q
  show own_Comes p e below s _ _ _ (T57.setTop (mkF m 35 #[.val (.ref r0), .val (.int (0 : Int32)), .val (.int (Int32.ofNat cs.length)), .val (.ref b52), .val (.int (Int32.ofNat kk)), .val (.ref a55)] [(.int (cs.getD kk 0))]))
  refine own_by (fun _ kS => XS.sipush X57.here hx rfl (hb hby d5_35) kS) ?_
  show own_Comes p e below s _ _ _ (T57.setTop (mkF m 38 #[.val (.ref r0), .val (.int (0 : Int32)), .val (.int (Int32.ofNat cs.length)), .val (.ref b52), .val (.int (Int32.ofNat kk)), .val (.ref a55)] [(.int (255 : Int32)), (.int (cs.getD kk 0))]))
  refine own_by (fun _ kS => XS.icmpYes X57.here hx rfl (pc0 := 38) (pc' := 54) rfl (hb hby d5_38) rfl (tlt hbig).2.2.1 (by decide) (by decide) kS) ?_
  show own_Comes p e below s _ _ _ (T57.setTop (mkF m 54 #[.val (.ref r0), .val (.int (0 : Int32)), .val (.int (Int32.ofNat cs.length)), .val (.ref b52), .val (.int (Int32.ofNat kk)), .val (.ref a55)] []))
  refine own_by (fun _ kS => XS.aload X57.here hx rfl (hb hby d5_54) rfl rfl kS) ?_
  show own_Comes p e below s _ _ _ (T57.setTop (mkF m 56 #[.val (.ref r0), .val (.int (0 : Int32)), .val (.int (Int32.ofNat cs.length)), .val (.ref b52), .val (.int (Int32.ofNat kk)), .val (.ref a55)] [(.ref a55)]))
  refine own_ret X57 (v := some (.ref a55)) (fun h => by rw [Bd.returns] at h; cases h) Bd.notSynchronized (by decide) (by decide) ?_ (fun fs hr => own_reta X57 hx Bd.returns rfl rfl (hb hby d5_56) hr)
  rw [e57]; exact ⟨_, _, rfl, N57, own_ext ((((Keep.refl _ _).ext E52).trans K53 (allS (Or.inr sz_b52) all0)).ext E55), g_a55, Nat.le_trans (((Keep.refl _ ([] : List Addr)).ext E52).trans K53 (allS (Or.inr sz_b52) all0)).1 sz_a55, V55⟩
def Q7 (Z : State)  (h0 : Heap) (n0 : Nat) (v : Option Value) (h : Heap) (L : List Loc) : Prop := v = some (.int (1 : Int32)) ∧ Fr n0 L ∧ h = h0
theorem ef_rm7 (m : MethodId) (x0 : Addr) (x1 : Int32) : entryFrame m #[(.ref x0), (.int x1)] 2 = mkF m 0 #[.val (.ref x0), .val (.int x1)] [] := by first | (simp [entryFrame, mkF, argsToLocals, Value.category]; done) | rfl
theorem d7_0 : decode jdk_52_method_15_code 0 = .ok (.iload_n 1, 1) := by decide +kernel
theorem d7_1 : decode jdk_52_method_15_code 1 = .ok (.aload_n 0, 1) := by decide +kernel
theorem d7_2 : decode jdk_52_method_15_code 2 = .ok (.arraylength, 1) := by decide +kernel
theorem d7_3 : decode jdk_52_method_15_code 3 = .ok (.isub, 1) := by decide +kernel
theorem d7_4 : decode jdk_52_method_15_code 4 = .ok (.bipush 31, 2) := by decide +kernel
theorem d7_6 : decode jdk_52_method_15_code 6 = .ok (.iushr, 1) := by decide +kernel
theorem d7_7 : decode jdk_52_method_15_code 7 = .ok (.i2b, 1) := by decide +kernel
theorem d7_8 : decode jdk_52_method_15_code 8 = .ok (.ireturn, 1) := by decide +kernel
set_option maxRecDepth 65536 in
set_option maxHeartbeats 40000000 in
theorem rm7 (l : Launch) (Z : State) (a0 : Array Value) (hw : ∀ d ∈ tables_1, d.before a0 Z = true) (ws : List Jvm.Cond) (r0 : Addr) (kb : ClassId) (cs : List Int32) (h0 : Heap) (n0 : Nat) (Z0 : n0 ≤ h0.size) (Va : Arv Z h0 r0 kb .byte (Int32.ofNat (2 * cs.length)) (StrChars.Road.wideBytes cs) (.int 0)) (h0l : 0 < cs.length) (hl : cs.length ≤ 4) :
    MetFree l (⟨"java/lang/StringUTF16", "coderFromArrayLen", "([BI)B"⟩ : MethodName) (head1 (Jvm.Cond.code (⟨"java/lang/StringUTF16", "coderFromArrayLen", "([BI)B"⟩ : MethodName) jdk_52_method_15_code 2 (some .byte) :: ws) ({ frames := 0, cells := 0, slots := 0, locals := 0 } : Room)) (fun aX UX => aX = #[(.ref r0), (.int (Int32.ofNat cs.length))] ∧ Z.Warmed39 UX.vm ∧ UX.heap = h0) (fun _ _ _ _ _ => True) (fun _ UX oX UX' => ∃ vX LX, oX = .returned vX ∧ Q7 Z  h0 n0 vX UX'.heap LX ∧ FrameEnd UX oX UX' LX ({ frames := 0, cells := 0, slots := 0, locals := 0 } : Room).cells ({ frames := 0, cells := 0, slots := 0, locals := 0 } : Room).slots) := by
  refine MetFree.of_bodySF (plainFor_of_name pn_java_lang_StringUTF16) hisR ?_
  intro p e s m args below meth c s₁ Bd hml0 hP hK
  obtain ⟨rfl, hZ, hh⟩ := hP
  have hx := Bd.exec
  have hby := Bd.bytes
  have hml : c.maxLocals = 2 := hml0
  have hown : s.vm.findClass "java/lang/StringUTF16" = some m.cls := findClass_of_methodNamed Bd.named
  have hnm := (name_of_methodNamed Bd.named Bd.method).1
  have X0 : Stand p l e ({ frames := 0, cells := 0, slots := 0, locals := 0 } : Room) s m #[(.ref r0), (.int (Int32.ofNat cs.length))] below meth c s₁ [] 0 0 := Stand.of_body Bd
  have e0 : s₁.heap = h0 := by rw [← hh, Bd.state]; rfl
  have N0 := Fr.nil n0
  show own_Comes p e below s ({ frames := 0, cells := 0, slots := 0, locals := 0 } : Room).cells ({ frames := 0, cells := 0, slots := 0, locals := 0 } : Room).slots (Q7 Z  h0 n0) _
  rw [show entryFrame m #[(.ref r0), (.int (Int32.ofNat cs.length))] 2 = mkF m 0 #[.val (.ref r0), .val (.int (Int32.ofNat cs.length))] [] from ef_rm7 m r0 (Int32.ofNat cs.length)]
  show own_Comes p e below s _ _ _ (s₁.setTop (mkF m 0 #[.val (.ref r0), .val (.int (Int32.ofNat cs.length))] []))
  refine own_by (fun _ kS => XS.iloadN X0.here hx rfl (hb hby d7_0) rfl kS) ?_
  show own_Comes p e below s _ _ _ (s₁.setTop (mkF m 1 #[.val (.ref r0), .val (.int (Int32.ofNat cs.length))] [(.int (Int32.ofNat cs.length))]))
  refine own_by (fun _ kS => XS.aloadN X0.here hx rfl (hb hby d7_1) rfl rfl kS) ?_
  show own_Comes p e below s _ _ _ (s₁.setTop (mkF m 2 #[.val (.ref r0), .val (.int (Int32.ofNat cs.length))] [(.ref r0), (.int (Int32.ofNat cs.length))]))
  have Vo58 := Va
  obtain ⟨cl58, Ar58, qA58, SA58, NA58, HA58, GA58⟩ := Vo58
  refine own_by (fun _ kS => X0.arraylength hx (by rw [e0]; exact Ar58.1) (State.isArrayOf_alike hZ.alike Ar58.2.1) (g := (mkF m 2 #[.val (.ref r0), .val (.int (Int32.ofNat cs.length))] [(.ref r0), (.int (Int32.ofNat cs.length))])) rfl rfl (hb hby d7_2) _ kS) ?_
  rw [len_of SA58 NA58]
  show own_Comes p e below s _ _ _ (s₁.setTop (mkF m 3 #[.val (.ref r0), .val (.int (Int32.ofNat cs.length))] [(.int (Int32.ofNat (2 * cs.length))), (.int (Int32.ofNat cs.length))]))
  refine own_by (fun _ kS => XS.isub X0.here hx rfl (hb hby d7_3) rfl kS) ?_
  show own_Comes p e below s _ _ _ (s₁.setTop (mkF m 4 #[.val (.ref r0), .val (.int (Int32.ofNat cs.length))] [(.int ((Int32.ofNat cs.length) - (Int32.ofNat (2 * cs.length))))]))
  refine own_by (fun _ kS => XS.bipush X0.here hx rfl (hb hby d7_4) kS) ?_
  show own_Comes p e below s _ _ _ (s₁.setTop (mkF m 6 #[.val (.ref r0), .val (.int (Int32.ofNat cs.length))] [(.int (31 : Int32)), (.int ((Int32.ofNat cs.length) - (Int32.ofNat (2 * cs.length))))]))
  refine own_by (fun _ kS => XS.iushr X0.here hx rfl (hb hby d7_6) rfl kS) ?_
  show own_Comes p e below s _ _ _ (s₁.setTop (mkF m 7 #[.val (.ref r0), .val (.int (Int32.ofNat cs.length))] [(.int ((((Int32.ofNat cs.length) - (Int32.ofNat (2 * cs.length))).toUInt32 >>> ((31 : Int32) &&& 31).toUInt32).toInt32))]))
  refine own_by (fun _ kS => XS.i2b X0.here hx rfl (hb hby d7_7) rfl kS) ?_
  show own_Comes p e below s _ _ _ (s₁.setTop (mkF m 8 #[.val (.ref r0), .val (.int (Int32.ofNat cs.length))] [(.int (((((Int32.ofNat cs.length) - (Int32.ofNat (2 * cs.length))).toUInt32 >>> ((31 : Int32) &&& 31).toUInt32).toInt32).toInt8.toInt32))]))
  refine own_ret X0 (v := some (.int (nar .byte (((((Int32.ofNat cs.length) - (Int32.ofNat (2 * cs.length))).toUInt32 >>> ((31 : Int32) &&& 31).toUInt32).toInt32).toInt8.toInt32)))) (fun h => by rw [Bd.returns] at h; cases h) Bd.notSynchronized (by decide) (by decide) ?_ (fun fs hr => retN X0 hx (t := .byte) Bd.returns (by simp) (hb hby d7_8) hr)
  rw [e0]; exact ⟨congrArg (fun z => some (Value.int z)) (own_cod h0l (by omega)), N0, rfl⟩
def Q3w (Z : State) (r0 : Addr) (cs : List Int32) (h0 : Heap) (n0 : Nat) (v : Option Value) (h : Heap) (L : List Loc) : Prop := v = none ∧ Fr n0 L ∧ Keep h0 h [r0] ∧ own_Txt Z h r0 cs
theorem ef_rm3w (m : MethodId) (x0 : Addr) (x1 : Addr) (x2 : Int32) (x3 : Int32) : entryFrame m #[(.ref x0), (.ref x1), (.int x2), (.int x3), .null] 6 = mkF m 0 #[.val (.ref x0), .val (.ref x1), .val (.int x2), .val (.int x3), .val .null, .unset] [] := by first | (simp [entryFrame, mkF, argsToLocals, Value.category]; done) | rfl
theorem d3_0 : decode jdk_42_method_149_code 0 = .ok (.aload_n 0, 1) := by decide +kernel
theorem d3_1 : decode jdk_42_method_149_code 1 = .ok (.invokespecial 1, 3) := by decide +kernel
theorem d3_4 : decode jdk_42_method_149_code 4 = .ok (.iload_n 3, 1) := by decide +kernel
theorem d3_5 : decode jdk_42_method_149_code 5 = .ok (.ifCond .ne 22, 3) := by decide +kernel
theorem d3_27 : decode jdk_42_method_149_code 27 = .ok (.getstatic 38, 3) := by decide +kernel
theorem d3_30 : decode jdk_42_method_149_code 30 = .ok (.ifCond .eq 28, 3) := by decide +kernel
theorem d3_33 : decode jdk_42_method_149_code 33 = .ok (.aload_n 1, 1) := by decide +kernel
theorem d3_34 : decode jdk_42_method_149_code 34 = .ok (.iload_n 2, 1) := by decide +kernel
theorem d3_35 : decode jdk_42_method_149_code 35 = .ok (.iload_n 3, 1) := by decide +kernel
theorem d3_36 : decode jdk_42_method_149_code 36 = .ok (.invokestatic 177, 3) := by decide +kernel
theorem d3_39 : decode jdk_42_method_149_code 39 = .ok (.astore 5, 2) := by decide +kernel
theorem d3_41 : decode jdk_42_method_149_code 41 = .ok (.aload_n 0, 1) := by decide +kernel
theorem d3_42 : decode jdk_42_method_149_code 42 = .ok (.aload 5, 2) := by decide +kernel
theorem d3_44 : decode jdk_42_method_149_code 44 = .ok (.iload_n 3, 1) := by decide +kernel
theorem pd___BI_B_377 : parseMethodDescriptor "([BI)B" = some ⟨[(.array .byte), .int], some .byte⟩ := by decide +kernel
theorem d3_45 : decode jdk_42_method_149_code 45 = .ok (.invokestatic 47, 3) := by decide +kernel
theorem d3_48 : decode jdk_42_method_149_code 48 = .ok (.putfield 15, 3) := by decide +kernel
theorem d3_51 : decode jdk_42_method_149_code 51 = .ok (.aload_n 0, 1) := by decide +kernel
theorem d3_52 : decode jdk_42_method_149_code 52 = .ok (.aload 5, 2) := by decide +kernel
theorem d3_54 : decode jdk_42_method_149_code 54 = .ok (.putfield 9, 3) := by decide +kernel
theorem d3_57 : decode jdk_42_method_149_code 57 = .ok (.return_, 1) := by decide +kernel
set_option maxRecDepth 65536 in
set_option maxHeartbeats 40000000 in
theorem rm3w (l : Launch) (Z : State) (a0 : Array Value) (hw : ∀ d ∈ tables_1, d.before a0 Z = true) (ws : List Jvm.Cond) (r0 r1 : Addr) (kc : ClassId) (cs : List Int32) (zc : Int32) (h0 : Heap) (n0 : Nat) (Z0 : n0 ≤ h0.size) (O0 : Old Z n0 h0) (Sz : Sta Z Z.heap "java/lang/String" "COMPACT_STRINGS" "Z" (.int zc)) (hzc : ¬ zc = 0) (Sd : Sta Z Z.heap "java/lang/StringUTF16" "$assertionsDisabled" "Z" (.int (1 : Int32))) (Sh : Sta Z Z.heap "java/lang/StringUTF16" "HI_BYTE_SHIFT" "I" (.int (0 : Int32))) (Sl : Sta Z Z.heap "java/lang/StringUTF16" "LO_BYTE_SHIFT" "I" (.int (8 : Int32))) (Et : Exa Z h0 r0 "java/lang/String") (Fv : Fld Z h0 r0 "java/lang/String" "value" "[B" .null) (Fc : Fld Z h0 r0 "java/lang/String" "coder" "B" (.int (0 : Int32))) (g_r0 : n0 ≤ r0) (nA : r0 ≠ r1) (Vs : Arv Z h0 r1 kc .char (Int32.ofNat cs.length) (cs.map Value.int) (.int 0)) (Hw : ∃ c ∈ cs, (255 : Int32) < c) (h0l : 0 < cs.length) (hl : cs.length ≤ 4) (hB : ∀ c ∈ cs, ¬ c < 0 ∧ ¬ (65535 : Int32) < c) :
    MetFree l (⟨"java/lang/String", "<init>", "([CIILjava/lang/Void;)V"⟩ : MethodName) (head1 (Jvm.Cond.code (⟨"java/lang/String", "<init>", "([CIILjava/lang/Void;)V"⟩ : MethodName) jdk_42_method_149_code 6 none :: ws) ({ frames := 4, cells := 2, slots := 12, locals := 57 } : Room)) (fun aX UX => aX = #[(.ref r0), (.ref r1), (.int (0 : Int32)), (.int (Int32.ofNat cs.length)), .null] ∧ Z.Warmed39 UX.vm ∧ UX.heap = h0) (fun _ _ _ _ _ => True) (fun _ UX oX UX' => ∃ vX LX, oX = .returned vX ∧ Q3w Z r0 cs h0 n0 vX UX'.heap LX ∧ FrameEnd UX oX UX' LX ({ frames := 4, cells := 2, slots := 12, locals := 57 } : Room).cells ({ frames := 4, cells := 2, slots := 12, locals := 57 } : Room).slots) := by
  refine MetFree.of_bodySF (plainFor_of_name pn_java_lang_String) hisR ?_
  intro p e s m args below meth c s₁ Bd hml0 hP hK
  obtain ⟨rfl, hZ, hh⟩ := hP
  have hx := Bd.exec
  have hby := Bd.bytes
  have hml : c.maxLocals = 6 := hml0
  have hown : s.vm.findClass "java/lang/String" = some m.cls := findClass_of_methodNamed Bd.named
  have hnm := (name_of_methodNamed Bd.named Bd.method).1
  have X0 : Stand p l e ({ frames := 4, cells := 2, slots := 12, locals := 57 } : Room) s m #[(.ref r0), (.ref r1), (.int (0 : Int32)), (.int (Int32.ofNat cs.length)), .null] below meth c s₁ [] 0 0 := Stand.of_body Bd
  have e0 : s₁.heap = h0 := by rw [← hh, Bd.state]; rfl
  have N0 := Fr.nil n0
  show own_Comes p e below s ({ frames := 4, cells := 2, slots := 12, locals := 57 } : Room).cells ({ frames := 4, cells := 2, slots := 12, locals := 57 } : Room).slots (Q3w Z r0 cs h0 n0) _
  rw [show entryFrame m #[(.ref r0), (.ref r1), (.int (0 : Int32)), (.int (Int32.ofNat cs.length)), .null] 6 = mkF m 0 #[.val (.ref r0), .val (.ref r1), .val (.int (0 : Int32)), .val (.int (Int32.ofNat cs.length)), .val .null, .unset] [] from ef_rm3w m r0 r1 (0 : Int32) (Int32.ofNat cs.length)]
  show own_Comes p e below s _ _ _ (s₁.setTop (mkF m 0 #[.val (.ref r0), .val (.ref r1), .val (.int (0 : Int32)), .val (.int (Int32.ofNat cs.length)), .val .null, .unset] []))
  refine own_by (fun _ kS => XS.aloadN X0.here hx rfl (hb hby d3_0) rfl rfl kS) ?_
  show own_Comes p e below s _ _ _ (s₁.setTop (mkF m 1 #[.val (.ref r0), .val (.ref r1), .val (.int (0 : Int32)), .val (.int (Int32.ofNat cs.length)), .val .null, .unset] [(.ref r0)]))
  obtain ⟨T59, X59, e59, st59⟩ := initO X0 hx hZ hown (hw _ (List.mem_of_getElem? (i := 18) rfl)) (hw _ (List.mem_of_getElem? (i := 19) rfl)) (hw _ (List.mem_of_getElem? (i := 20) rfl)) e0 (g := (mkF m 1 #[.val (.ref r0), .val (.ref r1), .val (.int (0 : Int32)), .val (.int (Int32.ofNat cs.length)), .val .null, .unset] [(.ref r0)])) rfl (by rw [hml]; rfl) rfl (hb hby d3_1) (by decide) (W := 0) (by show 2 * 0 + _ ≤ _; exact Nat.le_of_eq rfl) (by decide)
  refine own_by st59 ?_
  show own_Comes p e below s _ _ _ (T59.setTop (mkF m 4 #[.val (.ref r0), .val (.ref r1), .val (.int (0 : Int32)), .val (.int (Int32.ofNat cs.length)), .val .null, .unset] []))
  refine own_by (fun _ kS => XS.iloadN X59.here hx rfl (hb hby d3_4) rfl kS) ?_
  show own_Comes p e below s _ _ _ (T59.setTop (mkF m 5 #[.val (.ref r0), .val (.ref r1), .val (.int (0 : Int32)), .val (.int (Int32.ofNat cs.length)), .val .null, .unset] [(.int (Int32.ofNat cs.length))]))
  have hb60 : ¬ ((Int32.ofNat cs.length) = (0 : Int32)) := own_not0 h0l (by omega)
  refine own_by (fun _ kS => XS.ifYes X59.here hx rfl (pc0 := 5) (pc' := 27) rfl (hb hby d3_5) rfl ((if0 _ _).trans (feq hb60).2) (by decide) (by decide) kS) ?_
  show own_Comes p e below s _ _ _ (T59.setTop (mkF m 27 #[.val (.ref r0), .val (.ref r1), .val (.int (0 : Int32)), .val (.int (Int32.ofNat cs.length)), .val .null, .unset] []))
  obtain ⟨T61, X61, e61, st61⟩ := getS2 X59 hx hZ hown (host := "") (Or.inl (hw _ (List.mem_of_getElem? (i := 21) rfl))) Via.refl e59 (Sz.ext O0.2) (g := (mkF m 27 #[.val (.ref r0), .val (.ref r1), .val (.int (0 : Int32)), .val (.int (Int32.ofNat cs.length)), .val .null, .unset] [])) rfl (hb hby d3_27)
  refine own_by st61 ?_
  show own_Comes p e below s _ _ _ (T61.setTop (mkF m 30 #[.val (.ref r0), .val (.ref r1), .val (.int (0 : Int32)), .val (.int (Int32.ofNat cs.length)), .val .null, .unset] [(.int zc)]))
  refine own_by (fun _ kS => XS.ifNo X61.here hx rfl (hb hby d3_30) rfl ((if0 _ _).trans (feq hzc).1) kS) ?_
  show own_Comes p e below s _ _ _ (T61.setTop (mkF m 33 #[.val (.ref r0), .val (.ref r1), .val (.int (0 : Int32)), .val (.int (Int32.ofNat cs.length)), .val .null, .unset] []))
  refine own_by (fun _ kS => XS.aloadN X61.here hx rfl (hb hby d3_33) rfl rfl kS) ?_
  show own_Comes p e below s _ _ _ (T61.setTop (mkF m 34 #[.val (.ref r0), .val (.ref r1), .val (.int (0 : Int32)), .val (.int (Int32.ofNat cs.length)), .val .null, .unset] [(.ref r1)]))
  refine own_by (fun _ kS => XS.iloadN X61.here hx rfl (hb hby d3_34) rfl kS) ?_
  show own_Comes p e below s _ _ _ (T61.setTop (mkF m 35 #[.val (.ref r0), .val (.ref r1), .val (.int (0 : Int32)), .val (.int (Int32.ofNat cs.length)), .val .null, .unset] [(.int (0 : Int32)), (.ref r1)]))
  refine own_by (fun _ kS => XS.iloadN X61.here hx rfl (hb hby d3_35) rfl kS) ?_
  show own_Comes p e below s _ _ _ (T61.setTop (mkF m 36 #[.val (.ref r0), .val (.ref r1), .val (.int (0 : Int32)), .val (.int (Int32.ofNat cs.length)), .val .null, .unset] [(.int (Int32.ofNat cs.length)), (.int (0 : Int32)), (.ref r1)]))
  obtain ⟨vv62, _, ⟨T62, L62, k62, n62⟩, -, X62, ⟨Lc62, hQ62, l62, y62, z62⟩, st62⟩ := Jvm.LawKit.callS X61 hx (y := (⟨"java/lang/StringUTF16", "compress", "([CII)[B"⟩ : MethodName)) hown (mvT hZ (hw _ (List.mem_of_getElem? (i := 22) rfl))) (mvT hZ (hw _ (List.mem_of_getElem? (i := 23) rfl))) (mvT hZ (hw _ (List.mem_of_getElem? (i := 24) rfl))) (mvT hZ (hw _ (List.mem_of_getElem? (i := 25) rfl))) (by decide) (backOf (W := 0) (rm5 l Z a0 hw [] r1 kc cs h0 n0 Z0 O0 Sd Sh Sl Vs Hw hl hB) hZ (hw _ (List.mem_of_getElem? (i := 25) rfl)) (hw _ (List.mem_of_getElem? (i := 24) rfl)) (by decide) (by decide)) (g := (mkF m 36 #[.val (.ref r0), .val (.ref r1), .val (.int (0 : Int32)), .val (.int (Int32.ofNat cs.length)), .val .null, .unset] [(.int (Int32.ofNat cs.length)), (.int (0 : Int32)), (.ref r1)])) rfl (by rw [hml]; rfl) (argsL := [(.ref r1), (.int (0 : Int32)), (.int (Int32.ofNat cs.length))]) (rest := []) (lenOf pd___CII__B_542 rfl) rfl (by show 2 * 0 + _ ≤ _; exact Nat.le_of_eq rfl) (hb hby d3_36) (fun _ _ => ⟨rfl, e61, (by decide : 0 + 2 ≤ _), (by decide : 0 + 12 ≤ _)⟩)
  dsimp only [Pt.U, Pt.locs, Pt.cells, Pt.slots] at X62 l62 y62 z62 st62 hQ62
  subst l62 y62 z62
  obtain ⟨a62, kb62, rfl, N62q, E62, g_a62, sz_a62, V62⟩ := hQ62
  have N62 := Fr.app N0 N62q
  refine own_by st62 ?_
  show own_Comes p e below s _ _ _ (T62.setTop (mkF m 39 #[.val (.ref r0), .val (.ref r1), .val (.int (0 : Int32)), .val (.int (Int32.ofNat cs.length)), .val .null, .unset] [(.ref a62)]))
  have nT : r0 ≠ a62 := Nat.ne_of_lt (Nat.lt_of_lt_of_le Et.lt sz_a62)
  refine own_by (fun _ kS => XS.astore X62.here hx rfl (hb hby d3_39) rfl rfl (l' := #[.val (.ref r0), .val (.ref r1), .val (.int (0 : Int32)), .val (.int (Int32.ofNat cs.length)), .val .null, .val (.ref a62)]) rfl kS) ?_
  show own_Comes p e below s _ _ _ (T62.setTop (mkF m 41 #[.val (.ref r0), .val (.ref r1), .val (.int (0 : Int32)), .val (.int (Int32.ofNat cs.length)), .val .null, .val (.ref a62)] []))
  refine own_by (fun _ kS => XS.aloadN X62.here hx rfl (hb hby d3_41) rfl rfl kS) ?_
  show own_Comes p e below s _ _ _ (T62.setTop (mkF m 42 #[.val (.ref r0), .val (.ref r1), .val (.int (0 : Int32)), .val (.int (Int32.ofNat cs.length)), .val .null, .val (.ref a62)] [(.ref r0)]))
  refine own_by (fun _ kS => XS.aload X62.here hx rfl (hb hby d3_42) rfl rfl kS) ?_
  show own_Comes p e below s _ _ _ (T62.setTop (mkF m 44 #[.val (.ref r0), .val (.ref r1), .val (.int (0 : Int32)), .val (.int (Int32.ofNat cs.length)), .val .null, .val (.ref a62)] [(.ref a62), (.ref r0)]))
  refine own_by (fun _ kS => XS.iloadN X62.here hx rfl (hb hby d3_44) rfl kS) ?_
  show own_Comes p e below s _ _ _ (T62.setTop (mkF m 45 #[.val (.ref r0), .val (.ref r1), .val (.int (0 : Int32)), .val (.int (Int32.ofNat cs.length)), .val .null, .val (.ref a62)] [(.int (Int32.ofNat cs.length)), (.ref a62), (.ref r0)]))
  obtain ⟨vv63, _, ⟨T63, L63, k63, n63⟩, -, X63, ⟨Lc63, hQ63, l63, y63, z63⟩, st63⟩ := Jvm.LawKit.callS X62 hx (y := (⟨"java/lang/StringUTF16", "coderFromArrayLen", "([BI)B"⟩ : MethodName)) hown (mvT hZ (hw _ (List.mem_of_getElem? (i := 30) rfl))) (mvT hZ (hw _ (List.mem_of_getElem? (i := 31) rfl))) (mvT hZ (hw _ (List.mem_of_getElem? (i := 24) rfl))) (mvT hZ (hw _ (List.mem_of_getElem? (i := 32) rfl))) (by decide) (backOf (W := 1) (rm7 l Z a0 hw [] a62 kb62 cs T62.heap n0 (Nat.le_trans Z0 E62.1) V62 h0l hl) hZ (hw _ (List.mem_of_getElem? (i := 32) rfl)) (hw _ (List.mem_of_getElem? (i := 24) rfl)) (by decide) (by decide)) (g := (mkF m 45 #[.val (.ref r0), .val (.ref r1), .val (.int (0 : Int32)), .val (.int (Int32.ofNat cs.length)), .val .null, .val (.ref a62)] [(.int (Int32.ofNat cs.length)), (.ref a62), (.ref r0)])) rfl (by rw [hml]; rfl) (argsL := [(.ref a62), (.int (Int32.ofNat cs.length))]) (rest := [(.ref r0)]) (lenOf pd___BI_B_377 rfl) rfl (by show 2 * 0 + _ ≤ _; exact Nat.le_of_eq rfl) (hb hby d3_45) (fun _ _ => ⟨rfl, rfl, (by decide : 2 + 0 ≤ _), (by decide : 12 + 0 ≤ _)⟩)
  dsimp only [Pt.U, Pt.locs, Pt.cells, Pt.slots] at X63 l63 y63 z63 st63 hQ63
  subst l63 y63 z63
  obtain ⟨rfl, N63q, e63q⟩ := hQ63
  have N63 := Fr.app N62 N63q
  refine own_by st63 ?_
  have e63 : T63.heap = T62.heap := e63q
  show own_Comes p e below s _ _ _ (T63.setTop (mkF m 48 #[.val (.ref r0), .val (.ref r1), .val (.int (0 : Int32)), .val (.int (Int32.ofNat cs.length)), .val .null, .val (.ref a62)] [(.int (1 : Int32)), (.ref r0)]))
  obtain ⟨T64, h64, X64, e64, W64, st64⟩ := putFN X63 hx hZ hown (hw _ (List.mem_of_getElem? (i := 33) rfl)) Via.refl e63 (Fc.ext E62) (Et.ext E62) (Or.inr ⟨(hw _ (List.mem_of_getElem? (i := 34) rfl)), rfl, hnm⟩) (hw _ (List.mem_of_getElem? (i := 9) rfl)) (ty := .byte) (v' := (.int (1 : Int32))) (by decide) rfl (by first | rfl | decide | exact fits_nar_byte _) (g := (mkF m 48 #[.val (.ref r0), .val (.ref r1), .val (.int (0 : Int32)), .val (.int (Int32.ofNat cs.length)), .val .null, .val (.ref a62)] [(.int (1 : Int32)), (.ref r0)])) rfl rfl (hb hby d3_48)
  refine own_by st64 ?_
  have Fw64 := (Fc.ext E62).same W64
  have N64 := Fr.snoc X64 N63 g_r0
  show own_Comes p e below s _ _ _ (T64.setTop (mkF m 51 #[.val (.ref r0), .val (.ref r1), .val (.int (0 : Int32)), .val (.int (Int32.ofNat cs.length)), .val .null, .val (.ref a62)] []))
  refine own_by (fun _ kS => XS.aloadN X64.here hx rfl (hb hby d3_51) rfl rfl kS) ?_
  show own_Comes p e below s _ _ _ (T64.setTop (mkF m 52 #[.val (.ref r0), .val (.ref r1), .val (.int (0 : Int32)), .val (.int (Int32.ofNat cs.length)), .val .null, .val (.ref a62)] [(.ref r0)]))
  refine own_by (fun _ kS => XS.aload X64.here hx rfl (hb hby d3_52) rfl rfl kS) ?_
  show own_Comes p e below s _ _ _ (T64.setTop (mkF m 54 #[.val (.ref r0), .val (.ref r1), .val (.int (0 : Int32)), .val (.int (Int32.ofNat cs.length)), .val .null, .val (.ref a62)] [(.ref a62), (.ref r0)]))
  have c65 := ((Fv.ext E62).other W64 (Or.inr (slot_ne (Or.inr (hw _ (List.mem_of_getElem? (i := 36) rfl))) (Or.inr (hw _ (List.mem_of_getElem? (i := 34) rfl))) (by decide) (t := (.array .byte)) (t' := .byte) (by decide) (by decide))))
  obtain ⟨T66, h66, X66, e66, W66, st66⟩ := putF X64 hx hZ hown (host := "") (Or.inl (hw _ (List.mem_of_getElem? (i := 35) rfl))) Via.refl e64 c65 ((Et.ext E62).wr W64) (Or.inr ⟨(hw _ (List.mem_of_getElem? (i := 36) rfl)), rfl, hnm⟩) (hw _ (List.mem_of_getElem? (i := 9) rfl)) (ty := (.array .byte)) (by decide) rfl rfl (g := (mkF m 54 #[.val (.ref r0), .val (.ref r1), .val (.int (0 : Int32)), .val (.int (Int32.ofNat cs.length)), .val .null, .val (.ref a62)] [(.ref a62), (.ref r0)])) rfl rfl (hb hby d3_54)
  refine own_by st66 ?_
  have Fw66 := c65.same W66
  have N66 := Fr.snoc X66 N64 g_r0
  show own_Comes p e below s _ _ _ (T66.setTop (mkF m 57 #[.val (.ref r0), .val (.ref r1), .val (.int (0 : Int32)), .val (.int (Int32.ofNat cs.length)), .val .null, .val (.ref a62)] []))
  have c67 := (Fw64.other W66 (Or.inr (slot_ne (Or.inr (hw _ (List.mem_of_getElem? (i := 34) rfl))) (Or.inr (hw _ (List.mem_of_getElem? (i := 36) rfl))) (by decide) (t := .byte) (t' := (.array .byte)) (by decide) (by decide))))
  have c68 := ((V62.other W64 (Ne.symm nT)).other W66 (Ne.symm nT))
  refine own_ret X66 (v := none) (fun _ => rfl) Bd.notSynchronized (by decide) (by decide) ?_ (fun fs hr => X66.returnOut hx Bd.returns (hb hby d3_57) hr)
  rw [e66]; exact ⟨rfl, N66, ((((Keep.refl _ _).ext E62).wr W64 (Or.inl (List.mem_of_getElem? (i := 0) rfl))).wr W66 (Or.inl (List.mem_of_getElem? (i := 0) rfl))), (((Et.ext E62).wr W64).wr W66), _, _, _, _, _, Fw66, c67, c68, Or.inr ⟨rfl, rfl, rfl, Hw⟩, hB, by omega⟩
def Q2w (Z : State) (r0 : Addr) (cs : List Int32) (h0 : Heap) (n0 : Nat) (v : Option Value) (h : Heap) (L : List Loc) : Prop := v = none ∧ Fr n0 L ∧ Keep h0 h [r0] ∧ own_Txt Z h r0 cs
theorem ef_rm2w (m : MethodId) (x0 : Addr) (x1 : Addr) : entryFrame m #[(.ref x0), (.ref x1)] 2 = mkF m 0 #[.val (.ref x0), .val (.ref x1)] [] := by first | (simp [entryFrame, mkF, argsToLocals, Value.category]; done) | rfl
theorem d2_0 : decode jdk_42_method_3_code 0 = .ok (.aload_n 0, 1) := by decide +kernel
theorem d2_1 : decode jdk_42_method_3_code 1 = .ok (.aload_n 1, 1) := by decide +kernel
theorem d2_2 : decode jdk_42_method_3_code 2 = .ok (.iconst 0, 1) := by decide +kernel
theorem d2_3 : decode jdk_42_method_3_code 3 = .ok (.aload_n 1, 1) := by decide +kernel
theorem d2_4 : decode jdk_42_method_3_code 4 = .ok (.arraylength, 1) := by decide +kernel
theorem d2_5 : decode jdk_42_method_3_code 5 = .ok (.aconst_null, 1) := by decide +kernel
theorem pd___CIILjava_lang_Void__V_941 : parseMethodDescriptor "([CIILjava/lang/Void;)V" = some ⟨[(.array .char), .int, .int, (.object "java/lang/Void")], none⟩ := by decide +kernel
theorem d2_6 : decode jdk_42_method_3_code 6 = .ok (.invokespecial 27, 3) := by decide +kernel
theorem d2_9 : decode jdk_42_method_3_code 9 = .ok (.return_, 1) := by decide +kernel
set_option maxRecDepth 65536 in
set_option maxHeartbeats 40000000 in
theorem rm2w (l : Launch) (Z : State) (a0 : Array Value) (hw : ∀ d ∈ tables_1, d.before a0 Z = true) (ws : List Jvm.Cond) (r0 r1 : Addr) (kc : ClassId) (cs : List Int32) (zc : Int32) (h0 : Heap) (n0 : Nat) (Z0 : n0 ≤ h0.size) (O0 : Old Z n0 h0) (Sz : Sta Z Z.heap "java/lang/String" "COMPACT_STRINGS" "Z" (.int zc)) (hzc : ¬ zc = 0) (Sd : Sta Z Z.heap "java/lang/StringUTF16" "$assertionsDisabled" "Z" (.int (1 : Int32))) (Sh : Sta Z Z.heap "java/lang/StringUTF16" "HI_BYTE_SHIFT" "I" (.int (0 : Int32))) (Sl : Sta Z Z.heap "java/lang/StringUTF16" "LO_BYTE_SHIFT" "I" (.int (8 : Int32))) (Et : Exa Z h0 r0 "java/lang/String") (Fv : Fld Z h0 r0 "java/lang/String" "value" "[B" .null) (Fc : Fld Z h0 r0 "java/lang/String" "coder" "B" (.int (0 : Int32))) (g_r0 : n0 ≤ r0) (nA : r0 ≠ r1) (Vs : Arv Z h0 r1 kc .char (Int32.ofNat cs.length) (cs.map Value.int) (.int 0)) (Hw : ∃ c ∈ cs, (255 : Int32) < c) (h0l : 0 < cs.length) (hl : cs.length ≤ 4) (hB : ∀ c ∈ cs, ¬ c < 0 ∧ ¬ (65535 : Int32) < c) :
    MetFree l (⟨"java/lang/String", "<init>", "([C)V"⟩ : MethodName) (head1 (Jvm.Cond.code (⟨"java/lang/String", "<init>", "([C)V"⟩ : MethodName) jdk_42_method_3_code 2 none :: ws) ({ frames := 5, cells := 2, slots := 12, locals := 74 } : Room)) (fun aX UX => aX = #[(.ref r0), (.ref r1)] ∧ Z.Warmed39 UX.vm ∧ UX.heap = h0) (fun _ _ _ _ _ => True) (fun _ UX oX UX' => ∃ vX LX, oX = .returned vX ∧ Q2w Z r0 cs h0 n0 vX UX'.heap LX ∧ FrameEnd UX oX UX' LX ({ frames := 5, cells := 2, slots := 12, locals := 74 } : Room).cells ({ frames := 5, cells := 2, slots := 12, locals := 74 } : Room).slots) := by
  refine MetFree.of_bodySF (plainFor_of_name pn_java_lang_String) hisR ?_
  intro p e s m args below meth c s₁ Bd hml0 hP hK
  obtain ⟨rfl, hZ, hh⟩ := hP
  have hx := Bd.exec
  have hby := Bd.bytes
  have hml : c.maxLocals = 2 := hml0
  have hown : s.vm.findClass "java/lang/String" = some m.cls := findClass_of_methodNamed Bd.named
  have hnm := (name_of_methodNamed Bd.named Bd.method).1
  have X0 : Stand p l e ({ frames := 5, cells := 2, slots := 12, locals := 74 } : Room) s m #[(.ref r0), (.ref r1)] below meth c s₁ [] 0 0 := Stand.of_body Bd
  have e0 : s₁.heap = h0 := by rw [← hh, Bd.state]; rfl
  have N0 := Fr.nil n0
  show own_Comes p e below s ({ frames := 5, cells := 2, slots := 12, locals := 74 } : Room).cells ({ frames := 5, cells := 2, slots := 12, locals := 74 } : Room).slots (Q2w Z r0 cs h0 n0) _
  rw [show entryFrame m #[(.ref r0), (.ref r1)] 2 = mkF m 0 #[.val (.ref r0), .val (.ref r1)] [] from ef_rm2w m r0 r1]
  show own_Comes p e below s _ _ _ (s₁.setTop (mkF m 0 #[.val (.ref r0), .val (.ref r1)] []))
  refine own_by (fun _ kS => XS.aloadN X0.here hx rfl (hb hby d2_0) rfl rfl kS) ?_
  show own_Comes p e below s _ _ _ (s₁.setTop (mkF m 1 #[.val (.ref r0), .val (.ref r1)] [(.ref r0)]))
  refine own_by (fun _ kS => XS.aloadN X0.here hx rfl (hb hby d2_1) rfl rfl kS) ?_
  show own_Comes p e below s _ _ _ (s₁.setTop (mkF m 2 #[.val (.ref r0), .val (.ref r1)] [(.ref r1), (.ref r0)]))
  refine own_by (fun _ kS => XS.iconst X0.here hx rfl (hb hby d2_2) kS) ?_
  show own_Comes p e below s _ _ _ (s₁.setTop (mkF m 3 #[.val (.ref r0), .val (.ref r1)] [(.int (0 : Int32)), (.ref r1), (.ref r0)]))
  refine own_by (fun _ kS => XS.aloadN X0.here hx rfl (hb hby d2_3) rfl rfl kS) ?_
  show own_Comes p e below s _ _ _ (s₁.setTop (mkF m 4 #[.val (.ref r0), .val (.ref r1)] [(.ref r1), (.int (0 : Int32)), (.ref r1), (.ref r0)]))
  have Vo69 := Vs
  obtain ⟨cl69, Ar69, qA69, SA69, NA69, HA69, GA69⟩ := Vo69
  refine own_by (fun _ kS => X0.arraylength hx (by rw [e0]; exact Ar69.1) (State.isArrayOf_alike hZ.alike Ar69.2.1) (g := (mkF m 4 #[.val (.ref r0), .val (.ref r1)] [(.ref r1), (.int (0 : Int32)), (.ref r1), (.ref r0)])) rfl rfl (hb hby d2_4) _ kS) ?_
  rw [len_of SA69 NA69]
  show own_Comes p e below s _ _ _ (s₁.setTop (mkF m 5 #[.val (.ref r0), .val (.ref r1)] [(.int (Int32.ofNat cs.length)), (.int (0 : Int32)), (.ref r1), (.ref r0)]))
  refine own_by (fun _ kS => XS.aconstNull X0.here hx rfl (hb hby d2_5) kS) ?_
  show own_Comes p e below s _ _ _ (s₁.setTop (mkF m 6 #[.val (.ref r0), .val (.ref r1)] [.null, (.int (Int32.ofNat cs.length)), (.int (0 : Int32)), (.ref r1), (.ref r0)]))
  obtain ⟨vv70, _, ⟨T70, L70, k70, n70⟩, -, X70, ⟨Lc70, hQ70, l70, y70, z70⟩, st70⟩ := X0.specialBack hx (y := (⟨"java/lang/String", "<init>", "([CIILjava/lang/Void;)V"⟩ : MethodName)) rfl hown (mvT hZ (hw _ (List.mem_of_getElem? (i := 14) rfl))) (mvT hZ (hw _ (List.mem_of_getElem? (i := 15) rfl))) (mvT hZ (hw _ (List.mem_of_getElem? (i := 17) rfl))) (by decide) (backOf (W := 0) (rm3w l Z a0 hw [] r0 r1 kc cs zc h0 n0 Z0 O0 Sz hzc Sd Sh Sl Et Fv Fc g_r0 nA Vs Hw h0l hl hB) hZ (hw _ (List.mem_of_getElem? (i := 17) rfl)) (hw _ (List.mem_of_getElem? (i := 10) rfl)) (by decide) (by decide)) (g := (mkF m 6 #[.val (.ref r0), .val (.ref r1)] [.null, (.int (Int32.ofNat cs.length)), (.int (0 : Int32)), (.ref r1), (.ref r0)])) rfl (by rw [hml]; rfl) (Steps.refl _) (a := r0) (argsL := [(.ref r1), (.int (0 : Int32)), (.int (Int32.ofNat cs.length)), .null]) (rest := []) (lenOf pd___CIILjava_lang_Void__V_941 rfl) rfl (by show 2 * 0 + _ ≤ _; exact Nat.le_of_eq rfl) (hb hby d2_6) (fun _ _ => ⟨rfl, e0, (by decide : 0 + 2 ≤ _), (by decide : 0 + 12 ≤ _)⟩)
  dsimp only [Pt.U, Pt.locs, Pt.cells, Pt.slots] at X70 l70 y70 z70 st70 hQ70
  subst l70 y70 z70
  obtain ⟨rfl, N70q, q70⟩ := hQ70
  have N70 := Fr.app N0 N70q
  refine own_tr st70 ?_
  show own_Comes p e below s _ _ _ (T70.setTop (mkF m 9 #[.val (.ref r0), .val (.ref r1)] []))
  refine own_ret X70 (v := none) (fun _ => rfl) Bd.notSynchronized (by decide) (by decide) ?_ (fun fs hr => X70.returnOut hx Bd.returns (hb hby d2_9) hr)
  exact ⟨rfl, N70, q70⟩
def own_hi (c : Int32) : Prop := ¬ c < (55296 : Int32) ∧ c < (56320 : Int32)
def own_lo (c : Int32) : Prop := ¬ c < (56320 : Int32) ∧ c < (57344 : Int32)
theorem own_56 {c : Int32} : ¬ (56319 : Int32) < c ↔ c < (56320 : Int32) := by
  have e : (56319 : Int32).toInt = 56319 := by decide
  have e' : (56320 : Int32).toInt = 56320 := by decide
  rw [Int32.lt_iff_toInt_lt, Int32.lt_iff_toInt_lt]; omega
theorem own_57 {c : Int32} : ¬ (57343 : Int32) < c ↔ c < (57344 : Int32) := by
  have e : (57343 : Int32).toInt = 57343 := by decide
  have e' : (57344 : Int32).toInt = 57344 := by decide
  rw [Int32.lt_iff_toInt_lt, Int32.lt_iff_toInt_lt]; omega
theorem own_255 {c : Int32} (h : ¬ (255 : Int32) < c) : c < (55296 : Int32) := by
  have e : (255 : Int32).toInt = 255 := by decide
  have e' : (55296 : Int32).toInt = 55296 := by decide
  rw [Int32.lt_iff_toInt_lt] at h ⊢; omega
theorem own_hilo {c : Int32} (h : own_hi c) : ¬ own_lo c := fun q => q.1 h.2
def own_okAt (cs : List Int32) (i : Nat) : Prop := ¬ cs.getD i 0 = 0 ∧ (own_hi (cs.getD i 0) → i + 1 < cs.length ∧ own_lo (cs.getD (i + 1) 0)) ∧ (own_lo (cs.getD i 0) → 0 < i ∧ own_hi (cs.getD (i - 1) 0))
theorem own_pred {k : Nat} (h0 : 0 < k) (h : k < 2 ^ 31) : Int32.ofNat k - (1 : Int32) = Int32.ofNat (k - 1) := by
  have e1 : (1 : Int32).toInt = 1 := by decide
  have q := c_isub (Int32.ofNat k) (1 : Int32)
  have r := rng32 (Int32.ofNat k - (1 : Int32))
  rw [own_ti h, e1] at q
  apply Int32.toInt_inj.mp
  rw [own_ti (by omega)]; omega
theorem own_pos {k : Nat} (h : k < 2 ^ 31) : (0 : Int32) < Int32.ofNat k ↔ 0 < k := by
  have e0 : (0 : Int32).toInt = 0 := by decide
  rw [Int32.lt_iff_toInt_lt, own_ti h, e0]; omega
theorem own_nch (x : Int32) : ¬ nar .char x < 0 ∧ ¬ (65535 : Int32) < nar .char x := by
  have q := c_i2c x
  have e0 : (0 : Int32).toInt = 0 := by decide
  have e : (65535 : Int32).toInt = 65535 := by decide
  show ¬ x.toUInt32.toUInt16.toUInt32.toInt32 < 0 ∧ ¬ (65535 : Int32) < x.toUInt32.toUInt16.toUInt32.toInt32
  rw [Int32.lt_iff_toInt_lt, Int32.lt_iff_toInt_lt]; omega
theorem own_cpz {a b s t u : Int} (h1 : 55296 ≤ a) (h2 : a < 56320) (k1 : 56320 ≤ b) (k2 : b < 57344) (q1 : (s - a * 1024) % 4294967296 = 0) (r1 : -2147483648 ≤ s ∧ s < 2147483648) (q2 : (t - (s + b)) % 4294967296 = 0) (r2 : -2147483648 ≤ t ∧ t < 2147483648) (q3 : (u - (t + -56613888)) % 4294967296 = 0) (r3 : -2147483648 ≤ u ∧ u < 2147483648) : 65535 < u := by
  have s1 : s = a * 1024 := by omega
  have s2 : t = s + b := by omega
  have s3 : u = t + -56613888 := by omega
  omega
theorem own_cp {c d : Int32} (h : own_hi c) (k : own_lo d) : (65535 : Int32) < (((c <<< ((10 : Int32) &&& 31)) + d) + (-56613888 : Int32)) := by
  obtain ⟨h1, h2⟩ := h
  obtain ⟨k1, k2⟩ := k
  have e1 : (55296 : Int32).toInt = 55296 := by decide
  have e2 : (56320 : Int32).toInt = 56320 := by decide
  have e3 : (57344 : Int32).toInt = 57344 := by decide
  have e4 : (65535 : Int32).toInt = 65535 := by decide
  have e5 : (-56613888 : Int32).toInt = -56613888 := by decide
  rw [Int32.lt_iff_toInt_lt] at h1 h2 k1 k2 ⊢
  rw [e4]
  rw [e1] at h1
  rw [e2] at h2 k1
  rw [e3] at k2
  have q1 := c_ishl c (10 : Int32) 10 (by decide)
  have q2 := c_iadd (c <<< ((10 : Int32) &&& 31)) d
  have q3 := c_iadd ((c <<< ((10 : Int32) &&& 31)) + d) (-56613888 : Int32)
  rw [e5] at q3
  exact own_cpz (Int.not_lt.mp h1) h2 (Int.not_lt.mp k1) k2 q1 (rng32 _) q2 (rng32 _) q3 (rng32 _)
theorem own_cpn {x : Int32} (h : (65535 : Int32) < x) : ¬ x = (0 : Int32) ∧ ¬ x < (55296 : Int32) ∧ (57343 : Int32) < x := by
  have e0 : (0 : Int32).toInt = 0 := by decide
  have e1 : (55296 : Int32).toInt = 55296 := by decide
  have e2 : (57343 : Int32).toInt = 57343 := by decide
  have e4 : (65535 : Int32).toInt = 65535 := by decide
  rw [Int32.lt_iff_toInt_lt] at h
  refine ⟨fun q => ?_, ?_, ?_⟩
  · rw [q] at h; omega
  · rw [Int32.lt_iff_toInt_lt]; omega
  · rw [Int32.lt_iff_toInt_lt]; omega
theorem own_all {cs : List Int32} (hl : cs.length ≤ 4) (h0 : 0 < cs.length → own_okAt cs 0) (h1 : 1 < cs.length → own_okAt cs 1) (h2 : 2 < cs.length → own_okAt cs 2) (h3 : 3 < cs.length → own_okAt cs 3) : ∀ i, i < cs.length → own_okAt cs i := fun i hi => by
  rcases (by omega : i = 0 ∨ i = 1 ∨ i = 2 ∨ i = 3) with rfl | rfl | rfl | rfl
  · exact h0 hi
  · exact h1 hi
  · exact h2 hi
  · exact h3 hi

def Q14 (Z : State) (p0 : Int32) (h0 : Heap) (n0 : Nat) (v : Option Value) (h : Heap) (L : List Loc) : Prop := ∃ z : Int32, v = some (.int z) ∧ Fr n0 L ∧ h = h0 ∧ ((z = 1 ∧ own_hi p0) ∨ (z = 0 ∧ ¬ own_hi p0))
theorem ef_rm14 (m : MethodId) (x0 : Int32) : entryFrame m #[(.int x0)] 1 = mkF m 0 #[.val (.int x0)] [] := by first | (simp [entryFrame, mkF, argsToLocals, Value.category]; done) | rfl
theorem pn_com_example_holdfast_holdfast_spi_LockArgumentsRequireNamePinLaw : plainName "com/example/holdfast/holdfast/spi/LockArgumentsRequireNamePinLaw" = true := by first | (simp [plainName, overriddenIn]; done) | decide +kernel
theorem d14_0 : decode method_4_code 0 = .ok (.iload_n 0, 1) := by decide +kernel
theorem d14_1 : decode method_4_code 1 = .ok (.ldc 28, 2) := by decide +kernel
theorem d14_3 : decode method_4_code 3 = .ok (.if_icmp .lt 13, 3) := by decide +kernel
theorem d14_16 : decode method_4_code 16 = .ok (.iconst 0, 1) := by decide +kernel
theorem d14_17 : decode method_4_code 17 = .ok (.ireturn, 1) := by decide +kernel
theorem d14_6 : decode method_4_code 6 = .ok (.iload_n 0, 1) := by decide +kernel
theorem d14_7 : decode method_4_code 7 = .ok (.ldc 31, 2) := by decide +kernel
theorem d14_9 : decode method_4_code 9 = .ok (.if_icmp .gt 7, 3) := by decide +kernel
theorem d14_12 : decode method_4_code 12 = .ok (.iconst 1, 1) := by decide +kernel
theorem d14_13 : decode method_4_code 13 = .ok (.goto 4, 3) := by decide +kernel
set_option maxRecDepth 65536 in
set_option maxHeartbeats 40000000 in
theorem rm14 (l : Launch) (Z : State) (a0 : Array Value) (hw : ∀ d ∈ tables_1, d.before a0 Z = true) (ws : List Jvm.Cond) (p0 : Int32) (h0 : Heap) (n0 : Nat) (Z0 : n0 ≤ h0.size) :
    MetFree l (⟨"com/example/holdfast/holdfast/spi/LockArgumentsRequireNamePinLaw", "isHigh", "(C)Z"⟩ : MethodName) (head1 (Jvm.Cond.code (⟨"com/example/holdfast/holdfast/spi/LockArgumentsRequireNamePinLaw", "isHigh", "(C)Z"⟩ : MethodName) method_4_code 1 (some .boolean) :: ws) ({ frames := 0, cells := 0, slots := 0, locals := 0 } : Room)) (fun aX UX => aX = #[(.int p0)] ∧ Z.Warmed39 UX.vm ∧ UX.heap = h0) (fun _ _ _ _ _ => True) (fun _ UX oX UX' => ∃ vX LX, oX = .returned vX ∧ Q14 Z p0 h0 n0 vX UX'.heap LX ∧ FrameEnd UX oX UX' LX ({ frames := 0, cells := 0, slots := 0, locals := 0 } : Room).cells ({ frames := 0, cells := 0, slots := 0, locals := 0 } : Room).slots) := by
  refine MetFree.of_bodySF (plainFor_of_name pn_com_example_holdfast_holdfast_spi_LockArgumentsRequireNamePinLaw) hisR ?_
  intro p e s m args below meth c s₁ Bd hml0 hP hK
  obtain ⟨rfl, hZ, hh⟩ := hP
  have hx := Bd.exec
  have hby := Bd.bytes
  have hml : c.maxLocals = 1 := hml0
  have hown : s.vm.findClass "com/example/holdfast/holdfast/spi/LockArgumentsRequireNamePinLaw" = some m.cls := findClass_of_methodNamed Bd.named
  have hnm := (name_of_methodNamed Bd.named Bd.method).1
  have X0 : Stand p l e ({ frames := 0, cells := 0, slots := 0, locals := 0 } : Room) s m #[(.int p0)] below meth c s₁ [] 0 0 := Stand.of_body Bd
  have e0 : s₁.heap = h0 := by rw [← hh, Bd.state]; rfl
  have N0 := Fr.nil n0
  show own_Comes p e below s ({ frames := 0, cells := 0, slots := 0, locals := 0 } : Room).cells ({ frames := 0, cells := 0, slots := 0, locals := 0 } : Room).slots (Q14 Z p0 h0 n0) _
  rw [show entryFrame m #[(.int p0)] 1 = mkF m 0 #[.val (.int p0)] [] from ef_rm14 m p0]
  show own_Comes p e below s _ _ _ (s₁.setTop (mkF m 0 #[.val (.int p0)] []))
  refine own_by (fun _ kS => XS.iloadN X0.here hx rfl (hb hby d14_0) rfl kS) ?_
  show own_Comes p e below s _ _ _ (s₁.setTop (mkF m 1 #[.val (.int p0)] [(.int p0)]))
  refine own_by (fun _ kS => X0.ldcInt hx hown (mvT hZ (hw _ (List.mem_of_getElem? (i := 6) rfl))) (g := (mkF m 1 #[.val (.int p0)] [(.int p0)])) rfl (hb hby d14_1) _ kS) ?_
  show own_Comes p e below s _ _ _ (s₁.setTop (mkF m 3 #[.val (.int p0)] [(.int (55296 : Int32)), (.int p0)]))
  by_cases h1 : p0 < (55296 : Int32)
  · refine own_by (fun _ kS => XS.icmpYes X0.here hx rfl (pc0 := 3) (pc' := 16) rfl (hb hby d14_3) rfl (tlt h1).1 (by decide) (by decide) kS) ?_
    show own_Comes p e below s _ _ _ (s₁.setTop (mkF m 16 #[.val (.int p0)] []))
    refine own_by (fun _ kS => XS.iconst X0.here hx rfl (hb hby d14_16) kS) ?_
    show own_Comes p e below s _ _ _ (s₁.setTop (mkF m 17 #[.val (.int p0)] [(.int (0 : Int32))]))
    refine own_ret X0 (v := some (.int (0 : Int32))) (fun h => by rw [Bd.returns] at h; cases h) Bd.notSynchronized (by decide) (by decide) ?_ (fun fs hr => retN X0 hx (t := .boolean) Bd.returns (by simp) (hb hby d14_17) hr)
    rw [e0]; exact ⟨_, rfl, N0, rfl, Or.inr ⟨rfl, fun q => q.1 h1⟩⟩
  · refine own_by (fun _ kS => XS.icmpNo X0.here hx rfl (hb hby d14_3) rfl (flt h1).1 kS) ?_
    show own_Comes p e below s _ _ _ (s₁.setTop (mkF m 6 #[.val (.int p0)] []))
    refine own_by (fun _ kS => XS.iloadN X0.here hx rfl (hb hby d14_6) rfl kS) ?_
    show own_Comes p e below s _ _ _ (s₁.setTop (mkF m 7 #[.val (.int p0)] [(.int p0)]))
    refine own_by (fun _ kS => X0.ldcInt hx hown (mvT hZ (hw _ (List.mem_of_getElem? (i := 62) rfl))) (g := (mkF m 7 #[.val (.int p0)] [(.int p0)])) rfl (hb hby d14_7) _ kS) ?_
    show own_Comes p e below s _ _ _ (s₁.setTop (mkF m 9 #[.val (.int p0)] [(.int (56319 : Int32)), (.int p0)]))
    by_cases h2 : (56319 : Int32) < p0
    · refine own_by (fun _ kS => XS.icmpYes X0.here hx rfl (pc0 := 9) (pc' := 16) rfl (hb hby d14_9) rfl (tlt h2).2.2.1 (by decide) (by decide) kS) ?_
      show own_Comes p e below s _ _ _ (s₁.setTop (mkF m 16 #[.val (.int p0)] []))
      refine own_by (fun _ kS => XS.iconst X0.here hx rfl (hb hby d14_16) kS) ?_
      show own_Comes p e below s _ _ _ (s₁.setTop (mkF m 17 #[.val (.int p0)] [(.int (0 : Int32))]))
      refine own_ret X0 (v := some (.int (0 : Int32))) (fun h => by rw [Bd.returns] at h; cases h) Bd.notSynchronized (by decide) (by decide) ?_ (fun fs hr => retN X0 hx (t := .boolean) Bd.returns (by simp) (hb hby d14_17) hr)
      rw [e0]; exact ⟨_, rfl, N0, rfl, Or.inr ⟨rfl, fun q => own_56.mpr q.2 h2⟩⟩
    · refine own_by (fun _ kS => XS.icmpNo X0.here hx rfl (hb hby d14_9) rfl (flt h2).2.2.1 kS) ?_
      show own_Comes p e below s _ _ _ (s₁.setTop (mkF m 12 #[.val (.int p0)] []))
      refine own_by (fun _ kS => XS.iconst X0.here hx rfl (hb hby d14_12) kS) ?_
      show own_Comes p e below s _ _ _ (s₁.setTop (mkF m 13 #[.val (.int p0)] [(.int (1 : Int32))]))
      refine own_by (fun _ kS => XS.goto X0.here hx rfl (pc0 := 13) (pc' := 17) rfl (hb hby d14_13) (by decide) (by decide) kS) ?_
      show own_Comes p e below s _ _ _ (s₁.setTop (mkF m 17 #[.val (.int p0)] [(.int (1 : Int32))]))
      refine own_ret X0 (v := some (.int (1 : Int32))) (fun h => by rw [Bd.returns] at h; cases h) Bd.notSynchronized (by decide) (by decide) ?_ (fun fs hr => retN X0 hx (t := .boolean) Bd.returns (by simp) (hb hby d14_17) hr)
      rw [e0]; exact ⟨_, rfl, N0, rfl, Or.inl ⟨rfl, h1, own_56.mp h2⟩⟩
def Q15 (Z : State) (p0 : Int32) (h0 : Heap) (n0 : Nat) (v : Option Value) (h : Heap) (L : List Loc) : Prop := ∃ z : Int32, v = some (.int z) ∧ Fr n0 L ∧ h = h0 ∧ ((z = 1 ∧ own_lo p0) ∨ (z = 0 ∧ ¬ own_lo p0))
theorem ef_rm15 (m : MethodId) (x0 : Int32) : entryFrame m #[(.int x0)] 1 = mkF m 0 #[.val (.int x0)] [] := by first | (simp [entryFrame, mkF, argsToLocals, Value.category]; done) | rfl
theorem d15_0 : decode method_5_code 0 = .ok (.iload_n 0, 1) := by decide +kernel
theorem d15_1 : decode method_5_code 1 = .ok (.ldc 29, 2) := by decide +kernel
theorem d15_3 : decode method_5_code 3 = .ok (.if_icmp .lt 13, 3) := by decide +kernel
theorem d15_16 : decode method_5_code 16 = .ok (.iconst 0, 1) := by decide +kernel
theorem d15_17 : decode method_5_code 17 = .ok (.ireturn, 1) := by decide +kernel
theorem d15_6 : decode method_5_code 6 = .ok (.iload_n 0, 1) := by decide +kernel
theorem d15_7 : decode method_5_code 7 = .ok (.ldc 32, 2) := by decide +kernel
theorem d15_9 : decode method_5_code 9 = .ok (.if_icmp .gt 7, 3) := by decide +kernel
theorem d15_12 : decode method_5_code 12 = .ok (.iconst 1, 1) := by decide +kernel
theorem d15_13 : decode method_5_code 13 = .ok (.goto 4, 3) := by decide +kernel
set_option maxRecDepth 65536 in
set_option maxHeartbeats 40000000 in
theorem rm15 (l : Launch) (Z : State) (a0 : Array Value) (hw : ∀ d ∈ tables_1, d.before a0 Z = true) (ws : List Jvm.Cond) (p0 : Int32) (h0 : Heap) (n0 : Nat) (Z0 : n0 ≤ h0.size) :
    MetFree l (⟨"com/example/holdfast/holdfast/spi/LockArgumentsRequireNamePinLaw", "isLow", "(C)Z"⟩ : MethodName) (head1 (Jvm.Cond.code (⟨"com/example/holdfast/holdfast/spi/LockArgumentsRequireNamePinLaw", "isLow", "(C)Z"⟩ : MethodName) method_5_code 1 (some .boolean) :: ws) ({ frames := 0, cells := 0, slots := 0, locals := 0 } : Room)) (fun aX UX => aX = #[(.int p0)] ∧ Z.Warmed39 UX.vm ∧ UX.heap = h0) (fun _ _ _ _ _ => True) (fun _ UX oX UX' => ∃ vX LX, oX = .returned vX ∧ Q15 Z p0 h0 n0 vX UX'.heap LX ∧ FrameEnd UX oX UX' LX ({ frames := 0, cells := 0, slots := 0, locals := 0 } : Room).cells ({ frames := 0, cells := 0, slots := 0, locals := 0 } : Room).slots) := by
  refine MetFree.of_bodySF (plainFor_of_name pn_com_example_holdfast_holdfast_spi_LockArgumentsRequireNamePinLaw) hisR ?_
  intro p e s m args below meth c s₁ Bd hml0 hP hK
  obtain ⟨rfl, hZ, hh⟩ := hP
  have hx := Bd.exec
  have hby := Bd.bytes
  have hml : c.maxLocals = 1 := hml0
  have hown : s.vm.findClass "com/example/holdfast/holdfast/spi/LockArgumentsRequireNamePinLaw" = some m.cls := findClass_of_methodNamed Bd.named
  have hnm := (name_of_methodNamed Bd.named Bd.method).1
  have X0 : Stand p l e ({ frames := 0, cells := 0, slots := 0, locals := 0 } : Room) s m #[(.int p0)] below meth c s₁ [] 0 0 := Stand.of_body Bd
  have e0 : s₁.heap = h0 := by rw [← hh, Bd.state]; rfl
  have N0 := Fr.nil n0
  show own_Comes p e below s ({ frames := 0, cells := 0, slots := 0, locals := 0 } : Room).cells ({ frames := 0, cells := 0, slots := 0, locals := 0 } : Room).slots (Q15 Z p0 h0 n0) _
  rw [show entryFrame m #[(.int p0)] 1 = mkF m 0 #[.val (.int p0)] [] from ef_rm15 m p0]
  show own_Comes p e below s _ _ _ (s₁.setTop (mkF m 0 #[.val (.int p0)] []))
  refine own_by (fun _ kS => XS.iloadN X0.here hx rfl (hb hby d15_0) rfl kS) ?_
  show own_Comes p e below s _ _ _ (s₁.setTop (mkF m 1 #[.val (.int p0)] [(.int p0)]))
  refine own_by (fun _ kS => X0.ldcInt hx hown (mvT hZ (hw _ (List.mem_of_getElem? (i := 5) rfl))) (g := (mkF m 1 #[.val (.int p0)] [(.int p0)])) rfl (hb hby d15_1) _ kS) ?_
  show own_Comes p e below s _ _ _ (s₁.setTop (mkF m 3 #[.val (.int p0)] [(.int (56320 : Int32)), (.int p0)]))
  by_cases h1 : p0 < (56320 : Int32)
  · refine own_by (fun _ kS => XS.icmpYes X0.here hx rfl (pc0 := 3) (pc' := 16) rfl (hb hby d15_3) rfl (tlt h1).1 (by decide) (by decide) kS) ?_
    show own_Comes p e below s _ _ _ (s₁.setTop (mkF m 16 #[.val (.int p0)] []))
    refine own_by (fun _ kS => XS.iconst X0.here hx rfl (hb hby d15_16) kS) ?_
    show own_Comes p e below s _ _ _ (s₁.setTop (mkF m 17 #[.val (.int p0)] [(.int (0 : Int32))]))
    refine own_ret X0 (v := some (.int (0 : Int32))) (fun h => by rw [Bd.returns] at h; cases h) Bd.notSynchronized (by decide) (by decide) ?_ (fun fs hr => retN X0 hx (t := .boolean) Bd.returns (by simp) (hb hby d15_17) hr)
    rw [e0]; exact ⟨_, rfl, N0, rfl, Or.inr ⟨rfl, fun q => q.1 h1⟩⟩
  · refine own_by (fun _ kS => XS.icmpNo X0.here hx rfl (hb hby d15_3) rfl (flt h1).1 kS) ?_
    show own_Comes p e below s _ _ _ (s₁.setTop (mkF m 6 #[.val (.int p0)] []))
    refine own_by (fun _ kS => XS.iloadN X0.here hx rfl (hb hby d15_6) rfl kS) ?_
    show own_Comes p e below s _ _ _ (s₁.setTop (mkF m 7 #[.val (.int p0)] [(.int p0)]))
    refine own_by (fun _ kS => X0.ldcInt hx hown (mvT hZ (hw _ (List.mem_of_getElem? (i := 137) rfl))) (g := (mkF m 7 #[.val (.int p0)] [(.int p0)])) rfl (hb hby d15_7) _ kS) ?_
    show own_Comes p e below s _ _ _ (s₁.setTop (mkF m 9 #[.val (.int p0)] [(.int (57343 : Int32)), (.int p0)]))
    by_cases h2 : (57343 : Int32) < p0
    · refine own_by (fun _ kS => XS.icmpYes X0.here hx rfl (pc0 := 9) (pc' := 16) rfl (hb hby d15_9) rfl (tlt h2).2.2.1 (by decide) (by decide) kS) ?_
      show own_Comes p e below s _ _ _ (s₁.setTop (mkF m 16 #[.val (.int p0)] []))
      refine own_by (fun _ kS => XS.iconst X0.here hx rfl (hb hby d15_16) kS) ?_
      show own_Comes p e below s _ _ _ (s₁.setTop (mkF m 17 #[.val (.int p0)] [(.int (0 : Int32))]))
      refine own_ret X0 (v := some (.int (0 : Int32))) (fun h => by rw [Bd.returns] at h; cases h) Bd.notSynchronized (by decide) (by decide) ?_ (fun fs hr => retN X0 hx (t := .boolean) Bd.returns (by simp) (hb hby d15_17) hr)
      rw [e0]; exact ⟨_, rfl, N0, rfl, Or.inr ⟨rfl, fun q => own_57.mpr q.2 h2⟩⟩
    · refine own_by (fun _ kS => XS.icmpNo X0.here hx rfl (hb hby d15_9) rfl (flt h2).2.2.1 kS) ?_
      show own_Comes p e below s _ _ _ (s₁.setTop (mkF m 12 #[.val (.int p0)] []))
      refine own_by (fun _ kS => XS.iconst X0.here hx rfl (hb hby d15_12) kS) ?_
      show own_Comes p e below s _ _ _ (s₁.setTop (mkF m 13 #[.val (.int p0)] [(.int (1 : Int32))]))
      refine own_by (fun _ kS => XS.goto X0.here hx rfl (pc0 := 13) (pc' := 17) rfl (hb hby d15_13) (by decide) (by decide) kS) ?_
      show own_Comes p e below s _ _ _ (s₁.setTop (mkF m 17 #[.val (.int p0)] [(.int (1 : Int32))]))
      refine own_ret X0 (v := some (.int (1 : Int32))) (fun h => by rw [Bd.returns] at h; cases h) Bd.notSynchronized (by decide) (by decide) ?_ (fun fs hr => retN X0 hx (t := .boolean) Bd.returns (by simp) (hb hby d15_17) hr)
      rw [e0]; exact ⟨_, rfl, N0, rfl, Or.inl ⟨rfl, h1, own_57.mp h2⟩⟩
def Q28 (Z : State) (p0 : Int32) (h0 : Heap) (n0 : Nat) (v : Option Value) (h : Heap) (L : List Loc) : Prop := ∃ z : Int32, v = some (.int z) ∧ Fr n0 L ∧ h = h0 ∧ ((z = 1 ∧ own_hi p0) ∨ (z = 0 ∧ ¬ own_hi p0))
theorem ef_rm28 (m : MethodId) (x0 : Int32) : entryFrame m #[(.int x0)] 1 = mkF m 0 #[.val (.int x0)] [] := by first | (simp [entryFrame, mkF, argsToLocals, Value.category]; done) | rfl
theorem pn_java_lang_Character : plainName "java/lang/Character" = true := by first | (simp [plainName, overriddenIn]; done) | decide +kernel
theorem d28_0 : decode jdk_89_method_14_code 0 = .ok (.iload_n 0, 1) := by decide +kernel
theorem d28_1 : decode jdk_89_method_14_code 1 = .ok (.ldc 75, 2) := by decide +kernel
theorem d28_3 : decode jdk_89_method_14_code 3 = .ok (.if_icmp .lt 13, 3) := by decide +kernel
theorem d28_16 : decode jdk_89_method_14_code 16 = .ok (.iconst 0, 1) := by decide +kernel
theorem d28_17 : decode jdk_89_method_14_code 17 = .ok (.ireturn, 1) := by decide +kernel
theorem d28_6 : decode jdk_89_method_14_code 6 = .ok (.iload_n 0, 1) := by decide +kernel
theorem d28_7 : decode jdk_89_method_14_code 7 = .ok (.ldc 76, 2) := by decide +kernel
theorem d28_9 : decode jdk_89_method_14_code 9 = .ok (.if_icmp .ge 7, 3) := by decide +kernel
theorem d28_12 : decode jdk_89_method_14_code 12 = .ok (.iconst 1, 1) := by decide +kernel
theorem d28_13 : decode jdk_89_method_14_code 13 = .ok (.goto 4, 3) := by decide +kernel
set_option maxRecDepth 65536 in
set_option maxHeartbeats 40000000 in
theorem rm28 (l : Launch) (Z : State) (a0 : Array Value) (hw : ∀ d ∈ tables_1, d.before a0 Z = true) (ws : List Jvm.Cond) (p0 : Int32) (h0 : Heap) (n0 : Nat) (Z0 : n0 ≤ h0.size) :
    MetFree l (⟨"java/lang/Character", "isHighSurrogate", "(C)Z"⟩ : MethodName) (head1 (Jvm.Cond.code (⟨"java/lang/Character", "isHighSurrogate", "(C)Z"⟩ : MethodName) jdk_89_method_14_code 1 (some .boolean) :: ws) ({ frames := 0, cells := 0, slots := 0, locals := 0 } : Room)) (fun aX UX => aX = #[(.int p0)] ∧ Z.Warmed39 UX.vm ∧ UX.heap = h0) (fun _ _ _ _ _ => True) (fun _ UX oX UX' => ∃ vX LX, oX = .returned vX ∧ Q28 Z p0 h0 n0 vX UX'.heap LX ∧ FrameEnd UX oX UX' LX ({ frames := 0, cells := 0, slots := 0, locals := 0 } : Room).cells ({ frames := 0, cells := 0, slots := 0, locals := 0 } : Room).slots) := by
  refine MetFree.of_bodySF (plainFor_of_name pn_java_lang_Character) hisR ?_
  intro p e s m args below meth c s₁ Bd hml0 hP hK
  obtain ⟨rfl, hZ, hh⟩ := hP
  have hx := Bd.exec
  have hby := Bd.bytes
  have hml : c.maxLocals = 1 := hml0
  have hown : s.vm.findClass "java/lang/Character" = some m.cls := findClass_of_methodNamed Bd.named
  have hnm := (name_of_methodNamed Bd.named Bd.method).1
  have X0 : Stand p l e ({ frames := 0, cells := 0, slots := 0, locals := 0 } : Room) s m #[(.int p0)] below meth c s₁ [] 0 0 := Stand.of_body Bd
  have e0 : s₁.heap = h0 := by rw [← hh, Bd.state]; rfl
  have N0 := Fr.nil n0
  show own_Comes p e below s ({ frames := 0, cells := 0, slots := 0, locals := 0 } : Room).cells ({ frames := 0, cells := 0, slots := 0, locals := 0 } : Room).slots (Q28 Z p0 h0 n0) _
  rw [show entryFrame m #[(.int p0)] 1 = mkF m 0 #[.val (.int p0)] [] from ef_rm28 m p0]
  show own_Comes p e below s _ _ _ (s₁.setTop (mkF m 0 #[.val (.int p0)] []))
  refine own_by (fun _ kS => XS.iloadN X0.here hx rfl (hb hby d28_0) rfl kS) ?_
  show own_Comes p e below s _ _ _ (s₁.setTop (mkF m 1 #[.val (.int p0)] [(.int p0)]))
  refine own_by (fun _ kS => X0.ldcInt hx hown (mvT hZ (hw _ (List.mem_of_getElem? (i := 136) rfl))) (g := (mkF m 1 #[.val (.int p0)] [(.int p0)])) rfl (hb hby d28_1) _ kS) ?_
  show own_Comes p e below s _ _ _ (s₁.setTop (mkF m 3 #[.val (.int p0)] [(.int (55296 : Int32)), (.int p0)]))
  by_cases h1 : p0 < (55296 : Int32)
  · refine own_by (fun _ kS => XS.icmpYes X0.here hx rfl (pc0 := 3) (pc' := 16) rfl (hb hby d28_3) rfl (tlt h1).1 (by decide) (by decide) kS) ?_
    show own_Comes p e below s _ _ _ (s₁.setTop (mkF m 16 #[.val (.int p0)] []))
    refine own_by (fun _ kS => XS.iconst X0.here hx rfl (hb hby d28_16) kS) ?_
    show own_Comes p e below s _ _ _ (s₁.setTop (mkF m 17 #[.val (.int p0)] [(.int (0 : Int32))]))
    refine own_ret X0 (v := some (.int (0 : Int32))) (fun h => by rw [Bd.returns] at h; cases h) Bd.notSynchronized (by decide) (by decide) ?_ (fun fs hr => retN X0 hx (t := .boolean) Bd.returns (by simp) (hb hby d28_17) hr)
    rw [e0]; exact ⟨_, rfl, N0, rfl, Or.inr ⟨rfl, fun q => q.1 h1⟩⟩
  · refine own_by (fun _ kS => XS.icmpNo X0.here hx rfl (hb hby d28_3) rfl (flt h1).1 kS) ?_
    show own_Comes p e below s _ _ _ (s₁.setTop (mkF m 6 #[.val (.int p0)] []))
    refine own_by (fun _ kS => XS.iloadN X0.here hx rfl (hb hby d28_6) rfl kS) ?_
    show own_Comes p e below s _ _ _ (s₁.setTop (mkF m 7 #[.val (.int p0)] [(.int p0)]))
    refine own_by (fun _ kS => X0.ldcInt hx hown (mvT hZ (hw _ (List.mem_of_getElem? (i := 155) rfl))) (g := (mkF m 7 #[.val (.int p0)] [(.int p0)])) rfl (hb hby d28_7) _ kS) ?_
    show own_Comes p e below s _ _ _ (s₁.setTop (mkF m 9 #[.val (.int p0)] [(.int (56320 : Int32)), (.int p0)]))
    by_cases h2 : p0 < (56320 : Int32)
    · refine own_by (fun _ kS => XS.icmpNo X0.here hx rfl (hb hby d28_9) rfl (tlt h2).2.1 kS) ?_
      show own_Comes p e below s _ _ _ (s₁.setTop (mkF m 12 #[.val (.int p0)] []))
      refine own_by (fun _ kS => XS.iconst X0.here hx rfl (hb hby d28_12) kS) ?_
      show own_Comes p e below s _ _ _ (s₁.setTop (mkF m 13 #[.val (.int p0)] [(.int (1 : Int32))]))
      refine own_by (fun _ kS => XS.goto X0.here hx rfl (pc0 := 13) (pc' := 17) rfl (hb hby d28_13) (by decide) (by decide) kS) ?_
      show own_Comes p e below s _ _ _ (s₁.setTop (mkF m 17 #[.val (.int p0)] [(.int (1 : Int32))]))
      refine own_ret X0 (v := some (.int (1 : Int32))) (fun h => by rw [Bd.returns] at h; cases h) Bd.notSynchronized (by decide) (by decide) ?_ (fun fs hr => retN X0 hx (t := .boolean) Bd.returns (by simp) (hb hby d28_17) hr)
      rw [e0]; exact ⟨_, rfl, N0, rfl, Or.inl ⟨rfl, h1, h2⟩⟩
    · refine own_by (fun _ kS => XS.icmpYes X0.here hx rfl (pc0 := 9) (pc' := 16) rfl (hb hby d28_9) rfl (flt h2).2.1 (by decide) (by decide) kS) ?_
      show own_Comes p e below s _ _ _ (s₁.setTop (mkF m 16 #[.val (.int p0)] []))
      refine own_by (fun _ kS => XS.iconst X0.here hx rfl (hb hby d28_16) kS) ?_
      show own_Comes p e below s _ _ _ (s₁.setTop (mkF m 17 #[.val (.int p0)] [(.int (0 : Int32))]))
      refine own_ret X0 (v := some (.int (0 : Int32))) (fun h => by rw [Bd.returns] at h; cases h) Bd.notSynchronized (by decide) (by decide) ?_ (fun fs hr => retN X0 hx (t := .boolean) Bd.returns (by simp) (hb hby d28_17) hr)
      rw [e0]; exact ⟨_, rfl, N0, rfl, Or.inr ⟨rfl, fun q => h2 q.2⟩⟩
def Q34 (Z : State) (p0 : Int32) (h0 : Heap) (n0 : Nat) (v : Option Value) (h : Heap) (L : List Loc) : Prop := ∃ z : Int32, v = some (.int z) ∧ Fr n0 L ∧ h = h0 ∧ ((z = 1 ∧ own_lo p0) ∨ (z = 0 ∧ ¬ own_lo p0))
theorem ef_rm34 (m : MethodId) (x0 : Int32) : entryFrame m #[(.int x0)] 1 = mkF m 0 #[.val (.int x0)] [] := by first | (simp [entryFrame, mkF, argsToLocals, Value.category]; done) | rfl
theorem d34_0 : decode jdk_89_method_15_code 0 = .ok (.iload_n 0, 1) := by decide +kernel
theorem d34_1 : decode jdk_89_method_15_code 1 = .ok (.ldc 76, 2) := by decide +kernel
theorem d34_3 : decode jdk_89_method_15_code 3 = .ok (.if_icmp .lt 13, 3) := by decide +kernel
theorem d34_16 : decode jdk_89_method_15_code 16 = .ok (.iconst 0, 1) := by decide +kernel
theorem d34_17 : decode jdk_89_method_15_code 17 = .ok (.ireturn, 1) := by decide +kernel
theorem d34_6 : decode jdk_89_method_15_code 6 = .ok (.iload_n 0, 1) := by decide +kernel
theorem d34_7 : decode jdk_89_method_15_code 7 = .ok (.ldc 77, 2) := by decide +kernel
theorem d34_9 : decode jdk_89_method_15_code 9 = .ok (.if_icmp .ge 7, 3) := by decide +kernel
theorem d34_12 : decode jdk_89_method_15_code 12 = .ok (.iconst 1, 1) := by decide +kernel
theorem d34_13 : decode jdk_89_method_15_code 13 = .ok (.goto 4, 3) := by decide +kernel
set_option maxRecDepth 65536 in
set_option maxHeartbeats 40000000 in
theorem rm34 (l : Launch) (Z : State) (a0 : Array Value) (hw : ∀ d ∈ tables_1, d.before a0 Z = true) (ws : List Jvm.Cond) (p0 : Int32) (h0 : Heap) (n0 : Nat) (Z0 : n0 ≤ h0.size) :
    MetFree l (⟨"java/lang/Character", "isLowSurrogate", "(C)Z"⟩ : MethodName) (head1 (Jvm.Cond.code (⟨"java/lang/Character", "isLowSurrogate", "(C)Z"⟩ : MethodName) jdk_89_method_15_code 1 (some .boolean) :: ws) ({ frames := 0, cells := 0, slots := 0, locals := 0 } : Room)) (fun aX UX => aX = #[(.int p0)] ∧ Z.Warmed39 UX.vm ∧ UX.heap = h0) (fun _ _ _ _ _ => True) (fun _ UX oX UX' => ∃ vX LX, oX = .returned vX ∧ Q34 Z p0 h0 n0 vX UX'.heap LX ∧ FrameEnd UX oX UX' LX ({ frames := 0, cells := 0, slots := 0, locals := 0 } : Room).cells ({ frames := 0, cells := 0, slots := 0, locals := 0 } : Room).slots) := by
  refine MetFree.of_bodySF (plainFor_of_name pn_java_lang_Character) hisR ?_
  intro p e s m args below meth c s₁ Bd hml0 hP hK
  obtain ⟨rfl, hZ, hh⟩ := hP
  have hx := Bd.exec
  have hby := Bd.bytes
  have hml : c.maxLocals = 1 := hml0
  have hown : s.vm.findClass "java/lang/Character" = some m.cls := findClass_of_methodNamed Bd.named
  have hnm := (name_of_methodNamed Bd.named Bd.method).1
  have X0 : Stand p l e ({ frames := 0, cells := 0, slots := 0, locals := 0 } : Room) s m #[(.int p0)] below meth c s₁ [] 0 0 := Stand.of_body Bd
  have e0 : s₁.heap = h0 := by rw [← hh, Bd.state]; rfl
  have N0 := Fr.nil n0
  show own_Comes p e below s ({ frames := 0, cells := 0, slots := 0, locals := 0 } : Room).cells ({ frames := 0, cells := 0, slots := 0, locals := 0 } : Room).slots (Q34 Z p0 h0 n0) _
  rw [show entryFrame m #[(.int p0)] 1 = mkF m 0 #[.val (.int p0)] [] from ef_rm34 m p0]
  show own_Comes p e below s _ _ _ (s₁.setTop (mkF m 0 #[.val (.int p0)] []))
  refine own_by (fun _ kS => XS.iloadN X0.here hx rfl (hb hby d34_0) rfl kS) ?_
  show own_Comes p e below s _ _ _ (s₁.setTop (mkF m 1 #[.val (.int p0)] [(.int p0)]))
  refine own_by (fun _ kS => X0.ldcInt hx hown (mvT hZ (hw _ (List.mem_of_getElem? (i := 155) rfl))) (g := (mkF m 1 #[.val (.int p0)] [(.int p0)])) rfl (hb hby d34_1) _ kS) ?_
  show own_Comes p e below s _ _ _ (s₁.setTop (mkF m 3 #[.val (.int p0)] [(.int (56320 : Int32)), (.int p0)]))
  by_cases h1 : p0 < (56320 : Int32)
  · refine own_by (fun _ kS => XS.icmpYes X0.here hx rfl (pc0 := 3) (pc' := 16) rfl (hb hby d34_3) rfl (tlt h1).1 (by decide) (by decide) kS) ?_
    show own_Comes p e below s _ _ _ (s₁.setTop (mkF m 16 #[.val (.int p0)] []))
    refine own_by (fun _ kS => XS.iconst X0.here hx rfl (hb hby d34_16) kS) ?_
    show own_Comes p e below s _ _ _ (s₁.setTop (mkF m 17 #[.val (.int p0)] [(.int (0 : Int32))]))
    refine own_ret X0 (v := some (.int (0 : Int32))) (fun h => by rw [Bd.returns] at h; cases h) Bd.notSynchronized (by decide) (by decide) ?_ (fun fs hr => retN X0 hx (t := .boolean) Bd.returns (by simp) (hb hby d34_17) hr)
    rw [e0]; exact ⟨_, rfl, N0, rfl, Or.inr ⟨rfl, fun q => q.1 h1⟩⟩
  · refine own_by (fun _ kS => XS.icmpNo X0.here hx rfl (hb hby d34_3) rfl (flt h1).1 kS) ?_
    show own_Comes p e below s _ _ _ (s₁.setTop (mkF m 6 #[.val (.int p0)] []))
    refine own_by (fun _ kS => XS.iloadN X0.here hx rfl (hb hby d34_6) rfl kS) ?_
    show own_Comes p e below s _ _ _ (s₁.setTop (mkF m 7 #[.val (.int p0)] [(.int p0)]))
    refine own_by (fun _ kS => X0.ldcInt hx hown (mvT hZ (hw _ (List.mem_of_getElem? (i := 159) rfl))) (g := (mkF m 7 #[.val (.int p0)] [(.int p0)])) rfl (hb hby d34_7) _ kS) ?_
    show own_Comes p e below s _ _ _ (s₁.setTop (mkF m 9 #[.val (.int p0)] [(.int (57344 : Int32)), (.int p0)]))
    by_cases h2 : p0 < (57344 : Int32)
    · refine own_by (fun _ kS => XS.icmpNo X0.here hx rfl (hb hby d34_9) rfl (tlt h2).2.1 kS) ?_
      show own_Comes p e below s _ _ _ (s₁.setTop (mkF m 12 #[.val (.int p0)] []))
      refine own_by (fun _ kS => XS.iconst X0.here hx rfl (hb hby d34_12) kS) ?_
      show own_Comes p e below s _ _ _ (s₁.setTop (mkF m 13 #[.val (.int p0)] [(.int (1 : Int32))]))
      refine own_by (fun _ kS => XS.goto X0.here hx rfl (pc0 := 13) (pc' := 17) rfl (hb hby d34_13) (by decide) (by decide) kS) ?_
      show own_Comes p e below s _ _ _ (s₁.setTop (mkF m 17 #[.val (.int p0)] [(.int (1 : Int32))]))
      refine own_ret X0 (v := some (.int (1 : Int32))) (fun h => by rw [Bd.returns] at h; cases h) Bd.notSynchronized (by decide) (by decide) ?_ (fun fs hr => retN X0 hx (t := .boolean) Bd.returns (by simp) (hb hby d34_17) hr)
      rw [e0]; exact ⟨_, rfl, N0, rfl, Or.inl ⟨rfl, h1, h2⟩⟩
    · refine own_by (fun _ kS => XS.icmpYes X0.here hx rfl (pc0 := 9) (pc' := 16) rfl (hb hby d34_9) rfl (flt h2).2.1 (by decide) (by decide) kS) ?_
      show own_Comes p e below s _ _ _ (s₁.setTop (mkF m 16 #[.val (.int p0)] []))
      refine own_by (fun _ kS => XS.iconst X0.here hx rfl (hb hby d34_16) kS) ?_
      show own_Comes p e below s _ _ _ (s₁.setTop (mkF m 17 #[.val (.int p0)] [(.int (0 : Int32))]))
      refine own_ret X0 (v := some (.int (0 : Int32))) (fun h => by rw [Bd.returns] at h; cases h) Bd.notSynchronized (by decide) (by decide) ?_ (fun fs hr => retN X0 hx (t := .boolean) Bd.returns (by simp) (hb hby d34_17) hr)
      rw [e0]; exact ⟨_, rfl, N0, rfl, Or.inr ⟨rfl, fun q => h2 q.2⟩⟩
def Q8 (Z : State) (cs : List Int32) (i : Nat) (h0 : Heap) (n0 : Nat) (v : Option Value) (h : Heap) (L : List Loc) : Prop := ∃ z : Int32, v = some (.int z) ∧ Fr n0 L ∧ h = h0 ∧ (¬ z = 0 → i < cs.length → own_okAt cs i)
theorem ef_rm8 (m : MethodId) (x0 : Addr) (x1 : Int32) : entryFrame m #[(.ref x0), (.int x1)] 3 = mkF m 0 #[.val (.ref x0), .val (.int x1), .unset] [] := by first | (simp [entryFrame, mkF, argsToLocals, Value.category]; done) | rfl
theorem d8_0 : decode method_6_code 0 = .ok (.iload_n 1, 1) := by decide +kernel
theorem d8_1 : decode method_6_code 1 = .ok (.aload_n 0, 1) := by decide +kernel
theorem d8_2 : decode method_6_code 2 = .ok (.arraylength, 1) := by decide +kernel
theorem d8_3 : decode method_6_code 3 = .ok (.if_icmp .lt 5, 3) := by decide +kernel
theorem d8_8 : decode method_6_code 8 = .ok (.aload_n 0, 1) := by decide +kernel
theorem d8_9 : decode method_6_code 9 = .ok (.iload_n 1, 1) := by decide +kernel
theorem d8_10 : decode method_6_code 10 = .ok (.caload, 1) := by decide +kernel
theorem d8_11 : decode method_6_code 11 = .ok (.istore_n 2, 1) := by decide +kernel
theorem d8_12 : decode method_6_code 12 = .ok (.iload_n 2, 1) := by decide +kernel
theorem d8_13 : decode method_6_code 13 = .ok (.ifCond .ne 5, 3) := by decide +kernel
theorem d8_16 : decode method_6_code 16 = .ok (.iconst 0, 1) := by decide +kernel
theorem d8_17 : decode method_6_code 17 = .ok (.ireturn, 1) := by decide +kernel
theorem d8_18 : decode method_6_code 18 = .ok (.iload_n 2, 1) := by decide +kernel
theorem pd__C_Z_238 : parseMethodDescriptor "(C)Z" = some ⟨[.char], some .boolean⟩ := by decide +kernel
theorem d8_19 : decode method_6_code 19 = .ok (.invokestatic 33, 3) := by decide +kernel
theorem d8_22 : decode method_6_code 22 = .ok (.ifCond .eq 28, 3) := by decide +kernel
theorem d8_50 : decode method_6_code 50 = .ok (.iload_n 2, 1) := by decide +kernel
theorem d8_51 : decode method_6_code 51 = .ok (.invokestatic 37, 3) := by decide +kernel
theorem d8_54 : decode method_6_code 54 = .ok (.ifCond .eq 24, 3) := by decide +kernel
theorem d8_78 : decode method_6_code 78 = .ok (.iconst 1, 1) := by decide +kernel
theorem d8_79 : decode method_6_code 79 = .ok (.ireturn, 1) := by decide +kernel
theorem d8_57 : decode method_6_code 57 = .ok (.iload_n 1, 1) := by decide +kernel
theorem d8_58 : decode method_6_code 58 = .ok (.ifCond .le 18, 3) := by decide +kernel
theorem d8_61 : decode method_6_code 61 = .ok (.aload_n 0, 1) := by decide +kernel
theorem d8_62 : decode method_6_code 62 = .ok (.iload_n 1, 1) := by decide +kernel
theorem d8_63 : decode method_6_code 63 = .ok (.iconst 1, 1) := by decide +kernel
theorem d8_64 : decode method_6_code 64 = .ok (.isub, 1) := by decide +kernel
theorem d8_65 : decode method_6_code 65 = .ok (.caload, 1) := by decide +kernel
theorem d8_66 : decode method_6_code 66 = .ok (.invokestatic 33, 3) := by decide +kernel
theorem d8_69 : decode method_6_code 69 = .ok (.ifCond .eq 7, 3) := by decide +kernel
theorem d8_76 : decode method_6_code 76 = .ok (.iconst 0, 1) := by decide +kernel
theorem d8_77 : decode method_6_code 77 = .ok (.ireturn, 1) := by decide +kernel
theorem d8_72 : decode method_6_code 72 = .ok (.iconst 1, 1) := by decide +kernel
theorem d8_73 : decode method_6_code 73 = .ok (.goto 4, 3) := by decide +kernel
theorem d8_25 : decode method_6_code 25 = .ok (.iload_n 1, 1) := by decide +kernel
theorem d8_26 : decode method_6_code 26 = .ok (.iconst 1, 1) := by decide +kernel
theorem d8_27 : decode method_6_code 27 = .ok (.iadd, 1) := by decide +kernel
theorem d8_28 : decode method_6_code 28 = .ok (.aload_n 0, 1) := by decide +kernel
theorem d8_29 : decode method_6_code 29 = .ok (.arraylength, 1) := by decide +kernel
theorem d8_30 : decode method_6_code 30 = .ok (.if_icmp .ge 18, 3) := by decide +kernel
theorem d8_33 : decode method_6_code 33 = .ok (.aload_n 0, 1) := by decide +kernel
theorem d8_34 : decode method_6_code 34 = .ok (.iload_n 1, 1) := by decide +kernel
theorem d8_35 : decode method_6_code 35 = .ok (.iconst 1, 1) := by decide +kernel
theorem d8_36 : decode method_6_code 36 = .ok (.iadd, 1) := by decide +kernel
theorem d8_37 : decode method_6_code 37 = .ok (.caload, 1) := by decide +kernel
theorem d8_38 : decode method_6_code 38 = .ok (.invokestatic 37, 3) := by decide +kernel
theorem d8_41 : decode method_6_code 41 = .ok (.ifCond .eq 7, 3) := by decide +kernel
theorem d8_48 : decode method_6_code 48 = .ok (.iconst 0, 1) := by decide +kernel
theorem d8_49 : decode method_6_code 49 = .ok (.ireturn, 1) := by decide +kernel
theorem d8_44 : decode method_6_code 44 = .ok (.iconst 1, 1) := by decide +kernel
theorem d8_45 : decode method_6_code 45 = .ok (.goto 4, 3) := by decide +kernel
theorem d8_6 : decode method_6_code 6 = .ok (.iconst 1, 1) := by decide +kernel
theorem d8_7 : decode method_6_code 7 = .ok (.ireturn, 1) := by decide +kernel
set_option maxRecDepth 65536 in
set_option maxHeartbeats 40000000 in
theorem rm8 (l : Launch) (Z : State) (a0 : Array Value) (hw : ∀ d ∈ tables_1, d.before a0 Z = true) (ws : List Jvm.Cond) (r0 : Addr) (p1 : Int32) (i : Nat) (kc : ClassId) (cs : List Int32) (h0 : Heap) (n0 : Nat) (Z0 : n0 ≤ h0.size) (hp1 : p1 = Int32.ofNat i) (Vs : Arv Z h0 r0 kc .char (Int32.ofNat cs.length) (cs.map Value.int) (.int 0)) (hl : cs.length ≤ 4) (hi4 : i ≤ 4) :
    MetFree l (⟨"com/example/holdfast/holdfast/spi/LockArgumentsRequireNamePinLaw", "ok", "([CI)Z"⟩ : MethodName) (head1 (Jvm.Cond.code (⟨"com/example/holdfast/holdfast/spi/LockArgumentsRequireNamePinLaw", "ok", "([CI)Z"⟩ : MethodName) method_6_code 3 (some .boolean) :: ws) ({ frames := 1, cells := 0, slots := 0, locals := 12 } : Room)) (fun aX UX => aX = #[(.ref r0), (.int p1)] ∧ Z.Warmed39 UX.vm ∧ UX.heap = h0) (fun _ _ _ _ _ => True) (fun _ UX oX UX' => ∃ vX LX, oX = .returned vX ∧ Q8 Z cs i h0 n0 vX UX'.heap LX ∧ FrameEnd UX oX UX' LX ({ frames := 1, cells := 0, slots := 0, locals := 12 } : Room).cells ({ frames := 1, cells := 0, slots := 0, locals := 12 } : Room).slots) := by
  refine MetFree.of_bodySF (plainFor_of_name pn_com_example_holdfast_holdfast_spi_LockArgumentsRequireNamePinLaw) hisR ?_
  intro p e s m args below meth c s₁ Bd hml0 hP hK
  obtain ⟨rfl, hZ, hh⟩ := hP
  have hx := Bd.exec
  have hby := Bd.bytes
  have hml : c.maxLocals = 3 := hml0
  have hown : s.vm.findClass "com/example/holdfast/holdfast/spi/LockArgumentsRequireNamePinLaw" = some m.cls := findClass_of_methodNamed Bd.named
  have hnm := (name_of_methodNamed Bd.named Bd.method).1
  have X0 : Stand p l e ({ frames := 1, cells := 0, slots := 0, locals := 12 } : Room) s m #[(.ref r0), (.int p1)] below meth c s₁ [] 0 0 := Stand.of_body Bd
  have e0 : s₁.heap = h0 := by rw [← hh, Bd.state]; rfl
  have N0 := Fr.nil n0
  show own_Comes p e below s ({ frames := 1, cells := 0, slots := 0, locals := 12 } : Room).cells ({ frames := 1, cells := 0, slots := 0, locals := 12 } : Room).slots (Q8 Z cs i h0 n0) _
  rw [show entryFrame m #[(.ref r0), (.int p1)] 3 = mkF m 0 #[.val (.ref r0), .val (.int p1), .unset] [] from ef_rm8 m r0 p1]
  show own_Comes p e below s _ _ _ (s₁.setTop (mkF m 0 #[.val (.ref r0), .val (.int p1), .unset] []))
  rw [show p1 = (Int32.ofNat i) from hp1]
  show own_Comes p e below s _ _ _ (s₁.setTop (mkF m 0 #[.val (.ref r0), .val (.int (Int32.ofNat i)), .unset] []))
  refine own_by (fun _ kS => XS.iloadN X0.here hx rfl (hb hby d8_0) rfl kS) ?_
  show own_Comes p e below s _ _ _ (s₁.setTop (mkF m 1 #[.val (.ref r0), .val (.int (Int32.ofNat i)), .unset] [(.int (Int32.ofNat i))]))
  refine own_by (fun _ kS => XS.aloadN X0.here hx rfl (hb hby d8_1) rfl rfl kS) ?_
  show own_Comes p e below s _ _ _ (s₁.setTop (mkF m 2 #[.val (.ref r0), .val (.int (Int32.ofNat i)), .unset] [(.ref r0), (.int (Int32.ofNat i))]))
  have Vo71 := Vs
  obtain ⟨cl71, Ar71, qA71, SA71, NA71, HA71, GA71⟩ := Vo71
  refine own_by (fun _ kS => X0.arraylength hx (by rw [e0]; exact Ar71.1) (State.isArrayOf_alike hZ.alike Ar71.2.1) (g := (mkF m 2 #[.val (.ref r0), .val (.int (Int32.ofNat i)), .unset] [(.ref r0), (.int (Int32.ofNat i))])) rfl rfl (hb hby d8_2) _ kS) ?_
  rw [len_of SA71 NA71]
  show own_Comes p e below s _ _ _ (s₁.setTop (mkF m 3 #[.val (.ref r0), .val (.int (Int32.ofNat i)), .unset] [(.int (Int32.ofNat cs.length)), (.int (Int32.ofNat i))]))
  by_cases hlt : (Int32.ofNat i) < (Int32.ofNat cs.length)
  · refine own_by (fun _ kS => XS.icmpYes X0.here hx rfl (pc0 := 3) (pc' := 8) rfl (hb hby d8_3) rfl (tlt hlt).1 (by decide) (by decide) kS) ?_
    show own_Comes p e below s _ _ _ (s₁.setTop (mkF m 8 #[.val (.ref r0), .val (.int (Int32.ofNat i)), .unset] []))
    have hi := (own_lt (by omega) (by omega)).mp hlt
    refine own_by (fun _ kS => XS.aloadN X0.here hx rfl (hb hby d8_8) rfl rfl kS) ?_
    show own_Comes p e below s _ _ _ (s₁.setTop (mkF m 9 #[.val (.ref r0), .val (.int (Int32.ofNat i)), .unset] [(.ref r0)]))
    refine own_by (fun _ kS => XS.iloadN X0.here hx rfl (hb hby d8_9) rfl kS) ?_
    show own_Comes p e below s _ _ _ (s₁.setTop (mkF m 10 #[.val (.ref r0), .val (.int (Int32.ofNat i)), .unset] [(.int (Int32.ofNat i)), (.ref r0)]))
    have Vo72 := Vs
    obtain ⟨cl72, Ar72, qA72, SA72, NA72, HA72, GA72⟩ := Vo72
    have hin72 : ¬ ((Int32.ofNat i) < 0 ∨ cl72.slots.size ≤ ((Int32.ofNat i)).toNatClampNeg) := own_inb SA72 (by omega) hi
    have hat72 : cl72.slots[((Int32.ofNat i)).toNatClampNeg]? = some (.int (cs.getD i 0)) := HA72.at hin72 (by rw [own_tn (by omega)]; exact own_char hi)
    refine own_by (fun _ kS => X0.caload hx (j := (Int32.ofNat i)) (v := (.int (cs.getD i 0))) (by rw [e0]; exact Ar72.1) (State.isArrayOf_alike hZ.alike Ar72.2.1) Ar72.2.2 hin72 hat72 (g := (mkF m 10 #[.val (.ref r0), .val (.int (Int32.ofNat i)), .unset] [(.int (Int32.ofNat i)), (.ref r0)])) rfl rfl (hb hby d8_10) _ kS) ?_
    show own_Comes p e below s _ _ _ (s₁.setTop (mkF m 11 #[.val (.ref r0), .val (.int (Int32.ofNat i)), .unset] [(.int (cs.getD i 0))]))
    refine own_by (fun _ kS => XS.istoreN X0.here hx rfl (hb hby d8_11) rfl (l' := #[.val (.ref r0), .val (.int (Int32.ofNat i)), .val (.int (cs.getD i 0))]) rfl kS) ?_
    show own_Comes p e below s _ _ _ (s₁.setTop (mkF m 12 #[.val (.ref r0), .val (.int (Int32.ofNat i)), .val (.int (cs.getD i 0))] []))
    refine own_by (fun _ kS => XS.iloadN X0.here hx rfl (hb hby d8_12) rfl kS) ?_
    show own_Comes p e below s _ _ _ (s₁.setTop (mkF m 13 #[.val (.ref r0), .val (.int (Int32.ofNat i)), .val (.int (cs.getD i 0))] [(.int (cs.getD i 0))]))
    by_cases hc0 : (cs.getD i 0) = (0 : Int32)
    · refine own_by (fun _ kS => XS.ifNo X0.here hx rfl (hb hby d8_13) rfl ((if0 _ _).trans (teq hc0).2) kS) ?_
      show own_Comes p e below s _ _ _ (s₁.setTop (mkF m 16 #[.val (.ref r0), .val (.int (Int32.ofNat i)), .val (.int (cs.getD i 0))] []))
      refine own_by (fun _ kS => XS.iconst X0.here hx rfl (hb hby d8_16) kS) ?_
      show own_Comes p e below s _ _ _ (s₁.setTop (mkF m 17 #[.val (.ref r0), .val (.int (Int32.ofNat i)), .val (.int (cs.getD i 0))] [(.int (0 : Int32))]))
      refine own_ret X0 (v := some (.int (0 : Int32))) (fun h => by rw [Bd.returns] at h; cases h) Bd.notSynchronized (by decide) (by decide) ?_ (fun fs hr => retN X0 hx (t := .boolean) Bd.returns (by simp) (hb hby d8_17) hr)
      rw [e0]; exact ⟨_, rfl, N0, rfl, fun q => absurd rfl q⟩
    · refine own_by (fun _ kS => XS.ifYes X0.here hx rfl (pc0 := 13) (pc' := 18) rfl (hb hby d8_13) rfl ((if0 _ _).trans (feq hc0).2) (by decide) (by decide) kS) ?_
      show own_Comes p e below s _ _ _ (s₁.setTop (mkF m 18 #[.val (.ref r0), .val (.int (Int32.ofNat i)), .val (.int (cs.getD i 0))] []))
      refine own_by (fun _ kS => XS.iloadN X0.here hx rfl (hb hby d8_18) rfl kS) ?_
      show own_Comes p e below s _ _ _ (s₁.setTop (mkF m 19 #[.val (.ref r0), .val (.int (Int32.ofNat i)), .val (.int (cs.getD i 0))] [(.int (cs.getD i 0))]))
      obtain ⟨vv73, _, ⟨T73, L73, k73, n73⟩, -, X73, ⟨Lc73, hQ73, l73, y73, z73⟩, st73⟩ := Jvm.LawKit.callS X0 hx (y := (⟨"com/example/holdfast/holdfast/spi/LockArgumentsRequireNamePinLaw", "isHigh", "(C)Z"⟩ : MethodName)) hown (mvT hZ (hw _ (List.mem_of_getElem? (i := 59) rfl))) (mvT hZ (hw _ (List.mem_of_getElem? (i := 60) rfl))) (mvT hZ (hw _ (List.mem_of_getElem? (i := 2) rfl))) (mvT hZ (hw _ (List.mem_of_getElem? (i := 61) rfl))) (by decide) (backOf (W := 0) (rm14 l Z a0 hw [] (cs.getD i 0) h0 n0 Z0) hZ (hw _ (List.mem_of_getElem? (i := 61) rfl)) (hw _ (List.mem_of_getElem? (i := 2) rfl)) (by decide) (by decide)) (g := (mkF m 19 #[.val (.ref r0), .val (.int (Int32.ofNat i)), .val (.int (cs.getD i 0))] [(.int (cs.getD i 0))])) rfl (by rw [hml]; rfl) (argsL := [(.int (cs.getD i 0))]) (rest := []) (lenOf pd__C_Z_238 rfl) rfl (by show 2 * 0 + _ ≤ _; exact Nat.le_of_eq rfl) (hb hby d8_19) (fun _ _ => ⟨rfl, e0, (by decide : 0 + 0 ≤ _), (by decide : 0 + 0 ≤ _)⟩)
      dsimp only [Pt.U, Pt.locs, Pt.cells, Pt.slots] at X73 l73 y73 z73 st73 hQ73
      subst l73 y73 z73
      obtain ⟨z73, rfl, N73q, e73q, hz73⟩ := hQ73
      have N73 := Fr.app N0 N73q
      refine own_by st73 ?_
      have e73 : T73.heap = h0 := e73q
      show own_Comes p e below s _ _ _ (T73.setTop (mkF m 22 #[.val (.ref r0), .val (.int (Int32.ofNat i)), .val (.int (cs.getD i 0))] [(.int z73)]))
      by_cases hq73 : z73 = (0 : Int32)
      · refine own_by (fun _ kS => XS.ifYes X73.here hx rfl (pc0 := 22) (pc' := 50) rfl (hb hby d8_22) rfl ((if0 _ _).trans (teq hq73).1) (by decide) (by decide) kS) ?_
        show own_Comes p e below s _ _ _ (T73.setTop (mkF m 50 #[.val (.ref r0), .val (.int (Int32.ofNat i)), .val (.int (cs.getD i 0))] []))
        refine own_by (fun _ kS => XS.iloadN X73.here hx rfl (hb hby d8_50) rfl kS) ?_
        show own_Comes p e below s _ _ _ (T73.setTop (mkF m 51 #[.val (.ref r0), .val (.int (Int32.ofNat i)), .val (.int (cs.getD i 0))] [(.int (cs.getD i 0))]))
        obtain ⟨vv74, _, ⟨T74, L74, k74, n74⟩, -, X74, ⟨Lc74, hQ74, l74, y74, z74⟩, st74⟩ := Jvm.LawKit.callS X73 hx (y := (⟨"com/example/holdfast/holdfast/spi/LockArgumentsRequireNamePinLaw", "isLow", "(C)Z"⟩ : MethodName)) hown (mvT hZ (hw _ (List.mem_of_getElem? (i := 63) rfl))) (mvT hZ (hw _ (List.mem_of_getElem? (i := 64) rfl))) (mvT hZ (hw _ (List.mem_of_getElem? (i := 2) rfl))) (mvT hZ (hw _ (List.mem_of_getElem? (i := 65) rfl))) (by decide) (backOf (W := 0) (rm15 l Z a0 hw [] (cs.getD i 0) h0 n0 Z0) hZ (hw _ (List.mem_of_getElem? (i := 65) rfl)) (hw _ (List.mem_of_getElem? (i := 2) rfl)) (by decide) (by decide)) (g := (mkF m 51 #[.val (.ref r0), .val (.int (Int32.ofNat i)), .val (.int (cs.getD i 0))] [(.int (cs.getD i 0))])) rfl (by rw [hml]; rfl) (argsL := [(.int (cs.getD i 0))]) (rest := []) (lenOf pd__C_Z_238 rfl) rfl (by show 2 * 0 + _ ≤ _; exact Nat.le_of_eq rfl) (hb hby d8_51) (fun _ _ => ⟨rfl, e73, (by decide : 0 + 0 ≤ _), (by decide : 0 + 0 ≤ _)⟩)
        dsimp only [Pt.U, Pt.locs, Pt.cells, Pt.slots] at X74 l74 y74 z74 st74 hQ74
        subst l74 y74 z74
        obtain ⟨z74, rfl, N74q, e74q, hz74⟩ := hQ74
        have N74 := Fr.app N73 N74q
        refine own_by st74 ?_
        have e74 : T74.heap = h0 := e74q
        show own_Comes p e below s _ _ _ (T74.setTop (mkF m 54 #[.val (.ref r0), .val (.int (Int32.ofNat i)), .val (.int (cs.getD i 0))] [(.int z74)]))
        by_cases hq74 : z74 = (0 : Int32)
        · refine own_by (fun _ kS => XS.ifYes X74.here hx rfl (pc0 := 54) (pc' := 78) rfl (hb hby d8_54) rfl ((if0 _ _).trans (teq hq74).1) (by decide) (by decide) kS) ?_
          show own_Comes p e below s _ _ _ (T74.setTop (mkF m 78 #[.val (.ref r0), .val (.int (Int32.ofNat i)), .val (.int (cs.getD i 0))] []))
          refine own_by (fun _ kS => XS.iconst X74.here hx rfl (hb hby d8_78) kS) ?_
          show own_Comes p e below s _ _ _ (T74.setTop (mkF m 79 #[.val (.ref r0), .val (.int (Int32.ofNat i)), .val (.int (cs.getD i 0))] [(.int (1 : Int32))]))
          refine own_ret X74 (v := some (.int (1 : Int32))) (fun h => by rw [Bd.returns] at h; cases h) Bd.notSynchronized (by decide) (by decide) ?_ (fun fs hr => retN X74 hx (t := .boolean) Bd.returns (by simp) (hb hby d8_79) hr)
          rw [e74]; exact ⟨_, rfl, N74, rfl, fun _ _ => ⟨hc0, fun q => absurd q (hz73.elim (fun q => absurd (q.1.symm.trans hq73) (by decide)) (fun q => q.2)), fun q => absurd q (hz74.elim (fun q => absurd (q.1.symm.trans hq74) (by decide)) (fun q => q.2))⟩⟩
        · refine own_by (fun _ kS => XS.ifNo X74.here hx rfl (hb hby d8_54) rfl ((if0 _ _).trans (feq hq74).1) kS) ?_
          show own_Comes p e below s _ _ _ (T74.setTop (mkF m 57 #[.val (.ref r0), .val (.int (Int32.ofNat i)), .val (.int (cs.getD i 0))] []))
          refine own_by (fun _ kS => XS.iloadN X74.here hx rfl (hb hby d8_57) rfl kS) ?_
          show own_Comes p e below s _ _ _ (T74.setTop (mkF m 58 #[.val (.ref r0), .val (.int (Int32.ofNat i)), .val (.int (cs.getD i 0))] [(.int (Int32.ofNat i))]))
          by_cases hpos : (0 : Int32) < (Int32.ofNat i)
          · refine own_by (fun _ kS => XS.ifNo X74.here hx rfl (hb hby d8_58) rfl ((if0 _ _).trans (tlt hpos).2.2.2) kS) ?_
            show own_Comes p e below s _ _ _ (T74.setTop (mkF m 61 #[.val (.ref r0), .val (.int (Int32.ofNat i)), .val (.int (cs.getD i 0))] []))
            have hp0 := (own_pos (by omega)).mp hpos
            refine own_by (fun _ kS => XS.aloadN X74.here hx rfl (hb hby d8_61) rfl rfl kS) ?_
            show own_Comes p e below s _ _ _ (T74.setTop (mkF m 62 #[.val (.ref r0), .val (.int (Int32.ofNat i)), .val (.int (cs.getD i 0))] [(.ref r0)]))
            refine own_by (fun _ kS => XS.iloadN X74.here hx rfl (hb hby d8_62) rfl kS) ?_
            show own_Comes p e below s _ _ _ (T74.setTop (mkF m 63 #[.val (.ref r0), .val (.int (Int32.ofNat i)), .val (.int (cs.getD i 0))] [(.int (Int32.ofNat i)), (.ref r0)]))
            refine own_by (fun _ kS => XS.iconst X74.here hx rfl (hb hby d8_63) kS) ?_
            show own_Comes p e below s _ _ _ (T74.setTop (mkF m 64 #[.val (.ref r0), .val (.int (Int32.ofNat i)), .val (.int (cs.getD i 0))] [(.int (1 : Int32)), (.int (Int32.ofNat i)), (.ref r0)]))
            refine own_by (fun _ kS => XS.isub X74.here hx rfl (hb hby d8_64) rfl kS) ?_
            show own_Comes p e below s _ _ _ (T74.setTop (mkF m 65 #[.val (.ref r0), .val (.int (Int32.ofNat i)), .val (.int (cs.getD i 0))] [(.int ((Int32.ofNat i) - (1 : Int32))), (.ref r0)]))
            rw [show ((Int32.ofNat i) - (1 : Int32)) = (Int32.ofNat (i - 1)) from own_pred hp0 (by omega)]
            show own_Comes p e below s _ _ _ (T74.setTop (mkF m 65 #[.val (.ref r0), .val (.int (Int32.ofNat i)), .val (.int (cs.getD i 0))] [(.int (Int32.ofNat (i - 1))), (.ref r0)]))
            have Vo75 := Vs
            obtain ⟨cl75, Ar75, qA75, SA75, NA75, HA75, GA75⟩ := Vo75
            have hin75 : ¬ ((Int32.ofNat (i - 1)) < 0 ∨ cl75.slots.size ≤ ((Int32.ofNat (i - 1))).toNatClampNeg) := own_inb SA75 (by omega) (by omega)
            have hat75 : cl75.slots[((Int32.ofNat (i - 1))).toNatClampNeg]? = some (.int (cs.getD (i - 1) 0)) := HA75.at hin75 (by rw [own_tn (by omega)]; exact own_char (by omega))
            refine own_by (fun _ kS => X74.caload hx (j := (Int32.ofNat (i - 1))) (v := (.int (cs.getD (i - 1) 0))) (by rw [e74]; exact Ar75.1) (State.isArrayOf_alike hZ.alike Ar75.2.1) Ar75.2.2 hin75 hat75 (g := (mkF m 65 #[.val (.ref r0), .val (.int (Int32.ofNat i)), .val (.int (cs.getD i 0))] [(.int (Int32.ofNat (i - 1))), (.ref r0)])) rfl rfl (hb hby d8_65) _ kS) ?_
            show own_Comes p e below s _ _ _ (T74.setTop (mkF m 66 #[.val (.ref r0), .val (.int (Int32.ofNat i)), .val (.int (cs.getD i 0))] [(.int (cs.getD (i - 1) 0))]))
            obtain ⟨vv76, _, ⟨T76, L76, k76, n76⟩, -, X76, ⟨Lc76, hQ76, l76, y76, z76⟩, st76⟩ := Jvm.LawKit.callS X74 hx (y := (⟨"com/example/holdfast/holdfast/spi/LockArgumentsRequireNamePinLaw", "isHigh", "(C)Z"⟩ : MethodName)) hown (mvT hZ (hw _ (List.mem_of_getElem? (i := 59) rfl))) (mvT hZ (hw _ (List.mem_of_getElem? (i := 60) rfl))) (mvT hZ (hw _ (List.mem_of_getElem? (i := 2) rfl))) (mvT hZ (hw _ (List.mem_of_getElem? (i := 61) rfl))) (by decide) (backOf (W := 0) (rm14 l Z a0 hw [] (cs.getD (i - 1) 0) h0 n0 Z0) hZ (hw _ (List.mem_of_getElem? (i := 61) rfl)) (hw _ (List.mem_of_getElem? (i := 2) rfl)) (by decide) (by decide)) (g := (mkF m 66 #[.val (.ref r0), .val (.int (Int32.ofNat i)), .val (.int (cs.getD i 0))] [(.int (cs.getD (i - 1) 0))])) rfl (by rw [hml]; rfl) (argsL := [(.int (cs.getD (i - 1) 0))]) (rest := []) (lenOf pd__C_Z_238 rfl) rfl (by show 2 * 0 + _ ≤ _; exact Nat.le_of_eq rfl) (hb hby d8_66) (fun _ _ => ⟨rfl, e74, (by decide : 0 + 0 ≤ _), (by decide : 0 + 0 ≤ _)⟩)
            dsimp only [Pt.U, Pt.locs, Pt.cells, Pt.slots] at X76 l76 y76 z76 st76 hQ76
            subst l76 y76 z76
            obtain ⟨z76, rfl, N76q, e76q, hz76⟩ := hQ76
            have N76 := Fr.app N74 N76q
            refine own_by st76 ?_
            have e76 : T76.heap = h0 := e76q
            show own_Comes p e below s _ _ _ (T76.setTop (mkF m 69 #[.val (.ref r0), .val (.int (Int32.ofNat i)), .val (.int (cs.getD i 0))] [(.int z76)]))
            by_cases hq76 : z76 = (0 : Int32)
            · refine own_by (fun _ kS => XS.ifYes X76.here hx rfl (pc0 := 69) (pc' := 76) rfl (hb hby d8_69) rfl ((if0 _ _).trans (teq hq76).1) (by decide) (by decide) kS) ?_
              show own_Comes p e below s _ _ _ (T76.setTop (mkF m 76 #[.val (.ref r0), .val (.int (Int32.ofNat i)), .val (.int (cs.getD i 0))] []))
              refine own_by (fun _ kS => XS.iconst X76.here hx rfl (hb hby d8_76) kS) ?_
              show own_Comes p e below s _ _ _ (T76.setTop (mkF m 77 #[.val (.ref r0), .val (.int (Int32.ofNat i)), .val (.int (cs.getD i 0))] [(.int (0 : Int32))]))
              refine own_ret X76 (v := some (.int (0 : Int32))) (fun h => by rw [Bd.returns] at h; cases h) Bd.notSynchronized (by decide) (by decide) ?_ (fun fs hr => retN X76 hx (t := .boolean) Bd.returns (by simp) (hb hby d8_77) hr)
              rw [e76]; exact ⟨_, rfl, N76, rfl, fun q => absurd rfl q⟩
            · refine own_by (fun _ kS => XS.ifNo X76.here hx rfl (hb hby d8_69) rfl ((if0 _ _).trans (feq hq76).1) kS) ?_
              show own_Comes p e below s _ _ _ (T76.setTop (mkF m 72 #[.val (.ref r0), .val (.int (Int32.ofNat i)), .val (.int (cs.getD i 0))] []))
              refine own_by (fun _ kS => XS.iconst X76.here hx rfl (hb hby d8_72) kS) ?_
              show own_Comes p e below s _ _ _ (T76.setTop (mkF m 73 #[.val (.ref r0), .val (.int (Int32.ofNat i)), .val (.int (cs.getD i 0))] [(.int (1 : Int32))]))
              refine own_by (fun _ kS => XS.goto X76.here hx rfl (pc0 := 73) (pc' := 77) rfl (hb hby d8_73) (by decide) (by decide) kS) ?_
              show own_Comes p e below s _ _ _ (T76.setTop (mkF m 77 #[.val (.ref r0), .val (.int (Int32.ofNat i)), .val (.int (cs.getD i 0))] [(.int (1 : Int32))]))
              refine own_ret X76 (v := some (.int (1 : Int32))) (fun h => by rw [Bd.returns] at h; cases h) Bd.notSynchronized (by decide) (by decide) ?_ (fun fs hr => retN X76 hx (t := .boolean) Bd.returns (by simp) (hb hby d8_77) hr)
              rw [e76]; exact ⟨_, rfl, N76, rfl, fun _ _ => ⟨hc0, fun q => absurd q (hz73.elim (fun q => absurd (q.1.symm.trans hq73) (by decide)) (fun q => q.2)), fun _ => ⟨hp0, (hz76.elim (fun q => q.2) (fun q => absurd q.1 hq76))⟩⟩⟩
          · refine own_by (fun _ kS => XS.ifYes X74.here hx rfl (pc0 := 58) (pc' := 76) rfl (hb hby d8_58) rfl ((if0 _ _).trans (flt hpos).2.2.2) (by decide) (by decide) kS) ?_
            show own_Comes p e below s _ _ _ (T74.setTop (mkF m 76 #[.val (.ref r0), .val (.int (Int32.ofNat i)), .val (.int (cs.getD i 0))] []))
            refine own_by (fun _ kS => XS.iconst X74.here hx rfl (hb hby d8_76) kS) ?_
            show own_Comes p e below s _ _ _ (T74.setTop (mkF m 77 #[.val (.ref r0), .val (.int (Int32.ofNat i)), .val (.int (cs.getD i 0))] [(.int (0 : Int32))]))
            refine own_ret X74 (v := some (.int (0 : Int32))) (fun h => by rw [Bd.returns] at h; cases h) Bd.notSynchronized (by decide) (by decide) ?_ (fun fs hr => retN X74 hx (t := .boolean) Bd.returns (by simp) (hb hby d8_77) hr)
            rw [e74]; exact ⟨_, rfl, N74, rfl, fun q => absurd rfl q⟩
      · refine own_by (fun _ kS => XS.ifNo X73.here hx rfl (hb hby d8_22) rfl ((if0 _ _).trans (feq hq73).1) kS) ?_
        show own_Comes p e below s _ _ _ (T73.setTop (mkF m 25 #[.val (.ref r0), .val (.int (Int32.ofNat i)), .val (.int (cs.getD i 0))] []))
        refine own_by (fun _ kS => XS.iloadN X73.here hx rfl (hb hby d8_25) rfl kS) ?_
        show own_Comes p e below s _ _ _ (T73.setTop (mkF m 26 #[.val (.ref r0), .val (.int (Int32.ofNat i)), .val (.int (cs.getD i 0))] [(.int (Int32.ofNat i))]))
        refine own_by (fun _ kS => XS.iconst X73.here hx rfl (hb hby d8_26) kS) ?_
        show own_Comes p e below s _ _ _ (T73.setTop (mkF m 27 #[.val (.ref r0), .val (.int (Int32.ofNat i)), .val (.int (cs.getD i 0))] [(.int (1 : Int32)), (.int (Int32.ofNat i))]))
        refine own_by (fun _ kS => XS.iadd X73.here hx rfl (hb hby d8_27) rfl kS) ?_
        show own_Comes p e below s _ _ _ (T73.setTop (mkF m 28 #[.val (.ref r0), .val (.int (Int32.ofNat i)), .val (.int (cs.getD i 0))] [(.int ((Int32.ofNat i) + (1 : Int32)))]))
        rw [show ((Int32.ofNat i) + (1 : Int32)) = (Int32.ofNat (i + 1)) from own_succ (by omega)]
        show own_Comes p e below s _ _ _ (T73.setTop (mkF m 28 #[.val (.ref r0), .val (.int (Int32.ofNat i)), .val (.int (cs.getD i 0))] [(.int (Int32.ofNat (i + 1)))]))
        refine own_by (fun _ kS => XS.aloadN X73.here hx rfl (hb hby d8_28) rfl rfl kS) ?_
        show own_Comes p e below s _ _ _ (T73.setTop (mkF m 29 #[.val (.ref r0), .val (.int (Int32.ofNat i)), .val (.int (cs.getD i 0))] [(.ref r0), (.int (Int32.ofNat (i + 1)))]))
        have Vo77 := Vs
        obtain ⟨cl77, Ar77, qA77, SA77, NA77, HA77, GA77⟩ := Vo77
        refine own_by (fun _ kS => X73.arraylength hx (by rw [e73]; exact Ar77.1) (State.isArrayOf_alike hZ.alike Ar77.2.1) (g := (mkF m 29 #[.val (.ref r0), .val (.int (Int32.ofNat i)), .val (.int (cs.getD i 0))] [(.ref r0), (.int (Int32.ofNat (i + 1)))])) rfl rfl (hb hby d8_29) _ kS) ?_
        rw [len_of SA77 NA77]
        show own_Comes p e below s _ _ _ (T73.setTop (mkF m 30 #[.val (.ref r0), .val (.int (Int32.ofNat i)), .val (.int (cs.getD i 0))] [(.int (Int32.ofNat cs.length)), (.int (Int32.ofNat (i + 1)))]))
        by_cases hlt2 : (Int32.ofNat (i + 1)) < (Int32.ofNat cs.length)
        · refine own_by (fun _ kS => XS.icmpNo X73.here hx rfl (hb hby d8_30) rfl (tlt hlt2).2.1 kS) ?_
          show own_Comes p e below s _ _ _ (T73.setTop (mkF m 33 #[.val (.ref r0), .val (.int (Int32.ofNat i)), .val (.int (cs.getD i 0))] []))
          have hi2 := (own_lt (by omega) (by omega)).mp hlt2
          refine own_by (fun _ kS => XS.aloadN X73.here hx rfl (hb hby d8_33) rfl rfl kS) ?_
          show own_Comes p e below s _ _ _ (T73.setTop (mkF m 34 #[.val (.ref r0), .val (.int (Int32.ofNat i)), .val (.int (cs.getD i 0))] [(.ref r0)]))
          refine own_by (fun _ kS => XS.iloadN X73.here hx rfl (hb hby d8_34) rfl kS) ?_
          show own_Comes p e below s _ _ _ (T73.setTop (mkF m 35 #[.val (.ref r0), .val (.int (Int32.ofNat i)), .val (.int (cs.getD i 0))] [(.int (Int32.ofNat i)), (.ref r0)]))
          refine own_by (fun _ kS => XS.iconst X73.here hx rfl (hb hby d8_35) kS) ?_
          show own_Comes p e below s _ _ _ (T73.setTop (mkF m 36 #[.val (.ref r0), .val (.int (Int32.ofNat i)), .val (.int (cs.getD i 0))] [(.int (1 : Int32)), (.int (Int32.ofNat i)), (.ref r0)]))
          refine own_by (fun _ kS => XS.iadd X73.here hx rfl (hb hby d8_36) rfl kS) ?_
          show own_Comes p e below s _ _ _ (T73.setTop (mkF m 37 #[.val (.ref r0), .val (.int (Int32.ofNat i)), .val (.int (cs.getD i 0))] [(.int ((Int32.ofNat i) + (1 : Int32))), (.ref r0)]))
          rw [show ((Int32.ofNat i) + (1 : Int32)) = (Int32.ofNat (i + 1)) from own_succ (by omega)]
          show own_Comes p e below s _ _ _ (T73.setTop (mkF m 37 #[.val (.ref r0), .val (.int (Int32.ofNat i)), .val (.int (cs.getD i 0))] [(.int (Int32.ofNat (i + 1))), (.ref r0)]))
          have Vo78 := Vs
          obtain ⟨cl78, Ar78, qA78, SA78, NA78, HA78, GA78⟩ := Vo78
          have hin78 : ¬ ((Int32.ofNat (i + 1)) < 0 ∨ cl78.slots.size ≤ ((Int32.ofNat (i + 1))).toNatClampNeg) := own_inb SA78 (by omega) hi2
          have hat78 : cl78.slots[((Int32.ofNat (i + 1))).toNatClampNeg]? = some (.int (cs.getD (i + 1) 0)) := HA78.at hin78 (by rw [own_tn (by omega)]; exact own_char hi2)
          refine own_by (fun _ kS => X73.caload hx (j := (Int32.ofNat (i + 1))) (v := (.int (cs.getD (i + 1) 0))) (by rw [e73]; exact Ar78.1) (State.isArrayOf_alike hZ.alike Ar78.2.1) Ar78.2.2 hin78 hat78 (g := (mkF m 37 #[.val (.ref r0), .val (.int (Int32.ofNat i)), .val (.int (cs.getD i 0))] [(.int (Int32.ofNat (i + 1))), (.ref r0)])) rfl rfl (hb hby d8_37) _ kS) ?_
          show own_Comes p e below s _ _ _ (T73.setTop (mkF m 38 #[.val (.ref r0), .val (.int (Int32.ofNat i)), .val (.int (cs.getD i 0))] [(.int (cs.getD (i + 1) 0))]))
          obtain ⟨vv79, _, ⟨T79, L79, k79, n79⟩, -, X79, ⟨Lc79, hQ79, l79, y79, z79⟩, st79⟩ := Jvm.LawKit.callS X73 hx (y := (⟨"com/example/holdfast/holdfast/spi/LockArgumentsRequireNamePinLaw", "isLow", "(C)Z"⟩ : MethodName)) hown (mvT hZ (hw _ (List.mem_of_getElem? (i := 63) rfl))) (mvT hZ (hw _ (List.mem_of_getElem? (i := 64) rfl))) (mvT hZ (hw _ (List.mem_of_getElem? (i := 2) rfl))) (mvT hZ (hw _ (List.mem_of_getElem? (i := 65) rfl))) (by decide) (backOf (W := 0) (rm15 l Z a0 hw [] (cs.getD (i + 1) 0) h0 n0 Z0) hZ (hw _ (List.mem_of_getElem? (i := 65) rfl)) (hw _ (List.mem_of_getElem? (i := 2) rfl)) (by decide) (by decide)) (g := (mkF m 38 #[.val (.ref r0), .val (.int (Int32.ofNat i)), .val (.int (cs.getD i 0))] [(.int (cs.getD (i + 1) 0))])) rfl (by rw [hml]; rfl) (argsL := [(.int (cs.getD (i + 1) 0))]) (rest := []) (lenOf pd__C_Z_238 rfl) rfl (by show 2 * 0 + _ ≤ _; exact Nat.le_of_eq rfl) (hb hby d8_38) (fun _ _ => ⟨rfl, e73, (by decide : 0 + 0 ≤ _), (by decide : 0 + 0 ≤ _)⟩)
          dsimp only [Pt.U, Pt.locs, Pt.cells, Pt.slots] at X79 l79 y79 z79 st79 hQ79
          subst l79 y79 z79
          obtain ⟨z79, rfl, N79q, e79q, hz79⟩ := hQ79
          have N79 := Fr.app N73 N79q
          refine own_by st79 ?_
          have e79 : T79.heap = h0 := e79q
          show own_Comes p e below s _ _ _ (T79.setTop (mkF m 41 #[.val (.ref r0), .val (.int (Int32.ofNat i)), .val (.int (cs.getD i 0))] [(.int z79)]))
          by_cases hq79 : z79 = (0 : Int32)
          · refine own_by (fun _ kS => XS.ifYes X79.here hx rfl (pc0 := 41) (pc' := 48) rfl (hb hby d8_41) rfl ((if0 _ _).trans (teq hq79).1) (by decide) (by decide) kS) ?_
            show own_Comes p e below s _ _ _ (T79.setTop (mkF m 48 #[.val (.ref r0), .val (.int (Int32.ofNat i)), .val (.int (cs.getD i 0))] []))
            refine own_by (fun _ kS => XS.iconst X79.here hx rfl (hb hby d8_48) kS) ?_
            show own_Comes p e below s _ _ _ (T79.setTop (mkF m 49 #[.val (.ref r0), .val (.int (Int32.ofNat i)), .val (.int (cs.getD i 0))] [(.int (0 : Int32))]))
            refine own_ret X79 (v := some (.int (0 : Int32))) (fun h => by rw [Bd.returns] at h; cases h) Bd.notSynchronized (by decide) (by decide) ?_ (fun fs hr => retN X79 hx (t := .boolean) Bd.returns (by simp) (hb hby d8_49) hr)
            rw [e79]; exact ⟨_, rfl, N79, rfl, fun q => absurd rfl q⟩
          · refine own_by (fun _ kS => XS.ifNo X79.here hx rfl (hb hby d8_41) rfl ((if0 _ _).trans (feq hq79).1) kS) ?_
            show own_Comes p e below s _ _ _ (T79.setTop (mkF m 44 #[.val (.ref r0), .val (.int (Int32.ofNat i)), .val (.int (cs.getD i 0))] []))
            refine own_by (fun _ kS => XS.iconst X79.here hx rfl (hb hby d8_44) kS) ?_
            show own_Comes p e below s _ _ _ (T79.setTop (mkF m 45 #[.val (.ref r0), .val (.int (Int32.ofNat i)), .val (.int (cs.getD i 0))] [(.int (1 : Int32))]))
            refine own_by (fun _ kS => XS.goto X79.here hx rfl (pc0 := 45) (pc' := 49) rfl (hb hby d8_45) (by decide) (by decide) kS) ?_
            show own_Comes p e below s _ _ _ (T79.setTop (mkF m 49 #[.val (.ref r0), .val (.int (Int32.ofNat i)), .val (.int (cs.getD i 0))] [(.int (1 : Int32))]))
            refine own_ret X79 (v := some (.int (1 : Int32))) (fun h => by rw [Bd.returns] at h; cases h) Bd.notSynchronized (by decide) (by decide) ?_ (fun fs hr => retN X79 hx (t := .boolean) Bd.returns (by simp) (hb hby d8_49) hr)
            rw [e79]; exact ⟨_, rfl, N79, rfl, fun _ _ => ⟨hc0, fun _ => ⟨hi2, (hz79.elim (fun q => q.2) (fun q => absurd q.1 hq79))⟩, fun q => absurd q (own_hilo (hz73.elim (fun q => q.2) (fun q => absurd q.1 hq73)))⟩⟩
        · refine own_by (fun _ kS => XS.icmpYes X73.here hx rfl (pc0 := 30) (pc' := 48) rfl (hb hby d8_30) rfl (flt hlt2).2.1 (by decide) (by decide) kS) ?_
          show own_Comes p e below s _ _ _ (T73.setTop (mkF m 48 #[.val (.ref r0), .val (.int (Int32.ofNat i)), .val (.int (cs.getD i 0))] []))
          refine own_by (fun _ kS => XS.iconst X73.here hx rfl (hb hby d8_48) kS) ?_
          show own_Comes p e below s _ _ _ (T73.setTop (mkF m 49 #[.val (.ref r0), .val (.int (Int32.ofNat i)), .val (.int (cs.getD i 0))] [(.int (0 : Int32))]))
          refine own_ret X73 (v := some (.int (0 : Int32))) (fun h => by rw [Bd.returns] at h; cases h) Bd.notSynchronized (by decide) (by decide) ?_ (fun fs hr => retN X73 hx (t := .boolean) Bd.returns (by simp) (hb hby d8_49) hr)
          rw [e73]; exact ⟨_, rfl, N73, rfl, fun q => absurd rfl q⟩
  · refine own_by (fun _ kS => XS.icmpNo X0.here hx rfl (hb hby d8_3) rfl (flt hlt).1 kS) ?_
    show own_Comes p e below s _ _ _ (s₁.setTop (mkF m 6 #[.val (.ref r0), .val (.int (Int32.ofNat i)), .unset] []))
    refine own_by (fun _ kS => XS.iconst X0.here hx rfl (hb hby d8_6) kS) ?_
    show own_Comes p e below s _ _ _ (s₁.setTop (mkF m 7 #[.val (.ref r0), .val (.int (Int32.ofNat i)), .unset] [(.int (1 : Int32))]))
    refine own_ret X0 (v := some (.int (1 : Int32))) (fun h => by rw [Bd.returns] at h; cases h) Bd.notSynchronized (by decide) (by decide) ?_ (fun fs hr => retN X0 hx (t := .boolean) Bd.returns (by simp) (hb hby d8_7) hr)
    rw [e0]; exact ⟨_, rfl, N0, rfl, fun _ q => absurd ((own_lt (by omega) (by omega)).mpr q) hlt⟩
def Q35 (Z : State) (p0 p1 : Int32) (h0 : Heap) (n0 : Nat) (v : Option Value) (h : Heap) (L : List Loc) : Prop := v = some (.int (((p0 <<< ((10 : Int32) &&& 31)) + p1) + (-56613888 : Int32))) ∧ Fr n0 L ∧ h = h0
theorem ef_rm35 (m : MethodId) (x0 : Int32) (x1 : Int32) : entryFrame m #[(.int x0), (.int x1)] 2 = mkF m 0 #[.val (.int x0), .val (.int x1)] [] := by first | (simp [entryFrame, mkF, argsToLocals, Value.category]; done) | rfl
theorem d35_0 : decode jdk_89_method_19_code 0 = .ok (.iload_n 0, 1) := by decide +kernel
theorem d35_1 : decode jdk_89_method_19_code 1 = .ok (.bipush 10, 2) := by decide +kernel
theorem d35_3 : decode jdk_89_method_19_code 3 = .ok (.ishl, 1) := by decide +kernel
theorem d35_4 : decode jdk_89_method_19_code 4 = .ok (.iload_n 1, 1) := by decide +kernel
theorem d35_5 : decode jdk_89_method_19_code 5 = .ok (.iadd, 1) := by decide +kernel
theorem d35_6 : decode jdk_89_method_19_code 6 = .ok (.ldc 85, 2) := by decide +kernel
theorem d35_8 : decode jdk_89_method_19_code 8 = .ok (.iadd, 1) := by decide +kernel
theorem d35_9 : decode jdk_89_method_19_code 9 = .ok (.ireturn, 1) := by decide +kernel
set_option maxRecDepth 65536 in
set_option maxHeartbeats 40000000 in
theorem rm35 (l : Launch) (Z : State) (a0 : Array Value) (hw : ∀ d ∈ tables_1, d.before a0 Z = true) (ws : List Jvm.Cond) (p0 p1 : Int32) (h0 : Heap) (n0 : Nat) (Z0 : n0 ≤ h0.size) :
    MetFree l (⟨"java/lang/Character", "toCodePoint", "(CC)I"⟩ : MethodName) (head1 (Jvm.Cond.code (⟨"java/lang/Character", "toCodePoint", "(CC)I"⟩ : MethodName) jdk_89_method_19_code 2 (some .int) :: ws) ({ frames := 0, cells := 0, slots := 0, locals := 0 } : Room)) (fun aX UX => aX = #[(.int p0), (.int p1)] ∧ Z.Warmed39 UX.vm ∧ UX.heap = h0) (fun _ _ _ _ _ => True) (fun _ UX oX UX' => ∃ vX LX, oX = .returned vX ∧ Q35 Z p0 p1 h0 n0 vX UX'.heap LX ∧ FrameEnd UX oX UX' LX ({ frames := 0, cells := 0, slots := 0, locals := 0 } : Room).cells ({ frames := 0, cells := 0, slots := 0, locals := 0 } : Room).slots) := by
  refine MetFree.of_bodySF (plainFor_of_name pn_java_lang_Character) hisR ?_
  intro p e s m args below meth c s₁ Bd hml0 hP hK
  obtain ⟨rfl, hZ, hh⟩ := hP
  have hx := Bd.exec
  have hby := Bd.bytes
  have hml : c.maxLocals = 2 := hml0
  have hown : s.vm.findClass "java/lang/Character" = some m.cls := findClass_of_methodNamed Bd.named
  have hnm := (name_of_methodNamed Bd.named Bd.method).1
  have X0 : Stand p l e ({ frames := 0, cells := 0, slots := 0, locals := 0 } : Room) s m #[(.int p0), (.int p1)] below meth c s₁ [] 0 0 := Stand.of_body Bd
  have e0 : s₁.heap = h0 := by rw [← hh, Bd.state]; rfl
  have N0 := Fr.nil n0
  show own_Comes p e below s ({ frames := 0, cells := 0, slots := 0, locals := 0 } : Room).cells ({ frames := 0, cells := 0, slots := 0, locals := 0 } : Room).slots (Q35 Z p0 p1 h0 n0) _
  rw [show entryFrame m #[(.int p0), (.int p1)] 2 = mkF m 0 #[.val (.int p0), .val (.int p1)] [] from ef_rm35 m p0 p1]
  show own_Comes p e below s _ _ _ (s₁.setTop (mkF m 0 #[.val (.int p0), .val (.int p1)] []))
  refine own_by (fun _ kS => XS.iloadN X0.here hx rfl (hb hby d35_0) rfl kS) ?_
  show own_Comes p e below s _ _ _ (s₁.setTop (mkF m 1 #[.val (.int p0), .val (.int p1)] [(.int p0)]))
  refine own_by (fun _ kS => XS.bipush X0.here hx rfl (hb hby d35_1) kS) ?_
  show own_Comes p e below s _ _ _ (s₁.setTop (mkF m 3 #[.val (.int p0), .val (.int p1)] [(.int (10 : Int32)), (.int p0)]))
  refine own_by (fun _ kS => XS.ishl X0.here hx rfl (hb hby d35_3) rfl kS) ?_
  show own_Comes p e below s _ _ _ (s₁.setTop (mkF m 4 #[.val (.int p0), .val (.int p1)] [(.int (p0 <<< ((10 : Int32) &&& 31)))]))
  refine own_by (fun _ kS => XS.iloadN X0.here hx rfl (hb hby d35_4) rfl kS) ?_
  show own_Comes p e below s _ _ _ (s₁.setTop (mkF m 5 #[.val (.int p0), .val (.int p1)] [(.int p1), (.int (p0 <<< ((10 : Int32) &&& 31)))]))
  refine own_by (fun _ kS => XS.iadd X0.here hx rfl (hb hby d35_5) rfl kS) ?_
  show own_Comes p e below s _ _ _ (s₁.setTop (mkF m 6 #[.val (.int p0), .val (.int p1)] [(.int ((p0 <<< ((10 : Int32) &&& 31)) + p1))]))
  refine own_by (fun _ kS => X0.ldcInt hx hown (mvT hZ (hw _ (List.mem_of_getElem? (i := 163) rfl))) (g := (mkF m 6 #[.val (.int p0), .val (.int p1)] [(.int ((p0 <<< ((10 : Int32) &&& 31)) + p1))])) rfl (hb hby d35_6) _ kS) ?_
  show own_Comes p e below s _ _ _ (s₁.setTop (mkF m 8 #[.val (.int p0), .val (.int p1)] [(.int (-56613888 : Int32)), (.int ((p0 <<< ((10 : Int32) &&& 31)) + p1))]))
  refine own_by (fun _ kS => XS.iadd X0.here hx rfl (hb hby d35_8) rfl kS) ?_
  show own_Comes p e below s _ _ _ (s₁.setTop (mkF m 9 #[.val (.int p0), .val (.int p1)] [(.int (((p0 <<< ((10 : Int32) &&& 31)) + p1) + (-56613888 : Int32)))]))
  refine own_ret X0 (v := some (.int (((p0 <<< ((10 : Int32) &&& 31)) + p1) + (-56613888 : Int32)))) (fun h => by rw [Bd.returns] at h; cases h) Bd.notSynchronized (by decide) (by decide) ?_ (fun fs hr => retI X0 hx Bd.returns (hb hby d35_9) hr)
  rw [e0]; exact ⟨rfl, N0, rfl⟩
def Q30 (Z : State) (c : Int32) (h0 : Heap) (n0 : Nat) (v : Option Value) (h : Heap) (L : List Loc) : Prop := v = some (.int c) ∧ Fr n0 L ∧ h = h0
def Q29 (Z : State) (c : Int32) (h0 : Heap) (n0 : Nat) (v : Option Value) (h : Heap) (L : List Loc) : Prop := v = some (.int c) ∧ Fr n0 L ∧ h = h0
def Q20 (Z : State) (c : Int32) (h0 : Heap) (n0 : Nat) (v : Option Value) (h : Heap) (L : List Loc) : Prop := v = some (.int c) ∧ Fr n0 L ∧ h = h0
theorem ef_rm30s (m : MethodId) (x0 : Addr) (x1 : Int32) (x2 : Int32) (x3 : Int32) : entryFrame m #[(.ref x0), (.int x1), (.int x2), (.int x3)] 6 = mkF m 0 #[.val (.ref x0), .val (.int x1), .val (.int x2), .val (.int x3), .unset, .unset] [] := by first | (simp [entryFrame, mkF, argsToLocals, Value.category]; done) | rfl
theorem d30_0 : decode jdk_52_method_7_code 0 = .ok (.getstatic 44, 3) := by decide +kernel
theorem d30_3 : decode jdk_52_method_7_code 3 = .ok (.ifCond .ne 16, 3) := by decide +kernel
theorem d30_19 : decode jdk_52_method_7_code 19 = .ok (.iload_n 3, 1) := by decide +kernel
theorem d30_20 : decode jdk_52_method_7_code 20 = .ok (.ifCond .eq 8, 3) := by decide +kernel
theorem d30_28 : decode jdk_52_method_7_code 28 = .ok (.aload_n 0, 1) := by decide +kernel
theorem d30_29 : decode jdk_52_method_7_code 29 = .ok (.iload_n 1, 1) := by decide +kernel
theorem d30_30 : decode jdk_52_method_7_code 30 = .ok (.invokestatic 71, 3) := by decide +kernel
theorem d30_33 : decode jdk_52_method_7_code 33 = .ok (.istore 4, 2) := by decide +kernel
theorem d30_35 : decode jdk_52_method_7_code 35 = .ok (.iload 4, 2) := by decide +kernel
theorem d30_37 : decode jdk_52_method_7_code 37 = .ok (.invokestatic 75, 3) := by decide +kernel
theorem d30_40 : decode jdk_52_method_7_code 40 = .ok (.ifCond .eq 43, 3) := by decide +kernel
theorem d30_83 : decode jdk_52_method_7_code 83 = .ok (.iload 4, 2) := by decide +kernel
theorem d30_85 : decode jdk_52_method_7_code 85 = .ok (.ireturn, 1) := by decide +kernel
set_option maxRecDepth 65536 in
set_option maxHeartbeats 40000000 in
theorem rm30s (l : Launch) (Z : State) (a0 : Array Value) (hw : ∀ d ∈ tables_1, d.before a0 Z = true) (ws : List Jvm.Cond) (r0 : Addr) (i : Nat) (kb : ClassId) (cs : List Int32) (h0 : Heap) (n0 : Nat) (Z0 : n0 ≤ h0.size) (O0 : Old Z n0 h0) (Sd : Sta Z Z.heap "java/lang/StringUTF16" "$assertionsDisabled" "Z" (.int (1 : Int32))) (Sh : Sta Z Z.heap "java/lang/StringUTF16" "HI_BYTE_SHIFT" "I" (.int (0 : Int32))) (Sl : Sta Z Z.heap "java/lang/StringUTF16" "LO_BYTE_SHIFT" "I" (.int (8 : Int32))) (Va : Arv Z h0 r0 kb .byte (Int32.ofNat (2 * cs.length)) (StrChars.Road.wideBytes cs) (.int 0)) (hl : cs.length ≤ 4000) (hi : i < cs.length) (hB : ∀ c ∈ cs, ¬ c < 0 ∧ ¬ (65535 : Int32) < c) (hs : ¬ own_hi (cs.getD i 0)) :
    MetFree l (⟨"java/lang/StringUTF16", "codePointAt", "([BIIZ)I"⟩ : MethodName) (head1 (Jvm.Cond.code (⟨"java/lang/StringUTF16", "codePointAt", "([BIIZ)I"⟩ : MethodName) jdk_52_method_7_code 6 (some .int) :: ws) ({ frames := 1, cells := 0, slots := 0, locals := 13 } : Room)) (fun aX UX => aX = #[(.ref r0), (.int (Int32.ofNat i)), (.int (Int32.ofNat cs.length)), (.int (0 : Int32))] ∧ Z.Warmed39 UX.vm ∧ UX.heap = h0) (fun _ _ _ _ _ => True) (fun _ UX oX UX' => ∃ vX LX, oX = .returned vX ∧ Q30 Z (cs.getD i 0) h0 n0 vX UX'.heap LX ∧ FrameEnd UX oX UX' LX ({ frames := 1, cells := 0, slots := 0, locals := 13 } : Room).cells ({ frames := 1, cells := 0, slots := 0, locals := 13 } : Room).slots) := by
  refine MetFree.of_bodySF (plainFor_of_name pn_java_lang_StringUTF16) hisR ?_
  intro p e s m args below meth c s₁ Bd hml0 hP hK
  obtain ⟨rfl, hZ, hh⟩ := hP
  have hx := Bd.exec
  have hby := Bd.bytes
  have hml : c.maxLocals = 6 := hml0
  have hown : s.vm.findClass "java/lang/StringUTF16" = some m.cls := findClass_of_methodNamed Bd.named
  have hnm := (name_of_methodNamed Bd.named Bd.method).1
  have X0 : Stand p l e ({ frames := 1, cells := 0, slots := 0, locals := 13 } : Room) s m #[(.ref r0), (.int (Int32.ofNat i)), (.int (Int32.ofNat cs.length)), (.int (0 : Int32))] below meth c s₁ [] 0 0 := Stand.of_body Bd
  have e0 : s₁.heap = h0 := by rw [← hh, Bd.state]; rfl
  have N0 := Fr.nil n0
  show own_Comes p e below s ({ frames := 1, cells := 0, slots := 0, locals := 13 } : Room).cells ({ frames := 1, cells := 0, slots := 0, locals := 13 } : Room).slots (Q30 Z (cs.getD i 0) h0 n0) _
  rw [show entryFrame m #[(.ref r0), (.int (Int32.ofNat i)), (.int (Int32.ofNat cs.length)), (.int (0 : Int32))] 6 = mkF m 0 #[.val (.ref r0), .val (.int (Int32.ofNat i)), .val (.int (Int32.ofNat cs.length)), .val (.int (0 : Int32)), .unset, .unset] [] from ef_rm30s m r0 (Int32.ofNat i) (Int32.ofNat cs.length) (0 : Int32)]
  show own_Comes p e below s _ _ _ (s₁.setTop (mkF m 0 #[.val (.ref r0), .val (.int (Int32.ofNat i)), .val (.int (Int32.ofNat cs.length)), .val (.int (0 : Int32)), .unset, .unset] []))
  obtain ⟨T80, X80, e80, st80⟩ := getS2 X0 hx hZ hown (host := "") (Or.inl (hw _ (List.mem_of_getElem? (i := 53) rfl))) Via.refl e0 (Sd.ext O0.2) (g := (mkF m 0 #[.val (.ref r0), .val (.int (Int32.ofNat i)), .val (.int (Int32.ofNat cs.length)), .val (.int (0 : Int32)), .unset, .unset] [])) rfl (hb hby d30_0)
  refine own_by st80 ?_
  show own_Comes p e below s _ _ _ (T80.setTop (mkF m 3 #[.val (.ref r0), .val (.int (Int32.ofNat i)), .val (.int (Int32.ofNat cs.length)), .val (.int (0 : Int32)), .unset, .unset] [(.int (1 : Int32))]))
  have hb81 : ¬ ((1 : Int32) = (0 : Int32)) := by decide
  refine own_by (fun _ kS => XS.ifYes X80.here hx rfl (pc0 := 3) (pc' := 19) rfl (hb hby d30_3) rfl ((if0 _ _).trans (feq hb81).2) (by decide) (by decide) kS) ?_
  show own_Comes p e below s _ _ _ (T80.setTop (mkF m 19 #[.val (.ref r0), .val (.int (Int32.ofNat i)), .val (.int (Int32.ofNat cs.length)), .val (.int (0 : Int32)), .unset, .unset] []))
  refine own_by (fun _ kS => XS.iloadN X80.here hx rfl (hb hby d30_19) rfl kS) ?_
  show own_Comes p e below s _ _ _ (T80.setTop (mkF m 20 #[.val (.ref r0), .val (.int (Int32.ofNat i)), .val (.int (Int32.ofNat cs.length)), .val (.int (0 : Int32)), .unset, .unset] [(.int (0 : Int32))]))
  have hb82 : (0 : Int32) = (0 : Int32) := by decide
  refine own_by (fun _ kS => XS.ifYes X80.here hx rfl (pc0 := 20) (pc' := 28) rfl (hb hby d30_20) rfl ((if0 _ _).trans (teq hb82).1) (by decide) (by decide) kS) ?_
  show own_Comes p e below s _ _ _ (T80.setTop (mkF m 28 #[.val (.ref r0), .val (.int (Int32.ofNat i)), .val (.int (Int32.ofNat cs.length)), .val (.int (0 : Int32)), .unset, .unset] []))
  refine own_by (fun _ kS => XS.aloadN X80.here hx rfl (hb hby d30_28) rfl rfl kS) ?_
  show own_Comes p e below s _ _ _ (T80.setTop (mkF m 29 #[.val (.ref r0), .val (.int (Int32.ofNat i)), .val (.int (Int32.ofNat cs.length)), .val (.int (0 : Int32)), .unset, .unset] [(.ref r0)]))
  refine own_by (fun _ kS => XS.iloadN X80.here hx rfl (hb hby d30_29) rfl kS) ?_
  show own_Comes p e below s _ _ _ (T80.setTop (mkF m 30 #[.val (.ref r0), .val (.int (Int32.ofNat i)), .val (.int (Int32.ofNat cs.length)), .val (.int (0 : Int32)), .unset, .unset] [(.int (Int32.ofNat i)), (.ref r0)]))
  obtain ⟨vv83, _, ⟨T83, L83, k83, n83⟩, -, X83, ⟨Lc83, hQ83, l83, y83, z83⟩, st83⟩ := Jvm.LawKit.callS X80 hx (y := (⟨"java/lang/StringUTF16", "getChar", "([BI)C"⟩ : MethodName)) hown (mvT hZ (hw _ (List.mem_of_getElem? (i := 56) rfl))) (mvT hZ (hw _ (List.mem_of_getElem? (i := 57) rfl))) (mvT hZ (hw _ (List.mem_of_getElem? (i := 24) rfl))) (mvT hZ (hw _ (List.mem_of_getElem? (i := 58) rfl))) (by decide) (backOf (W := 0) (rm13 l Z a0 hw [] r0 i kb cs h0 n0 Z0 O0 Sd Sh Sl Va hl hi hB) hZ (hw _ (List.mem_of_getElem? (i := 58) rfl)) (hw _ (List.mem_of_getElem? (i := 24) rfl)) (by decide) (by decide)) (g := (mkF m 30 #[.val (.ref r0), .val (.int (Int32.ofNat i)), .val (.int (Int32.ofNat cs.length)), .val (.int (0 : Int32)), .unset, .unset] [(.int (Int32.ofNat i)), (.ref r0)])) rfl (by rw [hml]; rfl) (argsL := [(.ref r0), (.int (Int32.ofNat i))]) (rest := []) (lenOf pd___BI_C_378 rfl) rfl (by show 2 * 0 + _ ≤ _; exact Nat.le_of_eq rfl) (hb hby d30_30) (fun _ _ => ⟨rfl, e80, (by decide : 0 + 0 ≤ _), (by decide : 0 + 0 ≤ _)⟩)
  dsimp only [Pt.U, Pt.locs, Pt.cells, Pt.slots] at X83 l83 y83 z83 st83 hQ83
  subst l83 y83 z83
  obtain ⟨rfl, N83q, e83q⟩ := hQ83
  have N83 := Fr.app N0 N83q
  refine own_by st83 ?_
  have e83 : T83.heap = h0 := e83q
  show own_Comes p e below s _ _ _ (T83.setTop (mkF m 33 #[.val (.ref r0), .val (.int (Int32.ofNat i)), .val (.int (Int32.ofNat cs.length)), .val (.int (0 : Int32)), .unset, .unset] [(.int (cs.getD i 0))]))
  refine own_by (fun _ kS => XS.istore X83.here hx rfl (hb hby d30_33) rfl (l' := #[.val (.ref r0), .val (.int (Int32.ofNat i)), .val (.int (Int32.ofNat cs.length)), .val (.int (0 : Int32)), .val (.int (cs.getD i 0)), .unset]) rfl kS) ?_
  show own_Comes p e below s _ _ _ (T83.setTop (mkF m 35 #[.val (.ref r0), .val (.int (Int32.ofNat i)), .val (.int (Int32.ofNat cs.length)), .val (.int (0 : Int32)), .val (.int (cs.getD i 0)), .unset] []))
  refine own_by (fun _ kS => XS.iload X83.here hx rfl (hb hby d30_35) rfl kS) ?_
  show own_Comes p e below s _ _ _ (T83.setTop (mkF m 37 #[.val (.ref r0), .val (.int (Int32.ofNat i)), .val (.int (Int32.ofNat cs.length)), .val (.int (0 : Int32)), .val (.int (cs.getD i 0)), .unset] [(.int (cs.getD i 0))]))
  obtain ⟨vv84, _, ⟨T84, L84, k84, n84⟩, -, X84, ⟨Lc84, hQ84, l84, y84, z84⟩, st84⟩ := Jvm.LawKit.callS X83 hx (y := (⟨"java/lang/Character", "isHighSurrogate", "(C)Z"⟩ : MethodName)) hown (mvT hZ (hw _ (List.mem_of_getElem? (i := 144) rfl))) (mvT hZ (hw _ (List.mem_of_getElem? (i := 134) rfl))) (mvT hZ (hw _ (List.mem_of_getElem? (i := 111) rfl))) (mvT hZ (hw _ (List.mem_of_getElem? (i := 135) rfl))) (by decide) (backOf (W := 0) (rm28 l Z a0 hw [] (cs.getD i 0) h0 n0 Z0) hZ (hw _ (List.mem_of_getElem? (i := 135) rfl)) (hw _ (List.mem_of_getElem? (i := 111) rfl)) (by decide) (by decide)) (g := (mkF m 37 #[.val (.ref r0), .val (.int (Int32.ofNat i)), .val (.int (Int32.ofNat cs.length)), .val (.int (0 : Int32)), .val (.int (cs.getD i 0)), .unset] [(.int (cs.getD i 0))])) rfl (by rw [hml]; rfl) (argsL := [(.int (cs.getD i 0))]) (rest := []) (lenOf pd__C_Z_238 rfl) rfl (by show 2 * 0 + _ ≤ _; exact Nat.le_of_eq rfl) (hb hby d30_37) (fun _ _ => ⟨rfl, e83, (by decide : 0 + 0 ≤ _), (by decide : 0 + 0 ≤ _)⟩)
  dsimp only [Pt.U, Pt.locs, Pt.cells, Pt.slots] at X84 l84 y84 z84 st84 hQ84
  subst l84 y84 z84
  obtain ⟨z84, rfl, N84q, e84q, hz84⟩ := hQ84
  have N84 := Fr.app N83 N84q
  refine own_by st84 ?_
  have e84 : T84.heap = h0 := e84q
  show own_Comes p e below s _ _ _ (T84.setTop (mkF m 40 #[.val (.ref r0), .val (.int (Int32.ofNat i)), .val (.int (Int32.ofNat cs.length)), .val (.int (0 : Int32)), .val (.int (cs.getD i 0)), .unset] [(.int z84)]))
  have hb85 : z84 = (0 : Int32) := hz84.elim (fun q => absurd q.2 hs) (fun q => q.1)
  refine own_by (fun _ kS => XS.ifYes X84.here hx rfl (pc0 := 40) (pc' := 83) rfl (hb hby d30_40) rfl ((if0 _ _).trans (teq hb85).1) (by decide) (by decide) kS) ?_
  show own_Comes p e below s _ _ _ (T84.setTop (mkF m 83 #[.val (.ref r0), .val (.int (Int32.ofNat i)), .val (.int (Int32.ofNat cs.length)), .val (.int (0 : Int32)), .val (.int (cs.getD i 0)), .unset] []))
  refine own_by (fun _ kS => XS.iload X84.here hx rfl (hb hby d30_83) rfl kS) ?_
  show own_Comes p e below s _ _ _ (T84.setTop (mkF m 85 #[.val (.ref r0), .val (.int (Int32.ofNat i)), .val (.int (Int32.ofNat cs.length)), .val (.int (0 : Int32)), .val (.int (cs.getD i 0)), .unset] [(.int (cs.getD i 0))]))
  refine own_ret X84 (v := some (.int (cs.getD i 0))) (fun h => by rw [Bd.returns] at h; cases h) Bd.notSynchronized (by decide) (by decide) ?_ (fun fs hr => retI X84 hx Bd.returns (hb hby d30_85) hr)
  rw [e84]; exact ⟨rfl, N84, rfl⟩
theorem ef_rm30p (m : MethodId) (x0 : Addr) (x1 : Int32) (x2 : Int32) (x3 : Int32) : entryFrame m #[(.ref x0), (.int x1), (.int x2), (.int x3)] 6 = mkF m 0 #[.val (.ref x0), .val (.int x1), .val (.int x2), .val (.int x3), .unset, .unset] [] := by first | (simp [entryFrame, mkF, argsToLocals, Value.category]; done) | rfl
theorem d30_43 : decode jdk_52_method_7_code 43 = .ok (.iinc 1 1, 3) := by decide +kernel
theorem d30_46 : decode jdk_52_method_7_code 46 = .ok (.iload_n 1, 1) := by decide +kernel
theorem d30_47 : decode jdk_52_method_7_code 47 = .ok (.iload_n 2, 1) := by decide +kernel
theorem d30_48 : decode jdk_52_method_7_code 48 = .ok (.if_icmp .ge 35, 3) := by decide +kernel
theorem d30_51 : decode jdk_52_method_7_code 51 = .ok (.iload_n 3, 1) := by decide +kernel
theorem d30_52 : decode jdk_52_method_7_code 52 = .ok (.ifCond .eq 8, 3) := by decide +kernel
theorem d30_60 : decode jdk_52_method_7_code 60 = .ok (.aload_n 0, 1) := by decide +kernel
theorem d30_61 : decode jdk_52_method_7_code 61 = .ok (.iload_n 1, 1) := by decide +kernel
theorem d30_62 : decode jdk_52_method_7_code 62 = .ok (.invokestatic 71, 3) := by decide +kernel
theorem d30_65 : decode jdk_52_method_7_code 65 = .ok (.istore 5, 2) := by decide +kernel
theorem d30_67 : decode jdk_52_method_7_code 67 = .ok (.iload 5, 2) := by decide +kernel
theorem d30_69 : decode jdk_52_method_7_code 69 = .ok (.invokestatic 81, 3) := by decide +kernel
theorem d30_72 : decode jdk_52_method_7_code 72 = .ok (.ifCond .eq 11, 3) := by decide +kernel
theorem d30_75 : decode jdk_52_method_7_code 75 = .ok (.iload 4, 2) := by decide +kernel
theorem d30_77 : decode jdk_52_method_7_code 77 = .ok (.iload 5, 2) := by decide +kernel
theorem pd__CC_I_288 : parseMethodDescriptor "(CC)I" = some ⟨[.char, .char], some .int⟩ := by decide +kernel
theorem d30_79 : decode jdk_52_method_7_code 79 = .ok (.invokestatic 84, 3) := by decide +kernel
theorem d30_82 : decode jdk_52_method_7_code 82 = .ok (.ireturn, 1) := by decide +kernel
set_option maxRecDepth 65536 in
set_option maxHeartbeats 40000000 in
theorem rm30p (l : Launch) (Z : State) (a0 : Array Value) (hw : ∀ d ∈ tables_1, d.before a0 Z = true) (ws : List Jvm.Cond) (r0 : Addr) (i : Nat) (kb : ClassId) (cs : List Int32) (h0 : Heap) (n0 : Nat) (Z0 : n0 ≤ h0.size) (O0 : Old Z n0 h0) (Sd : Sta Z Z.heap "java/lang/StringUTF16" "$assertionsDisabled" "Z" (.int (1 : Int32))) (Sh : Sta Z Z.heap "java/lang/StringUTF16" "HI_BYTE_SHIFT" "I" (.int (0 : Int32))) (Sl : Sta Z Z.heap "java/lang/StringUTF16" "LO_BYTE_SHIFT" "I" (.int (8 : Int32))) (Va : Arv Z h0 r0 kb .byte (Int32.ofNat (2 * cs.length)) (StrChars.Road.wideBytes cs) (.int 0)) (hl : cs.length ≤ 4000) (hi : i < cs.length) (hB : ∀ c ∈ cs, ¬ c < 0 ∧ ¬ (65535 : Int32) < c) (hs : own_hi (cs.getD i 0)) (hi2 : i + 1 < cs.length) (hlo : own_lo (cs.getD (i + 1) 0)) :
    MetFree l (⟨"java/lang/StringUTF16", "codePointAt", "([BIIZ)I"⟩ : MethodName) (head1 (Jvm.Cond.code (⟨"java/lang/StringUTF16", "codePointAt", "([BIIZ)I"⟩ : MethodName) jdk_52_method_7_code 6 (some .int) :: ws) ({ frames := 1, cells := 0, slots := 0, locals := 13 } : Room)) (fun aX UX => aX = #[(.ref r0), (.int (Int32.ofNat i)), (.int (Int32.ofNat cs.length)), (.int (0 : Int32))] ∧ Z.Warmed39 UX.vm ∧ UX.heap = h0) (fun _ _ _ _ _ => True) (fun _ UX oX UX' => ∃ vX LX, oX = .returned vX ∧ Q30 Z ((((cs.getD i 0) <<< ((10 : Int32) &&& 31)) + (cs.getD (i + 1) 0)) + (-56613888 : Int32)) h0 n0 vX UX'.heap LX ∧ FrameEnd UX oX UX' LX ({ frames := 1, cells := 0, slots := 0, locals := 13 } : Room).cells ({ frames := 1, cells := 0, slots := 0, locals := 13 } : Room).slots) := by
  refine MetFree.of_bodySF (plainFor_of_name pn_java_lang_StringUTF16) hisR ?_
  intro p e s m args below meth c s₁ Bd hml0 hP hK
  obtain ⟨rfl, hZ, hh⟩ := hP
  have hx := Bd.exec
  have hby := Bd.bytes
  have hml : c.maxLocals = 6 := hml0
  have hown : s.vm.findClass "java/lang/StringUTF16" = some m.cls := findClass_of_methodNamed Bd.named
  have hnm := (name_of_methodNamed Bd.named Bd.method).1
  have X0 : Stand p l e ({ frames := 1, cells := 0, slots := 0, locals := 13 } : Room) s m #[(.ref r0), (.int (Int32.ofNat i)), (.int (Int32.ofNat cs.length)), (.int (0 : Int32))] below meth c s₁ [] 0 0 := Stand.of_body Bd
  have e0 : s₁.heap = h0 := by rw [← hh, Bd.state]; rfl
  have N0 := Fr.nil n0
  show own_Comes p e below s ({ frames := 1, cells := 0, slots := 0, locals := 13 } : Room).cells ({ frames := 1, cells := 0, slots := 0, locals := 13 } : Room).slots (Q30 Z ((((cs.getD i 0) <<< ((10 : Int32) &&& 31)) + (cs.getD (i + 1) 0)) + (-56613888 : Int32)) h0 n0) _
  rw [show entryFrame m #[(.ref r0), (.int (Int32.ofNat i)), (.int (Int32.ofNat cs.length)), (.int (0 : Int32))] 6 = mkF m 0 #[.val (.ref r0), .val (.int (Int32.ofNat i)), .val (.int (Int32.ofNat cs.length)), .val (.int (0 : Int32)), .unset, .unset] [] from ef_rm30p m r0 (Int32.ofNat i) (Int32.ofNat cs.length) (0 : Int32)]
  show own_Comes p e below s _ _ _ (s₁.setTop (mkF m 0 #[.val (.ref r0), .val (.int (Int32.ofNat i)), .val (.int (Int32.ofNat cs.length)), .val (.int (0 : Int32)), .unset, .unset] []))
  obtain ⟨T86, X86, e86, st86⟩ := getS2 X0 hx hZ hown (host := "") (Or.inl (hw _ (List.mem_of_getElem? (i := 53) rfl))) Via.refl e0 (Sd.ext O0.2) (g := (mkF m 0 #[.val (.ref r0), .val (.int (Int32.ofNat i)), .val (.int (Int32.ofNat cs.length)), .val (.int (0 : Int32)), .unset, .unset] [])) rfl (hb hby d30_0)
  refine own_by st86 ?_
  show own_Comes p e below s _ _ _ (T86.setTop (mkF m 3 #[.val (.ref r0), .val (.int (Int32.ofNat i)), .val (.int (Int32.ofNat cs.length)), .val (.int (0 : Int32)), .unset, .unset] [(.int (1 : Int32))]))
  have hb87 : ¬ ((1 : Int32) = (0 : Int32)) := by decide
  refine own_by (fun _ kS => XS.ifYes X86.here hx rfl (pc0 := 3) (pc' := 19) rfl (hb hby d30_3) rfl ((if0 _ _).trans (feq hb87).2) (by decide) (by decide) kS) ?_
  show own_Comes p e below s _ _ _ (T86.setTop (mkF m 19 #[.val (.ref r0), .val (.int (Int32.ofNat i)), .val (.int (Int32.ofNat cs.length)), .val (.int (0 : Int32)), .unset, .unset] []))
  refine own_by (fun _ kS => XS.iloadN X86.here hx rfl (hb hby d30_19) rfl kS) ?_
  show own_Comes p e below s _ _ _ (T86.setTop (mkF m 20 #[.val (.ref r0), .val (.int (Int32.ofNat i)), .val (.int (Int32.ofNat cs.length)), .val (.int (0 : Int32)), .unset, .unset] [(.int (0 : Int32))]))
  have hb88 : (0 : Int32) = (0 : Int32) := by decide
  refine own_by (fun _ kS => XS.ifYes X86.here hx rfl (pc0 := 20) (pc' := 28) rfl (hb hby d30_20) rfl ((if0 _ _).trans (teq hb88).1) (by decide) (by decide) kS) ?_
  show own_Comes p e below s _ _ _ (T86.setTop (mkF m 28 #[.val (.ref r0), .val (.int (Int32.ofNat i)), .val (.int (Int32.ofNat cs.length)), .val (.int (0 : Int32)), .unset, .unset] []))
  refine own_by (fun _ kS => XS.aloadN X86.here hx rfl (hb hby d30_28) rfl rfl kS) ?_
  show own_Comes p e below s _ _ _ (T86.setTop (mkF m 29 #[.val (.ref r0), .val (.int (Int32.ofNat i)), .val (.int (Int32.ofNat cs.length)), .val (.int (0 : Int32)), .unset, .unset] [(.ref r0)]))
  refine own_by (fun _ kS => XS.iloadN X86.here hx rfl (hb hby d30_29) rfl kS) ?_
  show own_Comes p e below s _ _ _ (T86.setTop (mkF m 30 #[.val (.ref r0), .val (.int (Int32.ofNat i)), .val (.int (Int32.ofNat cs.length)), .val (.int (0 : Int32)), .unset, .unset] [(.int (Int32.ofNat i)), (.ref r0)]))
  obtain ⟨vv89, _, ⟨T89, L89, k89, n89⟩, -, X89, ⟨Lc89, hQ89, l89, y89, z89⟩, st89⟩ := Jvm.LawKit.callS X86 hx (y := (⟨"java/lang/StringUTF16", "getChar", "([BI)C"⟩ : MethodName)) hown (mvT hZ (hw _ (List.mem_of_getElem? (i := 56) rfl))) (mvT hZ (hw _ (List.mem_of_getElem? (i := 57) rfl))) (mvT hZ (hw _ (List.mem_of_getElem? (i := 24) rfl))) (mvT hZ (hw _ (List.mem_of_getElem? (i := 58) rfl))) (by decide) (backOf (W := 0) (rm13 l Z a0 hw [] r0 i kb cs h0 n0 Z0 O0 Sd Sh Sl Va hl hi hB) hZ (hw _ (List.mem_of_getElem? (i := 58) rfl)) (hw _ (List.mem_of_getElem? (i := 24) rfl)) (by decide) (by decide)) (g := (mkF m 30 #[.val (.ref r0), .val (.int (Int32.ofNat i)), .val (.int (Int32.ofNat cs.length)), .val (.int (0 : Int32)), .unset, .unset] [(.int (Int32.ofNat i)), (.ref r0)])) rfl (by rw [hml]; rfl) (argsL := [(.ref r0), (.int (Int32.ofNat i))]) (rest := []) (lenOf pd___BI_C_378 rfl) rfl (by show 2 * 0 + _ ≤ _; exact Nat.le_of_eq rfl) (hb hby d30_30) (fun _ _ => ⟨rfl, e86, (by decide : 0 + 0 ≤ _), (by decide : 0 + 0 ≤ _)⟩)
  dsimp only [Pt.U, Pt.locs, Pt.cells, Pt.slots] at X89 l89 y89 z89 st89 hQ89
  subst l89 y89 z89
  obtain ⟨rfl, N89q, e89q⟩ := hQ89
  have N89 := Fr.app N0 N89q
  refine own_by st89 ?_
  have e89 : T89.heap = h0 := e89q
  show own_Comes p e below s _ _ _ (T89.setTop (mkF m 33 #[.val (.ref r0), .val (.int (Int32.ofNat i)), .val (.int (Int32.ofNat cs.length)), .val (.int (0 : Int32)), .unset, .unset] [(.int (cs.getD i 0))]))
  refine own_by (fun _ kS => XS.istore X89.here hx rfl (hb hby d30_33) rfl (l' := #[.val (.ref r0), .val (.int (Int32.ofNat i)), .val (.int (Int32.ofNat cs.length)), .val (.int (0 : Int32)), .val (.int (cs.getD i 0)), .unset]) rfl kS) ?_
  show own_Comes p e below s _ _ _ (T89.setTop (mkF m 35 #[.val (.ref r0), .val (.int (Int32.ofNat i)), .val (.int (Int32.ofNat cs.length)), .val (.int (0 : Int32)), .val (.int (cs.getD i 0)), .unset] []))
  refine own_by (fun _ kS => XS.iload X89.here hx rfl (hb hby d30_35) rfl kS) ?_
  show own_Comes p e below s _ _ _ (T89.setTop (mkF m 37 #[.val (.ref r0), .val (.int (Int32.ofNat i)), .val (.int (Int32.ofNat cs.length)), .val (.int (0 : Int32)), .val (.int (cs.getD i 0)), .unset] [(.int (cs.getD i 0))]))
  obtain ⟨vv90, _, ⟨T90, L90, k90, n90⟩, -, X90, ⟨Lc90, hQ90, l90, y90, z90⟩, st90⟩ := Jvm.LawKit.callS X89 hx (y := (⟨"java/lang/Character", "isHighSurrogate", "(C)Z"⟩ : MethodName)) hown (mvT hZ (hw _ (List.mem_of_getElem? (i := 144) rfl))) (mvT hZ (hw _ (List.mem_of_getElem? (i := 134) rfl))) (mvT hZ (hw _ (List.mem_of_getElem? (i := 111) rfl))) (mvT hZ (hw _ (List.mem_of_getElem? (i := 135) rfl))) (by decide) (backOf (W := 0) (rm28 l Z a0 hw [] (cs.getD i 0) h0 n0 Z0) hZ (hw _ (List.mem_of_getElem? (i := 135) rfl)) (hw _ (List.mem_of_getElem? (i := 111) rfl)) (by decide) (by decide)) (g := (mkF m 37 #[.val (.ref r0), .val (.int (Int32.ofNat i)), .val (.int (Int32.ofNat cs.length)), .val (.int (0 : Int32)), .val (.int (cs.getD i 0)), .unset] [(.int (cs.getD i 0))])) rfl (by rw [hml]; rfl) (argsL := [(.int (cs.getD i 0))]) (rest := []) (lenOf pd__C_Z_238 rfl) rfl (by show 2 * 0 + _ ≤ _; exact Nat.le_of_eq rfl) (hb hby d30_37) (fun _ _ => ⟨rfl, e89, (by decide : 0 + 0 ≤ _), (by decide : 0 + 0 ≤ _)⟩)
  dsimp only [Pt.U, Pt.locs, Pt.cells, Pt.slots] at X90 l90 y90 z90 st90 hQ90
  subst l90 y90 z90
  obtain ⟨z90, rfl, N90q, e90q, hz90⟩ := hQ90
  have N90 := Fr.app N89 N90q
  refine own_by st90 ?_
  have e90 : T90.heap = h0 := e90q
  show own_Comes p e below s _ _ _ (T90.setTop (mkF m 40 #[.val (.ref r0), .val (.int (Int32.ofNat i)), .val (.int (Int32.ofNat cs.length)), .val (.int (0 : Int32)), .val (.int (cs.getD i 0)), .unset] [(.int z90)]))
  have hb91 : ¬ (z90 = (0 : Int32)) := hz90.elim (fun q z => absurd (q.1.symm.trans z) (by decide)) (fun q => absurd hs q.2)
  refine own_by (fun _ kS => XS.ifNo X90.here hx rfl (hb hby d30_40) rfl ((if0 _ _).trans (feq hb91).1) kS) ?_
  show own_Comes p e below s _ _ _ (T90.setTop (mkF m 43 #[.val (.ref r0), .val (.int (Int32.ofNat i)), .val (.int (Int32.ofNat cs.length)), .val (.int (0 : Int32)), .val (.int (cs.getD i 0)), .unset] []))
  refine own_by (fun _ kS => XS.iinc X90.here hx rfl (hb hby d30_43) rfl (l' := #[.val (.ref r0), .val (.int ((Int32.ofNat i) + (1 : Int32))), .val (.int (Int32.ofNat cs.length)), .val (.int (0 : Int32)), .val (.int (cs.getD i 0)), .unset]) rfl kS) ?_
  show own_Comes p e below s _ _ _ (T90.setTop (mkF m 46 #[.val (.ref r0), .val (.int ((Int32.ofNat i) + (1 : Int32))), .val (.int (Int32.ofNat cs.length)), .val (.int (0 : Int32)), .val (.int (cs.getD i 0)), .unset] []))
  rw [show ((Int32.ofNat i) + (1 : Int32)) = (Int32.ofNat (i + 1)) from own_succ (by omega)]
  show own_Comes p e below s _ _ _ (T90.setTop (mkF m 46 #[.val (.ref r0), .val (.int (Int32.ofNat (i + 1))), .val (.int (Int32.ofNat cs.length)), .val (.int (0 : Int32)), .val (.int (cs.getD i 0)), .unset] []))
  refine own_by (fun _ kS => XS.iloadN X90.here hx rfl (hb hby d30_46) rfl kS) ?_
  show own_Comes p e below s _ _ _ (T90.setTop (mkF m 47 #[.val (.ref r0), .val (.int (Int32.ofNat (i + 1))), .val (.int (Int32.ofNat cs.length)), .val (.int (0 : Int32)), .val (.int (cs.getD i 0)), .unset] [(.int (Int32.ofNat (i + 1)))]))
  refine own_by (fun _ kS => XS.iloadN X90.here hx rfl (hb hby d30_47) rfl kS) ?_
  show own_Comes p e below s _ _ _ (T90.setTop (mkF m 48 #[.val (.ref r0), .val (.int (Int32.ofNat (i + 1))), .val (.int (Int32.ofNat cs.length)), .val (.int (0 : Int32)), .val (.int (cs.getD i 0)), .unset] [(.int (Int32.ofNat cs.length)), (.int (Int32.ofNat (i + 1)))]))
  have hb92 : (Int32.ofNat (i + 1)) < (Int32.ofNat cs.length) := (own_lt (by omega) (by omega)).mpr hi2
  refine own_by (fun _ kS => XS.icmpNo X90.here hx rfl (hb hby d30_48) rfl (tlt hb92).2.1 kS) ?_
  show own_Comes p e below s _ _ _ (T90.setTop (mkF m 51 #[.val (.ref r0), .val (.int (Int32.ofNat (i + 1))), .val (.int (Int32.ofNat cs.length)), .val (.int (0 : Int32)), .val (.int (cs.getD i 0)), .unset] []))
  refine own_by (fun _ kS => XS.iloadN X90.here hx rfl (hb hby d30_51) rfl kS) ?_
  show own_Comes p e below s _ _ _ (T90.setTop (mkF m 52 #[.val (.ref r0), .val (.int (Int32.ofNat (i + 1))), .val (.int (Int32.ofNat cs.length)), .val (.int (0 : Int32)), .val (.int (cs.getD i 0)), .unset] [(.int (0 : Int32))]))
  have hb93 : (0 : Int32) = (0 : Int32) := by decide
  refine own_by (fun _ kS => XS.ifYes X90.here hx rfl (pc0 := 52) (pc' := 60) rfl (hb hby d30_52) rfl ((if0 _ _).trans (teq hb93).1) (by decide) (by decide) kS) ?_
  show own_Comes p e below s _ _ _ (T90.setTop (mkF m 60 #[.val (.ref r0), .val (.int (Int32.ofNat (i + 1))), .val (.int (Int32.ofNat cs.length)), .val (.int (0 : Int32)), .val (.int (cs.getD i 0)), .unset] []))
  refine own_by (fun _ kS => XS.aloadN X90.here hx rfl (hb hby d30_60) rfl rfl kS) ?_
  show own_Comes p e below s _ _ _ (T90.setTop (mkF m 61 #[.val (.ref r0), .val (.int (Int32.ofNat (i + 1))), .val (.int (Int32.ofNat cs.length)), .val (.int (0 : Int32)), .val (.int (cs.getD i 0)), .unset] [(.ref r0)]))
  refine own_by (fun _ kS => XS.iloadN X90.here hx rfl (hb hby d30_61) rfl kS) ?_
  show own_Comes p e below s _ _ _ (T90.setTop (mkF m 62 #[.val (.ref r0), .val (.int (Int32.ofNat (i + 1))), .val (.int (Int32.ofNat cs.length)), .val (.int (0 : Int32)), .val (.int (cs.getD i 0)), .unset] [(.int (Int32.ofNat (i + 1))), (.ref r0)]))
  obtain ⟨vv94, _, ⟨T94, L94, k94, n94⟩, -, X94, ⟨Lc94, hQ94, l94, y94, z94⟩, st94⟩ := Jvm.LawKit.callS X90 hx (y := (⟨"java/lang/StringUTF16", "getChar", "([BI)C"⟩ : MethodName)) hown (mvT hZ (hw _ (List.mem_of_getElem? (i := 56) rfl))) (mvT hZ (hw _ (List.mem_of_getElem? (i := 57) rfl))) (mvT hZ (hw _ (List.mem_of_getElem? (i := 24) rfl))) (mvT hZ (hw _ (List.mem_of_getElem? (i := 58) rfl))) (by decide) (backOf (W := 0) (rm13 l Z a0 hw [] r0 (i + 1) kb cs h0 n0 Z0 O0 Sd Sh Sl Va hl hi2 hB) hZ (hw _ (List.mem_of_getElem? (i := 58) rfl)) (hw _ (List.mem_of_getElem? (i := 24) rfl)) (by decide) (by decide)) (g := (mkF m 62 #[.val (.ref r0), .val (.int (Int32.ofNat (i + 1))), .val (.int (Int32.ofNat cs.length)), .val (.int (0 : Int32)), .val (.int (cs.getD i 0)), .unset] [(.int (Int32.ofNat (i + 1))), (.ref r0)])) rfl (by rw [hml]; rfl) (argsL := [(.ref r0), (.int (Int32.ofNat (i + 1)))]) (rest := []) (lenOf pd___BI_C_378 rfl) rfl (by show 2 * 0 + _ ≤ _; exact Nat.le_of_eq rfl) (hb hby d30_62) (fun _ _ => ⟨rfl, e90, (by decide : 0 + 0 ≤ _), (by decide : 0 + 0 ≤ _)⟩)
  dsimp only [Pt.U, Pt.locs, Pt.cells, Pt.slots] at X94 l94 y94 z94 st94 hQ94
  subst l94 y94 z94
  obtain ⟨rfl, N94q, e94q⟩ := hQ94
  have N94 := Fr.app N90 N94q
  refine own_by st94 ?_
  have e94 : T94.heap = h0 := e94q
  show own_Comes p e below s _ _ _ (T94.setTop (mkF m 65 #[.val (.ref r0), .val (.int (Int32.ofNat (i + 1))), .val (.int (Int32.ofNat cs.length)), .val (.int (0 : Int32)), .val (.int (cs.getD i 0)), .unset] [(.int (cs.getD (i + 1) 0))]))
  refine own_by (fun _ kS => XS.istore X94.here hx rfl (hb hby d30_65) rfl (l' := #[.val (.ref r0), .val (.int (Int32.ofNat (i + 1))), .val (.int (Int32.ofNat cs.length)), .val (.int (0 : Int32)), .val (.int (cs.getD i 0)), .val (.int (cs.getD (i + 1) 0))]) rfl kS) ?_
  show own_Comes p e below s _ _ _ (T94.setTop (mkF m 67 #[.val (.ref r0), .val (.int (Int32.ofNat (i + 1))), .val (.int (Int32.ofNat cs.length)), .val (.int (0 : Int32)), .val (.int (cs.getD i 0)), .val (.int (cs.getD (i + 1) 0))] []))
  refine own_by (fun _ kS => XS.iload X94.here hx rfl (hb hby d30_67) rfl kS) ?_
  show own_Comes p e below s _ _ _ (T94.setTop (mkF m 69 #[.val (.ref r0), .val (.int (Int32.ofNat (i + 1))), .val (.int (Int32.ofNat cs.length)), .val (.int (0 : Int32)), .val (.int (cs.getD i 0)), .val (.int (cs.getD (i + 1) 0))] [(.int (cs.getD (i + 1) 0))]))
  obtain ⟨vv95, _, ⟨T95, L95, k95, n95⟩, -, X95, ⟨Lc95, hQ95, l95, y95, z95⟩, st95⟩ := Jvm.LawKit.callS X94 hx (y := (⟨"java/lang/Character", "isLowSurrogate", "(C)Z"⟩ : MethodName)) hown (mvT hZ (hw _ (List.mem_of_getElem? (i := 156) rfl))) (mvT hZ (hw _ (List.mem_of_getElem? (i := 157) rfl))) (mvT hZ (hw _ (List.mem_of_getElem? (i := 111) rfl))) (mvT hZ (hw _ (List.mem_of_getElem? (i := 158) rfl))) (by decide) (backOf (W := 0) (rm34 l Z a0 hw [] (cs.getD (i + 1) 0) h0 n0 Z0) hZ (hw _ (List.mem_of_getElem? (i := 158) rfl)) (hw _ (List.mem_of_getElem? (i := 111) rfl)) (by decide) (by decide)) (g := (mkF m 69 #[.val (.ref r0), .val (.int (Int32.ofNat (i + 1))), .val (.int (Int32.ofNat cs.length)), .val (.int (0 : Int32)), .val (.int (cs.getD i 0)), .val (.int (cs.getD (i + 1) 0))] [(.int (cs.getD (i + 1) 0))])) rfl (by rw [hml]; rfl) (argsL := [(.int (cs.getD (i + 1) 0))]) (rest := []) (lenOf pd__C_Z_238 rfl) rfl (by show 2 * 0 + _ ≤ _; exact Nat.le_of_eq rfl) (hb hby d30_69) (fun _ _ => ⟨rfl, e94, (by decide : 0 + 0 ≤ _), (by decide : 0 + 0 ≤ _)⟩)
  dsimp only [Pt.U, Pt.locs, Pt.cells, Pt.slots] at X95 l95 y95 z95 st95 hQ95
  subst l95 y95 z95
  obtain ⟨z95, rfl, N95q, e95q, hz95⟩ := hQ95
  have N95 := Fr.app N94 N95q
  refine own_by st95 ?_
  have e95 : T95.heap = h0 := e95q
  show own_Comes p e below s _ _ _ (T95.setTop (mkF m 72 #[.val (.ref r0), .val (.int (Int32.ofNat (i + 1))), .val (.int (Int32.ofNat cs.length)), .val (.int (0 : Int32)), .val (.int (cs.getD i 0)), .val (.int (cs.getD (i + 1) 0))] [(.int z95)]))
  have hb96 : ¬ (z95 = (0 : Int32)) := hz95.elim (fun q z => absurd (q.1.symm.trans z) (by decide)) (fun q => absurd hlo q.2)
  refine own_by (fun _ kS => XS.ifNo X95.here hx rfl (hb hby d30_72) rfl ((if0 _ _).trans (feq hb96).1) kS) ?_
  show own_Comes p e below s _ _ _ (T95.setTop (mkF m 75 #[.val (.ref r0), .val (.int (Int32.ofNat (i + 1))), .val (.int (Int32.ofNat cs.length)), .val (.int (0 : Int32)), .val (.int (cs.getD i 0)), .val (.int (cs.getD (i + 1) 0))] []))
  refine own_by (fun _ kS => XS.iload X95.here hx rfl (hb hby d30_75) rfl kS) ?_
  show own_Comes p e below s _ _ _ (T95.setTop (mkF m 77 #[.val (.ref r0), .val (.int (Int32.ofNat (i + 1))), .val (.int (Int32.ofNat cs.length)), .val (.int (0 : Int32)), .val (.int (cs.getD i 0)), .val (.int (cs.getD (i + 1) 0))] [(.int (cs.getD i 0))]))
  refine own_by (fun _ kS => XS.iload X95.here hx rfl (hb hby d30_77) rfl kS) ?_
  show own_Comes p e below s _ _ _ (T95.setTop (mkF m 79 #[.val (.ref r0), .val (.int (Int32.ofNat (i + 1))), .val (.int (Int32.ofNat cs.length)), .val (.int (0 : Int32)), .val (.int (cs.getD i 0)), .val (.int (cs.getD (i + 1) 0))] [(.int (cs.getD (i + 1) 0)), (.int (cs.getD i 0))]))
  obtain ⟨vv97, _, ⟨T97, L97, k97, n97⟩, -, X97, ⟨Lc97, hQ97, l97, y97, z97⟩, st97⟩ := Jvm.LawKit.callS X95 hx (y := (⟨"java/lang/Character", "toCodePoint", "(CC)I"⟩ : MethodName)) hown (mvT hZ (hw _ (List.mem_of_getElem? (i := 160) rfl))) (mvT hZ (hw _ (List.mem_of_getElem? (i := 161) rfl))) (mvT hZ (hw _ (List.mem_of_getElem? (i := 111) rfl))) (mvT hZ (hw _ (List.mem_of_getElem? (i := 162) rfl))) (by decide) (backOf (W := 0) (rm35 l Z a0 hw [] (cs.getD i 0) (cs.getD (i + 1) 0) h0 n0 Z0) hZ (hw _ (List.mem_of_getElem? (i := 162) rfl)) (hw _ (List.mem_of_getElem? (i := 111) rfl)) (by decide) (by decide)) (g := (mkF m 79 #[.val (.ref r0), .val (.int (Int32.ofNat (i + 1))), .val (.int (Int32.ofNat cs.length)), .val (.int (0 : Int32)), .val (.int (cs.getD i 0)), .val (.int (cs.getD (i + 1) 0))] [(.int (cs.getD (i + 1) 0)), (.int (cs.getD i 0))])) rfl (by rw [hml]; rfl) (argsL := [(.int (cs.getD i 0)), (.int (cs.getD (i + 1) 0))]) (rest := []) (lenOf pd__CC_I_288 rfl) rfl (by show 2 * 0 + _ ≤ _; exact Nat.le_of_eq rfl) (hb hby d30_79) (fun _ _ => ⟨rfl, e95, (by decide : 0 + 0 ≤ _), (by decide : 0 + 0 ≤ _)⟩)
  dsimp only [Pt.U, Pt.locs, Pt.cells, Pt.slots] at X97 l97 y97 z97 st97 hQ97
  subst l97 y97 z97
  obtain ⟨rfl, N97q, e97q⟩ := hQ97
  have N97 := Fr.app N95 N97q
  refine own_by st97 ?_
  have e97 : T97.heap = h0 := e97q
  show own_Comes p e below s _ _ _ (T97.setTop (mkF m 82 #[.val (.ref r0), .val (.int (Int32.ofNat (i + 1))), .val (.int (Int32.ofNat cs.length)), .val (.int (0 : Int32)), .val (.int (cs.getD i 0)), .val (.int (cs.getD (i + 1) 0))] [(.int ((((cs.getD i 0) <<< ((10 : Int32) &&& 31)) + (cs.getD (i + 1) 0)) + (-56613888 : Int32)))]))
  refine own_ret X97 (v := some (.int ((((cs.getD i 0) <<< ((10 : Int32) &&& 31)) + (cs.getD (i + 1) 0)) + (-56613888 : Int32)))) (fun h => by rw [Bd.returns] at h; cases h) Bd.notSynchronized (by decide) (by decide) ?_ (fun fs hr => retI X97 hx Bd.returns (hb hby d30_82) hr)
  rw [e97]; exact ⟨rfl, N97, rfl⟩
theorem ef_rm29s (m : MethodId) (x0 : Addr) (x1 : Int32) (x2 : Int32) : entryFrame m #[(.ref x0), (.int x1), (.int x2)] 3 = mkF m 0 #[.val (.ref x0), .val (.int x1), .val (.int x2)] [] := by first | (simp [entryFrame, mkF, argsToLocals, Value.category]; done) | rfl
theorem d29_0 : decode jdk_52_method_8_code 0 = .ok (.aload_n 0, 1) := by decide +kernel
theorem d29_1 : decode jdk_52_method_8_code 1 = .ok (.iload_n 1, 1) := by decide +kernel
theorem d29_2 : decode jdk_52_method_8_code 2 = .ok (.iload_n 2, 1) := by decide +kernel
theorem d29_3 : decode jdk_52_method_8_code 3 = .ok (.iconst 0, 1) := by decide +kernel
theorem pd___BIIZ_I_547 : parseMethodDescriptor "([BIIZ)I" = some ⟨[(.array .byte), .int, .int, .boolean], some .int⟩ := by decide +kernel
theorem d29_4 : decode jdk_52_method_8_code 4 = .ok (.invokestatic 88, 3) := by decide +kernel
theorem d29_7 : decode jdk_52_method_8_code 7 = .ok (.ireturn, 1) := by decide +kernel
set_option maxRecDepth 65536 in
set_option maxHeartbeats 40000000 in
theorem rm29s (l : Launch) (Z : State) (a0 : Array Value) (hw : ∀ d ∈ tables_1, d.before a0 Z = true) (ws : List Jvm.Cond) (r0 : Addr) (i : Nat) (kb : ClassId) (cs : List Int32) (h0 : Heap) (n0 : Nat) (Z0 : n0 ≤ h0.size) (O0 : Old Z n0 h0) (Sd : Sta Z Z.heap "java/lang/StringUTF16" "$assertionsDisabled" "Z" (.int (1 : Int32))) (Sh : Sta Z Z.heap "java/lang/StringUTF16" "HI_BYTE_SHIFT" "I" (.int (0 : Int32))) (Sl : Sta Z Z.heap "java/lang/StringUTF16" "LO_BYTE_SHIFT" "I" (.int (8 : Int32))) (Va : Arv Z h0 r0 kb .byte (Int32.ofNat (2 * cs.length)) (StrChars.Road.wideBytes cs) (.int 0)) (hl : cs.length ≤ 4000) (hi : i < cs.length) (hB : ∀ c ∈ cs, ¬ c < 0 ∧ ¬ (65535 : Int32) < c) (hs : ¬ own_hi (cs.getD i 0)) :
    MetFree l (⟨"java/lang/StringUTF16", "codePointAt", "([BII)I"⟩ : MethodName) (head1 (Jvm.Cond.code (⟨"java/lang/StringUTF16", "codePointAt", "([BII)I"⟩ : MethodName) jdk_52_method_8_code 3 (some .int) :: ws) ({ frames := 2, cells := 0, slots := 0, locals := 30 } : Room)) (fun aX UX => aX = #[(.ref r0), (.int (Int32.ofNat i)), (.int (Int32.ofNat cs.length))] ∧ Z.Warmed39 UX.vm ∧ UX.heap = h0) (fun _ _ _ _ _ => True) (fun _ UX oX UX' => ∃ vX LX, oX = .returned vX ∧ Q29 Z (cs.getD i 0) h0 n0 vX UX'.heap LX ∧ FrameEnd UX oX UX' LX ({ frames := 2, cells := 0, slots := 0, locals := 30 } : Room).cells ({ frames := 2, cells := 0, slots := 0, locals := 30 } : Room).slots) := by
  refine MetFree.of_bodySF (plainFor_of_name pn_java_lang_StringUTF16) hisR ?_
  intro p e s m args below meth c s₁ Bd hml0 hP hK
  obtain ⟨rfl, hZ, hh⟩ := hP
  have hx := Bd.exec
  have hby := Bd.bytes
  have hml : c.maxLocals = 3 := hml0
  have hown : s.vm.findClass "java/lang/StringUTF16" = some m.cls := findClass_of_methodNamed Bd.named
  have hnm := (name_of_methodNamed Bd.named Bd.method).1
  have X0 : Stand p l e ({ frames := 2, cells := 0, slots := 0, locals := 30 } : Room) s m #[(.ref r0), (.int (Int32.ofNat i)), (.int (Int32.ofNat cs.length))] below meth c s₁ [] 0 0 := Stand.of_body Bd
  have e0 : s₁.heap = h0 := by rw [← hh, Bd.state]; rfl
  have N0 := Fr.nil n0
  show own_Comes p e below s ({ frames := 2, cells := 0, slots := 0, locals := 30 } : Room).cells ({ frames := 2, cells := 0, slots := 0, locals := 30 } : Room).slots (Q29 Z (cs.getD i 0) h0 n0) _
  rw [show entryFrame m #[(.ref r0), (.int (Int32.ofNat i)), (.int (Int32.ofNat cs.length))] 3 = mkF m 0 #[.val (.ref r0), .val (.int (Int32.ofNat i)), .val (.int (Int32.ofNat cs.length))] [] from ef_rm29s m r0 (Int32.ofNat i) (Int32.ofNat cs.length)]
  show own_Comes p e below s _ _ _ (s₁.setTop (mkF m 0 #[.val (.ref r0), .val (.int (Int32.ofNat i)), .val (.int (Int32.ofNat cs.length))] []))
  refine own_by (fun _ kS => XS.aloadN X0.here hx rfl (hb hby d29_0) rfl rfl kS) ?_
  show own_Comes p e below s _ _ _ (s₁.setTop (mkF m 1 #[.val (.ref r0), .val (.int (Int32.ofNat i)), .val (.int (Int32.ofNat cs.length))] [(.ref r0)]))
  refine own_by (fun _ kS => XS.iloadN X0.here hx rfl (hb hby d29_1) rfl kS) ?_
  show own_Comes p e below s _ _ _ (s₁.setTop (mkF m 2 #[.val (.ref r0), .val (.int (Int32.ofNat i)), .val (.int (Int32.ofNat cs.length))] [(.int (Int32.ofNat i)), (.ref r0)]))
  refine own_by (fun _ kS => XS.iloadN X0.here hx rfl (hb hby d29_2) rfl kS) ?_
  show own_Comes p e below s _ _ _ (s₁.setTop (mkF m 3 #[.val (.ref r0), .val (.int (Int32.ofNat i)), .val (.int (Int32.ofNat cs.length))] [(.int (Int32.ofNat cs.length)), (.int (Int32.ofNat i)), (.ref r0)]))
  refine own_by (fun _ kS => XS.iconst X0.here hx rfl (hb hby d29_3) kS) ?_
  show own_Comes p e below s _ _ _ (s₁.setTop (mkF m 4 #[.val (.ref r0), .val (.int (Int32.ofNat i)), .val (.int (Int32.ofNat cs.length))] [(.int (0 : Int32)), (.int (Int32.ofNat cs.length)), (.int (Int32.ofNat i)), (.ref r0)]))
  obtain ⟨vv98, _, ⟨T98, L98, k98, n98⟩, -, X98, ⟨Lc98, hQ98, l98, y98, z98⟩, st98⟩ := Jvm.LawKit.callS X0 hx (y := (⟨"java/lang/StringUTF16", "codePointAt", "([BIIZ)I"⟩ : MethodName)) hown (mvT hZ (hw _ (List.mem_of_getElem? (i := 141) rfl))) (mvT hZ (hw _ (List.mem_of_getElem? (i := 142) rfl))) (mvT hZ (hw _ (List.mem_of_getElem? (i := 24) rfl))) (mvT hZ (hw _ (List.mem_of_getElem? (i := 143) rfl))) (by decide) (backOf (W := 0) (rm30s l Z a0 hw [] r0 i kb cs h0 n0 Z0 O0 Sd Sh Sl Va hl hi hB hs) hZ (hw _ (List.mem_of_getElem? (i := 143) rfl)) (hw _ (List.mem_of_getElem? (i := 24) rfl)) (by decide) (by decide)) (g := (mkF m 4 #[.val (.ref r0), .val (.int (Int32.ofNat i)), .val (.int (Int32.ofNat cs.length))] [(.int (0 : Int32)), (.int (Int32.ofNat cs.length)), (.int (Int32.ofNat i)), (.ref r0)])) rfl (by rw [hml]; rfl) (argsL := [(.ref r0), (.int (Int32.ofNat i)), (.int (Int32.ofNat cs.length)), (.int (0 : Int32))]) (rest := []) (lenOf pd___BIIZ_I_547 rfl) rfl (by show 2 * 0 + _ ≤ _; exact Nat.le_of_eq rfl) (hb hby d29_4) (fun _ _ => ⟨rfl, e0, (by decide : 0 + 0 ≤ _), (by decide : 0 + 0 ≤ _)⟩)
  dsimp only [Pt.U, Pt.locs, Pt.cells, Pt.slots] at X98 l98 y98 z98 st98 hQ98
  subst l98 y98 z98
  obtain ⟨rfl, N98q, e98q⟩ := hQ98
  have N98 := Fr.app N0 N98q
  refine own_by st98 ?_
  have e98 : T98.heap = h0 := e98q
  show own_Comes p e below s _ _ _ (T98.setTop (mkF m 7 #[.val (.ref r0), .val (.int (Int32.ofNat i)), .val (.int (Int32.ofNat cs.length))] [(.int (cs.getD i 0))]))
  refine own_ret X98 (v := some (.int (cs.getD i 0))) (fun h => by rw [Bd.returns] at h; cases h) Bd.notSynchronized (by decide) (by decide) ?_ (fun fs hr => retI X98 hx Bd.returns (hb hby d29_7) hr)
  rw [e98]; exact ⟨rfl, N98, rfl⟩
theorem ef_rm29p (m : MethodId) (x0 : Addr) (x1 : Int32) (x2 : Int32) : entryFrame m #[(.ref x0), (.int x1), (.int x2)] 3 = mkF m 0 #[.val (.ref x0), .val (.int x1), .val (.int x2)] [] := by first | (simp [entryFrame, mkF, argsToLocals, Value.category]; done) | rfl
set_option maxRecDepth 65536 in
set_option maxHeartbeats 40000000 in
theorem rm29p (l : Launch) (Z : State) (a0 : Array Value) (hw : ∀ d ∈ tables_1, d.before a0 Z = true) (ws : List Jvm.Cond) (r0 : Addr) (i : Nat) (kb : ClassId) (cs : List Int32) (h0 : Heap) (n0 : Nat) (Z0 : n0 ≤ h0.size) (O0 : Old Z n0 h0) (Sd : Sta Z Z.heap "java/lang/StringUTF16" "$assertionsDisabled" "Z" (.int (1 : Int32))) (Sh : Sta Z Z.heap "java/lang/StringUTF16" "HI_BYTE_SHIFT" "I" (.int (0 : Int32))) (Sl : Sta Z Z.heap "java/lang/StringUTF16" "LO_BYTE_SHIFT" "I" (.int (8 : Int32))) (Va : Arv Z h0 r0 kb .byte (Int32.ofNat (2 * cs.length)) (StrChars.Road.wideBytes cs) (.int 0)) (hl : cs.length ≤ 4000) (hi : i < cs.length) (hB : ∀ c ∈ cs, ¬ c < 0 ∧ ¬ (65535 : Int32) < c) (hs : own_hi (cs.getD i 0)) (hi2 : i + 1 < cs.length) (hlo : own_lo (cs.getD (i + 1) 0)) :
    MetFree l (⟨"java/lang/StringUTF16", "codePointAt", "([BII)I"⟩ : MethodName) (head1 (Jvm.Cond.code (⟨"java/lang/StringUTF16", "codePointAt", "([BII)I"⟩ : MethodName) jdk_52_method_8_code 3 (some .int) :: ws) ({ frames := 2, cells := 0, slots := 0, locals := 30 } : Room)) (fun aX UX => aX = #[(.ref r0), (.int (Int32.ofNat i)), (.int (Int32.ofNat cs.length))] ∧ Z.Warmed39 UX.vm ∧ UX.heap = h0) (fun _ _ _ _ _ => True) (fun _ UX oX UX' => ∃ vX LX, oX = .returned vX ∧ Q29 Z ((((cs.getD i 0) <<< ((10 : Int32) &&& 31)) + (cs.getD (i + 1) 0)) + (-56613888 : Int32)) h0 n0 vX UX'.heap LX ∧ FrameEnd UX oX UX' LX ({ frames := 2, cells := 0, slots := 0, locals := 30 } : Room).cells ({ frames := 2, cells := 0, slots := 0, locals := 30 } : Room).slots) := by
  refine MetFree.of_bodySF (plainFor_of_name pn_java_lang_StringUTF16) hisR ?_
  intro p e s m args below meth c s₁ Bd hml0 hP hK
  obtain ⟨rfl, hZ, hh⟩ := hP
  have hx := Bd.exec
  have hby := Bd.bytes
  have hml : c.maxLocals = 3 := hml0
  have hown : s.vm.findClass "java/lang/StringUTF16" = some m.cls := findClass_of_methodNamed Bd.named
  have hnm := (name_of_methodNamed Bd.named Bd.method).1
  have X0 : Stand p l e ({ frames := 2, cells := 0, slots := 0, locals := 30 } : Room) s m #[(.ref r0), (.int (Int32.ofNat i)), (.int (Int32.ofNat cs.length))] below meth c s₁ [] 0 0 := Stand.of_body Bd
  have e0 : s₁.heap = h0 := by rw [← hh, Bd.state]; rfl
  have N0 := Fr.nil n0
  show own_Comes p e below s ({ frames := 2, cells := 0, slots := 0, locals := 30 } : Room).cells ({ frames := 2, cells := 0, slots := 0, locals := 30 } : Room).slots (Q29 Z ((((cs.getD i 0) <<< ((10 : Int32) &&& 31)) + (cs.getD (i + 1) 0)) + (-56613888 : Int32)) h0 n0) _
  rw [show entryFrame m #[(.ref r0), (.int (Int32.ofNat i)), (.int (Int32.ofNat cs.length))] 3 = mkF m 0 #[.val (.ref r0), .val (.int (Int32.ofNat i)), .val (.int (Int32.ofNat cs.length))] [] from ef_rm29p m r0 (Int32.ofNat i) (Int32.ofNat cs.length)]
  show own_Comes p e below s _ _ _ (s₁.setTop (mkF m 0 #[.val (.ref r0), .val (.int (Int32.ofNat i)), .val (.int (Int32.ofNat cs.length))] []))
  refine own_by (fun _ kS => XS.aloadN X0.here hx rfl (hb hby d29_0) rfl rfl kS) ?_
  show own_Comes p e below s _ _ _ (s₁.setTop (mkF m 1 #[.val (.ref r0), .val (.int (Int32.ofNat i)), .val (.int (Int32.ofNat cs.length))] [(.ref r0)]))
  refine own_by (fun _ kS => XS.iloadN X0.here hx rfl (hb hby d29_1) rfl kS) ?_
  show own_Comes p e below s _ _ _ (s₁.setTop (mkF m 2 #[.val (.ref r0), .val (.int (Int32.ofNat i)), .val (.int (Int32.ofNat cs.length))] [(.int (Int32.ofNat i)), (.ref r0)]))
  refine own_by (fun _ kS => XS.iloadN X0.here hx rfl (hb hby d29_2) rfl kS) ?_
  show own_Comes p e below s _ _ _ (s₁.setTop (mkF m 3 #[.val (.ref r0), .val (.int (Int32.ofNat i)), .val (.int (Int32.ofNat cs.length))] [(.int (Int32.ofNat cs.length)), (.int (Int32.ofNat i)), (.ref r0)]))
  refine own_by (fun _ kS => XS.iconst X0.here hx rfl (hb hby d29_3) kS) ?_
  show own_Comes p e below s _ _ _ (s₁.setTop (mkF m 4 #[.val (.ref r0), .val (.int (Int32.ofNat i)), .val (.int (Int32.ofNat cs.length))] [(.int (0 : Int32)), (.int (Int32.ofNat cs.length)), (.int (Int32.ofNat i)), (.ref r0)]))
  obtain ⟨vv99, _, ⟨T99, L99, k99, n99⟩, -, X99, ⟨Lc99, hQ99, l99, y99, z99⟩, st99⟩ := Jvm.LawKit.callS X0 hx (y := (⟨"java/lang/StringUTF16", "codePointAt", "([BIIZ)I"⟩ : MethodName)) hown (mvT hZ (hw _ (List.mem_of_getElem? (i := 141) rfl))) (mvT hZ (hw _ (List.mem_of_getElem? (i := 142) rfl))) (mvT hZ (hw _ (List.mem_of_getElem? (i := 24) rfl))) (mvT hZ (hw _ (List.mem_of_getElem? (i := 143) rfl))) (by decide) (backOf (W := 0) (rm30p l Z a0 hw [] r0 i kb cs h0 n0 Z0 O0 Sd Sh Sl Va hl hi hB hs hi2 hlo) hZ (hw _ (List.mem_of_getElem? (i := 143) rfl)) (hw _ (List.mem_of_getElem? (i := 24) rfl)) (by decide) (by decide)) (g := (mkF m 4 #[.val (.ref r0), .val (.int (Int32.ofNat i)), .val (.int (Int32.ofNat cs.length))] [(.int (0 : Int32)), (.int (Int32.ofNat cs.length)), (.int (Int32.ofNat i)), (.ref r0)])) rfl (by rw [hml]; rfl) (argsL := [(.ref r0), (.int (Int32.ofNat i)), (.int (Int32.ofNat cs.length)), (.int (0 : Int32))]) (rest := []) (lenOf pd___BIIZ_I_547 rfl) rfl (by show 2 * 0 + _ ≤ _; exact Nat.le_of_eq rfl) (hb hby d29_4) (fun _ _ => ⟨rfl, e0, (by decide : 0 + 0 ≤ _), (by decide : 0 + 0 ≤ _)⟩)
  dsimp only [Pt.U, Pt.locs, Pt.cells, Pt.slots] at X99 l99 y99 z99 st99 hQ99
  subst l99 y99 z99
  obtain ⟨rfl, N99q, e99q⟩ := hQ99
  have N99 := Fr.app N0 N99q
  refine own_by st99 ?_
  have e99 : T99.heap = h0 := e99q
  show own_Comes p e below s _ _ _ (T99.setTop (mkF m 7 #[.val (.ref r0), .val (.int (Int32.ofNat i)), .val (.int (Int32.ofNat cs.length))] [(.int ((((cs.getD i 0) <<< ((10 : Int32) &&& 31)) + (cs.getD (i + 1) 0)) + (-56613888 : Int32)))]))
  refine own_ret X99 (v := some (.int ((((cs.getD i 0) <<< ((10 : Int32) &&& 31)) + (cs.getD (i + 1) 0)) + (-56613888 : Int32)))) (fun h => by rw [Bd.returns] at h; cases h) Bd.notSynchronized (by decide) (by decide) ?_ (fun fs hr => retI X99 hx Bd.returns (hb hby d29_7) hr)
  rw [e99]; exact ⟨rfl, N99, rfl⟩
theorem ef_rm20s (m : MethodId) (x0 : Addr) (x1 : Int32) : entryFrame m #[(.ref x0), (.int x1)] 3 = mkF m 0 #[.val (.ref x0), .val (.int x1), .unset] [] := by first | (simp [entryFrame, mkF, argsToLocals, Value.category]; done) | rfl
theorem d20_0 : decode jdk_42_method_57_code 0 = .ok (.aload_n 0, 1) := by decide +kernel
theorem d20_1 : decode jdk_42_method_57_code 1 = .ok (.invokevirtual 492, 3) := by decide +kernel
theorem d20_4 : decode jdk_42_method_57_code 4 = .ok (.ifCond .eq 23, 3) := by decide +kernel
theorem d20_7 : decode jdk_42_method_57_code 7 = .ok (.iload_n 1, 1) := by decide +kernel
theorem d20_8 : decode jdk_42_method_57_code 8 = .ok (.aload_n 0, 1) := by decide +kernel
theorem d20_9 : decode jdk_42_method_57_code 9 = .ok (.getfield 9, 3) := by decide +kernel
theorem d20_12 : decode jdk_42_method_57_code 12 = .ok (.arraylength, 1) := by decide +kernel
theorem d20_13 : decode jdk_42_method_57_code 13 = .ok (.invokestatic 499, 3) := by decide +kernel
theorem d20_16 : decode jdk_42_method_57_code 16 = .ok (.aload_n 0, 1) := by decide +kernel
theorem d20_17 : decode jdk_42_method_57_code 17 = .ok (.getfield 9, 3) := by decide +kernel
theorem d20_20 : decode jdk_42_method_57_code 20 = .ok (.iload_n 1, 1) := by decide +kernel
theorem d20_21 : decode jdk_42_method_57_code 21 = .ok (.baload, 1) := by decide +kernel
theorem d20_22 : decode jdk_42_method_57_code 22 = .ok (.sipush 255, 3) := by decide +kernel
theorem d20_25 : decode jdk_42_method_57_code 25 = .ok (.iand, 1) := by decide +kernel
theorem d20_26 : decode jdk_42_method_57_code 26 = .ok (.ireturn, 1) := by decide +kernel
theorem d20_27 : decode jdk_42_method_57_code 27 = .ok (.aload_n 0, 1) := by decide +kernel
theorem d20_28 : decode jdk_42_method_57_code 28 = .ok (.getfield 9, 3) := by decide +kernel
theorem d20_31 : decode jdk_42_method_57_code 31 = .ok (.arraylength, 1) := by decide +kernel
theorem d20_32 : decode jdk_42_method_57_code 32 = .ok (.iconst 1, 1) := by decide +kernel
theorem d20_33 : decode jdk_42_method_57_code 33 = .ok (.ishr, 1) := by decide +kernel
theorem d20_34 : decode jdk_42_method_57_code 34 = .ok (.istore_n 2, 1) := by decide +kernel
theorem d20_35 : decode jdk_42_method_57_code 35 = .ok (.iload_n 1, 1) := by decide +kernel
theorem d20_36 : decode jdk_42_method_57_code 36 = .ok (.iload_n 2, 1) := by decide +kernel
theorem d20_37 : decode jdk_42_method_57_code 37 = .ok (.invokestatic 499, 3) := by decide +kernel
theorem d20_40 : decode jdk_42_method_57_code 40 = .ok (.aload_n 0, 1) := by decide +kernel
theorem d20_41 : decode jdk_42_method_57_code 41 = .ok (.getfield 9, 3) := by decide +kernel
theorem d20_44 : decode jdk_42_method_57_code 44 = .ok (.iload_n 1, 1) := by decide +kernel
theorem d20_45 : decode jdk_42_method_57_code 45 = .ok (.iload_n 2, 1) := by decide +kernel
theorem pd___BII_I_457 : parseMethodDescriptor "([BII)I" = some ⟨[(.array .byte), .int, .int], some .int⟩ := by decide +kernel
theorem d20_46 : decode jdk_42_method_57_code 46 = .ok (.invokestatic 502, 3) := by decide +kernel
theorem d20_49 : decode jdk_42_method_57_code 49 = .ok (.ireturn, 1) := by decide +kernel
set_option maxRecDepth 65536 in
set_option maxHeartbeats 40000000 in
theorem rm20s (l : Launch) (Z : State) (a0 : Array Value) (hw : ∀ d ∈ tables_1, d.before a0 Z = true) (ws : List Jvm.Cond) (r0 : Addr) (i : Nat) (cs : List Int32) (zc : Int32) (fm : Value) (h0 : Heap) (n0 : Nat) (Z0 : n0 ≤ h0.size) (O0 : Old Z n0 h0) (Sz : Sta Z Z.heap "java/lang/String" "COMPACT_STRINGS" "Z" (.int zc)) (hzc : ¬ zc = 0) (Sf : Sta Z Z.heap "jdk/internal/util/Preconditions" "SIOOBE_FORMATTER" "Ljava/util/function/BiFunction;" fm) (i_fm : fm.isRef = true) (Sd : Sta Z Z.heap "java/lang/StringUTF16" "$assertionsDisabled" "Z" (.int (1 : Int32))) (Sh : Sta Z Z.heap "java/lang/StringUTF16" "HI_BYTE_SHIFT" "I" (.int (0 : Int32))) (Sl : Sta Z Z.heap "java/lang/StringUTF16" "LO_BYTE_SHIFT" "I" (.int (8 : Int32))) (hY : own_Txt Z h0 r0 cs) (hi : i < cs.length) (hs : ¬ own_hi (cs.getD i 0)) :
    MetFree l (⟨"java/lang/String", "codePointAt", "(I)I"⟩ : MethodName) (head1 (Jvm.Cond.code (⟨"java/lang/String", "codePointAt", "(I)I"⟩ : MethodName) jdk_42_method_57_code 3 (some .int) :: ws) ({ frames := 3, cells := 0, slots := 0, locals := 44 } : Room)) (fun aX UX => aX = #[(.ref r0), (.int (Int32.ofNat i))] ∧ Z.Warmed39 UX.vm ∧ UX.heap = h0) (fun _ _ _ _ _ => True) (fun _ UX oX UX' => ∃ vX LX, oX = .returned vX ∧ Q20 Z (cs.getD i 0) h0 n0 vX UX'.heap LX ∧ FrameEnd UX oX UX' LX ({ frames := 3, cells := 0, slots := 0, locals := 44 } : Room).cells ({ frames := 3, cells := 0, slots := 0, locals := 44 } : Room).slots) := by
  refine MetFree.of_bodySF (plainFor_of_name pn_java_lang_String) hisR ?_
  intro p e s m args below meth c s₁ Bd hml0 hP hK
  obtain ⟨rfl, hZ, hh⟩ := hP
  have hx := Bd.exec
  have hby := Bd.bytes
  have hml : c.maxLocals = 3 := hml0
  have hown : s.vm.findClass "java/lang/String" = some m.cls := findClass_of_methodNamed Bd.named
  have hnm := (name_of_methodNamed Bd.named Bd.method).1
  have X0 : Stand p l e ({ frames := 3, cells := 0, slots := 0, locals := 44 } : Room) s m #[(.ref r0), (.int (Int32.ofNat i))] below meth c s₁ [] 0 0 := Stand.of_body Bd
  have e0 : s₁.heap = h0 := by rw [← hh, Bd.state]; rfl
  have N0 := Fr.nil n0
  show own_Comes p e below s ({ frames := 3, cells := 0, slots := 0, locals := 44 } : Room).cells ({ frames := 3, cells := 0, slots := 0, locals := 44 } : Room).slots (Q20 Z (cs.getD i 0) h0 n0) _
  rw [show entryFrame m #[(.ref r0), (.int (Int32.ofNat i))] 3 = mkF m 0 #[.val (.ref r0), .val (.int (Int32.ofNat i)), .unset] [] from ef_rm20s m r0 (Int32.ofNat i)]
  show own_Comes p e below s _ _ _ (s₁.setTop (mkF m 0 #[.val (.ref r0), .val (.int (Int32.ofNat i)), .unset] []))
  have hYc := hY
  obtain ⟨Er, tr, kr, cdr, Nr, vr, Vr, Cr, Ar, Hr, Br, Lr⟩ := hYc
  rcases Hr with ⟨rfl, rfl, rfl, Hl⟩ | ⟨rfl, rfl, rfl, Hw⟩
  · show own_Comes p e below s _ _ _ (s₁.setTop (mkF m 0 #[.val (.ref r0), .val (.int (Int32.ofNat i)), .unset] []))
    refine own_by (fun _ kS => XS.aloadN X0.here hx rfl (hb hby d20_0) rfl rfl kS) ?_
    show own_Comes p e below s _ _ _ (s₁.setTop (mkF m 1 #[.val (.ref r0), .val (.int (Int32.ofNat i)), .unset] [(.ref r0)]))
    obtain ⟨cq100, kq100, q100a, q100b, q100c⟩ := isOf hZ e0 Er
    obtain ⟨vv100, _, ⟨T100, L100, k100, n100⟩, -, X100, ⟨Lc100, hQ100, l100, y100, z100⟩, st100⟩ := X0.virtualBack hx (y := (⟨"java/lang/String", "isLatin1", "()Z"⟩ : MethodName)) (z := (⟨"java/lang/String", "isLatin1", "()Z"⟩ : MethodName)) hown (mvT hZ (hw _ (List.mem_of_getElem? (i := 90) rfl))) (mvT hZ (hw _ (List.mem_of_getElem? (i := 91) rfl))) (notFace_of_selects (args := #[]) (mvT hZ (hw _ (List.mem_of_getElem? (i := 93) rfl)))) (mvT hZ (hw _ (List.mem_of_getElem? (i := 93) rfl))) (mvT hZ (hw _ (List.mem_of_getElem? (i := 92) rfl))) (by decide) (backOf (W := 0) (rm21l l Z a0 hw [] r0 zc h0 n0 Z0 O0 Sz hzc Cr) hZ (hw _ (List.mem_of_getElem? (i := 94) rfl)) (hw _ (List.mem_of_getElem? (i := 10) rfl)) (by decide) (by decide)) q100a q100c (g := (mkF m 1 #[.val (.ref r0), .val (.int (Int32.ofNat i)), .unset] [(.ref r0)])) rfl (by rw [hml]; rfl) (Steps.refl _) (argsL := []) (rest := []) (lenOf pd___Z_171 rfl) rfl (by show 2 * 0 + _ ≤ _; exact Nat.le_of_eq rfl) (hb hby d20_1) (fun _ _ => ⟨rfl, e0, (by decide : 0 + 0 ≤ _), (by decide : 0 + 0 ≤ _)⟩)
    dsimp only [Pt.U, Pt.locs, Pt.cells, Pt.slots] at X100 l100 y100 z100 st100 hQ100
    subst l100 y100 z100
    obtain ⟨rfl, N100q, e100q⟩ := hQ100
    have N100 := Fr.app N0 N100q
    refine own_tr st100 ?_
    have e100 : T100.heap = h0 := e100q
    show own_Comes p e below s _ _ _ (T100.setTop (mkF m 4 #[.val (.ref r0), .val (.int (Int32.ofNat i)), .unset] [(.int (1 : Int32))]))
    have hb101 : ¬ ((1 : Int32) = (0 : Int32)) := by decide
    refine own_by (fun _ kS => XS.ifNo X100.here hx rfl (hb hby d20_4) rfl ((if0 _ _).trans (feq hb101).1) kS) ?_
    show own_Comes p e below s _ _ _ (T100.setTop (mkF m 7 #[.val (.ref r0), .val (.int (Int32.ofNat i)), .unset] []))
    refine own_by (fun _ kS => XS.iloadN X100.here hx rfl (hb hby d20_7) rfl kS) ?_
    show own_Comes p e below s _ _ _ (T100.setTop (mkF m 8 #[.val (.ref r0), .val (.int (Int32.ofNat i)), .unset] [(.int (Int32.ofNat i))]))
    refine own_by (fun _ kS => XS.aloadN X100.here hx rfl (hb hby d20_8) rfl rfl kS) ?_
    show own_Comes p e below s _ _ _ (T100.setTop (mkF m 9 #[.val (.ref r0), .val (.int (Int32.ofNat i)), .unset] [(.ref r0), (.int (Int32.ofNat i))]))
    obtain ⟨T102, X102, e102, st102⟩ := getF X100 hx hZ hown (host := "") (Or.inl (hw _ (List.mem_of_getElem? (i := 35) rfl))) Via.refl e100 Vr (g := (mkF m 9 #[.val (.ref r0), .val (.int (Int32.ofNat i)), .unset] [(.ref r0), (.int (Int32.ofNat i))])) rfl rfl (hb hby d20_9)
    refine own_by st102 ?_
    show own_Comes p e below s _ _ _ (T102.setTop (mkF m 12 #[.val (.ref r0), .val (.int (Int32.ofNat i)), .unset] [(.ref tr), (.int (Int32.ofNat i))]))
    have Vo103 := Ar
    obtain ⟨cl103, Ar103, qA103, SA103, NA103, HA103, GA103⟩ := Vo103
    refine own_by (fun _ kS => X102.arraylength hx (by rw [e102]; exact Ar103.1) (State.isArrayOf_alike hZ.alike Ar103.2.1) (g := (mkF m 12 #[.val (.ref r0), .val (.int (Int32.ofNat i)), .unset] [(.ref tr), (.int (Int32.ofNat i))])) rfl rfl (hb hby d20_12) _ kS) ?_
    rw [len_of SA103 NA103]
    show own_Comes p e below s _ _ _ (T102.setTop (mkF m 13 #[.val (.ref r0), .val (.int (Int32.ofNat i)), .unset] [(.int (Int32.ofNat cs.length)), (.int (Int32.ofNat i))]))
    obtain ⟨vv104, _, ⟨T104, L104, k104, n104⟩, -, X104, ⟨Lc104, hQ104, l104, y104, z104⟩, st104⟩ := Jvm.LawKit.callS X102 hx (y := (⟨"java/lang/String", "checkIndex", "(II)V"⟩ : MethodName)) hown (mvT hZ (hw _ (List.mem_of_getElem? (i := 95) rfl))) (mvT hZ (hw _ (List.mem_of_getElem? (i := 96) rfl))) (mvT hZ (hw _ (List.mem_of_getElem? (i := 10) rfl))) (mvT hZ (hw _ (List.mem_of_getElem? (i := 97) rfl))) (by decide) (backOf (W := 0) (rm22 l Z a0 hw [] (Int32.ofNat i) (Int32.ofNat cs.length) fm h0 n0 Z0 O0 Sf i_fm (own_neg (by omega)) ((own_lt (by omega) (by omega)).mpr hi)) hZ (hw _ (List.mem_of_getElem? (i := 97) rfl)) (hw _ (List.mem_of_getElem? (i := 10) rfl)) (by decide) (by decide)) (g := (mkF m 13 #[.val (.ref r0), .val (.int (Int32.ofNat i)), .unset] [(.int (Int32.ofNat cs.length)), (.int (Int32.ofNat i))])) rfl (by rw [hml]; rfl) (argsL := [(.int (Int32.ofNat i)), (.int (Int32.ofNat cs.length))]) (rest := []) (lenOf pd__II_V_313 rfl) rfl (by show 2 * 0 + _ ≤ _; exact Nat.le_of_eq rfl) (hb hby d20_13) (fun _ _ => ⟨rfl, e102, (by decide : 0 + 0 ≤ _), (by decide : 0 + 0 ≤ _)⟩)
    dsimp only [Pt.U, Pt.locs, Pt.cells, Pt.slots] at X104 l104 y104 z104 st104 hQ104
    subst l104 y104 z104
    obtain ⟨rfl, N104q, e104q⟩ := hQ104
    have N104 := Fr.app N100 N104q
    refine own_by st104 ?_
    have e104 : T104.heap = h0 := e104q
    show own_Comes p e below s _ _ _ (T104.setTop (mkF m 16 #[.val (.ref r0), .val (.int (Int32.ofNat i)), .unset] []))
    refine own_by (fun _ kS => XS.aloadN X104.here hx rfl (hb hby d20_16) rfl rfl kS) ?_
    show own_Comes p e below s _ _ _ (T104.setTop (mkF m 17 #[.val (.ref r0), .val (.int (Int32.ofNat i)), .unset] [(.ref r0)]))
    obtain ⟨T105, X105, e105, st105⟩ := getF X104 hx hZ hown (host := "") (Or.inl (hw _ (List.mem_of_getElem? (i := 35) rfl))) Via.refl e104 Vr (g := (mkF m 17 #[.val (.ref r0), .val (.int (Int32.ofNat i)), .unset] [(.ref r0)])) rfl rfl (hb hby d20_17)
    refine own_by st105 ?_
    show own_Comes p e below s _ _ _ (T105.setTop (mkF m 20 #[.val (.ref r0), .val (.int (Int32.ofNat i)), .unset] [(.ref tr)]))
    refine own_by (fun _ kS => XS.iloadN X105.here hx rfl (hb hby d20_20) rfl kS) ?_
    show own_Comes p e below s _ _ _ (T105.setTop (mkF m 21 #[.val (.ref r0), .val (.int (Int32.ofNat i)), .unset] [(.int (Int32.ofNat i)), (.ref tr)]))
    have Vo106 := Ar
    obtain ⟨cl106, Ar106, qA106, SA106, NA106, HA106, GA106⟩ := Vo106
    have hin106 : ¬ ((Int32.ofNat i) < 0 ∨ cl106.slots.size ≤ ((Int32.ofNat i)).toNatClampNeg) := own_inb SA106 (by omega) hi
    have hat106 : cl106.slots[((Int32.ofNat i)).toNatClampNeg]? = some (.int (StrChars.lo8 (cs.getD i 0))) := HA106.at hin106 (by rw [own_tn (by omega)]; exact StrChars.Road.low_at _ cs i hi)
    refine own_by (fun _ kS => X105.baloadBytes hx (j := (Int32.ofNat i)) (v := (.int (StrChars.lo8 (cs.getD i 0)))) (by rw [e105]; exact Ar106.1) (State.isArrayOf_alike hZ.alike Ar106.2.1) Ar106.2.2 hin106 hat106 (g := (mkF m 21 #[.val (.ref r0), .val (.int (Int32.ofNat i)), .unset] [(.int (Int32.ofNat i)), (.ref tr)])) rfl rfl (hb hby d20_21) _ kS) ?_
    show own_Comes p e below s _ _ _ (T105.setTop (mkF m 22 #[.val (.ref r0), .val (.int (Int32.ofNat i)), .unset] [(.int (StrChars.lo8 (cs.getD i 0)))]))
    refine own_by (fun _ kS => XS.sipush X105.here hx rfl (hb hby d20_22) kS) ?_
    show own_Comes p e below s _ _ _ (T105.setTop (mkF m 25 #[.val (.ref r0), .val (.int (Int32.ofNat i)), .unset] [(.int (255 : Int32)), (.int (StrChars.lo8 (cs.getD i 0)))]))
    refine own_by (fun _ kS => XS.iand X105.here hx rfl (hb hby d20_25) rfl kS) ?_
    show own_Comes p e below s _ _ _ (T105.setTop (mkF m 26 #[.val (.ref r0), .val (.int (Int32.ofNat i)), .unset] [(.int ((StrChars.lo8 (cs.getD i 0)) &&& (255 : Int32)))]))
    rw [show ((StrChars.lo8 (cs.getD i 0)) &&& (255 : Int32)) = (cs.getD i 0) from StrChars.lo8_mask (Br _ (own_mem hi)).1 (Hl _ (own_mem hi))]
    show own_Comes p e below s _ _ _ (T105.setTop (mkF m 26 #[.val (.ref r0), .val (.int (Int32.ofNat i)), .unset] [(.int (cs.getD i 0))]))
    refine own_ret X105 (v := some (.int (cs.getD i 0))) (fun h => by rw [Bd.returns] at h; cases h) Bd.notSynchronized (by decide) (by decide) ?_ (fun fs hr => retI X105 hx Bd.returns (hb hby d20_26) hr)
    rw [e105]; exact ⟨rfl, N104, rfl⟩
  · show own_Comes p e below s _ _ _ (s₁.setTop (mkF m 0 #[.val (.ref r0), .val (.int (Int32.ofNat i)), .unset] []))
    refine own_by (fun _ kS => XS.aloadN X0.here hx rfl (hb hby d20_0) rfl rfl kS) ?_
    show own_Comes p e below s _ _ _ (s₁.setTop (mkF m 1 #[.val (.ref r0), .val (.int (Int32.ofNat i)), .unset] [(.ref r0)]))
    obtain ⟨cq107, kq107, q107a, q107b, q107c⟩ := isOf hZ e0 Er
    obtain ⟨vv107, _, ⟨T107, L107, k107, n107⟩, -, X107, ⟨Lc107, hQ107, l107, y107, z107⟩, st107⟩ := X0.virtualBack hx (y := (⟨"java/lang/String", "isLatin1", "()Z"⟩ : MethodName)) (z := (⟨"java/lang/String", "isLatin1", "()Z"⟩ : MethodName)) hown (mvT hZ (hw _ (List.mem_of_getElem? (i := 90) rfl))) (mvT hZ (hw _ (List.mem_of_getElem? (i := 91) rfl))) (notFace_of_selects (args := #[]) (mvT hZ (hw _ (List.mem_of_getElem? (i := 93) rfl)))) (mvT hZ (hw _ (List.mem_of_getElem? (i := 93) rfl))) (mvT hZ (hw _ (List.mem_of_getElem? (i := 92) rfl))) (by decide) (backOf (W := 0) (rm21u l Z a0 hw [] r0 zc h0 n0 Z0 O0 Sz hzc Cr) hZ (hw _ (List.mem_of_getElem? (i := 94) rfl)) (hw _ (List.mem_of_getElem? (i := 10) rfl)) (by decide) (by decide)) q107a q107c (g := (mkF m 1 #[.val (.ref r0), .val (.int (Int32.ofNat i)), .unset] [(.ref r0)])) rfl (by rw [hml]; rfl) (Steps.refl _) (argsL := []) (rest := []) (lenOf pd___Z_171 rfl) rfl (by show 2 * 0 + _ ≤ _; exact Nat.le_of_eq rfl) (hb hby d20_1) (fun _ _ => ⟨rfl, e0, (by decide : 0 + 0 ≤ _), (by decide : 0 + 0 ≤ _)⟩)
    dsimp only [Pt.U, Pt.locs, Pt.cells, Pt.slots] at X107 l107 y107 z107 st107 hQ107
    subst l107 y107 z107
    obtain ⟨rfl, N107q, e107q⟩ := hQ107
    have N107 := Fr.app N0 N107q
    refine own_tr st107 ?_
    have e107 : T107.heap = h0 := e107q
    show own_Comes p e below s _ _ _ (T107.setTop (mkF m 4 #[.val (.ref r0), .val (.int (Int32.ofNat i)), .unset] [(.int (0 : Int32))]))
    have hb108 : (0 : Int32) = (0 : Int32) := by decide
    refine own_by (fun _ kS => XS.ifYes X107.here hx rfl (pc0 := 4) (pc' := 27) rfl (hb hby d20_4) rfl ((if0 _ _).trans (teq hb108).1) (by decide) (by decide) kS) ?_
    show own_Comes p e below s _ _ _ (T107.setTop (mkF m 27 #[.val (.ref r0), .val (.int (Int32.ofNat i)), .unset] []))
    refine own_by (fun _ kS => XS.aloadN X107.here hx rfl (hb hby d20_27) rfl rfl kS) ?_
    show own_Comes p e below s _ _ _ (T107.setTop (mkF m 28 #[.val (.ref r0), .val (.int (Int32.ofNat i)), .unset] [(.ref r0)]))
    obtain ⟨T109, X109, e109, st109⟩ := getF X107 hx hZ hown (host := "") (Or.inl (hw _ (List.mem_of_getElem? (i := 35) rfl))) Via.refl e107 Vr (g := (mkF m 28 #[.val (.ref r0), .val (.int (Int32.ofNat i)), .unset] [(.ref r0)])) rfl rfl (hb hby d20_28)
    refine own_by st109 ?_
    show own_Comes p e below s _ _ _ (T109.setTop (mkF m 31 #[.val (.ref r0), .val (.int (Int32.ofNat i)), .unset] [(.ref tr)]))
    have Vo110 := Ar
    obtain ⟨cl110, Ar110, qA110, SA110, NA110, HA110, GA110⟩ := Vo110
    refine own_by (fun _ kS => X109.arraylength hx (by rw [e109]; exact Ar110.1) (State.isArrayOf_alike hZ.alike Ar110.2.1) (g := (mkF m 31 #[.val (.ref r0), .val (.int (Int32.ofNat i)), .unset] [(.ref tr)])) rfl rfl (hb hby d20_31) _ kS) ?_
    rw [len_of SA110 NA110]
    show own_Comes p e below s _ _ _ (T109.setTop (mkF m 32 #[.val (.ref r0), .val (.int (Int32.ofNat i)), .unset] [(.int (Int32.ofNat (2 * cs.length)))]))
    refine own_by (fun _ kS => XS.iconst X109.here hx rfl (hb hby d20_32) kS) ?_
    show own_Comes p e below s _ _ _ (T109.setTop (mkF m 33 #[.val (.ref r0), .val (.int (Int32.ofNat i)), .unset] [(.int (1 : Int32)), (.int (Int32.ofNat (2 * cs.length)))]))
    refine own_by (fun _ kS => XS.ishr X109.here hx rfl (hb hby d20_33) rfl kS) ?_
    show own_Comes p e below s _ _ _ (T109.setTop (mkF m 34 #[.val (.ref r0), .val (.int (Int32.ofNat i)), .unset] [(.int ((Int32.ofNat (2 * cs.length)) >>> ((1 : Int32) &&& 31)))]))
    rw [show ((Int32.ofNat (2 * cs.length)) >>> ((1 : Int32) &&& 31)) = (Int32.ofNat cs.length) from own_shr1 Lr]
    show own_Comes p e below s _ _ _ (T109.setTop (mkF m 34 #[.val (.ref r0), .val (.int (Int32.ofNat i)), .unset] [(.int (Int32.ofNat cs.length))]))
    refine own_by (fun _ kS => XS.istoreN X109.here hx rfl (hb hby d20_34) rfl (l' := #[.val (.ref r0), .val (.int (Int32.ofNat i)), .val (.int (Int32.ofNat cs.length))]) rfl kS) ?_
    show own_Comes p e below s _ _ _ (T109.setTop (mkF m 35 #[.val (.ref r0), .val (.int (Int32.ofNat i)), .val (.int (Int32.ofNat cs.length))] []))
    refine own_by (fun _ kS => XS.iloadN X109.here hx rfl (hb hby d20_35) rfl kS) ?_
    show own_Comes p e below s _ _ _ (T109.setTop (mkF m 36 #[.val (.ref r0), .val (.int (Int32.ofNat i)), .val (.int (Int32.ofNat cs.length))] [(.int (Int32.ofNat i))]))
    refine own_by (fun _ kS => XS.iloadN X109.here hx rfl (hb hby d20_36) rfl kS) ?_
    show own_Comes p e below s _ _ _ (T109.setTop (mkF m 37 #[.val (.ref r0), .val (.int (Int32.ofNat i)), .val (.int (Int32.ofNat cs.length))] [(.int (Int32.ofNat cs.length)), (.int (Int32.ofNat i))]))
    obtain ⟨vv111, _, ⟨T111, L111, k111, n111⟩, -, X111, ⟨Lc111, hQ111, l111, y111, z111⟩, st111⟩ := Jvm.LawKit.callS X109 hx (y := (⟨"java/lang/String", "checkIndex", "(II)V"⟩ : MethodName)) hown (mvT hZ (hw _ (List.mem_of_getElem? (i := 95) rfl))) (mvT hZ (hw _ (List.mem_of_getElem? (i := 96) rfl))) (mvT hZ (hw _ (List.mem_of_getElem? (i := 10) rfl))) (mvT hZ (hw _ (List.mem_of_getElem? (i := 97) rfl))) (by decide) (backOf (W := 0) (rm22 l Z a0 hw [] (Int32.ofNat i) (Int32.ofNat cs.length) fm h0 n0 Z0 O0 Sf i_fm (own_neg (by omega)) ((own_lt (by omega) (by omega)).mpr hi)) hZ (hw _ (List.mem_of_getElem? (i := 97) rfl)) (hw _ (List.mem_of_getElem? (i := 10) rfl)) (by decide) (by decide)) (g := (mkF m 37 #[.val (.ref r0), .val (.int (Int32.ofNat i)), .val (.int (Int32.ofNat cs.length))] [(.int (Int32.ofNat cs.length)), (.int (Int32.ofNat i))])) rfl (by rw [hml]; rfl) (argsL := [(.int (Int32.ofNat i)), (.int (Int32.ofNat cs.length))]) (rest := []) (lenOf pd__II_V_313 rfl) rfl (by show 2 * 0 + _ ≤ _; exact Nat.le_of_eq rfl) (hb hby d20_37) (fun _ _ => ⟨rfl, e109, (by decide : 0 + 0 ≤ _), (by decide : 0 + 0 ≤ _)⟩)
    dsimp only [Pt.U, Pt.locs, Pt.cells, Pt.slots] at X111 l111 y111 z111 st111 hQ111
    subst l111 y111 z111
    obtain ⟨rfl, N111q, e111q⟩ := hQ111
    have N111 := Fr.app N107 N111q
    refine own_by st111 ?_
    have e111 : T111.heap = h0 := e111q
    show own_Comes p e below s _ _ _ (T111.setTop (mkF m 40 #[.val (.ref r0), .val (.int (Int32.ofNat i)), .val (.int (Int32.ofNat cs.length))] []))
    refine own_by (fun _ kS => XS.aloadN X111.here hx rfl (hb hby d20_40) rfl rfl kS) ?_
    show own_Comes p e below s _ _ _ (T111.setTop (mkF m 41 #[.val (.ref r0), .val (.int (Int32.ofNat i)), .val (.int (Int32.ofNat cs.length))] [(.ref r0)]))
    obtain ⟨T112, X112, e112, st112⟩ := getF X111 hx hZ hown (host := "") (Or.inl (hw _ (List.mem_of_getElem? (i := 35) rfl))) Via.refl e111 Vr (g := (mkF m 41 #[.val (.ref r0), .val (.int (Int32.ofNat i)), .val (.int (Int32.ofNat cs.length))] [(.ref r0)])) rfl rfl (hb hby d20_41)
    refine own_by st112 ?_
    show own_Comes p e below s _ _ _ (T112.setTop (mkF m 44 #[.val (.ref r0), .val (.int (Int32.ofNat i)), .val (.int (Int32.ofNat cs.length))] [(.ref tr)]))
    refine own_by (fun _ kS => XS.iloadN X112.here hx rfl (hb hby d20_44) rfl kS) ?_
    show own_Comes p e below s _ _ _ (T112.setTop (mkF m 45 #[.val (.ref r0), .val (.int (Int32.ofNat i)), .val (.int (Int32.ofNat cs.length))] [(.int (Int32.ofNat i)), (.ref tr)]))
    refine own_by (fun _ kS => XS.iloadN X112.here hx rfl (hb hby d20_45) rfl kS) ?_
    show own_Comes p e below s _ _ _ (T112.setTop (mkF m 46 #[.val (.ref r0), .val (.int (Int32.ofNat i)), .val (.int (Int32.ofNat cs.length))] [(.int (Int32.ofNat cs.length)), (.int (Int32.ofNat i)), (.ref tr)]))
    obtain ⟨vv113, _, ⟨T113, L113, k113, n113⟩, -, X113, ⟨Lc113, hQ113, l113, y113, z113⟩, st113⟩ := Jvm.LawKit.callS X112 hx (y := (⟨"java/lang/StringUTF16", "codePointAt", "([BII)I"⟩ : MethodName)) hown (mvT hZ (hw _ (List.mem_of_getElem? (i := 138) rfl))) (mvT hZ (hw _ (List.mem_of_getElem? (i := 139) rfl))) (mvT hZ (hw _ (List.mem_of_getElem? (i := 24) rfl))) (mvT hZ (hw _ (List.mem_of_getElem? (i := 140) rfl))) (by decide) (backOf (W := 0) (rm29s l Z a0 hw [] tr i kr cs h0 n0 Z0 O0 Sd Sh Sl Ar Lr hi Br hs) hZ (hw _ (List.mem_of_getElem? (i := 140) rfl)) (hw _ (List.mem_of_getElem? (i := 24) rfl)) (by decide) (by decide)) (g := (mkF m 46 #[.val (.ref r0), .val (.int (Int32.ofNat i)), .val (.int (Int32.ofNat cs.length))] [(.int (Int32.ofNat cs.length)), (.int (Int32.ofNat i)), (.ref tr)])) rfl (by rw [hml]; rfl) (argsL := [(.ref tr), (.int (Int32.ofNat i)), (.int (Int32.ofNat cs.length))]) (rest := []) (lenOf pd___BII_I_457 rfl) rfl (by show 2 * 0 + _ ≤ _; exact Nat.le_of_eq rfl) (hb hby d20_46) (fun _ _ => ⟨rfl, e112, (by decide : 0 + 0 ≤ _), (by decide : 0 + 0 ≤ _)⟩)
    dsimp only [Pt.U, Pt.locs, Pt.cells, Pt.slots] at X113 l113 y113 z113 st113 hQ113
    subst l113 y113 z113
    obtain ⟨rfl, N113q, e113q⟩ := hQ113
    have N113 := Fr.app N111 N113q
    refine own_by st113 ?_
    have e113 : T113.heap = h0 := e113q
    show own_Comes p e below s _ _ _ (T113.setTop (mkF m 49 #[.val (.ref r0), .val (.int (Int32.ofNat i)), .val (.int (Int32.ofNat cs.length))] [(.int (cs.getD i 0))]))
    refine own_ret X113 (v := some (.int (cs.getD i 0))) (fun h => by rw [Bd.returns] at h; cases h) Bd.notSynchronized (by decide) (by decide) ?_ (fun fs hr => retI X113 hx Bd.returns (hb hby d20_49) hr)
    rw [e113]; exact ⟨rfl, N113, rfl⟩
theorem ef_rm20p (m : MethodId) (x0 : Addr) (x1 : Int32) : entryFrame m #[(.ref x0), (.int x1)] 3 = mkF m 0 #[.val (.ref x0), .val (.int x1), .unset] [] := by first | (simp [entryFrame, mkF, argsToLocals, Value.category]; done) | rfl
set_option maxRecDepth 65536 in
set_option maxHeartbeats 40000000 in
theorem rm20p (l : Launch) (Z : State) (a0 : Array Value) (hw : ∀ d ∈ tables_1, d.before a0 Z = true) (ws : List Jvm.Cond) (r0 : Addr) (i : Nat) (cs : List Int32) (zc : Int32) (fm : Value) (h0 : Heap) (n0 : Nat) (Z0 : n0 ≤ h0.size) (O0 : Old Z n0 h0) (Sz : Sta Z Z.heap "java/lang/String" "COMPACT_STRINGS" "Z" (.int zc)) (hzc : ¬ zc = 0) (Sf : Sta Z Z.heap "jdk/internal/util/Preconditions" "SIOOBE_FORMATTER" "Ljava/util/function/BiFunction;" fm) (i_fm : fm.isRef = true) (Sd : Sta Z Z.heap "java/lang/StringUTF16" "$assertionsDisabled" "Z" (.int (1 : Int32))) (Sh : Sta Z Z.heap "java/lang/StringUTF16" "HI_BYTE_SHIFT" "I" (.int (0 : Int32))) (Sl : Sta Z Z.heap "java/lang/StringUTF16" "LO_BYTE_SHIFT" "I" (.int (8 : Int32))) (hY : own_Txt Z h0 r0 cs) (hi : i < cs.length) (hs : own_hi (cs.getD i 0)) (hi2 : i + 1 < cs.length) (hlo : own_lo (cs.getD (i + 1) 0)) :
    MetFree l (⟨"java/lang/String", "codePointAt", "(I)I"⟩ : MethodName) (head1 (Jvm.Cond.code (⟨"java/lang/String", "codePointAt", "(I)I"⟩ : MethodName) jdk_42_method_57_code 3 (some .int) :: ws) ({ frames := 3, cells := 0, slots := 0, locals := 44 } : Room)) (fun aX UX => aX = #[(.ref r0), (.int (Int32.ofNat i))] ∧ Z.Warmed39 UX.vm ∧ UX.heap = h0) (fun _ _ _ _ _ => True) (fun _ UX oX UX' => ∃ vX LX, oX = .returned vX ∧ Q20 Z ((((cs.getD i 0) <<< ((10 : Int32) &&& 31)) + (cs.getD (i + 1) 0)) + (-56613888 : Int32)) h0 n0 vX UX'.heap LX ∧ FrameEnd UX oX UX' LX ({ frames := 3, cells := 0, slots := 0, locals := 44 } : Room).cells ({ frames := 3, cells := 0, slots := 0, locals := 44 } : Room).slots) := by
  refine MetFree.of_bodySF (plainFor_of_name pn_java_lang_String) hisR ?_
  intro p e s m args below meth c s₁ Bd hml0 hP hK
  obtain ⟨rfl, hZ, hh⟩ := hP
  have hx := Bd.exec
  have hby := Bd.bytes
  have hml : c.maxLocals = 3 := hml0
  have hown : s.vm.findClass "java/lang/String" = some m.cls := findClass_of_methodNamed Bd.named
  have hnm := (name_of_methodNamed Bd.named Bd.method).1
  have X0 : Stand p l e ({ frames := 3, cells := 0, slots := 0, locals := 44 } : Room) s m #[(.ref r0), (.int (Int32.ofNat i))] below meth c s₁ [] 0 0 := Stand.of_body Bd
  have e0 : s₁.heap = h0 := by rw [← hh, Bd.state]; rfl
  have N0 := Fr.nil n0
  show own_Comes p e below s ({ frames := 3, cells := 0, slots := 0, locals := 44 } : Room).cells ({ frames := 3, cells := 0, slots := 0, locals := 44 } : Room).slots (Q20 Z ((((cs.getD i 0) <<< ((10 : Int32) &&& 31)) + (cs.getD (i + 1) 0)) + (-56613888 : Int32)) h0 n0) _
  rw [show entryFrame m #[(.ref r0), (.int (Int32.ofNat i))] 3 = mkF m 0 #[.val (.ref r0), .val (.int (Int32.ofNat i)), .unset] [] from ef_rm20p m r0 (Int32.ofNat i)]
  show own_Comes p e below s _ _ _ (s₁.setTop (mkF m 0 #[.val (.ref r0), .val (.int (Int32.ofNat i)), .unset] []))
  have hYc := hY
  obtain ⟨Er, tr, kr, cdr, Nr, vr, Vr, Cr, Ar, Hr, Br, Lr⟩ := hYc
  rcases Hr with ⟨rfl, rfl, rfl, Hl⟩ | ⟨rfl, rfl, rfl, Hw⟩
  · show own_Comes p e below s _ _ _ (s₁.setTop (mkF m 0 #[.val (.ref r0), .val (.int (Int32.ofNat i)), .unset] []))
    exact absurd (own_255 (Hl _ (own_mem hi))) hs.1
  · show own_Comes p e below s _ _ _ (s₁.setTop (mkF m 0 #[.val (.ref r0), .val (.int (Int32.ofNat i)), .unset] []))
    refine own_by (fun _ kS => XS.aloadN X0.here hx rfl (hb hby d20_0) rfl rfl kS) ?_
    show own_Comes p e below s _ _ _ (s₁.setTop (mkF m 1 #[.val (.ref r0), .val (.int (Int32.ofNat i)), .unset] [(.ref r0)]))
    obtain ⟨cq114, kq114, q114a, q114b, q114c⟩ := isOf hZ e0 Er
    obtain ⟨vv114, _, ⟨T114, L114, k114, n114⟩, -, X114, ⟨Lc114, hQ114, l114, y114, z114⟩, st114⟩ := X0.virtualBack hx (y := (⟨"java/lang/String", "isLatin1", "()Z"⟩ : MethodName)) (z := (⟨"java/lang/String", "isLatin1", "()Z"⟩ : MethodName)) hown (mvT hZ (hw _ (List.mem_of_getElem? (i := 90) rfl))) (mvT hZ (hw _ (List.mem_of_getElem? (i := 91) rfl))) (notFace_of_selects (args := #[]) (mvT hZ (hw _ (List.mem_of_getElem? (i := 93) rfl)))) (mvT hZ (hw _ (List.mem_of_getElem? (i := 93) rfl))) (mvT hZ (hw _ (List.mem_of_getElem? (i := 92) rfl))) (by decide) (backOf (W := 0) (rm21u l Z a0 hw [] r0 zc h0 n0 Z0 O0 Sz hzc Cr) hZ (hw _ (List.mem_of_getElem? (i := 94) rfl)) (hw _ (List.mem_of_getElem? (i := 10) rfl)) (by decide) (by decide)) q114a q114c (g := (mkF m 1 #[.val (.ref r0), .val (.int (Int32.ofNat i)), .unset] [(.ref r0)])) rfl (by rw [hml]; rfl) (Steps.refl _) (argsL := []) (rest := []) (lenOf pd___Z_171 rfl) rfl (by show 2 * 0 + _ ≤ _; exact Nat.le_of_eq rfl) (hb hby d20_1) (fun _ _ => ⟨rfl, e0, (by decide : 0 + 0 ≤ _), (by decide : 0 + 0 ≤ _)⟩)
    dsimp only [Pt.U, Pt.locs, Pt.cells, Pt.slots] at X114 l114 y114 z114 st114 hQ114
    subst l114 y114 z114
    obtain ⟨rfl, N114q, e114q⟩ := hQ114
    have N114 := Fr.app N0 N114q
    refine own_tr st114 ?_
    have e114 : T114.heap = h0 := e114q
    show own_Comes p e below s _ _ _ (T114.setTop (mkF m 4 #[.val (.ref r0), .val (.int (Int32.ofNat i)), .unset] [(.int (0 : Int32))]))
    have hb115 : (0 : Int32) = (0 : Int32) := by decide
    refine own_by (fun _ kS => XS.ifYes X114.here hx rfl (pc0 := 4) (pc' := 27) rfl (hb hby d20_4) rfl ((if0 _ _).trans (teq hb115).1) (by decide) (by decide) kS) ?_
    show own_Comes p e below s _ _ _ (T114.setTop (mkF m 27 #[.val (.ref r0), .val (.int (Int32.ofNat i)), .unset] []))
    refine own_by (fun _ kS => XS.aloadN X114.here hx rfl (hb hby d20_27) rfl rfl kS) ?_
    show own_Comes p e below s _ _ _ (T114.setTop (mkF m 28 #[.val (.ref r0), .val (.int (Int32.ofNat i)), .unset] [(.ref r0)]))
    obtain ⟨T116, X116, e116, st116⟩ := getF X114 hx hZ hown (host := "") (Or.inl (hw _ (List.mem_of_getElem? (i := 35) rfl))) Via.refl e114 Vr (g := (mkF m 28 #[.val (.ref r0), .val (.int (Int32.ofNat i)), .unset] [(.ref r0)])) rfl rfl (hb hby d20_28)
    refine own_by st116 ?_
    show own_Comes p e below s _ _ _ (T116.setTop (mkF m 31 #[.val (.ref r0), .val (.int (Int32.ofNat i)), .unset] [(.ref tr)]))
    have Vo117 := Ar
    obtain ⟨cl117, Ar117, qA117, SA117, NA117, HA117, GA117⟩ := Vo117
    refine own_by (fun _ kS => X116.arraylength hx (by rw [e116]; exact Ar117.1) (State.isArrayOf_alike hZ.alike Ar117.2.1) (g := (mkF m 31 #[.val (.ref r0), .val (.int (Int32.ofNat i)), .unset] [(.ref tr)])) rfl rfl (hb hby d20_31) _ kS) ?_
    rw [len_of SA117 NA117]
    show own_Comes p e below s _ _ _ (T116.setTop (mkF m 32 #[.val (.ref r0), .val (.int (Int32.ofNat i)), .unset] [(.int (Int32.ofNat (2 * cs.length)))]))
    refine own_by (fun _ kS => XS.iconst X116.here hx rfl (hb hby d20_32) kS) ?_
    show own_Comes p e below s _ _ _ (T116.setTop (mkF m 33 #[.val (.ref r0), .val (.int (Int32.ofNat i)), .unset] [(.int (1 : Int32)), (.int (Int32.ofNat (2 * cs.length)))]))
    refine own_by (fun _ kS => XS.ishr X116.here hx rfl (hb hby d20_33) rfl kS) ?_
    show own_Comes p e below s _ _ _ (T116.setTop (mkF m 34 #[.val (.ref r0), .val (.int (Int32.ofNat i)), .unset] [(.int ((Int32.ofNat (2 * cs.length)) >>> ((1 : Int32) &&& 31)))]))
    rw [show ((Int32.ofNat (2 * cs.length)) >>> ((1 : Int32) &&& 31)) = (Int32.ofNat cs.length) from own_shr1 Lr]
    show own_Comes p e below s _ _ _ (T116.setTop (mkF m 34 #[.val (.ref r0), .val (.int (Int32.ofNat i)), .unset] [(.int (Int32.ofNat cs.length))]))
    refine own_by (fun _ kS => XS.istoreN X116.here hx rfl (hb hby d20_34) rfl (l' := #[.val (.ref r0), .val (.int (Int32.ofNat i)), .val (.int (Int32.ofNat cs.length))]) rfl kS) ?_
    show own_Comes p e below s _ _ _ (T116.setTop (mkF m 35 #[.val (.ref r0), .val (.int (Int32.ofNat i)), .val (.int (Int32.ofNat cs.length))] []))
    refine own_by (fun _ kS => XS.iloadN X116.here hx rfl (hb hby d20_35) rfl kS) ?_
    show own_Comes p e below s _ _ _ (T116.setTop (mkF m 36 #[.val (.ref r0), .val (.int (Int32.ofNat i)), .val (.int (Int32.ofNat cs.length))] [(.int (Int32.ofNat i))]))
    refine own_by (fun _ kS => XS.iloadN X116.here hx rfl (hb hby d20_36) rfl kS) ?_
    show own_Comes p e below s _ _ _ (T116.setTop (mkF m 37 #[.val (.ref r0), .val (.int (Int32.ofNat i)), .val (.int (Int32.ofNat cs.length))] [(.int (Int32.ofNat cs.length)), (.int (Int32.ofNat i))]))
    obtain ⟨vv118, _, ⟨T118, L118, k118, n118⟩, -, X118, ⟨Lc118, hQ118, l118, y118, z118⟩, st118⟩ := Jvm.LawKit.callS X116 hx (y := (⟨"java/lang/String", "checkIndex", "(II)V"⟩ : MethodName)) hown (mvT hZ (hw _ (List.mem_of_getElem? (i := 95) rfl))) (mvT hZ (hw _ (List.mem_of_getElem? (i := 96) rfl))) (mvT hZ (hw _ (List.mem_of_getElem? (i := 10) rfl))) (mvT hZ (hw _ (List.mem_of_getElem? (i := 97) rfl))) (by decide) (backOf (W := 0) (rm22 l Z a0 hw [] (Int32.ofNat i) (Int32.ofNat cs.length) fm h0 n0 Z0 O0 Sf i_fm (own_neg (by omega)) ((own_lt (by omega) (by omega)).mpr hi)) hZ (hw _ (List.mem_of_getElem? (i := 97) rfl)) (hw _ (List.mem_of_getElem? (i := 10) rfl)) (by decide) (by decide)) (g := (mkF m 37 #[.val (.ref r0), .val (.int (Int32.ofNat i)), .val (.int (Int32.ofNat cs.length))] [(.int (Int32.ofNat cs.length)), (.int (Int32.ofNat i))])) rfl (by rw [hml]; rfl) (argsL := [(.int (Int32.ofNat i)), (.int (Int32.ofNat cs.length))]) (rest := []) (lenOf pd__II_V_313 rfl) rfl (by show 2 * 0 + _ ≤ _; exact Nat.le_of_eq rfl) (hb hby d20_37) (fun _ _ => ⟨rfl, e116, (by decide : 0 + 0 ≤ _), (by decide : 0 + 0 ≤ _)⟩)
    dsimp only [Pt.U, Pt.locs, Pt.cells, Pt.slots] at X118 l118 y118 z118 st118 hQ118
    subst l118 y118 z118
    obtain ⟨rfl, N118q, e118q⟩ := hQ118
    have N118 := Fr.app N114 N118q
    refine own_by st118 ?_
    have e118 : T118.heap = h0 := e118q
    show own_Comes p e below s _ _ _ (T118.setTop (mkF m 40 #[.val (.ref r0), .val (.int (Int32.ofNat i)), .val (.int (Int32.ofNat cs.length))] []))
    refine own_by (fun _ kS => XS.aloadN X118.here hx rfl (hb hby d20_40) rfl rfl kS) ?_
    show own_Comes p e below s _ _ _ (T118.setTop (mkF m 41 #[.val (.ref r0), .val (.int (Int32.ofNat i)), .val (.int (Int32.ofNat cs.length))] [(.ref r0)]))
    obtain ⟨T119, X119, e119, st119⟩ := getF X118 hx hZ hown (host := "") (Or.inl (hw _ (List.mem_of_getElem? (i := 35) rfl))) Via.refl e118 Vr (g := (mkF m 41 #[.val (.ref r0), .val (.int (Int32.ofNat i)), .val (.int (Int32.ofNat cs.length))] [(.ref r0)])) rfl rfl (hb hby d20_41)
    refine own_by st119 ?_
    show own_Comes p e below s _ _ _ (T119.setTop (mkF m 44 #[.val (.ref r0), .val (.int (Int32.ofNat i)), .val (.int (Int32.ofNat cs.length))] [(.ref tr)]))
    refine own_by (fun _ kS => XS.iloadN X119.here hx rfl (hb hby d20_44) rfl kS) ?_
    show own_Comes p e below s _ _ _ (T119.setTop (mkF m 45 #[.val (.ref r0), .val (.int (Int32.ofNat i)), .val (.int (Int32.ofNat cs.length))] [(.int (Int32.ofNat i)), (.ref tr)]))
    refine own_by (fun _ kS => XS.iloadN X119.here hx rfl (hb hby d20_45) rfl kS) ?_
    show own_Comes p e below s _ _ _ (T119.setTop (mkF m 46 #[.val (.ref r0), .val (.int (Int32.ofNat i)), .val (.int (Int32.ofNat cs.length))] [(.int (Int32.ofNat cs.length)), (.int (Int32.ofNat i)), (.ref tr)]))
    obtain ⟨vv120, _, ⟨T120, L120, k120, n120⟩, -, X120, ⟨Lc120, hQ120, l120, y120, z120⟩, st120⟩ := Jvm.LawKit.callS X119 hx (y := (⟨"java/lang/StringUTF16", "codePointAt", "([BII)I"⟩ : MethodName)) hown (mvT hZ (hw _ (List.mem_of_getElem? (i := 138) rfl))) (mvT hZ (hw _ (List.mem_of_getElem? (i := 139) rfl))) (mvT hZ (hw _ (List.mem_of_getElem? (i := 24) rfl))) (mvT hZ (hw _ (List.mem_of_getElem? (i := 140) rfl))) (by decide) (backOf (W := 0) (rm29p l Z a0 hw [] tr i kr cs h0 n0 Z0 O0 Sd Sh Sl Ar Lr hi Br hs hi2 hlo) hZ (hw _ (List.mem_of_getElem? (i := 140) rfl)) (hw _ (List.mem_of_getElem? (i := 24) rfl)) (by decide) (by decide)) (g := (mkF m 46 #[.val (.ref r0), .val (.int (Int32.ofNat i)), .val (.int (Int32.ofNat cs.length))] [(.int (Int32.ofNat cs.length)), (.int (Int32.ofNat i)), (.ref tr)])) rfl (by rw [hml]; rfl) (argsL := [(.ref tr), (.int (Int32.ofNat i)), (.int (Int32.ofNat cs.length))]) (rest := []) (lenOf pd___BII_I_457 rfl) rfl (by show 2 * 0 + _ ≤ _; exact Nat.le_of_eq rfl) (hb hby d20_46) (fun _ _ => ⟨rfl, e119, (by decide : 0 + 0 ≤ _), (by decide : 0 + 0 ≤ _)⟩)
    dsimp only [Pt.U, Pt.locs, Pt.cells, Pt.slots] at X120 l120 y120 z120 st120 hQ120
    subst l120 y120 z120
    obtain ⟨rfl, N120q, e120q⟩ := hQ120
    have N120 := Fr.app N118 N120q
    refine own_by st120 ?_
    have e120 : T120.heap = h0 := e120q
    show own_Comes p e below s _ _ _ (T120.setTop (mkF m 49 #[.val (.ref r0), .val (.int (Int32.ofNat i)), .val (.int (Int32.ofNat cs.length))] [(.int ((((cs.getD i 0) <<< ((10 : Int32) &&& 31)) + (cs.getD (i + 1) 0)) + (-56613888 : Int32)))]))
    refine own_ret X120 (v := some (.int ((((cs.getD i 0) <<< ((10 : Int32) &&& 31)) + (cs.getD (i + 1) 0)) + (-56613888 : Int32)))) (fun h => by rw [Bd.returns] at h; cases h) Bd.notSynchronized (by decide) (by decide) ?_ (fun fs hr => retI X120 hx Bd.returns (hb hby d20_49) hr)
    rw [e120]; exact ⟨rfl, N120, rfl⟩
def Q25 (Z : State) (n : Nat) (h0 : Heap) (n0 : Nat) (v : Option Value) (h : Heap) (L : List Loc) : Prop := v = some (.int (Int32.ofNat n)) ∧ Fr n0 L ∧ h = h0
def Q24 (Z : State) (n : Nat) (h0 : Heap) (n0 : Nat) (v : Option Value) (h : Heap) (L : List Loc) : Prop := v = some (.int (Int32.ofNat n)) ∧ Fr n0 L ∧ h = h0
theorem ef_rm25s (m : MethodId) (x0 : Addr) (x1 : Int32) (x2 : Int32) : entryFrame m #[(.ref x0), (.int x1), (.int x2)] 6 = mkF m 0 #[.val (.ref x0), .val (.int x1), .val (.int x2), .unset, .unset, .unset] [] := by first | (simp [entryFrame, mkF, argsToLocals, Value.category]; done) | rfl
theorem d25_0 : decode jdk_89_method_36_code 0 = .ok (.aload_n 0, 1) := by decide +kernel
theorem pd___I_154 : parseMethodDescriptor "()I" = some ⟨[], some .int⟩ := by decide +kernel
theorem d25_1 : decode jdk_89_method_36_code 1 = .ok (.invokeinterface 92 1, 5) := by decide +kernel
theorem d25_6 : decode jdk_89_method_36_code 6 = .ok (.istore_n 3, 1) := by decide +kernel
theorem d25_7 : decode jdk_89_method_36_code 7 = .ok (.iload_n 1, 1) := by decide +kernel
theorem d25_8 : decode jdk_89_method_36_code 8 = .ok (.ifCond .lt 8, 3) := by decide +kernel
theorem d25_11 : decode jdk_89_method_36_code 11 = .ok (.iload_n 1, 1) := by decide +kernel
theorem d25_12 : decode jdk_89_method_36_code 12 = .ok (.iload_n 3, 1) := by decide +kernel
theorem d25_13 : decode jdk_89_method_36_code 13 = .ok (.if_icmp .le 11, 3) := by decide +kernel
theorem d25_24 : decode jdk_89_method_36_code 24 = .ok (.iload_n 1, 1) := by decide +kernel
theorem d25_25 : decode jdk_89_method_36_code 25 = .ok (.istore 4, 2) := by decide +kernel
theorem d25_27 : decode jdk_89_method_36_code 27 = .ok (.iload_n 2, 1) := by decide +kernel
theorem d25_28 : decode jdk_89_method_36_code 28 = .ok (.ifCond .lt 81, 3) := by decide +kernel
theorem d25_31 : decode jdk_89_method_36_code 31 = .ok (.iconst 0, 1) := by decide +kernel
theorem d25_32 : decode jdk_89_method_36_code 32 = .ok (.istore 5, 2) := by decide +kernel
theorem d25_34 : decode jdk_89_method_36_code 34 = .ok (.iload 4, 2) := by decide +kernel
theorem d25_36 : decode jdk_89_method_36_code 36 = .ok (.iload_n 3, 1) := by decide +kernel
theorem d25_37 : decode jdk_89_method_36_code 37 = .ok (.if_icmp .ge 55, 3) := by decide +kernel
theorem d25_40 : decode jdk_89_method_36_code 40 = .ok (.iload 5, 2) := by decide +kernel
theorem d25_42 : decode jdk_89_method_36_code 42 = .ok (.iload_n 2, 1) := by decide +kernel
theorem d25_43 : decode jdk_89_method_36_code 43 = .ok (.if_icmp .ge 49, 3) := by decide +kernel
theorem d25_46 : decode jdk_89_method_36_code 46 = .ok (.aload_n 0, 1) := by decide +kernel
theorem d25_47 : decode jdk_89_method_36_code 47 = .ok (.iload 4, 2) := by decide +kernel
theorem d25_49 : decode jdk_89_method_36_code 49 = .ok (.iinc 4 1, 3) := by decide +kernel
theorem pd__I_C_221 : parseMethodDescriptor "(I)C" = some ⟨[.int], some .char⟩ := by decide +kernel
theorem d25_52 : decode jdk_89_method_36_code 52 = .ok (.invokeinterface 86 2, 5) := by decide +kernel
theorem d25_57 : decode jdk_89_method_36_code 57 = .ok (.invokestatic 78, 3) := by decide +kernel
theorem d25_60 : decode jdk_89_method_36_code 60 = .ok (.ifCond .eq 26, 3) := by decide +kernel
theorem d25_86 : decode jdk_89_method_36_code 86 = .ok (.iinc 5 1, 3) := by decide +kernel
theorem d25_89 : decode jdk_89_method_36_code 89 = .ok (.goto (-55), 3) := by decide +kernel
theorem d25_92 : decode jdk_89_method_36_code 92 = .ok (.iload 5, 2) := by decide +kernel
theorem d25_94 : decode jdk_89_method_36_code 94 = .ok (.iload_n 2, 1) := by decide +kernel
theorem d25_95 : decode jdk_89_method_36_code 95 = .ok (.if_icmp .ge 11, 3) := by decide +kernel
theorem d25_106 : decode jdk_89_method_36_code 106 = .ok (.goto 76, 3) := by decide +kernel
theorem d25_182 : decode jdk_89_method_36_code 182 = .ok (.iload 4, 2) := by decide +kernel
theorem d25_184 : decode jdk_89_method_36_code 184 = .ok (.ireturn, 1) := by decide +kernel
set_option maxRecDepth 65536 in
set_option maxHeartbeats 40000000 in
theorem rm25s (l : Launch) (Z : State) (a0 : Array Value) (hw : ∀ d ∈ tables_1, d.before a0 Z = true) (ws : List Jvm.Cond) (r0 : Addr) (i : Nat) (cs : List Int32) (zc : Int32) (fm : Value) (h0 : Heap) (n0 : Nat) (Z0 : n0 ≤ h0.size) (O0 : Old Z n0 h0) (Sz : Sta Z Z.heap "java/lang/String" "COMPACT_STRINGS" "Z" (.int zc)) (hzc : ¬ zc = 0) (Sf : Sta Z Z.heap "jdk/internal/util/Preconditions" "SIOOBE_FORMATTER" "Ljava/util/function/BiFunction;" fm) (i_fm : fm.isRef = true) (Sd : Sta Z Z.heap "java/lang/StringUTF16" "$assertionsDisabled" "Z" (.int (1 : Int32))) (Sh : Sta Z Z.heap "java/lang/StringUTF16" "HI_BYTE_SHIFT" "I" (.int (0 : Int32))) (Sl : Sta Z Z.heap "java/lang/StringUTF16" "LO_BYTE_SHIFT" "I" (.int (8 : Int32))) (hY : own_Txt Z h0 r0 cs) (hi : i < cs.length) (hs : ¬ own_hi (cs.getD i 0)) :
    MetFree l (⟨"java/lang/Character", "offsetByCodePoints", "(Ljava/lang/CharSequence;II)I"⟩ : MethodName) (head1 (Jvm.Cond.code (⟨"java/lang/Character", "offsetByCodePoints", "(Ljava/lang/CharSequence;II)I"⟩ : MethodName) jdk_89_method_36_code 6 (some .int) :: ws) ({ frames := 5, cells := 0, slots := 0, locals := 66 } : Room)) (fun aX UX => aX = #[(.ref r0), (.int (Int32.ofNat i)), (.int (1 : Int32))] ∧ Z.Warmed39 UX.vm ∧ UX.heap = h0) (fun _ _ _ _ _ => True) (fun _ UX oX UX' => ∃ vX LX, oX = .returned vX ∧ Q25 Z (i + 1) h0 n0 vX UX'.heap LX ∧ FrameEnd UX oX UX' LX ({ frames := 5, cells := 0, slots := 0, locals := 66 } : Room).cells ({ frames := 5, cells := 0, slots := 0, locals := 66 } : Room).slots) := by
  refine MetFree.of_bodySF (plainFor_of_name pn_java_lang_Character) hisR ?_
  intro p e s m args below meth c s₁ Bd hml0 hP hK
  obtain ⟨rfl, hZ, hh⟩ := hP
  have hx := Bd.exec
  have hby := Bd.bytes
  have hml : c.maxLocals = 6 := hml0
  have hown : s.vm.findClass "java/lang/Character" = some m.cls := findClass_of_methodNamed Bd.named
  have hnm := (name_of_methodNamed Bd.named Bd.method).1
  have X0 : Stand p l e ({ frames := 5, cells := 0, slots := 0, locals := 66 } : Room) s m #[(.ref r0), (.int (Int32.ofNat i)), (.int (1 : Int32))] below meth c s₁ [] 0 0 := Stand.of_body Bd
  have e0 : s₁.heap = h0 := by rw [← hh, Bd.state]; rfl
  have N0 := Fr.nil n0
  show own_Comes p e below s ({ frames := 5, cells := 0, slots := 0, locals := 66 } : Room).cells ({ frames := 5, cells := 0, slots := 0, locals := 66 } : Room).slots (Q25 Z (i + 1) h0 n0) _
  rw [show entryFrame m #[(.ref r0), (.int (Int32.ofNat i)), (.int (1 : Int32))] 6 = mkF m 0 #[.val (.ref r0), .val (.int (Int32.ofNat i)), .val (.int (1 : Int32)), .unset, .unset, .unset] [] from ef_rm25s m r0 (Int32.ofNat i) (1 : Int32)]
  show own_Comes p e below s _ _ _ (s₁.setTop (mkF m 0 #[.val (.ref r0), .val (.int (Int32.ofNat i)), .val (.int (1 : Int32)), .unset, .unset, .unset] []))
  have hYo := hY
  obtain ⟨Eo, tO, ko, cdo, No, vo, Vo, Co, Ao, Ho, Bo, Lo⟩ := hYo
  have hwl : ∀ d ∈ StrChars.Road.wordsLen, d.before a0 Z = true := fun d hd => hw d ((by decide +kernel : ∀ d ∈ StrChars.Road.wordsLen, d ∈ tables_1) d hd)
  refine own_by (fun _ kS => XS.aloadN X0.here hx rfl (hb hby d25_0) rfl rfl kS) ?_
  show own_Comes p e below s _ _ _ (s₁.setTop (mkF m 1 #[.val (.ref r0), .val (.int (Int32.ofNat i)), .val (.int (1 : Int32)), .unset, .unset, .unset] [(.ref r0)]))
  obtain ⟨cq121, kq121, q121a, q121b, q121c⟩ := isOf hZ e0 Eo
  obtain ⟨vv121, _, ⟨T121, L121, k121, n121⟩, -, X121, ⟨Lc121, hQ121, l121, y121, z121⟩, st121⟩ := X0.interfaceBack hx (xi := (⟨"java/lang/CharSequence", "length", "()I"⟩ : MethodName)) (y := (⟨"java/lang/String", "length", "()I"⟩ : MethodName)) hown (mvT hZ (hw _ (List.mem_of_getElem? (i := 113) rfl))) (mvT hZ (hw _ (List.mem_of_getElem? (i := 114) rfl))) (mvT hZ (hw _ (List.mem_of_getElem? (i := 115) rfl))) (mvT hZ (hw _ (List.mem_of_getElem? (i := 116) rfl))) (mvT hZ (hw _ (List.mem_of_getElem? (i := 77) rfl))) (mvT hZ (hw _ (List.mem_of_getElem? (i := 117) rfl))) (mvT hZ (hw _ (List.mem_of_getElem? (i := 118) rfl))) (mvT hZ (hw _ (List.mem_of_getElem? (i := 119) rfl))) (by decide) (StrChars.Road.lenW (W := 0) hZ hwl (kI := 4) (hw _ (List.mem_of_getElem? (i := 9) rfl)) (cs := cs) Eo Vo Co Ao Ho Bo (Sz.ext O0.2) hzc Lo (by decide) (by decide)) q121a q121b q121c (g := (mkF m 1 #[.val (.ref r0), .val (.int (Int32.ofNat i)), .val (.int (1 : Int32)), .unset, .unset, .unset] [(.ref r0)])) rfl (by rw [hml]; rfl) (Steps.refl _) (argsL := []) (rest := []) (lenOf pd___I_154 rfl) rfl (by show 2 * 0 + _ ≤ _; exact Nat.le_of_eq rfl) (hb hby d25_1) (fun _ _ => ⟨rfl, e0, (by decide : 0 + 0 ≤ _), (by decide : 0 + 0 ≤ _)⟩)
  dsimp only [Pt.U, Pt.locs, Pt.cells, Pt.slots] at X121 l121 y121 z121 st121 hQ121
  subst l121 y121 z121
  obtain ⟨rfl, rfl, e121q⟩ := hQ121
  have N121q := Fr.nil n0
  have N121 := Fr.app N0 N121q
  refine own_tr st121 ?_
  have e121 : T121.heap = h0 := e121q
  show own_Comes p e below s _ _ _ (T121.setTop (mkF m 6 #[.val (.ref r0), .val (.int (Int32.ofNat i)), .val (.int (1 : Int32)), .unset, .unset, .unset] [(.int (Int32.ofNat cs.length))]))
  refine own_by (fun _ kS => XS.istoreN X121.here hx rfl (hb hby d25_6) rfl (l' := #[.val (.ref r0), .val (.int (Int32.ofNat i)), .val (.int (1 : Int32)), .val (.int (Int32.ofNat cs.length)), .unset, .unset]) rfl kS) ?_
  show own_Comes p e below s _ _ _ (T121.setTop (mkF m 7 #[.val (.ref r0), .val (.int (Int32.ofNat i)), .val (.int (1 : Int32)), .val (.int (Int32.ofNat cs.length)), .unset, .unset] []))
  refine own_by (fun _ kS => XS.iloadN X121.here hx rfl (hb hby d25_7) rfl kS) ?_
  show own_Comes p e below s _ _ _ (T121.setTop (mkF m 8 #[.val (.ref r0), .val (.int (Int32.ofNat i)), .val (.int (1 : Int32)), .val (.int (Int32.ofNat cs.length)), .unset, .unset] [(.int (Int32.ofNat i))]))
  have hb122 : ¬ ((Int32.ofNat i) < (0 : Int32)) := own_neg (by omega)
  refine own_by (fun _ kS => XS.ifNo X121.here hx rfl (hb hby d25_8) rfl ((if0 _ _).trans (flt hb122).1) kS) ?_
  show own_Comes p e below s _ _ _ (T121.setTop (mkF m 11 #[.val (.ref r0), .val (.int (Int32.ofNat i)), .val (.int (1 : Int32)), .val (.int (Int32.ofNat cs.length)), .unset, .unset] []))
  refine own_by (fun _ kS => XS.iloadN X121.here hx rfl (hb hby d25_11) rfl kS) ?_
  show own_Comes p e below s _ _ _ (T121.setTop (mkF m 12 #[.val (.ref r0), .val (.int (Int32.ofNat i)), .val (.int (1 : Int32)), .val (.int (Int32.ofNat cs.length)), .unset, .unset] [(.int (Int32.ofNat i))]))
  refine own_by (fun _ kS => XS.iloadN X121.here hx rfl (hb hby d25_12) rfl kS) ?_
  show own_Comes p e below s _ _ _ (T121.setTop (mkF m 13 #[.val (.ref r0), .val (.int (Int32.ofNat i)), .val (.int (1 : Int32)), .val (.int (Int32.ofNat cs.length)), .unset, .unset] [(.int (Int32.ofNat cs.length)), (.int (Int32.ofNat i))]))
  have hb123 : ¬ ((Int32.ofNat cs.length) < (Int32.ofNat i)) := fun q => absurd ((own_lt (by omega) (by omega)).mp q) (by omega)
  refine own_by (fun _ kS => XS.icmpYes X121.here hx rfl (pc0 := 13) (pc' := 24) rfl (hb hby d25_13) rfl (flt hb123).2.2.2 (by decide) (by decide) kS) ?_
  show own_Comes p e below s _ _ _ (T121.setTop (mkF m 24 #[.val (.ref r0), .val (.int (Int32.ofNat i)), .val (.int (1 : Int32)), .val (.int (Int32.ofNat cs.length)), .unset, .unset] []))
  refine own_by (fun _ kS => XS.iloadN X121.here hx rfl (hb hby d25_24) rfl kS) ?_
  show own_Comes p e below s _ _ _ (T121.setTop (mkF m 25 #[.val (.ref r0), .val (.int (Int32.ofNat i)), .val (.int (1 : Int32)), .val (.int (Int32.ofNat cs.length)), .unset, .unset] [(.int (Int32.ofNat i))]))
  refine own_by (fun _ kS => XS.istore X121.here hx rfl (hb hby d25_25) rfl (l' := #[.val (.ref r0), .val (.int (Int32.ofNat i)), .val (.int (1 : Int32)), .val (.int (Int32.ofNat cs.length)), .val (.int (Int32.ofNat i)), .unset]) rfl kS) ?_
  show own_Comes p e below s _ _ _ (T121.setTop (mkF m 27 #[.val (.ref r0), .val (.int (Int32.ofNat i)), .val (.int (1 : Int32)), .val (.int (Int32.ofNat cs.length)), .val (.int (Int32.ofNat i)), .unset] []))
  refine own_by (fun _ kS => XS.iloadN X121.here hx rfl (hb hby d25_27) rfl kS) ?_
  show own_Comes p e below s _ _ _ (T121.setTop (mkF m 28 #[.val (.ref r0), .val (.int (Int32.ofNat i)), .val (.int (1 : Int32)), .val (.int (Int32.ofNat cs.length)), .val (.int (Int32.ofNat i)), .unset] [(.int (1 : Int32))]))
  have hb124 : ¬ ((1 : Int32) < (0 : Int32)) := by decide
  refine own_by (fun _ kS => XS.ifNo X121.here hx rfl (hb hby d25_28) rfl ((if0 _ _).trans (flt hb124).1) kS) ?_
  show own_Comes p e below s _ _ _ (T121.setTop (mkF m 31 #[.val (.ref r0), .val (.int (Int32.ofNat i)), .val (.int (1 : Int32)), .val (.int (Int32.ofNat cs.length)), .val (.int (Int32.ofNat i)), .unset] []))
  refine own_by (fun _ kS => XS.iconst X121.here hx rfl (hb hby d25_31) kS) ?_
  show own_Comes p e below s _ _ _ (T121.setTop (mkF m 32 #[.val (.ref r0), .val (.int (Int32.ofNat i)), .val (.int (1 : Int32)), .val (.int (Int32.ofNat cs.length)), .val (.int (Int32.ofNat i)), .unset] [(.int (0 : Int32))]))
  refine own_by (fun _ kS => XS.istore X121.here hx rfl (hb hby d25_32) rfl (l' := #[.val (.ref r0), .val (.int (Int32.ofNat i)), .val (.int (1 : Int32)), .val (.int (Int32.ofNat cs.length)), .val (.int (Int32.ofNat i)), .val (.int (0 : Int32))]) rfl kS) ?_
  show own_Comes p e below s _ _ _ (T121.setTop (mkF m 34 #[.val (.ref r0), .val (.int (Int32.ofNat i)), .val (.int (1 : Int32)), .val (.int (Int32.ofNat cs.length)), .val (.int (Int32.ofNat i)), .val (.int (0 : Int32))] []))
  refine own_by (fun _ kS => XS.iload X121.here hx rfl (hb hby d25_34) rfl kS) ?_
  show own_Comes p e below s _ _ _ (T121.setTop (mkF m 36 #[.val (.ref r0), .val (.int (Int32.ofNat i)), .val (.int (1 : Int32)), .val (.int (Int32.ofNat cs.length)), .val (.int (Int32.ofNat i)), .val (.int (0 : Int32))] [(.int (Int32.ofNat i))]))
  refine own_by (fun _ kS => XS.iloadN X121.here hx rfl (hb hby d25_36) rfl kS) ?_
  show own_Comes p e below s _ _ _ (T121.setTop (mkF m 37 #[.val (.ref r0), .val (.int (Int32.ofNat i)), .val (.int (1 : Int32)), .val (.int (Int32.ofNat cs.length)), .val (.int (Int32.ofNat i)), .val (.int (0 : Int32))] [(.int (Int32.ofNat cs.length)), (.int (Int32.ofNat i))]))
  have hb125 : (Int32.ofNat i) < (Int32.ofNat cs.length) := (own_lt (by omega) (by omega)).mpr hi
  refine own_by (fun _ kS => XS.icmpNo X121.here hx rfl (hb hby d25_37) rfl (tlt hb125).2.1 kS) ?_
  show own_Comes p e below s _ _ _ (T121.setTop (mkF m 40 #[.val (.ref r0), .val (.int (Int32.ofNat i)), .val (.int (1 : Int32)), .val (.int (Int32.ofNat cs.length)), .val (.int (Int32.ofNat i)), .val (.int (0 : Int32))] []))
  refine own_by (fun _ kS => XS.iload X121.here hx rfl (hb hby d25_40) rfl kS) ?_
  show own_Comes p e below s _ _ _ (T121.setTop (mkF m 42 #[.val (.ref r0), .val (.int (Int32.ofNat i)), .val (.int (1 : Int32)), .val (.int (Int32.ofNat cs.length)), .val (.int (Int32.ofNat i)), .val (.int (0 : Int32))] [(.int (0 : Int32))]))
  refine own_by (fun _ kS => XS.iloadN X121.here hx rfl (hb hby d25_42) rfl kS) ?_
  show own_Comes p e below s _ _ _ (T121.setTop (mkF m 43 #[.val (.ref r0), .val (.int (Int32.ofNat i)), .val (.int (1 : Int32)), .val (.int (Int32.ofNat cs.length)), .val (.int (Int32.ofNat i)), .val (.int (0 : Int32))] [(.int (1 : Int32)), (.int (0 : Int32))]))
  have hb126 : (0 : Int32) < (1 : Int32) := by decide
  refine own_by (fun _ kS => XS.icmpNo X121.here hx rfl (hb hby d25_43) rfl (tlt hb126).2.1 kS) ?_
  show own_Comes p e below s _ _ _ (T121.setTop (mkF m 46 #[.val (.ref r0), .val (.int (Int32.ofNat i)), .val (.int (1 : Int32)), .val (.int (Int32.ofNat cs.length)), .val (.int (Int32.ofNat i)), .val (.int (0 : Int32))] []))
  refine own_by (fun _ kS => XS.aloadN X121.here hx rfl (hb hby d25_46) rfl rfl kS) ?_
  show own_Comes p e below s _ _ _ (T121.setTop (mkF m 47 #[.val (.ref r0), .val (.int (Int32.ofNat i)), .val (.int (1 : Int32)), .val (.int (Int32.ofNat cs.length)), .val (.int (Int32.ofNat i)), .val (.int (0 : Int32))] [(.ref r0)]))
  refine own_by (fun _ kS => XS.iload X121.here hx rfl (hb hby d25_47) rfl kS) ?_
  show own_Comes p e below s _ _ _ (T121.setTop (mkF m 49 #[.val (.ref r0), .val (.int (Int32.ofNat i)), .val (.int (1 : Int32)), .val (.int (Int32.ofNat cs.length)), .val (.int (Int32.ofNat i)), .val (.int (0 : Int32))] [(.int (Int32.ofNat i)), (.ref r0)]))
  refine own_by (fun _ kS => XS.iinc X121.here hx rfl (hb hby d25_49) rfl (l' := #[.val (.ref r0), .val (.int (Int32.ofNat i)), .val (.int (1 : Int32)), .val (.int (Int32.ofNat cs.length)), .val (.int ((Int32.ofNat i) + (1 : Int32))), .val (.int (0 : Int32))]) rfl kS) ?_
  show own_Comes p e below s _ _ _ (T121.setTop (mkF m 52 #[.val (.ref r0), .val (.int (Int32.ofNat i)), .val (.int (1 : Int32)), .val (.int (Int32.ofNat cs.length)), .val (.int ((Int32.ofNat i) + (1 : Int32))), .val (.int (0 : Int32))] [(.int (Int32.ofNat i)), (.ref r0)]))
  rw [show ((Int32.ofNat i) + (1 : Int32)) = (Int32.ofNat (i + 1)) from own_succ (by omega)]
  show own_Comes p e below s _ _ _ (T121.setTop (mkF m 52 #[.val (.ref r0), .val (.int (Int32.ofNat i)), .val (.int (1 : Int32)), .val (.int (Int32.ofNat cs.length)), .val (.int (Int32.ofNat (i + 1))), .val (.int (0 : Int32))] [(.int (Int32.ofNat i)), (.ref r0)]))
  obtain ⟨cq127, kq127, q127a, q127b, q127c⟩ := isOf hZ e121 Eo
  obtain ⟨vv127, _, ⟨T127, L127, k127, n127⟩, -, X127, ⟨Lc127, hQ127, l127, y127, z127⟩, st127⟩ := X121.interfaceBack hx (xi := (⟨"java/lang/CharSequence", "charAt", "(I)C"⟩ : MethodName)) (y := (⟨"java/lang/String", "charAt", "(I)C"⟩ : MethodName)) hown (mvT hZ (hw _ (List.mem_of_getElem? (i := 120) rfl))) (mvT hZ (hw _ (List.mem_of_getElem? (i := 121) rfl))) (mvT hZ (hw _ (List.mem_of_getElem? (i := 122) rfl))) (mvT hZ (hw _ (List.mem_of_getElem? (i := 123) rfl))) (mvT hZ (hw _ (List.mem_of_getElem? (i := 124) rfl))) (mvT hZ (hw _ (List.mem_of_getElem? (i := 125) rfl))) (mvT hZ (hw _ (List.mem_of_getElem? (i := 126) rfl))) (mvT hZ (hw _ (List.mem_of_getElem? (i := 119) rfl))) (by decide) (backOf (W := 0) (rm26 l Z a0 hw [] r0 i cs zc fm h0 n0 Z0 O0 Sz hzc Sf i_fm Sd Sh Sl hY hi) hZ (hw _ (List.mem_of_getElem? (i := 127) rfl)) (hw _ (List.mem_of_getElem? (i := 10) rfl)) (by decide) (by decide)) q127a q127b q127c (g := (mkF m 52 #[.val (.ref r0), .val (.int (Int32.ofNat i)), .val (.int (1 : Int32)), .val (.int (Int32.ofNat cs.length)), .val (.int (Int32.ofNat (i + 1))), .val (.int (0 : Int32))] [(.int (Int32.ofNat i)), (.ref r0)])) rfl (by rw [hml]; rfl) (Steps.refl _) (argsL := [(.int (Int32.ofNat i))]) (rest := []) (lenOf pd__I_C_221 rfl) rfl (by show 2 * 0 + _ ≤ _; exact Nat.le_of_eq rfl) (hb hby d25_52) (fun _ _ => ⟨rfl, e121, (by decide : 0 + 0 ≤ _), (by decide : 0 + 0 ≤ _)⟩)
  dsimp only [Pt.U, Pt.locs, Pt.cells, Pt.slots] at X127 l127 y127 z127 st127 hQ127
  subst l127 y127 z127
  obtain ⟨rfl, N127q, e127q⟩ := hQ127
  have N127 := Fr.app N121 N127q
  refine own_tr st127 ?_
  have e127 : T127.heap = h0 := e127q
  show own_Comes p e below s _ _ _ (T127.setTop (mkF m 57 #[.val (.ref r0), .val (.int (Int32.ofNat i)), .val (.int (1 : Int32)), .val (.int (Int32.ofNat cs.length)), .val (.int (Int32.ofNat (i + 1))), .val (.int (0 : Int32))] [(.int (cs.getD i 0))]))
  obtain ⟨vv128, _, ⟨T128, L128, k128, n128⟩, -, X128, ⟨Lc128, hQ128, l128, y128, z128⟩, st128⟩ := Jvm.LawKit.callS X127 hx (y := (⟨"java/lang/Character", "isHighSurrogate", "(C)Z"⟩ : MethodName)) hown (mvT hZ (hw _ (List.mem_of_getElem? (i := 133) rfl))) (mvT hZ (hw _ (List.mem_of_getElem? (i := 134) rfl))) (mvT hZ (hw _ (List.mem_of_getElem? (i := 111) rfl))) (mvT hZ (hw _ (List.mem_of_getElem? (i := 135) rfl))) (by decide) (backOf (W := 0) (rm28 l Z a0 hw [] (cs.getD i 0) h0 n0 Z0) hZ (hw _ (List.mem_of_getElem? (i := 135) rfl)) (hw _ (List.mem_of_getElem? (i := 111) rfl)) (by decide) (by decide)) (g := (mkF m 57 #[.val (.ref r0), .val (.int (Int32.ofNat i)), .val (.int (1 : Int32)), .val (.int (Int32.ofNat cs.length)), .val (.int (Int32.ofNat (i + 1))), .val (.int (0 : Int32))] [(.int (cs.getD i 0))])) rfl (by rw [hml]; rfl) (argsL := [(.int (cs.getD i 0))]) (rest := []) (lenOf pd__C_Z_238 rfl) rfl (by show 2 * 0 + _ ≤ _; exact Nat.le_of_eq rfl) (hb hby d25_57) (fun _ _ => ⟨rfl, e127, (by decide : 0 + 0 ≤ _), (by decide : 0 + 0 ≤ _)⟩)
  dsimp only [Pt.U, Pt.locs, Pt.cells, Pt.slots] at X128 l128 y128 z128 st128 hQ128
  subst l128 y128 z128
  obtain ⟨z128, rfl, N128q, e128q, hz128⟩ := hQ128
  have N128 := Fr.app N127 N128q
  refine own_by st128 ?_
  have e128 : T128.heap = h0 := e128q
  show own_Comes p e below s _ _ _ (T128.setTop (mkF m 60 #[.val (.ref r0), .val (.int (Int32.ofNat i)), .val (.int (1 : Int32)), .val (.int (Int32.ofNat cs.length)), .val (.int (Int32.ofNat (i + 1))), .val (.int (0 : Int32))] [(.int z128)]))
  have hb129 : z128 = (0 : Int32) := hz128.elim (fun q => absurd q.2 hs) (fun q => q.1)
  refine own_by (fun _ kS => XS.ifYes X128.here hx rfl (pc0 := 60) (pc' := 86) rfl (hb hby d25_60) rfl ((if0 _ _).trans (teq hb129).1) (by decide) (by decide) kS) ?_
  show own_Comes p e below s _ _ _ (T128.setTop (mkF m 86 #[.val (.ref r0), .val (.int (Int32.ofNat i)), .val (.int (1 : Int32)), .val (.int (Int32.ofNat cs.length)), .val (.int (Int32.ofNat (i + 1))), .val (.int (0 : Int32))] []))
  refine own_by (fun _ kS => XS.iinc X128.here hx rfl (hb hby d25_86) rfl (l' := #[.val (.ref r0), .val (.int (Int32.ofNat i)), .val (.int (1 : Int32)), .val (.int (Int32.ofNat cs.length)), .val (.int (Int32.ofNat (i + 1))), .val (.int ((0 : Int32) + (1 : Int32)))]) rfl kS) ?_
  show own_Comes p e below s _ _ _ (T128.setTop (mkF m 89 #[.val (.ref r0), .val (.int (Int32.ofNat i)), .val (.int (1 : Int32)), .val (.int (Int32.ofNat cs.length)), .val (.int (Int32.ofNat (i + 1))), .val (.int ((0 : Int32) + (1 : Int32)))] []))
  rw [show ((0 : Int32) + (1 : Int32)) = (1 : Int32) from by decide]
  show own_Comes p e below s _ _ _ (T128.setTop (mkF m 89 #[.val (.ref r0), .val (.int (Int32.ofNat i)), .val (.int (1 : Int32)), .val (.int (Int32.ofNat cs.length)), .val (.int (Int32.ofNat (i + 1))), .val (.int (1 : Int32))] []))
  refine own_by (fun _ kS => XS.goto X128.here hx rfl (pc0 := 89) (pc' := 34) rfl (hb hby d25_89) (by decide) (by decide) kS) ?_
  show own_Comes p e below s _ _ _ (T128.setTop (mkF m 34 #[.val (.ref r0), .val (.int (Int32.ofNat i)), .val (.int (1 : Int32)), .val (.int (Int32.ofNat cs.length)), .val (.int (Int32.ofNat (i + 1))), .val (.int (1 : Int32))] []))
  refine own_by (fun _ kS => XS.iload X128.here hx rfl (hb hby d25_34) rfl kS) ?_
  show own_Comes p e below s _ _ _ (T128.setTop (mkF m 36 #[.val (.ref r0), .val (.int (Int32.ofNat i)), .val (.int (1 : Int32)), .val (.int (Int32.ofNat cs.length)), .val (.int (Int32.ofNat (i + 1))), .val (.int (1 : Int32))] [(.int (Int32.ofNat (i + 1)))]))
  refine own_by (fun _ kS => XS.iloadN X128.here hx rfl (hb hby d25_36) rfl kS) ?_
  show own_Comes p e below s _ _ _ (T128.setTop (mkF m 37 #[.val (.ref r0), .val (.int (Int32.ofNat i)), .val (.int (1 : Int32)), .val (.int (Int32.ofNat cs.length)), .val (.int (Int32.ofNat (i + 1))), .val (.int (1 : Int32))] [(.int (Int32.ofNat cs.length)), (.int (Int32.ofNat (i + 1)))]))
  by_cases hend : (Int32.ofNat (i + 1)) < (Int32.ofNat cs.length)
  · refine own_by (fun _ kS => XS.icmpNo X128.here hx rfl (hb hby d25_37) rfl (tlt hend).2.1 kS) ?_
    show own_Comes p e below s _ _ _ (T128.setTop (mkF m 40 #[.val (.ref r0), .val (.int (Int32.ofNat i)), .val (.int (1 : Int32)), .val (.int (Int32.ofNat cs.length)), .val (.int (Int32.ofNat (i + 1))), .val (.int (1 : Int32))] []))
    refine own_by (fun _ kS => XS.iload X128.here hx rfl (hb hby d25_40) rfl kS) ?_
    show own_Comes p e below s _ _ _ (T128.setTop (mkF m 42 #[.val (.ref r0), .val (.int (Int32.ofNat i)), .val (.int (1 : Int32)), .val (.int (Int32.ofNat cs.length)), .val (.int (Int32.ofNat (i + 1))), .val (.int (1 : Int32))] [(.int (1 : Int32))]))
    refine own_by (fun _ kS => XS.iloadN X128.here hx rfl (hb hby d25_42) rfl kS) ?_
    show own_Comes p e below s _ _ _ (T128.setTop (mkF m 43 #[.val (.ref r0), .val (.int (Int32.ofNat i)), .val (.int (1 : Int32)), .val (.int (Int32.ofNat cs.length)), .val (.int (Int32.ofNat (i + 1))), .val (.int (1 : Int32))] [(.int (1 : Int32)), (.int (1 : Int32))]))
    have hb130 : ¬ ((1 : Int32) < (1 : Int32)) := by decide
    refine own_by (fun _ kS => XS.icmpYes X128.here hx rfl (pc0 := 43) (pc' := 92) rfl (hb hby d25_43) rfl (flt hb130).2.1 (by decide) (by decide) kS) ?_
    show own_Comes p e below s _ _ _ (T128.setTop (mkF m 92 #[.val (.ref r0), .val (.int (Int32.ofNat i)), .val (.int (1 : Int32)), .val (.int (Int32.ofNat cs.length)), .val (.int (Int32.ofNat (i + 1))), .val (.int (1 : Int32))] []))
    refine own_by (fun _ kS => XS.iload X128.here hx rfl (hb hby d25_92) rfl kS) ?_
    show own_Comes p e below s _ _ _ (T128.setTop (mkF m 94 #[.val (.ref r0), .val (.int (Int32.ofNat i)), .val (.int (1 : Int32)), .val (.int (Int32.ofNat cs.length)), .val (.int (Int32.ofNat (i + 1))), .val (.int (1 : Int32))] [(.int (1 : Int32))]))
    refine own_by (fun _ kS => XS.iloadN X128.here hx rfl (hb hby d25_94) rfl kS) ?_
    show own_Comes p e below s _ _ _ (T128.setTop (mkF m 95 #[.val (.ref r0), .val (.int (Int32.ofNat i)), .val (.int (1 : Int32)), .val (.int (Int32.ofNat cs.length)), .val (.int (Int32.ofNat (i + 1))), .val (.int (1 : Int32))] [(.int (1 : Int32)), (.int (1 : Int32))]))
    have hb131 : ¬ ((1 : Int32) < (1 : Int32)) := by decide
    refine own_by (fun _ kS => XS.icmpYes X128.here hx rfl (pc0 := 95) (pc' := 106) rfl (hb hby d25_95) rfl (flt hb131).2.1 (by decide) (by decide) kS) ?_
    show own_Comes p e below s _ _ _ (T128.setTop (mkF m 106 #[.val (.ref r0), .val (.int (Int32.ofNat i)), .val (.int (1 : Int32)), .val (.int (Int32.ofNat cs.length)), .val (.int (Int32.ofNat (i + 1))), .val (.int (1 : Int32))] []))
    refine own_by (fun _ kS => XS.goto X128.here hx rfl (pc0 := 106) (pc' := 182) rfl (hb hby d25_106) (by decide) (by decide) kS) ?_
    show own_Comes p e below s _ _ _ (T128.setTop (mkF m 182 #[.val (.ref r0), .val (.int (Int32.ofNat i)), .val (.int (1 : Int32)), .val (.int (Int32.ofNat cs.length)), .val (.int (Int32.ofNat (i + 1))), .val (.int (1 : Int32))] []))
    refine own_by (fun _ kS => XS.iload X128.here hx rfl (hb hby d25_182) rfl kS) ?_
    show own_Comes p e below s _ _ _ (T128.setTop (mkF m 184 #[.val (.ref r0), .val (.int (Int32.ofNat i)), .val (.int (1 : Int32)), .val (.int (Int32.ofNat cs.length)), .val (.int (Int32.ofNat (i + 1))), .val (.int (1 : Int32))] [(.int (Int32.ofNat (i + 1)))]))
    refine own_ret X128 (v := some (.int (Int32.ofNat (i + 1)))) (fun h => by rw [Bd.returns] at h; cases h) Bd.notSynchronized (by decide) (by decide) ?_ (fun fs hr => retI X128 hx Bd.returns (hb hby d25_184) hr)
    rw [e128]; exact ⟨rfl, N128, rfl⟩
  · refine own_by (fun _ kS => XS.icmpYes X128.here hx rfl (pc0 := 37) (pc' := 92) rfl (hb hby d25_37) rfl (flt hend).2.1 (by decide) (by decide) kS) ?_
    show own_Comes p e below s _ _ _ (T128.setTop (mkF m 92 #[.val (.ref r0), .val (.int (Int32.ofNat i)), .val (.int (1 : Int32)), .val (.int (Int32.ofNat cs.length)), .val (.int (Int32.ofNat (i + 1))), .val (.int (1 : Int32))] []))
    refine own_by (fun _ kS => XS.iload X128.here hx rfl (hb hby d25_92) rfl kS) ?_
    show own_Comes p e below s _ _ _ (T128.setTop (mkF m 94 #[.val (.ref r0), .val (.int (Int32.ofNat i)), .val (.int (1 : Int32)), .val (.int (Int32.ofNat cs.length)), .val (.int (Int32.ofNat (i + 1))), .val (.int (1 : Int32))] [(.int (1 : Int32))]))
    refine own_by (fun _ kS => XS.iloadN X128.here hx rfl (hb hby d25_94) rfl kS) ?_
    show own_Comes p e below s _ _ _ (T128.setTop (mkF m 95 #[.val (.ref r0), .val (.int (Int32.ofNat i)), .val (.int (1 : Int32)), .val (.int (Int32.ofNat cs.length)), .val (.int (Int32.ofNat (i + 1))), .val (.int (1 : Int32))] [(.int (1 : Int32)), (.int (1 : Int32))]))
    have hb132 : ¬ ((1 : Int32) < (1 : Int32)) := by decide
    refine own_by (fun _ kS => XS.icmpYes X128.here hx rfl (pc0 := 95) (pc' := 106) rfl (hb hby d25_95) rfl (flt hb132).2.1 (by decide) (by decide) kS) ?_
    show own_Comes p e below s _ _ _ (T128.setTop (mkF m 106 #[.val (.ref r0), .val (.int (Int32.ofNat i)), .val (.int (1 : Int32)), .val (.int (Int32.ofNat cs.length)), .val (.int (Int32.ofNat (i + 1))), .val (.int (1 : Int32))] []))
    refine own_by (fun _ kS => XS.goto X128.here hx rfl (pc0 := 106) (pc' := 182) rfl (hb hby d25_106) (by decide) (by decide) kS) ?_
    show own_Comes p e below s _ _ _ (T128.setTop (mkF m 182 #[.val (.ref r0), .val (.int (Int32.ofNat i)), .val (.int (1 : Int32)), .val (.int (Int32.ofNat cs.length)), .val (.int (Int32.ofNat (i + 1))), .val (.int (1 : Int32))] []))
    refine own_by (fun _ kS => XS.iload X128.here hx rfl (hb hby d25_182) rfl kS) ?_
    show own_Comes p e below s _ _ _ (T128.setTop (mkF m 184 #[.val (.ref r0), .val (.int (Int32.ofNat i)), .val (.int (1 : Int32)), .val (.int (Int32.ofNat cs.length)), .val (.int (Int32.ofNat (i + 1))), .val (.int (1 : Int32))] [(.int (Int32.ofNat (i + 1)))]))
    refine own_ret X128 (v := some (.int (Int32.ofNat (i + 1)))) (fun h => by rw [Bd.returns] at h; cases h) Bd.notSynchronized (by decide) (by decide) ?_ (fun fs hr => retI X128 hx Bd.returns (hb hby d25_184) hr)
    rw [e128]; exact ⟨rfl, N128, rfl⟩
theorem ef_rm24s (m : MethodId) (x0 : Addr) (x1 : Int32) (x2 : Int32) : entryFrame m #[(.ref x0), (.int x1), (.int x2)] 3 = mkF m 0 #[.val (.ref x0), .val (.int x1), .val (.int x2)] [] := by first | (simp [entryFrame, mkF, argsToLocals, Value.category]; done) | rfl
theorem d24_0 : decode jdk_42_method_60_code 0 = .ok (.aload_n 0, 1) := by decide +kernel
theorem d24_1 : decode jdk_42_method_60_code 1 = .ok (.iload_n 1, 1) := by decide +kernel
theorem d24_2 : decode jdk_42_method_60_code 2 = .ok (.iload_n 2, 1) := by decide +kernel
theorem pd__Ljava_lang_CharSequence_II_I_578 : parseMethodDescriptor "(Ljava/lang/CharSequence;II)I" = some ⟨[(.object "java/lang/CharSequence"), .int, .int], some .int⟩ := by decide +kernel
theorem d24_3 : decode jdk_42_method_60_code 3 = .ok (.invokestatic 517, 3) := by decide +kernel
theorem d24_6 : decode jdk_42_method_60_code 6 = .ok (.ireturn, 1) := by decide +kernel
set_option maxRecDepth 65536 in
set_option maxHeartbeats 40000000 in
theorem rm24s (l : Launch) (Z : State) (a0 : Array Value) (hw : ∀ d ∈ tables_1, d.before a0 Z = true) (ws : List Jvm.Cond) (r0 : Addr) (i : Nat) (cs : List Int32) (zc : Int32) (fm : Value) (h0 : Heap) (n0 : Nat) (Z0 : n0 ≤ h0.size) (O0 : Old Z n0 h0) (Sz : Sta Z Z.heap "java/lang/String" "COMPACT_STRINGS" "Z" (.int zc)) (hzc : ¬ zc = 0) (Sf : Sta Z Z.heap "jdk/internal/util/Preconditions" "SIOOBE_FORMATTER" "Ljava/util/function/BiFunction;" fm) (i_fm : fm.isRef = true) (Sd : Sta Z Z.heap "java/lang/StringUTF16" "$assertionsDisabled" "Z" (.int (1 : Int32))) (Sh : Sta Z Z.heap "java/lang/StringUTF16" "HI_BYTE_SHIFT" "I" (.int (0 : Int32))) (Sl : Sta Z Z.heap "java/lang/StringUTF16" "LO_BYTE_SHIFT" "I" (.int (8 : Int32))) (hY : own_Txt Z h0 r0 cs) (hi : i < cs.length) (hs : ¬ own_hi (cs.getD i 0)) :
    MetFree l (⟨"java/lang/String", "offsetByCodePoints", "(II)I"⟩ : MethodName) (head1 (Jvm.Cond.code (⟨"java/lang/String", "offsetByCodePoints", "(II)I"⟩ : MethodName) jdk_42_method_60_code 3 (some .int) :: ws) ({ frames := 6, cells := 0, slots := 0, locals := 83 } : Room)) (fun aX UX => aX = #[(.ref r0), (.int (Int32.ofNat i)), (.int (1 : Int32))] ∧ Z.Warmed39 UX.vm ∧ UX.heap = h0) (fun _ _ _ _ _ => True) (fun _ UX oX UX' => ∃ vX LX, oX = .returned vX ∧ Q24 Z (i + 1) h0 n0 vX UX'.heap LX ∧ FrameEnd UX oX UX' LX ({ frames := 6, cells := 0, slots := 0, locals := 83 } : Room).cells ({ frames := 6, cells := 0, slots := 0, locals := 83 } : Room).slots) := by
  refine MetFree.of_bodySF (plainFor_of_name pn_java_lang_String) hisR ?_
  intro p e s m args below meth c s₁ Bd hml0 hP hK
  obtain ⟨rfl, hZ, hh⟩ := hP
  have hx := Bd.exec
  have hby := Bd.bytes
  have hml : c.maxLocals = 3 := hml0
  have hown : s.vm.findClass "java/lang/String" = some m.cls := findClass_of_methodNamed Bd.named
  have hnm := (name_of_methodNamed Bd.named Bd.method).1
  have X0 : Stand p l e ({ frames := 6, cells := 0, slots := 0, locals := 83 } : Room) s m #[(.ref r0), (.int (Int32.ofNat i)), (.int (1 : Int32))] below meth c s₁ [] 0 0 := Stand.of_body Bd
  have e0 : s₁.heap = h0 := by rw [← hh, Bd.state]; rfl
  have N0 := Fr.nil n0
  show own_Comes p e below s ({ frames := 6, cells := 0, slots := 0, locals := 83 } : Room).cells ({ frames := 6, cells := 0, slots := 0, locals := 83 } : Room).slots (Q24 Z (i + 1) h0 n0) _
  rw [show entryFrame m #[(.ref r0), (.int (Int32.ofNat i)), (.int (1 : Int32))] 3 = mkF m 0 #[.val (.ref r0), .val (.int (Int32.ofNat i)), .val (.int (1 : Int32))] [] from ef_rm24s m r0 (Int32.ofNat i) (1 : Int32)]
  show own_Comes p e below s _ _ _ (s₁.setTop (mkF m 0 #[.val (.ref r0), .val (.int (Int32.ofNat i)), .val (.int (1 : Int32))] []))
  refine own_by (fun _ kS => XS.aloadN X0.here hx rfl (hb hby d24_0) rfl rfl kS) ?_
  show own_Comes p e below s _ _ _ (s₁.setTop (mkF m 1 #[.val (.ref r0), .val (.int (Int32.ofNat i)), .val (.int (1 : Int32))] [(.ref r0)]))
  refine own_by (fun _ kS => XS.iloadN X0.here hx rfl (hb hby d24_1) rfl kS) ?_
  show own_Comes p e below s _ _ _ (s₁.setTop (mkF m 2 #[.val (.ref r0), .val (.int (Int32.ofNat i)), .val (.int (1 : Int32))] [(.int (Int32.ofNat i)), (.ref r0)]))
  refine own_by (fun _ kS => XS.iloadN X0.here hx rfl (hb hby d24_2) rfl kS) ?_
  show own_Comes p e below s _ _ _ (s₁.setTop (mkF m 3 #[.val (.ref r0), .val (.int (Int32.ofNat i)), .val (.int (1 : Int32))] [(.int (1 : Int32)), (.int (Int32.ofNat i)), (.ref r0)]))
  obtain ⟨vv133, _, ⟨T133, L133, k133, n133⟩, -, X133, ⟨Lc133, hQ133, l133, y133, z133⟩, st133⟩ := Jvm.LawKit.callS X0 hx (y := (⟨"java/lang/Character", "offsetByCodePoints", "(Ljava/lang/CharSequence;II)I"⟩ : MethodName)) hown (mvT hZ (hw _ (List.mem_of_getElem? (i := 109) rfl))) (mvT hZ (hw _ (List.mem_of_getElem? (i := 110) rfl))) (mvT hZ (hw _ (List.mem_of_getElem? (i := 111) rfl))) (mvT hZ (hw _ (List.mem_of_getElem? (i := 112) rfl))) (by decide) (backOf (W := 0) (rm25s l Z a0 hw [] r0 i cs zc fm h0 n0 Z0 O0 Sz hzc Sf i_fm Sd Sh Sl hY hi hs) hZ (hw _ (List.mem_of_getElem? (i := 112) rfl)) (hw _ (List.mem_of_getElem? (i := 111) rfl)) (by decide) (by decide)) (g := (mkF m 3 #[.val (.ref r0), .val (.int (Int32.ofNat i)), .val (.int (1 : Int32))] [(.int (1 : Int32)), (.int (Int32.ofNat i)), (.ref r0)])) rfl (by rw [hml]; rfl) (argsL := [(.ref r0), (.int (Int32.ofNat i)), (.int (1 : Int32))]) (rest := []) (lenOf pd__Ljava_lang_CharSequence_II_I_578 rfl) rfl (by show 2 * 0 + _ ≤ _; exact Nat.le_of_eq rfl) (hb hby d24_3) (fun _ _ => ⟨rfl, e0, (by decide : 0 + 0 ≤ _), (by decide : 0 + 0 ≤ _)⟩)
  dsimp only [Pt.U, Pt.locs, Pt.cells, Pt.slots] at X133 l133 y133 z133 st133 hQ133
  subst l133 y133 z133
  obtain ⟨rfl, N133q, e133q⟩ := hQ133
  have N133 := Fr.app N0 N133q
  refine own_by st133 ?_
  have e133 : T133.heap = h0 := e133q
  show own_Comes p e below s _ _ _ (T133.setTop (mkF m 6 #[.val (.ref r0), .val (.int (Int32.ofNat i)), .val (.int (1 : Int32))] [(.int (Int32.ofNat (i + 1)))]))
  refine own_ret X133 (v := some (.int (Int32.ofNat (i + 1)))) (fun h => by rw [Bd.returns] at h; cases h) Bd.notSynchronized (by decide) (by decide) ?_ (fun fs hr => retI X133 hx Bd.returns (hb hby d24_6) hr)
  rw [e133]; exact ⟨rfl, N133, rfl⟩
theorem ef_rm25p (m : MethodId) (x0 : Addr) (x1 : Int32) (x2 : Int32) : entryFrame m #[(.ref x0), (.int x1), (.int x2)] 6 = mkF m 0 #[.val (.ref x0), .val (.int x1), .val (.int x2), .unset, .unset, .unset] [] := by first | (simp [entryFrame, mkF, argsToLocals, Value.category]; done) | rfl
theorem d25_63 : decode jdk_89_method_36_code 63 = .ok (.iload 4, 2) := by decide +kernel
theorem d25_65 : decode jdk_89_method_36_code 65 = .ok (.iload_n 3, 1) := by decide +kernel
theorem d25_66 : decode jdk_89_method_36_code 66 = .ok (.if_icmp .ge 20, 3) := by decide +kernel
theorem d25_69 : decode jdk_89_method_36_code 69 = .ok (.aload_n 0, 1) := by decide +kernel
theorem d25_70 : decode jdk_89_method_36_code 70 = .ok (.iload 4, 2) := by decide +kernel
theorem d25_72 : decode jdk_89_method_36_code 72 = .ok (.invokeinterface 86 2, 5) := by decide +kernel
theorem d25_77 : decode jdk_89_method_36_code 77 = .ok (.invokestatic 82, 3) := by decide +kernel
theorem d25_80 : decode jdk_89_method_36_code 80 = .ok (.ifCond .eq 6, 3) := by decide +kernel
theorem d25_83 : decode jdk_89_method_36_code 83 = .ok (.iinc 4 1, 3) := by decide +kernel
set_option maxRecDepth 65536 in
set_option maxHeartbeats 40000000 in
theorem rm25p (l : Launch) (Z : State) (a0 : Array Value) (hw : ∀ d ∈ tables_1, d.before a0 Z = true) (ws : List Jvm.Cond) (r0 : Addr) (i : Nat) (cs : List Int32) (zc : Int32) (fm : Value) (h0 : Heap) (n0 : Nat) (Z0 : n0 ≤ h0.size) (O0 : Old Z n0 h0) (Sz : Sta Z Z.heap "java/lang/String" "COMPACT_STRINGS" "Z" (.int zc)) (hzc : ¬ zc = 0) (Sf : Sta Z Z.heap "jdk/internal/util/Preconditions" "SIOOBE_FORMATTER" "Ljava/util/function/BiFunction;" fm) (i_fm : fm.isRef = true) (Sd : Sta Z Z.heap "java/lang/StringUTF16" "$assertionsDisabled" "Z" (.int (1 : Int32))) (Sh : Sta Z Z.heap "java/lang/StringUTF16" "HI_BYTE_SHIFT" "I" (.int (0 : Int32))) (Sl : Sta Z Z.heap "java/lang/StringUTF16" "LO_BYTE_SHIFT" "I" (.int (8 : Int32))) (hY : own_Txt Z h0 r0 cs) (hi : i < cs.length) (hs : own_hi (cs.getD i 0)) (hi2 : i + 1 < cs.length) (hlo : own_lo (cs.getD (i + 1) 0)) :
    MetFree l (⟨"java/lang/Character", "offsetByCodePoints", "(Ljava/lang/CharSequence;II)I"⟩ : MethodName) (head1 (Jvm.Cond.code (⟨"java/lang/Character", "offsetByCodePoints", "(Ljava/lang/CharSequence;II)I"⟩ : MethodName) jdk_89_method_36_code 6 (some .int) :: ws) ({ frames := 5, cells := 0, slots := 0, locals := 66 } : Room)) (fun aX UX => aX = #[(.ref r0), (.int (Int32.ofNat i)), (.int (1 : Int32))] ∧ Z.Warmed39 UX.vm ∧ UX.heap = h0) (fun _ _ _ _ _ => True) (fun _ UX oX UX' => ∃ vX LX, oX = .returned vX ∧ Q25 Z (i + 2) h0 n0 vX UX'.heap LX ∧ FrameEnd UX oX UX' LX ({ frames := 5, cells := 0, slots := 0, locals := 66 } : Room).cells ({ frames := 5, cells := 0, slots := 0, locals := 66 } : Room).slots) := by
  refine MetFree.of_bodySF (plainFor_of_name pn_java_lang_Character) hisR ?_
  intro p e s m args below meth c s₁ Bd hml0 hP hK
  obtain ⟨rfl, hZ, hh⟩ := hP
  have hx := Bd.exec
  have hby := Bd.bytes
  have hml : c.maxLocals = 6 := hml0
  have hown : s.vm.findClass "java/lang/Character" = some m.cls := findClass_of_methodNamed Bd.named
  have hnm := (name_of_methodNamed Bd.named Bd.method).1
  have X0 : Stand p l e ({ frames := 5, cells := 0, slots := 0, locals := 66 } : Room) s m #[(.ref r0), (.int (Int32.ofNat i)), (.int (1 : Int32))] below meth c s₁ [] 0 0 := Stand.of_body Bd
  have e0 : s₁.heap = h0 := by rw [← hh, Bd.state]; rfl
  have N0 := Fr.nil n0
  show own_Comes p e below s ({ frames := 5, cells := 0, slots := 0, locals := 66 } : Room).cells ({ frames := 5, cells := 0, slots := 0, locals := 66 } : Room).slots (Q25 Z (i + 2) h0 n0) _
  rw [show entryFrame m #[(.ref r0), (.int (Int32.ofNat i)), (.int (1 : Int32))] 6 = mkF m 0 #[.val (.ref r0), .val (.int (Int32.ofNat i)), .val (.int (1 : Int32)), .unset, .unset, .unset] [] from ef_rm25p m r0 (Int32.ofNat i) (1 : Int32)]
  show own_Comes p e below s _ _ _ (s₁.setTop (mkF m 0 #[.val (.ref r0), .val (.int (Int32.ofNat i)), .val (.int (1 : Int32)), .unset, .unset, .unset] []))
  have hYo := hY
  obtain ⟨Eo, tO, ko, cdo, No, vo, Vo, Co, Ao, Ho, Bo, Lo⟩ := hYo
  have hwl : ∀ d ∈ StrChars.Road.wordsLen, d.before a0 Z = true := fun d hd => hw d ((by decide +kernel : ∀ d ∈ StrChars.Road.wordsLen, d ∈ tables_1) d hd)
  refine own_by (fun _ kS => XS.aloadN X0.here hx rfl (hb hby d25_0) rfl rfl kS) ?_
  show own_Comes p e below s _ _ _ (s₁.setTop (mkF m 1 #[.val (.ref r0), .val (.int (Int32.ofNat i)), .val (.int (1 : Int32)), .unset, .unset, .unset] [(.ref r0)]))
  obtain ⟨cq134, kq134, q134a, q134b, q134c⟩ := isOf hZ e0 Eo
  obtain ⟨vv134, _, ⟨T134, L134, k134, n134⟩, -, X134, ⟨Lc134, hQ134, l134, y134, z134⟩, st134⟩ := X0.interfaceBack hx (xi := (⟨"java/lang/CharSequence", "length", "()I"⟩ : MethodName)) (y := (⟨"java/lang/String", "length", "()I"⟩ : MethodName)) hown (mvT hZ (hw _ (List.mem_of_getElem? (i := 113) rfl))) (mvT hZ (hw _ (List.mem_of_getElem? (i := 114) rfl))) (mvT hZ (hw _ (List.mem_of_getElem? (i := 115) rfl))) (mvT hZ (hw _ (List.mem_of_getElem? (i := 116) rfl))) (mvT hZ (hw _ (List.mem_of_getElem? (i := 77) rfl))) (mvT hZ (hw _ (List.mem_of_getElem? (i := 117) rfl))) (mvT hZ (hw _ (List.mem_of_getElem? (i := 118) rfl))) (mvT hZ (hw _ (List.mem_of_getElem? (i := 119) rfl))) (by decide) (StrChars.Road.lenW (W := 0) hZ hwl (kI := 4) (hw _ (List.mem_of_getElem? (i := 9) rfl)) (cs := cs) Eo Vo Co Ao Ho Bo (Sz.ext O0.2) hzc Lo (by decide) (by decide)) q134a q134b q134c (g := (mkF m 1 #[.val (.ref r0), .val (.int (Int32.ofNat i)), .val (.int (1 : Int32)), .unset, .unset, .unset] [(.ref r0)])) rfl (by rw [hml]; rfl) (Steps.refl _) (argsL := []) (rest := []) (lenOf pd___I_154 rfl) rfl (by show 2 * 0 + _ ≤ _; exact Nat.le_of_eq rfl) (hb hby d25_1) (fun _ _ => ⟨rfl, e0, (by decide : 0 + 0 ≤ _), (by decide : 0 + 0 ≤ _)⟩)
  dsimp only [Pt.U, Pt.locs, Pt.cells, Pt.slots] at X134 l134 y134 z134 st134 hQ134
  subst l134 y134 z134
  obtain ⟨rfl, rfl, e134q⟩ := hQ134
  have N134q := Fr.nil n0
  have N134 := Fr.app N0 N134q
  refine own_tr st134 ?_
  have e134 : T134.heap = h0 := e134q
  show own_Comes p e below s _ _ _ (T134.setTop (mkF m 6 #[.val (.ref r0), .val (.int (Int32.ofNat i)), .val (.int (1 : Int32)), .unset, .unset, .unset] [(.int (Int32.ofNat cs.length))]))
  refine own_by (fun _ kS => XS.istoreN X134.here hx rfl (hb hby d25_6) rfl (l' := #[.val (.ref r0), .val (.int (Int32.ofNat i)), .val (.int (1 : Int32)), .val (.int (Int32.ofNat cs.length)), .unset, .unset]) rfl kS) ?_
  show own_Comes p e below s _ _ _ (T134.setTop (mkF m 7 #[.val (.ref r0), .val (.int (Int32.ofNat i)), .val (.int (1 : Int32)), .val (.int (Int32.ofNat cs.length)), .unset, .unset] []))
  refine own_by (fun _ kS => XS.iloadN X134.here hx rfl (hb hby d25_7) rfl kS) ?_
  show own_Comes p e below s _ _ _ (T134.setTop (mkF m 8 #[.val (.ref r0), .val (.int (Int32.ofNat i)), .val (.int (1 : Int32)), .val (.int (Int32.ofNat cs.length)), .unset, .unset] [(.int (Int32.ofNat i))]))
  have hb135 : ¬ ((Int32.ofNat i) < (0 : Int32)) := own_neg (by omega)
  refine own_by (fun _ kS => XS.ifNo X134.here hx rfl (hb hby d25_8) rfl ((if0 _ _).trans (flt hb135).1) kS) ?_
  show own_Comes p e below s _ _ _ (T134.setTop (mkF m 11 #[.val (.ref r0), .val (.int (Int32.ofNat i)), .val (.int (1 : Int32)), .val (.int (Int32.ofNat cs.length)), .unset, .unset] []))
  refine own_by (fun _ kS => XS.iloadN X134.here hx rfl (hb hby d25_11) rfl kS) ?_
  show own_Comes p e below s _ _ _ (T134.setTop (mkF m 12 #[.val (.ref r0), .val (.int (Int32.ofNat i)), .val (.int (1 : Int32)), .val (.int (Int32.ofNat cs.length)), .unset, .unset] [(.int (Int32.ofNat i))]))
  refine own_by (fun _ kS => XS.iloadN X134.here hx rfl (hb hby d25_12) rfl kS) ?_
  show own_Comes p e below s _ _ _ (T134.setTop (mkF m 13 #[.val (.ref r0), .val (.int (Int32.ofNat i)), .val (.int (1 : Int32)), .val (.int (Int32.ofNat cs.length)), .unset, .unset] [(.int (Int32.ofNat cs.length)), (.int (Int32.ofNat i))]))
  have hb136 : ¬ ((Int32.ofNat cs.length) < (Int32.ofNat i)) := fun q => absurd ((own_lt (by omega) (by omega)).mp q) (by omega)
  refine own_by (fun _ kS => XS.icmpYes X134.here hx rfl (pc0 := 13) (pc' := 24) rfl (hb hby d25_13) rfl (flt hb136).2.2.2 (by decide) (by decide) kS) ?_
  show own_Comes p e below s _ _ _ (T134.setTop (mkF m 24 #[.val (.ref r0), .val (.int (Int32.ofNat i)), .val (.int (1 : Int32)), .val (.int (Int32.ofNat cs.length)), .unset, .unset] []))
  refine own_by (fun _ kS => XS.iloadN X134.here hx rfl (hb hby d25_24) rfl kS) ?_
  show own_Comes p e below s _ _ _ (T134.setTop (mkF m 25 #[.val (.ref r0), .val (.int (Int32.ofNat i)), .val (.int (1 : Int32)), .val (.int (Int32.ofNat cs.length)), .unset, .unset] [(.int (Int32.ofNat i))]))
  refine own_by (fun _ kS => XS.istore X134.here hx rfl (hb hby d25_25) rfl (l' := #[.val (.ref r0), .val (.int (Int32.ofNat i)), .val (.int (1 : Int32)), .val (.int (Int32.ofNat cs.length)), .val (.int (Int32.ofNat i)), .unset]) rfl kS) ?_
  show own_Comes p e below s _ _ _ (T134.setTop (mkF m 27 #[.val (.ref r0), .val (.int (Int32.ofNat i)), .val (.int (1 : Int32)), .val (.int (Int32.ofNat cs.length)), .val (.int (Int32.ofNat i)), .unset] []))
  refine own_by (fun _ kS => XS.iloadN X134.here hx rfl (hb hby d25_27) rfl kS) ?_
  show own_Comes p e below s _ _ _ (T134.setTop (mkF m 28 #[.val (.ref r0), .val (.int (Int32.ofNat i)), .val (.int (1 : Int32)), .val (.int (Int32.ofNat cs.length)), .val (.int (Int32.ofNat i)), .unset] [(.int (1 : Int32))]))
  have hb137 : ¬ ((1 : Int32) < (0 : Int32)) := by decide
  refine own_by (fun _ kS => XS.ifNo X134.here hx rfl (hb hby d25_28) rfl ((if0 _ _).trans (flt hb137).1) kS) ?_
  show own_Comes p e below s _ _ _ (T134.setTop (mkF m 31 #[.val (.ref r0), .val (.int (Int32.ofNat i)), .val (.int (1 : Int32)), .val (.int (Int32.ofNat cs.length)), .val (.int (Int32.ofNat i)), .unset] []))
  refine own_by (fun _ kS => XS.iconst X134.here hx rfl (hb hby d25_31) kS) ?_
  show own_Comes p e below s _ _ _ (T134.setTop (mkF m 32 #[.val (.ref r0), .val (.int (Int32.ofNat i)), .val (.int (1 : Int32)), .val (.int (Int32.ofNat cs.length)), .val (.int (Int32.ofNat i)), .unset] [(.int (0 : Int32))]))
  refine own_by (fun _ kS => XS.istore X134.here hx rfl (hb hby d25_32) rfl (l' := #[.val (.ref r0), .val (.int (Int32.ofNat i)), .val (.int (1 : Int32)), .val (.int (Int32.ofNat cs.length)), .val (.int (Int32.ofNat i)), .val (.int (0 : Int32))]) rfl kS) ?_
  show own_Comes p e below s _ _ _ (T134.setTop (mkF m 34 #[.val (.ref r0), .val (.int (Int32.ofNat i)), .val (.int (1 : Int32)), .val (.int (Int32.ofNat cs.length)), .val (.int (Int32.ofNat i)), .val (.int (0 : Int32))] []))
  refine own_by (fun _ kS => XS.iload X134.here hx rfl (hb hby d25_34) rfl kS) ?_
  show own_Comes p e below s _ _ _ (T134.setTop (mkF m 36 #[.val (.ref r0), .val (.int (Int32.ofNat i)), .val (.int (1 : Int32)), .val (.int (Int32.ofNat cs.length)), .val (.int (Int32.ofNat i)), .val (.int (0 : Int32))] [(.int (Int32.ofNat i))]))
  refine own_by (fun _ kS => XS.iloadN X134.here hx rfl (hb hby d25_36) rfl kS) ?_
  show own_Comes p e below s _ _ _ (T134.setTop (mkF m 37 #[.val (.ref r0), .val (.int (Int32.ofNat i)), .val (.int (1 : Int32)), .val (.int (Int32.ofNat cs.length)), .val (.int (Int32.ofNat i)), .val (.int (0 : Int32))] [(.int (Int32.ofNat cs.length)), (.int (Int32.ofNat i))]))
  have hb138 : (Int32.ofNat i) < (Int32.ofNat cs.length) := (own_lt (by omega) (by omega)).mpr hi
  refine own_by (fun _ kS => XS.icmpNo X134.here hx rfl (hb hby d25_37) rfl (tlt hb138).2.1 kS) ?_
  show own_Comes p e below s _ _ _ (T134.setTop (mkF m 40 #[.val (.ref r0), .val (.int (Int32.ofNat i)), .val (.int (1 : Int32)), .val (.int (Int32.ofNat cs.length)), .val (.int (Int32.ofNat i)), .val (.int (0 : Int32))] []))
  refine own_by (fun _ kS => XS.iload X134.here hx rfl (hb hby d25_40) rfl kS) ?_
  show own_Comes p e below s _ _ _ (T134.setTop (mkF m 42 #[.val (.ref r0), .val (.int (Int32.ofNat i)), .val (.int (1 : Int32)), .val (.int (Int32.ofNat cs.length)), .val (.int (Int32.ofNat i)), .val (.int (0 : Int32))] [(.int (0 : Int32))]))
  refine own_by (fun _ kS => XS.iloadN X134.here hx rfl (hb hby d25_42) rfl kS) ?_
  show own_Comes p e below s _ _ _ (T134.setTop (mkF m 43 #[.val (.ref r0), .val (.int (Int32.ofNat i)), .val (.int (1 : Int32)), .val (.int (Int32.ofNat cs.length)), .val (.int (Int32.ofNat i)), .val (.int (0 : Int32))] [(.int (1 : Int32)), (.int (0 : Int32))]))
  have hb139 : (0 : Int32) < (1 : Int32) := by decide
  refine own_by (fun _ kS => XS.icmpNo X134.here hx rfl (hb hby d25_43) rfl (tlt hb139).2.1 kS) ?_
  show own_Comes p e below s _ _ _ (T134.setTop (mkF m 46 #[.val (.ref r0), .val (.int (Int32.ofNat i)), .val (.int (1 : Int32)), .val (.int (Int32.ofNat cs.length)), .val (.int (Int32.ofNat i)), .val (.int (0 : Int32))] []))
  refine own_by (fun _ kS => XS.aloadN X134.here hx rfl (hb hby d25_46) rfl rfl kS) ?_
  show own_Comes p e below s _ _ _ (T134.setTop (mkF m 47 #[.val (.ref r0), .val (.int (Int32.ofNat i)), .val (.int (1 : Int32)), .val (.int (Int32.ofNat cs.length)), .val (.int (Int32.ofNat i)), .val (.int (0 : Int32))] [(.ref r0)]))
  refine own_by (fun _ kS => XS.iload X134.here hx rfl (hb hby d25_47) rfl kS) ?_
  show own_Comes p e below s _ _ _ (T134.setTop (mkF m 49 #[.val (.ref r0), .val (.int (Int32.ofNat i)), .val (.int (1 : Int32)), .val (.int (Int32.ofNat cs.length)), .val (.int (Int32.ofNat i)), .val (.int (0 : Int32))] [(.int (Int32.ofNat i)), (.ref r0)]))
  refine own_by (fun _ kS => XS.iinc X134.here hx rfl (hb hby d25_49) rfl (l' := #[.val (.ref r0), .val (.int (Int32.ofNat i)), .val (.int (1 : Int32)), .val (.int (Int32.ofNat cs.length)), .val (.int ((Int32.ofNat i) + (1 : Int32))), .val (.int (0 : Int32))]) rfl kS) ?_
  show own_Comes p e below s _ _ _ (T134.setTop (mkF m 52 #[.val (.ref r0), .val (.int (Int32.ofNat i)), .val (.int (1 : Int32)), .val (.int (Int32.ofNat cs.length)), .val (.int ((Int32.ofNat i) + (1 : Int32))), .val (.int (0 : Int32))] [(.int (Int32.ofNat i)), (.ref r0)]))
  rw [show ((Int32.ofNat i) + (1 : Int32)) = (Int32.ofNat (i + 1)) from own_succ (by omega)]
  show own_Comes p e below s _ _ _ (T134.setTop (mkF m 52 #[.val (.ref r0), .val (.int (Int32.ofNat i)), .val (.int (1 : Int32)), .val (.int (Int32.ofNat cs.length)), .val (.int (Int32.ofNat (i + 1))), .val (.int (0 : Int32))] [(.int (Int32.ofNat i)), (.ref r0)]))
  obtain ⟨cq140, kq140, q140a, q140b, q140c⟩ := isOf hZ e134 Eo
  obtain ⟨vv140, _, ⟨T140, L140, k140, n140⟩, -, X140, ⟨Lc140, hQ140, l140, y140, z140⟩, st140⟩ := X134.interfaceBack hx (xi := (⟨"java/lang/CharSequence", "charAt", "(I)C"⟩ : MethodName)) (y := (⟨"java/lang/String", "charAt", "(I)C"⟩ : MethodName)) hown (mvT hZ (hw _ (List.mem_of_getElem? (i := 120) rfl))) (mvT hZ (hw _ (List.mem_of_getElem? (i := 121) rfl))) (mvT hZ (hw _ (List.mem_of_getElem? (i := 122) rfl))) (mvT hZ (hw _ (List.mem_of_getElem? (i := 123) rfl))) (mvT hZ (hw _ (List.mem_of_getElem? (i := 124) rfl))) (mvT hZ (hw _ (List.mem_of_getElem? (i := 125) rfl))) (mvT hZ (hw _ (List.mem_of_getElem? (i := 126) rfl))) (mvT hZ (hw _ (List.mem_of_getElem? (i := 119) rfl))) (by decide) (backOf (W := 0) (rm26 l Z a0 hw [] r0 i cs zc fm h0 n0 Z0 O0 Sz hzc Sf i_fm Sd Sh Sl hY hi) hZ (hw _ (List.mem_of_getElem? (i := 127) rfl)) (hw _ (List.mem_of_getElem? (i := 10) rfl)) (by decide) (by decide)) q140a q140b q140c (g := (mkF m 52 #[.val (.ref r0), .val (.int (Int32.ofNat i)), .val (.int (1 : Int32)), .val (.int (Int32.ofNat cs.length)), .val (.int (Int32.ofNat (i + 1))), .val (.int (0 : Int32))] [(.int (Int32.ofNat i)), (.ref r0)])) rfl (by rw [hml]; rfl) (Steps.refl _) (argsL := [(.int (Int32.ofNat i))]) (rest := []) (lenOf pd__I_C_221 rfl) rfl (by show 2 * 0 + _ ≤ _; exact Nat.le_of_eq rfl) (hb hby d25_52) (fun _ _ => ⟨rfl, e134, (by decide : 0 + 0 ≤ _), (by decide : 0 + 0 ≤ _)⟩)
  dsimp only [Pt.U, Pt.locs, Pt.cells, Pt.slots] at X140 l140 y140 z140 st140 hQ140
  subst l140 y140 z140
  obtain ⟨rfl, N140q, e140q⟩ := hQ140
  have N140 := Fr.app N134 N140q
  refine own_tr st140 ?_
  have e140 : T140.heap = h0 := e140q
  show own_Comes p e below s _ _ _ (T140.setTop (mkF m 57 #[.val (.ref r0), .val (.int (Int32.ofNat i)), .val (.int (1 : Int32)), .val (.int (Int32.ofNat cs.length)), .val (.int (Int32.ofNat (i + 1))), .val (.int (0 : Int32))] [(.int (cs.getD i 0))]))
  obtain ⟨vv141, _, ⟨T141, L141, k141, n141⟩, -, X141, ⟨Lc141, hQ141, l141, y141, z141⟩, st141⟩ := Jvm.LawKit.callS X140 hx (y := (⟨"java/lang/Character", "isHighSurrogate", "(C)Z"⟩ : MethodName)) hown (mvT hZ (hw _ (List.mem_of_getElem? (i := 133) rfl))) (mvT hZ (hw _ (List.mem_of_getElem? (i := 134) rfl))) (mvT hZ (hw _ (List.mem_of_getElem? (i := 111) rfl))) (mvT hZ (hw _ (List.mem_of_getElem? (i := 135) rfl))) (by decide) (backOf (W := 0) (rm28 l Z a0 hw [] (cs.getD i 0) h0 n0 Z0) hZ (hw _ (List.mem_of_getElem? (i := 135) rfl)) (hw _ (List.mem_of_getElem? (i := 111) rfl)) (by decide) (by decide)) (g := (mkF m 57 #[.val (.ref r0), .val (.int (Int32.ofNat i)), .val (.int (1 : Int32)), .val (.int (Int32.ofNat cs.length)), .val (.int (Int32.ofNat (i + 1))), .val (.int (0 : Int32))] [(.int (cs.getD i 0))])) rfl (by rw [hml]; rfl) (argsL := [(.int (cs.getD i 0))]) (rest := []) (lenOf pd__C_Z_238 rfl) rfl (by show 2 * 0 + _ ≤ _; exact Nat.le_of_eq rfl) (hb hby d25_57) (fun _ _ => ⟨rfl, e140, (by decide : 0 + 0 ≤ _), (by decide : 0 + 0 ≤ _)⟩)
  dsimp only [Pt.U, Pt.locs, Pt.cells, Pt.slots] at X141 l141 y141 z141 st141 hQ141
  subst l141 y141 z141
  obtain ⟨z141, rfl, N141q, e141q, hz141⟩ := hQ141
  have N141 := Fr.app N140 N141q
  refine own_by st141 ?_
  have e141 : T141.heap = h0 := e141q
  show own_Comes p e below s _ _ _ (T141.setTop (mkF m 60 #[.val (.ref r0), .val (.int (Int32.ofNat i)), .val (.int (1 : Int32)), .val (.int (Int32.ofNat cs.length)), .val (.int (Int32.ofNat (i + 1))), .val (.int (0 : Int32))] [(.int z141)]))
  have hb142 : ¬ (z141 = (0 : Int32)) := hz141.elim (fun q z => absurd (q.1.symm.trans z) (by decide)) (fun q => absurd hs q.2)
  refine own_by (fun _ kS => XS.ifNo X141.here hx rfl (hb hby d25_60) rfl ((if0 _ _).trans (feq hb142).1) kS) ?_
  show own_Comes p e below s _ _ _ (T141.setTop (mkF m 63 #[.val (.ref r0), .val (.int (Int32.ofNat i)), .val (.int (1 : Int32)), .val (.int (Int32.ofNat cs.length)), .val (.int (Int32.ofNat (i + 1))), .val (.int (0 : Int32))] []))
  refine own_by (fun _ kS => XS.iload X141.here hx rfl (hb hby d25_63) rfl kS) ?_
  show own_Comes p e below s _ _ _ (T141.setTop (mkF m 65 #[.val (.ref r0), .val (.int (Int32.ofNat i)), .val (.int (1 : Int32)), .val (.int (Int32.ofNat cs.length)), .val (.int (Int32.ofNat (i + 1))), .val (.int (0 : Int32))] [(.int (Int32.ofNat (i + 1)))]))
  refine own_by (fun _ kS => XS.iloadN X141.here hx rfl (hb hby d25_65) rfl kS) ?_
  show own_Comes p e below s _ _ _ (T141.setTop (mkF m 66 #[.val (.ref r0), .val (.int (Int32.ofNat i)), .val (.int (1 : Int32)), .val (.int (Int32.ofNat cs.length)), .val (.int (Int32.ofNat (i + 1))), .val (.int (0 : Int32))] [(.int (Int32.ofNat cs.length)), (.int (Int32.ofNat (i + 1)))]))
  have hb143 : (Int32.ofNat (i + 1)) < (Int32.ofNat cs.length) := (own_lt (by omega) (by omega)).mpr hi2
  refine own_by (fun _ kS => XS.icmpNo X141.here hx rfl (hb hby d25_66) rfl (tlt hb143).2.1 kS) ?_
  show own_Comes p e below s _ _ _ (T141.setTop (mkF m 69 #[.val (.ref r0), .val (.int (Int32.ofNat i)), .val (.int (1 : Int32)), .val (.int (Int32.ofNat cs.length)), .val (.int (Int32.ofNat (i + 1))), .val (.int (0 : Int32))] []))
  refine own_by (fun _ kS => XS.aloadN X141.here hx rfl (hb hby d25_69) rfl rfl kS) ?_
  show own_Comes p e below s _ _ _ (T141.setTop (mkF m 70 #[.val (.ref r0), .val (.int (Int32.ofNat i)), .val (.int (1 : Int32)), .val (.int (Int32.ofNat cs.length)), .val (.int (Int32.ofNat (i + 1))), .val (.int (0 : Int32))] [(.ref r0)]))
  refine own_by (fun _ kS => XS.iload X141.here hx rfl (hb hby d25_70) rfl kS) ?_
  show own_Comes p e below s _ _ _ (T141.setTop (mkF m 72 #[.val (.ref r0), .val (.int (Int32.ofNat i)), .val (.int (1 : Int32)), .val (.int (Int32.ofNat cs.length)), .val (.int (Int32.ofNat (i + 1))), .val (.int (0 : Int32))] [(.int (Int32.ofNat (i + 1))), (.ref r0)]))
  obtain ⟨cq144, kq144, q144a, q144b, q144c⟩ := isOf hZ e141 Eo
  obtain ⟨vv144, _, ⟨T144, L144, k144, n144⟩, -, X144, ⟨Lc144, hQ144, l144, y144, z144⟩, st144⟩ := X141.interfaceBack hx (xi := (⟨"java/lang/CharSequence", "charAt", "(I)C"⟩ : MethodName)) (y := (⟨"java/lang/String", "charAt", "(I)C"⟩ : MethodName)) hown (mvT hZ (hw _ (List.mem_of_getElem? (i := 120) rfl))) (mvT hZ (hw _ (List.mem_of_getElem? (i := 121) rfl))) (mvT hZ (hw _ (List.mem_of_getElem? (i := 122) rfl))) (mvT hZ (hw _ (List.mem_of_getElem? (i := 123) rfl))) (mvT hZ (hw _ (List.mem_of_getElem? (i := 124) rfl))) (mvT hZ (hw _ (List.mem_of_getElem? (i := 125) rfl))) (mvT hZ (hw _ (List.mem_of_getElem? (i := 126) rfl))) (mvT hZ (hw _ (List.mem_of_getElem? (i := 119) rfl))) (by decide) (backOf (W := 0) (rm26 l Z a0 hw [] r0 (i + 1) cs zc fm h0 n0 Z0 O0 Sz hzc Sf i_fm Sd Sh Sl hY hi2) hZ (hw _ (List.mem_of_getElem? (i := 127) rfl)) (hw _ (List.mem_of_getElem? (i := 10) rfl)) (by decide) (by decide)) q144a q144b q144c (g := (mkF m 72 #[.val (.ref r0), .val (.int (Int32.ofNat i)), .val (.int (1 : Int32)), .val (.int (Int32.ofNat cs.length)), .val (.int (Int32.ofNat (i + 1))), .val (.int (0 : Int32))] [(.int (Int32.ofNat (i + 1))), (.ref r0)])) rfl (by rw [hml]; rfl) (Steps.refl _) (argsL := [(.int (Int32.ofNat (i + 1)))]) (rest := []) (lenOf pd__I_C_221 rfl) rfl (by show 2 * 0 + _ ≤ _; exact Nat.le_of_eq rfl) (hb hby d25_72) (fun _ _ => ⟨rfl, e141, (by decide : 0 + 0 ≤ _), (by decide : 0 + 0 ≤ _)⟩)
  dsimp only [Pt.U, Pt.locs, Pt.cells, Pt.slots] at X144 l144 y144 z144 st144 hQ144
  subst l144 y144 z144
  obtain ⟨rfl, N144q, e144q⟩ := hQ144
  have N144 := Fr.app N141 N144q
  refine own_tr st144 ?_
  have e144 : T144.heap = h0 := e144q
  show own_Comes p e below s _ _ _ (T144.setTop (mkF m 77 #[.val (.ref r0), .val (.int (Int32.ofNat i)), .val (.int (1 : Int32)), .val (.int (Int32.ofNat cs.length)), .val (.int (Int32.ofNat (i + 1))), .val (.int (0 : Int32))] [(.int (cs.getD (i + 1) 0))]))
  obtain ⟨vv145, _, ⟨T145, L145, k145, n145⟩, -, X145, ⟨Lc145, hQ145, l145, y145, z145⟩, st145⟩ := Jvm.LawKit.callS X144 hx (y := (⟨"java/lang/Character", "isLowSurrogate", "(C)Z"⟩ : MethodName)) hown (mvT hZ (hw _ (List.mem_of_getElem? (i := 165) rfl))) (mvT hZ (hw _ (List.mem_of_getElem? (i := 157) rfl))) (mvT hZ (hw _ (List.mem_of_getElem? (i := 111) rfl))) (mvT hZ (hw _ (List.mem_of_getElem? (i := 158) rfl))) (by decide) (backOf (W := 0) (rm34 l Z a0 hw [] (cs.getD (i + 1) 0) h0 n0 Z0) hZ (hw _ (List.mem_of_getElem? (i := 158) rfl)) (hw _ (List.mem_of_getElem? (i := 111) rfl)) (by decide) (by decide)) (g := (mkF m 77 #[.val (.ref r0), .val (.int (Int32.ofNat i)), .val (.int (1 : Int32)), .val (.int (Int32.ofNat cs.length)), .val (.int (Int32.ofNat (i + 1))), .val (.int (0 : Int32))] [(.int (cs.getD (i + 1) 0))])) rfl (by rw [hml]; rfl) (argsL := [(.int (cs.getD (i + 1) 0))]) (rest := []) (lenOf pd__C_Z_238 rfl) rfl (by show 2 * 0 + _ ≤ _; exact Nat.le_of_eq rfl) (hb hby d25_77) (fun _ _ => ⟨rfl, e144, (by decide : 0 + 0 ≤ _), (by decide : 0 + 0 ≤ _)⟩)
  dsimp only [Pt.U, Pt.locs, Pt.cells, Pt.slots] at X145 l145 y145 z145 st145 hQ145
  subst l145 y145 z145
  obtain ⟨z145, rfl, N145q, e145q, hz145⟩ := hQ145
  have N145 := Fr.app N144 N145q
  refine own_by st145 ?_
  have e145 : T145.heap = h0 := e145q
  show own_Comes p e below s _ _ _ (T145.setTop (mkF m 80 #[.val (.ref r0), .val (.int (Int32.ofNat i)), .val (.int (1 : Int32)), .val (.int (Int32.ofNat cs.length)), .val (.int (Int32.ofNat (i + 1))), .val (.int (0 : Int32))] [(.int z145)]))
  have hb146 : ¬ (z145 = (0 : Int32)) := hz145.elim (fun q z => absurd (q.1.symm.trans z) (by decide)) (fun q => absurd hlo q.2)
  refine own_by (fun _ kS => XS.ifNo X145.here hx rfl (hb hby d25_80) rfl ((if0 _ _).trans (feq hb146).1) kS) ?_
  show own_Comes p e below s _ _ _ (T145.setTop (mkF m 83 #[.val (.ref r0), .val (.int (Int32.ofNat i)), .val (.int (1 : Int32)), .val (.int (Int32.ofNat cs.length)), .val (.int (Int32.ofNat (i + 1))), .val (.int (0 : Int32))] []))
  refine own_by (fun _ kS => XS.iinc X145.here hx rfl (hb hby d25_83) rfl (l' := #[.val (.ref r0), .val (.int (Int32.ofNat i)), .val (.int (1 : Int32)), .val (.int (Int32.ofNat cs.length)), .val (.int ((Int32.ofNat (i + 1)) + (1 : Int32))), .val (.int (0 : Int32))]) rfl kS) ?_
  show own_Comes p e below s _ _ _ (T145.setTop (mkF m 86 #[.val (.ref r0), .val (.int (Int32.ofNat i)), .val (.int (1 : Int32)), .val (.int (Int32.ofNat cs.length)), .val (.int ((Int32.ofNat (i + 1)) + (1 : Int32))), .val (.int (0 : Int32))] []))
  rw [show ((Int32.ofNat (i + 1)) + (1 : Int32)) = (Int32.ofNat (i + 2)) from own_succ (by omega)]
  show own_Comes p e below s _ _ _ (T145.setTop (mkF m 86 #[.val (.ref r0), .val (.int (Int32.ofNat i)), .val (.int (1 : Int32)), .val (.int (Int32.ofNat cs.length)), .val (.int (Int32.ofNat (i + 2))), .val (.int (0 : Int32))] []))
  refine own_by (fun _ kS => XS.iinc X145.here hx rfl (hb hby d25_86) rfl (l' := #[.val (.ref r0), .val (.int (Int32.ofNat i)), .val (.int (1 : Int32)), .val (.int (Int32.ofNat cs.length)), .val (.int (Int32.ofNat (i + 2))), .val (.int ((0 : Int32) + (1 : Int32)))]) rfl kS) ?_
  show own_Comes p e below s _ _ _ (T145.setTop (mkF m 89 #[.val (.ref r0), .val (.int (Int32.ofNat i)), .val (.int (1 : Int32)), .val (.int (Int32.ofNat cs.length)), .val (.int (Int32.ofNat (i + 2))), .val (.int ((0 : Int32) + (1 : Int32)))] []))
  rw [show ((0 : Int32) + (1 : Int32)) = (1 : Int32) from by decide]
  show own_Comes p e below s _ _ _ (T145.setTop (mkF m 89 #[.val (.ref r0), .val (.int (Int32.ofNat i)), .val (.int (1 : Int32)), .val (.int (Int32.ofNat cs.length)), .val (.int (Int32.ofNat (i + 2))), .val (.int (1 : Int32))] []))
  refine own_by (fun _ kS => XS.goto X145.here hx rfl (pc0 := 89) (pc' := 34) rfl (hb hby d25_89) (by decide) (by decide) kS) ?_
  show own_Comes p e below s _ _ _ (T145.setTop (mkF m 34 #[.val (.ref r0), .val (.int (Int32.ofNat i)), .val (.int (1 : Int32)), .val (.int (Int32.ofNat cs.length)), .val (.int (Int32.ofNat (i + 2))), .val (.int (1 : Int32))] []))
  refine own_by (fun _ kS => XS.iload X145.here hx rfl (hb hby d25_34) rfl kS) ?_
  show own_Comes p e below s _ _ _ (T145.setTop (mkF m 36 #[.val (.ref r0), .val (.int (Int32.ofNat i)), .val (.int (1 : Int32)), .val (.int (Int32.ofNat cs.length)), .val (.int (Int32.ofNat (i + 2))), .val (.int (1 : Int32))] [(.int (Int32.ofNat (i + 2)))]))
  refine own_by (fun _ kS => XS.iloadN X145.here hx rfl (hb hby d25_36) rfl kS) ?_
  show own_Comes p e below s _ _ _ (T145.setTop (mkF m 37 #[.val (.ref r0), .val (.int (Int32.ofNat i)), .val (.int (1 : Int32)), .val (.int (Int32.ofNat cs.length)), .val (.int (Int32.ofNat (i + 2))), .val (.int (1 : Int32))] [(.int (Int32.ofNat cs.length)), (.int (Int32.ofNat (i + 2)))]))
  by_cases hend : (Int32.ofNat (i + 2)) < (Int32.ofNat cs.length)
  · refine own_by (fun _ kS => XS.icmpNo X145.here hx rfl (hb hby d25_37) rfl (tlt hend).2.1 kS) ?_
    show own_Comes p e below s _ _ _ (T145.setTop (mkF m 40 #[.val (.ref r0), .val (.int (Int32.ofNat i)), .val (.int (1 : Int32)), .val (.int (Int32.ofNat cs.length)), .val (.int (Int32.ofNat (i + 2))), .val (.int (1 : Int32))] []))
    refine own_by (fun _ kS => XS.iload X145.here hx rfl (hb hby d25_40) rfl kS) ?_
    show own_Comes p e below s _ _ _ (T145.setTop (mkF m 42 #[.val (.ref r0), .val (.int (Int32.ofNat i)), .val (.int (1 : Int32)), .val (.int (Int32.ofNat cs.length)), .val (.int (Int32.ofNat (i + 2))), .val (.int (1 : Int32))] [(.int (1 : Int32))]))
    refine own_by (fun _ kS => XS.iloadN X145.here hx rfl (hb hby d25_42) rfl kS) ?_
    show own_Comes p e below s _ _ _ (T145.setTop (mkF m 43 #[.val (.ref r0), .val (.int (Int32.ofNat i)), .val (.int (1 : Int32)), .val (.int (Int32.ofNat cs.length)), .val (.int (Int32.ofNat (i + 2))), .val (.int (1 : Int32))] [(.int (1 : Int32)), (.int (1 : Int32))]))
    have hb147 : ¬ ((1 : Int32) < (1 : Int32)) := by decide
    refine own_by (fun _ kS => XS.icmpYes X145.here hx rfl (pc0 := 43) (pc' := 92) rfl (hb hby d25_43) rfl (flt hb147).2.1 (by decide) (by decide) kS) ?_
    show own_Comes p e below s _ _ _ (T145.setTop (mkF m 92 #[.val (.ref r0), .val (.int (Int32.ofNat i)), .val (.int (1 : Int32)), .val (.int (Int32.ofNat cs.length)), .val (.int (Int32.ofNat (i + 2))), .val (.int (1 : Int32))] []))
    refine own_by (fun _ kS => XS.iload X145.here hx rfl (hb hby d25_92) rfl kS) ?_
    show own_Comes p e below s _ _ _ (T145.setTop (mkF m 94 #[.val (.ref r0), .val (.int (Int32.ofNat i)), .val (.int (1 : Int32)), .val (.int (Int32.ofNat cs.length)), .val (.int (Int32.ofNat (i + 2))), .val (.int (1 : Int32))] [(.int (1 : Int32))]))
    refine own_by (fun _ kS => XS.iloadN X145.here hx rfl (hb hby d25_94) rfl kS) ?_
    show own_Comes p e below s _ _ _ (T145.setTop (mkF m 95 #[.val (.ref r0), .val (.int (Int32.ofNat i)), .val (.int (1 : Int32)), .val (.int (Int32.ofNat cs.length)), .val (.int (Int32.ofNat (i + 2))), .val (.int (1 : Int32))] [(.int (1 : Int32)), (.int (1 : Int32))]))
    have hb148 : ¬ ((1 : Int32) < (1 : Int32)) := by decide
    refine own_by (fun _ kS => XS.icmpYes X145.here hx rfl (pc0 := 95) (pc' := 106) rfl (hb hby d25_95) rfl (flt hb148).2.1 (by decide) (by decide) kS) ?_
    show own_Comes p e below s _ _ _ (T145.setTop (mkF m 106 #[.val (.ref r0), .val (.int (Int32.ofNat i)), .val (.int (1 : Int32)), .val (.int (Int32.ofNat cs.length)), .val (.int (Int32.ofNat (i + 2))), .val (.int (1 : Int32))] []))
    refine own_by (fun _ kS => XS.goto X145.here hx rfl (pc0 := 106) (pc' := 182) rfl (hb hby d25_106) (by decide) (by decide) kS) ?_
    show own_Comes p e below s _ _ _ (T145.setTop (mkF m 182 #[.val (.ref r0), .val (.int (Int32.ofNat i)), .val (.int (1 : Int32)), .val (.int (Int32.ofNat cs.length)), .val (.int (Int32.ofNat (i + 2))), .val (.int (1 : Int32))] []))
    refine own_by (fun _ kS => XS.iload X145.here hx rfl (hb hby d25_182) rfl kS) ?_
    show own_Comes p e below s _ _ _ (T145.setTop (mkF m 184 #[.val (.ref r0), .val (.int (Int32.ofNat i)), .val (.int (1 : Int32)), .val (.int (Int32.ofNat cs.length)), .val (.int (Int32.ofNat (i + 2))), .val (.int (1 : Int32))] [(.int (Int32.ofNat (i + 2)))]))
    refine own_ret X145 (v := some (.int (Int32.ofNat (i + 2)))) (fun h => by rw [Bd.returns] at h; cases h) Bd.notSynchronized (by decide) (by decide) ?_ (fun fs hr => retI X145 hx Bd.returns (hb hby d25_184) hr)
    rw [e145]; exact ⟨rfl, N145, rfl⟩
  · refine own_by (fun _ kS => XS.icmpYes X145.here hx rfl (pc0 := 37) (pc' := 92) rfl (hb hby d25_37) rfl (flt hend).2.1 (by decide) (by decide) kS) ?_
    show own_Comes p e below s _ _ _ (T145.setTop (mkF m 92 #[.val (.ref r0), .val (.int (Int32.ofNat i)), .val (.int (1 : Int32)), .val (.int (Int32.ofNat cs.length)), .val (.int (Int32.ofNat (i + 2))), .val (.int (1 : Int32))] []))
    refine own_by (fun _ kS => XS.iload X145.here hx rfl (hb hby d25_92) rfl kS) ?_
    show own_Comes p e below s _ _ _ (T145.setTop (mkF m 94 #[.val (.ref r0), .val (.int (Int32.ofNat i)), .val (.int (1 : Int32)), .val (.int (Int32.ofNat cs.length)), .val (.int (Int32.ofNat (i + 2))), .val (.int (1 : Int32))] [(.int (1 : Int32))]))
    refine own_by (fun _ kS => XS.iloadN X145.here hx rfl (hb hby d25_94) rfl kS) ?_
    show own_Comes p e below s _ _ _ (T145.setTop (mkF m 95 #[.val (.ref r0), .val (.int (Int32.ofNat i)), .val (.int (1 : Int32)), .val (.int (Int32.ofNat cs.length)), .val (.int (Int32.ofNat (i + 2))), .val (.int (1 : Int32))] [(.int (1 : Int32)), (.int (1 : Int32))]))
    have hb149 : ¬ ((1 : Int32) < (1 : Int32)) := by decide
    refine own_by (fun _ kS => XS.icmpYes X145.here hx rfl (pc0 := 95) (pc' := 106) rfl (hb hby d25_95) rfl (flt hb149).2.1 (by decide) (by decide) kS) ?_
    show own_Comes p e below s _ _ _ (T145.setTop (mkF m 106 #[.val (.ref r0), .val (.int (Int32.ofNat i)), .val (.int (1 : Int32)), .val (.int (Int32.ofNat cs.length)), .val (.int (Int32.ofNat (i + 2))), .val (.int (1 : Int32))] []))
    refine own_by (fun _ kS => XS.goto X145.here hx rfl (pc0 := 106) (pc' := 182) rfl (hb hby d25_106) (by decide) (by decide) kS) ?_
    show own_Comes p e below s _ _ _ (T145.setTop (mkF m 182 #[.val (.ref r0), .val (.int (Int32.ofNat i)), .val (.int (1 : Int32)), .val (.int (Int32.ofNat cs.length)), .val (.int (Int32.ofNat (i + 2))), .val (.int (1 : Int32))] []))
    refine own_by (fun _ kS => XS.iload X145.here hx rfl (hb hby d25_182) rfl kS) ?_
    show own_Comes p e below s _ _ _ (T145.setTop (mkF m 184 #[.val (.ref r0), .val (.int (Int32.ofNat i)), .val (.int (1 : Int32)), .val (.int (Int32.ofNat cs.length)), .val (.int (Int32.ofNat (i + 2))), .val (.int (1 : Int32))] [(.int (Int32.ofNat (i + 2)))]))
    refine own_ret X145 (v := some (.int (Int32.ofNat (i + 2)))) (fun h => by rw [Bd.returns] at h; cases h) Bd.notSynchronized (by decide) (by decide) ?_ (fun fs hr => retI X145 hx Bd.returns (hb hby d25_184) hr)
    rw [e145]; exact ⟨rfl, N145, rfl⟩
theorem ef_rm24p (m : MethodId) (x0 : Addr) (x1 : Int32) (x2 : Int32) : entryFrame m #[(.ref x0), (.int x1), (.int x2)] 3 = mkF m 0 #[.val (.ref x0), .val (.int x1), .val (.int x2)] [] := by first | (simp [entryFrame, mkF, argsToLocals, Value.category]; done) | rfl
set_option maxRecDepth 65536 in
set_option maxHeartbeats 40000000 in
theorem rm24p (l : Launch) (Z : State) (a0 : Array Value) (hw : ∀ d ∈ tables_1, d.before a0 Z = true) (ws : List Jvm.Cond) (r0 : Addr) (i : Nat) (cs : List Int32) (zc : Int32) (fm : Value) (h0 : Heap) (n0 : Nat) (Z0 : n0 ≤ h0.size) (O0 : Old Z n0 h0) (Sz : Sta Z Z.heap "java/lang/String" "COMPACT_STRINGS" "Z" (.int zc)) (hzc : ¬ zc = 0) (Sf : Sta Z Z.heap "jdk/internal/util/Preconditions" "SIOOBE_FORMATTER" "Ljava/util/function/BiFunction;" fm) (i_fm : fm.isRef = true) (Sd : Sta Z Z.heap "java/lang/StringUTF16" "$assertionsDisabled" "Z" (.int (1 : Int32))) (Sh : Sta Z Z.heap "java/lang/StringUTF16" "HI_BYTE_SHIFT" "I" (.int (0 : Int32))) (Sl : Sta Z Z.heap "java/lang/StringUTF16" "LO_BYTE_SHIFT" "I" (.int (8 : Int32))) (hY : own_Txt Z h0 r0 cs) (hi : i < cs.length) (hs : own_hi (cs.getD i 0)) (hi2 : i + 1 < cs.length) (hlo : own_lo (cs.getD (i + 1) 0)) :
    MetFree l (⟨"java/lang/String", "offsetByCodePoints", "(II)I"⟩ : MethodName) (head1 (Jvm.Cond.code (⟨"java/lang/String", "offsetByCodePoints", "(II)I"⟩ : MethodName) jdk_42_method_60_code 3 (some .int) :: ws) ({ frames := 6, cells := 0, slots := 0, locals := 83 } : Room)) (fun aX UX => aX = #[(.ref r0), (.int (Int32.ofNat i)), (.int (1 : Int32))] ∧ Z.Warmed39 UX.vm ∧ UX.heap = h0) (fun _ _ _ _ _ => True) (fun _ UX oX UX' => ∃ vX LX, oX = .returned vX ∧ Q24 Z (i + 2) h0 n0 vX UX'.heap LX ∧ FrameEnd UX oX UX' LX ({ frames := 6, cells := 0, slots := 0, locals := 83 } : Room).cells ({ frames := 6, cells := 0, slots := 0, locals := 83 } : Room).slots) := by
  refine MetFree.of_bodySF (plainFor_of_name pn_java_lang_String) hisR ?_
  intro p e s m args below meth c s₁ Bd hml0 hP hK
  obtain ⟨rfl, hZ, hh⟩ := hP
  have hx := Bd.exec
  have hby := Bd.bytes
  have hml : c.maxLocals = 3 := hml0
  have hown : s.vm.findClass "java/lang/String" = some m.cls := findClass_of_methodNamed Bd.named
  have hnm := (name_of_methodNamed Bd.named Bd.method).1
  have X0 : Stand p l e ({ frames := 6, cells := 0, slots := 0, locals := 83 } : Room) s m #[(.ref r0), (.int (Int32.ofNat i)), (.int (1 : Int32))] below meth c s₁ [] 0 0 := Stand.of_body Bd
  have e0 : s₁.heap = h0 := by rw [← hh, Bd.state]; rfl
  have N0 := Fr.nil n0
  show own_Comes p e below s ({ frames := 6, cells := 0, slots := 0, locals := 83 } : Room).cells ({ frames := 6, cells := 0, slots := 0, locals := 83 } : Room).slots (Q24 Z (i + 2) h0 n0) _
  rw [show entryFrame m #[(.ref r0), (.int (Int32.ofNat i)), (.int (1 : Int32))] 3 = mkF m 0 #[.val (.ref r0), .val (.int (Int32.ofNat i)), .val (.int (1 : Int32))] [] from ef_rm24p m r0 (Int32.ofNat i) (1 : Int32)]
  show own_Comes p e below s _ _ _ (s₁.setTop (mkF m 0 #[.val (.ref r0), .val (.int (Int32.ofNat i)), .val (.int (1 : Int32))] []))
  refine own_by (fun _ kS => XS.aloadN X0.here hx rfl (hb hby d24_0) rfl rfl kS) ?_
  show own_Comes p e below s _ _ _ (s₁.setTop (mkF m 1 #[.val (.ref r0), .val (.int (Int32.ofNat i)), .val (.int (1 : Int32))] [(.ref r0)]))
  refine own_by (fun _ kS => XS.iloadN X0.here hx rfl (hb hby d24_1) rfl kS) ?_
  show own_Comes p e below s _ _ _ (s₁.setTop (mkF m 2 #[.val (.ref r0), .val (.int (Int32.ofNat i)), .val (.int (1 : Int32))] [(.int (Int32.ofNat i)), (.ref r0)]))
  refine own_by (fun _ kS => XS.iloadN X0.here hx rfl (hb hby d24_2) rfl kS) ?_
  show own_Comes p e below s _ _ _ (s₁.setTop (mkF m 3 #[.val (.ref r0), .val (.int (Int32.ofNat i)), .val (.int (1 : Int32))] [(.int (1 : Int32)), (.int (Int32.ofNat i)), (.ref r0)]))
  obtain ⟨vv150, _, ⟨T150, L150, k150, n150⟩, -, X150, ⟨Lc150, hQ150, l150, y150, z150⟩, st150⟩ := Jvm.LawKit.callS X0 hx (y := (⟨"java/lang/Character", "offsetByCodePoints", "(Ljava/lang/CharSequence;II)I"⟩ : MethodName)) hown (mvT hZ (hw _ (List.mem_of_getElem? (i := 109) rfl))) (mvT hZ (hw _ (List.mem_of_getElem? (i := 110) rfl))) (mvT hZ (hw _ (List.mem_of_getElem? (i := 111) rfl))) (mvT hZ (hw _ (List.mem_of_getElem? (i := 112) rfl))) (by decide) (backOf (W := 0) (rm25p l Z a0 hw [] r0 i cs zc fm h0 n0 Z0 O0 Sz hzc Sf i_fm Sd Sh Sl hY hi hs hi2 hlo) hZ (hw _ (List.mem_of_getElem? (i := 112) rfl)) (hw _ (List.mem_of_getElem? (i := 111) rfl)) (by decide) (by decide)) (g := (mkF m 3 #[.val (.ref r0), .val (.int (Int32.ofNat i)), .val (.int (1 : Int32))] [(.int (1 : Int32)), (.int (Int32.ofNat i)), (.ref r0)])) rfl (by rw [hml]; rfl) (argsL := [(.ref r0), (.int (Int32.ofNat i)), (.int (1 : Int32))]) (rest := []) (lenOf pd__Ljava_lang_CharSequence_II_I_578 rfl) rfl (by show 2 * 0 + _ ≤ _; exact Nat.le_of_eq rfl) (hb hby d24_3) (fun _ _ => ⟨rfl, e0, (by decide : 0 + 0 ≤ _), (by decide : 0 + 0 ≤ _)⟩)
  dsimp only [Pt.U, Pt.locs, Pt.cells, Pt.slots] at X150 l150 y150 z150 st150 hQ150
  subst l150 y150 z150
  obtain ⟨rfl, N150q, e150q⟩ := hQ150
  have N150 := Fr.app N0 N150q
  refine own_by st150 ?_
  have e150 : T150.heap = h0 := e150q
  show own_Comes p e below s _ _ _ (T150.setTop (mkF m 6 #[.val (.ref r0), .val (.int (Int32.ofNat i)), .val (.int (1 : Int32))] [(.int (Int32.ofNat (i + 2)))]))
  refine own_ret X150 (v := some (.int (Int32.ofNat (i + 2)))) (fun h => by rw [Bd.returns] at h; cases h) Bd.notSynchronized (by decide) (by decide) ?_ (fun fs hr => retI X150 hx Bd.returns (hb hby d24_6) hr)
  rw [e150]; exact ⟨rfl, N150, rfl⟩
def Q16 (Z : State) (r0 : Addr) (h0 : Heap) (n0 : Nat) (v : Option Value) (h : Heap) (L : List Loc) : Prop := v = some (.ref r0) ∧ Fr n0 L ∧ h = h0
theorem ef_rm16 (m : MethodId) (x0 : Addr) : entryFrame m #[(.ref x0)] 4 = mkF m 0 #[.val (.ref x0), .unset, .unset, .unset] [] := by first | (simp [entryFrame, mkF, argsToLocals, Value.category]; done) | rfl
theorem pn_com_example_holdfast_holdfast_spi_LockArguments : plainName "com/example/holdfast/holdfast/spi/LockArguments" = true := by first | (simp [plainName, overriddenIn]; done) | decide +kernel
theorem d16_0 : decode prog_10_method_2_code 0 = .ok (.aload_n 0, 1) := by decide +kernel
theorem d16_1 : decode prog_10_method_2_code 1 = .ok (.invokevirtual 7, 3) := by decide +kernel
theorem d16_4 : decode prog_10_method_2_code 4 = .ok (.ifCond .eq 13, 3) := by decide +kernel
theorem d16_17 : decode prog_10_method_2_code 17 = .ok (.iconst 0, 1) := by decide +kernel
theorem d16_18 : decode prog_10_method_2_code 18 = .ok (.istore_n 1, 1) := by decide +kernel
theorem d16_19 : decode prog_10_method_2_code 19 = .ok (.iload_n 1, 1) := by decide +kernel
theorem d16_20 : decode prog_10_method_2_code 20 = .ok (.aload_n 0, 1) := by decide +kernel
theorem d16_21 : decode prog_10_method_2_code 21 = .ok (.invokevirtual 20, 3) := by decide +kernel
theorem d16_24 : decode prog_10_method_2_code 24 = .ok (.if_icmp .ge 81, 3) := by decide +kernel
theorem d16_27 : decode prog_10_method_2_code 27 = .ok (.aload_n 0, 1) := by decide +kernel
theorem d16_28 : decode prog_10_method_2_code 28 = .ok (.iload_n 1, 1) := by decide +kernel
theorem d16_29 : decode prog_10_method_2_code 29 = .ok (.invokevirtual 24, 3) := by decide +kernel
theorem d16_32 : decode prog_10_method_2_code 32 = .ok (.istore_n 2, 1) := by decide +kernel
theorem d16_33 : decode prog_10_method_2_code 33 = .ok (.iload_n 2, 1) := by decide +kernel
theorem d16_34 : decode prog_10_method_2_code 34 = .ok (.ifCond .ne 17, 3) := by decide +kernel
theorem d16_51 : decode prog_10_method_2_code 51 = .ok (.iload_n 2, 1) := by decide +kernel
theorem d16_52 : decode prog_10_method_2_code 52 = .ok (.ldc 34, 2) := by decide +kernel
theorem d16_54 : decode prog_10_method_2_code 54 = .ok (.if_icmp .lt 41, 3) := by decide +kernel
theorem d16_57 : decode prog_10_method_2_code 57 = .ok (.iload_n 2, 1) := by decide +kernel
theorem d16_58 : decode prog_10_method_2_code 58 = .ok (.ldc 35, 2) := by decide +kernel
theorem d16_60 : decode prog_10_method_2_code 60 = .ok (.if_icmp .gt 35, 3) := by decide +kernel
theorem d16_95 : decode prog_10_method_2_code 95 = .ok (.aload_n 0, 1) := by decide +kernel
theorem d16_96 : decode prog_10_method_2_code 96 = .ok (.iload_n 1, 1) := by decide +kernel
theorem d16_97 : decode prog_10_method_2_code 97 = .ok (.iconst 1, 1) := by decide +kernel
theorem pd__II_I_300 : parseMethodDescriptor "(II)I" = some ⟨[.int, .int], some .int⟩ := by decide +kernel
theorem d16_98 : decode prog_10_method_2_code 98 = .ok (.invokevirtual 51, 3) := by decide +kernel
theorem d16_101 : decode prog_10_method_2_code 101 = .ok (.istore_n 1, 1) := by decide +kernel
theorem d16_102 : decode prog_10_method_2_code 102 = .ok (.goto (-83), 3) := by decide +kernel
theorem d16_105 : decode prog_10_method_2_code 105 = .ok (.aload_n 0, 1) := by decide +kernel
theorem d16_106 : decode prog_10_method_2_code 106 = .ok (.areturn, 1) := by decide +kernel
set_option maxRecDepth 65536 in
set_option maxHeartbeats 40000000 in
theorem rm16 (l : Launch) (Z : State) (a0 : Array Value) (hw : ∀ d ∈ tables_1, d.before a0 Z = true) (ws : List Jvm.Cond) (r0 : Addr) (cs : List Int32) (zc : Int32) (fm : Value) (h0 : Heap) (n0 : Nat) (Z0 : n0 ≤ h0.size) (O0 : Old Z n0 h0) (Sz : Sta Z Z.heap "java/lang/String" "COMPACT_STRINGS" "Z" (.int zc)) (hzc : ¬ zc = 0) (Sf : Sta Z Z.heap "jdk/internal/util/Preconditions" "SIOOBE_FORMATTER" "Ljava/util/function/BiFunction;" fm) (i_fm : fm.isRef = true) (Sd : Sta Z Z.heap "java/lang/StringUTF16" "$assertionsDisabled" "Z" (.int (1 : Int32))) (Sh : Sta Z Z.heap "java/lang/StringUTF16" "HI_BYTE_SHIFT" "I" (.int (0 : Int32))) (Sl : Sta Z Z.heap "java/lang/StringUTF16" "LO_BYTE_SHIFT" "I" (.int (8 : Int32))) (hY : own_Txt Z h0 r0 cs) (h0l : 0 < cs.length) (hok : ∀ i, i < cs.length → own_okAt cs i) :
    MetFree l (⟨"com/example/holdfast/holdfast/spi/LockArguments", "requireName", "(Ljava/lang/String;)Ljava/lang/String;"⟩ : MethodName) (head1 (Jvm.Cond.code (⟨"com/example/holdfast/holdfast/spi/LockArguments", "requireName", "(Ljava/lang/String;)Ljava/lang/String;"⟩ : MethodName) prog_10_method_2_code 4 (some (.object "java/lang/String")) :: ws) ({ frames := 7, cells := 0, slots := 0, locals := 97 } : Room)) (fun aX UX => aX = #[(.ref r0)] ∧ Z.Warmed39 UX.vm ∧ UX.heap = h0) (fun _ _ _ _ _ => True) (fun _ UX oX UX' => ∃ vX LX, oX = .returned vX ∧ Q16 Z r0 h0 n0 vX UX'.heap LX ∧ FrameEnd UX oX UX' LX ({ frames := 7, cells := 0, slots := 0, locals := 97 } : Room).cells ({ frames := 7, cells := 0, slots := 0, locals := 97 } : Room).slots) := by
  refine MetFree.of_bodySF (plainFor_of_name pn_com_example_holdfast_holdfast_spi_LockArguments) hisR ?_
  intro p e s m args below meth c s₁ Bd hml0 hP hK
  obtain ⟨rfl, hZ, hh⟩ := hP
  have hx := Bd.exec
  have hby := Bd.bytes
  have hml : c.maxLocals = 4 := hml0
  have hown : s.vm.findClass "com/example/holdfast/holdfast/spi/LockArguments" = some m.cls := findClass_of_methodNamed Bd.named
  have hnm := (name_of_methodNamed Bd.named Bd.method).1
  have X0 : Stand p l e ({ frames := 7, cells := 0, slots := 0, locals := 97 } : Room) s m #[(.ref r0)] below meth c s₁ [] 0 0 := Stand.of_body Bd
  have e0 : s₁.heap = h0 := by rw [← hh, Bd.state]; rfl
  have N0 := Fr.nil n0
  show own_Comes p e below s ({ frames := 7, cells := 0, slots := 0, locals := 97 } : Room).cells ({ frames := 7, cells := 0, slots := 0, locals := 97 } : Room).slots (Q16 Z r0 h0 n0) _
  rw [show entryFrame m #[(.ref r0)] 4 = mkF m 0 #[.val (.ref r0), .unset, .unset, .unset] [] from ef_rm16 m r0]
  show own_Comes p e below s _ _ _ (s₁.setTop (mkF m 0 #[.val (.ref r0), .unset, .unset, .unset] []))
  have hYo := hY
  obtain ⟨Eo, tO, ko, cdo, No, vo, Vo, Co, Ao, Ho, Bo, Lo⟩ := hYo
  have hwl : ∀ d ∈ StrChars.Road.wordsLen, d.before a0 Z = true := fun d hd => hw d ((by decide +kernel : ∀ d ∈ StrChars.Road.wordsLen, d ∈ tables_1) d hd)
  have hwe : ∀ d ∈ StrChars.Road.wordsEmp, d.before a0 Z = true := fun d hd => hw d ((by decide +kernel : ∀ d ∈ StrChars.Road.wordsEmp, d ∈ tables_1) d hd)
  refine own_by (fun _ kS => XS.aloadN X0.here hx rfl (hb hby d16_0) rfl rfl kS) ?_
  show own_Comes p e below s _ _ _ (s₁.setTop (mkF m 1 #[.val (.ref r0), .unset, .unset, .unset] [(.ref r0)]))
  obtain ⟨cq151, kq151, q151a, q151b, q151c⟩ := isOf hZ e0 Eo
  obtain ⟨vv151, _, ⟨T151, L151, k151, n151⟩, -, X151, ⟨Lc151, hQ151, l151, y151, z151⟩, st151⟩ := X0.virtualBack hx (y := (⟨"java/lang/String", "isEmpty", "()Z"⟩ : MethodName)) (z := (⟨"java/lang/String", "isEmpty", "()Z"⟩ : MethodName)) hown (mvT hZ (hw _ (List.mem_of_getElem? (i := 70) rfl))) (mvT hZ (hw _ (List.mem_of_getElem? (i := 71) rfl))) (notFace_of_selects (args := #[]) (mvT hZ (hw _ (List.mem_of_getElem? (i := 73) rfl)))) (mvT hZ (hw _ (List.mem_of_getElem? (i := 73) rfl))) (mvT hZ (hw _ (List.mem_of_getElem? (i := 72) rfl))) (by decide) (StrChars.Road.empW (W := 0) hZ hwe (kI := 4) (hw _ (List.mem_of_getElem? (i := 9) rfl)) (cs := cs) Eo Vo Co Ao Ho Bo Lo (by decide) (by decide)) q151a q151c (g := (mkF m 1 #[.val (.ref r0), .unset, .unset, .unset] [(.ref r0)])) rfl (by rw [hml]; rfl) (Steps.refl _) (argsL := []) (rest := []) (lenOf pd___Z_171 rfl) rfl (by show 2 * 0 + _ ≤ _; exact Nat.le_of_eq rfl) (hb hby d16_1) (fun _ _ => ⟨rfl, e0, (by decide : 0 + 0 ≤ _), (by decide : 0 + 0 ≤ _)⟩)
  dsimp only [Pt.U, Pt.locs, Pt.cells, Pt.slots] at X151 l151 y151 z151 st151 hQ151
  subst l151 y151 z151
  obtain ⟨rfl, rfl, e151q⟩ := hQ151
  have N151q := Fr.nil n0
  have N151 := Fr.app N0 N151q
  refine own_tr st151 ?_
  have e151 : T151.heap = h0 := e151q
  show own_Comes p e below s _ _ _ (T151.setTop (mkF m 4 #[.val (.ref r0), .unset, .unset, .unset] [(.int (if cs.length = 0 then 1 else 0))]))
  rw [show (if cs.length = 0 then 1 else 0) = (0 : Int32) from if_neg (by omega)]
  show own_Comes p e below s _ _ _ (T151.setTop (mkF m 4 #[.val (.ref r0), .unset, .unset, .unset] [(.int (0 : Int32))]))
  have hb152 : (0 : Int32) = (0 : Int32) := by decide
  refine own_by (fun _ kS => XS.ifYes X151.here hx rfl (pc0 := 4) (pc' := 17) rfl (hb hby d16_4) rfl ((if0 _ _).trans (teq hb152).1) (by decide) (by decide) kS) ?_
  show own_Comes p e below s _ _ _ (T151.setTop (mkF m 17 #[.val (.ref r0), .unset, .unset, .unset] []))
  refine own_by (fun _ kS => XS.iconst X151.here hx rfl (hb hby d16_17) kS) ?_
  show own_Comes p e below s _ _ _ (T151.setTop (mkF m 18 #[.val (.ref r0), .unset, .unset, .unset] [(.int (0 : Int32))]))
  refine own_by (fun _ kS => XS.istoreN X151.here hx rfl (hb hby d16_18) rfl (l' := #[.val (.ref r0), .val (.int (0 : Int32)), .unset, .unset]) rfl kS) ?_
  show own_Comes p e below s _ _ _ (T151.setTop (mkF m 19 #[.val (.ref r0), .val (.int (0 : Int32)), .unset, .unset] []))
  have J19 : ∀ (r : Nat) (i : Nat) (sl : Slot) (TJ19 : State) (hJ19 : Heap) (LJ19 : List Loc), (cs.length < i + r) → (sl = .unset ∨ ∃ w : Value, sl = .val w ∧ w.category = 1) → (i ≤ cs.length) → (i < cs.length → ¬ own_lo (cs.getD i 0)) → (hJ19 = h0) → Stand p l e ({ frames := 7, cells := 0, slots := 0, locals := 97 } : Room) s m #[(.ref r0)] below meth c TJ19 LJ19 0 0 → TJ19.heap = hJ19 → Fr n0 LJ19 → Old Z n0 hJ19 → n0 ≤ hJ19.size → own_Comes p e below s ({ frames := 7, cells := 0, slots := 0, locals := 97 } : Room).cells ({ frames := 7, cells := 0, slots := 0, locals := 97 } : Room).slots (Q16 Z r0 h0 n0) (TJ19.setTop (mkF m 19 #[.val (.ref r0), .val (.int (Int32.ofNat i)), sl, .unset] [])) := by
    intro r
    induction r with
    | zero => intro i sl TJ19 hJ19 LJ19 hrJ19 hO_sl hiL hst hh0 XJ19 eJ19 NJ19 OJ19 ZJ19; omega
    | succ r ih =>
      intro i sl TJ19 hJ19 LJ19 hrJ19 hO_sl hiL hst hh0 XJ19 eJ19 NJ19 OJ19 ZJ19
      show own_Comes p e below s _ _ _ (TJ19.setTop (mkF m 19 #[.val (.ref r0), .val (.int (Int32.ofNat i)), sl, .unset] []))
      subst hh0
      refine own_by (fun _ kS => XS.iloadN XJ19.here hx rfl (hb hby d16_19) rfl kS) ?_
      show own_Comes p e below s _ _ _ (TJ19.setTop (mkF m 20 #[.val (.ref r0), .val (.int (Int32.ofNat i)), sl, .unset] [(.int (Int32.ofNat i))]))
      refine own_by (fun _ kS => XS.aloadN XJ19.here hx rfl (hb hby d16_20) rfl rfl kS) ?_
      show own_Comes p e below s _ _ _ (TJ19.setTop (mkF m 21 #[.val (.ref r0), .val (.int (Int32.ofNat i)), sl, .unset] [(.ref r0), (.int (Int32.ofNat i))]))
      obtain ⟨cq153, kq153, q153a, q153b, q153c⟩ := isOf hZ eJ19 Eo
      obtain ⟨vv153, _, ⟨T153, L153, k153, n153⟩, -, X153, ⟨Lc153, hQ153, l153, y153, z153⟩, st153⟩ := XJ19.virtualBack hx (y := (⟨"java/lang/String", "length", "()I"⟩ : MethodName)) (z := (⟨"java/lang/String", "length", "()I"⟩ : MethodName)) hown (mvT hZ (hw _ (List.mem_of_getElem? (i := 75) rfl))) (mvT hZ (hw _ (List.mem_of_getElem? (i := 76) rfl))) (notFace_of_selects (args := #[]) (mvT hZ (hw _ (List.mem_of_getElem? (i := 78) rfl)))) (mvT hZ (hw _ (List.mem_of_getElem? (i := 78) rfl))) (mvT hZ (hw _ (List.mem_of_getElem? (i := 77) rfl))) (by decide) (StrChars.Road.lenW (W := 1) hZ hwl (kI := 4) (hw _ (List.mem_of_getElem? (i := 9) rfl)) (cs := cs) Eo Vo Co Ao Ho Bo (Sz.ext OJ19.2) hzc Lo (by decide) (by decide)) q153a q153c (g := (mkF m 21 #[.val (.ref r0), .val (.int (Int32.ofNat i)), sl, .unset] [(.ref r0), (.int (Int32.ofNat i))])) rfl (by rw [hml]; rfl) (Steps.refl _) (argsL := []) (rest := [(.int (Int32.ofNat i))]) (lenOf pd___I_154 rfl) rfl (by show 2 * 0 + _ ≤ _; exact Nat.le_of_eq rfl) (hb hby d16_21) (fun _ _ => ⟨rfl, eJ19, (by decide : 0 + 0 ≤ _), (by decide : 0 + 0 ≤ _)⟩)
      dsimp only [Pt.U, Pt.locs, Pt.cells, Pt.slots] at X153 l153 y153 z153 st153 hQ153
      subst l153 y153 z153
      obtain ⟨rfl, rfl, e153q⟩ := hQ153
      have N153q := Fr.nil n0
      have N153 := Fr.app NJ19 N153q
      refine own_tr st153 ?_
      have e153 : T153.heap = hJ19 := e153q
      show own_Comes p e below s _ _ _ (T153.setTop (mkF m 24 #[.val (.ref r0), .val (.int (Int32.ofNat i)), sl, .unset] [(.int (Int32.ofNat cs.length)), (.int (Int32.ofNat i))]))
      by_cases hi : i < cs.length
      · have hb154 : (Int32.ofNat i) < (Int32.ofNat cs.length) := (own_lt (by omega) (by omega)).mpr hi
        refine own_by (fun _ kS => XS.icmpNo X153.here hx rfl (hb hby d16_24) rfl (tlt hb154).2.1 kS) ?_
        show own_Comes p e below s _ _ _ (T153.setTop (mkF m 27 #[.val (.ref r0), .val (.int (Int32.ofNat i)), sl, .unset] []))
        obtain ⟨ok1, ok2, ok3⟩ := hok i hi
        refine own_by (fun _ kS => XS.aloadN X153.here hx rfl (hb hby d16_27) rfl rfl kS) ?_
        show own_Comes p e below s _ _ _ (T153.setTop (mkF m 28 #[.val (.ref r0), .val (.int (Int32.ofNat i)), sl, .unset] [(.ref r0)]))
        refine own_by (fun _ kS => XS.iloadN X153.here hx rfl (hb hby d16_28) rfl kS) ?_
        show own_Comes p e below s _ _ _ (T153.setTop (mkF m 29 #[.val (.ref r0), .val (.int (Int32.ofNat i)), sl, .unset] [(.int (Int32.ofNat i)), (.ref r0)]))
        by_cases hs : own_hi (cs.getD i 0)
        · show own_Comes p e below s _ _ _ (T153.setTop (mkF m 29 #[.val (.ref r0), .val (.int (Int32.ofNat i)), sl, .unset] [(.int (Int32.ofNat i)), (.ref r0)]))
          obtain ⟨hi2, hlo⟩ := ok2 hs
          obtain ⟨cq155, kq155, q155a, q155b, q155c⟩ := isOf hZ e153 Eo
          obtain ⟨vv155, _, ⟨T155, L155, k155, n155⟩, -, X155, ⟨Lc155, hQ155, l155, y155, z155⟩, st155⟩ := X153.virtualBack hx (y := (⟨"java/lang/String", "codePointAt", "(I)I"⟩ : MethodName)) (z := (⟨"java/lang/String", "codePointAt", "(I)I"⟩ : MethodName)) hown (mvT hZ (hw _ (List.mem_of_getElem? (i := 85) rfl))) (mvT hZ (hw _ (List.mem_of_getElem? (i := 86) rfl))) (notFace_of_selects (args := #[]) (mvT hZ (hw _ (List.mem_of_getElem? (i := 88) rfl)))) (mvT hZ (hw _ (List.mem_of_getElem? (i := 88) rfl))) (mvT hZ (hw _ (List.mem_of_getElem? (i := 87) rfl))) (by decide) (backOf (W := 0) (rm20p l Z a0 hw [] r0 i cs zc fm hJ19 n0 ZJ19 OJ19 Sz hzc Sf i_fm Sd Sh Sl hY hi hs hi2 hlo) hZ (hw _ (List.mem_of_getElem? (i := 89) rfl)) (hw _ (List.mem_of_getElem? (i := 10) rfl)) (by decide) (by decide)) q155a q155c (g := (mkF m 29 #[.val (.ref r0), .val (.int (Int32.ofNat i)), sl, .unset] [(.int (Int32.ofNat i)), (.ref r0)])) rfl (by rw [hml]; rfl) (Steps.refl _) (argsL := [(.int (Int32.ofNat i))]) (rest := []) (lenOf pd__I_I_227 rfl) rfl (by show 2 * 0 + _ ≤ _; exact Nat.le_of_eq rfl) (hb hby d16_29) (fun _ _ => ⟨rfl, e153, (by decide : 0 + 0 ≤ _), (by decide : 0 + 0 ≤ _)⟩)
          dsimp only [Pt.U, Pt.locs, Pt.cells, Pt.slots] at X155 l155 y155 z155 st155 hQ155
          subst l155 y155 z155
          obtain ⟨rfl, N155q, e155q⟩ := hQ155
          have N155 := Fr.app N153 N155q
          refine own_tr st155 ?_
          have e155 : T155.heap = hJ19 := e155q
          show own_Comes p e below s _ _ _ (T155.setTop (mkF m 32 #[.val (.ref r0), .val (.int (Int32.ofNat i)), sl, .unset] [(.int ((((cs.getD i 0) <<< ((10 : Int32) &&& 31)) + (cs.getD (i + 1) 0)) + (-56613888 : Int32)))]))
          have hcp := own_cpn (own_cp hs hlo)
          refine own_by (fun _ kS => XS.istoreN X155.here hx rfl (hb hby d16_32) rfl (l' := #[.val (.ref r0), .val (.int (Int32.ofNat i)), .val (.int ((((cs.getD i 0) <<< ((10 : Int32) &&& 31)) + (cs.getD (i + 1) 0)) + (-56613888 : Int32))), .unset]) (by first | rfl | (rcases hO_sl with rfl | ⟨w, rfl, hw⟩ <;> first | rfl | (cases w <;> first | rfl | (simp [Value.category] at hw)))) kS) ?_
          show own_Comes p e below s _ _ _ (T155.setTop (mkF m 33 #[.val (.ref r0), .val (.int (Int32.ofNat i)), .val (.int ((((cs.getD i 0) <<< ((10 : Int32) &&& 31)) + (cs.getD (i + 1) 0)) + (-56613888 : Int32))), .unset] []))
          refine own_by (fun _ kS => XS.iloadN X155.here hx rfl (hb hby d16_33) rfl kS) ?_
          show own_Comes p e below s _ _ _ (T155.setTop (mkF m 34 #[.val (.ref r0), .val (.int (Int32.ofNat i)), .val (.int ((((cs.getD i 0) <<< ((10 : Int32) &&& 31)) + (cs.getD (i + 1) 0)) + (-56613888 : Int32))), .unset] [(.int ((((cs.getD i 0) <<< ((10 : Int32) &&& 31)) + (cs.getD (i + 1) 0)) + (-56613888 : Int32)))]))
          refine own_by (fun _ kS => XS.ifYes X155.here hx rfl (pc0 := 34) (pc' := 51) rfl (hb hby d16_34) rfl ((if0 _ _).trans (feq hcp.1).2) (by decide) (by decide) kS) ?_
          show own_Comes p e below s _ _ _ (T155.setTop (mkF m 51 #[.val (.ref r0), .val (.int (Int32.ofNat i)), .val (.int ((((cs.getD i 0) <<< ((10 : Int32) &&& 31)) + (cs.getD (i + 1) 0)) + (-56613888 : Int32))), .unset] []))
          refine own_by (fun _ kS => XS.iloadN X155.here hx rfl (hb hby d16_51) rfl kS) ?_
          show own_Comes p e below s _ _ _ (T155.setTop (mkF m 52 #[.val (.ref r0), .val (.int (Int32.ofNat i)), .val (.int ((((cs.getD i 0) <<< ((10 : Int32) &&& 31)) + (cs.getD (i + 1) 0)) + (-56613888 : Int32))), .unset] [(.int ((((cs.getD i 0) <<< ((10 : Int32) &&& 31)) + (cs.getD (i + 1) 0)) + (-56613888 : Int32)))]))
          refine own_by (fun _ kS => X155.ldcInt hx hown (mvT hZ (hw _ (List.mem_of_getElem? (i := 103) rfl))) (g := (mkF m 52 #[.val (.ref r0), .val (.int (Int32.ofNat i)), .val (.int ((((cs.getD i 0) <<< ((10 : Int32) &&& 31)) + (cs.getD (i + 1) 0)) + (-56613888 : Int32))), .unset] [(.int ((((cs.getD i 0) <<< ((10 : Int32) &&& 31)) + (cs.getD (i + 1) 0)) + (-56613888 : Int32)))])) rfl (hb hby d16_52) _ kS) ?_
          show own_Comes p e below s _ _ _ (T155.setTop (mkF m 54 #[.val (.ref r0), .val (.int (Int32.ofNat i)), .val (.int ((((cs.getD i 0) <<< ((10 : Int32) &&& 31)) + (cs.getD (i + 1) 0)) + (-56613888 : Int32))), .unset] [(.int (55296 : Int32)), (.int ((((cs.getD i 0) <<< ((10 : Int32) &&& 31)) + (cs.getD (i + 1) 0)) + (-56613888 : Int32)))]))
          refine own_by (fun _ kS => XS.icmpNo X155.here hx rfl (hb hby d16_54) rfl (flt hcp.2.1).1 kS) ?_
          show own_Comes p e below s _ _ _ (T155.setTop (mkF m 57 #[.val (.ref r0), .val (.int (Int32.ofNat i)), .val (.int ((((cs.getD i 0) <<< ((10 : Int32) &&& 31)) + (cs.getD (i + 1) 0)) + (-56613888 : Int32))), .unset] []))
          refine own_by (fun _ kS => XS.iloadN X155.here hx rfl (hb hby d16_57) rfl kS) ?_
          show own_Comes p e below s _ _ _ (T155.setTop (mkF m 58 #[.val (.ref r0), .val (.int (Int32.ofNat i)), .val (.int ((((cs.getD i 0) <<< ((10 : Int32) &&& 31)) + (cs.getD (i + 1) 0)) + (-56613888 : Int32))), .unset] [(.int ((((cs.getD i 0) <<< ((10 : Int32) &&& 31)) + (cs.getD (i + 1) 0)) + (-56613888 : Int32)))]))
          refine own_by (fun _ kS => X155.ldcInt hx hown (mvT hZ (hw _ (List.mem_of_getElem? (i := 164) rfl))) (g := (mkF m 58 #[.val (.ref r0), .val (.int (Int32.ofNat i)), .val (.int ((((cs.getD i 0) <<< ((10 : Int32) &&& 31)) + (cs.getD (i + 1) 0)) + (-56613888 : Int32))), .unset] [(.int ((((cs.getD i 0) <<< ((10 : Int32) &&& 31)) + (cs.getD (i + 1) 0)) + (-56613888 : Int32)))])) rfl (hb hby d16_58) _ kS) ?_
          show own_Comes p e below s _ _ _ (T155.setTop (mkF m 60 #[.val (.ref r0), .val (.int (Int32.ofNat i)), .val (.int ((((cs.getD i 0) <<< ((10 : Int32) &&& 31)) + (cs.getD (i + 1) 0)) + (-56613888 : Int32))), .unset] [(.int (57343 : Int32)), (.int ((((cs.getD i 0) <<< ((10 : Int32) &&& 31)) + (cs.getD (i + 1) 0)) + (-56613888 : Int32)))]))
          refine own_by (fun _ kS => XS.icmpYes X155.here hx rfl (pc0 := 60) (pc' := 95) rfl (hb hby d16_60) rfl (tlt hcp.2.2).2.2.1 (by decide) (by decide) kS) ?_
          show own_Comes p e below s _ _ _ (T155.setTop (mkF m 95 #[.val (.ref r0), .val (.int (Int32.ofNat i)), .val (.int ((((cs.getD i 0) <<< ((10 : Int32) &&& 31)) + (cs.getD (i + 1) 0)) + (-56613888 : Int32))), .unset] []))
          refine own_by (fun _ kS => XS.aloadN X155.here hx rfl (hb hby d16_95) rfl rfl kS) ?_
          show own_Comes p e below s _ _ _ (T155.setTop (mkF m 96 #[.val (.ref r0), .val (.int (Int32.ofNat i)), .val (.int ((((cs.getD i 0) <<< ((10 : Int32) &&& 31)) + (cs.getD (i + 1) 0)) + (-56613888 : Int32))), .unset] [(.ref r0)]))
          refine own_by (fun _ kS => XS.iloadN X155.here hx rfl (hb hby d16_96) rfl kS) ?_
          show own_Comes p e below s _ _ _ (T155.setTop (mkF m 97 #[.val (.ref r0), .val (.int (Int32.ofNat i)), .val (.int ((((cs.getD i 0) <<< ((10 : Int32) &&& 31)) + (cs.getD (i + 1) 0)) + (-56613888 : Int32))), .unset] [(.int (Int32.ofNat i)), (.ref r0)]))
          refine own_by (fun _ kS => XS.iconst X155.here hx rfl (hb hby d16_97) kS) ?_
          show own_Comes p e below s _ _ _ (T155.setTop (mkF m 98 #[.val (.ref r0), .val (.int (Int32.ofNat i)), .val (.int ((((cs.getD i 0) <<< ((10 : Int32) &&& 31)) + (cs.getD (i + 1) 0)) + (-56613888 : Int32))), .unset] [(.int (1 : Int32)), (.int (Int32.ofNat i)), (.ref r0)]))
          obtain ⟨cq156, kq156, q156a, q156b, q156c⟩ := isOf hZ e155 Eo
          obtain ⟨vv156, _, ⟨T156, L156, k156, n156⟩, -, X156, ⟨Lc156, hQ156, l156, y156, z156⟩, st156⟩ := X155.virtualBack hx (y := (⟨"java/lang/String", "offsetByCodePoints", "(II)I"⟩ : MethodName)) (z := (⟨"java/lang/String", "offsetByCodePoints", "(II)I"⟩ : MethodName)) hown (mvT hZ (hw _ (List.mem_of_getElem? (i := 104) rfl))) (mvT hZ (hw _ (List.mem_of_getElem? (i := 105) rfl))) (notFace_of_selects (args := #[]) (mvT hZ (hw _ (List.mem_of_getElem? (i := 107) rfl)))) (mvT hZ (hw _ (List.mem_of_getElem? (i := 107) rfl))) (mvT hZ (hw _ (List.mem_of_getElem? (i := 106) rfl))) (by decide) (backOf (W := 0) (rm24p l Z a0 hw [] r0 i cs zc fm hJ19 n0 ZJ19 OJ19 Sz hzc Sf i_fm Sd Sh Sl hY hi hs hi2 hlo) hZ (hw _ (List.mem_of_getElem? (i := 108) rfl)) (hw _ (List.mem_of_getElem? (i := 10) rfl)) (by decide) (by decide)) q156a q156c (g := (mkF m 98 #[.val (.ref r0), .val (.int (Int32.ofNat i)), .val (.int ((((cs.getD i 0) <<< ((10 : Int32) &&& 31)) + (cs.getD (i + 1) 0)) + (-56613888 : Int32))), .unset] [(.int (1 : Int32)), (.int (Int32.ofNat i)), (.ref r0)])) rfl (by rw [hml]; rfl) (Steps.refl _) (argsL := [(.int (Int32.ofNat i)), (.int (1 : Int32))]) (rest := []) (lenOf pd__II_I_300 rfl) rfl (by show 2 * 0 + _ ≤ _; exact Nat.le_of_eq rfl) (hb hby d16_98) (fun _ _ => ⟨rfl, e155, (by decide : 0 + 0 ≤ _), (by decide : 0 + 0 ≤ _)⟩)
          dsimp only [Pt.U, Pt.locs, Pt.cells, Pt.slots] at X156 l156 y156 z156 st156 hQ156
          subst l156 y156 z156
          obtain ⟨rfl, N156q, e156q⟩ := hQ156
          have N156 := Fr.app N155 N156q
          refine own_tr st156 ?_
          have e156 : T156.heap = hJ19 := e156q
          show own_Comes p e below s _ _ _ (T156.setTop (mkF m 101 #[.val (.ref r0), .val (.int (Int32.ofNat i)), .val (.int ((((cs.getD i 0) <<< ((10 : Int32) &&& 31)) + (cs.getD (i + 1) 0)) + (-56613888 : Int32))), .unset] [(.int (Int32.ofNat (i + 2)))]))
          refine own_by (fun _ kS => XS.istoreN X156.here hx rfl (hb hby d16_101) rfl (l' := #[.val (.ref r0), .val (.int (Int32.ofNat (i + 2))), .val (.int ((((cs.getD i 0) <<< ((10 : Int32) &&& 31)) + (cs.getD (i + 1) 0)) + (-56613888 : Int32))), .unset]) rfl kS) ?_
          show own_Comes p e below s _ _ _ (T156.setTop (mkF m 102 #[.val (.ref r0), .val (.int (Int32.ofNat (i + 2))), .val (.int ((((cs.getD i 0) <<< ((10 : Int32) &&& 31)) + (cs.getD (i + 1) 0)) + (-56613888 : Int32))), .unset] []))
          refine own_by (fun _ kS => XS.goto X156.here hx rfl (pc0 := 102) (pc' := 19) rfl (hb hby d16_102) (by decide) (by decide) kS) ?_
          show own_Comes p e below s _ _ _ (T156.setTop (mkF m 19 #[.val (.ref r0), .val (.int (Int32.ofNat (i + 2))), .val (.int ((((cs.getD i 0) <<< ((10 : Int32) &&& 31)) + (cs.getD (i + 1) 0)) + (-56613888 : Int32))), .unset] []))
          exact ih (i + 2) _ _ _ _ (by omega) (Or.inr ⟨_, rfl, rfl⟩) (by omega) (fun hj hk => own_hilo ((hok (i + 2) hj).2.2 hk).2 hlo) rfl (X156.more (by decide) (by decide)) e156 N156 OJ19 ZJ19
        · show own_Comes p e below s _ _ _ (T153.setTop (mkF m 29 #[.val (.ref r0), .val (.int (Int32.ofNat i)), sl, .unset] [(.int (Int32.ofNat i)), (.ref r0)]))
          obtain ⟨cq157, kq157, q157a, q157b, q157c⟩ := isOf hZ e153 Eo
          obtain ⟨vv157, _, ⟨T157, L157, k157, n157⟩, -, X157, ⟨Lc157, hQ157, l157, y157, z157⟩, st157⟩ := X153.virtualBack hx (y := (⟨"java/lang/String", "codePointAt", "(I)I"⟩ : MethodName)) (z := (⟨"java/lang/String", "codePointAt", "(I)I"⟩ : MethodName)) hown (mvT hZ (hw _ (List.mem_of_getElem? (i := 85) rfl))) (mvT hZ (hw _ (List.mem_of_getElem? (i := 86) rfl))) (notFace_of_selects (args := #[]) (mvT hZ (hw _ (List.mem_of_getElem? (i := 88) rfl)))) (mvT hZ (hw _ (List.mem_of_getElem? (i := 88) rfl))) (mvT hZ (hw _ (List.mem_of_getElem? (i := 87) rfl))) (by decide) (backOf (W := 0) (rm20s l Z a0 hw [] r0 i cs zc fm hJ19 n0 ZJ19 OJ19 Sz hzc Sf i_fm Sd Sh Sl hY hi hs) hZ (hw _ (List.mem_of_getElem? (i := 89) rfl)) (hw _ (List.mem_of_getElem? (i := 10) rfl)) (by decide) (by decide)) q157a q157c (g := (mkF m 29 #[.val (.ref r0), .val (.int (Int32.ofNat i)), sl, .unset] [(.int (Int32.ofNat i)), (.ref r0)])) rfl (by rw [hml]; rfl) (Steps.refl _) (argsL := [(.int (Int32.ofNat i))]) (rest := []) (lenOf pd__I_I_227 rfl) rfl (by show 2 * 0 + _ ≤ _; exact Nat.le_of_eq rfl) (hb hby d16_29) (fun _ _ => ⟨rfl, e153, (by decide : 0 + 0 ≤ _), (by decide : 0 + 0 ≤ _)⟩)
          dsimp only [Pt.U, Pt.locs, Pt.cells, Pt.slots] at X157 l157 y157 z157 st157 hQ157
          subst l157 y157 z157
          obtain ⟨rfl, N157q, e157q⟩ := hQ157
          have N157 := Fr.app N153 N157q
          refine own_tr st157 ?_
          have e157 : T157.heap = hJ19 := e157q
          show own_Comes p e below s _ _ _ (T157.setTop (mkF m 32 #[.val (.ref r0), .val (.int (Int32.ofNat i)), sl, .unset] [(.int (cs.getD i 0))]))
          refine own_by (fun _ kS => XS.istoreN X157.here hx rfl (hb hby d16_32) rfl (l' := #[.val (.ref r0), .val (.int (Int32.ofNat i)), .val (.int (cs.getD i 0)), .unset]) (by first | rfl | (rcases hO_sl with rfl | ⟨w, rfl, hw⟩ <;> first | rfl | (cases w <;> first | rfl | (simp [Value.category] at hw)))) kS) ?_
          show own_Comes p e below s _ _ _ (T157.setTop (mkF m 33 #[.val (.ref r0), .val (.int (Int32.ofNat i)), .val (.int (cs.getD i 0)), .unset] []))
          refine own_by (fun _ kS => XS.iloadN X157.here hx rfl (hb hby d16_33) rfl kS) ?_
          show own_Comes p e below s _ _ _ (T157.setTop (mkF m 34 #[.val (.ref r0), .val (.int (Int32.ofNat i)), .val (.int (cs.getD i 0)), .unset] [(.int (cs.getD i 0))]))
          refine own_by (fun _ kS => XS.ifYes X157.here hx rfl (pc0 := 34) (pc' := 51) rfl (hb hby d16_34) rfl ((if0 _ _).trans (feq ok1).2) (by decide) (by decide) kS) ?_
          show own_Comes p e below s _ _ _ (T157.setTop (mkF m 51 #[.val (.ref r0), .val (.int (Int32.ofNat i)), .val (.int (cs.getD i 0)), .unset] []))
          refine own_by (fun _ kS => XS.iloadN X157.here hx rfl (hb hby d16_51) rfl kS) ?_
          show own_Comes p e below s _ _ _ (T157.setTop (mkF m 52 #[.val (.ref r0), .val (.int (Int32.ofNat i)), .val (.int (cs.getD i 0)), .unset] [(.int (cs.getD i 0))]))
          refine own_by (fun _ kS => X157.ldcInt hx hown (mvT hZ (hw _ (List.mem_of_getElem? (i := 103) rfl))) (g := (mkF m 52 #[.val (.ref r0), .val (.int (Int32.ofNat i)), .val (.int (cs.getD i 0)), .unset] [(.int (cs.getD i 0))])) rfl (hb hby d16_52) _ kS) ?_
          show own_Comes p e below s _ _ _ (T157.setTop (mkF m 54 #[.val (.ref r0), .val (.int (Int32.ofNat i)), .val (.int (cs.getD i 0)), .unset] [(.int (55296 : Int32)), (.int (cs.getD i 0))]))
          by_cases hsm : (cs.getD i 0) < (55296 : Int32)
          · refine own_by (fun _ kS => XS.icmpYes X157.here hx rfl (pc0 := 54) (pc' := 95) rfl (hb hby d16_54) rfl (tlt hsm).1 (by decide) (by decide) kS) ?_
            show own_Comes p e below s _ _ _ (T157.setTop (mkF m 95 #[.val (.ref r0), .val (.int (Int32.ofNat i)), .val (.int (cs.getD i 0)), .unset] []))
            refine own_by (fun _ kS => XS.aloadN X157.here hx rfl (hb hby d16_95) rfl rfl kS) ?_
            show own_Comes p e below s _ _ _ (T157.setTop (mkF m 96 #[.val (.ref r0), .val (.int (Int32.ofNat i)), .val (.int (cs.getD i 0)), .unset] [(.ref r0)]))
            refine own_by (fun _ kS => XS.iloadN X157.here hx rfl (hb hby d16_96) rfl kS) ?_
            show own_Comes p e below s _ _ _ (T157.setTop (mkF m 97 #[.val (.ref r0), .val (.int (Int32.ofNat i)), .val (.int (cs.getD i 0)), .unset] [(.int (Int32.ofNat i)), (.ref r0)]))
            refine own_by (fun _ kS => XS.iconst X157.here hx rfl (hb hby d16_97) kS) ?_
            show own_Comes p e below s _ _ _ (T157.setTop (mkF m 98 #[.val (.ref r0), .val (.int (Int32.ofNat i)), .val (.int (cs.getD i 0)), .unset] [(.int (1 : Int32)), (.int (Int32.ofNat i)), (.ref r0)]))
            obtain ⟨cq158, kq158, q158a, q158b, q158c⟩ := isOf hZ e157 Eo
            obtain ⟨vv158, _, ⟨T158, L158, k158, n158⟩, -, X158, ⟨Lc158, hQ158, l158, y158, z158⟩, st158⟩ := X157.virtualBack hx (y := (⟨"java/lang/String", "offsetByCodePoints", "(II)I"⟩ : MethodName)) (z := (⟨"java/lang/String", "offsetByCodePoints", "(II)I"⟩ : MethodName)) hown (mvT hZ (hw _ (List.mem_of_getElem? (i := 104) rfl))) (mvT hZ (hw _ (List.mem_of_getElem? (i := 105) rfl))) (notFace_of_selects (args := #[]) (mvT hZ (hw _ (List.mem_of_getElem? (i := 107) rfl)))) (mvT hZ (hw _ (List.mem_of_getElem? (i := 107) rfl))) (mvT hZ (hw _ (List.mem_of_getElem? (i := 106) rfl))) (by decide) (backOf (W := 0) (rm24s l Z a0 hw [] r0 i cs zc fm hJ19 n0 ZJ19 OJ19 Sz hzc Sf i_fm Sd Sh Sl hY hi hs) hZ (hw _ (List.mem_of_getElem? (i := 108) rfl)) (hw _ (List.mem_of_getElem? (i := 10) rfl)) (by decide) (by decide)) q158a q158c (g := (mkF m 98 #[.val (.ref r0), .val (.int (Int32.ofNat i)), .val (.int (cs.getD i 0)), .unset] [(.int (1 : Int32)), (.int (Int32.ofNat i)), (.ref r0)])) rfl (by rw [hml]; rfl) (Steps.refl _) (argsL := [(.int (Int32.ofNat i)), (.int (1 : Int32))]) (rest := []) (lenOf pd__II_I_300 rfl) rfl (by show 2 * 0 + _ ≤ _; exact Nat.le_of_eq rfl) (hb hby d16_98) (fun _ _ => ⟨rfl, e157, (by decide : 0 + 0 ≤ _), (by decide : 0 + 0 ≤ _)⟩)
            dsimp only [Pt.U, Pt.locs, Pt.cells, Pt.slots] at X158 l158 y158 z158 st158 hQ158
            subst l158 y158 z158
            obtain ⟨rfl, N158q, e158q⟩ := hQ158
            have N158 := Fr.app N157 N158q
            refine own_tr st158 ?_
            have e158 : T158.heap = hJ19 := e158q
            show own_Comes p e below s _ _ _ (T158.setTop (mkF m 101 #[.val (.ref r0), .val (.int (Int32.ofNat i)), .val (.int (cs.getD i 0)), .unset] [(.int (Int32.ofNat (i + 1)))]))
            refine own_by (fun _ kS => XS.istoreN X158.here hx rfl (hb hby d16_101) rfl (l' := #[.val (.ref r0), .val (.int (Int32.ofNat (i + 1))), .val (.int (cs.getD i 0)), .unset]) rfl kS) ?_
            show own_Comes p e below s _ _ _ (T158.setTop (mkF m 102 #[.val (.ref r0), .val (.int (Int32.ofNat (i + 1))), .val (.int (cs.getD i 0)), .unset] []))
            refine own_by (fun _ kS => XS.goto X158.here hx rfl (pc0 := 102) (pc' := 19) rfl (hb hby d16_102) (by decide) (by decide) kS) ?_
            show own_Comes p e below s _ _ _ (T158.setTop (mkF m 19 #[.val (.ref r0), .val (.int (Int32.ofNat (i + 1))), .val (.int (cs.getD i 0)), .unset] []))
            exact ih (i + 1) _ _ _ _ (by omega) (Or.inr ⟨_, rfl, rfl⟩) (by omega) (fun hj hk => hs ((hok (i + 1) hj).2.2 hk).2) rfl (X158.more (by decide) (by decide)) e158 N158 OJ19 ZJ19
          · refine own_by (fun _ kS => XS.icmpNo X157.here hx rfl (hb hby d16_54) rfl (flt hsm).1 kS) ?_
            show own_Comes p e below s _ _ _ (T157.setTop (mkF m 57 #[.val (.ref r0), .val (.int (Int32.ofNat i)), .val (.int (cs.getD i 0)), .unset] []))
            refine own_by (fun _ kS => XS.iloadN X157.here hx rfl (hb hby d16_57) rfl kS) ?_
            show own_Comes p e below s _ _ _ (T157.setTop (mkF m 58 #[.val (.ref r0), .val (.int (Int32.ofNat i)), .val (.int (cs.getD i 0)), .unset] [(.int (cs.getD i 0))]))
            refine own_by (fun _ kS => X157.ldcInt hx hown (mvT hZ (hw _ (List.mem_of_getElem? (i := 164) rfl))) (g := (mkF m 58 #[.val (.ref r0), .val (.int (Int32.ofNat i)), .val (.int (cs.getD i 0)), .unset] [(.int (cs.getD i 0))])) rfl (hb hby d16_58) _ kS) ?_
            show own_Comes p e below s _ _ _ (T157.setTop (mkF m 60 #[.val (.ref r0), .val (.int (Int32.ofNat i)), .val (.int (cs.getD i 0)), .unset] [(.int (57343 : Int32)), (.int (cs.getD i 0))]))
            have hb159 : (57343 : Int32) < (cs.getD i 0) := Classical.byContradiction fun q => hst hi ⟨fun z => hs ⟨hsm, z⟩, own_57.mp q⟩
            refine own_by (fun _ kS => XS.icmpYes X157.here hx rfl (pc0 := 60) (pc' := 95) rfl (hb hby d16_60) rfl (tlt hb159).2.2.1 (by decide) (by decide) kS) ?_
            show own_Comes p e below s _ _ _ (T157.setTop (mkF m 95 #[.val (.ref r0), .val (.int (Int32.ofNat i)), .val (.int (cs.getD i 0)), .unset] []))
            refine own_by (fun _ kS => XS.aloadN X157.here hx rfl (hb hby d16_95) rfl rfl kS) ?_
            show own_Comes p e below s _ _ _ (T157.setTop (mkF m 96 #[.val (.ref r0), .val (.int (Int32.ofNat i)), .val (.int (cs.getD i 0)), .unset] [(.ref r0)]))
            refine own_by (fun _ kS => XS.iloadN X157.here hx rfl (hb hby d16_96) rfl kS) ?_
            show own_Comes p e below s _ _ _ (T157.setTop (mkF m 97 #[.val (.ref r0), .val (.int (Int32.ofNat i)), .val (.int (cs.getD i 0)), .unset] [(.int (Int32.ofNat i)), (.ref r0)]))
            refine own_by (fun _ kS => XS.iconst X157.here hx rfl (hb hby d16_97) kS) ?_
            show own_Comes p e below s _ _ _ (T157.setTop (mkF m 98 #[.val (.ref r0), .val (.int (Int32.ofNat i)), .val (.int (cs.getD i 0)), .unset] [(.int (1 : Int32)), (.int (Int32.ofNat i)), (.ref r0)]))
            obtain ⟨cq160, kq160, q160a, q160b, q160c⟩ := isOf hZ e157 Eo
            obtain ⟨vv160, _, ⟨T160, L160, k160, n160⟩, -, X160, ⟨Lc160, hQ160, l160, y160, z160⟩, st160⟩ := X157.virtualBack hx (y := (⟨"java/lang/String", "offsetByCodePoints", "(II)I"⟩ : MethodName)) (z := (⟨"java/lang/String", "offsetByCodePoints", "(II)I"⟩ : MethodName)) hown (mvT hZ (hw _ (List.mem_of_getElem? (i := 104) rfl))) (mvT hZ (hw _ (List.mem_of_getElem? (i := 105) rfl))) (notFace_of_selects (args := #[]) (mvT hZ (hw _ (List.mem_of_getElem? (i := 107) rfl)))) (mvT hZ (hw _ (List.mem_of_getElem? (i := 107) rfl))) (mvT hZ (hw _ (List.mem_of_getElem? (i := 106) rfl))) (by decide) (backOf (W := 0) (rm24s l Z a0 hw [] r0 i cs zc fm hJ19 n0 ZJ19 OJ19 Sz hzc Sf i_fm Sd Sh Sl hY hi hs) hZ (hw _ (List.mem_of_getElem? (i := 108) rfl)) (hw _ (List.mem_of_getElem? (i := 10) rfl)) (by decide) (by decide)) q160a q160c (g := (mkF m 98 #[.val (.ref r0), .val (.int (Int32.ofNat i)), .val (.int (cs.getD i 0)), .unset] [(.int (1 : Int32)), (.int (Int32.ofNat i)), (.ref r0)])) rfl (by rw [hml]; rfl) (Steps.refl _) (argsL := [(.int (Int32.ofNat i)), (.int (1 : Int32))]) (rest := []) (lenOf pd__II_I_300 rfl) rfl (by show 2 * 0 + _ ≤ _; exact Nat.le_of_eq rfl) (hb hby d16_98) (fun _ _ => ⟨rfl, e157, (by decide : 0 + 0 ≤ _), (by decide : 0 + 0 ≤ _)⟩)
            dsimp only [Pt.U, Pt.locs, Pt.cells, Pt.slots] at X160 l160 y160 z160 st160 hQ160
            subst l160 y160 z160
            obtain ⟨rfl, N160q, e160q⟩ := hQ160
            have N160 := Fr.app N157 N160q
            refine own_tr st160 ?_
            have e160 : T160.heap = hJ19 := e160q
            show own_Comes p e below s _ _ _ (T160.setTop (mkF m 101 #[.val (.ref r0), .val (.int (Int32.ofNat i)), .val (.int (cs.getD i 0)), .unset] [(.int (Int32.ofNat (i + 1)))]))
            refine own_by (fun _ kS => XS.istoreN X160.here hx rfl (hb hby d16_101) rfl (l' := #[.val (.ref r0), .val (.int (Int32.ofNat (i + 1))), .val (.int (cs.getD i 0)), .unset]) rfl kS) ?_
            show own_Comes p e below s _ _ _ (T160.setTop (mkF m 102 #[.val (.ref r0), .val (.int (Int32.ofNat (i + 1))), .val (.int (cs.getD i 0)), .unset] []))
            refine own_by (fun _ kS => XS.goto X160.here hx rfl (pc0 := 102) (pc' := 19) rfl (hb hby d16_102) (by decide) (by decide) kS) ?_
            show own_Comes p e below s _ _ _ (T160.setTop (mkF m 19 #[.val (.ref r0), .val (.int (Int32.ofNat (i + 1))), .val (.int (cs.getD i 0)), .unset] []))
            exact ih (i + 1) _ _ _ _ (by omega) (Or.inr ⟨_, rfl, rfl⟩) (by omega) (fun hj hk => hs ((hok (i + 1) hj).2.2 hk).2) rfl (X160.more (by decide) (by decide)) e160 N160 OJ19 ZJ19
      · have hb161 : ¬ ((Int32.ofNat i) < (Int32.ofNat cs.length)) := fun q => hi ((own_lt (by omega) (by omega)).mp q)
        refine own_by (fun _ kS => XS.icmpYes X153.here hx rfl (pc0 := 24) (pc' := 105) rfl (hb hby d16_24) rfl (flt hb161).2.1 (by decide) (by decide) kS) ?_
        show own_Comes p e below s _ _ _ (T153.setTop (mkF m 105 #[.val (.ref r0), .val (.int (Int32.ofNat i)), sl, .unset] []))
        refine own_by (fun _ kS => XS.aloadN X153.here hx rfl (hb hby d16_105) rfl rfl kS) ?_
        show own_Comes p e below s _ _ _ (T153.setTop (mkF m 106 #[.val (.ref r0), .val (.int (Int32.ofNat i)), sl, .unset] [(.ref r0)]))
        refine own_ret X153 (v := some (.ref r0)) (fun h => by rw [Bd.returns] at h; cases h) Bd.notSynchronized (by decide) (by decide) ?_ (fun fs hr => own_reta X153 hx Bd.returns rfl rfl (hb hby d16_106) hr)
        rw [e153]; exact ⟨rfl, N153, rfl⟩
  exact J19 (cs.length + 1) 0 _ _ _ _ (by omega) (Or.inl rfl) (by omega) (fun h q => absurd ((hok 0 h).2.2 q).1 (by omega)) rfl (X151.more (by decide) (by decide)) e151 N151 O0 Z0
def Q1 (Z : State)  (h0 : Heap) (n0 : Nat) (v : Option Value) (h : Heap) (L : List Loc) : Prop := ∃ z : Int32, v = some (.int z) ∧ Fr n0 L ∧ h = h0 ∧ ¬ z < 0 ∧ ¬ (65535 : Int32) < z
theorem ef_rm1 (m : MethodId) (x0 : Int32) : entryFrame m #[(.int x0)] 3 = mkF m 0 #[.val (.int x0), .unset, .unset] [] := by first | (simp [entryFrame, mkF, argsToLocals, Value.category]; done) | rfl
theorem d1_0 : decode method_3_code 0 = .ok (.iload_n 0, 1) := by decide +kernel
theorem d1_1 : decode method_3_code 1 = .ok (.iconst 3, 1) := by decide +kernel
theorem d1_2 : decode method_3_code 2 = .ok (.iand, 1) := by decide +kernel
theorem d1_3 : decode method_3_code 3 = .ok (.istore_n 1, 1) := by decide +kernel
theorem d1_4 : decode method_3_code 4 = .ok (.iload_n 0, 1) := by decide +kernel
theorem d1_5 : decode method_3_code 5 = .ok (.iconst 2, 1) := by decide +kernel
theorem d1_6 : decode method_3_code 6 = .ok (.iushr, 1) := by decide +kernel
theorem d1_7 : decode method_3_code 7 = .ok (.istore_n 2, 1) := by decide +kernel
theorem d1_8 : decode method_3_code 8 = .ok (.iload_n 1, 1) := by decide +kernel
theorem d1_9 : decode method_3_code 9 = .ok (.ifCond .ne 13, 3) := by decide +kernel
theorem d1_12 : decode method_3_code 12 = .ok (.ldc 28, 2) := by decide +kernel
theorem d1_14 : decode method_3_code 14 = .ok (.iload_n 2, 1) := by decide +kernel
theorem d1_15 : decode method_3_code 15 = .ok (.sipush 1023, 3) := by decide +kernel
theorem d1_18 : decode method_3_code 18 = .ok (.iand, 1) := by decide +kernel
theorem d1_19 : decode method_3_code 19 = .ok (.iadd, 1) := by decide +kernel
theorem d1_20 : decode method_3_code 20 = .ok (.i2c, 1) := by decide +kernel
theorem d1_21 : decode method_3_code 21 = .ok (.ireturn, 1) := by decide +kernel
theorem d1_22 : decode method_3_code 22 = .ok (.iload_n 1, 1) := by decide +kernel
theorem d1_23 : decode method_3_code 23 = .ok (.iconst 1, 1) := by decide +kernel
theorem d1_24 : decode method_3_code 24 = .ok (.if_icmp .ne 13, 3) := by decide +kernel
theorem d1_27 : decode method_3_code 27 = .ok (.ldc 29, 2) := by decide +kernel
theorem d1_29 : decode method_3_code 29 = .ok (.iload_n 2, 1) := by decide +kernel
theorem d1_30 : decode method_3_code 30 = .ok (.sipush 1023, 3) := by decide +kernel
theorem d1_33 : decode method_3_code 33 = .ok (.iand, 1) := by decide +kernel
theorem d1_34 : decode method_3_code 34 = .ok (.iadd, 1) := by decide +kernel
theorem d1_35 : decode method_3_code 35 = .ok (.i2c, 1) := by decide +kernel
theorem d1_36 : decode method_3_code 36 = .ok (.ireturn, 1) := by decide +kernel
theorem d1_37 : decode method_3_code 37 = .ok (.iload_n 1, 1) := by decide +kernel
theorem d1_38 : decode method_3_code 38 = .ok (.iconst 2, 1) := by decide +kernel
theorem d1_39 : decode method_3_code 39 = .ok (.if_icmp .ne 9, 3) := by decide +kernel
theorem d1_42 : decode method_3_code 42 = .ok (.iload_n 2, 1) := by decide +kernel
theorem d1_43 : decode method_3_code 43 = .ok (.ldc 30, 2) := by decide +kernel
theorem d1_45 : decode method_3_code 45 = .ok (.iand, 1) := by decide +kernel
theorem d1_46 : decode method_3_code 46 = .ok (.i2c, 1) := by decide +kernel
theorem d1_47 : decode method_3_code 47 = .ok (.ireturn, 1) := by decide +kernel
theorem d1_48 : decode method_3_code 48 = .ok (.iload_n 2, 1) := by decide +kernel
theorem d1_49 : decode method_3_code 49 = .ok (.sipush 255, 3) := by decide +kernel
theorem d1_52 : decode method_3_code 52 = .ok (.iand, 1) := by decide +kernel
theorem d1_53 : decode method_3_code 53 = .ok (.i2c, 1) := by decide +kernel
theorem d1_54 : decode method_3_code 54 = .ok (.ireturn, 1) := by decide +kernel
set_option maxRecDepth 65536 in
set_option maxHeartbeats 40000000 in
theorem rm1 (l : Launch) (Z : State) (a0 : Array Value) (hw : ∀ d ∈ tables_1, d.before a0 Z = true) (ws : List Jvm.Cond) (p0 : Int32) (h0 : Heap) (n0 : Nat) (Z0 : n0 ≤ h0.size) :
    MetFree l (⟨"com/example/holdfast/holdfast/spi/LockArgumentsRequireNamePinLaw", "draw", "(I)C"⟩ : MethodName) (head1 (Jvm.Cond.code (⟨"com/example/holdfast/holdfast/spi/LockArgumentsRequireNamePinLaw", "draw", "(I)C"⟩ : MethodName) method_3_code 3 (some .char) :: ws) ({ frames := 0, cells := 0, slots := 0, locals := 0 } : Room)) (fun aX UX => aX = #[(.int p0)] ∧ Z.Warmed39 UX.vm ∧ UX.heap = h0) (fun _ _ _ _ _ => True) (fun _ UX oX UX' => ∃ vX LX, oX = .returned vX ∧ Q1 Z  h0 n0 vX UX'.heap LX ∧ FrameEnd UX oX UX' LX ({ frames := 0, cells := 0, slots := 0, locals := 0 } : Room).cells ({ frames := 0, cells := 0, slots := 0, locals := 0 } : Room).slots) := by
  refine MetFree.of_bodySF (plainFor_of_name pn_com_example_holdfast_holdfast_spi_LockArgumentsRequireNamePinLaw) hisR ?_
  intro p e s m args below meth c s₁ Bd hml0 hP hK
  obtain ⟨rfl, hZ, hh⟩ := hP
  have hx := Bd.exec
  have hby := Bd.bytes
  have hml : c.maxLocals = 3 := hml0
  have hown : s.vm.findClass "com/example/holdfast/holdfast/spi/LockArgumentsRequireNamePinLaw" = some m.cls := findClass_of_methodNamed Bd.named
  have hnm := (name_of_methodNamed Bd.named Bd.method).1
  have X0 : Stand p l e ({ frames := 0, cells := 0, slots := 0, locals := 0 } : Room) s m #[(.int p0)] below meth c s₁ [] 0 0 := Stand.of_body Bd
  have e0 : s₁.heap = h0 := by rw [← hh, Bd.state]; rfl
  have N0 := Fr.nil n0
  show own_Comes p e below s ({ frames := 0, cells := 0, slots := 0, locals := 0 } : Room).cells ({ frames := 0, cells := 0, slots := 0, locals := 0 } : Room).slots (Q1 Z  h0 n0) _
  rw [show entryFrame m #[(.int p0)] 3 = mkF m 0 #[.val (.int p0), .unset, .unset] [] from ef_rm1 m p0]
  show own_Comes p e below s _ _ _ (s₁.setTop (mkF m 0 #[.val (.int p0), .unset, .unset] []))
  refine own_by (fun _ kS => XS.iloadN X0.here hx rfl (hb hby d1_0) rfl kS) ?_
  show own_Comes p e below s _ _ _ (s₁.setTop (mkF m 1 #[.val (.int p0), .unset, .unset] [(.int p0)]))
  refine own_by (fun _ kS => XS.iconst X0.here hx rfl (hb hby d1_1) kS) ?_
  show own_Comes p e below s _ _ _ (s₁.setTop (mkF m 2 #[.val (.int p0), .unset, .unset] [(.int (3 : Int32)), (.int p0)]))
  refine own_by (fun _ kS => XS.iand X0.here hx rfl (hb hby d1_2) rfl kS) ?_
  show own_Comes p e below s _ _ _ (s₁.setTop (mkF m 3 #[.val (.int p0), .unset, .unset] [(.int (p0 &&& (3 : Int32)))]))
  refine own_by (fun _ kS => XS.istoreN X0.here hx rfl (hb hby d1_3) rfl (l' := #[.val (.int p0), .val (.int (p0 &&& (3 : Int32))), .unset]) rfl kS) ?_
  show own_Comes p e below s _ _ _ (s₁.setTop (mkF m 4 #[.val (.int p0), .val (.int (p0 &&& (3 : Int32))), .unset] []))
  refine own_by (fun _ kS => XS.iloadN X0.here hx rfl (hb hby d1_4) rfl kS) ?_
  show own_Comes p e below s _ _ _ (s₁.setTop (mkF m 5 #[.val (.int p0), .val (.int (p0 &&& (3 : Int32))), .unset] [(.int p0)]))
  refine own_by (fun _ kS => XS.iconst X0.here hx rfl (hb hby d1_5) kS) ?_
  show own_Comes p e below s _ _ _ (s₁.setTop (mkF m 6 #[.val (.int p0), .val (.int (p0 &&& (3 : Int32))), .unset] [(.int (2 : Int32)), (.int p0)]))
  refine own_by (fun _ kS => XS.iushr X0.here hx rfl (hb hby d1_6) rfl kS) ?_
  show own_Comes p e below s _ _ _ (s₁.setTop (mkF m 7 #[.val (.int p0), .val (.int (p0 &&& (3 : Int32))), .unset] [(.int ((p0.toUInt32 >>> ((2 : Int32) &&& 31).toUInt32).toInt32))]))
  refine own_by (fun _ kS => XS.istoreN X0.here hx rfl (hb hby d1_7) rfl (l' := #[.val (.int p0), .val (.int (p0 &&& (3 : Int32))), .val (.int ((p0.toUInt32 >>> ((2 : Int32) &&& 31).toUInt32).toInt32))]) rfl kS) ?_
  show own_Comes p e below s _ _ _ (s₁.setTop (mkF m 8 #[.val (.int p0), .val (.int (p0 &&& (3 : Int32))), .val (.int ((p0.toUInt32 >>> ((2 : Int32) &&& 31).toUInt32).toInt32))] []))
  refine own_by (fun _ kS => XS.iloadN X0.here hx rfl (hb hby d1_8) rfl kS) ?_
  show own_Comes p e below s _ _ _ (s₁.setTop (mkF m 9 #[.val (.int p0), .val (.int (p0 &&& (3 : Int32))), .val (.int ((p0.toUInt32 >>> ((2 : Int32) &&& 31).toUInt32).toInt32))] [(.int (p0 &&& (3 : Int32)))]))
  by_cases h1 : (p0 &&& (3 : Int32)) = (0 : Int32)
  · refine own_by (fun _ kS => XS.ifNo X0.here hx rfl (hb hby d1_9) rfl ((if0 _ _).trans (teq h1).2) kS) ?_
    show own_Comes p e below s _ _ _ (s₁.setTop (mkF m 12 #[.val (.int p0), .val (.int (p0 &&& (3 : Int32))), .val (.int ((p0.toUInt32 >>> ((2 : Int32) &&& 31).toUInt32).toInt32))] []))
    refine own_by (fun _ kS => X0.ldcInt hx hown (mvT hZ (hw _ (List.mem_of_getElem? (i := 6) rfl))) (g := (mkF m 12 #[.val (.int p0), .val (.int (p0 &&& (3 : Int32))), .val (.int ((p0.toUInt32 >>> ((2 : Int32) &&& 31).toUInt32).toInt32))] [])) rfl (hb hby d1_12) _ kS) ?_
    show own_Comes p e below s _ _ _ (s₁.setTop (mkF m 14 #[.val (.int p0), .val (.int (p0 &&& (3 : Int32))), .val (.int ((p0.toUInt32 >>> ((2 : Int32) &&& 31).toUInt32).toInt32))] [(.int (55296 : Int32))]))
    refine own_by (fun _ kS => XS.iloadN X0.here hx rfl (hb hby d1_14) rfl kS) ?_
    show own_Comes p e below s _ _ _ (s₁.setTop (mkF m 15 #[.val (.int p0), .val (.int (p0 &&& (3 : Int32))), .val (.int ((p0.toUInt32 >>> ((2 : Int32) &&& 31).toUInt32).toInt32))] [(.int ((p0.toUInt32 >>> ((2 : Int32) &&& 31).toUInt32).toInt32)), (.int (55296 : Int32))]))
    refine own_by (fun _ kS => XS.sipush X0.here hx rfl (hb hby d1_15) kS) ?_
    show own_Comes p e below s _ _ _ (s₁.setTop (mkF m 18 #[.val (.int p0), .val (.int (p0 &&& (3 : Int32))), .val (.int ((p0.toUInt32 >>> ((2 : Int32) &&& 31).toUInt32).toInt32))] [(.int (1023 : Int32)), (.int ((p0.toUInt32 >>> ((2 : Int32) &&& 31).toUInt32).toInt32)), (.int (55296 : Int32))]))
    refine own_by (fun _ kS => XS.iand X0.here hx rfl (hb hby d1_18) rfl kS) ?_
    show own_Comes p e below s _ _ _ (s₁.setTop (mkF m 19 #[.val (.int p0), .val (.int (p0 &&& (3 : Int32))), .val (.int ((p0.toUInt32 >>> ((2 : Int32) &&& 31).toUInt32).toInt32))] [(.int (((p0.toUInt32 >>> ((2 : Int32) &&& 31).toUInt32).toInt32) &&& (1023 : Int32))), (.int (55296 : Int32))]))
    refine own_by (fun _ kS => XS.iadd X0.here hx rfl (hb hby d1_19) rfl kS) ?_
    show own_Comes p e below s _ _ _ (s₁.setTop (mkF m 20 #[.val (.int p0), .val (.int (p0 &&& (3 : Int32))), .val (.int ((p0.toUInt32 >>> ((2 : Int32) &&& 31).toUInt32).toInt32))] [(.int ((55296 : Int32) + (((p0.toUInt32 >>> ((2 : Int32) &&& 31).toUInt32).toInt32) &&& (1023 : Int32))))]))
    refine own_by (fun _ kS => XS.i2c X0.here hx rfl (hb hby d1_20) rfl kS) ?_
    show own_Comes p e below s _ _ _ (s₁.setTop (mkF m 21 #[.val (.int p0), .val (.int (p0 &&& (3 : Int32))), .val (.int ((p0.toUInt32 >>> ((2 : Int32) &&& 31).toUInt32).toInt32))] [(.int (((55296 : Int32) + (((p0.toUInt32 >>> ((2 : Int32) &&& 31).toUInt32).toInt32) &&& (1023 : Int32))).toUInt32.toUInt16.toUInt32.toInt32))]))
    refine own_ret X0 (v := some (.int (nar .char (((55296 : Int32) + (((p0.toUInt32 >>> ((2 : Int32) &&& 31).toUInt32).toInt32) &&& (1023 : Int32))).toUInt32.toUInt16.toUInt32.toInt32)))) (fun h => by rw [Bd.returns] at h; cases h) Bd.notSynchronized (by decide) (by decide) ?_ (fun fs hr => retN X0 hx (t := .char) Bd.returns (by simp) (hb hby d1_21) hr)
    rw [e0]; exact ⟨_, rfl, N0, rfl, (own_nch _).1, (own_nch _).2⟩
  · refine own_by (fun _ kS => XS.ifYes X0.here hx rfl (pc0 := 9) (pc' := 22) rfl (hb hby d1_9) rfl ((if0 _ _).trans (feq h1).2) (by decide) (by decide) kS) ?_
    show own_Comes p e below s _ _ _ (s₁.setTop (mkF m 22 #[.val (.int p0), .val (.int (p0 &&& (3 : Int32))), .val (.int ((p0.toUInt32 >>> ((2 : Int32) &&& 31).toUInt32).toInt32))] []))
    refine own_by (fun _ kS => XS.iloadN X0.here hx rfl (hb hby d1_22) rfl kS) ?_
    show own_Comes p e below s _ _ _ (s₁.setTop (mkF m 23 #[.val (.int p0), .val (.int (p0 &&& (3 : Int32))), .val (.int ((p0.toUInt32 >>> ((2 : Int32) &&& 31).toUInt32).toInt32))] [(.int (p0 &&& (3 : Int32)))]))
    refine own_by (fun _ kS => XS.iconst X0.here hx rfl (hb hby d1_23) kS) ?_
    show own_Comes p e below s _ _ _ (s₁.setTop (mkF m 24 #[.val (.int p0), .val (.int (p0 &&& (3 : Int32))), .val (.int ((p0.toUInt32 >>> ((2 : Int32) &&& 31).toUInt32).toInt32))] [(.int (1 : Int32)), (.int (p0 &&& (3 : Int32)))]))
    by_cases h2 : (p0 &&& (3 : Int32)) = (1 : Int32)
    · refine own_by (fun _ kS => XS.icmpNo X0.here hx rfl (hb hby d1_24) rfl (teq h2).2 kS) ?_
      show own_Comes p e below s _ _ _ (s₁.setTop (mkF m 27 #[.val (.int p0), .val (.int (p0 &&& (3 : Int32))), .val (.int ((p0.toUInt32 >>> ((2 : Int32) &&& 31).toUInt32).toInt32))] []))
      refine own_by (fun _ kS => X0.ldcInt hx hown (mvT hZ (hw _ (List.mem_of_getElem? (i := 5) rfl))) (g := (mkF m 27 #[.val (.int p0), .val (.int (p0 &&& (3 : Int32))), .val (.int ((p0.toUInt32 >>> ((2 : Int32) &&& 31).toUInt32).toInt32))] [])) rfl (hb hby d1_27) _ kS) ?_
      show own_Comes p e below s _ _ _ (s₁.setTop (mkF m 29 #[.val (.int p0), .val (.int (p0 &&& (3 : Int32))), .val (.int ((p0.toUInt32 >>> ((2 : Int32) &&& 31).toUInt32).toInt32))] [(.int (56320 : Int32))]))
      refine own_by (fun _ kS => XS.iloadN X0.here hx rfl (hb hby d1_29) rfl kS) ?_
      show own_Comes p e below s _ _ _ (s₁.setTop (mkF m 30 #[.val (.int p0), .val (.int (p0 &&& (3 : Int32))), .val (.int ((p0.toUInt32 >>> ((2 : Int32) &&& 31).toUInt32).toInt32))] [(.int ((p0.toUInt32 >>> ((2 : Int32) &&& 31).toUInt32).toInt32)), (.int (56320 : Int32))]))
      refine own_by (fun _ kS => XS.sipush X0.here hx rfl (hb hby d1_30) kS) ?_
      show own_Comes p e below s _ _ _ (s₁.setTop (mkF m 33 #[.val (.int p0), .val (.int (p0 &&& (3 : Int32))), .val (.int ((p0.toUInt32 >>> ((2 : Int32) &&& 31).toUInt32).toInt32))] [(.int (1023 : Int32)), (.int ((p0.toUInt32 >>> ((2 : Int32) &&& 31).toUInt32).toInt32)), (.int (56320 : Int32))]))
      refine own_by (fun _ kS => XS.iand X0.here hx rfl (hb hby d1_33) rfl kS) ?_
      show own_Comes p e below s _ _ _ (s₁.setTop (mkF m 34 #[.val (.int p0), .val (.int (p0 &&& (3 : Int32))), .val (.int ((p0.toUInt32 >>> ((2 : Int32) &&& 31).toUInt32).toInt32))] [(.int (((p0.toUInt32 >>> ((2 : Int32) &&& 31).toUInt32).toInt32) &&& (1023 : Int32))), (.int (56320 : Int32))]))
      refine own_by (fun _ kS => XS.iadd X0.here hx rfl (hb hby d1_34) rfl kS) ?_
      show own_Comes p e below s _ _ _ (s₁.setTop (mkF m 35 #[.val (.int p0), .val (.int (p0 &&& (3 : Int32))), .val (.int ((p0.toUInt32 >>> ((2 : Int32) &&& 31).toUInt32).toInt32))] [(.int ((56320 : Int32) + (((p0.toUInt32 >>> ((2 : Int32) &&& 31).toUInt32).toInt32) &&& (1023 : Int32))))]))
      refine own_by (fun _ kS => XS.i2c X0.here hx rfl (hb hby d1_35) rfl kS) ?_
      show own_Comes p e below s _ _ _ (s₁.setTop (mkF m 36 #[.val (.int p0), .val (.int (p0 &&& (3 : Int32))), .val (.int ((p0.toUInt32 >>> ((2 : Int32) &&& 31).toUInt32).toInt32))] [(.int (((56320 : Int32) + (((p0.toUInt32 >>> ((2 : Int32) &&& 31).toUInt32).toInt32) &&& (1023 : Int32))).toUInt32.toUInt16.toUInt32.toInt32))]))
      refine own_ret X0 (v := some (.int (nar .char (((56320 : Int32) + (((p0.toUInt32 >>> ((2 : Int32) &&& 31).toUInt32).toInt32) &&& (1023 : Int32))).toUInt32.toUInt16.toUInt32.toInt32)))) (fun h => by rw [Bd.returns] at h; cases h) Bd.notSynchronized (by decide) (by decide) ?_ (fun fs hr => retN X0 hx (t := .char) Bd.returns (by simp) (hb hby d1_36) hr)
      rw [e0]; exact ⟨_, rfl, N0, rfl, (own_nch _).1, (own_nch _).2⟩
    · refine own_by (fun _ kS => XS.icmpYes X0.here hx rfl (pc0 := 24) (pc' := 37) rfl (hb hby d1_24) rfl (feq h2).2 (by decide) (by decide) kS) ?_
      show own_Comes p e below s _ _ _ (s₁.setTop (mkF m 37 #[.val (.int p0), .val (.int (p0 &&& (3 : Int32))), .val (.int ((p0.toUInt32 >>> ((2 : Int32) &&& 31).toUInt32).toInt32))] []))
      refine own_by (fun _ kS => XS.iloadN X0.here hx rfl (hb hby d1_37) rfl kS) ?_
      show own_Comes p e below s _ _ _ (s₁.setTop (mkF m 38 #[.val (.int p0), .val (.int (p0 &&& (3 : Int32))), .val (.int ((p0.toUInt32 >>> ((2 : Int32) &&& 31).toUInt32).toInt32))] [(.int (p0 &&& (3 : Int32)))]))
      refine own_by (fun _ kS => XS.iconst X0.here hx rfl (hb hby d1_38) kS) ?_
      show own_Comes p e below s _ _ _ (s₁.setTop (mkF m 39 #[.val (.int p0), .val (.int (p0 &&& (3 : Int32))), .val (.int ((p0.toUInt32 >>> ((2 : Int32) &&& 31).toUInt32).toInt32))] [(.int (2 : Int32)), (.int (p0 &&& (3 : Int32)))]))
      by_cases h3 : (p0 &&& (3 : Int32)) = (2 : Int32)
      · refine own_by (fun _ kS => XS.icmpNo X0.here hx rfl (hb hby d1_39) rfl (teq h3).2 kS) ?_
        show own_Comes p e below s _ _ _ (s₁.setTop (mkF m 42 #[.val (.int p0), .val (.int (p0 &&& (3 : Int32))), .val (.int ((p0.toUInt32 >>> ((2 : Int32) &&& 31).toUInt32).toInt32))] []))
        refine own_by (fun _ kS => XS.iloadN X0.here hx rfl (hb hby d1_42) rfl kS) ?_
        show own_Comes p e below s _ _ _ (s₁.setTop (mkF m 43 #[.val (.int p0), .val (.int (p0 &&& (3 : Int32))), .val (.int ((p0.toUInt32 >>> ((2 : Int32) &&& 31).toUInt32).toInt32))] [(.int ((p0.toUInt32 >>> ((2 : Int32) &&& 31).toUInt32).toInt32))]))
        refine own_by (fun _ kS => X0.ldcInt hx hown (mvT hZ (hw _ (List.mem_of_getElem? (i := 4) rfl))) (g := (mkF m 43 #[.val (.int p0), .val (.int (p0 &&& (3 : Int32))), .val (.int ((p0.toUInt32 >>> ((2 : Int32) &&& 31).toUInt32).toInt32))] [(.int ((p0.toUInt32 >>> ((2 : Int32) &&& 31).toUInt32).toInt32))])) rfl (hb hby d1_43) _ kS) ?_
        show own_Comes p e below s _ _ _ (s₁.setTop (mkF m 45 #[.val (.int p0), .val (.int (p0 &&& (3 : Int32))), .val (.int ((p0.toUInt32 >>> ((2 : Int32) &&& 31).toUInt32).toInt32))] [(.int (65535 : Int32)), (.int ((p0.toUInt32 >>> ((2 : Int32) &&& 31).toUInt32).toInt32))]))
        refine own_by (fun _ kS => XS.iand X0.here hx rfl (hb hby d1_45) rfl kS) ?_
        show own_Comes p e below s _ _ _ (s₁.setTop (mkF m 46 #[.val (.int p0), .val (.int (p0 &&& (3 : Int32))), .val (.int ((p0.toUInt32 >>> ((2 : Int32) &&& 31).toUInt32).toInt32))] [(.int (((p0.toUInt32 >>> ((2 : Int32) &&& 31).toUInt32).toInt32) &&& (65535 : Int32)))]))
        refine own_by (fun _ kS => XS.i2c X0.here hx rfl (hb hby d1_46) rfl kS) ?_
        show own_Comes p e below s _ _ _ (s₁.setTop (mkF m 47 #[.val (.int p0), .val (.int (p0 &&& (3 : Int32))), .val (.int ((p0.toUInt32 >>> ((2 : Int32) &&& 31).toUInt32).toInt32))] [(.int ((((p0.toUInt32 >>> ((2 : Int32) &&& 31).toUInt32).toInt32) &&& (65535 : Int32)).toUInt32.toUInt16.toUInt32.toInt32))]))
        refine own_ret X0 (v := some (.int (nar .char ((((p0.toUInt32 >>> ((2 : Int32) &&& 31).toUInt32).toInt32) &&& (65535 : Int32)).toUInt32.toUInt16.toUInt32.toInt32)))) (fun h => by rw [Bd.returns] at h; cases h) Bd.notSynchronized (by decide) (by decide) ?_ (fun fs hr => retN X0 hx (t := .char) Bd.returns (by simp) (hb hby d1_47) hr)
        rw [e0]; exact ⟨_, rfl, N0, rfl, (own_nch _).1, (own_nch _).2⟩
      · refine own_by (fun _ kS => XS.icmpYes X0.here hx rfl (pc0 := 39) (pc' := 48) rfl (hb hby d1_39) rfl (feq h3).2 (by decide) (by decide) kS) ?_
        show own_Comes p e below s _ _ _ (s₁.setTop (mkF m 48 #[.val (.int p0), .val (.int (p0 &&& (3 : Int32))), .val (.int ((p0.toUInt32 >>> ((2 : Int32) &&& 31).toUInt32).toInt32))] []))
        refine own_by (fun _ kS => XS.iloadN X0.here hx rfl (hb hby d1_48) rfl kS) ?_
        show own_Comes p e below s _ _ _ (s₁.setTop (mkF m 49 #[.val (.int p0), .val (.int (p0 &&& (3 : Int32))), .val (.int ((p0.toUInt32 >>> ((2 : Int32) &&& 31).toUInt32).toInt32))] [(.int ((p0.toUInt32 >>> ((2 : Int32) &&& 31).toUInt32).toInt32))]))
        refine own_by (fun _ kS => XS.sipush X0.here hx rfl (hb hby d1_49) kS) ?_
        show own_Comes p e below s _ _ _ (s₁.setTop (mkF m 52 #[.val (.int p0), .val (.int (p0 &&& (3 : Int32))), .val (.int ((p0.toUInt32 >>> ((2 : Int32) &&& 31).toUInt32).toInt32))] [(.int (255 : Int32)), (.int ((p0.toUInt32 >>> ((2 : Int32) &&& 31).toUInt32).toInt32))]))
        refine own_by (fun _ kS => XS.iand X0.here hx rfl (hb hby d1_52) rfl kS) ?_
        show own_Comes p e below s _ _ _ (s₁.setTop (mkF m 53 #[.val (.int p0), .val (.int (p0 &&& (3 : Int32))), .val (.int ((p0.toUInt32 >>> ((2 : Int32) &&& 31).toUInt32).toInt32))] [(.int (((p0.toUInt32 >>> ((2 : Int32) &&& 31).toUInt32).toInt32) &&& (255 : Int32)))]))
        refine own_by (fun _ kS => XS.i2c X0.here hx rfl (hb hby d1_53) rfl kS) ?_
        show own_Comes p e below s _ _ _ (s₁.setTop (mkF m 54 #[.val (.int p0), .val (.int (p0 &&& (3 : Int32))), .val (.int ((p0.toUInt32 >>> ((2 : Int32) &&& 31).toUInt32).toInt32))] [(.int ((((p0.toUInt32 >>> ((2 : Int32) &&& 31).toUInt32).toInt32) &&& (255 : Int32)).toUInt32.toUInt16.toUInt32.toInt32))]))
        refine own_ret X0 (v := some (.int (nar .char ((((p0.toUInt32 >>> ((2 : Int32) &&& 31).toUInt32).toInt32) &&& (255 : Int32)).toUInt32.toUInt16.toUInt32.toInt32)))) (fun h => by rw [Bd.returns] at h; cases h) Bd.notSynchronized (by decide) (by decide) ?_ (fun fs hr => retN X0 hx (t := .char) Bd.returns (by simp) (hb hby d1_54) hr)
        rw [e0]; exact ⟨_, rfl, N0, rfl, (own_nch _).1, (own_nch _).2⟩
def Q0 (Z : State) (h0 : Heap) (n0 : Nat) (v : Option Value) (h : Heap) (L : List Loc) : Prop := v = some (.int (1 : Int32)) ∧ Fr n0 L
theorem ef_rm0 (m : MethodId) (x0 : Int32) (x1 : Int32) (x2 : Int32) (x3 : Int32) (x4 : Int32) : entryFrame m #[(.int x0), (.int x1), (.int x2), (.int x3), (.int x4)] maxLocals = mkF m 0 #[.val (.int x0), .val (.int x1), .val (.int x2), .val (.int x3), .val (.int x4), .unset, .unset, .unset, .unset, .unset, .unset, .unset, .unset, .unset] [] := by first | (simp [entryFrame, mkF, argsToLocals, Value.category, maxLocals]; done) | rfl
theorem pd___CI_Z_402 : parseMethodDescriptor "([CI)Z" = some ⟨[(.array .char), .int], some .boolean⟩ := by decide +kernel
theorem pd__Ljava_lang_String__Ljava_lang_String__482 : parseMethodDescriptor "(Ljava/lang/String;)Ljava/lang/String;" = some ⟨[(.object "java/lang/String")], some (.object "java/lang/String")⟩ := by decide +kernel
theorem pd___C_V_325 : parseMethodDescriptor "([C)V" = some ⟨[(.array .char)], none⟩ := by decide +kernel
set_option maxRecDepth 65536 in
set_option maxHeartbeats 40000000 in
theorem rm0 (l : Launch) (Z : State) (a0 : Array Value) (hw : ∀ d ∈ tables_1, d.before a0 Z = true) (ws : List Jvm.Cond) (p0 p1 p2 p3 p4 zc : Int32) (fm : Value) (h0 : Heap) (n0 : Nat) (Z0 : n0 ≤ h0.size) (O0 : Old Z n0 h0) (Sz : Sta Z Z.heap "java/lang/String" "COMPACT_STRINGS" "Z" (.int zc)) (hzc : ¬ zc = 0) (Sf : Sta Z Z.heap "jdk/internal/util/Preconditions" "SIOOBE_FORMATTER" "Ljava/util/function/BiFunction;" fm) (i_fm : fm.isRef = true) (Sd : Sta Z Z.heap "java/lang/StringUTF16" "$assertionsDisabled" "Z" (.int (1 : Int32))) (Sh : Sta Z Z.heap "java/lang/StringUTF16" "HI_BYTE_SHIFT" "I" (.int (0 : Int32))) (Sl : Sta Z Z.heap "java/lang/StringUTF16" "LO_BYTE_SHIFT" "I" (.int (8 : Int32))) :
    MetFree l x (head1 (Jvm.Cond.code x code maxLocals ret :: ws) room_1) (fun aX UX => aX = #[(.int p0), (.int p1), (.int p2), (.int p3), (.int p4)] ∧ Z.Warmed39 UX.vm ∧ UX.heap = h0) (fun _ _ _ _ _ => True) (fun _ UX oX UX' => ∃ vX LX, oX = .returned vX ∧ Q0 Z  h0 n0 vX UX'.heap LX ∧ FrameEnd UX oX UX' LX room_1.cells room_1.slots) := by
  refine MetFree.of_bodySF (plainFor_of_name pn_com_example_holdfast_holdfast_spi_LockArgumentsRequireNamePinLaw) hisR ?_
  intro p e s m args below meth c s₁ Bd hml0 hP hK
  obtain ⟨rfl, hZ, hh⟩ := hP
  have hx := Bd.exec
  have hby := Bd.bytes
  have hml : c.maxLocals = 14 := hml0
  have hown : s.vm.findClass "com/example/holdfast/holdfast/spi/LockArgumentsRequireNamePinLaw" = some m.cls := findClass_of_methodNamed Bd.named
  have hnm := (name_of_methodNamed Bd.named Bd.method).1
  have X0 : Stand p l e room_1 s m #[(.int p0), (.int p1), (.int p2), (.int p3), (.int p4)] below meth c s₁ [] 0 0 := Stand.of_body Bd
  have e0 : s₁.heap = h0 := by rw [← hh, Bd.state]; rfl
  have N0 := Fr.nil n0
  show own_Comes p e below s room_1.cells room_1.slots (Q0 Z  h0 n0) _
  rw [show entryFrame m #[(.int p0), (.int p1), (.int p2), (.int p3), (.int p4)] maxLocals = mkF m 0 #[.val (.int p0), .val (.int p1), .val (.int p2), .val (.int p3), .val (.int p4), .unset, .unset, .unset, .unset, .unset, .unset, .unset, .unset, .unset] [] from ef_rm0 m p0 p1 p2 p3 p4]
  show own_Comes p e below s _ _ _ (s₁.setTop (mkF m 0 #[.val (.int p0), .val (.int p1), .val (.int p2), .val (.int p3), .val (.int p4), .unset, .unset, .unset, .unset, .unset, .unset, .unset, .unset, .unset] []))
  have hws : ∀ d ∈ StrChars.Road.words, d.before a0 Z = true := fun d hd => hw d ((by decide +kernel : ∀ d ∈ StrChars.Road.words, d ∈ tables_1) d hd)
  refine own_by (fun _ kS => XS.iloadN X0.here hx rfl (hb hby at_0) rfl kS) ?_
  show own_Comes p e below s _ _ _ (s₁.setTop (mkF m 1 #[.val (.int p0), .val (.int p1), .val (.int p2), .val (.int p3), .val (.int p4), .unset, .unset, .unset, .unset, .unset, .unset, .unset, .unset, .unset] [(.int p0)]))
  refine own_by (fun _ kS => XS.iconst X0.here hx rfl (hb hby at_1) kS) ?_
  show own_Comes p e below s _ _ _ (s₁.setTop (mkF m 2 #[.val (.int p0), .val (.int p1), .val (.int p2), .val (.int p3), .val (.int p4), .unset, .unset, .unset, .unset, .unset, .unset, .unset, .unset, .unset] [(.int (3 : Int32)), (.int p0)]))
  refine own_by (fun _ kS => XS.iand X0.here hx rfl (hb hby at_2) rfl kS) ?_
  show own_Comes p e below s _ _ _ (s₁.setTop (mkF m 3 #[.val (.int p0), .val (.int p1), .val (.int p2), .val (.int p3), .val (.int p4), .unset, .unset, .unset, .unset, .unset, .unset, .unset, .unset, .unset] [(.int (p0 &&& (3 : Int32)))]))
  refine own_by (fun _ kS => XS.iconst X0.here hx rfl (hb hby at_3) kS) ?_
  show own_Comes p e below s _ _ _ (s₁.setTop (mkF m 4 #[.val (.int p0), .val (.int p1), .val (.int p2), .val (.int p3), .val (.int p4), .unset, .unset, .unset, .unset, .unset, .unset, .unset, .unset, .unset] [(.int (1 : Int32)), (.int (p0 &&& (3 : Int32)))]))
  refine own_by (fun _ kS => XS.iadd X0.here hx rfl (hb hby at_4) rfl kS) ?_
  show own_Comes p e below s _ _ _ (s₁.setTop (mkF m 5 #[.val (.int p0), .val (.int p1), .val (.int p2), .val (.int p3), .val (.int p4), .unset, .unset, .unset, .unset, .unset, .unset, .unset, .unset, .unset] [(.int ((p0 &&& (3 : Int32)) + (1 : Int32)))]))
  refine own_by (fun _ kS => XS.istore X0.here hx rfl (hb hby at_5) rfl (l' := #[.val (.int p0), .val (.int p1), .val (.int p2), .val (.int p3), .val (.int p4), .val (.int ((p0 &&& (3 : Int32)) + (1 : Int32))), .unset, .unset, .unset, .unset, .unset, .unset, .unset, .unset]) rfl kS) ?_
  show own_Comes p e below s _ _ _ (s₁.setTop (mkF m 7 #[.val (.int p0), .val (.int p1), .val (.int p2), .val (.int p3), .val (.int p4), .val (.int ((p0 &&& (3 : Int32)) + (1 : Int32))), .unset, .unset, .unset, .unset, .unset, .unset, .unset, .unset] []))
  refine own_by (fun _ kS => XS.iloadN X0.here hx rfl (hb hby at_7) rfl kS) ?_
  show own_Comes p e below s _ _ _ (s₁.setTop (mkF m 8 #[.val (.int p0), .val (.int p1), .val (.int p2), .val (.int p3), .val (.int p4), .val (.int ((p0 &&& (3 : Int32)) + (1 : Int32))), .unset, .unset, .unset, .unset, .unset, .unset, .unset, .unset] [(.int p1)]))
  obtain ⟨vv162, _, ⟨T162, L162, k162, n162⟩, -, X162, ⟨Lc162, hQ162, l162, y162, z162⟩, st162⟩ := Jvm.LawKit.callS X0 hx (y := (⟨"com/example/holdfast/holdfast/spi/LockArgumentsRequireNamePinLaw", "draw", "(I)C"⟩ : MethodName)) hown (mvT hZ (hw _ (List.mem_of_getElem? (i := 0) rfl))) (mvT hZ (hw _ (List.mem_of_getElem? (i := 1) rfl))) (mvT hZ (hw _ (List.mem_of_getElem? (i := 2) rfl))) (mvT hZ (hw _ (List.mem_of_getElem? (i := 3) rfl))) (by decide) (backOf (W := 0) (rm1 l Z a0 hw [] p1 h0 n0 Z0) hZ (hw _ (List.mem_of_getElem? (i := 3) rfl)) (hw _ (List.mem_of_getElem? (i := 2) rfl)) (by decide) (by decide)) (g := (mkF m 8 #[.val (.int p0), .val (.int p1), .val (.int p2), .val (.int p3), .val (.int p4), .val (.int ((p0 &&& (3 : Int32)) + (1 : Int32))), .unset, .unset, .unset, .unset, .unset, .unset, .unset, .unset] [(.int p1)])) rfl (by rw [hml]; rfl) (argsL := [(.int p1)]) (rest := []) (lenOf pd__I_C_221 rfl) rfl (by show 2 * 0 + _ ≤ _; exact Nat.le_of_eq rfl) (hb hby at_8) (fun _ _ => ⟨rfl, e0, (by decide : 0 + 0 ≤ _), (by decide : 0 + 0 ≤ _)⟩)
  dsimp only [Pt.U, Pt.locs, Pt.cells, Pt.slots] at X162 l162 y162 z162 st162 hQ162
  subst l162 y162 z162
  obtain ⟨z162, rfl, N162q, e162q, hz162⟩ := hQ162
  have N162 := Fr.app N0 N162q
  refine own_by st162 ?_
  have e162 : T162.heap = h0 := e162q
  show own_Comes p e below s _ _ _ (T162.setTop (mkF m 11 #[.val (.int p0), .val (.int p1), .val (.int p2), .val (.int p3), .val (.int p4), .val (.int ((p0 &&& (3 : Int32)) + (1 : Int32))), .unset, .unset, .unset, .unset, .unset, .unset, .unset, .unset] [(.int z162)]))
  refine own_by (fun _ kS => XS.istore X162.here hx rfl (hb hby at_11) rfl (l' := #[.val (.int p0), .val (.int p1), .val (.int p2), .val (.int p3), .val (.int p4), .val (.int ((p0 &&& (3 : Int32)) + (1 : Int32))), .val (.int z162), .unset, .unset, .unset, .unset, .unset, .unset, .unset]) rfl kS) ?_
  show own_Comes p e below s _ _ _ (T162.setTop (mkF m 13 #[.val (.int p0), .val (.int p1), .val (.int p2), .val (.int p3), .val (.int p4), .val (.int ((p0 &&& (3 : Int32)) + (1 : Int32))), .val (.int z162), .unset, .unset, .unset, .unset, .unset, .unset, .unset] []))
  refine own_by (fun _ kS => XS.iloadN X162.here hx rfl (hb hby at_13) rfl kS) ?_
  show own_Comes p e below s _ _ _ (T162.setTop (mkF m 14 #[.val (.int p0), .val (.int p1), .val (.int p2), .val (.int p3), .val (.int p4), .val (.int ((p0 &&& (3 : Int32)) + (1 : Int32))), .val (.int z162), .unset, .unset, .unset, .unset, .unset, .unset, .unset] [(.int p2)]))
  obtain ⟨vv163, _, ⟨T163, L163, k163, n163⟩, -, X163, ⟨Lc163, hQ163, l163, y163, z163⟩, st163⟩ := Jvm.LawKit.callS X162 hx (y := (⟨"com/example/holdfast/holdfast/spi/LockArgumentsRequireNamePinLaw", "draw", "(I)C"⟩ : MethodName)) hown (mvT hZ (hw _ (List.mem_of_getElem? (i := 0) rfl))) (mvT hZ (hw _ (List.mem_of_getElem? (i := 1) rfl))) (mvT hZ (hw _ (List.mem_of_getElem? (i := 2) rfl))) (mvT hZ (hw _ (List.mem_of_getElem? (i := 3) rfl))) (by decide) (backOf (W := 0) (rm1 l Z a0 hw [] p2 h0 n0 Z0) hZ (hw _ (List.mem_of_getElem? (i := 3) rfl)) (hw _ (List.mem_of_getElem? (i := 2) rfl)) (by decide) (by decide)) (g := (mkF m 14 #[.val (.int p0), .val (.int p1), .val (.int p2), .val (.int p3), .val (.int p4), .val (.int ((p0 &&& (3 : Int32)) + (1 : Int32))), .val (.int z162), .unset, .unset, .unset, .unset, .unset, .unset, .unset] [(.int p2)])) rfl (by rw [hml]; rfl) (argsL := [(.int p2)]) (rest := []) (lenOf pd__I_C_221 rfl) rfl (by show 2 * 0 + _ ≤ _; exact Nat.le_of_eq rfl) (hb hby at_14) (fun _ _ => ⟨rfl, e162, (by decide : 0 + 0 ≤ _), (by decide : 0 + 0 ≤ _)⟩)
  dsimp only [Pt.U, Pt.locs, Pt.cells, Pt.slots] at X163 l163 y163 z163 st163 hQ163
  subst l163 y163 z163
  obtain ⟨z163, rfl, N163q, e163q, hz163⟩ := hQ163
  have N163 := Fr.app N162 N163q
  refine own_by st163 ?_
  have e163 : T163.heap = h0 := e163q
  show own_Comes p e below s _ _ _ (T163.setTop (mkF m 17 #[.val (.int p0), .val (.int p1), .val (.int p2), .val (.int p3), .val (.int p4), .val (.int ((p0 &&& (3 : Int32)) + (1 : Int32))), .val (.int z162), .unset, .unset, .unset, .unset, .unset, .unset, .unset] [(.int z163)]))
  refine own_by (fun _ kS => XS.istore X163.here hx rfl (hb hby at_17) rfl (l' := #[.val (.int p0), .val (.int p1), .val (.int p2), .val (.int p3), .val (.int p4), .val (.int ((p0 &&& (3 : Int32)) + (1 : Int32))), .val (.int z162), .val (.int z163), .unset, .unset, .unset, .unset, .unset, .unset]) rfl kS) ?_
  show own_Comes p e below s _ _ _ (T163.setTop (mkF m 19 #[.val (.int p0), .val (.int p1), .val (.int p2), .val (.int p3), .val (.int p4), .val (.int ((p0 &&& (3 : Int32)) + (1 : Int32))), .val (.int z162), .val (.int z163), .unset, .unset, .unset, .unset, .unset, .unset] []))
  refine own_by (fun _ kS => XS.iloadN X163.here hx rfl (hb hby at_19) rfl kS) ?_
  show own_Comes p e below s _ _ _ (T163.setTop (mkF m 20 #[.val (.int p0), .val (.int p1), .val (.int p2), .val (.int p3), .val (.int p4), .val (.int ((p0 &&& (3 : Int32)) + (1 : Int32))), .val (.int z162), .val (.int z163), .unset, .unset, .unset, .unset, .unset, .unset] [(.int p3)]))
  obtain ⟨vv164, _, ⟨T164, L164, k164, n164⟩, -, X164, ⟨Lc164, hQ164, l164, y164, z164⟩, st164⟩ := Jvm.LawKit.callS X163 hx (y := (⟨"com/example/holdfast/holdfast/spi/LockArgumentsRequireNamePinLaw", "draw", "(I)C"⟩ : MethodName)) hown (mvT hZ (hw _ (List.mem_of_getElem? (i := 0) rfl))) (mvT hZ (hw _ (List.mem_of_getElem? (i := 1) rfl))) (mvT hZ (hw _ (List.mem_of_getElem? (i := 2) rfl))) (mvT hZ (hw _ (List.mem_of_getElem? (i := 3) rfl))) (by decide) (backOf (W := 0) (rm1 l Z a0 hw [] p3 h0 n0 Z0) hZ (hw _ (List.mem_of_getElem? (i := 3) rfl)) (hw _ (List.mem_of_getElem? (i := 2) rfl)) (by decide) (by decide)) (g := (mkF m 20 #[.val (.int p0), .val (.int p1), .val (.int p2), .val (.int p3), .val (.int p4), .val (.int ((p0 &&& (3 : Int32)) + (1 : Int32))), .val (.int z162), .val (.int z163), .unset, .unset, .unset, .unset, .unset, .unset] [(.int p3)])) rfl (by rw [hml]; rfl) (argsL := [(.int p3)]) (rest := []) (lenOf pd__I_C_221 rfl) rfl (by show 2 * 0 + _ ≤ _; exact Nat.le_of_eq rfl) (hb hby at_20) (fun _ _ => ⟨rfl, e163, (by decide : 0 + 0 ≤ _), (by decide : 0 + 0 ≤ _)⟩)
  dsimp only [Pt.U, Pt.locs, Pt.cells, Pt.slots] at X164 l164 y164 z164 st164 hQ164
  subst l164 y164 z164
  obtain ⟨z164, rfl, N164q, e164q, hz164⟩ := hQ164
  have N164 := Fr.app N163 N164q
  refine own_by st164 ?_
  have e164 : T164.heap = h0 := e164q
  show own_Comes p e below s _ _ _ (T164.setTop (mkF m 23 #[.val (.int p0), .val (.int p1), .val (.int p2), .val (.int p3), .val (.int p4), .val (.int ((p0 &&& (3 : Int32)) + (1 : Int32))), .val (.int z162), .val (.int z163), .unset, .unset, .unset, .unset, .unset, .unset] [(.int z164)]))
  refine own_by (fun _ kS => XS.istore X164.here hx rfl (hb hby at_23) rfl (l' := #[.val (.int p0), .val (.int p1), .val (.int p2), .val (.int p3), .val (.int p4), .val (.int ((p0 &&& (3 : Int32)) + (1 : Int32))), .val (.int z162), .val (.int z163), .val (.int z164), .unset, .unset, .unset, .unset, .unset]) rfl kS) ?_
  show own_Comes p e below s _ _ _ (T164.setTop (mkF m 25 #[.val (.int p0), .val (.int p1), .val (.int p2), .val (.int p3), .val (.int p4), .val (.int ((p0 &&& (3 : Int32)) + (1 : Int32))), .val (.int z162), .val (.int z163), .val (.int z164), .unset, .unset, .unset, .unset, .unset] []))
  refine own_by (fun _ kS => XS.iload X164.here hx rfl (hb hby at_25) rfl kS) ?_
  show own_Comes p e below s _ _ _ (T164.setTop (mkF m 27 #[.val (.int p0), .val (.int p1), .val (.int p2), .val (.int p3), .val (.int p4), .val (.int ((p0 &&& (3 : Int32)) + (1 : Int32))), .val (.int z162), .val (.int z163), .val (.int z164), .unset, .unset, .unset, .unset, .unset] [(.int p4)]))
  obtain ⟨vv165, _, ⟨T165, L165, k165, n165⟩, -, X165, ⟨Lc165, hQ165, l165, y165, z165⟩, st165⟩ := Jvm.LawKit.callS X164 hx (y := (⟨"com/example/holdfast/holdfast/spi/LockArgumentsRequireNamePinLaw", "draw", "(I)C"⟩ : MethodName)) hown (mvT hZ (hw _ (List.mem_of_getElem? (i := 0) rfl))) (mvT hZ (hw _ (List.mem_of_getElem? (i := 1) rfl))) (mvT hZ (hw _ (List.mem_of_getElem? (i := 2) rfl))) (mvT hZ (hw _ (List.mem_of_getElem? (i := 3) rfl))) (by decide) (backOf (W := 0) (rm1 l Z a0 hw [] p4 h0 n0 Z0) hZ (hw _ (List.mem_of_getElem? (i := 3) rfl)) (hw _ (List.mem_of_getElem? (i := 2) rfl)) (by decide) (by decide)) (g := (mkF m 27 #[.val (.int p0), .val (.int p1), .val (.int p2), .val (.int p3), .val (.int p4), .val (.int ((p0 &&& (3 : Int32)) + (1 : Int32))), .val (.int z162), .val (.int z163), .val (.int z164), .unset, .unset, .unset, .unset, .unset] [(.int p4)])) rfl (by rw [hml]; rfl) (argsL := [(.int p4)]) (rest := []) (lenOf pd__I_C_221 rfl) rfl (by show 2 * 0 + _ ≤ _; exact Nat.le_of_eq rfl) (hb hby at_27) (fun _ _ => ⟨rfl, e164, (by decide : 0 + 0 ≤ _), (by decide : 0 + 0 ≤ _)⟩)
  dsimp only [Pt.U, Pt.locs, Pt.cells, Pt.slots] at X165 l165 y165 z165 st165 hQ165
  subst l165 y165 z165
  obtain ⟨z165, rfl, N165q, e165q, hz165⟩ := hQ165
  have N165 := Fr.app N164 N165q
  refine own_by st165 ?_
  have e165 : T165.heap = h0 := e165q
  show own_Comes p e below s _ _ _ (T165.setTop (mkF m 30 #[.val (.int p0), .val (.int p1), .val (.int p2), .val (.int p3), .val (.int p4), .val (.int ((p0 &&& (3 : Int32)) + (1 : Int32))), .val (.int z162), .val (.int z163), .val (.int z164), .unset, .unset, .unset, .unset, .unset] [(.int z165)]))
  refine own_by (fun _ kS => XS.istore X165.here hx rfl (hb hby at_30) rfl (l' := #[.val (.int p0), .val (.int p1), .val (.int p2), .val (.int p3), .val (.int p4), .val (.int ((p0 &&& (3 : Int32)) + (1 : Int32))), .val (.int z162), .val (.int z163), .val (.int z164), .val (.int z165), .unset, .unset, .unset, .unset]) rfl kS) ?_
  show own_Comes p e below s _ _ _ (T165.setTop (mkF m 32 #[.val (.int p0), .val (.int p1), .val (.int p2), .val (.int p3), .val (.int p4), .val (.int ((p0 &&& (3 : Int32)) + (1 : Int32))), .val (.int z162), .val (.int z163), .val (.int z164), .val (.int z165), .unset, .unset, .unset, .unset] []))
  have J140 : ∀ (cb : Addr) (sb : Addr) (kc : ClassId) (cs : List Int32) (TJ140 : State) (hJ140 : Heap) (LJ140 : List Loc), (Arv Z hJ140 cb kc .char (Int32.ofNat cs.length) (cs.map Value.int) (.int 0)) → (own_Txt Z hJ140 sb cs) → (cs.length ≤ 4) → (0 < cs.length) → Stand p l e room_1 s m #[(.int p0), (.int p1), (.int p2), (.int p3), (.int p4)] below meth c TJ140 LJ140 6 28 → TJ140.heap = hJ140 → Fr n0 LJ140 → Old Z n0 hJ140 → n0 ≤ hJ140.size → own_Comes p e below s room_1.cells room_1.slots (Q0 Z h0 n0) (TJ140.setTop (mkF m 140 #[.val (.int p0), .val (.int p1), .val (.int p2), .val (.int p3), .val (.int p4), .val (.int ((p0 &&& (3 : Int32)) + (1 : Int32))), .val (.int z162), .val (.int z163), .val (.int z164), .val (.int z165), .val (.ref cb), .val (.ref sb), .unset, .unset] [])) := by
    intro cb sb kc cs TJ140 hJ140 LJ140 Vs hY hl h0l XJ140 eJ140 NJ140 OJ140 ZJ140
    show own_Comes p e below s _ _ _ (TJ140.setTop (mkF m 140 #[.val (.int p0), .val (.int p1), .val (.int p2), .val (.int p3), .val (.int p4), .val (.int ((p0 &&& (3 : Int32)) + (1 : Int32))), .val (.int z162), .val (.int z163), .val (.int z164), .val (.int z165), .val (.ref cb), .val (.ref sb), .unset, .unset] []))
    refine own_by (fun _ kS => XS.aload XJ140.here hx rfl (hb hby at_140) rfl rfl kS) ?_
    show own_Comes p e below s _ _ _ (TJ140.setTop (mkF m 142 #[.val (.int p0), .val (.int p1), .val (.int p2), .val (.int p3), .val (.int p4), .val (.int ((p0 &&& (3 : Int32)) + (1 : Int32))), .val (.int z162), .val (.int z163), .val (.int z164), .val (.int z165), .val (.ref cb), .val (.ref sb), .unset, .unset] [(.ref cb)]))
    refine own_by (fun _ kS => XS.iconst XJ140.here hx rfl (hb hby at_142) kS) ?_
    show own_Comes p e below s _ _ _ (TJ140.setTop (mkF m 143 #[.val (.int p0), .val (.int p1), .val (.int p2), .val (.int p3), .val (.int p4), .val (.int ((p0 &&& (3 : Int32)) + (1 : Int32))), .val (.int z162), .val (.int z163), .val (.int z164), .val (.int z165), .val (.ref cb), .val (.ref sb), .unset, .unset] [(.int (0 : Int32)), (.ref cb)]))
    obtain ⟨vv166, _, ⟨T166, L166, k166, n166⟩, -, X166, ⟨Lc166, hQ166, l166, y166, z166⟩, st166⟩ := Jvm.LawKit.callS XJ140 hx (y := (⟨"com/example/holdfast/holdfast/spi/LockArgumentsRequireNamePinLaw", "ok", "([CI)Z"⟩ : MethodName)) hown (mvT hZ (hw _ (List.mem_of_getElem? (i := 37) rfl))) (mvT hZ (hw _ (List.mem_of_getElem? (i := 38) rfl))) (mvT hZ (hw _ (List.mem_of_getElem? (i := 2) rfl))) (mvT hZ (hw _ (List.mem_of_getElem? (i := 39) rfl))) (by decide) (backOf (W := 0) (rm8 l Z a0 hw [] cb (0 : Int32) 0 kc cs hJ140 n0 ZJ140 rfl Vs hl (by omega)) hZ (hw _ (List.mem_of_getElem? (i := 39) rfl)) (hw _ (List.mem_of_getElem? (i := 2) rfl)) (by decide) (by decide)) (g := (mkF m 143 #[.val (.int p0), .val (.int p1), .val (.int p2), .val (.int p3), .val (.int p4), .val (.int ((p0 &&& (3 : Int32)) + (1 : Int32))), .val (.int z162), .val (.int z163), .val (.int z164), .val (.int z165), .val (.ref cb), .val (.ref sb), .unset, .unset] [(.int (0 : Int32)), (.ref cb)])) rfl (by rw [hml]; rfl) (argsL := [(.ref cb), (.int (0 : Int32))]) (rest := []) (lenOf pd___CI_Z_402 rfl) rfl (by show 2 * 0 + _ ≤ _; exact Nat.le_of_eq rfl) (hb hby at_143) (fun _ _ => ⟨rfl, eJ140, (by decide : 6 + 0 ≤ _), (by decide : 28 + 0 ≤ _)⟩)
    dsimp only [Pt.U, Pt.locs, Pt.cells, Pt.slots] at X166 l166 y166 z166 st166 hQ166
    subst l166 y166 z166
    obtain ⟨z166, rfl, N166q, e166q, hz166⟩ := hQ166
    have N166 := Fr.app NJ140 N166q
    refine own_by st166 ?_
    have e166 : T166.heap = hJ140 := e166q
    show own_Comes p e below s _ _ _ (T166.setTop (mkF m 146 #[.val (.int p0), .val (.int p1), .val (.int p2), .val (.int p3), .val (.int p4), .val (.int ((p0 &&& (3 : Int32)) + (1 : Int32))), .val (.int z162), .val (.int z163), .val (.int z164), .val (.int z165), .val (.ref cb), .val (.ref sb), .unset, .unset] [(.int z166)]))
    by_cases hq0 : z166 = (0 : Int32)
    · refine own_by (fun _ kS => XS.ifYes X166.here hx rfl (pc0 := 146) (pc' := 180) rfl (hb hby at_146) rfl ((if0 _ _).trans (teq hq0).1) (by decide) (by decide) kS) ?_
      show own_Comes p e below s _ _ _ (T166.setTop (mkF m 180 #[.val (.int p0), .val (.int p1), .val (.int p2), .val (.int p3), .val (.int p4), .val (.int ((p0 &&& (3 : Int32)) + (1 : Int32))), .val (.int z162), .val (.int z163), .val (.int z164), .val (.int z165), .val (.ref cb), .val (.ref sb), .unset, .unset] []))
      refine own_by (fun _ kS => XS.iconst X166.here hx rfl (hb hby at_180) kS) ?_
      show own_Comes p e below s _ _ _ (T166.setTop (mkF m 181 #[.val (.int p0), .val (.int p1), .val (.int p2), .val (.int p3), .val (.int p4), .val (.int ((p0 &&& (3 : Int32)) + (1 : Int32))), .val (.int z162), .val (.int z163), .val (.int z164), .val (.int z165), .val (.ref cb), .val (.ref sb), .unset, .unset] [(.int (0 : Int32))]))
      refine own_by (fun _ kS => XS.istore X166.here hx rfl (hb hby at_181) rfl (l' := #[.val (.int p0), .val (.int p1), .val (.int p2), .val (.int p3), .val (.int p4), .val (.int ((p0 &&& (3 : Int32)) + (1 : Int32))), .val (.int z162), .val (.int z163), .val (.int z164), .val (.int z165), .val (.ref cb), .val (.ref sb), .val (.int (0 : Int32)), .unset]) rfl kS) ?_
      show own_Comes p e below s _ _ _ (T166.setTop (mkF m 183 #[.val (.int p0), .val (.int p1), .val (.int p2), .val (.int p3), .val (.int p4), .val (.int ((p0 &&& (3 : Int32)) + (1 : Int32))), .val (.int z162), .val (.int z163), .val (.int z164), .val (.int z165), .val (.ref cb), .val (.ref sb), .val (.int (0 : Int32)), .unset] []))
      refine own_by (fun _ kS => XS.iload X166.here hx rfl (hb hby at_183) rfl kS) ?_
      show own_Comes p e below s _ _ _ (T166.setTop (mkF m 185 #[.val (.int p0), .val (.int p1), .val (.int p2), .val (.int p3), .val (.int p4), .val (.int ((p0 &&& (3 : Int32)) + (1 : Int32))), .val (.int z162), .val (.int z163), .val (.int z164), .val (.int z165), .val (.ref cb), .val (.ref sb), .val (.int (0 : Int32)), .unset] [(.int (0 : Int32))]))
      have hb167 : (0 : Int32) = (0 : Int32) := by decide
      refine own_by (fun _ kS => XS.ifNo X166.here hx rfl (hb hby at_185) rfl ((if0 _ _).trans (teq hb167).2) kS) ?_
      show own_Comes p e below s _ _ _ (T166.setTop (mkF m 188 #[.val (.int p0), .val (.int p1), .val (.int p2), .val (.int p3), .val (.int p4), .val (.int ((p0 &&& (3 : Int32)) + (1 : Int32))), .val (.int z162), .val (.int z163), .val (.int z164), .val (.int z165), .val (.ref cb), .val (.ref sb), .val (.int (0 : Int32)), .unset] []))
      refine own_by (fun _ kS => XS.iconst X166.here hx rfl (hb hby at_188) kS) ?_
      show own_Comes p e below s _ _ _ (T166.setTop (mkF m 189 #[.val (.int p0), .val (.int p1), .val (.int p2), .val (.int p3), .val (.int p4), .val (.int ((p0 &&& (3 : Int32)) + (1 : Int32))), .val (.int z162), .val (.int z163), .val (.int z164), .val (.int z165), .val (.ref cb), .val (.ref sb), .val (.int (0 : Int32)), .unset] [(.int (1 : Int32))]))
      refine own_ret X166 (v := some (.int (1 : Int32))) (fun h => by rw [Bd.returns] at h; cases h) Bd.notSynchronized (by decide) (by decide) ?_ (fun fs hr => retN X166 hx (t := .boolean) Bd.returns (by simp) (hb hby at_189) hr)
      rw [e166]; exact ⟨rfl, N166⟩
    · refine own_by (fun _ kS => XS.ifNo X166.here hx rfl (hb hby at_146) rfl ((if0 _ _).trans (feq hq0).1) kS) ?_
      show own_Comes p e below s _ _ _ (T166.setTop (mkF m 149 #[.val (.int p0), .val (.int p1), .val (.int p2), .val (.int p3), .val (.int p4), .val (.int ((p0 &&& (3 : Int32)) + (1 : Int32))), .val (.int z162), .val (.int z163), .val (.int z164), .val (.int z165), .val (.ref cb), .val (.ref sb), .unset, .unset] []))
      refine own_by (fun _ kS => XS.aload X166.here hx rfl (hb hby at_149) rfl rfl kS) ?_
      show own_Comes p e below s _ _ _ (T166.setTop (mkF m 151 #[.val (.int p0), .val (.int p1), .val (.int p2), .val (.int p3), .val (.int p4), .val (.int ((p0 &&& (3 : Int32)) + (1 : Int32))), .val (.int z162), .val (.int z163), .val (.int z164), .val (.int z165), .val (.ref cb), .val (.ref sb), .unset, .unset] [(.ref cb)]))
      refine own_by (fun _ kS => XS.iconst X166.here hx rfl (hb hby at_151) kS) ?_
      show own_Comes p e below s _ _ _ (T166.setTop (mkF m 152 #[.val (.int p0), .val (.int p1), .val (.int p2), .val (.int p3), .val (.int p4), .val (.int ((p0 &&& (3 : Int32)) + (1 : Int32))), .val (.int z162), .val (.int z163), .val (.int z164), .val (.int z165), .val (.ref cb), .val (.ref sb), .unset, .unset] [(.int (1 : Int32)), (.ref cb)]))
      obtain ⟨vv168, _, ⟨T168, L168, k168, n168⟩, -, X168, ⟨Lc168, hQ168, l168, y168, z168⟩, st168⟩ := Jvm.LawKit.callS X166 hx (y := (⟨"com/example/holdfast/holdfast/spi/LockArgumentsRequireNamePinLaw", "ok", "([CI)Z"⟩ : MethodName)) hown (mvT hZ (hw _ (List.mem_of_getElem? (i := 37) rfl))) (mvT hZ (hw _ (List.mem_of_getElem? (i := 38) rfl))) (mvT hZ (hw _ (List.mem_of_getElem? (i := 2) rfl))) (mvT hZ (hw _ (List.mem_of_getElem? (i := 39) rfl))) (by decide) (backOf (W := 0) (rm8 l Z a0 hw [] cb (1 : Int32) 1 kc cs hJ140 n0 ZJ140 rfl Vs hl (by omega)) hZ (hw _ (List.mem_of_getElem? (i := 39) rfl)) (hw _ (List.mem_of_getElem? (i := 2) rfl)) (by decide) (by decide)) (g := (mkF m 152 #[.val (.int p0), .val (.int p1), .val (.int p2), .val (.int p3), .val (.int p4), .val (.int ((p0 &&& (3 : Int32)) + (1 : Int32))), .val (.int z162), .val (.int z163), .val (.int z164), .val (.int z165), .val (.ref cb), .val (.ref sb), .unset, .unset] [(.int (1 : Int32)), (.ref cb)])) rfl (by rw [hml]; rfl) (argsL := [(.ref cb), (.int (1 : Int32))]) (rest := []) (lenOf pd___CI_Z_402 rfl) rfl (by show 2 * 0 + _ ≤ _; exact Nat.le_of_eq rfl) (hb hby at_152) (fun _ _ => ⟨rfl, e166, (by decide : 6 + 0 ≤ _), (by decide : 28 + 0 ≤ _)⟩)
      dsimp only [Pt.U, Pt.locs, Pt.cells, Pt.slots] at X168 l168 y168 z168 st168 hQ168
      subst l168 y168 z168
      obtain ⟨z168, rfl, N168q, e168q, hz168⟩ := hQ168
      have N168 := Fr.app N166 N168q
      refine own_by st168 ?_
      have e168 : T168.heap = hJ140 := e168q
      show own_Comes p e below s _ _ _ (T168.setTop (mkF m 155 #[.val (.int p0), .val (.int p1), .val (.int p2), .val (.int p3), .val (.int p4), .val (.int ((p0 &&& (3 : Int32)) + (1 : Int32))), .val (.int z162), .val (.int z163), .val (.int z164), .val (.int z165), .val (.ref cb), .val (.ref sb), .unset, .unset] [(.int z168)]))
      by_cases hq1 : z168 = (0 : Int32)
      · refine own_by (fun _ kS => XS.ifYes X168.here hx rfl (pc0 := 155) (pc' := 180) rfl (hb hby at_155) rfl ((if0 _ _).trans (teq hq1).1) (by decide) (by decide) kS) ?_
        show own_Comes p e below s _ _ _ (T168.setTop (mkF m 180 #[.val (.int p0), .val (.int p1), .val (.int p2), .val (.int p3), .val (.int p4), .val (.int ((p0 &&& (3 : Int32)) + (1 : Int32))), .val (.int z162), .val (.int z163), .val (.int z164), .val (.int z165), .val (.ref cb), .val (.ref sb), .unset, .unset] []))
        refine own_by (fun _ kS => XS.iconst X168.here hx rfl (hb hby at_180) kS) ?_
        show own_Comes p e below s _ _ _ (T168.setTop (mkF m 181 #[.val (.int p0), .val (.int p1), .val (.int p2), .val (.int p3), .val (.int p4), .val (.int ((p0 &&& (3 : Int32)) + (1 : Int32))), .val (.int z162), .val (.int z163), .val (.int z164), .val (.int z165), .val (.ref cb), .val (.ref sb), .unset, .unset] [(.int (0 : Int32))]))
        refine own_by (fun _ kS => XS.istore X168.here hx rfl (hb hby at_181) rfl (l' := #[.val (.int p0), .val (.int p1), .val (.int p2), .val (.int p3), .val (.int p4), .val (.int ((p0 &&& (3 : Int32)) + (1 : Int32))), .val (.int z162), .val (.int z163), .val (.int z164), .val (.int z165), .val (.ref cb), .val (.ref sb), .val (.int (0 : Int32)), .unset]) rfl kS) ?_
        show own_Comes p e below s _ _ _ (T168.setTop (mkF m 183 #[.val (.int p0), .val (.int p1), .val (.int p2), .val (.int p3), .val (.int p4), .val (.int ((p0 &&& (3 : Int32)) + (1 : Int32))), .val (.int z162), .val (.int z163), .val (.int z164), .val (.int z165), .val (.ref cb), .val (.ref sb), .val (.int (0 : Int32)), .unset] []))
        refine own_by (fun _ kS => XS.iload X168.here hx rfl (hb hby at_183) rfl kS) ?_
        show own_Comes p e below s _ _ _ (T168.setTop (mkF m 185 #[.val (.int p0), .val (.int p1), .val (.int p2), .val (.int p3), .val (.int p4), .val (.int ((p0 &&& (3 : Int32)) + (1 : Int32))), .val (.int z162), .val (.int z163), .val (.int z164), .val (.int z165), .val (.ref cb), .val (.ref sb), .val (.int (0 : Int32)), .unset] [(.int (0 : Int32))]))
        have hb169 : (0 : Int32) = (0 : Int32) := by decide
        refine own_by (fun _ kS => XS.ifNo X168.here hx rfl (hb hby at_185) rfl ((if0 _ _).trans (teq hb169).2) kS) ?_
        show own_Comes p e below s _ _ _ (T168.setTop (mkF m 188 #[.val (.int p0), .val (.int p1), .val (.int p2), .val (.int p3), .val (.int p4), .val (.int ((p0 &&& (3 : Int32)) + (1 : Int32))), .val (.int z162), .val (.int z163), .val (.int z164), .val (.int z165), .val (.ref cb), .val (.ref sb), .val (.int (0 : Int32)), .unset] []))
        refine own_by (fun _ kS => XS.iconst X168.here hx rfl (hb hby at_188) kS) ?_
        show own_Comes p e below s _ _ _ (T168.setTop (mkF m 189 #[.val (.int p0), .val (.int p1), .val (.int p2), .val (.int p3), .val (.int p4), .val (.int ((p0 &&& (3 : Int32)) + (1 : Int32))), .val (.int z162), .val (.int z163), .val (.int z164), .val (.int z165), .val (.ref cb), .val (.ref sb), .val (.int (0 : Int32)), .unset] [(.int (1 : Int32))]))
        refine own_ret X168 (v := some (.int (1 : Int32))) (fun h => by rw [Bd.returns] at h; cases h) Bd.notSynchronized (by decide) (by decide) ?_ (fun fs hr => retN X168 hx (t := .boolean) Bd.returns (by simp) (hb hby at_189) hr)
        rw [e168]; exact ⟨rfl, N168⟩
      · refine own_by (fun _ kS => XS.ifNo X168.here hx rfl (hb hby at_155) rfl ((if0 _ _).trans (feq hq1).1) kS) ?_
        show own_Comes p e below s _ _ _ (T168.setTop (mkF m 158 #[.val (.int p0), .val (.int p1), .val (.int p2), .val (.int p3), .val (.int p4), .val (.int ((p0 &&& (3 : Int32)) + (1 : Int32))), .val (.int z162), .val (.int z163), .val (.int z164), .val (.int z165), .val (.ref cb), .val (.ref sb), .unset, .unset] []))
        refine own_by (fun _ kS => XS.aload X168.here hx rfl (hb hby at_158) rfl rfl kS) ?_
        show own_Comes p e below s _ _ _ (T168.setTop (mkF m 160 #[.val (.int p0), .val (.int p1), .val (.int p2), .val (.int p3), .val (.int p4), .val (.int ((p0 &&& (3 : Int32)) + (1 : Int32))), .val (.int z162), .val (.int z163), .val (.int z164), .val (.int z165), .val (.ref cb), .val (.ref sb), .unset, .unset] [(.ref cb)]))
        refine own_by (fun _ kS => XS.iconst X168.here hx rfl (hb hby at_160) kS) ?_
        show own_Comes p e below s _ _ _ (T168.setTop (mkF m 161 #[.val (.int p0), .val (.int p1), .val (.int p2), .val (.int p3), .val (.int p4), .val (.int ((p0 &&& (3 : Int32)) + (1 : Int32))), .val (.int z162), .val (.int z163), .val (.int z164), .val (.int z165), .val (.ref cb), .val (.ref sb), .unset, .unset] [(.int (2 : Int32)), (.ref cb)]))
        obtain ⟨vv170, _, ⟨T170, L170, k170, n170⟩, -, X170, ⟨Lc170, hQ170, l170, y170, z170⟩, st170⟩ := Jvm.LawKit.callS X168 hx (y := (⟨"com/example/holdfast/holdfast/spi/LockArgumentsRequireNamePinLaw", "ok", "([CI)Z"⟩ : MethodName)) hown (mvT hZ (hw _ (List.mem_of_getElem? (i := 37) rfl))) (mvT hZ (hw _ (List.mem_of_getElem? (i := 38) rfl))) (mvT hZ (hw _ (List.mem_of_getElem? (i := 2) rfl))) (mvT hZ (hw _ (List.mem_of_getElem? (i := 39) rfl))) (by decide) (backOf (W := 0) (rm8 l Z a0 hw [] cb (2 : Int32) 2 kc cs hJ140 n0 ZJ140 rfl Vs hl (by omega)) hZ (hw _ (List.mem_of_getElem? (i := 39) rfl)) (hw _ (List.mem_of_getElem? (i := 2) rfl)) (by decide) (by decide)) (g := (mkF m 161 #[.val (.int p0), .val (.int p1), .val (.int p2), .val (.int p3), .val (.int p4), .val (.int ((p0 &&& (3 : Int32)) + (1 : Int32))), .val (.int z162), .val (.int z163), .val (.int z164), .val (.int z165), .val (.ref cb), .val (.ref sb), .unset, .unset] [(.int (2 : Int32)), (.ref cb)])) rfl (by rw [hml]; rfl) (argsL := [(.ref cb), (.int (2 : Int32))]) (rest := []) (lenOf pd___CI_Z_402 rfl) rfl (by show 2 * 0 + _ ≤ _; exact Nat.le_of_eq rfl) (hb hby at_161) (fun _ _ => ⟨rfl, e168, (by decide : 6 + 0 ≤ _), (by decide : 28 + 0 ≤ _)⟩)
        dsimp only [Pt.U, Pt.locs, Pt.cells, Pt.slots] at X170 l170 y170 z170 st170 hQ170
        subst l170 y170 z170
        obtain ⟨z170, rfl, N170q, e170q, hz170⟩ := hQ170
        have N170 := Fr.app N168 N170q
        refine own_by st170 ?_
        have e170 : T170.heap = hJ140 := e170q
        show own_Comes p e below s _ _ _ (T170.setTop (mkF m 164 #[.val (.int p0), .val (.int p1), .val (.int p2), .val (.int p3), .val (.int p4), .val (.int ((p0 &&& (3 : Int32)) + (1 : Int32))), .val (.int z162), .val (.int z163), .val (.int z164), .val (.int z165), .val (.ref cb), .val (.ref sb), .unset, .unset] [(.int z170)]))
        by_cases hq2 : z170 = (0 : Int32)
        · refine own_by (fun _ kS => XS.ifYes X170.here hx rfl (pc0 := 164) (pc' := 180) rfl (hb hby at_164) rfl ((if0 _ _).trans (teq hq2).1) (by decide) (by decide) kS) ?_
          show own_Comes p e below s _ _ _ (T170.setTop (mkF m 180 #[.val (.int p0), .val (.int p1), .val (.int p2), .val (.int p3), .val (.int p4), .val (.int ((p0 &&& (3 : Int32)) + (1 : Int32))), .val (.int z162), .val (.int z163), .val (.int z164), .val (.int z165), .val (.ref cb), .val (.ref sb), .unset, .unset] []))
          refine own_by (fun _ kS => XS.iconst X170.here hx rfl (hb hby at_180) kS) ?_
          show own_Comes p e below s _ _ _ (T170.setTop (mkF m 181 #[.val (.int p0), .val (.int p1), .val (.int p2), .val (.int p3), .val (.int p4), .val (.int ((p0 &&& (3 : Int32)) + (1 : Int32))), .val (.int z162), .val (.int z163), .val (.int z164), .val (.int z165), .val (.ref cb), .val (.ref sb), .unset, .unset] [(.int (0 : Int32))]))
          refine own_by (fun _ kS => XS.istore X170.here hx rfl (hb hby at_181) rfl (l' := #[.val (.int p0), .val (.int p1), .val (.int p2), .val (.int p3), .val (.int p4), .val (.int ((p0 &&& (3 : Int32)) + (1 : Int32))), .val (.int z162), .val (.int z163), .val (.int z164), .val (.int z165), .val (.ref cb), .val (.ref sb), .val (.int (0 : Int32)), .unset]) rfl kS) ?_
          show own_Comes p e below s _ _ _ (T170.setTop (mkF m 183 #[.val (.int p0), .val (.int p1), .val (.int p2), .val (.int p3), .val (.int p4), .val (.int ((p0 &&& (3 : Int32)) + (1 : Int32))), .val (.int z162), .val (.int z163), .val (.int z164), .val (.int z165), .val (.ref cb), .val (.ref sb), .val (.int (0 : Int32)), .unset] []))
          refine own_by (fun _ kS => XS.iload X170.here hx rfl (hb hby at_183) rfl kS) ?_
          show own_Comes p e below s _ _ _ (T170.setTop (mkF m 185 #[.val (.int p0), .val (.int p1), .val (.int p2), .val (.int p3), .val (.int p4), .val (.int ((p0 &&& (3 : Int32)) + (1 : Int32))), .val (.int z162), .val (.int z163), .val (.int z164), .val (.int z165), .val (.ref cb), .val (.ref sb), .val (.int (0 : Int32)), .unset] [(.int (0 : Int32))]))
          have hb171 : (0 : Int32) = (0 : Int32) := by decide
          refine own_by (fun _ kS => XS.ifNo X170.here hx rfl (hb hby at_185) rfl ((if0 _ _).trans (teq hb171).2) kS) ?_
          show own_Comes p e below s _ _ _ (T170.setTop (mkF m 188 #[.val (.int p0), .val (.int p1), .val (.int p2), .val (.int p3), .val (.int p4), .val (.int ((p0 &&& (3 : Int32)) + (1 : Int32))), .val (.int z162), .val (.int z163), .val (.int z164), .val (.int z165), .val (.ref cb), .val (.ref sb), .val (.int (0 : Int32)), .unset] []))
          refine own_by (fun _ kS => XS.iconst X170.here hx rfl (hb hby at_188) kS) ?_
          show own_Comes p e below s _ _ _ (T170.setTop (mkF m 189 #[.val (.int p0), .val (.int p1), .val (.int p2), .val (.int p3), .val (.int p4), .val (.int ((p0 &&& (3 : Int32)) + (1 : Int32))), .val (.int z162), .val (.int z163), .val (.int z164), .val (.int z165), .val (.ref cb), .val (.ref sb), .val (.int (0 : Int32)), .unset] [(.int (1 : Int32))]))
          refine own_ret X170 (v := some (.int (1 : Int32))) (fun h => by rw [Bd.returns] at h; cases h) Bd.notSynchronized (by decide) (by decide) ?_ (fun fs hr => retN X170 hx (t := .boolean) Bd.returns (by simp) (hb hby at_189) hr)
          rw [e170]; exact ⟨rfl, N170⟩
        · refine own_by (fun _ kS => XS.ifNo X170.here hx rfl (hb hby at_164) rfl ((if0 _ _).trans (feq hq2).1) kS) ?_
          show own_Comes p e below s _ _ _ (T170.setTop (mkF m 167 #[.val (.int p0), .val (.int p1), .val (.int p2), .val (.int p3), .val (.int p4), .val (.int ((p0 &&& (3 : Int32)) + (1 : Int32))), .val (.int z162), .val (.int z163), .val (.int z164), .val (.int z165), .val (.ref cb), .val (.ref sb), .unset, .unset] []))
          refine own_by (fun _ kS => XS.aload X170.here hx rfl (hb hby at_167) rfl rfl kS) ?_
          show own_Comes p e below s _ _ _ (T170.setTop (mkF m 169 #[.val (.int p0), .val (.int p1), .val (.int p2), .val (.int p3), .val (.int p4), .val (.int ((p0 &&& (3 : Int32)) + (1 : Int32))), .val (.int z162), .val (.int z163), .val (.int z164), .val (.int z165), .val (.ref cb), .val (.ref sb), .unset, .unset] [(.ref cb)]))
          refine own_by (fun _ kS => XS.iconst X170.here hx rfl (hb hby at_169) kS) ?_
          show own_Comes p e below s _ _ _ (T170.setTop (mkF m 170 #[.val (.int p0), .val (.int p1), .val (.int p2), .val (.int p3), .val (.int p4), .val (.int ((p0 &&& (3 : Int32)) + (1 : Int32))), .val (.int z162), .val (.int z163), .val (.int z164), .val (.int z165), .val (.ref cb), .val (.ref sb), .unset, .unset] [(.int (3 : Int32)), (.ref cb)]))
          obtain ⟨vv172, _, ⟨T172, L172, k172, n172⟩, -, X172, ⟨Lc172, hQ172, l172, y172, z172⟩, st172⟩ := Jvm.LawKit.callS X170 hx (y := (⟨"com/example/holdfast/holdfast/spi/LockArgumentsRequireNamePinLaw", "ok", "([CI)Z"⟩ : MethodName)) hown (mvT hZ (hw _ (List.mem_of_getElem? (i := 37) rfl))) (mvT hZ (hw _ (List.mem_of_getElem? (i := 38) rfl))) (mvT hZ (hw _ (List.mem_of_getElem? (i := 2) rfl))) (mvT hZ (hw _ (List.mem_of_getElem? (i := 39) rfl))) (by decide) (backOf (W := 0) (rm8 l Z a0 hw [] cb (3 : Int32) 3 kc cs hJ140 n0 ZJ140 rfl Vs hl (by omega)) hZ (hw _ (List.mem_of_getElem? (i := 39) rfl)) (hw _ (List.mem_of_getElem? (i := 2) rfl)) (by decide) (by decide)) (g := (mkF m 170 #[.val (.int p0), .val (.int p1), .val (.int p2), .val (.int p3), .val (.int p4), .val (.int ((p0 &&& (3 : Int32)) + (1 : Int32))), .val (.int z162), .val (.int z163), .val (.int z164), .val (.int z165), .val (.ref cb), .val (.ref sb), .unset, .unset] [(.int (3 : Int32)), (.ref cb)])) rfl (by rw [hml]; rfl) (argsL := [(.ref cb), (.int (3 : Int32))]) (rest := []) (lenOf pd___CI_Z_402 rfl) rfl (by show 2 * 0 + _ ≤ _; exact Nat.le_of_eq rfl) (hb hby at_170) (fun _ _ => ⟨rfl, e170, (by decide : 6 + 0 ≤ _), (by decide : 28 + 0 ≤ _)⟩)
          dsimp only [Pt.U, Pt.locs, Pt.cells, Pt.slots] at X172 l172 y172 z172 st172 hQ172
          subst l172 y172 z172
          obtain ⟨z172, rfl, N172q, e172q, hz172⟩ := hQ172
          have N172 := Fr.app N170 N172q
          refine own_by st172 ?_
          have e172 : T172.heap = hJ140 := e172q
          show own_Comes p e below s _ _ _ (T172.setTop (mkF m 173 #[.val (.int p0), .val (.int p1), .val (.int p2), .val (.int p3), .val (.int p4), .val (.int ((p0 &&& (3 : Int32)) + (1 : Int32))), .val (.int z162), .val (.int z163), .val (.int z164), .val (.int z165), .val (.ref cb), .val (.ref sb), .unset, .unset] [(.int z172)]))
          by_cases hq3 : z172 = (0 : Int32)
          · refine own_by (fun _ kS => XS.ifYes X172.here hx rfl (pc0 := 173) (pc' := 180) rfl (hb hby at_173) rfl ((if0 _ _).trans (teq hq3).1) (by decide) (by decide) kS) ?_
            show own_Comes p e below s _ _ _ (T172.setTop (mkF m 180 #[.val (.int p0), .val (.int p1), .val (.int p2), .val (.int p3), .val (.int p4), .val (.int ((p0 &&& (3 : Int32)) + (1 : Int32))), .val (.int z162), .val (.int z163), .val (.int z164), .val (.int z165), .val (.ref cb), .val (.ref sb), .unset, .unset] []))
            refine own_by (fun _ kS => XS.iconst X172.here hx rfl (hb hby at_180) kS) ?_
            show own_Comes p e below s _ _ _ (T172.setTop (mkF m 181 #[.val (.int p0), .val (.int p1), .val (.int p2), .val (.int p3), .val (.int p4), .val (.int ((p0 &&& (3 : Int32)) + (1 : Int32))), .val (.int z162), .val (.int z163), .val (.int z164), .val (.int z165), .val (.ref cb), .val (.ref sb), .unset, .unset] [(.int (0 : Int32))]))
            refine own_by (fun _ kS => XS.istore X172.here hx rfl (hb hby at_181) rfl (l' := #[.val (.int p0), .val (.int p1), .val (.int p2), .val (.int p3), .val (.int p4), .val (.int ((p0 &&& (3 : Int32)) + (1 : Int32))), .val (.int z162), .val (.int z163), .val (.int z164), .val (.int z165), .val (.ref cb), .val (.ref sb), .val (.int (0 : Int32)), .unset]) rfl kS) ?_
            show own_Comes p e below s _ _ _ (T172.setTop (mkF m 183 #[.val (.int p0), .val (.int p1), .val (.int p2), .val (.int p3), .val (.int p4), .val (.int ((p0 &&& (3 : Int32)) + (1 : Int32))), .val (.int z162), .val (.int z163), .val (.int z164), .val (.int z165), .val (.ref cb), .val (.ref sb), .val (.int (0 : Int32)), .unset] []))
            refine own_by (fun _ kS => XS.iload X172.here hx rfl (hb hby at_183) rfl kS) ?_
            show own_Comes p e below s _ _ _ (T172.setTop (mkF m 185 #[.val (.int p0), .val (.int p1), .val (.int p2), .val (.int p3), .val (.int p4), .val (.int ((p0 &&& (3 : Int32)) + (1 : Int32))), .val (.int z162), .val (.int z163), .val (.int z164), .val (.int z165), .val (.ref cb), .val (.ref sb), .val (.int (0 : Int32)), .unset] [(.int (0 : Int32))]))
            have hb173 : (0 : Int32) = (0 : Int32) := by decide
            refine own_by (fun _ kS => XS.ifNo X172.here hx rfl (hb hby at_185) rfl ((if0 _ _).trans (teq hb173).2) kS) ?_
            show own_Comes p e below s _ _ _ (T172.setTop (mkF m 188 #[.val (.int p0), .val (.int p1), .val (.int p2), .val (.int p3), .val (.int p4), .val (.int ((p0 &&& (3 : Int32)) + (1 : Int32))), .val (.int z162), .val (.int z163), .val (.int z164), .val (.int z165), .val (.ref cb), .val (.ref sb), .val (.int (0 : Int32)), .unset] []))
            refine own_by (fun _ kS => XS.iconst X172.here hx rfl (hb hby at_188) kS) ?_
            show own_Comes p e below s _ _ _ (T172.setTop (mkF m 189 #[.val (.int p0), .val (.int p1), .val (.int p2), .val (.int p3), .val (.int p4), .val (.int ((p0 &&& (3 : Int32)) + (1 : Int32))), .val (.int z162), .val (.int z163), .val (.int z164), .val (.int z165), .val (.ref cb), .val (.ref sb), .val (.int (0 : Int32)), .unset] [(.int (1 : Int32))]))
            refine own_ret X172 (v := some (.int (1 : Int32))) (fun h => by rw [Bd.returns] at h; cases h) Bd.notSynchronized (by decide) (by decide) ?_ (fun fs hr => retN X172 hx (t := .boolean) Bd.returns (by simp) (hb hby at_189) hr)
            rw [e172]; exact ⟨rfl, N172⟩
          · refine own_by (fun _ kS => XS.ifNo X172.here hx rfl (hb hby at_173) rfl ((if0 _ _).trans (feq hq3).1) kS) ?_
            show own_Comes p e below s _ _ _ (T172.setTop (mkF m 176 #[.val (.int p0), .val (.int p1), .val (.int p2), .val (.int p3), .val (.int p4), .val (.int ((p0 &&& (3 : Int32)) + (1 : Int32))), .val (.int z162), .val (.int z163), .val (.int z164), .val (.int z165), .val (.ref cb), .val (.ref sb), .unset, .unset] []))
            refine own_by (fun _ kS => XS.iconst X172.here hx rfl (hb hby at_176) kS) ?_
            show own_Comes p e below s _ _ _ (T172.setTop (mkF m 177 #[.val (.int p0), .val (.int p1), .val (.int p2), .val (.int p3), .val (.int p4), .val (.int ((p0 &&& (3 : Int32)) + (1 : Int32))), .val (.int z162), .val (.int z163), .val (.int z164), .val (.int z165), .val (.ref cb), .val (.ref sb), .unset, .unset] [(.int (1 : Int32))]))
            refine own_by (fun _ kS => XS.goto X172.here hx rfl (pc0 := 177) (pc' := 181) rfl (hb hby at_177) (by decide) (by decide) kS) ?_
            show own_Comes p e below s _ _ _ (T172.setTop (mkF m 181 #[.val (.int p0), .val (.int p1), .val (.int p2), .val (.int p3), .val (.int p4), .val (.int ((p0 &&& (3 : Int32)) + (1 : Int32))), .val (.int z162), .val (.int z163), .val (.int z164), .val (.int z165), .val (.ref cb), .val (.ref sb), .unset, .unset] [(.int (1 : Int32))]))
            refine own_by (fun _ kS => XS.istore X172.here hx rfl (hb hby at_181) rfl (l' := #[.val (.int p0), .val (.int p1), .val (.int p2), .val (.int p3), .val (.int p4), .val (.int ((p0 &&& (3 : Int32)) + (1 : Int32))), .val (.int z162), .val (.int z163), .val (.int z164), .val (.int z165), .val (.ref cb), .val (.ref sb), .val (.int (1 : Int32)), .unset]) rfl kS) ?_
            show own_Comes p e below s _ _ _ (T172.setTop (mkF m 183 #[.val (.int p0), .val (.int p1), .val (.int p2), .val (.int p3), .val (.int p4), .val (.int ((p0 &&& (3 : Int32)) + (1 : Int32))), .val (.int z162), .val (.int z163), .val (.int z164), .val (.int z165), .val (.ref cb), .val (.ref sb), .val (.int (1 : Int32)), .unset] []))
            refine own_by (fun _ kS => XS.iload X172.here hx rfl (hb hby at_183) rfl kS) ?_
            show own_Comes p e below s _ _ _ (T172.setTop (mkF m 185 #[.val (.int p0), .val (.int p1), .val (.int p2), .val (.int p3), .val (.int p4), .val (.int ((p0 &&& (3 : Int32)) + (1 : Int32))), .val (.int z162), .val (.int z163), .val (.int z164), .val (.int z165), .val (.ref cb), .val (.ref sb), .val (.int (1 : Int32)), .unset] [(.int (1 : Int32))]))
            have hb174 : ¬ ((1 : Int32) = (0 : Int32)) := by decide
            refine own_by (fun _ kS => XS.ifYes X172.here hx rfl (pc0 := 185) (pc' := 190) rfl (hb hby at_185) rfl ((if0 _ _).trans (feq hb174).2) (by decide) (by decide) kS) ?_
            show own_Comes p e below s _ _ _ (T172.setTop (mkF m 190 #[.val (.int p0), .val (.int p1), .val (.int p2), .val (.int p3), .val (.int p4), .val (.int ((p0 &&& (3 : Int32)) + (1 : Int32))), .val (.int z162), .val (.int z163), .val (.int z164), .val (.int z165), .val (.ref cb), .val (.ref sb), .val (.int (1 : Int32)), .unset] []))
            refine own_by (fun _ kS => XS.aload X172.here hx rfl (hb hby at_190) rfl rfl kS) ?_
            show own_Comes p e below s _ _ _ (T172.setTop (mkF m 192 #[.val (.int p0), .val (.int p1), .val (.int p2), .val (.int p3), .val (.int p4), .val (.int ((p0 &&& (3 : Int32)) + (1 : Int32))), .val (.int z162), .val (.int z163), .val (.int z164), .val (.int z165), .val (.ref cb), .val (.ref sb), .val (.int (1 : Int32)), .unset] [(.ref sb)]))
            obtain ⟨vv175, _, ⟨T175, L175, k175, n175⟩, -, X175, ⟨Lc175, hQ175, l175, y175, z175⟩, st175⟩ := Jvm.LawKit.callS X172 hx (y := (⟨"com/example/holdfast/holdfast/spi/LockArguments", "requireName", "(Ljava/lang/String;)Ljava/lang/String;"⟩ : MethodName)) hown (mvT hZ (hw _ (List.mem_of_getElem? (i := 66) rfl))) (mvT hZ (hw _ (List.mem_of_getElem? (i := 67) rfl))) (mvT hZ (hw _ (List.mem_of_getElem? (i := 68) rfl))) (mvT hZ (hw _ (List.mem_of_getElem? (i := 69) rfl))) (by decide) (backOf (W := 0) (rm16 l Z a0 hw [] sb cs zc fm hJ140 n0 ZJ140 OJ140 Sz hzc Sf i_fm Sd Sh Sl hY h0l (own_all hl (hz166 hq0) (hz168 hq1) (hz170 hq2) (hz172 hq3))) hZ (hw _ (List.mem_of_getElem? (i := 69) rfl)) (hw _ (List.mem_of_getElem? (i := 68) rfl)) (by decide) (by decide)) (g := (mkF m 192 #[.val (.int p0), .val (.int p1), .val (.int p2), .val (.int p3), .val (.int p4), .val (.int ((p0 &&& (3 : Int32)) + (1 : Int32))), .val (.int z162), .val (.int z163), .val (.int z164), .val (.int z165), .val (.ref cb), .val (.ref sb), .val (.int (1 : Int32)), .unset] [(.ref sb)])) rfl (by rw [hml]; rfl) (argsL := [(.ref sb)]) (rest := []) (lenOf pd__Ljava_lang_String__Ljava_lang_String__482 rfl) rfl (by show 2 * 0 + _ ≤ _; exact Nat.le_of_eq rfl) (hb hby at_192) (fun _ _ => ⟨rfl, e172, (by decide : 6 + 0 ≤ _), (by decide : 28 + 0 ≤ _)⟩)
            dsimp only [Pt.U, Pt.locs, Pt.cells, Pt.slots] at X175 l175 y175 z175 st175 hQ175
            subst l175 y175 z175
            obtain ⟨rfl, N175q, e175q⟩ := hQ175
            have N175 := Fr.app N172 N175q
            refine own_by st175 ?_
            have e175 : T175.heap = hJ140 := e175q
            show own_Comes p e below s _ _ _ (T175.setTop (mkF m 195 #[.val (.int p0), .val (.int p1), .val (.int p2), .val (.int p3), .val (.int p4), .val (.int ((p0 &&& (3 : Int32)) + (1 : Int32))), .val (.int z162), .val (.int z163), .val (.int z164), .val (.int z165), .val (.ref cb), .val (.ref sb), .val (.int (1 : Int32)), .unset] [(.ref sb)]))
            refine own_by (fun _ kS => XS.astore X175.here hx rfl (hb hby at_195) rfl rfl (l' := #[.val (.int p0), .val (.int p1), .val (.int p2), .val (.int p3), .val (.int p4), .val (.int ((p0 &&& (3 : Int32)) + (1 : Int32))), .val (.int z162), .val (.int z163), .val (.int z164), .val (.int z165), .val (.ref cb), .val (.ref sb), .val (.int (1 : Int32)), .val (.ref sb)]) rfl kS) ?_
            show own_Comes p e below s _ _ _ (T175.setTop (mkF m 197 #[.val (.int p0), .val (.int p1), .val (.int p2), .val (.int p3), .val (.int p4), .val (.int ((p0 &&& (3 : Int32)) + (1 : Int32))), .val (.int z162), .val (.int z163), .val (.int z164), .val (.int z165), .val (.ref cb), .val (.ref sb), .val (.int (1 : Int32)), .val (.ref sb)] []))
            refine own_by (fun _ kS => XS.aload X175.here hx rfl (hb hby at_197) rfl rfl kS) ?_
            show own_Comes p e below s _ _ _ (T175.setTop (mkF m 199 #[.val (.int p0), .val (.int p1), .val (.int p2), .val (.int p3), .val (.int p4), .val (.int ((p0 &&& (3 : Int32)) + (1 : Int32))), .val (.int z162), .val (.int z163), .val (.int z164), .val (.int z165), .val (.ref cb), .val (.ref sb), .val (.int (1 : Int32)), .val (.ref sb)] [(.ref sb)]))
            refine own_by (fun _ kS => XS.aload X175.here hx rfl (hb hby at_199) rfl rfl kS) ?_
            show own_Comes p e below s _ _ _ (T175.setTop (mkF m 201 #[.val (.int p0), .val (.int p1), .val (.int p2), .val (.int p3), .val (.int p4), .val (.int ((p0 &&& (3 : Int32)) + (1 : Int32))), .val (.int z162), .val (.int z163), .val (.int z164), .val (.int z165), .val (.ref cb), .val (.ref sb), .val (.int (1 : Int32)), .val (.ref sb)] [(.ref sb), (.ref sb)]))
            refine own_by (fun _ kS => Jvm.RoadKit.acmp (g := (mkF m 201 #[.val (.int p0), .val (.int p1), .val (.int p2), .val (.int p3), .val (.int p4), .val (.int ((p0 &&& (3 : Int32)) + (1 : Int32))), .val (.int z162), .val (.int z163), .val (.int z164), .val (.int z165), .val (.ref cb), .val (.ref sb), .val (.int (1 : Int32)), .val (.ref sb)] [(.ref sb), (.ref sb)])) X175 hx rfl rfl rfl (pc0 := 201) (pc' := 204) (same := true) rfl (hb hby at_201) rfl (decide_eq_true rfl) (by decide) (by decide) kS) ?_
            show own_Comes p e below s _ _ _ (T175.setTop (mkF m 204 #[.val (.int p0), .val (.int p1), .val (.int p2), .val (.int p3), .val (.int p4), .val (.int ((p0 &&& (3 : Int32)) + (1 : Int32))), .val (.int z162), .val (.int z163), .val (.int z164), .val (.int z165), .val (.ref cb), .val (.ref sb), .val (.int (1 : Int32)), .val (.ref sb)] []))
            refine own_by (fun _ kS => XS.iconst X175.here hx rfl (hb hby at_204) kS) ?_
            show own_Comes p e below s _ _ _ (T175.setTop (mkF m 205 #[.val (.int p0), .val (.int p1), .val (.int p2), .val (.int p3), .val (.int p4), .val (.int ((p0 &&& (3 : Int32)) + (1 : Int32))), .val (.int z162), .val (.int z163), .val (.int z164), .val (.int z165), .val (.ref cb), .val (.ref sb), .val (.int (1 : Int32)), .val (.ref sb)] [(.int (1 : Int32))]))
            refine own_by (fun _ kS => XS.goto X175.here hx rfl (pc0 := 205) (pc' := 209) rfl (hb hby at_205) (by decide) (by decide) kS) ?_
            show own_Comes p e below s _ _ _ (T175.setTop (mkF m 209 #[.val (.int p0), .val (.int p1), .val (.int p2), .val (.int p3), .val (.int p4), .val (.int ((p0 &&& (3 : Int32)) + (1 : Int32))), .val (.int z162), .val (.int z163), .val (.int z164), .val (.int z165), .val (.ref cb), .val (.ref sb), .val (.int (1 : Int32)), .val (.ref sb)] [(.int (1 : Int32))]))
            refine own_ret X175 (v := some (.int (1 : Int32))) (fun h => by rw [Bd.returns] at h; cases h) Bd.notSynchronized (by decide) (by decide) ?_ (fun fs hr => retN X175 hx (t := .boolean) Bd.returns (by simp) (hb hby at_209) hr)
            rw [e175]; exact ⟨rfl, N175⟩
  refine own_by (fun _ kS => XS.iload X165.here hx rfl (hb hby at_32) rfl kS) ?_
  show own_Comes p e below s _ _ _ (T165.setTop (mkF m 34 #[.val (.int p0), .val (.int p1), .val (.int p2), .val (.int p3), .val (.int p4), .val (.int ((p0 &&& (3 : Int32)) + (1 : Int32))), .val (.int z162), .val (.int z163), .val (.int z164), .val (.int z165), .unset, .unset, .unset, .unset] [(.int ((p0 &&& (3 : Int32)) + (1 : Int32)))]))
  refine own_by (fun _ kS => XS.iconst X165.here hx rfl (hb hby at_34) kS) ?_
  show own_Comes p e below s _ _ _ (T165.setTop (mkF m 35 #[.val (.int p0), .val (.int p1), .val (.int p2), .val (.int p3), .val (.int p4), .val (.int ((p0 &&& (3 : Int32)) + (1 : Int32))), .val (.int z162), .val (.int z163), .val (.int z164), .val (.int z165), .unset, .unset, .unset, .unset] [(.int (1 : Int32)), (.int ((p0 &&& (3 : Int32)) + (1 : Int32)))]))
  by_cases hl1 : ((p0 &&& (3 : Int32)) + (1 : Int32)) = (1 : Int32)
  · refine own_by (fun _ kS => XS.icmpNo X165.here hx rfl (hb hby at_35) rfl (teq hl1).2 kS) ?_
    show own_Comes p e below s _ _ _ (T165.setTop (mkF m 38 #[.val (.int p0), .val (.int p1), .val (.int p2), .val (.int p3), .val (.int p4), .val (.int ((p0 &&& (3 : Int32)) + (1 : Int32))), .val (.int z162), .val (.int z163), .val (.int z164), .val (.int z165), .unset, .unset, .unset, .unset] []))
    refine own_by (fun _ kS => XS.iconst X165.here hx rfl (hb hby at_38) kS) ?_
    show own_Comes p e below s _ _ _ (T165.setTop (mkF m 39 #[.val (.int p0), .val (.int p1), .val (.int p2), .val (.int p3), .val (.int p4), .val (.int ((p0 &&& (3 : Int32)) + (1 : Int32))), .val (.int z162), .val (.int z163), .val (.int z164), .val (.int z165), .unset, .unset, .unset, .unset] [(.int (1 : Int32))]))
    obtain ⟨T176, h176, k176, X176, e176, E176, A176, st176⟩ := newP X165 hx hZ (hw _ (List.mem_of_getElem? (i := 7) rfl)) e165 (g := (mkF m 39 #[.val (.int p0), .val (.int p1), .val (.int p2), .val (.int p3), .val (.int p4), .val (.int ((p0 &&& (3 : Int32)) + (1 : Int32))), .val (.int z162), .val (.int z163), .val (.int z164), .val (.int z165), .unset, .unset, .unset, .unset] [(.int (1 : Int32))])) rfl (hb hby at_39) rfl (by decide) (cap := 1) (by decide) (by decide) (by decide) (by decide)
    obtain ⟨b176, g176⟩ : ∃ z, z = h0.size := ⟨_, rfl⟩
    rw [← g176] at A176 st176
    have g_b176 : n0 ≤ b176 := Nat.le_trans Z0 (Nat.le_of_eq g176.symm)
    refine own_by st176 ?_
    have V_b176 : Arv Z h176 b176 k176 .char (1 : Int32) [(.int (0 : Int32))] (.int (0 : Int32)) := (Arv.new A176 (by decide)).pad (pad_rep [] (.int (0 : Int32)) 1)
    show own_Comes p e below s _ _ _ (T176.setTop (mkF m 41 #[.val (.int p0), .val (.int p1), .val (.int p2), .val (.int p3), .val (.int p4), .val (.int ((p0 &&& (3 : Int32)) + (1 : Int32))), .val (.int z162), .val (.int z163), .val (.int z164), .val (.int z165), .unset, .unset, .unset, .unset] [(.ref b176)]))
    refine own_by (fun _ kS => XS.dup X176.here hx rfl (hb hby at_41) rfl rfl kS) ?_
    show own_Comes p e below s _ _ _ (T176.setTop (mkF m 42 #[.val (.int p0), .val (.int p1), .val (.int p2), .val (.int p3), .val (.int p4), .val (.int ((p0 &&& (3 : Int32)) + (1 : Int32))), .val (.int z162), .val (.int z163), .val (.int z164), .val (.int z165), .unset, .unset, .unset, .unset] [(.ref b176), (.ref b176)]))
    refine own_by (fun _ kS => XS.iconst X176.here hx rfl (hb hby at_42) kS) ?_
    show own_Comes p e below s _ _ _ (T176.setTop (mkF m 43 #[.val (.int p0), .val (.int p1), .val (.int p2), .val (.int p3), .val (.int p4), .val (.int ((p0 &&& (3 : Int32)) + (1 : Int32))), .val (.int z162), .val (.int z163), .val (.int z164), .val (.int z165), .unset, .unset, .unset, .unset] [(.int (0 : Int32)), (.ref b176), (.ref b176)]))
    refine own_by (fun _ kS => XS.iload X176.here hx rfl (hb hby at_43) rfl kS) ?_
    show own_Comes p e below s _ _ _ (T176.setTop (mkF m 45 #[.val (.int p0), .val (.int p1), .val (.int p2), .val (.int p3), .val (.int p4), .val (.int ((p0 &&& (3 : Int32)) + (1 : Int32))), .val (.int z162), .val (.int z163), .val (.int z164), .val (.int z165), .unset, .unset, .unset, .unset] [(.int z162), (.int (0 : Int32)), (.ref b176), (.ref b176)]))
    have Vo177 := V_b176
    obtain ⟨cl177, Ar177, qA177, SA177, NA177, HA177, GA177⟩ := Vo177
    have hin177 : ¬ ((0 : Int32) < 0 ∨ cl177.slots.size ≤ ((0 : Int32)).toNatClampNeg) := inb_of SA177 ⟨by decide, by decide⟩
    obtain ⟨T178, h178, X178, e178, W178, st178⟩ := stC X176 hx hZ e176 Ar177 (j := (0 : Int32)) hin177 (g := (mkF m 45 #[.val (.int p0), .val (.int p1), .val (.int p2), .val (.int p3), .val (.int p4), .val (.int ((p0 &&& (3 : Int32)) + (1 : Int32))), .val (.int z162), .val (.int z163), .val (.int z164), .val (.int z165), .unset, .unset, .unset, .unset] [(.int z162), (.int (0 : Int32)), (.ref b176), (.ref b176)])) rfl rfl (hb hby at_45)
    refine own_by st178 ?_
    have V178 : Arv Z h178 b176 k176 .char (1 : Int32) [(.int (nar .char z162))] (.int (0 : Int32)) := Arv.set Ar177 qA177 SA177 NA177 HA177 GA177 (by first | rfl | exact fits_nar_char _) W178 0 rfl (Nat.le_of_ble_eq_true rfl)
    have N178 := Fr.snoc X178 N165 g_b176
    show own_Comes p e below s _ _ _ (T178.setTop (mkF m 46 #[.val (.int p0), .val (.int p1), .val (.int p2), .val (.int p3), .val (.int p4), .val (.int ((p0 &&& (3 : Int32)) + (1 : Int32))), .val (.int z162), .val (.int z163), .val (.int z164), .val (.int z165), .unset, .unset, .unset, .unset] [(.ref b176)]))
    refine own_by (fun _ kS => XS.astore X178.here hx rfl (hb hby at_46) rfl rfl (l' := #[.val (.int p0), .val (.int p1), .val (.int p2), .val (.int p3), .val (.int p4), .val (.int ((p0 &&& (3 : Int32)) + (1 : Int32))), .val (.int z162), .val (.int z163), .val (.int z164), .val (.int z165), .val (.ref b176), .unset, .unset, .unset]) rfl kS) ?_
    show own_Comes p e below s _ _ _ (T178.setTop (mkF m 48 #[.val (.int p0), .val (.int p1), .val (.int p2), .val (.int p3), .val (.int p4), .val (.int ((p0 &&& (3 : Int32)) + (1 : Int32))), .val (.int z162), .val (.int z163), .val (.int z164), .val (.int z165), .val (.ref b176), .unset, .unset, .unset] []))
    refine own_by (fun _ kS => XS.goto X178.here hx rfl (pc0 := 48) (pc' := 129) rfl (hb hby at_48) (by decide) (by decide) kS) ?_
    show own_Comes p e below s _ _ _ (T178.setTop (mkF m 129 #[.val (.int p0), .val (.int p1), .val (.int p2), .val (.int p3), .val (.int p4), .val (.int ((p0 &&& (3 : Int32)) + (1 : Int32))), .val (.int z162), .val (.int z163), .val (.int z164), .val (.int z165), .val (.ref b176), .unset, .unset, .unset] []))
    have Vc := V178
    rw [own_nar16 hz162] at Vc
    have hB : ∀ c ∈ [z162], ¬ c < 0 ∧ ¬ (65535 : Int32) < c := fun c hc => by
      simp only [List.mem_cons, List.not_mem_nil, or_false] at hc
      rcases hc with rfl
      · exact hz162
    obtain ⟨T179, h179, X179, e179, E179, A179, D179, -, st179⟩ := newO X178 hx hZ hown (hw _ (List.mem_of_getElem? (i := 8) rfl)) (hw _ (List.mem_of_getElem? (i := 9) rfl)) (hw _ (List.mem_of_getElem? (i := 10) rfl)) e178 (g := (mkF m 129 #[.val (.int p0), .val (.int p1), .val (.int p2), .val (.int p3), .val (.int p4), .val (.int ((p0 &&& (3 : Int32)) + (1 : Int32))), .val (.int z162), .val (.int z163), .val (.int z164), .val (.int z165), .val (.ref b176), .unset, .unset, .unset] [])) rfl (hb hby at_129) (by decide) (by decide)
    obtain ⟨b179, g179⟩ : ∃ z, z = h178.size := ⟨_, rfl⟩
    rw [← g179] at A179 D179 st179
    have g_b179 : n0 ≤ b179 := Nat.le_trans (Nat.le_trans (Nat.le_trans Z0 E176.1) (Keep.of_wr W178).1) (Nat.le_of_eq g179.symm)
    refine own_by st179 ?_
    show own_Comes p e below s _ _ _ (T179.setTop (mkF m 132 #[.val (.int p0), .val (.int p1), .val (.int p2), .val (.int p3), .val (.int p4), .val (.int ((p0 &&& (3 : Int32)) + (1 : Int32))), .val (.int z162), .val (.int z163), .val (.int z164), .val (.int z165), .val (.ref b176), .unset, .unset, .unset] [(.ref b179)]))
    have nA : b179 ≠ b176 := Nat.ne_of_gt (Nat.lt_of_lt_of_le Vc.lt (Nat.le_of_eq g179.symm))
    refine own_by (fun _ kS => XS.dup X179.here hx rfl (hb hby at_132) rfl rfl kS) ?_
    show own_Comes p e below s _ _ _ (T179.setTop (mkF m 133 #[.val (.int p0), .val (.int p1), .val (.int p2), .val (.int p3), .val (.int p4), .val (.int ((p0 &&& (3 : Int32)) + (1 : Int32))), .val (.int z162), .val (.int z163), .val (.int z164), .val (.int z165), .val (.ref b176), .unset, .unset, .unset] [(.ref b179), (.ref b179)]))
    refine own_by (fun _ kS => XS.aload X179.here hx rfl (hb hby at_133) rfl rfl kS) ?_
    show own_Comes p e below s _ _ _ (T179.setTop (mkF m 135 #[.val (.int p0), .val (.int p1), .val (.int p2), .val (.int p3), .val (.int p4), .val (.int ((p0 &&& (3 : Int32)) + (1 : Int32))), .val (.int z162), .val (.int z163), .val (.int z164), .val (.int z165), .val (.ref b176), .unset, .unset, .unset] [(.ref b176), (.ref b179), (.ref b179)]))
    have Vq : Arv Z h179 b176 k176 .char (Int32.ofNat [z162].length) ([z162].map Value.int) (.int 0) := (Vc.ext E179)
    by_cases hw255 : ∃ c ∈ [z162], (255 : Int32) < c
    · show own_Comes p e below s _ _ _ (T179.setTop (mkF m 135 #[.val (.int p0), .val (.int p1), .val (.int p2), .val (.int p3), .val (.int p4), .val (.int ((p0 &&& (3 : Int32)) + (1 : Int32))), .val (.int z162), .val (.int z163), .val (.int z164), .val (.int z165), .val (.ref b176), .unset, .unset, .unset] [(.ref b176), (.ref b179), (.ref b179)]))
      obtain ⟨vv180, _, ⟨T180, L180, k180, n180⟩, -, X180, ⟨Lc180, hQ180, l180, y180, z180⟩, st180⟩ := X179.specialBack hx (y := (⟨"java/lang/String", "<init>", "([C)V"⟩ : MethodName)) rfl hown (mvT hZ (hw _ (List.mem_of_getElem? (i := 11) rfl))) (mvT hZ (hw _ (List.mem_of_getElem? (i := 12) rfl))) (mvT hZ (hw _ (List.mem_of_getElem? (i := 13) rfl))) (by decide) (backOf (W := 1) (rm2w l Z a0 hw [] b179 b176 k176 [z162] zc h179 n0 (Nat.le_trans (Nat.le_trans (Nat.le_trans Z0 E176.1) (Keep.of_wr W178).1) E179.1) (((O0.ext E176).wr W178 g_b176).ext E179) Sz hzc Sd Sh Sl A179 (D179 (Or.inr (hw _ (List.mem_of_getElem? (i := 36) rfl))) (ty := (.array .byte)) (by decide)) (D179 (Or.inr (hw _ (List.mem_of_getElem? (i := 34) rfl))) (ty := .byte) (by decide)) g_b179 nA Vq hw255 (Nat.le_of_ble_eq_true rfl) (Nat.le_of_ble_eq_true rfl) hB) hZ (hw _ (List.mem_of_getElem? (i := 13) rfl)) (hw _ (List.mem_of_getElem? (i := 10) rfl)) (by decide) (by decide)) (g := (mkF m 135 #[.val (.int p0), .val (.int p1), .val (.int p2), .val (.int p3), .val (.int p4), .val (.int ((p0 &&& (3 : Int32)) + (1 : Int32))), .val (.int z162), .val (.int z163), .val (.int z164), .val (.int z165), .val (.ref b176), .unset, .unset, .unset] [(.ref b176), (.ref b179), (.ref b179)])) rfl (by rw [hml]; rfl) (Steps.refl _) (a := b179) (argsL := [(.ref b176)]) (rest := [(.ref b179)]) (lenOf pd___C_V_325 rfl) rfl (by show 2 * 0 + _ ≤ _; exact Nat.le_of_eq rfl) (hb hby at_135) (fun _ _ => ⟨rfl, e179, (by decide : 2 + 2 ≤ _), (by decide : 5 + 12 ≤ _)⟩)
      dsimp only [Pt.U, Pt.locs, Pt.cells, Pt.slots] at X180 l180 y180 z180 st180 hQ180
      subst l180 y180 z180
      obtain ⟨rfl, N180q, K180, Y180⟩ := hQ180
      have N180 := Fr.app N178 N180q
      refine own_tr st180 ?_
      show own_Comes p e below s _ _ _ (T180.setTop (mkF m 138 #[.val (.int p0), .val (.int p1), .val (.int p2), .val (.int p3), .val (.int p4), .val (.int ((p0 &&& (3 : Int32)) + (1 : Int32))), .val (.int z162), .val (.int z163), .val (.int z164), .val (.int z165), .val (.ref b176), .unset, .unset, .unset] [(.ref b179)]))
      refine own_by (fun _ kS => XS.astore X180.here hx rfl (hb hby at_138) rfl rfl (l' := #[.val (.int p0), .val (.int p1), .val (.int p2), .val (.int p3), .val (.int p4), .val (.int ((p0 &&& (3 : Int32)) + (1 : Int32))), .val (.int z162), .val (.int z163), .val (.int z164), .val (.int z165), .val (.ref b176), .val (.ref b179), .unset, .unset]) rfl kS) ?_
      show own_Comes p e below s _ _ _ (T180.setTop (mkF m 140 #[.val (.int p0), .val (.int p1), .val (.int p2), .val (.int p3), .val (.int p4), .val (.int ((p0 &&& (3 : Int32)) + (1 : Int32))), .val (.int z162), .val (.int z163), .val (.int z164), .val (.int z165), .val (.ref b176), .val (.ref b179), .unset, .unset] []))
      have c181 := ((((O0.ext E176).wr W178 g_b176).ext E179).keep K180 (allS g_b179 all0))
      exact J140 b176 b179 k176 [z162] _ _ _ (Vq.keep K180 (ninS (Ne.symm nA) nin0)) Y180 (Nat.le_of_ble_eq_true rfl) (Nat.le_of_ble_eq_true rfl) (X180.more (by decide) (by decide)) rfl N180 c181 (Nat.le_trans (Nat.le_trans (Nat.le_trans (Nat.le_trans Z0 E176.1) (Keep.of_wr W178).1) E179.1) K180.1)
    · show own_Comes p e below s _ _ _ (T179.setTop (mkF m 135 #[.val (.int p0), .val (.int p1), .val (.int p2), .val (.int p3), .val (.int p4), .val (.int ((p0 &&& (3 : Int32)) + (1 : Int32))), .val (.int z162), .val (.int z163), .val (.int z164), .val (.int z165), .val (.ref b176), .unset, .unset, .unset] [(.ref b176), (.ref b179), (.ref b179)]))
      have hp : ∀ c ∈ [z162], ¬ c < 0 ∧ ¬ (255 : Int32) < c := fun c hc => ⟨(hB c hc).1, fun q => hw255 ⟨c, hc, q⟩⟩
      obtain ⟨vv182, _, ⟨T182, L182, k182, n182⟩, -, X182, ⟨Lc182, hQ182, l182, y182, z182⟩, st182⟩ := X179.specialBack hx (y := (⟨"java/lang/String", "<init>", "([C)V"⟩ : MethodName)) rfl hown (mvT hZ (hw _ (List.mem_of_getElem? (i := 11) rfl))) (mvT hZ (hw _ (List.mem_of_getElem? (i := 12) rfl))) (mvT hZ (hw _ (List.mem_of_getElem? (i := 13) rfl))) (by decide) (StrChars.Road.backV (W := 1) hZ hws (kI := 4) (hw _ (List.mem_of_getElem? (i := 9) rfl)) (cs := [z162]) (bs := [z162].map (fun c => c.toInt8.toInt32)) (n := 1) (n0 := n0) g_b179 (Nat.le_trans (Nat.le_trans (Nat.le_trans Z0 E176.1) (Keep.of_wr W178).1) E179.1) A179 (D179 (Or.inr (hw _ (List.mem_of_getElem? (i := 36) rfl))) (ty := (.array .byte)) (by decide)) (D179 (Or.inr (hw _ (List.mem_of_getElem? (i := 34) rfl))) (ty := .byte) (by decide)) Vq (Sz.ext (((O0.ext E176).wr W178 g_b176).ext E179).2) hzc rfl rfl (by decide) (by decide) hp rfl (by decide) (by decide)) (g := (mkF m 135 #[.val (.int p0), .val (.int p1), .val (.int p2), .val (.int p3), .val (.int p4), .val (.int ((p0 &&& (3 : Int32)) + (1 : Int32))), .val (.int z162), .val (.int z163), .val (.int z164), .val (.int z165), .val (.ref b176), .unset, .unset, .unset] [(.ref b176), (.ref b179), (.ref b179)])) rfl (by rw [hml]; rfl) (Steps.refl _) (a := b179) (argsL := [(.ref b176)]) (rest := [(.ref b179)]) (lenOf pd___C_V_325 rfl) rfl (by show 2 * 0 + _ ≤ _; exact Nat.le_of_eq rfl) (hb hby at_135) (fun _ _ => ⟨rfl, e179, (by decide : 2 + 1 ≤ _), (by decide : 5 + 1 ≤ _)⟩)
      dsimp only [Pt.U, Pt.locs, Pt.cells, Pt.slots] at X182 l182 y182 z182 st182 hQ182
      subst l182 y182 z182
      obtain ⟨rfl, N182q, K182, Eb182, Cb182, t182, kb182, _, _, _, Vb182, Ab182⟩ := hQ182
      have N182 := Fr.app N178 N182q
      refine own_tr st182 ?_
      show own_Comes p e below s _ _ _ (T182.setTop (mkF m 138 #[.val (.int p0), .val (.int p1), .val (.int p2), .val (.int p3), .val (.int p4), .val (.int ((p0 &&& (3 : Int32)) + (1 : Int32))), .val (.int z162), .val (.int z163), .val (.int z164), .val (.int z165), .val (.ref b176), .unset, .unset, .unset] [(.ref b179)]))
      have hY : own_Txt Z T182.heap b179 [z162] := ⟨Eb182, t182, kb182, 0, _, _, Vb182, Cb182, Ab182, StrChars.Road.codOf rfl (fun c hc => (hp c hc).2), hB, Nat.le_of_ble_eq_true rfl⟩
      refine own_by (fun _ kS => XS.astore X182.here hx rfl (hb hby at_138) rfl rfl (l' := #[.val (.int p0), .val (.int p1), .val (.int p2), .val (.int p3), .val (.int p4), .val (.int ((p0 &&& (3 : Int32)) + (1 : Int32))), .val (.int z162), .val (.int z163), .val (.int z164), .val (.int z165), .val (.ref b176), .val (.ref b179), .unset, .unset]) rfl kS) ?_
      show own_Comes p e below s _ _ _ (T182.setTop (mkF m 140 #[.val (.int p0), .val (.int p1), .val (.int p2), .val (.int p3), .val (.int p4), .val (.int ((p0 &&& (3 : Int32)) + (1 : Int32))), .val (.int z162), .val (.int z163), .val (.int z164), .val (.int z165), .val (.ref b176), .val (.ref b179), .unset, .unset] []))
      have c183 := ((((O0.ext E176).wr W178 g_b176).ext E179).keep K182 (allS g_b179 all0))
      exact J140 b176 b179 k176 [z162] _ _ _ (Vq.keep K182 (ninS (Ne.symm nA) nin0)) hY (Nat.le_of_ble_eq_true rfl) (Nat.le_of_ble_eq_true rfl) (X182.more (by decide) (by decide)) rfl N182 c183 (Nat.le_trans (Nat.le_trans (Nat.le_trans (Nat.le_trans Z0 E176.1) (Keep.of_wr W178).1) E179.1) K182.1)
  · refine own_by (fun _ kS => XS.icmpYes X165.here hx rfl (pc0 := 35) (pc' := 51) rfl (hb hby at_35) rfl (feq hl1).2 (by decide) (by decide) kS) ?_
    show own_Comes p e below s _ _ _ (T165.setTop (mkF m 51 #[.val (.int p0), .val (.int p1), .val (.int p2), .val (.int p3), .val (.int p4), .val (.int ((p0 &&& (3 : Int32)) + (1 : Int32))), .val (.int z162), .val (.int z163), .val (.int z164), .val (.int z165), .unset, .unset, .unset, .unset] []))
    refine own_by (fun _ kS => XS.iload X165.here hx rfl (hb hby at_51) rfl kS) ?_
    show own_Comes p e below s _ _ _ (T165.setTop (mkF m 53 #[.val (.int p0), .val (.int p1), .val (.int p2), .val (.int p3), .val (.int p4), .val (.int ((p0 &&& (3 : Int32)) + (1 : Int32))), .val (.int z162), .val (.int z163), .val (.int z164), .val (.int z165), .unset, .unset, .unset, .unset] [(.int ((p0 &&& (3 : Int32)) + (1 : Int32)))]))
    refine own_by (fun _ kS => XS.iconst X165.here hx rfl (hb hby at_53) kS) ?_
    show own_Comes p e below s _ _ _ (T165.setTop (mkF m 54 #[.val (.int p0), .val (.int p1), .val (.int p2), .val (.int p3), .val (.int p4), .val (.int ((p0 &&& (3 : Int32)) + (1 : Int32))), .val (.int z162), .val (.int z163), .val (.int z164), .val (.int z165), .unset, .unset, .unset, .unset] [(.int (2 : Int32)), (.int ((p0 &&& (3 : Int32)) + (1 : Int32)))]))
    by_cases hl2 : ((p0 &&& (3 : Int32)) + (1 : Int32)) = (2 : Int32)
    · refine own_by (fun _ kS => XS.icmpNo X165.here hx rfl (hb hby at_54) rfl (teq hl2).2 kS) ?_
      show own_Comes p e below s _ _ _ (T165.setTop (mkF m 57 #[.val (.int p0), .val (.int p1), .val (.int p2), .val (.int p3), .val (.int p4), .val (.int ((p0 &&& (3 : Int32)) + (1 : Int32))), .val (.int z162), .val (.int z163), .val (.int z164), .val (.int z165), .unset, .unset, .unset, .unset] []))
      refine own_by (fun _ kS => XS.iconst X165.here hx rfl (hb hby at_57) kS) ?_
      show own_Comes p e below s _ _ _ (T165.setTop (mkF m 58 #[.val (.int p0), .val (.int p1), .val (.int p2), .val (.int p3), .val (.int p4), .val (.int ((p0 &&& (3 : Int32)) + (1 : Int32))), .val (.int z162), .val (.int z163), .val (.int z164), .val (.int z165), .unset, .unset, .unset, .unset] [(.int (2 : Int32))]))
      obtain ⟨T184, h184, k184, X184, e184, E184, A184, st184⟩ := newP X165 hx hZ (hw _ (List.mem_of_getElem? (i := 7) rfl)) e165 (g := (mkF m 58 #[.val (.int p0), .val (.int p1), .val (.int p2), .val (.int p3), .val (.int p4), .val (.int ((p0 &&& (3 : Int32)) + (1 : Int32))), .val (.int z162), .val (.int z163), .val (.int z164), .val (.int z165), .unset, .unset, .unset, .unset] [(.int (2 : Int32))])) rfl (hb hby at_58) rfl (by decide) (cap := 2) (by decide) (by decide) (by decide) (by decide)
      obtain ⟨b184, g184⟩ : ∃ z, z = h0.size := ⟨_, rfl⟩
      rw [← g184] at A184 st184
      have g_b184 : n0 ≤ b184 := Nat.le_trans Z0 (Nat.le_of_eq g184.symm)
      refine own_by st184 ?_
      have V_b184 : Arv Z h184 b184 k184 .char (2 : Int32) [(.int (0 : Int32)), (.int (0 : Int32))] (.int (0 : Int32)) := (Arv.new A184 (by decide)).pad (pad_rep [] (.int (0 : Int32)) 2)
      show own_Comes p e below s _ _ _ (T184.setTop (mkF m 60 #[.val (.int p0), .val (.int p1), .val (.int p2), .val (.int p3), .val (.int p4), .val (.int ((p0 &&& (3 : Int32)) + (1 : Int32))), .val (.int z162), .val (.int z163), .val (.int z164), .val (.int z165), .unset, .unset, .unset, .unset] [(.ref b184)]))
      refine own_by (fun _ kS => XS.dup X184.here hx rfl (hb hby at_60) rfl rfl kS) ?_
      show own_Comes p e below s _ _ _ (T184.setTop (mkF m 61 #[.val (.int p0), .val (.int p1), .val (.int p2), .val (.int p3), .val (.int p4), .val (.int ((p0 &&& (3 : Int32)) + (1 : Int32))), .val (.int z162), .val (.int z163), .val (.int z164), .val (.int z165), .unset, .unset, .unset, .unset] [(.ref b184), (.ref b184)]))
      refine own_by (fun _ kS => XS.iconst X184.here hx rfl (hb hby at_61) kS) ?_
      show own_Comes p e below s _ _ _ (T184.setTop (mkF m 62 #[.val (.int p0), .val (.int p1), .val (.int p2), .val (.int p3), .val (.int p4), .val (.int ((p0 &&& (3 : Int32)) + (1 : Int32))), .val (.int z162), .val (.int z163), .val (.int z164), .val (.int z165), .unset, .unset, .unset, .unset] [(.int (0 : Int32)), (.ref b184), (.ref b184)]))
      refine own_by (fun _ kS => XS.iload X184.here hx rfl (hb hby at_62) rfl kS) ?_
      show own_Comes p e below s _ _ _ (T184.setTop (mkF m 64 #[.val (.int p0), .val (.int p1), .val (.int p2), .val (.int p3), .val (.int p4), .val (.int ((p0 &&& (3 : Int32)) + (1 : Int32))), .val (.int z162), .val (.int z163), .val (.int z164), .val (.int z165), .unset, .unset, .unset, .unset] [(.int z162), (.int (0 : Int32)), (.ref b184), (.ref b184)]))
      have Vo185 := V_b184
      obtain ⟨cl185, Ar185, qA185, SA185, NA185, HA185, GA185⟩ := Vo185
      have hin185 : ¬ ((0 : Int32) < 0 ∨ cl185.slots.size ≤ ((0 : Int32)).toNatClampNeg) := inb_of SA185 ⟨by decide, by decide⟩
      obtain ⟨T186, h186, X186, e186, W186, st186⟩ := stC X184 hx hZ e184 Ar185 (j := (0 : Int32)) hin185 (g := (mkF m 64 #[.val (.int p0), .val (.int p1), .val (.int p2), .val (.int p3), .val (.int p4), .val (.int ((p0 &&& (3 : Int32)) + (1 : Int32))), .val (.int z162), .val (.int z163), .val (.int z164), .val (.int z165), .unset, .unset, .unset, .unset] [(.int z162), (.int (0 : Int32)), (.ref b184), (.ref b184)])) rfl rfl (hb hby at_64)
      refine own_by st186 ?_
      have V186 : Arv Z h186 b184 k184 .char (2 : Int32) [(.int (nar .char z162)), (.int (0 : Int32))] (.int (0 : Int32)) := Arv.set Ar185 qA185 SA185 NA185 HA185 GA185 (by first | rfl | exact fits_nar_char _) W186 0 rfl (Nat.le_of_ble_eq_true rfl)
      have N186 := Fr.snoc X186 N165 g_b184
      show own_Comes p e below s _ _ _ (T186.setTop (mkF m 65 #[.val (.int p0), .val (.int p1), .val (.int p2), .val (.int p3), .val (.int p4), .val (.int ((p0 &&& (3 : Int32)) + (1 : Int32))), .val (.int z162), .val (.int z163), .val (.int z164), .val (.int z165), .unset, .unset, .unset, .unset] [(.ref b184)]))
      refine own_by (fun _ kS => XS.dup X186.here hx rfl (hb hby at_65) rfl rfl kS) ?_
      show own_Comes p e below s _ _ _ (T186.setTop (mkF m 66 #[.val (.int p0), .val (.int p1), .val (.int p2), .val (.int p3), .val (.int p4), .val (.int ((p0 &&& (3 : Int32)) + (1 : Int32))), .val (.int z162), .val (.int z163), .val (.int z164), .val (.int z165), .unset, .unset, .unset, .unset] [(.ref b184), (.ref b184)]))
      refine own_by (fun _ kS => XS.iconst X186.here hx rfl (hb hby at_66) kS) ?_
      show own_Comes p e below s _ _ _ (T186.setTop (mkF m 67 #[.val (.int p0), .val (.int p1), .val (.int p2), .val (.int p3), .val (.int p4), .val (.int ((p0 &&& (3 : Int32)) + (1 : Int32))), .val (.int z162), .val (.int z163), .val (.int z164), .val (.int z165), .unset, .unset, .unset, .unset] [(.int (1 : Int32)), (.ref b184), (.ref b184)]))
      refine own_by (fun _ kS => XS.iload X186.here hx rfl (hb hby at_67) rfl kS) ?_
      show own_Comes p e below s _ _ _ (T186.setTop (mkF m 69 #[.val (.int p0), .val (.int p1), .val (.int p2), .val (.int p3), .val (.int p4), .val (.int ((p0 &&& (3 : Int32)) + (1 : Int32))), .val (.int z162), .val (.int z163), .val (.int z164), .val (.int z165), .unset, .unset, .unset, .unset] [(.int z163), (.int (1 : Int32)), (.ref b184), (.ref b184)]))
      have Vo187 := V186
      obtain ⟨cl187, Ar187, qA187, SA187, NA187, HA187, GA187⟩ := Vo187
      have hin187 : ¬ ((1 : Int32) < 0 ∨ cl187.slots.size ≤ ((1 : Int32)).toNatClampNeg) := inb_of SA187 ⟨by decide, by decide⟩
      obtain ⟨T188, h188, X188, e188, W188, st188⟩ := stC X186 hx hZ e186 Ar187 (j := (1 : Int32)) hin187 (g := (mkF m 69 #[.val (.int p0), .val (.int p1), .val (.int p2), .val (.int p3), .val (.int p4), .val (.int ((p0 &&& (3 : Int32)) + (1 : Int32))), .val (.int z162), .val (.int z163), .val (.int z164), .val (.int z165), .unset, .unset, .unset, .unset] [(.int z163), (.int (1 : Int32)), (.ref b184), (.ref b184)])) rfl rfl (hb hby at_69)
      refine own_by st188 ?_
      have V188 : Arv Z h188 b184 k184 .char (2 : Int32) [(.int (nar .char z162)), (.int (nar .char z163))] (.int (0 : Int32)) := Arv.set Ar187 qA187 SA187 NA187 HA187 GA187 (by first | rfl | exact fits_nar_char _) W188 1 rfl (Nat.le_of_ble_eq_true rfl)
      have N188 := Fr.snoc X188 N186 g_b184
      show own_Comes p e below s _ _ _ (T188.setTop (mkF m 70 #[.val (.int p0), .val (.int p1), .val (.int p2), .val (.int p3), .val (.int p4), .val (.int ((p0 &&& (3 : Int32)) + (1 : Int32))), .val (.int z162), .val (.int z163), .val (.int z164), .val (.int z165), .unset, .unset, .unset, .unset] [(.ref b184)]))
      refine own_by (fun _ kS => XS.astore X188.here hx rfl (hb hby at_70) rfl rfl (l' := #[.val (.int p0), .val (.int p1), .val (.int p2), .val (.int p3), .val (.int p4), .val (.int ((p0 &&& (3 : Int32)) + (1 : Int32))), .val (.int z162), .val (.int z163), .val (.int z164), .val (.int z165), .val (.ref b184), .unset, .unset, .unset]) rfl kS) ?_
      show own_Comes p e below s _ _ _ (T188.setTop (mkF m 72 #[.val (.int p0), .val (.int p1), .val (.int p2), .val (.int p3), .val (.int p4), .val (.int ((p0 &&& (3 : Int32)) + (1 : Int32))), .val (.int z162), .val (.int z163), .val (.int z164), .val (.int z165), .val (.ref b184), .unset, .unset, .unset] []))
      refine own_by (fun _ kS => XS.goto X188.here hx rfl (pc0 := 72) (pc' := 129) rfl (hb hby at_72) (by decide) (by decide) kS) ?_
      show own_Comes p e below s _ _ _ (T188.setTop (mkF m 129 #[.val (.int p0), .val (.int p1), .val (.int p2), .val (.int p3), .val (.int p4), .val (.int ((p0 &&& (3 : Int32)) + (1 : Int32))), .val (.int z162), .val (.int z163), .val (.int z164), .val (.int z165), .val (.ref b184), .unset, .unset, .unset] []))
      have Vc := V188
      rw [own_nar16 hz162, own_nar16 hz163] at Vc
      have hB : ∀ c ∈ [z162, z163], ¬ c < 0 ∧ ¬ (65535 : Int32) < c := fun c hc => by
        simp only [List.mem_cons, List.not_mem_nil, or_false] at hc
        rcases hc with rfl | rfl
        · exact hz162
        · exact hz163
      obtain ⟨T189, h189, X189, e189, E189, A189, D189, -, st189⟩ := newO X188 hx hZ hown (hw _ (List.mem_of_getElem? (i := 8) rfl)) (hw _ (List.mem_of_getElem? (i := 9) rfl)) (hw _ (List.mem_of_getElem? (i := 10) rfl)) e188 (g := (mkF m 129 #[.val (.int p0), .val (.int p1), .val (.int p2), .val (.int p3), .val (.int p4), .val (.int ((p0 &&& (3 : Int32)) + (1 : Int32))), .val (.int z162), .val (.int z163), .val (.int z164), .val (.int z165), .val (.ref b184), .unset, .unset, .unset] [])) rfl (hb hby at_129) (by decide) (by decide)
      obtain ⟨b189, g189⟩ : ∃ z, z = h188.size := ⟨_, rfl⟩
      rw [← g189] at A189 D189 st189
      have g_b189 : n0 ≤ b189 := Nat.le_trans (Nat.le_trans (Nat.le_trans (Nat.le_trans Z0 E184.1) (Keep.of_wr W186).1) (Keep.of_wr W188).1) (Nat.le_of_eq g189.symm)
      refine own_by st189 ?_
      show own_Comes p e below s _ _ _ (T189.setTop (mkF m 132 #[.val (.int p0), .val (.int p1), .val (.int p2), .val (.int p3), .val (.int p4), .val (.int ((p0 &&& (3 : Int32)) + (1 : Int32))), .val (.int z162), .val (.int z163), .val (.int z164), .val (.int z165), .val (.ref b184), .unset, .unset, .unset] [(.ref b189)]))
      have nA : b189 ≠ b184 := Nat.ne_of_gt (Nat.lt_of_lt_of_le Vc.lt (Nat.le_of_eq g189.symm))
      refine own_by (fun _ kS => XS.dup X189.here hx rfl (hb hby at_132) rfl rfl kS) ?_
      show own_Comes p e below s _ _ _ (T189.setTop (mkF m 133 #[.val (.int p0), .val (.int p1), .val (.int p2), .val (.int p3), .val (.int p4), .val (.int ((p0 &&& (3 : Int32)) + (1 : Int32))), .val (.int z162), .val (.int z163), .val (.int z164), .val (.int z165), .val (.ref b184), .unset, .unset, .unset] [(.ref b189), (.ref b189)]))
      refine own_by (fun _ kS => XS.aload X189.here hx rfl (hb hby at_133) rfl rfl kS) ?_
      show own_Comes p e below s _ _ _ (T189.setTop (mkF m 135 #[.val (.int p0), .val (.int p1), .val (.int p2), .val (.int p3), .val (.int p4), .val (.int ((p0 &&& (3 : Int32)) + (1 : Int32))), .val (.int z162), .val (.int z163), .val (.int z164), .val (.int z165), .val (.ref b184), .unset, .unset, .unset] [(.ref b184), (.ref b189), (.ref b189)]))
      have Vq : Arv Z h189 b184 k184 .char (Int32.ofNat [z162, z163].length) ([z162, z163].map Value.int) (.int 0) := (Vc.ext E189)
      by_cases hw255 : ∃ c ∈ [z162, z163], (255 : Int32) < c
      · show own_Comes p e below s _ _ _ (T189.setTop (mkF m 135 #[.val (.int p0), .val (.int p1), .val (.int p2), .val (.int p3), .val (.int p4), .val (.int ((p0 &&& (3 : Int32)) + (1 : Int32))), .val (.int z162), .val (.int z163), .val (.int z164), .val (.int z165), .val (.ref b184), .unset, .unset, .unset] [(.ref b184), (.ref b189), (.ref b189)]))
        have c190 := ((((O0.ext E184).wr W186 g_b184).wr W188 g_b184).ext E189)
        obtain ⟨vv191, _, ⟨T191, L191, k191, n191⟩, -, X191, ⟨Lc191, hQ191, l191, y191, z191⟩, st191⟩ := X189.specialBack hx (y := (⟨"java/lang/String", "<init>", "([C)V"⟩ : MethodName)) rfl hown (mvT hZ (hw _ (List.mem_of_getElem? (i := 11) rfl))) (mvT hZ (hw _ (List.mem_of_getElem? (i := 12) rfl))) (mvT hZ (hw _ (List.mem_of_getElem? (i := 13) rfl))) (by decide) (backOf (W := 1) (rm2w l Z a0 hw [] b189 b184 k184 [z162, z163] zc h189 n0 (Nat.le_trans (Nat.le_trans (Nat.le_trans (Nat.le_trans Z0 E184.1) (Keep.of_wr W186).1) (Keep.of_wr W188).1) E189.1) c190 Sz hzc Sd Sh Sl A189 (D189 (Or.inr (hw _ (List.mem_of_getElem? (i := 36) rfl))) (ty := (.array .byte)) (by decide)) (D189 (Or.inr (hw _ (List.mem_of_getElem? (i := 34) rfl))) (ty := .byte) (by decide)) g_b189 nA Vq hw255 (Nat.le_of_ble_eq_true rfl) (Nat.le_of_ble_eq_true rfl) hB) hZ (hw _ (List.mem_of_getElem? (i := 13) rfl)) (hw _ (List.mem_of_getElem? (i := 10) rfl)) (by decide) (by decide)) (g := (mkF m 135 #[.val (.int p0), .val (.int p1), .val (.int p2), .val (.int p3), .val (.int p4), .val (.int ((p0 &&& (3 : Int32)) + (1 : Int32))), .val (.int z162), .val (.int z163), .val (.int z164), .val (.int z165), .val (.ref b184), .unset, .unset, .unset] [(.ref b184), (.ref b189), (.ref b189)])) rfl (by rw [hml]; rfl) (Steps.refl _) (a := b189) (argsL := [(.ref b184)]) (rest := [(.ref b189)]) (lenOf pd___C_V_325 rfl) rfl (by show 2 * 0 + _ ≤ _; exact Nat.le_of_eq rfl) (hb hby at_135) (fun _ _ => ⟨rfl, e189, (by decide : 2 + 2 ≤ _), (by decide : 6 + 12 ≤ _)⟩)
        dsimp only [Pt.U, Pt.locs, Pt.cells, Pt.slots] at X191 l191 y191 z191 st191 hQ191
        subst l191 y191 z191
        obtain ⟨rfl, N191q, K191, Y191⟩ := hQ191
        have N191 := Fr.app N188 N191q
        refine own_tr st191 ?_
        show own_Comes p e below s _ _ _ (T191.setTop (mkF m 138 #[.val (.int p0), .val (.int p1), .val (.int p2), .val (.int p3), .val (.int p4), .val (.int ((p0 &&& (3 : Int32)) + (1 : Int32))), .val (.int z162), .val (.int z163), .val (.int z164), .val (.int z165), .val (.ref b184), .unset, .unset, .unset] [(.ref b189)]))
        refine own_by (fun _ kS => XS.astore X191.here hx rfl (hb hby at_138) rfl rfl (l' := #[.val (.int p0), .val (.int p1), .val (.int p2), .val (.int p3), .val (.int p4), .val (.int ((p0 &&& (3 : Int32)) + (1 : Int32))), .val (.int z162), .val (.int z163), .val (.int z164), .val (.int z165), .val (.ref b184), .val (.ref b189), .unset, .unset]) rfl kS) ?_
        show own_Comes p e below s _ _ _ (T191.setTop (mkF m 140 #[.val (.int p0), .val (.int p1), .val (.int p2), .val (.int p3), .val (.int p4), .val (.int ((p0 &&& (3 : Int32)) + (1 : Int32))), .val (.int z162), .val (.int z163), .val (.int z164), .val (.int z165), .val (.ref b184), .val (.ref b189), .unset, .unset] []))
        exact J140 b184 b189 k184 [z162, z163] _ _ _ (Vq.keep K191 (ninS (Ne.symm nA) nin0)) Y191 (Nat.le_of_ble_eq_true rfl) (Nat.le_of_ble_eq_true rfl) (X191.more (by decide) (by decide)) rfl N191 (c190.keep K191 (allS g_b189 all0)) (Nat.le_trans (Nat.le_trans (Nat.le_trans (Nat.le_trans (Nat.le_trans Z0 E184.1) (Keep.of_wr W186).1) (Keep.of_wr W188).1) E189.1) K191.1)
      · show own_Comes p e below s _ _ _ (T189.setTop (mkF m 135 #[.val (.int p0), .val (.int p1), .val (.int p2), .val (.int p3), .val (.int p4), .val (.int ((p0 &&& (3 : Int32)) + (1 : Int32))), .val (.int z162), .val (.int z163), .val (.int z164), .val (.int z165), .val (.ref b184), .unset, .unset, .unset] [(.ref b184), (.ref b189), (.ref b189)]))
        have hp : ∀ c ∈ [z162, z163], ¬ c < 0 ∧ ¬ (255 : Int32) < c := fun c hc => ⟨(hB c hc).1, fun q => hw255 ⟨c, hc, q⟩⟩
        have c192 := ((((O0.ext E184).wr W186 g_b184).wr W188 g_b184).ext E189)
        obtain ⟨vv193, _, ⟨T193, L193, k193, n193⟩, -, X193, ⟨Lc193, hQ193, l193, y193, z193⟩, st193⟩ := X189.specialBack hx (y := (⟨"java/lang/String", "<init>", "([C)V"⟩ : MethodName)) rfl hown (mvT hZ (hw _ (List.mem_of_getElem? (i := 11) rfl))) (mvT hZ (hw _ (List.mem_of_getElem? (i := 12) rfl))) (mvT hZ (hw _ (List.mem_of_getElem? (i := 13) rfl))) (by decide) (StrChars.Road.backV (W := 1) hZ hws (kI := 4) (hw _ (List.mem_of_getElem? (i := 9) rfl)) (cs := [z162, z163]) (bs := [z162, z163].map (fun c => c.toInt8.toInt32)) (n := 2) (n0 := n0) g_b189 (Nat.le_trans (Nat.le_trans (Nat.le_trans (Nat.le_trans Z0 E184.1) (Keep.of_wr W186).1) (Keep.of_wr W188).1) E189.1) A189 (D189 (Or.inr (hw _ (List.mem_of_getElem? (i := 36) rfl))) (ty := (.array .byte)) (by decide)) (D189 (Or.inr (hw _ (List.mem_of_getElem? (i := 34) rfl))) (ty := .byte) (by decide)) Vq (Sz.ext c192.2) hzc rfl rfl (by decide) (by decide) hp rfl (by decide) (by decide)) (g := (mkF m 135 #[.val (.int p0), .val (.int p1), .val (.int p2), .val (.int p3), .val (.int p4), .val (.int ((p0 &&& (3 : Int32)) + (1 : Int32))), .val (.int z162), .val (.int z163), .val (.int z164), .val (.int z165), .val (.ref b184), .unset, .unset, .unset] [(.ref b184), (.ref b189), (.ref b189)])) rfl (by rw [hml]; rfl) (Steps.refl _) (a := b189) (argsL := [(.ref b184)]) (rest := [(.ref b189)]) (lenOf pd___C_V_325 rfl) rfl (by show 2 * 0 + _ ≤ _; exact Nat.le_of_eq rfl) (hb hby at_135) (fun _ _ => ⟨rfl, e189, (by decide : 2 + 1 ≤ _), (by decide : 6 + 2 ≤ _)⟩)
        dsimp only [Pt.U, Pt.locs, Pt.cells, Pt.slots] at X193 l193 y193 z193 st193 hQ193
        subst l193 y193 z193
        obtain ⟨rfl, N193q, K193, Eb193, Cb193, t193, kb193, _, _, _, Vb193, Ab193⟩ := hQ193
        have N193 := Fr.app N188 N193q
        refine own_tr st193 ?_
        show own_Comes p e below s _ _ _ (T193.setTop (mkF m 138 #[.val (.int p0), .val (.int p1), .val (.int p2), .val (.int p3), .val (.int p4), .val (.int ((p0 &&& (3 : Int32)) + (1 : Int32))), .val (.int z162), .val (.int z163), .val (.int z164), .val (.int z165), .val (.ref b184), .unset, .unset, .unset] [(.ref b189)]))
        have hY : own_Txt Z T193.heap b189 [z162, z163] := ⟨Eb193, t193, kb193, 0, _, _, Vb193, Cb193, Ab193, StrChars.Road.codOf rfl (fun c hc => (hp c hc).2), hB, Nat.le_of_ble_eq_true rfl⟩
        refine own_by (fun _ kS => XS.astore X193.here hx rfl (hb hby at_138) rfl rfl (l' := #[.val (.int p0), .val (.int p1), .val (.int p2), .val (.int p3), .val (.int p4), .val (.int ((p0 &&& (3 : Int32)) + (1 : Int32))), .val (.int z162), .val (.int z163), .val (.int z164), .val (.int z165), .val (.ref b184), .val (.ref b189), .unset, .unset]) rfl kS) ?_
        show own_Comes p e below s _ _ _ (T193.setTop (mkF m 140 #[.val (.int p0), .val (.int p1), .val (.int p2), .val (.int p3), .val (.int p4), .val (.int ((p0 &&& (3 : Int32)) + (1 : Int32))), .val (.int z162), .val (.int z163), .val (.int z164), .val (.int z165), .val (.ref b184), .val (.ref b189), .unset, .unset] []))
        exact J140 b184 b189 k184 [z162, z163] _ _ _ (Vq.keep K193 (ninS (Ne.symm nA) nin0)) hY (Nat.le_of_ble_eq_true rfl) (Nat.le_of_ble_eq_true rfl) (X193.more (by decide) (by decide)) rfl N193 (c192.keep K193 (allS g_b189 all0)) (Nat.le_trans (Nat.le_trans (Nat.le_trans (Nat.le_trans (Nat.le_trans Z0 E184.1) (Keep.of_wr W186).1) (Keep.of_wr W188).1) E189.1) K193.1)
    · refine own_by (fun _ kS => XS.icmpYes X165.here hx rfl (pc0 := 54) (pc' := 75) rfl (hb hby at_54) rfl (feq hl2).2 (by decide) (by decide) kS) ?_
      show own_Comes p e below s _ _ _ (T165.setTop (mkF m 75 #[.val (.int p0), .val (.int p1), .val (.int p2), .val (.int p3), .val (.int p4), .val (.int ((p0 &&& (3 : Int32)) + (1 : Int32))), .val (.int z162), .val (.int z163), .val (.int z164), .val (.int z165), .unset, .unset, .unset, .unset] []))
      refine own_by (fun _ kS => XS.iload X165.here hx rfl (hb hby at_75) rfl kS) ?_
      show own_Comes p e below s _ _ _ (T165.setTop (mkF m 77 #[.val (.int p0), .val (.int p1), .val (.int p2), .val (.int p3), .val (.int p4), .val (.int ((p0 &&& (3 : Int32)) + (1 : Int32))), .val (.int z162), .val (.int z163), .val (.int z164), .val (.int z165), .unset, .unset, .unset, .unset] [(.int ((p0 &&& (3 : Int32)) + (1 : Int32)))]))
      refine own_by (fun _ kS => XS.iconst X165.here hx rfl (hb hby at_77) kS) ?_
      show own_Comes p e below s _ _ _ (T165.setTop (mkF m 78 #[.val (.int p0), .val (.int p1), .val (.int p2), .val (.int p3), .val (.int p4), .val (.int ((p0 &&& (3 : Int32)) + (1 : Int32))), .val (.int z162), .val (.int z163), .val (.int z164), .val (.int z165), .unset, .unset, .unset, .unset] [(.int (3 : Int32)), (.int ((p0 &&& (3 : Int32)) + (1 : Int32)))]))
      by_cases hl3 : ((p0 &&& (3 : Int32)) + (1 : Int32)) = (3 : Int32)
      · refine own_by (fun _ kS => XS.icmpNo X165.here hx rfl (hb hby at_78) rfl (teq hl3).2 kS) ?_
        show own_Comes p e below s _ _ _ (T165.setTop (mkF m 81 #[.val (.int p0), .val (.int p1), .val (.int p2), .val (.int p3), .val (.int p4), .val (.int ((p0 &&& (3 : Int32)) + (1 : Int32))), .val (.int z162), .val (.int z163), .val (.int z164), .val (.int z165), .unset, .unset, .unset, .unset] []))
        refine own_by (fun _ kS => XS.iconst X165.here hx rfl (hb hby at_81) kS) ?_
        show own_Comes p e below s _ _ _ (T165.setTop (mkF m 82 #[.val (.int p0), .val (.int p1), .val (.int p2), .val (.int p3), .val (.int p4), .val (.int ((p0 &&& (3 : Int32)) + (1 : Int32))), .val (.int z162), .val (.int z163), .val (.int z164), .val (.int z165), .unset, .unset, .unset, .unset] [(.int (3 : Int32))]))
        obtain ⟨T194, h194, k194, X194, e194, E194, A194, st194⟩ := newP X165 hx hZ (hw _ (List.mem_of_getElem? (i := 7) rfl)) e165 (g := (mkF m 82 #[.val (.int p0), .val (.int p1), .val (.int p2), .val (.int p3), .val (.int p4), .val (.int ((p0 &&& (3 : Int32)) + (1 : Int32))), .val (.int z162), .val (.int z163), .val (.int z164), .val (.int z165), .unset, .unset, .unset, .unset] [(.int (3 : Int32))])) rfl (hb hby at_82) rfl (by decide) (cap := 3) (by decide) (by decide) (by decide) (by decide)
        obtain ⟨b194, g194⟩ : ∃ z, z = h0.size := ⟨_, rfl⟩
        rw [← g194] at A194 st194
        have g_b194 : n0 ≤ b194 := Nat.le_trans Z0 (Nat.le_of_eq g194.symm)
        refine own_by st194 ?_
        have V_b194 : Arv Z h194 b194 k194 .char (3 : Int32) [(.int (0 : Int32)), (.int (0 : Int32)), (.int (0 : Int32))] (.int (0 : Int32)) := (Arv.new A194 (by decide)).pad (pad_rep [] (.int (0 : Int32)) 3)
        show own_Comes p e below s _ _ _ (T194.setTop (mkF m 84 #[.val (.int p0), .val (.int p1), .val (.int p2), .val (.int p3), .val (.int p4), .val (.int ((p0 &&& (3 : Int32)) + (1 : Int32))), .val (.int z162), .val (.int z163), .val (.int z164), .val (.int z165), .unset, .unset, .unset, .unset] [(.ref b194)]))
        refine own_by (fun _ kS => XS.dup X194.here hx rfl (hb hby at_84) rfl rfl kS) ?_
        show own_Comes p e below s _ _ _ (T194.setTop (mkF m 85 #[.val (.int p0), .val (.int p1), .val (.int p2), .val (.int p3), .val (.int p4), .val (.int ((p0 &&& (3 : Int32)) + (1 : Int32))), .val (.int z162), .val (.int z163), .val (.int z164), .val (.int z165), .unset, .unset, .unset, .unset] [(.ref b194), (.ref b194)]))
        refine own_by (fun _ kS => XS.iconst X194.here hx rfl (hb hby at_85) kS) ?_
        show own_Comes p e below s _ _ _ (T194.setTop (mkF m 86 #[.val (.int p0), .val (.int p1), .val (.int p2), .val (.int p3), .val (.int p4), .val (.int ((p0 &&& (3 : Int32)) + (1 : Int32))), .val (.int z162), .val (.int z163), .val (.int z164), .val (.int z165), .unset, .unset, .unset, .unset] [(.int (0 : Int32)), (.ref b194), (.ref b194)]))
        refine own_by (fun _ kS => XS.iload X194.here hx rfl (hb hby at_86) rfl kS) ?_
        show own_Comes p e below s _ _ _ (T194.setTop (mkF m 88 #[.val (.int p0), .val (.int p1), .val (.int p2), .val (.int p3), .val (.int p4), .val (.int ((p0 &&& (3 : Int32)) + (1 : Int32))), .val (.int z162), .val (.int z163), .val (.int z164), .val (.int z165), .unset, .unset, .unset, .unset] [(.int z162), (.int (0 : Int32)), (.ref b194), (.ref b194)]))
        have Vo195 := V_b194
        obtain ⟨cl195, Ar195, qA195, SA195, NA195, HA195, GA195⟩ := Vo195
        have hin195 : ¬ ((0 : Int32) < 0 ∨ cl195.slots.size ≤ ((0 : Int32)).toNatClampNeg) := inb_of SA195 ⟨by decide, by decide⟩
        obtain ⟨T196, h196, X196, e196, W196, st196⟩ := stC X194 hx hZ e194 Ar195 (j := (0 : Int32)) hin195 (g := (mkF m 88 #[.val (.int p0), .val (.int p1), .val (.int p2), .val (.int p3), .val (.int p4), .val (.int ((p0 &&& (3 : Int32)) + (1 : Int32))), .val (.int z162), .val (.int z163), .val (.int z164), .val (.int z165), .unset, .unset, .unset, .unset] [(.int z162), (.int (0 : Int32)), (.ref b194), (.ref b194)])) rfl rfl (hb hby at_88)
        refine own_by st196 ?_
        have V196 : Arv Z h196 b194 k194 .char (3 : Int32) [(.int (nar .char z162)), (.int (0 : Int32)), (.int (0 : Int32))] (.int (0 : Int32)) := Arv.set Ar195 qA195 SA195 NA195 HA195 GA195 (by first | rfl | exact fits_nar_char _) W196 0 rfl (Nat.le_of_ble_eq_true rfl)
        have N196 := Fr.snoc X196 N165 g_b194
        show own_Comes p e below s _ _ _ (T196.setTop (mkF m 89 #[.val (.int p0), .val (.int p1), .val (.int p2), .val (.int p3), .val (.int p4), .val (.int ((p0 &&& (3 : Int32)) + (1 : Int32))), .val (.int z162), .val (.int z163), .val (.int z164), .val (.int z165), .unset, .unset, .unset, .unset] [(.ref b194)]))
        refine own_by (fun _ kS => XS.dup X196.here hx rfl (hb hby at_89) rfl rfl kS) ?_
        show own_Comes p e below s _ _ _ (T196.setTop (mkF m 90 #[.val (.int p0), .val (.int p1), .val (.int p2), .val (.int p3), .val (.int p4), .val (.int ((p0 &&& (3 : Int32)) + (1 : Int32))), .val (.int z162), .val (.int z163), .val (.int z164), .val (.int z165), .unset, .unset, .unset, .unset] [(.ref b194), (.ref b194)]))
        refine own_by (fun _ kS => XS.iconst X196.here hx rfl (hb hby at_90) kS) ?_
        show own_Comes p e below s _ _ _ (T196.setTop (mkF m 91 #[.val (.int p0), .val (.int p1), .val (.int p2), .val (.int p3), .val (.int p4), .val (.int ((p0 &&& (3 : Int32)) + (1 : Int32))), .val (.int z162), .val (.int z163), .val (.int z164), .val (.int z165), .unset, .unset, .unset, .unset] [(.int (1 : Int32)), (.ref b194), (.ref b194)]))
        refine own_by (fun _ kS => XS.iload X196.here hx rfl (hb hby at_91) rfl kS) ?_
        show own_Comes p e below s _ _ _ (T196.setTop (mkF m 93 #[.val (.int p0), .val (.int p1), .val (.int p2), .val (.int p3), .val (.int p4), .val (.int ((p0 &&& (3 : Int32)) + (1 : Int32))), .val (.int z162), .val (.int z163), .val (.int z164), .val (.int z165), .unset, .unset, .unset, .unset] [(.int z163), (.int (1 : Int32)), (.ref b194), (.ref b194)]))
        have Vo197 := V196
        obtain ⟨cl197, Ar197, qA197, SA197, NA197, HA197, GA197⟩ := Vo197
        have hin197 : ¬ ((1 : Int32) < 0 ∨ cl197.slots.size ≤ ((1 : Int32)).toNatClampNeg) := inb_of SA197 ⟨by decide, by decide⟩
        obtain ⟨T198, h198, X198, e198, W198, st198⟩ := stC X196 hx hZ e196 Ar197 (j := (1 : Int32)) hin197 (g := (mkF m 93 #[.val (.int p0), .val (.int p1), .val (.int p2), .val (.int p3), .val (.int p4), .val (.int ((p0 &&& (3 : Int32)) + (1 : Int32))), .val (.int z162), .val (.int z163), .val (.int z164), .val (.int z165), .unset, .unset, .unset, .unset] [(.int z163), (.int (1 : Int32)), (.ref b194), (.ref b194)])) rfl rfl (hb hby at_93)
        refine own_by st198 ?_
        have V198 : Arv Z h198 b194 k194 .char (3 : Int32) [(.int (nar .char z162)), (.int (nar .char z163)), (.int (0 : Int32))] (.int (0 : Int32)) := Arv.set Ar197 qA197 SA197 NA197 HA197 GA197 (by first | rfl | exact fits_nar_char _) W198 1 rfl (Nat.le_of_ble_eq_true rfl)
        have N198 := Fr.snoc X198 N196 g_b194
        show own_Comes p e below s _ _ _ (T198.setTop (mkF m 94 #[.val (.int p0), .val (.int p1), .val (.int p2), .val (.int p3), .val (.int p4), .val (.int ((p0 &&& (3 : Int32)) + (1 : Int32))), .val (.int z162), .val (.int z163), .val (.int z164), .val (.int z165), .unset, .unset, .unset, .unset] [(.ref b194)]))
        refine own_by (fun _ kS => XS.dup X198.here hx rfl (hb hby at_94) rfl rfl kS) ?_
        show own_Comes p e below s _ _ _ (T198.setTop (mkF m 95 #[.val (.int p0), .val (.int p1), .val (.int p2), .val (.int p3), .val (.int p4), .val (.int ((p0 &&& (3 : Int32)) + (1 : Int32))), .val (.int z162), .val (.int z163), .val (.int z164), .val (.int z165), .unset, .unset, .unset, .unset] [(.ref b194), (.ref b194)]))
        refine own_by (fun _ kS => XS.iconst X198.here hx rfl (hb hby at_95) kS) ?_
        show own_Comes p e below s _ _ _ (T198.setTop (mkF m 96 #[.val (.int p0), .val (.int p1), .val (.int p2), .val (.int p3), .val (.int p4), .val (.int ((p0 &&& (3 : Int32)) + (1 : Int32))), .val (.int z162), .val (.int z163), .val (.int z164), .val (.int z165), .unset, .unset, .unset, .unset] [(.int (2 : Int32)), (.ref b194), (.ref b194)]))
        refine own_by (fun _ kS => XS.iload X198.here hx rfl (hb hby at_96) rfl kS) ?_
        show own_Comes p e below s _ _ _ (T198.setTop (mkF m 98 #[.val (.int p0), .val (.int p1), .val (.int p2), .val (.int p3), .val (.int p4), .val (.int ((p0 &&& (3 : Int32)) + (1 : Int32))), .val (.int z162), .val (.int z163), .val (.int z164), .val (.int z165), .unset, .unset, .unset, .unset] [(.int z164), (.int (2 : Int32)), (.ref b194), (.ref b194)]))
        have Vo199 := V198
        obtain ⟨cl199, Ar199, qA199, SA199, NA199, HA199, GA199⟩ := Vo199
        have hin199 : ¬ ((2 : Int32) < 0 ∨ cl199.slots.size ≤ ((2 : Int32)).toNatClampNeg) := inb_of SA199 ⟨by decide, by decide⟩
        obtain ⟨T200, h200, X200, e200, W200, st200⟩ := stC X198 hx hZ e198 Ar199 (j := (2 : Int32)) hin199 (g := (mkF m 98 #[.val (.int p0), .val (.int p1), .val (.int p2), .val (.int p3), .val (.int p4), .val (.int ((p0 &&& (3 : Int32)) + (1 : Int32))), .val (.int z162), .val (.int z163), .val (.int z164), .val (.int z165), .unset, .unset, .unset, .unset] [(.int z164), (.int (2 : Int32)), (.ref b194), (.ref b194)])) rfl rfl (hb hby at_98)
        refine own_by st200 ?_
        have V200 : Arv Z h200 b194 k194 .char (3 : Int32) [(.int (nar .char z162)), (.int (nar .char z163)), (.int (nar .char z164))] (.int (0 : Int32)) := Arv.set Ar199 qA199 SA199 NA199 HA199 GA199 (by first | rfl | exact fits_nar_char _) W200 2 rfl (Nat.le_of_ble_eq_true rfl)
        have N200 := Fr.snoc X200 N198 g_b194
        show own_Comes p e below s _ _ _ (T200.setTop (mkF m 99 #[.val (.int p0), .val (.int p1), .val (.int p2), .val (.int p3), .val (.int p4), .val (.int ((p0 &&& (3 : Int32)) + (1 : Int32))), .val (.int z162), .val (.int z163), .val (.int z164), .val (.int z165), .unset, .unset, .unset, .unset] [(.ref b194)]))
        refine own_by (fun _ kS => XS.astore X200.here hx rfl (hb hby at_99) rfl rfl (l' := #[.val (.int p0), .val (.int p1), .val (.int p2), .val (.int p3), .val (.int p4), .val (.int ((p0 &&& (3 : Int32)) + (1 : Int32))), .val (.int z162), .val (.int z163), .val (.int z164), .val (.int z165), .val (.ref b194), .unset, .unset, .unset]) rfl kS) ?_
        show own_Comes p e below s _ _ _ (T200.setTop (mkF m 101 #[.val (.int p0), .val (.int p1), .val (.int p2), .val (.int p3), .val (.int p4), .val (.int ((p0 &&& (3 : Int32)) + (1 : Int32))), .val (.int z162), .val (.int z163), .val (.int z164), .val (.int z165), .val (.ref b194), .unset, .unset, .unset] []))
        refine own_by (fun _ kS => XS.goto X200.here hx rfl (pc0 := 101) (pc' := 129) rfl (hb hby at_101) (by decide) (by decide) kS) ?_
        show own_Comes p e below s _ _ _ (T200.setTop (mkF m 129 #[.val (.int p0), .val (.int p1), .val (.int p2), .val (.int p3), .val (.int p4), .val (.int ((p0 &&& (3 : Int32)) + (1 : Int32))), .val (.int z162), .val (.int z163), .val (.int z164), .val (.int z165), .val (.ref b194), .unset, .unset, .unset] []))
        have Vc := V200
        rw [own_nar16 hz162, own_nar16 hz163, own_nar16 hz164] at Vc
        have hB : ∀ c ∈ [z162, z163, z164], ¬ c < 0 ∧ ¬ (65535 : Int32) < c := fun c hc => by
          simp only [List.mem_cons, List.not_mem_nil, or_false] at hc
          rcases hc with rfl | rfl | rfl
          · exact hz162
          · exact hz163
          · exact hz164
        obtain ⟨T201, h201, X201, e201, E201, A201, D201, -, st201⟩ := newO X200 hx hZ hown (hw _ (List.mem_of_getElem? (i := 8) rfl)) (hw _ (List.mem_of_getElem? (i := 9) rfl)) (hw _ (List.mem_of_getElem? (i := 10) rfl)) e200 (g := (mkF m 129 #[.val (.int p0), .val (.int p1), .val (.int p2), .val (.int p3), .val (.int p4), .val (.int ((p0 &&& (3 : Int32)) + (1 : Int32))), .val (.int z162), .val (.int z163), .val (.int z164), .val (.int z165), .val (.ref b194), .unset, .unset, .unset] [])) rfl (hb hby at_129) (by decide) (by decide)
        obtain ⟨b201, g201⟩ : ∃ z, z = h200.size := ⟨_, rfl⟩
        rw [← g201] at A201 D201 st201
        have g_b201 : n0 ≤ b201 := Nat.le_trans (Nat.le_trans (Nat.le_trans (Nat.le_trans (Nat.le_trans Z0 E194.1) (Keep.of_wr W196).1) (Keep.of_wr W198).1) (Keep.of_wr W200).1) (Nat.le_of_eq g201.symm)
        refine own_by st201 ?_
        show own_Comes p e below s _ _ _ (T201.setTop (mkF m 132 #[.val (.int p0), .val (.int p1), .val (.int p2), .val (.int p3), .val (.int p4), .val (.int ((p0 &&& (3 : Int32)) + (1 : Int32))), .val (.int z162), .val (.int z163), .val (.int z164), .val (.int z165), .val (.ref b194), .unset, .unset, .unset] [(.ref b201)]))
        have nA : b201 ≠ b194 := Nat.ne_of_gt (Nat.lt_of_lt_of_le Vc.lt (Nat.le_of_eq g201.symm))
        refine own_by (fun _ kS => XS.dup X201.here hx rfl (hb hby at_132) rfl rfl kS) ?_
        show own_Comes p e below s _ _ _ (T201.setTop (mkF m 133 #[.val (.int p0), .val (.int p1), .val (.int p2), .val (.int p3), .val (.int p4), .val (.int ((p0 &&& (3 : Int32)) + (1 : Int32))), .val (.int z162), .val (.int z163), .val (.int z164), .val (.int z165), .val (.ref b194), .unset, .unset, .unset] [(.ref b201), (.ref b201)]))
        refine own_by (fun _ kS => XS.aload X201.here hx rfl (hb hby at_133) rfl rfl kS) ?_
        show own_Comes p e below s _ _ _ (T201.setTop (mkF m 135 #[.val (.int p0), .val (.int p1), .val (.int p2), .val (.int p3), .val (.int p4), .val (.int ((p0 &&& (3 : Int32)) + (1 : Int32))), .val (.int z162), .val (.int z163), .val (.int z164), .val (.int z165), .val (.ref b194), .unset, .unset, .unset] [(.ref b194), (.ref b201), (.ref b201)]))
        have Vq : Arv Z h201 b194 k194 .char (Int32.ofNat [z162, z163, z164].length) ([z162, z163, z164].map Value.int) (.int 0) := (Vc.ext E201)
        by_cases hw255 : ∃ c ∈ [z162, z163, z164], (255 : Int32) < c
        · show own_Comes p e below s _ _ _ (T201.setTop (mkF m 135 #[.val (.int p0), .val (.int p1), .val (.int p2), .val (.int p3), .val (.int p4), .val (.int ((p0 &&& (3 : Int32)) + (1 : Int32))), .val (.int z162), .val (.int z163), .val (.int z164), .val (.int z165), .val (.ref b194), .unset, .unset, .unset] [(.ref b194), (.ref b201), (.ref b201)]))
          have c202 := (((((O0.ext E194).wr W196 g_b194).wr W198 g_b194).wr W200 g_b194).ext E201)
          obtain ⟨vv203, _, ⟨T203, L203, k203, n203⟩, -, X203, ⟨Lc203, hQ203, l203, y203, z203⟩, st203⟩ := X201.specialBack hx (y := (⟨"java/lang/String", "<init>", "([C)V"⟩ : MethodName)) rfl hown (mvT hZ (hw _ (List.mem_of_getElem? (i := 11) rfl))) (mvT hZ (hw _ (List.mem_of_getElem? (i := 12) rfl))) (mvT hZ (hw _ (List.mem_of_getElem? (i := 13) rfl))) (by decide) (backOf (W := 1) (rm2w l Z a0 hw [] b201 b194 k194 [z162, z163, z164] zc h201 n0 (Nat.le_trans (Nat.le_trans (Nat.le_trans (Nat.le_trans (Nat.le_trans Z0 E194.1) (Keep.of_wr W196).1) (Keep.of_wr W198).1) (Keep.of_wr W200).1) E201.1) c202 Sz hzc Sd Sh Sl A201 (D201 (Or.inr (hw _ (List.mem_of_getElem? (i := 36) rfl))) (ty := (.array .byte)) (by decide)) (D201 (Or.inr (hw _ (List.mem_of_getElem? (i := 34) rfl))) (ty := .byte) (by decide)) g_b201 nA Vq hw255 (Nat.le_of_ble_eq_true rfl) (Nat.le_of_ble_eq_true rfl) hB) hZ (hw _ (List.mem_of_getElem? (i := 13) rfl)) (hw _ (List.mem_of_getElem? (i := 10) rfl)) (by decide) (by decide)) (g := (mkF m 135 #[.val (.int p0), .val (.int p1), .val (.int p2), .val (.int p3), .val (.int p4), .val (.int ((p0 &&& (3 : Int32)) + (1 : Int32))), .val (.int z162), .val (.int z163), .val (.int z164), .val (.int z165), .val (.ref b194), .unset, .unset, .unset] [(.ref b194), (.ref b201), (.ref b201)])) rfl (by rw [hml]; rfl) (Steps.refl _) (a := b201) (argsL := [(.ref b194)]) (rest := [(.ref b201)]) (lenOf pd___C_V_325 rfl) rfl (by show 2 * 0 + _ ≤ _; exact Nat.le_of_eq rfl) (hb hby at_135) (fun _ _ => ⟨rfl, e201, (by decide : 2 + 2 ≤ _), (by decide : 7 + 12 ≤ _)⟩)
          dsimp only [Pt.U, Pt.locs, Pt.cells, Pt.slots] at X203 l203 y203 z203 st203 hQ203
          subst l203 y203 z203
          obtain ⟨rfl, N203q, K203, Y203⟩ := hQ203
          have N203 := Fr.app N200 N203q
          refine own_tr st203 ?_
          show own_Comes p e below s _ _ _ (T203.setTop (mkF m 138 #[.val (.int p0), .val (.int p1), .val (.int p2), .val (.int p3), .val (.int p4), .val (.int ((p0 &&& (3 : Int32)) + (1 : Int32))), .val (.int z162), .val (.int z163), .val (.int z164), .val (.int z165), .val (.ref b194), .unset, .unset, .unset] [(.ref b201)]))
          refine own_by (fun _ kS => XS.astore X203.here hx rfl (hb hby at_138) rfl rfl (l' := #[.val (.int p0), .val (.int p1), .val (.int p2), .val (.int p3), .val (.int p4), .val (.int ((p0 &&& (3 : Int32)) + (1 : Int32))), .val (.int z162), .val (.int z163), .val (.int z164), .val (.int z165), .val (.ref b194), .val (.ref b201), .unset, .unset]) rfl kS) ?_
          show own_Comes p e below s _ _ _ (T203.setTop (mkF m 140 #[.val (.int p0), .val (.int p1), .val (.int p2), .val (.int p3), .val (.int p4), .val (.int ((p0 &&& (3 : Int32)) + (1 : Int32))), .val (.int z162), .val (.int z163), .val (.int z164), .val (.int z165), .val (.ref b194), .val (.ref b201), .unset, .unset] []))
          exact J140 b194 b201 k194 [z162, z163, z164] _ _ _ (Vq.keep K203 (ninS (Ne.symm nA) nin0)) Y203 (Nat.le_of_ble_eq_true rfl) (Nat.le_of_ble_eq_true rfl) (X203.more (by decide) (by decide)) rfl N203 (c202.keep K203 (allS g_b201 all0)) (Nat.le_trans (Nat.le_trans (Nat.le_trans (Nat.le_trans (Nat.le_trans (Nat.le_trans Z0 E194.1) (Keep.of_wr W196).1) (Keep.of_wr W198).1) (Keep.of_wr W200).1) E201.1) K203.1)
        · show own_Comes p e below s _ _ _ (T201.setTop (mkF m 135 #[.val (.int p0), .val (.int p1), .val (.int p2), .val (.int p3), .val (.int p4), .val (.int ((p0 &&& (3 : Int32)) + (1 : Int32))), .val (.int z162), .val (.int z163), .val (.int z164), .val (.int z165), .val (.ref b194), .unset, .unset, .unset] [(.ref b194), (.ref b201), (.ref b201)]))
          have hp : ∀ c ∈ [z162, z163, z164], ¬ c < 0 ∧ ¬ (255 : Int32) < c := fun c hc => ⟨(hB c hc).1, fun q => hw255 ⟨c, hc, q⟩⟩
          have c204 := (((((O0.ext E194).wr W196 g_b194).wr W198 g_b194).wr W200 g_b194).ext E201)
          obtain ⟨vv205, _, ⟨T205, L205, k205, n205⟩, -, X205, ⟨Lc205, hQ205, l205, y205, z205⟩, st205⟩ := X201.specialBack hx (y := (⟨"java/lang/String", "<init>", "([C)V"⟩ : MethodName)) rfl hown (mvT hZ (hw _ (List.mem_of_getElem? (i := 11) rfl))) (mvT hZ (hw _ (List.mem_of_getElem? (i := 12) rfl))) (mvT hZ (hw _ (List.mem_of_getElem? (i := 13) rfl))) (by decide) (StrChars.Road.backV (W := 1) hZ hws (kI := 4) (hw _ (List.mem_of_getElem? (i := 9) rfl)) (cs := [z162, z163, z164]) (bs := [z162, z163, z164].map (fun c => c.toInt8.toInt32)) (n := 3) (n0 := n0) g_b201 (Nat.le_trans (Nat.le_trans (Nat.le_trans (Nat.le_trans (Nat.le_trans Z0 E194.1) (Keep.of_wr W196).1) (Keep.of_wr W198).1) (Keep.of_wr W200).1) E201.1) A201 (D201 (Or.inr (hw _ (List.mem_of_getElem? (i := 36) rfl))) (ty := (.array .byte)) (by decide)) (D201 (Or.inr (hw _ (List.mem_of_getElem? (i := 34) rfl))) (ty := .byte) (by decide)) Vq (Sz.ext c204.2) hzc rfl rfl (by decide) (by decide) hp rfl (by decide) (by decide)) (g := (mkF m 135 #[.val (.int p0), .val (.int p1), .val (.int p2), .val (.int p3), .val (.int p4), .val (.int ((p0 &&& (3 : Int32)) + (1 : Int32))), .val (.int z162), .val (.int z163), .val (.int z164), .val (.int z165), .val (.ref b194), .unset, .unset, .unset] [(.ref b194), (.ref b201), (.ref b201)])) rfl (by rw [hml]; rfl) (Steps.refl _) (a := b201) (argsL := [(.ref b194)]) (rest := [(.ref b201)]) (lenOf pd___C_V_325 rfl) rfl (by show 2 * 0 + _ ≤ _; exact Nat.le_of_eq rfl) (hb hby at_135) (fun _ _ => ⟨rfl, e201, (by decide : 2 + 1 ≤ _), (by decide : 7 + 3 ≤ _)⟩)
          dsimp only [Pt.U, Pt.locs, Pt.cells, Pt.slots] at X205 l205 y205 z205 st205 hQ205
          subst l205 y205 z205
          obtain ⟨rfl, N205q, K205, Eb205, Cb205, t205, kb205, _, _, _, Vb205, Ab205⟩ := hQ205
          have N205 := Fr.app N200 N205q
          refine own_tr st205 ?_
          show own_Comes p e below s _ _ _ (T205.setTop (mkF m 138 #[.val (.int p0), .val (.int p1), .val (.int p2), .val (.int p3), .val (.int p4), .val (.int ((p0 &&& (3 : Int32)) + (1 : Int32))), .val (.int z162), .val (.int z163), .val (.int z164), .val (.int z165), .val (.ref b194), .unset, .unset, .unset] [(.ref b201)]))
          have hY : own_Txt Z T205.heap b201 [z162, z163, z164] := ⟨Eb205, t205, kb205, 0, _, _, Vb205, Cb205, Ab205, StrChars.Road.codOf rfl (fun c hc => (hp c hc).2), hB, Nat.le_of_ble_eq_true rfl⟩
          refine own_by (fun _ kS => XS.astore X205.here hx rfl (hb hby at_138) rfl rfl (l' := #[.val (.int p0), .val (.int p1), .val (.int p2), .val (.int p3), .val (.int p4), .val (.int ((p0 &&& (3 : Int32)) + (1 : Int32))), .val (.int z162), .val (.int z163), .val (.int z164), .val (.int z165), .val (.ref b194), .val (.ref b201), .unset, .unset]) rfl kS) ?_
          show own_Comes p e below s _ _ _ (T205.setTop (mkF m 140 #[.val (.int p0), .val (.int p1), .val (.int p2), .val (.int p3), .val (.int p4), .val (.int ((p0 &&& (3 : Int32)) + (1 : Int32))), .val (.int z162), .val (.int z163), .val (.int z164), .val (.int z165), .val (.ref b194), .val (.ref b201), .unset, .unset] []))
          exact J140 b194 b201 k194 [z162, z163, z164] _ _ _ (Vq.keep K205 (ninS (Ne.symm nA) nin0)) hY (Nat.le_of_ble_eq_true rfl) (Nat.le_of_ble_eq_true rfl) (X205.more (by decide) (by decide)) rfl N205 (c204.keep K205 (allS g_b201 all0)) (Nat.le_trans (Nat.le_trans (Nat.le_trans (Nat.le_trans (Nat.le_trans (Nat.le_trans Z0 E194.1) (Keep.of_wr W196).1) (Keep.of_wr W198).1) (Keep.of_wr W200).1) E201.1) K205.1)
      · refine own_by (fun _ kS => XS.icmpYes X165.here hx rfl (pc0 := 78) (pc' := 104) rfl (hb hby at_78) rfl (feq hl3).2 (by decide) (by decide) kS) ?_
        show own_Comes p e below s _ _ _ (T165.setTop (mkF m 104 #[.val (.int p0), .val (.int p1), .val (.int p2), .val (.int p3), .val (.int p4), .val (.int ((p0 &&& (3 : Int32)) + (1 : Int32))), .val (.int z162), .val (.int z163), .val (.int z164), .val (.int z165), .unset, .unset, .unset, .unset] []))
        refine own_by (fun _ kS => XS.iconst X165.here hx rfl (hb hby at_104) kS) ?_
        show own_Comes p e below s _ _ _ (T165.setTop (mkF m 105 #[.val (.int p0), .val (.int p1), .val (.int p2), .val (.int p3), .val (.int p4), .val (.int ((p0 &&& (3 : Int32)) + (1 : Int32))), .val (.int z162), .val (.int z163), .val (.int z164), .val (.int z165), .unset, .unset, .unset, .unset] [(.int (4 : Int32))]))
        obtain ⟨T206, h206, k206, X206, e206, E206, A206, st206⟩ := newP X165 hx hZ (hw _ (List.mem_of_getElem? (i := 7) rfl)) e165 (g := (mkF m 105 #[.val (.int p0), .val (.int p1), .val (.int p2), .val (.int p3), .val (.int p4), .val (.int ((p0 &&& (3 : Int32)) + (1 : Int32))), .val (.int z162), .val (.int z163), .val (.int z164), .val (.int z165), .unset, .unset, .unset, .unset] [(.int (4 : Int32))])) rfl (hb hby at_105) rfl (by decide) (cap := 4) (by decide) (by decide) (by decide) (by decide)
        obtain ⟨b206, g206⟩ : ∃ z, z = h0.size := ⟨_, rfl⟩
        rw [← g206] at A206 st206
        have g_b206 : n0 ≤ b206 := Nat.le_trans Z0 (Nat.le_of_eq g206.symm)
        refine own_by st206 ?_
        have V_b206 : Arv Z h206 b206 k206 .char (4 : Int32) [(.int (0 : Int32)), (.int (0 : Int32)), (.int (0 : Int32)), (.int (0 : Int32))] (.int (0 : Int32)) := (Arv.new A206 (by decide)).pad (pad_rep [] (.int (0 : Int32)) 4)
        show own_Comes p e below s _ _ _ (T206.setTop (mkF m 107 #[.val (.int p0), .val (.int p1), .val (.int p2), .val (.int p3), .val (.int p4), .val (.int ((p0 &&& (3 : Int32)) + (1 : Int32))), .val (.int z162), .val (.int z163), .val (.int z164), .val (.int z165), .unset, .unset, .unset, .unset] [(.ref b206)]))
        refine own_by (fun _ kS => XS.dup X206.here hx rfl (hb hby at_107) rfl rfl kS) ?_
        show own_Comes p e below s _ _ _ (T206.setTop (mkF m 108 #[.val (.int p0), .val (.int p1), .val (.int p2), .val (.int p3), .val (.int p4), .val (.int ((p0 &&& (3 : Int32)) + (1 : Int32))), .val (.int z162), .val (.int z163), .val (.int z164), .val (.int z165), .unset, .unset, .unset, .unset] [(.ref b206), (.ref b206)]))
        refine own_by (fun _ kS => XS.iconst X206.here hx rfl (hb hby at_108) kS) ?_
        show own_Comes p e below s _ _ _ (T206.setTop (mkF m 109 #[.val (.int p0), .val (.int p1), .val (.int p2), .val (.int p3), .val (.int p4), .val (.int ((p0 &&& (3 : Int32)) + (1 : Int32))), .val (.int z162), .val (.int z163), .val (.int z164), .val (.int z165), .unset, .unset, .unset, .unset] [(.int (0 : Int32)), (.ref b206), (.ref b206)]))
        refine own_by (fun _ kS => XS.iload X206.here hx rfl (hb hby at_109) rfl kS) ?_
        show own_Comes p e below s _ _ _ (T206.setTop (mkF m 111 #[.val (.int p0), .val (.int p1), .val (.int p2), .val (.int p3), .val (.int p4), .val (.int ((p0 &&& (3 : Int32)) + (1 : Int32))), .val (.int z162), .val (.int z163), .val (.int z164), .val (.int z165), .unset, .unset, .unset, .unset] [(.int z162), (.int (0 : Int32)), (.ref b206), (.ref b206)]))
        have Vo207 := V_b206
        obtain ⟨cl207, Ar207, qA207, SA207, NA207, HA207, GA207⟩ := Vo207
        have hin207 : ¬ ((0 : Int32) < 0 ∨ cl207.slots.size ≤ ((0 : Int32)).toNatClampNeg) := inb_of SA207 ⟨by decide, by decide⟩
        obtain ⟨T208, h208, X208, e208, W208, st208⟩ := stC X206 hx hZ e206 Ar207 (j := (0 : Int32)) hin207 (g := (mkF m 111 #[.val (.int p0), .val (.int p1), .val (.int p2), .val (.int p3), .val (.int p4), .val (.int ((p0 &&& (3 : Int32)) + (1 : Int32))), .val (.int z162), .val (.int z163), .val (.int z164), .val (.int z165), .unset, .unset, .unset, .unset] [(.int z162), (.int (0 : Int32)), (.ref b206), (.ref b206)])) rfl rfl (hb hby at_111)
        refine own_by st208 ?_
        have V208 : Arv Z h208 b206 k206 .char (4 : Int32) [(.int (nar .char z162)), (.int (0 : Int32)), (.int (0 : Int32)), (.int (0 : Int32))] (.int (0 : Int32)) := Arv.set Ar207 qA207 SA207 NA207 HA207 GA207 (by first | rfl | exact fits_nar_char _) W208 0 rfl (Nat.le_of_ble_eq_true rfl)
        have N208 := Fr.snoc X208 N165 g_b206
        show own_Comes p e below s _ _ _ (T208.setTop (mkF m 112 #[.val (.int p0), .val (.int p1), .val (.int p2), .val (.int p3), .val (.int p4), .val (.int ((p0 &&& (3 : Int32)) + (1 : Int32))), .val (.int z162), .val (.int z163), .val (.int z164), .val (.int z165), .unset, .unset, .unset, .unset] [(.ref b206)]))
        refine own_by (fun _ kS => XS.dup X208.here hx rfl (hb hby at_112) rfl rfl kS) ?_
        show own_Comes p e below s _ _ _ (T208.setTop (mkF m 113 #[.val (.int p0), .val (.int p1), .val (.int p2), .val (.int p3), .val (.int p4), .val (.int ((p0 &&& (3 : Int32)) + (1 : Int32))), .val (.int z162), .val (.int z163), .val (.int z164), .val (.int z165), .unset, .unset, .unset, .unset] [(.ref b206), (.ref b206)]))
        refine own_by (fun _ kS => XS.iconst X208.here hx rfl (hb hby at_113) kS) ?_
        show own_Comes p e below s _ _ _ (T208.setTop (mkF m 114 #[.val (.int p0), .val (.int p1), .val (.int p2), .val (.int p3), .val (.int p4), .val (.int ((p0 &&& (3 : Int32)) + (1 : Int32))), .val (.int z162), .val (.int z163), .val (.int z164), .val (.int z165), .unset, .unset, .unset, .unset] [(.int (1 : Int32)), (.ref b206), (.ref b206)]))
        refine own_by (fun _ kS => XS.iload X208.here hx rfl (hb hby at_114) rfl kS) ?_
        show own_Comes p e below s _ _ _ (T208.setTop (mkF m 116 #[.val (.int p0), .val (.int p1), .val (.int p2), .val (.int p3), .val (.int p4), .val (.int ((p0 &&& (3 : Int32)) + (1 : Int32))), .val (.int z162), .val (.int z163), .val (.int z164), .val (.int z165), .unset, .unset, .unset, .unset] [(.int z163), (.int (1 : Int32)), (.ref b206), (.ref b206)]))
        have Vo209 := V208
        obtain ⟨cl209, Ar209, qA209, SA209, NA209, HA209, GA209⟩ := Vo209
        have hin209 : ¬ ((1 : Int32) < 0 ∨ cl209.slots.size ≤ ((1 : Int32)).toNatClampNeg) := inb_of SA209 ⟨by decide, by decide⟩
        obtain ⟨T210, h210, X210, e210, W210, st210⟩ := stC X208 hx hZ e208 Ar209 (j := (1 : Int32)) hin209 (g := (mkF m 116 #[.val (.int p0), .val (.int p1), .val (.int p2), .val (.int p3), .val (.int p4), .val (.int ((p0 &&& (3 : Int32)) + (1 : Int32))), .val (.int z162), .val (.int z163), .val (.int z164), .val (.int z165), .unset, .unset, .unset, .unset] [(.int z163), (.int (1 : Int32)), (.ref b206), (.ref b206)])) rfl rfl (hb hby at_116)
        refine own_by st210 ?_
        have V210 : Arv Z h210 b206 k206 .char (4 : Int32) [(.int (nar .char z162)), (.int (nar .char z163)), (.int (0 : Int32)), (.int (0 : Int32))] (.int (0 : Int32)) := Arv.set Ar209 qA209 SA209 NA209 HA209 GA209 (by first | rfl | exact fits_nar_char _) W210 1 rfl (Nat.le_of_ble_eq_true rfl)
        have N210 := Fr.snoc X210 N208 g_b206
        show own_Comes p e below s _ _ _ (T210.setTop (mkF m 117 #[.val (.int p0), .val (.int p1), .val (.int p2), .val (.int p3), .val (.int p4), .val (.int ((p0 &&& (3 : Int32)) + (1 : Int32))), .val (.int z162), .val (.int z163), .val (.int z164), .val (.int z165), .unset, .unset, .unset, .unset] [(.ref b206)]))
        refine own_by (fun _ kS => XS.dup X210.here hx rfl (hb hby at_117) rfl rfl kS) ?_
        show own_Comes p e below s _ _ _ (T210.setTop (mkF m 118 #[.val (.int p0), .val (.int p1), .val (.int p2), .val (.int p3), .val (.int p4), .val (.int ((p0 &&& (3 : Int32)) + (1 : Int32))), .val (.int z162), .val (.int z163), .val (.int z164), .val (.int z165), .unset, .unset, .unset, .unset] [(.ref b206), (.ref b206)]))
        refine own_by (fun _ kS => XS.iconst X210.here hx rfl (hb hby at_118) kS) ?_
        show own_Comes p e below s _ _ _ (T210.setTop (mkF m 119 #[.val (.int p0), .val (.int p1), .val (.int p2), .val (.int p3), .val (.int p4), .val (.int ((p0 &&& (3 : Int32)) + (1 : Int32))), .val (.int z162), .val (.int z163), .val (.int z164), .val (.int z165), .unset, .unset, .unset, .unset] [(.int (2 : Int32)), (.ref b206), (.ref b206)]))
        refine own_by (fun _ kS => XS.iload X210.here hx rfl (hb hby at_119) rfl kS) ?_
        show own_Comes p e below s _ _ _ (T210.setTop (mkF m 121 #[.val (.int p0), .val (.int p1), .val (.int p2), .val (.int p3), .val (.int p4), .val (.int ((p0 &&& (3 : Int32)) + (1 : Int32))), .val (.int z162), .val (.int z163), .val (.int z164), .val (.int z165), .unset, .unset, .unset, .unset] [(.int z164), (.int (2 : Int32)), (.ref b206), (.ref b206)]))
        have Vo211 := V210
        obtain ⟨cl211, Ar211, qA211, SA211, NA211, HA211, GA211⟩ := Vo211
        have hin211 : ¬ ((2 : Int32) < 0 ∨ cl211.slots.size ≤ ((2 : Int32)).toNatClampNeg) := inb_of SA211 ⟨by decide, by decide⟩
        obtain ⟨T212, h212, X212, e212, W212, st212⟩ := stC X210 hx hZ e210 Ar211 (j := (2 : Int32)) hin211 (g := (mkF m 121 #[.val (.int p0), .val (.int p1), .val (.int p2), .val (.int p3), .val (.int p4), .val (.int ((p0 &&& (3 : Int32)) + (1 : Int32))), .val (.int z162), .val (.int z163), .val (.int z164), .val (.int z165), .unset, .unset, .unset, .unset] [(.int z164), (.int (2 : Int32)), (.ref b206), (.ref b206)])) rfl rfl (hb hby at_121)
        refine own_by st212 ?_
        have V212 : Arv Z h212 b206 k206 .char (4 : Int32) [(.int (nar .char z162)), (.int (nar .char z163)), (.int (nar .char z164)), (.int (0 : Int32))] (.int (0 : Int32)) := Arv.set Ar211 qA211 SA211 NA211 HA211 GA211 (by first | rfl | exact fits_nar_char _) W212 2 rfl (Nat.le_of_ble_eq_true rfl)
        have N212 := Fr.snoc X212 N210 g_b206
        show own_Comes p e below s _ _ _ (T212.setTop (mkF m 122 #[.val (.int p0), .val (.int p1), .val (.int p2), .val (.int p3), .val (.int p4), .val (.int ((p0 &&& (3 : Int32)) + (1 : Int32))), .val (.int z162), .val (.int z163), .val (.int z164), .val (.int z165), .unset, .unset, .unset, .unset] [(.ref b206)]))
        refine own_by (fun _ kS => XS.dup X212.here hx rfl (hb hby at_122) rfl rfl kS) ?_
        show own_Comes p e below s _ _ _ (T212.setTop (mkF m 123 #[.val (.int p0), .val (.int p1), .val (.int p2), .val (.int p3), .val (.int p4), .val (.int ((p0 &&& (3 : Int32)) + (1 : Int32))), .val (.int z162), .val (.int z163), .val (.int z164), .val (.int z165), .unset, .unset, .unset, .unset] [(.ref b206), (.ref b206)]))
        refine own_by (fun _ kS => XS.iconst X212.here hx rfl (hb hby at_123) kS) ?_
        show own_Comes p e below s _ _ _ (T212.setTop (mkF m 124 #[.val (.int p0), .val (.int p1), .val (.int p2), .val (.int p3), .val (.int p4), .val (.int ((p0 &&& (3 : Int32)) + (1 : Int32))), .val (.int z162), .val (.int z163), .val (.int z164), .val (.int z165), .unset, .unset, .unset, .unset] [(.int (3 : Int32)), (.ref b206), (.ref b206)]))
        refine own_by (fun _ kS => XS.iload X212.here hx rfl (hb hby at_124) rfl kS) ?_
        show own_Comes p e below s _ _ _ (T212.setTop (mkF m 126 #[.val (.int p0), .val (.int p1), .val (.int p2), .val (.int p3), .val (.int p4), .val (.int ((p0 &&& (3 : Int32)) + (1 : Int32))), .val (.int z162), .val (.int z163), .val (.int z164), .val (.int z165), .unset, .unset, .unset, .unset] [(.int z165), (.int (3 : Int32)), (.ref b206), (.ref b206)]))
        have Vo213 := V212
        obtain ⟨cl213, Ar213, qA213, SA213, NA213, HA213, GA213⟩ := Vo213
        have hin213 : ¬ ((3 : Int32) < 0 ∨ cl213.slots.size ≤ ((3 : Int32)).toNatClampNeg) := inb_of SA213 ⟨by decide, by decide⟩
        obtain ⟨T214, h214, X214, e214, W214, st214⟩ := stC X212 hx hZ e212 Ar213 (j := (3 : Int32)) hin213 (g := (mkF m 126 #[.val (.int p0), .val (.int p1), .val (.int p2), .val (.int p3), .val (.int p4), .val (.int ((p0 &&& (3 : Int32)) + (1 : Int32))), .val (.int z162), .val (.int z163), .val (.int z164), .val (.int z165), .unset, .unset, .unset, .unset] [(.int z165), (.int (3 : Int32)), (.ref b206), (.ref b206)])) rfl rfl (hb hby at_126)
        refine own_by st214 ?_
        have V214 : Arv Z h214 b206 k206 .char (4 : Int32) [(.int (nar .char z162)), (.int (nar .char z163)), (.int (nar .char z164)), (.int (nar .char z165))] (.int (0 : Int32)) := Arv.set Ar213 qA213 SA213 NA213 HA213 GA213 (by first | rfl | exact fits_nar_char _) W214 3 rfl (Nat.le_of_ble_eq_true rfl)
        have N214 := Fr.snoc X214 N212 g_b206
        show own_Comes p e below s _ _ _ (T214.setTop (mkF m 127 #[.val (.int p0), .val (.int p1), .val (.int p2), .val (.int p3), .val (.int p4), .val (.int ((p0 &&& (3 : Int32)) + (1 : Int32))), .val (.int z162), .val (.int z163), .val (.int z164), .val (.int z165), .unset, .unset, .unset, .unset] [(.ref b206)]))
        refine own_by (fun _ kS => XS.astore X214.here hx rfl (hb hby at_127) rfl rfl (l' := #[.val (.int p0), .val (.int p1), .val (.int p2), .val (.int p3), .val (.int p4), .val (.int ((p0 &&& (3 : Int32)) + (1 : Int32))), .val (.int z162), .val (.int z163), .val (.int z164), .val (.int z165), .val (.ref b206), .unset, .unset, .unset]) rfl kS) ?_
        show own_Comes p e below s _ _ _ (T214.setTop (mkF m 129 #[.val (.int p0), .val (.int p1), .val (.int p2), .val (.int p3), .val (.int p4), .val (.int ((p0 &&& (3 : Int32)) + (1 : Int32))), .val (.int z162), .val (.int z163), .val (.int z164), .val (.int z165), .val (.ref b206), .unset, .unset, .unset] []))
        have Vc := V214
        rw [own_nar16 hz162, own_nar16 hz163, own_nar16 hz164, own_nar16 hz165] at Vc
        have hB : ∀ c ∈ [z162, z163, z164, z165], ¬ c < 0 ∧ ¬ (65535 : Int32) < c := fun c hc => by
          simp only [List.mem_cons, List.not_mem_nil, or_false] at hc
          rcases hc with rfl | rfl | rfl | rfl
          · exact hz162
          · exact hz163
          · exact hz164
          · exact hz165
        obtain ⟨T215, h215, X215, e215, E215, A215, D215, -, st215⟩ := newO X214 hx hZ hown (hw _ (List.mem_of_getElem? (i := 8) rfl)) (hw _ (List.mem_of_getElem? (i := 9) rfl)) (hw _ (List.mem_of_getElem? (i := 10) rfl)) e214 (g := (mkF m 129 #[.val (.int p0), .val (.int p1), .val (.int p2), .val (.int p3), .val (.int p4), .val (.int ((p0 &&& (3 : Int32)) + (1 : Int32))), .val (.int z162), .val (.int z163), .val (.int z164), .val (.int z165), .val (.ref b206), .unset, .unset, .unset] [])) rfl (hb hby at_129) (by decide) (by decide)
        obtain ⟨b215, g215⟩ : ∃ z, z = h214.size := ⟨_, rfl⟩
        rw [← g215] at A215 D215 st215
        have g_b215 : n0 ≤ b215 := Nat.le_trans (Nat.le_trans (Nat.le_trans (Nat.le_trans (Nat.le_trans (Nat.le_trans Z0 E206.1) (Keep.of_wr W208).1) (Keep.of_wr W210).1) (Keep.of_wr W212).1) (Keep.of_wr W214).1) (Nat.le_of_eq g215.symm)
        refine own_by st215 ?_
        show own_Comes p e below s _ _ _ (T215.setTop (mkF m 132 #[.val (.int p0), .val (.int p1), .val (.int p2), .val (.int p3), .val (.int p4), .val (.int ((p0 &&& (3 : Int32)) + (1 : Int32))), .val (.int z162), .val (.int z163), .val (.int z164), .val (.int z165), .val (.ref b206), .unset, .unset, .unset] [(.ref b215)]))
        have nA : b215 ≠ b206 := Nat.ne_of_gt (Nat.lt_of_lt_of_le Vc.lt (Nat.le_of_eq g215.symm))
        refine own_by (fun _ kS => XS.dup X215.here hx rfl (hb hby at_132) rfl rfl kS) ?_
        show own_Comes p e below s _ _ _ (T215.setTop (mkF m 133 #[.val (.int p0), .val (.int p1), .val (.int p2), .val (.int p3), .val (.int p4), .val (.int ((p0 &&& (3 : Int32)) + (1 : Int32))), .val (.int z162), .val (.int z163), .val (.int z164), .val (.int z165), .val (.ref b206), .unset, .unset, .unset] [(.ref b215), (.ref b215)]))
        refine own_by (fun _ kS => XS.aload X215.here hx rfl (hb hby at_133) rfl rfl kS) ?_
        show own_Comes p e below s _ _ _ (T215.setTop (mkF m 135 #[.val (.int p0), .val (.int p1), .val (.int p2), .val (.int p3), .val (.int p4), .val (.int ((p0 &&& (3 : Int32)) + (1 : Int32))), .val (.int z162), .val (.int z163), .val (.int z164), .val (.int z165), .val (.ref b206), .unset, .unset, .unset] [(.ref b206), (.ref b215), (.ref b215)]))
        have Vq : Arv Z h215 b206 k206 .char (Int32.ofNat [z162, z163, z164, z165].length) ([z162, z163, z164, z165].map Value.int) (.int 0) := (Vc.ext E215)
        by_cases hw255 : ∃ c ∈ [z162, z163, z164, z165], (255 : Int32) < c
        · show own_Comes p e below s _ _ _ (T215.setTop (mkF m 135 #[.val (.int p0), .val (.int p1), .val (.int p2), .val (.int p3), .val (.int p4), .val (.int ((p0 &&& (3 : Int32)) + (1 : Int32))), .val (.int z162), .val (.int z163), .val (.int z164), .val (.int z165), .val (.ref b206), .unset, .unset, .unset] [(.ref b206), (.ref b215), (.ref b215)]))
          have c216 := ((((((O0.ext E206).wr W208 g_b206).wr W210 g_b206).wr W212 g_b206).wr W214 g_b206).ext E215)
          obtain ⟨vv217, _, ⟨T217, L217, k217, n217⟩, -, X217, ⟨Lc217, hQ217, l217, y217, z217⟩, st217⟩ := X215.specialBack hx (y := (⟨"java/lang/String", "<init>", "([C)V"⟩ : MethodName)) rfl hown (mvT hZ (hw _ (List.mem_of_getElem? (i := 11) rfl))) (mvT hZ (hw _ (List.mem_of_getElem? (i := 12) rfl))) (mvT hZ (hw _ (List.mem_of_getElem? (i := 13) rfl))) (by decide) (backOf (W := 1) (rm2w l Z a0 hw [] b215 b206 k206 [z162, z163, z164, z165] zc h215 n0 (Nat.le_trans (Nat.le_trans (Nat.le_trans (Nat.le_trans (Nat.le_trans (Nat.le_trans Z0 E206.1) (Keep.of_wr W208).1) (Keep.of_wr W210).1) (Keep.of_wr W212).1) (Keep.of_wr W214).1) E215.1) c216 Sz hzc Sd Sh Sl A215 (D215 (Or.inr (hw _ (List.mem_of_getElem? (i := 36) rfl))) (ty := (.array .byte)) (by decide)) (D215 (Or.inr (hw _ (List.mem_of_getElem? (i := 34) rfl))) (ty := .byte) (by decide)) g_b215 nA Vq hw255 (Nat.le_of_ble_eq_true rfl) (Nat.le_of_ble_eq_true rfl) hB) hZ (hw _ (List.mem_of_getElem? (i := 13) rfl)) (hw _ (List.mem_of_getElem? (i := 10) rfl)) (by decide) (by decide)) (g := (mkF m 135 #[.val (.int p0), .val (.int p1), .val (.int p2), .val (.int p3), .val (.int p4), .val (.int ((p0 &&& (3 : Int32)) + (1 : Int32))), .val (.int z162), .val (.int z163), .val (.int z164), .val (.int z165), .val (.ref b206), .unset, .unset, .unset] [(.ref b206), (.ref b215), (.ref b215)])) rfl (by rw [hml]; rfl) (Steps.refl _) (a := b215) (argsL := [(.ref b206)]) (rest := [(.ref b215)]) (lenOf pd___C_V_325 rfl) rfl (by show 2 * 0 + _ ≤ _; exact Nat.le_of_eq rfl) (hb hby at_135) (fun _ _ => ⟨rfl, e215, (by decide : 2 + 2 ≤ _), (by decide : 8 + 12 ≤ _)⟩)
          dsimp only [Pt.U, Pt.locs, Pt.cells, Pt.slots] at X217 l217 y217 z217 st217 hQ217
          subst l217 y217 z217
          obtain ⟨rfl, N217q, K217, Y217⟩ := hQ217
          have N217 := Fr.app N214 N217q
          refine own_tr st217 ?_
          show own_Comes p e below s _ _ _ (T217.setTop (mkF m 138 #[.val (.int p0), .val (.int p1), .val (.int p2), .val (.int p3), .val (.int p4), .val (.int ((p0 &&& (3 : Int32)) + (1 : Int32))), .val (.int z162), .val (.int z163), .val (.int z164), .val (.int z165), .val (.ref b206), .unset, .unset, .unset] [(.ref b215)]))
          refine own_by (fun _ kS => XS.astore X217.here hx rfl (hb hby at_138) rfl rfl (l' := #[.val (.int p0), .val (.int p1), .val (.int p2), .val (.int p3), .val (.int p4), .val (.int ((p0 &&& (3 : Int32)) + (1 : Int32))), .val (.int z162), .val (.int z163), .val (.int z164), .val (.int z165), .val (.ref b206), .val (.ref b215), .unset, .unset]) rfl kS) ?_
          show own_Comes p e below s _ _ _ (T217.setTop (mkF m 140 #[.val (.int p0), .val (.int p1), .val (.int p2), .val (.int p3), .val (.int p4), .val (.int ((p0 &&& (3 : Int32)) + (1 : Int32))), .val (.int z162), .val (.int z163), .val (.int z164), .val (.int z165), .val (.ref b206), .val (.ref b215), .unset, .unset] []))
          exact J140 b206 b215 k206 [z162, z163, z164, z165] _ _ _ (Vq.keep K217 (ninS (Ne.symm nA) nin0)) Y217 (Nat.le_of_ble_eq_true rfl) (Nat.le_of_ble_eq_true rfl) (X217.more (by decide) (by decide)) rfl N217 (c216.keep K217 (allS g_b215 all0)) (Nat.le_trans (Nat.le_trans (Nat.le_trans (Nat.le_trans (Nat.le_trans (Nat.le_trans (Nat.le_trans Z0 E206.1) (Keep.of_wr W208).1) (Keep.of_wr W210).1) (Keep.of_wr W212).1) (Keep.of_wr W214).1) E215.1) K217.1)
        · show own_Comes p e below s _ _ _ (T215.setTop (mkF m 135 #[.val (.int p0), .val (.int p1), .val (.int p2), .val (.int p3), .val (.int p4), .val (.int ((p0 &&& (3 : Int32)) + (1 : Int32))), .val (.int z162), .val (.int z163), .val (.int z164), .val (.int z165), .val (.ref b206), .unset, .unset, .unset] [(.ref b206), (.ref b215), (.ref b215)]))
          have hp : ∀ c ∈ [z162, z163, z164, z165], ¬ c < 0 ∧ ¬ (255 : Int32) < c := fun c hc => ⟨(hB c hc).1, fun q => hw255 ⟨c, hc, q⟩⟩
          have c218 := ((((((O0.ext E206).wr W208 g_b206).wr W210 g_b206).wr W212 g_b206).wr W214 g_b206).ext E215)
          obtain ⟨vv219, _, ⟨T219, L219, k219, n219⟩, -, X219, ⟨Lc219, hQ219, l219, y219, z219⟩, st219⟩ := X215.specialBack hx (y := (⟨"java/lang/String", "<init>", "([C)V"⟩ : MethodName)) rfl hown (mvT hZ (hw _ (List.mem_of_getElem? (i := 11) rfl))) (mvT hZ (hw _ (List.mem_of_getElem? (i := 12) rfl))) (mvT hZ (hw _ (List.mem_of_getElem? (i := 13) rfl))) (by decide) (StrChars.Road.backV (W := 1) hZ hws (kI := 4) (hw _ (List.mem_of_getElem? (i := 9) rfl)) (cs := [z162, z163, z164, z165]) (bs := [z162, z163, z164, z165].map (fun c => c.toInt8.toInt32)) (n := 4) (n0 := n0) g_b215 (Nat.le_trans (Nat.le_trans (Nat.le_trans (Nat.le_trans (Nat.le_trans (Nat.le_trans Z0 E206.1) (Keep.of_wr W208).1) (Keep.of_wr W210).1) (Keep.of_wr W212).1) (Keep.of_wr W214).1) E215.1) A215 (D215 (Or.inr (hw _ (List.mem_of_getElem? (i := 36) rfl))) (ty := (.array .byte)) (by decide)) (D215 (Or.inr (hw _ (List.mem_of_getElem? (i := 34) rfl))) (ty := .byte) (by decide)) Vq (Sz.ext c218.2) hzc rfl rfl (by decide) (by decide) hp rfl (by decide) (by decide)) (g := (mkF m 135 #[.val (.int p0), .val (.int p1), .val (.int p2), .val (.int p3), .val (.int p4), .val (.int ((p0 &&& (3 : Int32)) + (1 : Int32))), .val (.int z162), .val (.int z163), .val (.int z164), .val (.int z165), .val (.ref b206), .unset, .unset, .unset] [(.ref b206), (.ref b215), (.ref b215)])) rfl (by rw [hml]; rfl) (Steps.refl _) (a := b215) (argsL := [(.ref b206)]) (rest := [(.ref b215)]) (lenOf pd___C_V_325 rfl) rfl (by show 2 * 0 + _ ≤ _; exact Nat.le_of_eq rfl) (hb hby at_135) (fun _ _ => ⟨rfl, e215, (by decide : 2 + 1 ≤ _), (by decide : 8 + 4 ≤ _)⟩)
          dsimp only [Pt.U, Pt.locs, Pt.cells, Pt.slots] at X219 l219 y219 z219 st219 hQ219
          subst l219 y219 z219
          obtain ⟨rfl, N219q, K219, Eb219, Cb219, t219, kb219, _, _, _, Vb219, Ab219⟩ := hQ219
          have N219 := Fr.app N214 N219q
          refine own_tr st219 ?_
          show own_Comes p e below s _ _ _ (T219.setTop (mkF m 138 #[.val (.int p0), .val (.int p1), .val (.int p2), .val (.int p3), .val (.int p4), .val (.int ((p0 &&& (3 : Int32)) + (1 : Int32))), .val (.int z162), .val (.int z163), .val (.int z164), .val (.int z165), .val (.ref b206), .unset, .unset, .unset] [(.ref b215)]))
          have hY : own_Txt Z T219.heap b215 [z162, z163, z164, z165] := ⟨Eb219, t219, kb219, 0, _, _, Vb219, Cb219, Ab219, StrChars.Road.codOf rfl (fun c hc => (hp c hc).2), hB, Nat.le_of_ble_eq_true rfl⟩
          refine own_by (fun _ kS => XS.astore X219.here hx rfl (hb hby at_138) rfl rfl (l' := #[.val (.int p0), .val (.int p1), .val (.int p2), .val (.int p3), .val (.int p4), .val (.int ((p0 &&& (3 : Int32)) + (1 : Int32))), .val (.int z162), .val (.int z163), .val (.int z164), .val (.int z165), .val (.ref b206), .val (.ref b215), .unset, .unset]) rfl kS) ?_
          show own_Comes p e below s _ _ _ (T219.setTop (mkF m 140 #[.val (.int p0), .val (.int p1), .val (.int p2), .val (.int p3), .val (.int p4), .val (.int ((p0 &&& (3 : Int32)) + (1 : Int32))), .val (.int z162), .val (.int z163), .val (.int z164), .val (.int z165), .val (.ref b206), .val (.ref b215), .unset, .unset] []))
          exact J140 b206 b215 k206 [z162, z163, z164, z165] _ _ _ (Vq.keep K219 (ninS (Ne.symm nA) nin0)) hY (Nat.le_of_ble_eq_true rfl) (Nat.le_of_ble_eq_true rfl) (X219.more (by decide) (by decide)) rfl N219 (c218.keep K219 (allS g_b215 all0)) (Nat.le_trans (Nat.le_trans (Nat.le_trans (Nat.le_trans (Nat.le_trans (Nat.le_trans (Nat.le_trans Z0 E206.1) (Keep.of_wr W208).1) (Keep.of_wr W210).1) (Keep.of_wr W212).1) (Keep.of_wr W214).1) E215.1) K219.1)
set_option maxRecDepth 65536 in
set_option maxHeartbeats 40000000 in
theorem comes_1 {Post : Tables → Env → Array Value → State → Outcome → State → Prop} (hpost : ∀ tb e args s v u, (limb_1_1.after args s (.returned v) u = true ∧ limb_1_2.after args s (.returned v) u = true ∧ True) → FrameEnd s (.returned v) u (Jvm.fieldLocs frame_1_writes args s ++ Jvm.arrayLocs frame_1_arrays args s ++ Jvm.staticLocs frame_1_statics s) 16 128 → Post tb e args s (.returned v) u) :
    ArmFor flags0 classFile x code maxLocals ret World_1 tables_1 room_1 Calls_1 rest_1 Pre_1 Post := by
  intro l hfl _ _ p e ha hc hk s m args below hf hA hF happ hP
  obtain ⟨hcalls, hrest, hpre⟩ := hP
  obtain ⟨-, -, -, hnamed, -, -, -, hat⟩ := (Spec.applies_iff hf).mp happ
  obtain ⟨hg, hn⟩ := and_e (Cond.before_iff.mp (show (Jvm.Cond.and given_1 narrow_1).before args s = true from hpre))
  obtain ⟨hcount, hk0⟩ := and_e hg
  obtain ⟨ha0, hk1⟩ := and_e hk0
  obtain ⟨ha1, hk2⟩ := and_e hk1
  obtain ⟨ha2, hk3⟩ := and_e hk2
  obtain ⟨ha3, hk4⟩ := and_e hk3
  have ha4 := hk4
  obtain ⟨w0, w1, w2, w3, w4, rfl⟩ : ∃ w0 w1 w2 w3 w4 : Value, args = #[w0, w1, w2, w3, w4] := by
    have hs : args.size = 5 := by simpa [Cond.value, given_1] using hcount
    obtain ⟨L⟩ := args
    match L, hs with
    | [w0, w1, w2, w3, w4], _ => exact ⟨w0, w1, w2, w3, w4, rfl⟩
  have hw := fun d (hd : d ∈ tables_1) => atoms_spec (ws := Jvm.Cond.code x code maxLocals ret :: tables_1) hat d (List.mem_cons_of_mem _ hd)
  have hfit : Fit s := fun {y c} hc i hi => by
    obtain ⟨ha, rfl⟩ := Array.getElem?_eq_some_iff.mp hc
    have q := List.all_eq_true.mp ((Array.all_eq_true_iff_forall_mem.mp hF) _ (Array.getElem_mem ha)) i (List.mem_range.mpr hi)
    simpa [Array.getElem?_eq_getElem hi] using q
  obtain ⟨hsets, hown0⟩ := atoms_of _ (rest_1_c_eq ▸ (show rest_1_c.before _ s = true from hrest))
  obtain ⟨i0, ei0⟩ := is_v ha0
  obtain rfl : w0 = (.int i0) := Option.some.inj ei0
  obtain ⟨i1, ei1⟩ := is_v ha1
  obtain rfl : w1 = (.int i1) := Option.some.inj ei1
  obtain ⟨i2, ei2⟩ := is_v ha2
  obtain rfl : w2 = (.int i2) := Option.some.inj ei2
  obtain ⟨i3, ei3⟩ := is_v ha3
  obtain rfl : w3 = (.int i3) := Option.some.inj ei3
  obtain ⟨i4, ei4⟩ := is_v ha4
  obtain rfl : w4 = (.int i4) := Option.some.inj ei4
  obtain ⟨zc, ezc⟩ := is_v (Cond.before_iff.mp (hsets _ (List.mem_of_getElem? (i := 1) rfl)))
  have Sz := Sta.start ezc (Or.inl (hsets _ (List.mem_of_getElem? (i := 0) rfl)))
  have hzc : ¬ zc = 0 := gotF (Cond.eq_ints ezc (Term.int_eval (0))) (not_v (Cond.before_iff.mp (hsets _ (List.mem_of_getElem? (i := 2) rfl))))
  obtain ⟨fm, efm, rf⟩ := isR_v (Cond.before_iff.mp (hsets _ (List.mem_of_getElem? (i := 8) rfl)))
  have Sf := Sta.start efm (Or.inl (hsets _ (List.mem_of_getElem? (i := 7) rfl)))
  have Sd := Sta.start (eqv_i (Term.int_eval (1)) (Cond.before_iff.mp (hsets _ (List.mem_of_getElem? (i := 12) rfl)))) (Or.inl (hsets _ (List.mem_of_getElem? (i := 11) rfl)))
  have Sh := Sta.start (eqv_i (Term.int_eval (0)) (Cond.before_iff.mp (hsets _ (List.mem_of_getElem? (i := 15) rfl)))) (Or.inl (hsets _ (List.mem_of_getElem? (i := 14) rfl)))
  have Sl := Sta.start (eqv_i (Term.int_eval (8)) (Cond.before_iff.mp (hsets _ (List.mem_of_getElem? (i := 18) rfl)))) (Or.inl (hsets _ (List.mem_of_getElem? (i := 17) rfl)))
  obtain ⟨n, o, h1, h2, h3, _, L, rfl, ⟨rfl, N⟩, hq⟩ := rm0 l s _ hw tables_1 i0 i1 i2 i3 i4 zc fm s.heap s.heap.size (Nat.le_refl _) (Old.start s) Sz hzc Sf rf Sd Sh Sl p e ha hc hk s m _ below hf ((Spec.applies_iff_loose hf).mp happ).1 ⟨rfl, State.Warmed39.refl s, rfl⟩ trivial
  refine ⟨n, _, h1, h2, h3, hpost _ _ _ _ _ _ ⟨Cond.after_iff.mpr rfl, Cond.after_iff.mpr (eq_i res_at (Term.int_eval (1)) rfl), trivial⟩ ⟨hq.1, hq.2.1, (hq.2.2.sift fun y hy => Or.inr (N y hy)).mono (by decide) (by decide)⟩⟩
theorem main_1_1 : Claimed_1_1 := comes_1 fun _ _ _ _ _ _ h hF => ⟨h.1, hF⟩
theorem main_1_2 : Claimed_1_2 := comes_1 fun _ _ _ _ _ _ h hF => ⟨h.2.1, hF⟩
end Jvm.Pilot.@@N@@
namespace Jvm.Pilot.@@N@@
open Jvm Jvm.ClassFile Sem Op Lib Jvm.Free Jvm.Stand Jvm.Pilot.@@N@@.Jvm.D
/-! MADE BY PROGRAM (witnessworld.py) out of the Statement's table words and the real class files: 21 classes; the members and pool entries that the words name. The judged class is class 1, her method 1. -/
namespace start1
open Jvm.ClassFile
def u (s : String) : CpInfo := .utf8 (stringToUtf16 s)
/-- a pool by its gaps: so many unusable entries, then the entry; so many at the end -/
def gap : Nat → List CpInfo → List CpInfo
  | 0, r => r
  | n + 1, r => .unusable :: gap n r
def poolList (es : List (Nat × CpInfo)) (last : Nat) : List CpInfo := es.foldr (fun e r => gap e.1 (e.2 :: r)) (gap last [])
def pool (es : List (Nat × CpInfo)) (last : Nat) : Array CpInfo := ⟨poolList es last⟩
def fileOf (pool : Array CpInfo) (this : Nat) (attrs : Array Attribute := #[]) (ms : Array MethodInfo := #[]) (fl : Nat := 33) (sup : Nat := 0) (ifs : Array Nat := #[]) (fds : Array FieldInfo := #[]) : ClassFile where
  minorVersion := 0
  majorVersion := 65
  constantPool := pool
  accessFlags := fl
  thisClass := this
  superClass := sup
  interfaces := ifs
  fields := fds
  methods := ms
  attributes := attrs
def plain (name : String) (sup : Option ClassId) : Class where
  name := name
  kind := .ordinary
  loader := none
  accessFlags := 33
  super := sup
  interfaces := #[]
  cf := none
  fields := #[]
  methods := #[]
  instanceTypes := #[]
  staticTypes := #[]
  resolved := #[]
  callSites := []
  init := .initialized
  statics := none
  mirror := none

def pool0 : Array CpInfo := pool [(5, u "<init>"), (0, u "()V"), (1, .class_ 10), (1, u "java/lang/Object")] 113

def k0c0 : Code := { maxStack := 0, maxLocals := 1, code := object_method_1_code, exceptionTable := #[], attributes := #[] }
def k0m0 : Method := { name := "<init>", desc := "()V", sig := { parameters := [], returnType := none }, accessFlags := 1, code := some k0c0 }
/-- java/lang/Object -/
def k0 : Class := { plain "java/lang/Object" none with
  accessFlags := 33
  interfaces := #[]
  cf := some (fileOf pool0 8 #[] #[{ accessFlags := 1, nameIndex := 5, descriptorIndex := 6, attributes := #[] }] 33 0 #[] #[])
  fields := #[]
  methods := #[k0m0]
  instanceTypes := #[]
  staticTypes := #[]
  resolved := Array.replicate 124 none
  statics := none }

def pool1 : Array CpInfo := pool [(2, .class_ 4), (1, u "java/lang/Object"), (0, u "<init>"), (0, u "()V"), (0, .methodref 8 9), (0, .class_ 10), (0, .nameAndType 11 12), (0, u "com/example/holdfast/holdfast/spi/LockArgumentsRequireNamePinLaw"), (0, u "draw"), (0, u "(I)C"), (0, .class_ 14), (0, u "java/lang/String"), (0, .methodref 13 16), (0, .nameAndType 5 17), (0, u "([C)V"), (0, .methodref 8 19), (0, .nameAndType 20 21), (0, u "ok"), (0, u "([CI)Z"), (0, .methodref 23 24), (0, .class_ 25), (0, .nameAndType 26 27), (0, u "com/example/holdfast/holdfast/spi/LockArguments"), (0, u "requireName"), (0, u "(Ljava/lang/String;)Ljava/lang/String;"), (0, .integer 55296), (0, .integer 56320), (0, .integer 65535), (0, .integer 56319), (0, .integer 57343), (0, .methodref 8 34), (0, .nameAndType 35 36), (0, u "isHigh"), (0, u "(C)Z"), (0, .methodref 8 38), (0, .nameAndType 39 36), (0, u "isLow"), (2, u "law"), (0, u "(IIIII)Z")] 5

def k1m0 : Method := { name := "<init>", desc := "()V", sig := { parameters := [], returnType := none }, accessFlags := 2, code := none }
def k1c1 : Code := { maxStack := 4, maxLocals := 14, code := code, exceptionTable := #[], attributes := #[] }
def k1m1 : Method := { name := "law", desc := "(IIIII)Z", sig := { parameters := [.int, .int, .int, .int, .int], returnType := some .boolean }, accessFlags := 9, code := some k1c1 }
def k1c2 : Code := { maxStack := 3, maxLocals := 3, code := method_3_code, exceptionTable := #[], attributes := #[] }
def k1m2 : Method := { name := "draw", desc := "(I)C", sig := { parameters := [.int], returnType := some .char }, accessFlags := 10, code := some k1c2 }
def k1c3 : Code := { maxStack := 2, maxLocals := 1, code := method_4_code, exceptionTable := #[], attributes := #[] }
def k1m3 : Method := { name := "isHigh", desc := "(C)Z", sig := { parameters := [.char], returnType := some .boolean }, accessFlags := 10, code := some k1c3 }
def k1c4 : Code := { maxStack := 2, maxLocals := 1, code := method_5_code, exceptionTable := #[], attributes := #[] }
def k1m4 : Method := { name := "isLow", desc := "(C)Z", sig := { parameters := [.char], returnType := some .boolean }, accessFlags := 10, code := some k1c4 }
def k1c5 : Code := { maxStack := 3, maxLocals := 3, code := method_6_code, exceptionTable := #[], attributes := #[] }
def k1m5 : Method := { name := "ok", desc := "([CI)Z", sig := { parameters := [(.array .char), .int], returnType := some .boolean }, accessFlags := 10, code := some k1c5 }
/-- com/example/holdfast/holdfast/spi/LockArgumentsRequireNamePinLaw -/
def k1 : Class := { plain "com/example/holdfast/holdfast/spi/LockArgumentsRequireNamePinLaw" (some 0) with
  accessFlags := 49
  interfaces := #[]
  cf := some (fileOf pool1 8 #[] #[{ accessFlags := 2, nameIndex := 5, descriptorIndex := 6, attributes := #[] }, { accessFlags := 9, nameIndex := 42, descriptorIndex := 43, attributes := #[] }, { accessFlags := 10, nameIndex := 11, descriptorIndex := 12, attributes := #[] }, { accessFlags := 10, nameIndex := 35, descriptorIndex := 36, attributes := #[] }, { accessFlags := 10, nameIndex := 39, descriptorIndex := 36, attributes := #[] }, { accessFlags := 10, nameIndex := 20, descriptorIndex := 21, attributes := #[] }] 49 2 #[] #[])
  fields := #[]
  methods := #[k1m0, k1m1, k1m2, k1m3, k1m4, k1m5]
  instanceTypes := #[]
  staticTypes := #[]
  resolved := Array.replicate 49 none
  statics := none }

def pool2 : Array CpInfo := pool [(1, .class_ 2), (0, u "java/io/Serializable"), (0, .class_ 4), (0, u "java/lang/Object")] 2

/-- java/io/Serializable -/
def k2 : Class := { plain "java/io/Serializable" (some 0) with
  accessFlags := 1537
  interfaces := #[]
  cf := some (fileOf pool2 1 #[] #[] 1537 3 #[] #[])
  fields := #[]
  methods := #[]
  instanceTypes := #[]
  staticTypes := #[]
  resolved := Array.replicate 7 none
  statics := none }

def pool3 : Array CpInfo := pool [(1, .class_ 2), (0, u "java/lang/Comparable"), (0, .class_ 4), (0, u "java/lang/Object")] 7

/-- java/lang/Comparable -/
def k3 : Class := { plain "java/lang/Comparable" (some 0) with
  accessFlags := 1537
  interfaces := #[]
  cf := some (fileOf pool3 1 #[] #[] 1537 3 #[] #[])
  fields := #[]
  methods := #[]
  instanceTypes := #[]
  staticTypes := #[]
  resolved := Array.replicate 12 none
  statics := none }

def pool4 : Array CpInfo := pool [(2, .class_ 4), (1, u "java/lang/CharSequence"), (0, u "length"), (0, u "()I"), (38, u "charAt"), (0, u "(I)C"), (0, .class_ 48), (0, u "java/lang/CharSequence$1CodePointIterator"), (10, .class_ 60), (0, u "java/lang/CharSequence$1CharIterator"), (5, .class_ 67), (0, u "java/lang/Object")] 63

def k4m0 : Method := { name := "length", desc := "()I", sig := { parameters := [], returnType := some .int }, accessFlags := 1025, code := none }
def k4m1 : Method := { name := "charAt", desc := "(I)C", sig := { parameters := [.int], returnType := some .char }, accessFlags := 1025, code := none }
/-- java/lang/CharSequence -/
def k4 : Class := { plain "java/lang/CharSequence" (some 0) with
  accessFlags := 1537
  interfaces := #[]
  cf := some (fileOf pool4 2 #[.nestMembers #[47, 59]] #[{ accessFlags := 1025, nameIndex := 5, descriptorIndex := 6, attributes := #[] }, { accessFlags := 1025, nameIndex := 45, descriptorIndex := 46, attributes := #[] }] 1537 66 #[] #[])
  fields := #[]
  methods := #[k4m0, k4m1]
  instanceTypes := #[]
  staticTypes := #[]
  resolved := Array.replicate 131 none
  statics := none }

def pool5 : Array CpInfo := pool [(1, .class_ 2), (0, u "java/lang/constant/Constable"), (0, .class_ 4), (0, u "java/lang/Object")] 6

/-- java/lang/constant/Constable -/
def k5 : Class := { plain "java/lang/constant/Constable" (some 0) with
  accessFlags := 1537
  interfaces := #[]
  cf := some (fileOf pool5 1 #[] #[] 1537 3 #[] #[])
  fields := #[]
  methods := #[]
  instanceTypes := #[]
  staticTypes := #[]
  resolved := Array.replicate 11 none
  statics := none }

def pool6 : Array CpInfo := pool [(1, .class_ 2), (0, u "java/lang/constant/ConstantDesc"), (0, .class_ 4), (0, u "java/lang/Object")] 32

/-- java/lang/constant/ConstantDesc -/
def k6 : Class := { plain "java/lang/constant/ConstantDesc" (some 0) with
  accessFlags := 1537
  interfaces := #[]
  cf := some (fileOf pool6 1 #[] #[] 1537 3 #[] #[])
  fields := #[]
  methods := #[]
  instanceTypes := #[]
  staticTypes := #[]
  resolved := Array.replicate 37 none
  statics := none }

def pool7 : Array CpInfo := pool [(1, .methodref 2 3), (0, .class_ 4), (0, .nameAndType 5 6), (0, u "java/lang/Object"), (0, u "<init>"), (0, u "()V"), (2, .fieldref 10 11), (0, .class_ 12), (0, .nameAndType 13 14), (0, u "java/lang/String"), (0, u "value"), (0, u "[B"), (0, .fieldref 10 16), (0, .nameAndType 17 18), (0, u "coder"), (0, u "B"), (2, u "hash"), (0, u "I"), (2, u "hashIsZero"), (0, u "Z"), (0, .methodref 10 28), (0, .nameAndType 5 29), (0, u "([CIILjava/lang/Void;)V"), (8, .fieldref 10 39), (0, .nameAndType 40 26), (0, u "COMPACT_STRINGS"), (1, .class_ 44), (1, u "java/lang/StringUTF16"), (0, u "compress"), (1, .methodref 42 48), (0, .nameAndType 49 50), (0, u "coderFromArrayLen"), (0, u "([BI)B"), (46, u "([BII)I"), (9, .class_ 109), (1, u "java/lang/StringLatin1"), (32, u "()Z"), (34, .methodref 42 178), (0, .nameAndType 45 179), (0, u "([CII)[B"), (154, u "()I"), (0, .methodref 10 336), (0, .nameAndType 17 337), (0, u "()B"), (25, u "([BI)C"), (1, .class_ 367), (1, u "java/lang/Character"), (23, u "(II)V"), (35, u "(I)C"), (64, .methodref 10 493), (0, .nameAndType 494 142), (0, u "isLatin1"), (0, .methodref 107 496), (0, .nameAndType 497 363), (0, u "charAt"), (0, .methodref 42 496), (0, .methodref 10 500), (0, .nameAndType 501 391), (0, u "checkIndex"), (0, .methodref 42 503), (0, .nameAndType 504 97), (0, u "codePointAt"), (2, u "length"), (9, .methodref 365 518), (0, .nameAndType 519 520), (0, u "offsetByCodePoints"), (0, u "(Ljava/lang/CharSequence;II)I"), (54, .class_ 576), (0, u "java/lang/CharSequence"), (22, u "CASE_INSENSITIVE_ORDER"), (0, u "Ljava/util/Comparator;"), (35, u "(II)I"), (55, u "isEmpty"), (72, u "(I)I"), (244, u "([C)V"), (42, .fieldref 1054 1055), (0, .class_ 1056), (0, .nameAndType 1057 1058), (0, u "jdk/internal/util/Preconditions"), (0, u "SIOOBE_FORMATTER"), (0, u "Ljava/util/function/BiFunction;"), (0, .methodref 1054 1060), (0, .nameAndType 501 1061), (0, u "(IILjava/util/function/BiFunction;)I"), (39, u "serialPersistentFields"), (0, u "[Ljava/io/ObjectStreamField;"), (0, .class_ 1104), (0, u "java/lang/String$CaseInsensitiveComparator"), (1, .class_ 1107), (0, u "java/io/Serializable"), (0, .class_ 1109), (0, u "java/lang/Comparable"), (0, .class_ 1111), (0, u "java/lang/constant/Constable"), (0, .class_ 1113), (0, u "java/lang/constant/ConstantDesc"), (2, u "serialVersionUID"), (0, u "J"), (3, u "REPL"), (0, u "C"), (2, u "LATIN1"), (1, u "UTF16")] 323

def k7m0 : Method := { name := "<init>", desc := "()V", sig := { parameters := [], returnType := none }, accessFlags := 1, code := none }
def k7c1 : Code := { maxStack := 5, maxLocals := 2, code := jdk_42_method_3_code, exceptionTable := #[], attributes := #[] }
def k7m1 : Method := { name := "<init>", desc := "([C)V", sig := { parameters := [(.array .char)], returnType := none }, accessFlags := 1, code := some k7c1 }
def k7c2 : Code := { maxStack := 2, maxLocals := 1, code := jdk_42_method_54_code, exceptionTable := #[], attributes := #[] }
def k7m2 : Method := { name := "length", desc := "()I", sig := { parameters := [], returnType := some .int }, accessFlags := 1, code := some k7c2 }
def k7c3 : Code := { maxStack := 1, maxLocals := 1, code := jdk_42_method_55_code, exceptionTable := #[], attributes := #[] }
def k7m3 : Method := { name := "isEmpty", desc := "()Z", sig := { parameters := [], returnType := some .boolean }, accessFlags := 1, code := some k7c3 }
def k7c4 : Code := { maxStack := 2, maxLocals := 2, code := jdk_42_method_56_code, exceptionTable := #[], attributes := #[] }
def k7m4 : Method := { name := "charAt", desc := "(I)C", sig := { parameters := [.int], returnType := some .char }, accessFlags := 1, code := some k7c4 }
def k7c5 : Code := { maxStack := 3, maxLocals := 3, code := jdk_42_method_57_code, exceptionTable := #[], attributes := #[] }
def k7m5 : Method := { name := "codePointAt", desc := "(I)I", sig := { parameters := [.int], returnType := some .int }, accessFlags := 1, code := some k7c5 }
def k7c6 : Code := { maxStack := 3, maxLocals := 3, code := jdk_42_method_60_code, exceptionTable := #[], attributes := #[] }
def k7m6 : Method := { name := "offsetByCodePoints", desc := "(II)I", sig := { parameters := [.int, .int], returnType := some .int }, accessFlags := 1, code := some k7c6 }
def k7c7 : Code := { maxStack := 4, maxLocals := 6, code := jdk_42_method_149_code, exceptionTable := #[], attributes := #[] }
def k7m7 : Method := { name := "<init>", desc := "([CIILjava/lang/Void;)V", sig := { parameters := [(.array .char), .int, .int, (.object "java/lang/Void")], returnType := none }, accessFlags := 2, code := some k7c7 }
def k7c8 : Code := { maxStack := 1, maxLocals := 1, code := jdk_42_method_152_code, exceptionTable := #[], attributes := #[] }
def k7m8 : Method := { name := "coder", desc := "()B", sig := { parameters := [], returnType := some .byte }, accessFlags := 0, code := some k7c8 }
def k7c9 : Code := { maxStack := 1, maxLocals := 1, code := jdk_42_method_154_code, exceptionTable := #[], attributes := #[] }
def k7m9 : Method := { name := "isLatin1", desc := "()Z", sig := { parameters := [], returnType := some .boolean }, accessFlags := 0, code := some k7c9 }
def k7c10 : Code := { maxStack := 3, maxLocals := 2, code := jdk_42_method_155_code, exceptionTable := #[], attributes := #[] }
def k7m10 : Method := { name := "checkIndex", desc := "(II)V", sig := { parameters := [.int, .int], returnType := none }, accessFlags := 8, code := some k7c10 }
/-- java/lang/String -/
def k7 : Class := { plain "java/lang/String" (some 0) with
  accessFlags := 49
  interfaces := #[2, 3, 4, 5, 6]
  cf := some (fileOf pool7 10 #[.nestMembers #[1103]] #[{ accessFlags := 1, nameIndex := 5, descriptorIndex := 6, attributes := #[] }, { accessFlags := 1, nameIndex := 5, descriptorIndex := 1010, attributes := #[] }, { accessFlags := 1, nameIndex := 507, descriptorIndex := 334, attributes := #[] }, { accessFlags := 1, nameIndex := 692, descriptorIndex := 142, attributes := #[] }, { accessFlags := 1, nameIndex := 497, descriptorIndex := 427, attributes := #[] }, { accessFlags := 1, nameIndex := 504, descriptorIndex := 765, attributes := #[] }, { accessFlags := 1, nameIndex := 519, descriptorIndex := 636, attributes := #[] }, { accessFlags := 2, nameIndex := 5, descriptorIndex := 29, attributes := #[] }, { accessFlags := 0, nameIndex := 17, descriptorIndex := 337, attributes := #[] }, { accessFlags := 0, nameIndex := 494, descriptorIndex := 142, attributes := #[] }, { accessFlags := 8, nameIndex := 501, descriptorIndex := 391, attributes := #[] }] 49 2 #[1106, 1108, 575, 1110, 1112] #[{ accessFlags := 18, nameIndex := 13, descriptorIndex := 14, attributes := #[] }, { accessFlags := 18, nameIndex := 17, descriptorIndex := 18, attributes := #[] }, { accessFlags := 2, nameIndex := 21, descriptorIndex := 22, attributes := #[] }, { accessFlags := 2, nameIndex := 25, descriptorIndex := 26, attributes := #[] }, { accessFlags := 26, nameIndex := 1116, descriptorIndex := 1117, attributes := #[] }, { accessFlags := 24, nameIndex := 40, descriptorIndex := 26, attributes := #[] }, { accessFlags := 26, nameIndex := 1101, descriptorIndex := 1102, attributes := #[] }, { accessFlags := 26, nameIndex := 1121, descriptorIndex := 1122, attributes := #[] }, { accessFlags := 25, nameIndex := 599, descriptorIndex := 600, attributes := #[] }, { accessFlags := 24, nameIndex := 1125, descriptorIndex := 18, attributes := #[] }, { accessFlags := 24, nameIndex := 1127, descriptorIndex := 18, attributes := #[] }])
  fields := #[{ name := "value", type := (.array .byte), accessFlags := 18, slot := 0, constantValue := 0 }, { name := "coder", type := .byte, accessFlags := 18, slot := 1, constantValue := 0 }, { name := "hash", type := .int, accessFlags := 2, slot := 2, constantValue := 0 }, { name := "hashIsZero", type := .boolean, accessFlags := 2, slot := 3, constantValue := 0 }, { name := "serialVersionUID", type := .long, accessFlags := 26, slot := 0, constantValue := 0 }, { name := "COMPACT_STRINGS", type := .boolean, accessFlags := 24, slot := 1, constantValue := 0 }, { name := "serialPersistentFields", type := (.array (.object "java/io/ObjectStreamField")), accessFlags := 26, slot := 2, constantValue := 0 }, { name := "REPL", type := .char, accessFlags := 26, slot := 3, constantValue := 0 }, { name := "CASE_INSENSITIVE_ORDER", type := (.object "java/util/Comparator"), accessFlags := 25, slot := 4, constantValue := 0 }, { name := "LATIN1", type := .byte, accessFlags := 24, slot := 5, constantValue := 0 }, { name := "UTF16", type := .byte, accessFlags := 24, slot := 6, constantValue := 0 }]
  methods := #[k7m0, k7m1, k7m2, k7m3, k7m4, k7m5, k7m6, k7m7, k7m8, k7m9, k7m10]
  instanceTypes := #[(.array .byte), .byte, .int, .boolean]
  staticTypes := #[.long, .boolean, (.array (.object "java/io/ObjectStreamField")), .char, (.object "java/util/Comparator"), .byte, .byte]
  resolved := Array.replicate 1451 none
  statics := some 0 }

def pool8 : Array CpInfo := pool [(3, .class_ 4), (0, u "java/lang/String"), (1, .class_ 8), (1, u "java/lang/Object"), (0, u "<init>"), (0, u "()V"), (0, .methodref 12 13), (0, .class_ 14), (0, .nameAndType 15 16), (0, u "java/lang/StringUTF16"), (0, u "newBytesLength"), (0, u "(I)I"), (3, .integer 1073741823), (23, .fieldref 12 45), (0, .nameAndType 46 47), (0, u "$assertionsDisabled"), (0, u "Z"), (0, .methodref 12 49), (0, .nameAndType 50 51), (0, u "length"), (0, u "([B)I"), (7, .fieldref 12 60), (0, .nameAndType 61 62), (0, u "HI_BYTE_SHIFT"), (0, u "I"), (0, .fieldref 12 64), (0, .nameAndType 65 62), (0, u "LO_BYTE_SHIFT"), (1, .methodref 12 68), (0, .nameAndType 69 70), (0, u "checkIndex"), (0, u "(I[B)V"), (0, .methodref 12 72), (0, .nameAndType 73 74), (0, u "getChar"), (0, u "([BI)C"), (0, .methodref 76 77), (0, .class_ 78), (0, .nameAndType 79 80), (0, u "java/lang/Character"), (0, u "isHighSurrogate"), (0, u "(C)Z"), (0, .methodref 76 82), (0, .nameAndType 83 80), (0, u "isLowSurrogate"), (0, .methodref 76 85), (0, .nameAndType 86 87), (0, u "toCodePoint"), (0, u "(CC)I"), (0, .methodref 12 89), (0, .nameAndType 90 91), (0, u "codePointAt"), (0, u "([BIIZ)I"), (15, .methodref 12 108), (0, .nameAndType 109 110), (0, u "newBytesFor"), (0, u "(I)[B"), (0, .methodref 12 112), (0, .nameAndType 113 114), (0, u "putChar"), (0, u "([BII)V"), (0, .methodref 12 116), (0, .nameAndType 117 118), (0, u "compress"), (0, u "([CI[BII)I"), (0, .methodref 12 120), (0, .nameAndType 121 122), (0, u "toBytes"), (0, u "([CII)[B"), (127, u "([BII)I"), (10, u "coderFromArrayLen"), (0, u "([BI)B"), (106, .class_ 371), (1, u "java/lang/StringUTF16$LinesSpliterator"), (20, u "charAt"), (21, .methodref 3 415), (0, .nameAndType 69 416), (0, u "(II)V"), (13, u "MAX_LENGTH"), (196, .class_ 628), (0, u "java/lang/StringUTF16$CodePointsSpliterator"), (0, .class_ 630), (0, u "java/lang/StringUTF16$CharsSpliterator")] 4

def k8m0 : Method := { name := "<init>", desc := "()V", sig := { parameters := [], returnType := none }, accessFlags := 0, code := none }
def k8c1 : Code := { maxStack := 1, maxLocals := 1, code := jdk_52_method_2_code, exceptionTable := #[], attributes := #[] }
def k8m1 : Method := { name := "newBytesFor", desc := "(I)[B", sig := { parameters := [.int], returnType := some (.array .byte) }, accessFlags := 9, code := some k8c1 }
def k8c2 : Code := { maxStack := 4, maxLocals := 1, code := jdk_52_method_3_code, exceptionTable := #[], attributes := #[] }
def k8m2 : Method := { name := "newBytesLength", desc := "(I)I", sig := { parameters := [.int], returnType := some .int }, accessFlags := 9, code := some k8c2 }
def k8c3 : Code := { maxStack := 4, maxLocals := 3, code := jdk_52_method_4_code, exceptionTable := #[], attributes := #[] }
def k8m3 : Method := { name := "putChar", desc := "([BII)V", sig := { parameters := [(.array .byte), .int, .int], returnType := none }, accessFlags := 8, code := some k8c3 }
def k8c4 : Code := { maxStack := 3, maxLocals := 2, code := jdk_52_method_5_code, exceptionTable := #[], attributes := #[] }
def k8m4 : Method := { name := "getChar", desc := "([BI)C", sig := { parameters := [(.array .byte), .int], returnType := some .char }, accessFlags := 8, code := some k8c4 }
def k8c5 : Code := { maxStack := 2, maxLocals := 1, code := jdk_52_method_6_code, exceptionTable := #[], attributes := #[] }
def k8m5 : Method := { name := "length", desc := "([B)I", sig := { parameters := [(.array .byte)], returnType := some .int }, accessFlags := 9, code := some k8c5 }
def k8c6 : Code := { maxStack := 2, maxLocals := 6, code := jdk_52_method_7_code, exceptionTable := #[], attributes := #[] }
def k8m6 : Method := { name := "codePointAt", desc := "([BIIZ)I", sig := { parameters := [(.array .byte), .int, .int, .boolean], returnType := some .int }, accessFlags := 10, code := some k8c6 }
def k8c7 : Code := { maxStack := 4, maxLocals := 3, code := jdk_52_method_8_code, exceptionTable := #[], attributes := #[] }
def k8m7 : Method := { name := "codePointAt", desc := "([BII)I", sig := { parameters := [(.array .byte), .int, .int], returnType := some .int }, accessFlags := 9, code := some k8c7 }
def k8c8 : Code := { maxStack := 4, maxLocals := 5, code := jdk_52_method_14_code, exceptionTable := #[], attributes := #[] }
def k8m8 : Method := { name := "toBytes", desc := "([CII)[B", sig := { parameters := [(.array .char), .int, .int], returnType := some (.array .byte) }, accessFlags := 9, code := some k8c8 }
def k8c9 : Code := { maxStack := 2, maxLocals := 2, code := jdk_52_method_15_code, exceptionTable := #[], attributes := #[] }
def k8m9 : Method := { name := "coderFromArrayLen", desc := "([BI)B", sig := { parameters := [(.array .byte), .int], returnType := some .byte }, accessFlags := 8, code := some k8c9 }
def k8c10 : Code := { maxStack := 5, maxLocals := 6, code := jdk_52_method_16_code, exceptionTable := #[], attributes := #[] }
def k8m10 : Method := { name := "compress", desc := "([CII)[B", sig := { parameters := [(.array .char), .int, .int], returnType := some (.array .byte) }, accessFlags := 9, code := some k8c10 }
def k8c11 : Code := { maxStack := 3, maxLocals := 7, code := jdk_52_method_21_code, exceptionTable := #[], attributes := #[] }
def k8m11 : Method := { name := "compress", desc := "([CI[BII)I", sig := { parameters := [(.array .char), .int, (.array .byte), .int, .int], returnType := some .int }, accessFlags := 9, code := some k8c11 }
def k8c12 : Code := { maxStack := 2, maxLocals := 2, code := jdk_52_method_83_code, exceptionTable := #[], attributes := #[] }
def k8m12 : Method := { name := "charAt", desc := "([BI)C", sig := { parameters := [(.array .byte), .int], returnType := some .char }, accessFlags := 9, code := some k8c12 }
def k8c13 : Code := { maxStack := 2, maxLocals := 2, code := jdk_52_method_91_code, exceptionTable := #[], attributes := #[] }
def k8m13 : Method := { name := "checkIndex", desc := "(I[B)V", sig := { parameters := [.int, (.array .byte)], returnType := none }, accessFlags := 9, code := some k8c13 }
/-- java/lang/StringUTF16 -/
def k8 : Class := { plain "java/lang/StringUTF16" (some 0) with
  accessFlags := 48
  interfaces := #[]
  cf := some (fileOf pool8 12 #[.nestMembers #[627, 629, 369]] #[{ accessFlags := 0, nameIndex := 9, descriptorIndex := 10, attributes := #[] }, { accessFlags := 9, nameIndex := 109, descriptorIndex := 110, attributes := #[] }, { accessFlags := 9, nameIndex := 15, descriptorIndex := 16, attributes := #[] }, { accessFlags := 8, nameIndex := 113, descriptorIndex := 114, attributes := #[] }, { accessFlags := 8, nameIndex := 73, descriptorIndex := 74, attributes := #[] }, { accessFlags := 9, nameIndex := 50, descriptorIndex := 51, attributes := #[] }, { accessFlags := 10, nameIndex := 90, descriptorIndex := 91, attributes := #[] }, { accessFlags := 9, nameIndex := 90, descriptorIndex := 250, attributes := #[] }, { accessFlags := 9, nameIndex := 121, descriptorIndex := 122, attributes := #[] }, { accessFlags := 8, nameIndex := 261, descriptorIndex := 262, attributes := #[] }, { accessFlags := 9, nameIndex := 117, descriptorIndex := 122, attributes := #[] }, { accessFlags := 9, nameIndex := 117, descriptorIndex := 118, attributes := #[] }, { accessFlags := 9, nameIndex := 392, descriptorIndex := 74, attributes := #[] }, { accessFlags := 9, nameIndex := 69, descriptorIndex := 70, attributes := #[] }] 48 6 #[] #[{ accessFlags := 26, nameIndex := 61, descriptorIndex := 62, attributes := #[] }, { accessFlags := 26, nameIndex := 65, descriptorIndex := 62, attributes := #[] }, { accessFlags := 24, nameIndex := 430, descriptorIndex := 62, attributes := #[] }, { accessFlags := 4120, nameIndex := 46, descriptorIndex := 47, attributes := #[] }])
  fields := #[{ name := "HI_BYTE_SHIFT", type := .int, accessFlags := 26, slot := 0, constantValue := 0 }, { name := "LO_BYTE_SHIFT", type := .int, accessFlags := 26, slot := 1, constantValue := 0 }, { name := "MAX_LENGTH", type := .int, accessFlags := 24, slot := 2, constantValue := 0 }, { name := "$assertionsDisabled", type := .boolean, accessFlags := 4120, slot := 3, constantValue := 0 }]
  methods := #[k8m0, k8m1, k8m2, k8m3, k8m4, k8m5, k8m6, k8m7, k8m8, k8m9, k8m10, k8m11, k8m12, k8m13]
  instanceTypes := #[]
  staticTypes := #[.int, .int, .int, .boolean]
  resolved := Array.replicate 635 none
  statics := some 1 }

def pool9 : Array CpInfo := pool [(2, .class_ 4), (1, u "java/lang/Object"), (0, u "<init>"), (0, u "()V"), (0, .methodref 8 9), (0, .class_ 10), (0, .nameAndType 11 12), (0, u "java/lang/String"), (0, u "isEmpty"), (0, u "()Z"), (7, .methodref 8 21), (0, .nameAndType 22 23), (0, u "length"), (0, u "()I"), (0, .methodref 8 25), (0, .nameAndType 26 27), (0, u "codePointAt"), (0, u "(I)I"), (6, .integer 55296), (0, .integer 57343), (15, .methodref 8 52), (0, .nameAndType 53 54), (0, u "offsetByCodePoints"), (0, u "(II)I"), (13, u "(Ljava/lang/String;)Ljava/lang/String;"), (5, u "Ljava/time/Duration;"), (13, .class_ 90), (1, u "com/example/holdfast/holdfast/spi/LockArguments"), (0, u "LONGEST_IN_NANOS"), (12, u "requireName")] 26

def k9m0 : Method := { name := "<init>", desc := "()V", sig := { parameters := [], returnType := none }, accessFlags := 2, code := none }
def k9c1 : Code := { maxStack := 5, maxLocals := 4, code := prog_10_method_2_code, exceptionTable := #[], attributes := #[] }
def k9m1 : Method := { name := "requireName", desc := "(Ljava/lang/String;)Ljava/lang/String;", sig := { parameters := [(.object "java/lang/String")], returnType := some (.object "java/lang/String") }, accessFlags := 9, code := some k9c1 }
/-- com/example/holdfast/holdfast/spi/LockArguments -/
def k9 : Class := { plain "com/example/holdfast/holdfast/spi/LockArguments" (some 0) with
  accessFlags := 49
  interfaces := #[]
  cf := some (fileOf pool9 88 #[] #[{ accessFlags := 2, nameIndex := 5, descriptorIndex := 6, attributes := #[] }, { accessFlags := 9, nameIndex := 104, descriptorIndex := 68, attributes := #[] }] 49 2 #[] #[{ accessFlags := 26, nameIndex := 91, descriptorIndex := 74, attributes := #[] }])
  fields := #[{ name := "LONGEST_IN_NANOS", type := (.object "java/time/Duration"), accessFlags := 26, slot := 0, constantValue := 0 }]
  methods := #[k9m0, k9m1]
  instanceTypes := #[]
  staticTypes := #[(.object "java/time/Duration")]
  resolved := Array.replicate 131 none
  statics := none }

def pool10 : Array CpInfo := pool [(2, .class_ 4), (1, u "java/lang/Object"), (0, u "<init>"), (0, u "()V"), (17, .class_ 26), (1, u "jdk/internal/util/Preconditions"), (6, u "checkIndex"), (21, .class_ 56), (0, u "jdk/internal/util/Preconditions$4"), (57, .class_ 115), (0, u "jdk/internal/util/Preconditions$1"), (7, u "SIOOBE_FORMATTER"), (0, u "Ljava/util/function/BiFunction;"), (0, .class_ 126), (0, u "jdk/internal/util/Preconditions$2"), (3, u "AIOOBE_FORMATTER"), (0, .class_ 132), (0, u "jdk/internal/util/Preconditions$3"), (3, u "IOOBE_FORMATTER"), (41, u "(IILjava/util/function/BiFunction;)I")] 15

def k10m0 : Method := { name := "<init>", desc := "()V", sig := { parameters := [], returnType := none }, accessFlags := 1, code := none }
def k10c1 : Code := { maxStack := 3, maxLocals := 3, code := jdk_41_method_11_code, exceptionTable := #[], attributes := #[] }
def k10m1 : Method := { name := "checkIndex", desc := "(IILjava/util/function/BiFunction;)I", sig := { parameters := [.int, .int, (.object "java/util/function/BiFunction")], returnType := some .int }, accessFlags := 9, code := some k10c1 }
/-- jdk/internal/util/Preconditions -/
def k10 : Class := { plain "jdk/internal/util/Preconditions" (some 0) with
  accessFlags := 33
  interfaces := #[]
  cf := some (fileOf pool10 24 #[.nestMembers #[55, 131, 125, 114]] #[{ accessFlags := 1, nameIndex := 5, descriptorIndex := 6, attributes := #[] }, { accessFlags := 9, nameIndex := 33, descriptorIndex := 178, attributes := #[] }] 33 2 #[] #[{ accessFlags := 25, nameIndex := 123, descriptorIndex := 124, attributes := #[] }, { accessFlags := 25, nameIndex := 130, descriptorIndex := 124, attributes := #[] }, { accessFlags := 25, nameIndex := 136, descriptorIndex := 124, attributes := #[] }])
  fields := #[{ name := "SIOOBE_FORMATTER", type := (.object "java/util/function/BiFunction"), accessFlags := 25, slot := 0, constantValue := 0 }, { name := "AIOOBE_FORMATTER", type := (.object "java/util/function/BiFunction"), accessFlags := 25, slot := 1, constantValue := 0 }, { name := "IOOBE_FORMATTER", type := (.object "java/util/function/BiFunction"), accessFlags := 25, slot := 2, constantValue := 0 }]
  methods := #[k10m0, k10m1]
  instanceTypes := #[]
  staticTypes := #[(.object "java/util/function/BiFunction"), (.object "java/util/function/BiFunction"), (.object "java/util/function/BiFunction")]
  resolved := Array.replicate 194 none
  statics := some 2 }

def pool11 : Array CpInfo := pool [(1, .class_ 2), (0, u "java/lang/Character"), (18, u "value"), (0, u "C"), (19, .class_ 44), (1, u "java/lang/Object"), (3, .class_ 50), (1, u "java/lang/Character$CharacterCache"), (24, .integer 55296), (0, .integer 56320), (0, .integer 57344), (0, .methodref 1 79), (0, .nameAndType 80 81), (0, u "isHighSurrogate"), (0, u "(C)Z"), (0, .methodref 1 83), (0, .nameAndType 84 81), (0, u "isLowSurrogate"), (0, .integer 4238353408), (0, .interfaceMethodref 87 88), (0, .class_ 89), (0, .nameAndType 90 91), (0, u "java/lang/CharSequence"), (0, u "charAt"), (0, u "(I)C"), (0, .interfaceMethodref 87 93), (0, .nameAndType 94 95), (0, u "length"), (0, u "()I"), (2, u "toCodePoint"), (0, u "(CC)I"), (184, u "$assertionsDisabled"), (0, u "Z"), (21, .class_ 309), (1, u "java/lang/Character$UnicodeBlock"), (73, u "TYPE"), (0, u "Ljava/lang/Class;"), (0, .class_ 386), (0, u "java/io/Serializable"), (0, .class_ 388), (0, u "java/lang/Comparable"), (0, .class_ 390), (0, u "java/lang/constant/Constable"), (0, u "MIN_RADIX"), (0, u "I"), (2, u "MAX_RADIX"), (1, u "MIN_VALUE"), (1, u "MAX_VALUE"), (3, u "UNASSIGNED"), (0, u "B"), (0, u "UPPERCASE_LETTER"), (1, u "LOWERCASE_LETTER"), (0, u "TITLECASE_LETTER"), (1, u "MODIFIER_LETTER"), (1, u "OTHER_LETTER"), (1, u "NON_SPACING_MARK"), (1, u "ENCLOSING_MARK"), (1, u "COMBINING_SPACING_MARK"), (1, u "DECIMAL_DIGIT_NUMBER"), (1, u "LETTER_NUMBER"), (1, u "OTHER_NUMBER"), (1, u "SPACE_SEPARATOR"), (1, u "LINE_SEPARATOR"), (1, u "PARAGRAPH_SEPARATOR"), (1, u "CONTROL"), (1, u "FORMAT"), (1, u "PRIVATE_USE"), (1, u "SURROGATE"), (1, u "DASH_PUNCTUATION"), (1, u "START_PUNCTUATION"), (1, u "END_PUNCTUATION"), (1, u "CONNECTOR_PUNCTUATION"), (1, u "OTHER_PUNCTUATION"), (1, u "MATH_SYMBOL"), (1, u "CURRENCY_SYMBOL"), (1, u "MODIFIER_SYMBOL"), (1, u "OTHER_SYMBOL"), (1, u "INITIAL_QUOTE_PUNCTUATION"), (1, u "FINAL_QUOTE_PUNCTUATION"), (1, u "ERROR"), (1, u "DIRECTIONALITY_UNDEFINED"), (0, u "DIRECTIONALITY_LEFT_TO_RIGHT"), (0, u "DIRECTIONALITY_RIGHT_TO_LEFT"), (0, u "DIRECTIONALITY_RIGHT_TO_LEFT_ARABIC"), (0, u "DIRECTIONALITY_EUROPEAN_NUMBER"), (0, u "DIRECTIONALITY_EUROPEAN_NUMBER_SEPARATOR"), (0, u "DIRECTIONALITY_EUROPEAN_NUMBER_TERMINATOR"), (0, u "DIRECTIONALITY_ARABIC_NUMBER"), (0, u "DIRECTIONALITY_COMMON_NUMBER_SEPARATOR"), (0, u "DIRECTIONALITY_NONSPACING_MARK"), (0, u "DIRECTIONALITY_BOUNDARY_NEUTRAL"), (0, u "DIRECTIONALITY_PARAGRAPH_SEPARATOR"), (0, u "DIRECTIONALITY_SEGMENT_SEPARATOR"), (0, u "DIRECTIONALITY_WHITESPACE"), (0, u "DIRECTIONALITY_OTHER_NEUTRALS"), (0, u "DIRECTIONALITY_LEFT_TO_RIGHT_EMBEDDING"), (0, u "DIRECTIONALITY_LEFT_TO_RIGHT_OVERRIDE"), (0, u "DIRECTIONALITY_RIGHT_TO_LEFT_EMBEDDING"), (0, u "DIRECTIONALITY_RIGHT_TO_LEFT_OVERRIDE"), (1, u "DIRECTIONALITY_POP_DIRECTIONAL_FORMAT"), (0, u "DIRECTIONALITY_LEFT_TO_RIGHT_ISOLATE"), (0, u "DIRECTIONALITY_RIGHT_TO_LEFT_ISOLATE"), (0, u "DIRECTIONALITY_FIRST_STRONG_ISOLATE"), (0, u "DIRECTIONALITY_POP_DIRECTIONAL_ISOLATE"), (0, u "MIN_HIGH_SURROGATE"), (0, u "MAX_HIGH_SURROGATE"), (1, u "MIN_LOW_SURROGATE"), (0, u "MAX_LOW_SURROGATE"), (1, u "MIN_SURROGATE"), (0, u "MAX_SURROGATE"), (0, u "MIN_SUPPLEMENTARY_CODE_POINT"), (0, u "MIN_CODE_POINT"), (0, u "MAX_CODE_POINT"), (1, u "serialVersionUID"), (0, u "J"), (2, u "SIZE"), (0, u "BYTES"), (49, u "(Ljava/lang/CharSequence;II)I"), (6, u "offsetByCodePoints"), (31, .class_ 596), (0, u "java/lang/Character$UnicodeScript"), (0, .class_ 598), (0, u "java/lang/Character$Subset")] 5

def k11c0 : Code := { maxStack := 2, maxLocals := 1, code := jdk_89_method_14_code, exceptionTable := #[], attributes := #[] }
def k11m0 : Method := { name := "isHighSurrogate", desc := "(C)Z", sig := { parameters := [.char], returnType := some .boolean }, accessFlags := 9, code := some k11c0 }
def k11c1 : Code := { maxStack := 2, maxLocals := 1, code := jdk_89_method_15_code, exceptionTable := #[], attributes := #[] }
def k11m1 : Method := { name := "isLowSurrogate", desc := "(C)Z", sig := { parameters := [.char], returnType := some .boolean }, accessFlags := 9, code := some k11c1 }
def k11c2 : Code := { maxStack := 2, maxLocals := 2, code := jdk_89_method_19_code, exceptionTable := #[], attributes := #[] }
def k11m2 : Method := { name := "toCodePoint", desc := "(CC)I", sig := { parameters := [.char, .char], returnType := some .int }, accessFlags := 9, code := some k11c2 }
def k11c3 : Code := { maxStack := 3, maxLocals := 6, code := jdk_89_method_36_code, exceptionTable := #[], attributes := #[] }
def k11m3 : Method := { name := "offsetByCodePoints", desc := "(Ljava/lang/CharSequence;II)I", sig := { parameters := [(.object "java/lang/CharSequence"), .int, .int], returnType := some .int }, accessFlags := 9, code := some k11c3 }
/-- java/lang/Character -/
def k11 : Class := { plain "java/lang/Character" (some 0) with
  accessFlags := 49
  interfaces := #[2, 3, 5]
  cf := some (fileOf pool11 1 #[.nestMembers #[48, 595, 307, 597]] #[{ accessFlags := 9, nameIndex := 80, descriptorIndex := 81, attributes := #[] }, { accessFlags := 9, nameIndex := 84, descriptorIndex := 81, attributes := #[] }, { accessFlags := 9, nameIndex := 98, descriptorIndex := 99, attributes := #[] }, { accessFlags := 9, nameIndex := 563, descriptorIndex := 556, attributes := #[] }] 49 42 #[385, 387, 389] #[{ accessFlags := 25, nameIndex := 391, descriptorIndex := 392, attributes := #[] }, { accessFlags := 25, nameIndex := 395, descriptorIndex := 392, attributes := #[] }, { accessFlags := 25, nameIndex := 397, descriptorIndex := 22, attributes := #[] }, { accessFlags := 25, nameIndex := 399, descriptorIndex := 22, attributes := #[] }, { accessFlags := 25, nameIndex := 383, descriptorIndex := 384, attributes := #[] }, { accessFlags := 25, nameIndex := 403, descriptorIndex := 404, attributes := #[] }, { accessFlags := 25, nameIndex := 405, descriptorIndex := 404, attributes := #[] }, { accessFlags := 25, nameIndex := 407, descriptorIndex := 404, attributes := #[] }, { accessFlags := 25, nameIndex := 408, descriptorIndex := 404, attributes := #[] }, { accessFlags := 25, nameIndex := 410, descriptorIndex := 404, attributes := #[] }, { accessFlags := 25, nameIndex := 412, descriptorIndex := 404, attributes := #[] }, { accessFlags := 25, nameIndex := 414, descriptorIndex := 404, attributes := #[] }, { accessFlags := 25, nameIndex := 416, descriptorIndex := 404, attributes := #[] }, { accessFlags := 25, nameIndex := 418, descriptorIndex := 404, attributes := #[] }, { accessFlags := 25, nameIndex := 420, descriptorIndex := 404, attributes := #[] }, { accessFlags := 25, nameIndex := 422, descriptorIndex := 404, attributes := #[] }, { accessFlags := 25, nameIndex := 424, descriptorIndex := 404, attributes := #[] }, { accessFlags := 25, nameIndex := 426, descriptorIndex := 404, attributes := #[] }, { accessFlags := 25, nameIndex := 428, descriptorIndex := 404, attributes := #[] }, { accessFlags := 25, nameIndex := 430, descriptorIndex := 404, attributes := #[] }, { accessFlags := 25, nameIndex := 432, descriptorIndex := 404, attributes := #[] }, { accessFlags := 25, nameIndex := 434, descriptorIndex := 404, attributes := #[] }, { accessFlags := 25, nameIndex := 436, descriptorIndex := 404, attributes := #[] }, { accessFlags := 25, nameIndex := 438, descriptorIndex := 404, attributes := #[] }, { accessFlags := 25, nameIndex := 440, descriptorIndex := 404, attributes := #[] }, { accessFlags := 25, nameIndex := 442, descriptorIndex := 404, attributes := #[] }, { accessFlags := 25, nameIndex := 444, descriptorIndex := 404, attributes := #[] }, { accessFlags := 25, nameIndex := 446, descriptorIndex := 404, attributes := #[] }, { accessFlags := 25, nameIndex := 448, descriptorIndex := 404, attributes := #[] }, { accessFlags := 25, nameIndex := 450, descriptorIndex := 404, attributes := #[] }, { accessFlags := 25, nameIndex := 452, descriptorIndex := 404, attributes := #[] }, { accessFlags := 25, nameIndex := 454, descriptorIndex := 404, attributes := #[] }, { accessFlags := 25, nameIndex := 456, descriptorIndex := 404, attributes := #[] }, { accessFlags := 25, nameIndex := 458, descriptorIndex := 404, attributes := #[] }, { accessFlags := 25, nameIndex := 460, descriptorIndex := 404, attributes := #[] }, { accessFlags := 24, nameIndex := 462, descriptorIndex := 392, attributes := #[] }, { accessFlags := 25, nameIndex := 464, descriptorIndex := 404, attributes := #[] }, { accessFlags := 25, nameIndex := 465, descriptorIndex := 404, attributes := #[] }, { accessFlags := 25, nameIndex := 466, descriptorIndex := 404, attributes := #[] }, { accessFlags := 25, nameIndex := 467, descriptorIndex := 404, attributes := #[] }, { accessFlags := 25, nameIndex := 468, descriptorIndex := 404, attributes := #[] }, { accessFlags := 25, nameIndex := 469, descriptorIndex := 404, attributes := #[] }, { accessFlags := 25, nameIndex := 470, descriptorIndex := 404, attributes := #[] }, { accessFlags := 25, nameIndex := 471, descriptorIndex := 404, attributes := #[] }, { accessFlags := 25, nameIndex := 472, descriptorIndex := 404, attributes := #[] }, { accessFlags := 25, nameIndex := 473, descriptorIndex := 404, attributes := #[] }, { accessFlags := 25, nameIndex := 474, descriptorIndex := 404, attributes := #[] }, { accessFlags := 25, nameIndex := 475, descriptorIndex := 404, attributes := #[] }, { accessFlags := 25, nameIndex := 476, descriptorIndex := 404, attributes := #[] }, { accessFlags := 25, nameIndex := 477, descriptorIndex := 404, attributes := #[] }, { accessFlags := 25, nameIndex := 478, descriptorIndex := 404, attributes := #[] }, { accessFlags := 25, nameIndex := 479, descriptorIndex := 404, attributes := #[] }, { accessFlags := 25, nameIndex := 480, descriptorIndex := 404, attributes := #[] }, { accessFlags := 25, nameIndex := 481, descriptorIndex := 404, attributes := #[] }, { accessFlags := 25, nameIndex := 482, descriptorIndex := 404, attributes := #[] }, { accessFlags := 25, nameIndex := 484, descriptorIndex := 404, attributes := #[] }, { accessFlags := 25, nameIndex := 485, descriptorIndex := 404, attributes := #[] }, { accessFlags := 25, nameIndex := 486, descriptorIndex := 404, attributes := #[] }, { accessFlags := 25, nameIndex := 487, descriptorIndex := 404, attributes := #[] }, { accessFlags := 25, nameIndex := 488, descriptorIndex := 404, attributes := #[] }, { accessFlags := 25, nameIndex := 489, descriptorIndex := 22, attributes := #[] }, { accessFlags := 25, nameIndex := 490, descriptorIndex := 22, attributes := #[] }, { accessFlags := 25, nameIndex := 492, descriptorIndex := 22, attributes := #[] }, { accessFlags := 25, nameIndex := 493, descriptorIndex := 22, attributes := #[] }, { accessFlags := 25, nameIndex := 495, descriptorIndex := 22, attributes := #[] }, { accessFlags := 25, nameIndex := 496, descriptorIndex := 22, attributes := #[] }, { accessFlags := 25, nameIndex := 497, descriptorIndex := 392, attributes := #[] }, { accessFlags := 25, nameIndex := 498, descriptorIndex := 392, attributes := #[] }, { accessFlags := 25, nameIndex := 499, descriptorIndex := 392, attributes := #[] }, { accessFlags := 18, nameIndex := 21, descriptorIndex := 22, attributes := #[] }, { accessFlags := 26, nameIndex := 501, descriptorIndex := 502, attributes := #[] }, { accessFlags := 25, nameIndex := 505, descriptorIndex := 392, attributes := #[] }, { accessFlags := 25, nameIndex := 506, descriptorIndex := 392, attributes := #[] }, { accessFlags := 4120, nameIndex := 284, descriptorIndex := 285, attributes := #[] }])
  fields := #[{ name := "MIN_RADIX", type := .int, accessFlags := 25, slot := 0, constantValue := 0 }, { name := "MAX_RADIX", type := .int, accessFlags := 25, slot := 1, constantValue := 0 }, { name := "MIN_VALUE", type := .char, accessFlags := 25, slot := 2, constantValue := 0 }, { name := "MAX_VALUE", type := .char, accessFlags := 25, slot := 3, constantValue := 0 }, { name := "TYPE", type := (.object "java/lang/Class"), accessFlags := 25, slot := 4, constantValue := 0 }, { name := "UNASSIGNED", type := .byte, accessFlags := 25, slot := 5, constantValue := 0 }, { name := "UPPERCASE_LETTER", type := .byte, accessFlags := 25, slot := 6, constantValue := 0 }, { name := "LOWERCASE_LETTER", type := .byte, accessFlags := 25, slot := 7, constantValue := 0 }, { name := "TITLECASE_LETTER", type := .byte, accessFlags := 25, slot := 8, constantValue := 0 }, { name := "MODIFIER_LETTER", type := .byte, accessFlags := 25, slot := 9, constantValue := 0 }, { name := "OTHER_LETTER", type := .byte, accessFlags := 25, slot := 10, constantValue := 0 }, { name := "NON_SPACING_MARK", type := .byte, accessFlags := 25, slot := 11, constantValue := 0 }, { name := "ENCLOSING_MARK", type := .byte, accessFlags := 25, slot := 12, constantValue := 0 }, { name := "COMBINING_SPACING_MARK", type := .byte, accessFlags := 25, slot := 13, constantValue := 0 }, { name := "DECIMAL_DIGIT_NUMBER", type := .byte, accessFlags := 25, slot := 14, constantValue := 0 }, { name := "LETTER_NUMBER", type := .byte, accessFlags := 25, slot := 15, constantValue := 0 }, { name := "OTHER_NUMBER", type := .byte, accessFlags := 25, slot := 16, constantValue := 0 }, { name := "SPACE_SEPARATOR", type := .byte, accessFlags := 25, slot := 17, constantValue := 0 }, { name := "LINE_SEPARATOR", type := .byte, accessFlags := 25, slot := 18, constantValue := 0 }, { name := "PARAGRAPH_SEPARATOR", type := .byte, accessFlags := 25, slot := 19, constantValue := 0 }, { name := "CONTROL", type := .byte, accessFlags := 25, slot := 20, constantValue := 0 }, { name := "FORMAT", type := .byte, accessFlags := 25, slot := 21, constantValue := 0 }, { name := "PRIVATE_USE", type := .byte, accessFlags := 25, slot := 22, constantValue := 0 }, { name := "SURROGATE", type := .byte, accessFlags := 25, slot := 23, constantValue := 0 }, { name := "DASH_PUNCTUATION", type := .byte, accessFlags := 25, slot := 24, constantValue := 0 }, { name := "START_PUNCTUATION", type := .byte, accessFlags := 25, slot := 25, constantValue := 0 }, { name := "END_PUNCTUATION", type := .byte, accessFlags := 25, slot := 26, constantValue := 0 }, { name := "CONNECTOR_PUNCTUATION", type := .byte, accessFlags := 25, slot := 27, constantValue := 0 }, { name := "OTHER_PUNCTUATION", type := .byte, accessFlags := 25, slot := 28, constantValue := 0 }, { name := "MATH_SYMBOL", type := .byte, accessFlags := 25, slot := 29, constantValue := 0 }, { name := "CURRENCY_SYMBOL", type := .byte, accessFlags := 25, slot := 30, constantValue := 0 }, { name := "MODIFIER_SYMBOL", type := .byte, accessFlags := 25, slot := 31, constantValue := 0 }, { name := "OTHER_SYMBOL", type := .byte, accessFlags := 25, slot := 32, constantValue := 0 }, { name := "INITIAL_QUOTE_PUNCTUATION", type := .byte, accessFlags := 25, slot := 33, constantValue := 0 }, { name := "FINAL_QUOTE_PUNCTUATION", type := .byte, accessFlags := 25, slot := 34, constantValue := 0 }, { name := "ERROR", type := .int, accessFlags := 24, slot := 35, constantValue := 0 }, { name := "DIRECTIONALITY_UNDEFINED", type := .byte, accessFlags := 25, slot := 36, constantValue := 0 }, { name := "DIRECTIONALITY_LEFT_TO_RIGHT", type := .byte, accessFlags := 25, slot := 37, constantValue := 0 }, { name := "DIRECTIONALITY_RIGHT_TO_LEFT", type := .byte, accessFlags := 25, slot := 38, constantValue := 0 }, { name := "DIRECTIONALITY_RIGHT_TO_LEFT_ARABIC", type := .byte, accessFlags := 25, slot := 39, constantValue := 0 }, { name := "DIRECTIONALITY_EUROPEAN_NUMBER", type := .byte, accessFlags := 25, slot := 40, constantValue := 0 }, { name := "DIRECTIONALITY_EUROPEAN_NUMBER_SEPARATOR", type := .byte, accessFlags := 25, slot := 41, constantValue := 0 }, { name := "DIRECTIONALITY_EUROPEAN_NUMBER_TERMINATOR", type := .byte, accessFlags := 25, slot := 42, constantValue := 0 }, { name := "DIRECTIONALITY_ARABIC_NUMBER", type := .byte, accessFlags := 25, slot := 43, constantValue := 0 }, { name := "DIRECTIONALITY_COMMON_NUMBER_SEPARATOR", type := .byte, accessFlags := 25, slot := 44, constantValue := 0 }, { name := "DIRECTIONALITY_NONSPACING_MARK", type := .byte, accessFlags := 25, slot := 45, constantValue := 0 }, { name := "DIRECTIONALITY_BOUNDARY_NEUTRAL", type := .byte, accessFlags := 25, slot := 46, constantValue := 0 }, { name := "DIRECTIONALITY_PARAGRAPH_SEPARATOR", type := .byte, accessFlags := 25, slot := 47, constantValue := 0 }, { name := "DIRECTIONALITY_SEGMENT_SEPARATOR", type := .byte, accessFlags := 25, slot := 48, constantValue := 0 }, { name := "DIRECTIONALITY_WHITESPACE", type := .byte, accessFlags := 25, slot := 49, constantValue := 0 }, { name := "DIRECTIONALITY_OTHER_NEUTRALS", type := .byte, accessFlags := 25, slot := 50, constantValue := 0 }, { name := "DIRECTIONALITY_LEFT_TO_RIGHT_EMBEDDING", type := .byte, accessFlags := 25, slot := 51, constantValue := 0 }, { name := "DIRECTIONALITY_LEFT_TO_RIGHT_OVERRIDE", type := .byte, accessFlags := 25, slot := 52, constantValue := 0 }, { name := "DIRECTIONALITY_RIGHT_TO_LEFT_EMBEDDING", type := .byte, accessFlags := 25, slot := 53, constantValue := 0 }, { name := "DIRECTIONALITY_RIGHT_TO_LEFT_OVERRIDE", type := .byte, accessFlags := 25, slot := 54, constantValue := 0 }, { name := "DIRECTIONALITY_POP_DIRECTIONAL_FORMAT", type := .byte, accessFlags := 25, slot := 55, constantValue := 0 }, { name := "DIRECTIONALITY_LEFT_TO_RIGHT_ISOLATE", type := .byte, accessFlags := 25, slot := 56, constantValue := 0 }, { name := "DIRECTIONALITY_RIGHT_TO_LEFT_ISOLATE", type := .byte, accessFlags := 25, slot := 57, constantValue := 0 }, { name := "DIRECTIONALITY_FIRST_STRONG_ISOLATE", type := .byte, accessFlags := 25, slot := 58, constantValue := 0 }, { name := "DIRECTIONALITY_POP_DIRECTIONAL_ISOLATE", type := .byte, accessFlags := 25, slot := 59, constantValue := 0 }, { name := "MIN_HIGH_SURROGATE", type := .char, accessFlags := 25, slot := 60, constantValue := 0 }, { name := "MAX_HIGH_SURROGATE", type := .char, accessFlags := 25, slot := 61, constantValue := 0 }, { name := "MIN_LOW_SURROGATE", type := .char, accessFlags := 25, slot := 62, constantValue := 0 }, { name := "MAX_LOW_SURROGATE", type := .char, accessFlags := 25, slot := 63, constantValue := 0 }, { name := "MIN_SURROGATE", type := .char, accessFlags := 25, slot := 64, constantValue := 0 }, { name := "MAX_SURROGATE", type := .char, accessFlags := 25, slot := 65, constantValue := 0 }, { name := "MIN_SUPPLEMENTARY_CODE_POINT", type := .int, accessFlags := 25, slot := 66, constantValue := 0 }, { name := "MIN_CODE_POINT", type := .int, accessFlags := 25, slot := 67, constantValue := 0 }, { name := "MAX_CODE_POINT", type := .int, accessFlags := 25, slot := 68, constantValue := 0 }, { name := "value", type := .char, accessFlags := 18, slot := 0, constantValue := 0 }, { name := "serialVersionUID", type := .long, accessFlags := 26, slot := 69, constantValue := 0 }, { name := "SIZE", type := .int, accessFlags := 25, slot := 70, constantValue := 0 }, { name := "BYTES", type := .int, accessFlags := 25, slot := 71, constantValue := 0 }, { name := "$assertionsDisabled", type := .boolean, accessFlags := 4120, slot := 72, constantValue := 0 }]
  methods := #[k11m0, k11m1, k11m2, k11m3]
  instanceTypes := #[.char]
  staticTypes := #[.int, .int, .char, .char, (.object "java/lang/Class"), .byte, .byte, .byte, .byte, .byte, .byte, .byte, .byte, .byte, .byte, .byte, .byte, .byte, .byte, .byte, .byte, .byte, .byte, .byte, .byte, .byte, .byte, .byte, .byte, .byte, .byte, .byte, .byte, .byte, .byte, .int, .byte, .byte, .byte, .byte, .byte, .byte, .byte, .byte, .byte, .byte, .byte, .byte, .byte, .byte, .byte, .byte, .byte, .byte, .byte, .byte, .byte, .byte, .byte, .byte, .char, .char, .char, .char, .char, .char, .int, .int, .int, .long, .int, .int, .boolean]
  resolved := Array.replicate 604 none
  statics := none }

def pool12 : Array CpInfo := pool [(1, .class_ 2), (0, u "java/lang/String"), (1, .class_ 6), (1, u "java/lang/Object"), (0, u "<init>"), (0, u "()V"), (0, .methodref 1 10), (0, .nameAndType 11 12), (0, u "checkIndex"), (0, u "(II)V"), (1, .class_ 16), (1, u "java/lang/StringLatin1"), (36, u "([BI)C"), (67, u "$assertionsDisabled"), (0, u "Z"), (98, .class_ 223), (1, u "java/lang/StringLatin1$LinesSpliterator"), (28, u "charAt"), (137, .class_ 391), (0, u "java/lang/StringLatin1$CharsSpliterator")] 3

def k12m0 : Method := { name := "<init>", desc := "()V", sig := { parameters := [], returnType := none }, accessFlags := 0, code := none }
def k12c1 : Code := { maxStack := 2, maxLocals := 2, code := jdk_43_method_2_code, exceptionTable := #[], attributes := #[] }
def k12m1 : Method := { name := "charAt", desc := "([BI)C", sig := { parameters := [(.array .byte), .int], returnType := some .char }, accessFlags := 9, code := some k12c1 }
/-- java/lang/StringLatin1 -/
def k12 : Class := { plain "java/lang/StringLatin1" (some 0) with
  accessFlags := 48
  interfaces := #[]
  cf := some (fileOf pool12 14 #[.nestMembers #[390, 221]] #[{ accessFlags := 0, nameIndex := 7, descriptorIndex := 8, attributes := #[] }, { accessFlags := 9, nameIndex := 252, descriptorIndex := 53, attributes := #[] }] 48 4 #[] #[{ accessFlags := 4120, nameIndex := 121, descriptorIndex := 122, attributes := #[] }])
  fields := #[{ name := "$assertionsDisabled", type := .boolean, accessFlags := 4120, slot := 0, constantValue := 0 }]
  methods := #[k12m0, k12m1]
  instanceTypes := #[]
  staticTypes := #[.boolean]
  resolved := Array.replicate 395 none
  statics := none }

def pool13 : Array CpInfo := pool [(9, u "<init>"), (6, .class_ 18), (1, u "java/lang/Object"), (0, u "()V"), (1, .class_ 23), (1, u "jdk/internal/util/ArraysSupport"), (0, u "LOG2_ARRAY_LONG_INDEX_SCALE"), (0, u "I"), (2, u "U"), (0, u "Ljdk/internal/misc/Unsafe;"), (8, u "BIG_ENDIAN"), (0, u "Z"), (8, u "LOG2_BYTE_BIT_SIZE"), (4, u "LOG2_ARRAY_INT_INDEX_SCALE"), (54, u "JLA"), (0, u "Ljdk/internal/access/JavaLangAccess;"), (11, u "LOG2_ARRAY_BOOLEAN_INDEX_SCALE"), (9, u "LOG2_ARRAY_BYTE_INDEX_SCALE"), (5, u "LOG2_ARRAY_CHAR_INDEX_SCALE"), (5, u "LOG2_ARRAY_SHORT_INDEX_SCALE"), (18, u "LOG2_ARRAY_FLOAT_INDEX_SCALE"), (24, u "LOG2_ARRAY_DOUBLE_INDEX_SCALE"), (89, u "T_BOOLEAN"), (2, u "T_CHAR"), (1, u "T_FLOAT"), (1, u "T_DOUBLE"), (1, u "T_BYTE"), (1, u "T_SHORT"), (1, u "T_INT"), (1, u "T_LONG"), (1, u "SOFT_MAX_ARRAY_LENGTH")] 83

def k13m0 : Method := { name := "<init>", desc := "()V", sig := { parameters := [], returnType := none }, accessFlags := 2, code := none }
/-- jdk/internal/util/ArraysSupport -/
def k13 : Class := { plain "jdk/internal/util/ArraysSupport" (some 0) with
  accessFlags := 33
  interfaces := #[]
  cf := some (fileOf pool13 21 #[] #[{ accessFlags := 2, nameIndex := 9, descriptorIndex := 19, attributes := #[] }] 33 16 #[] #[{ accessFlags := 24, nameIndex := 28, descriptorIndex := 29, attributes := #[] }, { accessFlags := 26, nameIndex := 38, descriptorIndex := 39, attributes := #[] }, { accessFlags := 25, nameIndex := 121, descriptorIndex := 25, attributes := #[] }, { accessFlags := 25, nameIndex := 131, descriptorIndex := 25, attributes := #[] }, { accessFlags := 25, nameIndex := 137, descriptorIndex := 25, attributes := #[] }, { accessFlags := 25, nameIndex := 143, descriptorIndex := 25, attributes := #[] }, { accessFlags := 25, nameIndex := 53, descriptorIndex := 25, attributes := #[] }, { accessFlags := 25, nameIndex := 24, descriptorIndex := 25, attributes := #[] }, { accessFlags := 25, nameIndex := 162, descriptorIndex := 25, attributes := #[] }, { accessFlags := 25, nameIndex := 187, descriptorIndex := 25, attributes := #[] }, { accessFlags := 26, nameIndex := 48, descriptorIndex := 25, attributes := #[] }, { accessFlags := 25, nameIndex := 277, descriptorIndex := 25, attributes := #[] }, { accessFlags := 25, nameIndex := 280, descriptorIndex := 25, attributes := #[] }, { accessFlags := 25, nameIndex := 282, descriptorIndex := 25, attributes := #[] }, { accessFlags := 25, nameIndex := 284, descriptorIndex := 25, attributes := #[] }, { accessFlags := 25, nameIndex := 286, descriptorIndex := 25, attributes := #[] }, { accessFlags := 25, nameIndex := 288, descriptorIndex := 25, attributes := #[] }, { accessFlags := 25, nameIndex := 290, descriptorIndex := 25, attributes := #[] }, { accessFlags := 25, nameIndex := 292, descriptorIndex := 25, attributes := #[] }, { accessFlags := 26, nameIndex := 108, descriptorIndex := 109, attributes := #[] }, { accessFlags := 25, nameIndex := 294, descriptorIndex := 25, attributes := #[] }])
  fields := #[{ name := "U", type := (.object "jdk/internal/misc/Unsafe"), accessFlags := 24, slot := 0, constantValue := 0 }, { name := "BIG_ENDIAN", type := .boolean, accessFlags := 26, slot := 1, constantValue := 0 }, { name := "LOG2_ARRAY_BOOLEAN_INDEX_SCALE", type := .int, accessFlags := 25, slot := 2, constantValue := 0 }, { name := "LOG2_ARRAY_BYTE_INDEX_SCALE", type := .int, accessFlags := 25, slot := 3, constantValue := 0 }, { name := "LOG2_ARRAY_CHAR_INDEX_SCALE", type := .int, accessFlags := 25, slot := 4, constantValue := 0 }, { name := "LOG2_ARRAY_SHORT_INDEX_SCALE", type := .int, accessFlags := 25, slot := 5, constantValue := 0 }, { name := "LOG2_ARRAY_INT_INDEX_SCALE", type := .int, accessFlags := 25, slot := 6, constantValue := 0 }, { name := "LOG2_ARRAY_LONG_INDEX_SCALE", type := .int, accessFlags := 25, slot := 7, constantValue := 0 }, { name := "LOG2_ARRAY_FLOAT_INDEX_SCALE", type := .int, accessFlags := 25, slot := 8, constantValue := 0 }, { name := "LOG2_ARRAY_DOUBLE_INDEX_SCALE", type := .int, accessFlags := 25, slot := 9, constantValue := 0 }, { name := "LOG2_BYTE_BIT_SIZE", type := .int, accessFlags := 26, slot := 10, constantValue := 0 }, { name := "T_BOOLEAN", type := .int, accessFlags := 25, slot := 11, constantValue := 0 }, { name := "T_CHAR", type := .int, accessFlags := 25, slot := 12, constantValue := 0 }, { name := "T_FLOAT", type := .int, accessFlags := 25, slot := 13, constantValue := 0 }, { name := "T_DOUBLE", type := .int, accessFlags := 25, slot := 14, constantValue := 0 }, { name := "T_BYTE", type := .int, accessFlags := 25, slot := 15, constantValue := 0 }, { name := "T_SHORT", type := .int, accessFlags := 25, slot := 16, constantValue := 0 }, { name := "T_INT", type := .int, accessFlags := 25, slot := 17, constantValue := 0 }, { name := "T_LONG", type := .int, accessFlags := 25, slot := 18, constantValue := 0 }, { name := "JLA", type := (.object "jdk/internal/access/JavaLangAccess"), accessFlags := 26, slot := 19, constantValue := 0 }, { name := "SOFT_MAX_ARRAY_LENGTH", type := .int, accessFlags := 25, slot := 20, constantValue := 0 }]
  methods := #[k13m0]
  instanceTypes := #[]
  staticTypes := #[(.object "jdk/internal/misc/Unsafe"), .boolean, .int, .int, .int, .int, .int, .int, .int, .int, .int, .int, .int, .int, .int, .int, .int, .int, .int, (.object "jdk/internal/access/JavaLangAccess"), .int]
  resolved := Array.replicate 378 none
  statics := none }

def pool14 : Array CpInfo := pool [(1, u "java/lang/Cloneable"), (0, .class_ 1), (0, u "java/lang/Object"), (0, .class_ 3)] 3

/-- java/lang/Cloneable -/
def k14 : Class := { plain "java/lang/Cloneable" (some 0) with
  accessFlags := 1537
  interfaces := #[]
  cf := some (fileOf pool14 2 #[] #[] 1537 4 #[] #[])
  fields := #[]
  methods := #[]
  instanceTypes := #[]
  staticTypes := #[]
  resolved := Array.replicate 8 none
  statics := none }

/-- the primitive byte -/
def k15 : Class := { plain "byte" none with kind := .primitive 'B', accessFlags := 0x411 }
/-- [B -/
def k16 : Class := { plain "[B" (some 0) with kind := .array 15 .byte, interfaces := #[14, 2], accessFlags := 1041 }

/-- the primitive char -/
def k17 : Class := { plain "char" none with kind := .primitive 'C', accessFlags := 0x411 }
/-- [C -/
def k18 : Class := { plain "[C" (some 0) with kind := .array 17 .char, interfaces := #[14, 2], accessFlags := 1041 }

/-- the primitive int -/
def k19 : Class := { plain "int" none with kind := .primitive 'I', accessFlags := 0x411 }
/-- [I -/
def k20 : Class := { plain "[I" (some 0) with kind := .array 19 .int, interfaces := #[14, 2], accessFlags := 1041 }

def heap : Heap := #[{ cls := 7, slots := #[.long 0, .int 1, .null, .int 0, .null, .int 0, .int 0], vm := .statics 7 },
  { cls := 8, slots := #[.int 0, .int 8, .int 0, .int 1], vm := .statics 8 },
  { cls := 10, slots := #[.null, .null, .null], vm := .statics 10 }]
def classes : Array Class := #[k0, k1, k2, k3, k4, k5, k6, k7, k8, k9, k10, k11, k12, k13, k14, k15, k16, k17, k18, k19, k20]
def interned : List (Array UInt16 × Addr) := []
def slotsUsed : Nat := 14
def theMethod : MethodId := ⟨1, 1⟩
def args0 : Array Value := #[.int 1, .int 267, .int 267, .int 0, .int 0]
def aboutOver (below : List Frame) : State where
  vm := { classes := classes, interned := interned.toArray }
  heap := heap
  slotsUsed := slotsUsed
  threads := #[{ frames := .invoking theMethod args0 :: below }]
def below0 : List Frame := [.native { method := ⟨0, 0⟩, args := #[] }]
def about1 : State := aboutOver below0
def p0 : Program := .bare "" "" ""
def e0 : Env := launch0.env 0 0 0
theorem w_frames : about1.frames = Frame.invoking theMethod args0 :: below0 := rfl
set_option maxRecDepth 65536 in
theorem w_args : argsFit about1.vm theMethod args0 = true := by decide +kernel
set_option maxRecDepth 65536 in
theorem w_heap : heapFits about1 = true := by decide +kernel
set_option maxRecDepth 65536 in
theorem w_runnable : about1.curStatus? = some .runnable := by decide +kernel
set_option maxRecDepth 65536 in
theorem w_alone : about1.alone = true := by decide +kernel
set_option maxRecDepth 65536 in
theorem w_named : about1.methodNamed? x = some theMethod := by decide +kernel
set_option maxRecDepth 65536 in
theorem w_hears : about1.hears theMethod below0 = true := by decide +kernel
set_option maxRecDepth 65536 in
theorem w_ripe : about1.ripe theMethod args0 below0 = true := by decide +kernel
theorem w_running : about1.status = .running := rfl
set_option maxRecDepth 65536 in
theorem w_room : about1.hasRoom e0.platform room_1 = true :=
  launch0.hasRoom_least _ room_1 (by decide +kernel) (by decide +kernel) (by decide +kernel) (by decide +kernel) (by decide +kernel) (by decide +kernel)
theorem allAtoms_all (ts : List Jvm.Cond) (a : Array Jvm.Value) (st : Jvm.State) : (allAtoms ts).before a st = ts.all (fun c => c.before a st) := by
  induction ts with
  | nil => rfl
  | cons c t ih =>
    show (Jvm.Cond.and c (allAtoms t)).before a st = _
    rw [Jvm.Cond.before_and, ih, List.all_cons]
def words1 : List Jvm.Cond := Jvm.Cond.code x code maxLocals ret :: tables_1
/-- a 'code' word, met by the world's own term for the bytes: nothing is compared byte by byte -/
theorem code_word {y : MethodName} {bytes : ByteArray} {mx : Nat} {rt : Option FieldType} {a : Array Value} {s : State} {m : MethodId} {meth : Method} {c : Code} (h1 : s.methodNamed? y = some m) (h2 : s.vm.method? m = some meth) (h3 : meth.code = some c) (h4 : c.code = bytes)
    (h5 : (c.maxLocals == mx && c.exceptionTable.isEmpty && decide (c.maxStack ≤ mostOperands) && decide (meth.sig.returnType = rt) && !meth.locks && decide (parseMethodDescriptor y.desc = some meth.sig)) = true) : (Jvm.Cond.code y bytes mx rt).before a s = true := by
  simp only [Bool.and_eq_true, beq_iff_eq, Bool.not_eq_true', decide_eq_true_eq] at h5
  obtain ⟨⟨⟨⟨⟨g1, g2⟩, g3⟩, g4⟩, g5⟩, g6⟩ := h5
  simp [Cond.before, Cond.holds, Cond.value, h1, h2, h3, h4, g1, g2, g3, g4, g5, g6]
def isCode : Jvm.Cond → Bool
  | .code _ _ _ _ => true
  | _ => false
theorem all_split {L : List Jvm.Cond} {P : Jvm.Cond → Bool} (h1 : L.all (fun c => isCode c || P c) = true) (h2 : ∀ c ∈ L.filter isCode, P c = true) : L.all P = true := by
  refine List.all_eq_true.mpr fun c hc => ?_
  have h := List.all_eq_true.mp h1 c hc
  rcases Bool.eq_false_or_eq_true (isCode c) with hi | hi
  · exact h2 c (List.mem_filter.mpr ⟨hc, hi⟩)
  · simpa [hi] using h
set_option maxRecDepth 65536 in
theorem w_c0 : (Jvm.Cond.code x code maxLocals ret).before args0 about1 = true := code_word (m := ⟨1, 1⟩) (meth := k1m1) (c := k1c1) (by decide +kernel) rfl rfl rfl (by decide +kernel)
set_option maxRecDepth 65536 in
theorem w_c1 : (Jvm.Cond.code ({ cls := "com/example/holdfast/holdfast/spi/LockArgumentsRequireNamePinLaw", name := "draw", desc := "(I)C" } : Jvm.MethodName) method_3_code (3 : Nat) (Option.some Jvm.ClassFile.FieldType.char)).before args0 about1 = true := code_word (m := ⟨1, 2⟩) (meth := k1m2) (c := k1c2) (by decide +kernel) rfl rfl rfl (by decide +kernel)
set_option maxRecDepth 65536 in
theorem w_c2 : (Jvm.Cond.code ({ cls := "java/lang/String", name := "<init>", desc := "([C)V" } : Jvm.MethodName) jdk_42_method_3_code (2 : Nat) (Option.none : Option Jvm.ClassFile.FieldType)).before args0 about1 = true := code_word (m := ⟨7, 1⟩) (meth := k7m1) (c := k7c1) (by decide +kernel) rfl rfl rfl (by decide +kernel)
set_option maxRecDepth 65536 in
theorem w_c3 : (Jvm.Cond.code ({ cls := "java/lang/String", name := "<init>", desc := "([CIILjava/lang/Void;)V" } : Jvm.MethodName) jdk_42_method_149_code (6 : Nat) (Option.none : Option Jvm.ClassFile.FieldType)).before args0 about1 = true := code_word (m := ⟨7, 7⟩) (meth := k7m7) (c := k7c7) (by decide +kernel) rfl rfl rfl (by decide +kernel)
set_option maxRecDepth 65536 in
theorem w_c4 : (Jvm.Cond.code ({ cls := "java/lang/Object", name := "<init>", desc := "()V" } : Jvm.MethodName) object_method_1_code (1 : Nat) (Option.none : Option Jvm.ClassFile.FieldType)).before args0 about1 = true := code_word (m := ⟨0, 0⟩) (meth := k0m0) (c := k0c0) (by decide +kernel) rfl rfl rfl (by decide +kernel)
set_option maxRecDepth 65536 in
theorem w_c5 : (Jvm.Cond.code ({ cls := "java/lang/StringUTF16", name := "compress", desc := "([CII)[B" } : Jvm.MethodName) jdk_52_method_16_code (6 : Nat) (Option.some (Jvm.ClassFile.FieldType.array Jvm.ClassFile.FieldType.byte))).before args0 about1 = true := code_word (m := ⟨8, 10⟩) (meth := k8m10) (c := k8c10) (by decide +kernel) rfl rfl rfl (by decide +kernel)
set_option maxRecDepth 65536 in
theorem w_c6 : (Jvm.Cond.code ({ cls := "java/lang/StringUTF16", name := "compress", desc := "([CI[BII)I" } : Jvm.MethodName) jdk_52_method_21_code (7 : Nat) (Option.some Jvm.ClassFile.FieldType.int)).before args0 about1 = true := code_word (m := ⟨8, 11⟩) (meth := k8m11) (c := k8c11) (by decide +kernel) rfl rfl rfl (by decide +kernel)
set_option maxRecDepth 65536 in
theorem w_c7 : (Jvm.Cond.code ({ cls := "java/lang/StringUTF16", name := "coderFromArrayLen", desc := "([BI)B" } : Jvm.MethodName) jdk_52_method_15_code (2 : Nat) (Option.some Jvm.ClassFile.FieldType.byte)).before args0 about1 = true := code_word (m := ⟨8, 9⟩) (meth := k8m9) (c := k8c9) (by decide +kernel) rfl rfl rfl (by decide +kernel)
set_option maxRecDepth 65536 in
theorem w_c8 : (Jvm.Cond.code ({ cls := "com/example/holdfast/holdfast/spi/LockArgumentsRequireNamePinLaw", name := "ok", desc := "([CI)Z" } : Jvm.MethodName) method_6_code (3 : Nat) (Option.some Jvm.ClassFile.FieldType.boolean)).before args0 about1 = true := code_word (m := ⟨1, 5⟩) (meth := k1m5) (c := k1c5) (by decide +kernel) rfl rfl rfl (by decide +kernel)
set_option maxRecDepth 65536 in
theorem w_c9 : (Jvm.Cond.code ({ cls := "java/lang/StringUTF16", name := "toBytes", desc := "([CII)[B" } : Jvm.MethodName) jdk_52_method_14_code (5 : Nat) (Option.some (Jvm.ClassFile.FieldType.array Jvm.ClassFile.FieldType.byte))).before args0 about1 = true := code_word (m := ⟨8, 8⟩) (meth := k8m8) (c := k8c8) (by decide +kernel) rfl rfl rfl (by decide +kernel)
set_option maxRecDepth 65536 in
theorem w_c10 : (Jvm.Cond.code ({ cls := "java/lang/StringUTF16", name := "newBytesFor", desc := "(I)[B" } : Jvm.MethodName) jdk_52_method_2_code (1 : Nat) (Option.some (Jvm.ClassFile.FieldType.array Jvm.ClassFile.FieldType.byte))).before args0 about1 = true := code_word (m := ⟨8, 1⟩) (meth := k8m1) (c := k8c1) (by decide +kernel) rfl rfl rfl (by decide +kernel)
set_option maxRecDepth 65536 in
theorem w_c11 : (Jvm.Cond.code ({ cls := "java/lang/StringUTF16", name := "newBytesLength", desc := "(I)I" } : Jvm.MethodName) jdk_52_method_3_code (1 : Nat) (Option.some Jvm.ClassFile.FieldType.int)).before args0 about1 = true := code_word (m := ⟨8, 2⟩) (meth := k8m2) (c := k8c2) (by decide +kernel) rfl rfl rfl (by decide +kernel)
set_option maxRecDepth 65536 in
theorem w_c12 : (Jvm.Cond.code ({ cls := "java/lang/StringUTF16", name := "putChar", desc := "([BII)V" } : Jvm.MethodName) jdk_52_method_4_code (3 : Nat) (Option.none : Option Jvm.ClassFile.FieldType)).before args0 about1 = true := code_word (m := ⟨8, 3⟩) (meth := k8m3) (c := k8c3) (by decide +kernel) rfl rfl rfl (by decide +kernel)
set_option maxRecDepth 65536 in
theorem w_c13 : (Jvm.Cond.code ({ cls := "java/lang/StringUTF16", name := "getChar", desc := "([BI)C" } : Jvm.MethodName) jdk_52_method_5_code (2 : Nat) (Option.some Jvm.ClassFile.FieldType.char)).before args0 about1 = true := code_word (m := ⟨8, 4⟩) (meth := k8m4) (c := k8c4) (by decide +kernel) rfl rfl rfl (by decide +kernel)
set_option maxRecDepth 65536 in
theorem w_c14 : (Jvm.Cond.code ({ cls := "com/example/holdfast/holdfast/spi/LockArgumentsRequireNamePinLaw", name := "isHigh", desc := "(C)Z" } : Jvm.MethodName) method_4_code (1 : Nat) (Option.some Jvm.ClassFile.FieldType.boolean)).before args0 about1 = true := code_word (m := ⟨1, 3⟩) (meth := k1m3) (c := k1c3) (by decide +kernel) rfl rfl rfl (by decide +kernel)
set_option maxRecDepth 65536 in
theorem w_c15 : (Jvm.Cond.code ({ cls := "com/example/holdfast/holdfast/spi/LockArgumentsRequireNamePinLaw", name := "isLow", desc := "(C)Z" } : Jvm.MethodName) method_5_code (1 : Nat) (Option.some Jvm.ClassFile.FieldType.boolean)).before args0 about1 = true := code_word (m := ⟨1, 4⟩) (meth := k1m4) (c := k1c4) (by decide +kernel) rfl rfl rfl (by decide +kernel)
set_option maxRecDepth 65536 in
theorem w_c16 : (Jvm.Cond.code ({ cls := "com/example/holdfast/holdfast/spi/LockArguments", name := "requireName", desc := "(Ljava/lang/String;)Ljava/lang/String;" } : Jvm.MethodName) prog_10_method_2_code (4 : Nat) (Option.some (Jvm.ClassFile.FieldType.object "java/lang/String"))).before args0 about1 = true := code_word (m := ⟨9, 1⟩) (meth := k9m1) (c := k9c1) (by decide +kernel) rfl rfl rfl (by decide +kernel)
set_option maxRecDepth 65536 in
theorem w_c17 : (Jvm.Cond.code ({ cls := "java/lang/String", name := "isEmpty", desc := "()Z" } : Jvm.MethodName) jdk_42_method_55_code (1 : Nat) (Option.some Jvm.ClassFile.FieldType.boolean)).before args0 about1 = true := code_word (m := ⟨7, 3⟩) (meth := k7m3) (c := k7c3) (by decide +kernel) rfl rfl rfl (by decide +kernel)
set_option maxRecDepth 65536 in
theorem w_c18 : (Jvm.Cond.code ({ cls := "java/lang/String", name := "length", desc := "()I" } : Jvm.MethodName) jdk_42_method_54_code (1 : Nat) (Option.some Jvm.ClassFile.FieldType.int)).before args0 about1 = true := code_word (m := ⟨7, 2⟩) (meth := k7m2) (c := k7c2) (by decide +kernel) rfl rfl rfl (by decide +kernel)
set_option maxRecDepth 65536 in
theorem w_c19 : (Jvm.Cond.code ({ cls := "java/lang/String", name := "coder", desc := "()B" } : Jvm.MethodName) jdk_42_method_152_code (1 : Nat) (Option.some Jvm.ClassFile.FieldType.byte)).before args0 about1 = true := code_word (m := ⟨7, 8⟩) (meth := k7m8) (c := k7c8) (by decide +kernel) rfl rfl rfl (by decide +kernel)
set_option maxRecDepth 65536 in
theorem w_c20 : (Jvm.Cond.code ({ cls := "java/lang/String", name := "codePointAt", desc := "(I)I" } : Jvm.MethodName) jdk_42_method_57_code (3 : Nat) (Option.some Jvm.ClassFile.FieldType.int)).before args0 about1 = true := code_word (m := ⟨7, 5⟩) (meth := k7m5) (c := k7c5) (by decide +kernel) rfl rfl rfl (by decide +kernel)
set_option maxRecDepth 65536 in
theorem w_c21 : (Jvm.Cond.code ({ cls := "java/lang/String", name := "isLatin1", desc := "()Z" } : Jvm.MethodName) jdk_42_method_154_code (1 : Nat) (Option.some Jvm.ClassFile.FieldType.boolean)).before args0 about1 = true := code_word (m := ⟨7, 9⟩) (meth := k7m9) (c := k7c9) (by decide +kernel) rfl rfl rfl (by decide +kernel)
set_option maxRecDepth 65536 in
theorem w_c22 : (Jvm.Cond.code ({ cls := "java/lang/String", name := "checkIndex", desc := "(II)V" } : Jvm.MethodName) jdk_42_method_155_code (2 : Nat) (Option.none : Option Jvm.ClassFile.FieldType)).before args0 about1 = true := code_word (m := ⟨7, 10⟩) (meth := k7m10) (c := k7c10) (by decide +kernel) rfl rfl rfl (by decide +kernel)
set_option maxRecDepth 65536 in
theorem w_c23 : (Jvm.Cond.code ({ cls := "jdk/internal/util/Preconditions", name := "checkIndex", desc := "(IILjava/util/function/BiFunction;)I" } : Jvm.MethodName) jdk_41_method_11_code (3 : Nat) (Option.some Jvm.ClassFile.FieldType.int)).before args0 about1 = true := code_word (m := ⟨10, 1⟩) (meth := k10m1) (c := k10c1) (by decide +kernel) rfl rfl rfl (by decide +kernel)
set_option maxRecDepth 65536 in
theorem w_c24 : (Jvm.Cond.code ({ cls := "java/lang/String", name := "offsetByCodePoints", desc := "(II)I" } : Jvm.MethodName) jdk_42_method_60_code (3 : Nat) (Option.some Jvm.ClassFile.FieldType.int)).before args0 about1 = true := code_word (m := ⟨7, 6⟩) (meth := k7m6) (c := k7c6) (by decide +kernel) rfl rfl rfl (by decide +kernel)
set_option maxRecDepth 65536 in
theorem w_c25 : (Jvm.Cond.code ({ cls := "java/lang/Character", name := "offsetByCodePoints", desc := "(Ljava/lang/CharSequence;II)I" } : Jvm.MethodName) jdk_89_method_36_code (6 : Nat) (Option.some Jvm.ClassFile.FieldType.int)).before args0 about1 = true := code_word (m := ⟨11, 3⟩) (meth := k11m3) (c := k11c3) (by decide +kernel) rfl rfl rfl (by decide +kernel)
set_option maxRecDepth 65536 in
theorem w_c26 : (Jvm.Cond.code ({ cls := "java/lang/String", name := "charAt", desc := "(I)C" } : Jvm.MethodName) jdk_42_method_56_code (2 : Nat) (Option.some Jvm.ClassFile.FieldType.char)).before args0 about1 = true := code_word (m := ⟨7, 4⟩) (meth := k7m4) (c := k7c4) (by decide +kernel) rfl rfl rfl (by decide +kernel)
set_option maxRecDepth 65536 in
theorem w_c27 : (Jvm.Cond.code ({ cls := "java/lang/StringLatin1", name := "charAt", desc := "([BI)C" } : Jvm.MethodName) jdk_43_method_2_code (2 : Nat) (Option.some Jvm.ClassFile.FieldType.char)).before args0 about1 = true := code_word (m := ⟨12, 1⟩) (meth := k12m1) (c := k12c1) (by decide +kernel) rfl rfl rfl (by decide +kernel)
set_option maxRecDepth 65536 in
theorem w_c28 : (Jvm.Cond.code ({ cls := "java/lang/Character", name := "isHighSurrogate", desc := "(C)Z" } : Jvm.MethodName) jdk_89_method_14_code (1 : Nat) (Option.some Jvm.ClassFile.FieldType.boolean)).before args0 about1 = true := code_word (m := ⟨11, 0⟩) (meth := k11m0) (c := k11c0) (by decide +kernel) rfl rfl rfl (by decide +kernel)
set_option maxRecDepth 65536 in
theorem w_c29 : (Jvm.Cond.code ({ cls := "java/lang/StringUTF16", name := "codePointAt", desc := "([BII)I" } : Jvm.MethodName) jdk_52_method_8_code (3 : Nat) (Option.some Jvm.ClassFile.FieldType.int)).before args0 about1 = true := code_word (m := ⟨8, 7⟩) (meth := k8m7) (c := k8c7) (by decide +kernel) rfl rfl rfl (by decide +kernel)
set_option maxRecDepth 65536 in
theorem w_c30 : (Jvm.Cond.code ({ cls := "java/lang/StringUTF16", name := "codePointAt", desc := "([BIIZ)I" } : Jvm.MethodName) jdk_52_method_7_code (6 : Nat) (Option.some Jvm.ClassFile.FieldType.int)).before args0 about1 = true := code_word (m := ⟨8, 6⟩) (meth := k8m6) (c := k8c6) (by decide +kernel) rfl rfl rfl (by decide +kernel)
set_option maxRecDepth 65536 in
theorem w_c31 : (Jvm.Cond.code ({ cls := "java/lang/StringUTF16", name := "charAt", desc := "([BI)C" } : Jvm.MethodName) jdk_52_method_83_code (2 : Nat) (Option.some Jvm.ClassFile.FieldType.char)).before args0 about1 = true := code_word (m := ⟨8, 12⟩) (meth := k8m12) (c := k8c12) (by decide +kernel) rfl rfl rfl (by decide +kernel)
set_option maxRecDepth 65536 in
theorem w_c32 : (Jvm.Cond.code ({ cls := "java/lang/StringUTF16", name := "checkIndex", desc := "(I[B)V" } : Jvm.MethodName) jdk_52_method_91_code (2 : Nat) (Option.none : Option Jvm.ClassFile.FieldType)).before args0 about1 = true := code_word (m := ⟨8, 13⟩) (meth := k8m13) (c := k8c13) (by decide +kernel) rfl rfl rfl (by decide +kernel)
set_option maxRecDepth 65536 in
theorem w_c33 : (Jvm.Cond.code ({ cls := "java/lang/StringUTF16", name := "length", desc := "([B)I" } : Jvm.MethodName) jdk_52_method_6_code (1 : Nat) (Option.some Jvm.ClassFile.FieldType.int)).before args0 about1 = true := code_word (m := ⟨8, 5⟩) (meth := k8m5) (c := k8c5) (by decide +kernel) rfl rfl rfl (by decide +kernel)
set_option maxRecDepth 65536 in
theorem w_c34 : (Jvm.Cond.code ({ cls := "java/lang/Character", name := "isLowSurrogate", desc := "(C)Z" } : Jvm.MethodName) jdk_89_method_15_code (1 : Nat) (Option.some Jvm.ClassFile.FieldType.boolean)).before args0 about1 = true := code_word (m := ⟨11, 1⟩) (meth := k11m1) (c := k11c1) (by decide +kernel) rfl rfl rfl (by decide +kernel)
set_option maxRecDepth 65536 in
theorem w_c35 : (Jvm.Cond.code ({ cls := "java/lang/Character", name := "toCodePoint", desc := "(CC)I" } : Jvm.MethodName) jdk_89_method_19_code (2 : Nat) (Option.some Jvm.ClassFile.FieldType.int)).before args0 about1 = true := code_word (m := ⟨11, 2⟩) (meth := k11m2) (c := k11c2) (by decide +kernel) rfl rfl rfl (by decide +kernel)
def codes1 : List Jvm.Cond := [Jvm.Cond.code x code maxLocals ret, Jvm.Cond.code ({ cls := "com/example/holdfast/holdfast/spi/LockArgumentsRequireNamePinLaw", name := "draw", desc := "(I)C" } : Jvm.MethodName) method_3_code (3 : Nat) (Option.some Jvm.ClassFile.FieldType.char), Jvm.Cond.code ({ cls := "java/lang/String", name := "<init>", desc := "([C)V" } : Jvm.MethodName) jdk_42_method_3_code (2 : Nat) (Option.none : Option Jvm.ClassFile.FieldType), Jvm.Cond.code ({ cls := "java/lang/String", name := "<init>", desc := "([CIILjava/lang/Void;)V" } : Jvm.MethodName) jdk_42_method_149_code (6 : Nat) (Option.none : Option Jvm.ClassFile.FieldType), Jvm.Cond.code ({ cls := "java/lang/Object", name := "<init>", desc := "()V" } : Jvm.MethodName) object_method_1_code (1 : Nat) (Option.none : Option Jvm.ClassFile.FieldType), Jvm.Cond.code ({ cls := "java/lang/StringUTF16", name := "compress", desc := "([CII)[B" } : Jvm.MethodName) jdk_52_method_16_code (6 : Nat) (Option.some (Jvm.ClassFile.FieldType.array Jvm.ClassFile.FieldType.byte)), Jvm.Cond.code ({ cls := "java/lang/StringUTF16", name := "compress", desc := "([CI[BII)I" } : Jvm.MethodName) jdk_52_method_21_code (7 : Nat) (Option.some Jvm.ClassFile.FieldType.int), Jvm.Cond.code ({ cls := "java/lang/StringUTF16", name := "coderFromArrayLen", desc := "([BI)B" } : Jvm.MethodName) jdk_52_method_15_code (2 : Nat) (Option.some Jvm.ClassFile.FieldType.byte), Jvm.Cond.code ({ cls := "com/example/holdfast/holdfast/spi/LockArgumentsRequireNamePinLaw", name := "ok", desc := "([CI)Z" } : Jvm.MethodName) method_6_code (3 : Nat) (Option.some Jvm.ClassFile.FieldType.boolean), Jvm.Cond.code ({ cls := "java/lang/StringUTF16", name := "toBytes", desc := "([CII)[B" } : Jvm.MethodName) jdk_52_method_14_code (5 : Nat) (Option.some (Jvm.ClassFile.FieldType.array Jvm.ClassFile.FieldType.byte)), Jvm.Cond.code ({ cls := "java/lang/StringUTF16", name := "newBytesFor", desc := "(I)[B" } : Jvm.MethodName) jdk_52_method_2_code (1 : Nat) (Option.some (Jvm.ClassFile.FieldType.array Jvm.ClassFile.FieldType.byte)), Jvm.Cond.code ({ cls := "java/lang/StringUTF16", name := "newBytesLength", desc := "(I)I" } : Jvm.MethodName) jdk_52_method_3_code (1 : Nat) (Option.some Jvm.ClassFile.FieldType.int), Jvm.Cond.code ({ cls := "java/lang/StringUTF16", name := "putChar", desc := "([BII)V" } : Jvm.MethodName) jdk_52_method_4_code (3 : Nat) (Option.none : Option Jvm.ClassFile.FieldType), Jvm.Cond.code ({ cls := "java/lang/StringUTF16", name := "getChar", desc := "([BI)C" } : Jvm.MethodName) jdk_52_method_5_code (2 : Nat) (Option.some Jvm.ClassFile.FieldType.char), Jvm.Cond.code ({ cls := "com/example/holdfast/holdfast/spi/LockArgumentsRequireNamePinLaw", name := "isHigh", desc := "(C)Z" } : Jvm.MethodName) method_4_code (1 : Nat) (Option.some Jvm.ClassFile.FieldType.boolean), Jvm.Cond.code ({ cls := "com/example/holdfast/holdfast/spi/LockArgumentsRequireNamePinLaw", name := "isLow", desc := "(C)Z" } : Jvm.MethodName) method_5_code (1 : Nat) (Option.some Jvm.ClassFile.FieldType.boolean), Jvm.Cond.code ({ cls := "com/example/holdfast/holdfast/spi/LockArguments", name := "requireName", desc := "(Ljava/lang/String;)Ljava/lang/String;" } : Jvm.MethodName) prog_10_method_2_code (4 : Nat) (Option.some (Jvm.ClassFile.FieldType.object "java/lang/String")), Jvm.Cond.code ({ cls := "java/lang/String", name := "isEmpty", desc := "()Z" } : Jvm.MethodName) jdk_42_method_55_code (1 : Nat) (Option.some Jvm.ClassFile.FieldType.boolean), Jvm.Cond.code ({ cls := "java/lang/String", name := "length", desc := "()I" } : Jvm.MethodName) jdk_42_method_54_code (1 : Nat) (Option.some Jvm.ClassFile.FieldType.int), Jvm.Cond.code ({ cls := "java/lang/String", name := "coder", desc := "()B" } : Jvm.MethodName) jdk_42_method_152_code (1 : Nat) (Option.some Jvm.ClassFile.FieldType.byte), Jvm.Cond.code ({ cls := "java/lang/String", name := "codePointAt", desc := "(I)I" } : Jvm.MethodName) jdk_42_method_57_code (3 : Nat) (Option.some Jvm.ClassFile.FieldType.int), Jvm.Cond.code ({ cls := "java/lang/String", name := "isLatin1", desc := "()Z" } : Jvm.MethodName) jdk_42_method_154_code (1 : Nat) (Option.some Jvm.ClassFile.FieldType.boolean), Jvm.Cond.code ({ cls := "java/lang/String", name := "checkIndex", desc := "(II)V" } : Jvm.MethodName) jdk_42_method_155_code (2 : Nat) (Option.none : Option Jvm.ClassFile.FieldType), Jvm.Cond.code ({ cls := "jdk/internal/util/Preconditions", name := "checkIndex", desc := "(IILjava/util/function/BiFunction;)I" } : Jvm.MethodName) jdk_41_method_11_code (3 : Nat) (Option.some Jvm.ClassFile.FieldType.int), Jvm.Cond.code ({ cls := "java/lang/String", name := "offsetByCodePoints", desc := "(II)I" } : Jvm.MethodName) jdk_42_method_60_code (3 : Nat) (Option.some Jvm.ClassFile.FieldType.int), Jvm.Cond.code ({ cls := "java/lang/Character", name := "offsetByCodePoints", desc := "(Ljava/lang/CharSequence;II)I" } : Jvm.MethodName) jdk_89_method_36_code (6 : Nat) (Option.some Jvm.ClassFile.FieldType.int), Jvm.Cond.code ({ cls := "java/lang/String", name := "charAt", desc := "(I)C" } : Jvm.MethodName) jdk_42_method_56_code (2 : Nat) (Option.some Jvm.ClassFile.FieldType.char), Jvm.Cond.code ({ cls := "java/lang/StringLatin1", name := "charAt", desc := "([BI)C" } : Jvm.MethodName) jdk_43_method_2_code (2 : Nat) (Option.some Jvm.ClassFile.FieldType.char), Jvm.Cond.code ({ cls := "java/lang/Character", name := "isHighSurrogate", desc := "(C)Z" } : Jvm.MethodName) jdk_89_method_14_code (1 : Nat) (Option.some Jvm.ClassFile.FieldType.boolean), Jvm.Cond.code ({ cls := "java/lang/StringUTF16", name := "codePointAt", desc := "([BII)I" } : Jvm.MethodName) jdk_52_method_8_code (3 : Nat) (Option.some Jvm.ClassFile.FieldType.int), Jvm.Cond.code ({ cls := "java/lang/StringUTF16", name := "codePointAt", desc := "([BIIZ)I" } : Jvm.MethodName) jdk_52_method_7_code (6 : Nat) (Option.some Jvm.ClassFile.FieldType.int), Jvm.Cond.code ({ cls := "java/lang/StringUTF16", name := "charAt", desc := "([BI)C" } : Jvm.MethodName) jdk_52_method_83_code (2 : Nat) (Option.some Jvm.ClassFile.FieldType.char), Jvm.Cond.code ({ cls := "java/lang/StringUTF16", name := "checkIndex", desc := "(I[B)V" } : Jvm.MethodName) jdk_52_method_91_code (2 : Nat) (Option.none : Option Jvm.ClassFile.FieldType), Jvm.Cond.code ({ cls := "java/lang/StringUTF16", name := "length", desc := "([B)I" } : Jvm.MethodName) jdk_52_method_6_code (1 : Nat) (Option.some Jvm.ClassFile.FieldType.int), Jvm.Cond.code ({ cls := "java/lang/Character", name := "isLowSurrogate", desc := "(C)Z" } : Jvm.MethodName) jdk_89_method_15_code (1 : Nat) (Option.some Jvm.ClassFile.FieldType.boolean), Jvm.Cond.code ({ cls := "java/lang/Character", name := "toCodePoint", desc := "(CC)I" } : Jvm.MethodName) jdk_89_method_19_code (2 : Nat) (Option.some Jvm.ClassFile.FieldType.int)]
set_option maxRecDepth 65536 in
theorem codes_eq : words1.filter isCode = codes1 := rfl
theorem w_codes : ∀ c ∈ words1.filter isCode, c.before args0 about1 = true := by
  rw [codes_eq]
  intro c hc
  simp only [codes1, List.mem_cons, List.not_mem_nil, or_false] at hc
  rcases hc with rfl | rfl | rfl | rfl | rfl | rfl | rfl | rfl | rfl | rfl | rfl | rfl | rfl | rfl | rfl | rfl | rfl | rfl | rfl | rfl | rfl | rfl | rfl | rfl | rfl | rfl | rfl | rfl | rfl | rfl | rfl | rfl | rfl | rfl | rfl | rfl
  · exact w_c0
  · exact w_c1
  · exact w_c2
  · exact w_c3
  · exact w_c4
  · exact w_c5
  · exact w_c6
  · exact w_c7
  · exact w_c8
  · exact w_c9
  · exact w_c10
  · exact w_c11
  · exact w_c12
  · exact w_c13
  · exact w_c14
  · exact w_c15
  · exact w_c16
  · exact w_c17
  · exact w_c18
  · exact w_c19
  · exact w_c20
  · exact w_c21
  · exact w_c22
  · exact w_c23
  · exact w_c24
  · exact w_c25
  · exact w_c26
  · exact w_c27
  · exact w_c28
  · exact w_c29
  · exact w_c30
  · exact w_c31
  · exact w_c32
  · exact w_c33
  · exact w_c34
  · exact w_c35
set_option maxRecDepth 65536 in
theorem w_t1 : (words1.take 24).all (fun c => isCode c || c.before args0 about1) = true := by decide +kernel
set_option maxRecDepth 65536 in
theorem w_t2 : ((words1.drop 24).take 24).all (fun c => isCode c || c.before args0 about1) = true := by decide +kernel
set_option maxRecDepth 65536 in
theorem w_t3 : (((words1.drop 24).drop 24).take 24).all (fun c => isCode c || c.before args0 about1) = true := by decide +kernel
set_option maxRecDepth 65536 in
theorem w_t4 : ((((words1.drop 24).drop 24).drop 24).take 24).all (fun c => isCode c || c.before args0 about1) = true := by decide +kernel
set_option maxRecDepth 65536 in
theorem w_t5 : (((((words1.drop 24).drop 24).drop 24).drop 24).take 24).all (fun c => isCode c || c.before args0 about1) = true := by decide +kernel
set_option maxRecDepth 65536 in
theorem w_t6 : ((((((words1.drop 24).drop 24).drop 24).drop 24).drop 24).take 24).all (fun c => isCode c || c.before args0 about1) = true := by decide +kernel
set_option maxRecDepth 65536 in
theorem w_t7 : ((((((words1.drop 24).drop 24).drop 24).drop 24).drop 24).drop 24).all (fun c => isCode c || c.before args0 about1) = true := by decide +kernel
theorem w_tables : (allAtoms (Jvm.Cond.code x code maxLocals ret :: tables_1)).before args0 about1 = true := by
  rw [allAtoms_all]
  show words1.all (fun c => c.before args0 about1) = true
  refine all_split ?_ w_codes
  rw [← List.take_append_drop 24 words1, List.all_append, w_t1, ← List.take_append_drop 24 (words1.drop 24), List.all_append, w_t2, ← List.take_append_drop 24 ((words1.drop 24).drop 24), List.all_append, w_t3, ← List.take_append_drop 24 (((words1.drop 24).drop 24).drop 24), List.all_append, w_t4, ← List.take_append_drop 24 ((((words1.drop 24).drop 24).drop 24).drop 24), List.all_append, w_t5, ← List.take_append_drop 24 (((((words1.drop 24).drop 24).drop 24).drop 24).drop 24), List.all_append, w_t6, w_t7]
  rfl
set_option maxRecDepth 65536 in
theorem w_rest : rest_1_c.before args0 about1 = true := by decide +kernel
set_option maxRecDepth 65536 in
theorem w_case : (Jvm.Cond.and given_1 narrow_1).before args0 about1 = true := by decide +kernel
theorem w_applies : (headSpec (Jvm.Cond.code x code maxLocals ret :: tables_1) room_1).applies x e0.platform about1 = true :=
  (Spec.applies_iff w_frames).mpr ⟨w_running, w_runnable, w_alone, w_named, w_hears, w_ripe, w_room, w_tables⟩
theorem atStart : AtStart classFile x code maxLocals ret World_1 tables_1 room_1 Calls_1 rest_1 Pre_1 launch0 p0 e0 about1 theMethod args0 below0 :=
  ⟨lists_1, trivial, launch0.admits_env _ _ _, launch0.least_env, fairChoices_fair.cas, fairChoices_fair.clock, w_frames, w_args, w_heap, w_applies, trivial, w_rest, w_case⟩
end start1
theorem witness_1 : WitnessClaimed_1 := ⟨start1.p0, start1.e0, start1.about1, start1.theMethod, start1.args0, start1.below0, start1.atStart⟩
end Jvm.Pilot.@@N@@
