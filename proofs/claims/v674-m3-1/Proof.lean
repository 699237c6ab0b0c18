import JvmDerived
import JvmDerived.Pilot.@@N@@Statement
import JvmDerived.Pilot.@@N@@Code
set_option linter.unusedVariables false
set_option linter.unusedSimpArgs false
/- laws to paste: Road.backV (cut by pick.py; bodies as the Statement names them) -/
namespace Jvm.Pilot.@@N@@
namespace StrChars
open Jvm Sem ClassFile Op Lib Jvm.Stand Jvm.Free.XT Jvm.Free.ALB Jvm.Free.JM Jvm.Free
open Jvm.Lib.Cold (StaticIs)
/-- a char array whose places are chars -/
def Ch (a : Addr) (A : Cell) (U : State) : Prop := Arr .char a A U ∧ Typed .char A
theorem Ch.mv {a : Addr} {A : Cell} {U U' : State} (h : Ch a A U) (hal : U.vm.Alike U'.vm) (hh : U'.heap = U.heap) : Ch a A U' := ⟨h.1.mv hal hh, h.2⟩
theorem Ch.keep {a : Addr} {A : Cell} {U U' : State} (h : Ch a A U) (hal : U.vm.Alike U'.vm) (hk : U'.heap[a]? = some A) : Ch a A U' := ⟨h.1.keep hal hk, h.2⟩
/-- what place i of a char[]'s cell holds -/
def cv (A : Cell) (i : Nat) : Int32 := match A.slots[i]? with | some (.int x) => x | _ => 0
theorem Ch.get {a : Addr} {A : Cell} {U : State} (h : Ch a A U) {i : Nat} (hi : i < A.slots.size) : A.slots[i]? = some (.int (cv A i)) := by
  have e := Array.getElem?_eq_getElem hi
  have f := h.2 i _ e
  unfold cv; rw [e]
  generalize A.slots[i] = v at f
  cases v <;> simp [fits] at f ⊢
/-- the byte that i2b leaves of a char -/
def lo8 (x : Int32) : Int32 := x.toInt8.toInt32
theorem fits_lo8 (y : Int32) : fits .byte (.int (lo8 y)) = true := by
  have h1 := y.toInt8.le_toInt
  have h2 := y.toInt8.toInt_lt
  simp only [lo8, fits, Bool.and_eq_true, decide_eq_true_eq, Int32.le_iff_toInt_le, Int8.toInt_toInt32, show (-128 : Int32).toInt = -128 from by decide, show (127 : Int32).toInt = 127 from by decide]
  omega
/-- A' is A but that each place j of lo .. hi - 1 holds f j -/
def Laid (A A' : Cell) (lo hi : Nat) (f : Nat → Value) : Prop := A'.cls = A.cls ∧ A'.vm = A.vm ∧ A'.slots.size = A.slots.size ∧ ∀ i, A'.slots[i]? = if lo ≤ i ∧ i < hi then some (f i) else A.slots[i]?
theorem Laid.zero (A : Cell) (lo : Nat) (f : Nat → Value) : Laid A A lo (lo + 0) f := ⟨rfl, rfl, rfl, fun i => by rw [if_neg (by omega)]⟩
theorem Laid.step {A Ak : Cell} {lo k : Nat} {f : Nat → Value} {v : Value} (h : Laid A Ak lo k f) (hlo : lo ≤ k) (hk : k < Ak.slots.size) (hv : v = f k) : Laid A (Ak.setSlot k v) lo (k + 1) f := by
  refine ⟨h.1, h.2.1, by simpa [Cell.setSlot] using h.2.2.1, fun i => ?_⟩
  by_cases e : k = i
  · subst e; rw [Cell.slots_setSlot_self v hk, if_pos (by omega), hv]
  · rw [Cell.slots_setSlot_ne v e, h.2.2.2 i]
    by_cases q : lo ≤ i ∧ i < k
    · rw [if_pos q, if_pos (by omega)]
    · rw [if_neg q, if_neg (by omega)]
def U16 : String := "java/lang/StringUTF16"
namespace Cmp5
def yN : MethodName := ⟨"java/lang/StringUTF16", "compress", "([CI[BII)I"⟩
abbrev yB : ByteArray := jdk_52_method_21_code
theorem d0 : decode yB 0 = .ok (.iconst 0, 1) := by decide +kernel
theorem d1 : decode yB 1 = .ok (.istore 5, 2) := by decide +kernel
theorem d3 : decode yB 3 = .ok (.iload 5, 2) := by decide +kernel
theorem d5 : decode yB 5 = .ok (.iload 4, 2) := by decide +kernel
theorem d7 : decode yB 7 = .ok (.if_icmp (.ge) 37, 3) := by decide +kernel
theorem d10 : decode yB 10 = .ok (.aload_n 0, 1) := by decide +kernel
theorem d11 : decode yB 11 = .ok (.iload_n 1, 1) := by decide +kernel
theorem d12 : decode yB 12 = .ok (.caload, 1) := by decide +kernel
theorem d13 : decode yB 13 = .ok (.istore 6, 2) := by decide +kernel
theorem d15 : decode yB 15 = .ok (.iload 6, 2) := by decide +kernel
theorem d17 : decode yB 17 = .ok (.sipush 255, 3) := by decide +kernel
theorem d20 : decode yB 20 = .ok (.if_icmp (.le) 6, 3) := by decide +kernel
theorem d26 : decode yB 26 = .ok (.aload_n 2, 1) := by decide +kernel
theorem d27 : decode yB 27 = .ok (.iload_n 3, 1) := by decide +kernel
theorem d28 : decode yB 28 = .ok (.iload 6, 2) := by decide +kernel
theorem d30 : decode yB 30 = .ok (.i2b, 1) := by decide +kernel
theorem d31 : decode yB 31 = .ok (.bastore, 1) := by decide +kernel
theorem d32 : decode yB 32 = .ok (.iinc 1 1, 3) := by decide +kernel
theorem d35 : decode yB 35 = .ok (.iinc 3 1, 3) := by decide +kernel
theorem d38 : decode yB 38 = .ok (.iinc 5 1, 3) := by decide +kernel
theorem d41 : decode yB 41 = .ok (.goto (-38), 3) := by decide +kernel
theorem d44 : decode yB 44 = .ok (.iload 4, 2) := by decide +kernel
theorem d46 : decode yB 46 = .ok (.ireturn, 1) := by decide +kernel
def site : List Cond := []
def tab : Cond := tabOf yN yB 7 (some .int) site
def P (b : Addr) (A : Cell) (d : Addr) (B : Cell) (o q len : Nat) (args : Array Value) (s : State) : Prop := args = #[.ref b, .int (Int32.ofNat o), .ref d, .int (Int32.ofNat q), .int (Int32.ofNat len)] ∧ Ch b A s ∧ Arr .byte d B s ∧ b ≠ d ∧ o + len ≤ A.slots.size ∧ q + len ≤ B.slots.size ∧ ∀ i, i < len → ¬ 255 < cv A (o + i)
def E (b : Addr) (A : Cell) (d : Addr) (B : Cell) (o q len : Nat) (r : Option Value) (s u : State) : Prop := r = some (.int (Int32.ofNat len)) ∧ ∃ B', Put d B' s u ∧ Laid B B' q (q + len) (fun j => Value.int (lo8 (cv A (o + (j - q)))))
/-- no char of the range above 255: len; the places written hold each char's low byte -/
theorem law (l : Launch) (b : Addr) (A : Cell) (d : Addr) (B : Cell) (o q len : Nat) : Law l yN 5 5 0 0 yB 7 (some .int) site (P b A d B o q len) (E b A d B o q len) (copyLocs d q len) 0 0 := by
  refine Law.of_walk (plainFor_of_name (by decide +kernel)) (by decide +kernel) (by decide +kernel) (by decide) (fun _ _ h => by rw [h.1]; rfl) (fun _ U U' hal hh h => ⟨h.1, h.2.1.mv hal hh, h.2.2.1.mv hal hh, h.2.2.2⟩) (fun r U U' V V' h1 hal h2 h => ⟨h.1, h.2.elim fun B' q => ⟨B', q.1.mv h1 h2, q.2⟩⟩) ?_
  intro p e s m args below meth c s₁ X0 hexec hbytes hml hret hlk hnm hown hh0 W hP
  obtain ⟨rfl, hA, hB, hne, l1, l2, hp⟩ := hP
  have c1 : Steps p.tables e below (s₁.setTop (entryFrame m #[.ref b, .int (Int32.ofNat o), .ref d, .int (Int32.ofNat q), .int (Int32.ofNat len)] 7)) (s₁.setTop (mkF m 0 #[.val (.ref b), .val (.int (Int32.ofNat o)), .val (.ref d), .val (.int (Int32.ofNat q)), .val (.int (Int32.ofNat len)), .unset, .unset] [])) := entry rfl
  have hA0 := hA.1.mv X0.warmed.alike hh0
  have hB0 := hB.mv X0.warmed.alike hh0
  have a31 := hA.1.2.2.2
  have c2 : Steps p.tables e below (s₁.setTop (entryFrame m #[.ref b, .int (Int32.ofNat o), .ref d, .int (Int32.ofNat q), .int (Int32.ofNat len)] 7)) (s₁.setTop (mkF m 3 #[.val (.ref b), .val (.int (Int32.ofNat o)), .val (.ref d), .val (.int (Int32.ofNat q)), .val (.int (Int32.ofNat len)), .val (.int 0), .unset] [])) := c1.trans (by
    refine iconstV X0.here hexec rfl 0 (hb hbytes d0) (by decide) ?_
    refine XS.istore X0.here hexec rfl (hb hbytes d1) rfl rfl ?_
    exact Steps.refl _)
  have loop : ∀ (r i : Nat), i + r = len → ∀ (z : Slot), (z = .unset ∨ ∃ w, z = .val w ∧ w.category = 1) → ∀ (Tl : State) (Bk : Cell), Stand p l e { frames := 0, locals := 0, cells := 0, slots := 0 } s m #[.ref b, .int (Int32.ofNat o), .ref d, .int (Int32.ofNat q), .int (Int32.ofNat len)] below meth c Tl ([] ++ copyLocs d q i) 0 0 → Put d Bk s₁ Tl → Laid B Bk q (q + i) (fun j => Value.int (lo8 (cv A (o + (j - q))))) →
      Steps p.tables e below (s₁.setTop (entryFrame m #[.ref b, .int (Int32.ofNat o), .ref d, .int (Int32.ofNat q), .int (Int32.ofNat len)] 7)) (Tl.setTop (mkF m 3 #[.val (.ref b), .val (.int (Int32.ofNat (o + i))), .val (.ref d), .val (.int (Int32.ofNat (q + i))), .val (.int (Int32.ofNat len)), .val (.int (Int32.ofNat i)), z] [])) → ∃ (T' : State) (B' : Cell) (z' : Slot), Stand p l e { frames := 0, locals := 0, cells := 0, slots := 0 } s m #[.ref b, .int (Int32.ofNat o), .ref d, .int (Int32.ofNat q), .int (Int32.ofNat len)] below meth c T' ([] ++ copyLocs d q len) 0 0 ∧ Put d B' s₁ T' ∧ Laid B B' q (q + len) (fun j => Value.int (lo8 (cv A (o + (j - q))))) ∧
      Steps p.tables e below (s₁.setTop (entryFrame m #[.ref b, .int (Int32.ofNat o), .ref d, .int (Int32.ofNat q), .int (Int32.ofNat len)] 7)) (T'.setTop (mkF m 3 #[.val (.ref b), .val (.int (Int32.ofNat (o + len))), .val (.ref d), .val (.int (Int32.ofNat (q + len))), .val (.int (Int32.ofNat len)), .val (.int (Int32.ofNat len)), z'] [])) := by
    intro r
    induction r with
    | zero =>
      intro i hi z hz Tl Bk Xl pl fl cl
      have hil : i = len := by omega
      rw [hil] at Xl fl cl
      exact ⟨Tl, Bk, z, Xl, pl, fl, cl⟩
    | succ r ih =>
      intro i hi z hz Tl Bk Xl pl fl cl
      have all := X0.warmed.alike.symm.trans Xl.warmed.alike
      have hAl := hA0.keep all (pl.other hne hA0.1)
      have hBk := hB0.like all pl.1 fl.1 fl.2.1 fl.2.2.1
      have hlt : q + i < Bk.slots.size := by rw [fl.2.2.1]; omega
      have c3 : Steps p.tables e below (s₁.setTop (entryFrame m #[.ref b, .int (Int32.ofNat o), .ref d, .int (Int32.ofNat q), .int (Int32.ofNat len)] 7)) (Tl.setTop (mkF m 12 #[.val (.ref b), .val (.int (Int32.ofNat (o + i))), .val (.ref d), .val (.int (Int32.ofNat (q + i))), .val (.int (Int32.ofNat len)), .val (.int (Int32.ofNat i)), z] [.int (Int32.ofNat (o + i)), .ref b])) := cl.trans (by
        refine XS.iload Xl.here hexec rfl (hb hbytes d3) rfl ?_
        refine XS.iload Xl.here hexec rfl (hb hbytes d5) rfl ?_
        refine XS.icmpNo Xl.here hexec rfl (hb hbytes d7) rfl (ii_ge_f (lt32 (by omega) (by omega))) ?_
        refine XS.aloadN Xl.here hexec rfl (hb hbytes d10) rfl rfl ?_
        refine XS.iloadN Xl.here hexec rfl (hb hbytes d11) rfl ?_
        exact Steps.refl _)
      have c4 : Steps p.tables e below (s₁.setTop (entryFrame m #[.ref b, .int (Int32.ofNat o), .ref d, .int (Int32.ofNat q), .int (Int32.ofNat len)] 7)) (Tl.setTop (mkF m 13 #[.val (.ref b), .val (.int (Int32.ofNat (o + i))), .val (.ref d), .val (.int (Int32.ofNat (q + i))), .val (.int (Int32.ofNat len)), .val (.int (Int32.ofNat i)), z] [.int (cv A (o + i))])) := c3.trans (by
        refine Xl.aget hexec hAl rfl (hA.get (i := o + i) (by omega)) rfl rfl (hb hbytes d12) ?_
        exact Steps.refl _)
      have c5 : Steps p.tables e below (s₁.setTop (entryFrame m #[.ref b, .int (Int32.ofNat o), .ref d, .int (Int32.ofNat q), .int (Int32.ofNat len)] 7)) (Tl.setTop (mkF m 15 #[.val (.ref b), .val (.int (Int32.ofNat (o + i))), .val (.ref d), .val (.int (Int32.ofNat (q + i))), .val (.int (Int32.ofNat len)), .val (.int (Int32.ofNat i)), .val (.int (cv A (o + i)))] [])) := c4.trans (by
        refine XS.istoreS Xl.here hexec rfl (hb hbytes d13) rfl rfl hz ?_
        exact Steps.refl _)
      have c6 : Steps p.tables e below (s₁.setTop (entryFrame m #[.ref b, .int (Int32.ofNat o), .ref d, .int (Int32.ofNat q), .int (Int32.ofNat len)] 7)) (Tl.setTop (mkF m 31 #[.val (.ref b), .val (.int (Int32.ofNat (o + i))), .val (.ref d), .val (.int (Int32.ofNat (q + i))), .val (.int (Int32.ofNat len)), .val (.int (Int32.ofNat i)), .val (.int (cv A (o + i)))] [.int (lo8 (cv A (o + i))), .int (Int32.ofNat (q + i)), .ref d])) := c5.trans (by
        refine XS.iload Xl.here hexec rfl (hb hbytes d15) rfl ?_
        refine sipushV Xl.here hexec rfl 255 (hb hbytes d17) (by decide) ?_
        refine XS.icmpYes Xl.here hexec rfl (pc0 := 20) rfl (hb hbytes d20) rfl (ii_le_t (hp i (by omega))) (by decide) rfl ?_
        refine XS.aloadN Xl.here hexec rfl (hb hbytes d26) rfl rfl ?_
        refine XS.iloadN Xl.here hexec rfl (hb hbytes d27) rfl ?_
        refine XS.iload Xl.here hexec rfl (hb hbytes d28) rfl ?_
        refine i2b Xl.here hexec rfl (hb hbytes d30) rfl ?_
        exact Steps.refl _)
      obtain ⟨T7, X7, p7, st7⟩ := Xl.aput hexec hBk rfl hlt rfl (fits_lo8 (cv A (o + i))) (g := (mkF m 31 #[.val (.ref b), .val (.int (Int32.ofNat (o + i))), .val (.ref d), .val (.int (Int32.ofNat (q + i))), .val (.int (Int32.ofNat len)), .val (.int (Int32.ofNat i)), .val (.int (cv A (o + i)))] [.int (lo8 (cv A (o + i))), .int (Int32.ofNat (q + i)), .ref d])) rfl (rest := []) rfl (hb hbytes d31)
      have c8 : Steps p.tables e below (s₁.setTop (entryFrame m #[.ref b, .int (Int32.ofNat o), .ref d, .int (Int32.ofNat q), .int (Int32.ofNat len)] 7)) (T7.setTop (mkF m 32 #[.val (.ref b), .val (.int (Int32.ofNat (o + i))), .val (.ref d), .val (.int (Int32.ofNat (q + i))), .val (.int (Int32.ofNat len)), .val (.int (Int32.ofNat i)), .val (.int (cv A (o + i)))] [])) := c6.trans (st7 _ (Steps.refl _))
      have c9 : Steps p.tables e below (s₁.setTop (entryFrame m #[.ref b, .int (Int32.ofNat o), .ref d, .int (Int32.ofNat q), .int (Int32.ofNat len)] 7)) (T7.setTop (mkF m 3 #[.val (.ref b), .val (.int (Int32.ofNat (o + i) + 1)), .val (.ref d), .val (.int (Int32.ofNat (q + i) + 1)), .val (.int (Int32.ofNat len)), .val (.int (Int32.ofNat i + 1)), .val (.int (cv A (o + i)))] [])) := c8.trans (by
        refine iincV X7.here hexec rfl 1 (hb hbytes d32) (by decide) rfl rfl ?_
        refine iincV X7.here hexec rfl 1 (hb hbytes d35) (by decide) rfl rfl ?_
        refine iincV X7.here hexec rfl 1 (hb hbytes d38) (by decide) rfl rfl ?_
        refine XS.goto X7.here hexec rfl (pc0 := 41) rfl (hb hbytes d41) (by decide) rfl ?_
        exact Steps.refl _)
      have c10 : Steps p.tables e below (s₁.setTop (entryFrame m #[.ref b, .int (Int32.ofNat o), .ref d, .int (Int32.ofNat q), .int (Int32.ofNat len)] 7)) (T7.setTop (mkF m 3 #[.val (.ref b), .val (.int (Int32.ofNat (o + (i + 1)))), .val (.ref d), .val (.int (Int32.ofNat (q + (i + 1)))), .val (.int (Int32.ofNat len)), .val (.int (Int32.ofNat (i + 1))), .val (.int (cv A (o + i)))] [])) := by
        have := c9
        rw [succ32, succ32, succ32] at this
        exact this
      exact ih (i + 1) (by omega) _ (Or.inr ⟨_, rfl, rfl⟩) T7 _ (by rw [copyLocs_step, ← List.append_assoc]; exact X7) (pl.trans p7) (fl.step (by omega) hlt (by simp)) c10
  obtain ⟨T9, B9, z9, X9, p9, f9, g9⟩ := loop len 0 (by omega) .unset (Or.inl rfl) s₁ B (by simpa [copyLocs] using X0) ⟨hB0.1, fun _ _ => rfl, rfl⟩ (Laid.zero _ _ _) c2
  have c11 : Steps p.tables e below (s₁.setTop (entryFrame m #[.ref b, .int (Int32.ofNat o), .ref d, .int (Int32.ofNat q), .int (Int32.ofNat len)] 7)) (T9.setTop (mkF m 46 #[.val (.ref b), .val (.int (Int32.ofNat (o + len))), .val (.ref d), .val (.int (Int32.ofNat (q + len))), .val (.int (Int32.ofNat len)), .val (.int (Int32.ofNat len)), z9] [.int (Int32.ofNat len)])) := g9.trans (by
    refine XS.iload X9.here hexec rfl (hb hbytes d3) rfl ?_
    refine XS.iload X9.here hexec rfl (hb hbytes d5) rfl ?_
    refine XS.icmpYes X9.here hexec rfl (pc0 := 7) rfl (hb hbytes d7) rfl (ii_ge_t (nlt32 (by omega) (Nat.le_refl _))) (by decide) rfl ?_
    refine XS.iload X9.here hexec rfl (hb hbytes d44) rfl ?_
    exact Steps.refl _)
  exact ⟨T9, some (.int (Int32.ofNat len)), _, _, _, X9, by simp, rfl, rfl, (fun h => by cases h), ⟨rfl, B9, p9.from hh0, f9⟩, fun fs hl => c11.trans (X9.ireturnOut hexec hret rfl (Or.inl rfl) (hb hbytes d46) hl)⟩
end Cmp5
namespace Cmp3
def yN : MethodName := ⟨"java/lang/StringUTF16", "compress", "([CII)[B"⟩
abbrev yB : ByteArray := jdk_52_method_16_code
theorem d0 : decode yB 0 = .ok (.iload_n 2, 1) := by decide +kernel
theorem d1 : decode yB 1 = .ok (.newarray .byte, 2) := by decide +kernel
theorem d3 : decode yB 3 = .ok (.astore_n 3, 1) := by decide +kernel
theorem d4 : decode yB 4 = .ok (.aload_n 0, 1) := by decide +kernel
theorem d5 : decode yB 5 = .ok (.iload_n 1, 1) := by decide +kernel
theorem d6 : decode yB 6 = .ok (.aload_n 3, 1) := by decide +kernel
theorem d7 : decode yB 7 = .ok (.iconst 0, 1) := by decide +kernel
theorem d8 : decode yB 8 = .ok (.iload_n 2, 1) := by decide +kernel
theorem d9 : decode yB 9 = .ok (.invokestatic 115, 3) := by decide +kernel
theorem d12 : decode yB 12 = .ok (.istore 4, 2) := by decide +kernel
theorem d14 : decode yB 14 = .ok (.iload 4, 2) := by decide +kernel
theorem d16 : decode yB 16 = .ok (.iload_n 2, 1) := by decide +kernel
theorem d17 : decode yB 17 = .ok (.if_icmp (.eq) 40, 3) := by decide +kernel
theorem d57 : decode yB 57 = .ok (.aload_n 3, 1) := by decide +kernel
theorem d58 : decode yB 58 = .ok (.areturn, 1) := by decide +kernel
def site : List Cond := [.arrayClass .byte, Cmp5.tab] ++ staticW U16 115 Cmp5.yN
def tab : Cond := tabOf yN yB 6 (some (.array .byte)) site
def P (b : Addr) (A : Cell) (o len : Nat) (args : Array Value) (s : State) : Prop := args = #[.ref b, .int (Int32.ofNat o), .int (Int32.ofNat len)] ∧ Ch b A s ∧ o + len ≤ A.slots.size ∧ len ≤ 536870912 ∧ ∀ i, i < len → ¬ 255 < cv A (o + i)
def E (b : Addr) (A : Cell) (o len : Nat) (r : Option Value) (s u : State) : Prop := NewArr .byte "[B" len (fun j => .int (lo8 (cv A (o + j)))) r s u ∧ u.heap.size = s.heap.size + 1
/-- no char of the range above 255: a new byte[] of their low bytes -/
theorem law (l : Launch) (b : Addr) (A : Cell) (o len : Nat) : Law l yN 3 3 1 18 yB 6 (some (.array .byte)) site (P b A o len) (E b A o len) [] 1 len := by
  refine Law.of_walk (plainFor_of_name (by decide +kernel)) (by decide +kernel) (by decide +kernel) (by decide) (fun _ _ h => by rw [h.1]; rfl) (fun _ U U' hal hh h => ⟨h.1, h.2.1.mv hal hh, h.2.2⟩) (fun r U U' V V' h1 hal h2 h => ⟨NewArr.mv r U U' V V' h1 hal h2 h.1, by rw [h1, h2]; exact h.2⟩) ?_
  intro p e s m args below meth c s₁ X0 hexec hbytes hml hret hlk hnm hown hh0 W hP
  obtain ⟨rfl, hA, l1, l2, hp⟩ := hP
  have a31 := hA.1.2.2.2
  have c1 : Steps p.tables e below (s₁.setTop (entryFrame m #[.ref b, .int (Int32.ofNat o), .int (Int32.ofNat len)] 6)) (s₁.setTop (mkF m 0 #[.val (.ref b), .val (.int (Int32.ofNat o)), .val (.int (Int32.ofNat len)), .unset, .unset, .unset] [])) := entry rfl
  have c2 : Steps p.tables e below (s₁.setTop (entryFrame m #[.ref b, .int (Int32.ofNat o), .int (Int32.ofNat len)] 6)) (s₁.setTop (mkF m 1 #[.val (.ref b), .val (.int (Int32.ofNat o)), .val (.int (Int32.ofNat len)), .unset, .unset, .unset] [.int (Int32.ofNat len)])) := c1.trans (by
    refine XS.iloadN X0.here hexec rfl (hb hbytes d0) rfl ?_
    exact Steps.refl _)
  obtain ⟨T3, B3, X3, ba3, bs3, bv3, bh3, bf3, st3⟩ := X0.anew hexec (atype := .byte) (wk W (.arrayClass .byte)) rfl (by show len * 1 ≤ _; omega) (by omega) (g := (mkF m 1 #[.val (.ref b), .val (.int (Int32.ofNat o)), .val (.int (Int32.ofNat len)), .unset, .unset, .unset] [.int (Int32.ofNat len)])) rfl (hb hbytes d1) (rest := []) rfl (Nat.le_refl _) (by show 0 + len ≤ len; omega)
  rw [hh0] at ba3 st3
  have kp3 : XT.Kept s T3 := (XT.Kept.of_eq hh0).push bh3
  have hA3 := hA.keep X3.warmed.alike (kp3 _ _ hA.1.1)
  have hne : b ≠ s.heap.size := hA.1.ne
  have c4 : Steps p.tables e below (s₁.setTop (entryFrame m #[.ref b, .int (Int32.ofNat o), .int (Int32.ofNat len)] 6)) (T3.setTop (mkF m 3 #[.val (.ref b), .val (.int (Int32.ofNat o)), .val (.int (Int32.ofNat len)), .unset, .unset, .unset] [.ref s.heap.size])) := c2.trans (st3 _ (Steps.refl _))
  have c5 : Steps p.tables e below (s₁.setTop (entryFrame m #[.ref b, .int (Int32.ofNat o), .int (Int32.ofNat len)] 6)) (T3.setTop (mkF m 9 #[.val (.ref b), .val (.int (Int32.ofNat o)), .val (.int (Int32.ofNat len)), .val (.ref s.heap.size), .unset, .unset] [.int (Int32.ofNat len), .int 0, .ref s.heap.size, .int (Int32.ofNat o), .ref b])) := c4.trans (by
    refine XS.astoreN X3.here hexec rfl (hb hbytes d3) rfl rfl rfl ?_
    refine XS.aloadN X3.here hexec rfl (hb hbytes d4) rfl rfl ?_
    refine XS.iloadN X3.here hexec rfl (hb hbytes d5) rfl ?_
    refine XS.aloadN X3.here hexec rfl (hb hbytes d6) rfl rfl ?_
    refine iconstV X3.here hexec rfl 0 (hb hbytes d7) (by decide) ?_
    refine XS.iloadN X3.here hexec rfl (hb hbytes d8) rfl ?_
    exact Steps.refl _)
  obtain ⟨v6, T6, X6, E6, g6⟩ := X3.callS hexec (Cmp5.law l b A s.heap.size B3 o 0 len) hown (wks W (staticW U16 115 Cmp5.yN)) (wk W Cmp5.tab) (W := 0) (Nat.le_of_ble_eq_true rfl) (Nat.le_of_ble_eq_true rfl) (Nat.le_refl _) (by show 0 + len + 0 ≤ len; omega) (g := (mkF m 9 #[.val (.ref b), .val (.int (Int32.ofNat o)), .val (.int (Int32.ofNat len)), .val (.ref s.heap.size), .unset, .unset] [.int (Int32.ofNat len), .int (Int32.ofNat 0), .ref s.heap.size, .int (Int32.ofNat o), .ref b])) rfl (by rw [hml]; rfl) c5 (argsL := [.ref b, .int (Int32.ofNat o), .ref s.heap.size, .int (Int32.ofNat 0), .int (Int32.ofNat len)]) (rest := []) rfl rfl (by show 2 * 0 + 0 ≤ _; decide) (hb hbytes d9) (⟨rfl, hA3, ba3, hne, l1, by rw [bs3]; simp, hp⟩)
  obtain ⟨rfl, B6, p6, f6⟩ := E6
  have c7 : Steps p.tables e below (s₁.setTop (entryFrame m #[.ref b, .int (Int32.ofNat o), .int (Int32.ofNat len)] 6)) (T6.setTop (mkF m 12 #[.val (.ref b), .val (.int (Int32.ofNat o)), .val (.int (Int32.ofNat len)), .val (.ref s.heap.size), .unset, .unset] [.int (Int32.ofNat len)])) := g6
  have c8 : Steps p.tables e below (s₁.setTop (entryFrame m #[.ref b, .int (Int32.ofNat o), .int (Int32.ofNat len)] 6)) (T6.setTop (mkF m 58 #[.val (.ref b), .val (.int (Int32.ofNat o)), .val (.int (Int32.ofNat len)), .val (.ref s.heap.size), .val (.int (Int32.ofNat len)), .unset] [.ref s.heap.size])) := c7.trans (by
    refine XS.istore X6.here hexec rfl (hb hbytes d12) rfl rfl ?_
    refine XS.iload X6.here hexec rfl (hb hbytes d14) rfl ?_
    refine XS.iloadN X6.here hexec rfl (hb hbytes d16) rfl ?_
    refine XS.icmpYes X6.here hexec rfl (pc0 := 17) rfl (hb hbytes d17) rfl (ii_eq_t rfl) (by decide) rfl ?_
    refine XS.aloadN X6.here hexec rfl (hb hbytes d57) rfl rfl ?_
    exact Steps.refl _)
  have X8 := X6.wide (L' := []) (cells' := 1) (slots' := len) (fun x hx hlt => by
    simp only [List.nil_append, copyLocs, List.mem_map, List.mem_range] at hx
    obtain ⟨i, -, rfl⟩ := hx
    exact absurd hlt (Nat.lt_irrefl _)) (Nat.le_refl _) (by omega)
  exact ⟨T6, some (.ref s.heap.size), _, _, _, X8, rfl, rfl, rfl, (fun h => by cases h), ⟨⟨rfl, B6, ba3.like (X3.warmed.alike.symm.trans X6.warmed.alike) p6.1 f6.1 f6.2.1 f6.2.2.1, f6.2.1.trans bv3, by rw [X6.warmed.alike.findClass, f6.1]; exact bf3, by rw [f6.2.2.1, bs3]; simp, fun j hj => by rw [f6.2.2.2 j, if_pos (by omega)]; rfl, kp3.put p6 (Nat.le_refl _)⟩, by rw [p6.2.2, bh3, hh0]; simp⟩, fun fs hl => c8.trans (X8.areturnOut hexec rfl hret rfl (hb hbytes d58) hl)⟩
end Cmp3
namespace CodL
def yN : MethodName := ⟨"java/lang/StringUTF16", "coderFromArrayLen", "([BI)B"⟩
abbrev yB : ByteArray := jdk_52_method_15_code
theorem d0 : decode yB 0 = .ok (.iload_n 1, 1) := by decide +kernel
theorem d1 : decode yB 1 = .ok (.aload_n 0, 1) := by decide +kernel
theorem d2 : decode yB 2 = .ok (.arraylength, 1) := by decide +kernel
theorem d3 : decode yB 3 = .ok (.isub, 1) := by decide +kernel
theorem d4 : decode yB 4 = .ok (.bipush 31, 2) := by decide +kernel
theorem d6 : decode yB 6 = .ok (.iushr, 1) := by decide +kernel
theorem d7 : decode yB 7 = .ok (.i2b, 1) := by decide +kernel
theorem d8 : decode yB 8 = .ok (.ireturn, 1) := by decide +kernel
def site : List Cond := []
def tab : Cond := tabOf yN yB 2 (some .byte) site
def P (d : Addr) (B : Cell) (args : Array Value) (s : State) : Prop := args = #[.ref d, .int (Int32.ofNat B.slots.size)] ∧ Arr .byte d B s
def E (r : Option Value) (s u : State) : Prop := XT.PureE (some (.int 0)) r s u
/-- an array as long as the number of chars: LATIN1 -/
theorem law (l : Launch) (d : Addr) (B : Cell) : Law l yN 2 2 0 0 yB 2 (some .byte) site (P d B) E [] 0 0 := by
  refine Law.of_walk (plainFor_of_name (by decide +kernel)) (by decide +kernel) (by decide +kernel) (by decide) (fun _ _ h => by rw [h.1]; rfl) (fun _ U U' hal hh h => ⟨h.1, h.2.mv hal hh⟩) (fun r U U' V V' h1 hal h2 h => XT.PureE.mv r U U' V V' h1 hal h2 h) ?_
  intro p e s m args below meth c s₁ X0 hexec hbytes hml hret hlk hnm hown hh0 W hP
  obtain ⟨rfl, hB⟩ := hP
  have hB0 := hB.mv X0.warmed.alike hh0
  have c1 : Steps p.tables e below (s₁.setTop (entryFrame m #[.ref d, .int (Int32.ofNat B.slots.size)] 2)) (s₁.setTop (mkF m 0 #[.val (.ref d), .val (.int (Int32.ofNat B.slots.size))] [])) := entry rfl
  have c2 : Steps p.tables e below (s₁.setTop (entryFrame m #[.ref d, .int (Int32.ofNat B.slots.size)] 2)) (s₁.setTop (mkF m 2 #[.val (.ref d), .val (.int (Int32.ofNat B.slots.size))] [.ref d, .int (Int32.ofNat B.slots.size)])) := c1.trans (by
    refine XS.iloadN X0.here hexec rfl (hb hbytes d0) rfl ?_
    refine XS.aloadN X0.here hexec rfl (hb hbytes d1) rfl rfl ?_
    exact Steps.refl _)
  have c3 : Steps p.tables e below (s₁.setTop (entryFrame m #[.ref d, .int (Int32.ofNat B.slots.size)] 2)) (s₁.setTop (mkF m 8 #[.val (.ref d), .val (.int (Int32.ofNat B.slots.size))] [.int (lo8 (ushr (Int32.ofNat B.slots.size - Int32.ofNat B.slots.size) 31))])) := c2.trans (by
    refine X0.alen hexec hB0 rfl rfl (hb hbytes d2) ?_
    refine XS.isub X0.here hexec rfl (hb hbytes d3) rfl ?_
    refine bipushV X0.here hexec rfl 31 (hb hbytes d4) (by decide) ?_
    refine iushr X0.here hexec rfl (hb hbytes d6) rfl ?_
    refine i2b X0.here hexec rfl (hb hbytes d7) rfl ?_
    exact Steps.refl _)
  have e0 : lo8 (ushr (Int32.ofNat B.slots.size - Int32.ofNat B.slots.size) 31) = 0 := by rw [Int32.sub_self]; decide
  rw [e0] at c3
  exact ⟨s₁, some (.int 0), _, _, _, X0, rfl, rfl, rfl, (fun h => by cases h), ⟨rfl, hh0⟩, fun fs hl => c3.trans (X0.ireturnOut hexec hret rfl (Or.inr (Or.inr (Or.inl rfl))) (hb hbytes d8) hl)⟩
end CodL
/-- the String at a is Latin-1 over a new byte[] (the heap's one new cell): the low bytes of the len chars of A from o on; every cell but a is kept -/
def Got (a : Addr) (D : Cell) (fV fC : Field) (A : Cell) (o len : Nat) (r : Option Value) (s u : State) : Prop := r = none ∧ ∃ D' V : Cell, Blank "java/lang/String" a D' u ∧ Same D D' [fV.slot, fC.slot] ∧ D'.slots[fV.slot]? = some (.ref s.heap.size) ∧ D'.slots[fC.slot]? = some (.int 0) ∧ Arr .byte s.heap.size V u ∧ V.vm = .none ∧ u.vm.findClass "[B" = some V.cls ∧ V.slots.size = len ∧ (∀ j, j < len → V.slots[j]? = some (.int (lo8 (cv A (o + j))))) ∧ (∀ (y : Addr) (c : Cell), y ≠ a → s.heap[y]? = some c → u.heap[y]? = some c) ∧ u.heap.size = s.heap.size + 1
theorem Got.mv {a : Addr} {D A : Cell} {fV fC : Field} {o len : Nat} : ∀ r (U U' V V' : State), U'.heap = U.heap → V.vm.Alike V'.vm → V'.heap = V.heap → Got a D fV fC A o len r U V → Got a D fV fC A o len r U' V' :=
  fun r U U' V V' h1 hal h2 ⟨e0, D', X, a1, a2, a3, a4, a5, a6, a7, a8, a9, a10, a11⟩ => ⟨e0, D', X, a1.mv hal h2, a2, by rw [h1]; exact a3, a4, by rw [h1]; exact a5.mv hal h2, a6, by rw [hal.findClass]; exact a7, a8, a9, by rw [h1, h2]; exact a10, by rw [h1, h2]; exact a11⟩
namespace New4
def yN : MethodName := ⟨"java/lang/String", "<init>", "([CIILjava/lang/Void;)V"⟩
abbrev yB : ByteArray := jdk_42_method_149_code
theorem d0 : decode yB 0 = .ok (.aload_n 0, 1) := by decide +kernel
theorem d1 : decode yB 1 = .ok (.invokespecial 1, 3) := by decide +kernel
theorem d4 : decode yB 4 = .ok (.iload_n 3, 1) := by decide +kernel
theorem d5 : decode yB 5 = .ok (.ifCond (.ne) 22, 3) := by decide +kernel
theorem d27 : decode yB 27 = .ok (.getstatic 38, 3) := by decide +kernel
theorem d30 : decode yB 30 = .ok (.ifCond (.eq) 28, 3) := by decide +kernel
theorem d33 : decode yB 33 = .ok (.aload_n 1, 1) := by decide +kernel
theorem d34 : decode yB 34 = .ok (.iload_n 2, 1) := by decide +kernel
theorem d35 : decode yB 35 = .ok (.iload_n 3, 1) := by decide +kernel
theorem d36 : decode yB 36 = .ok (.invokestatic 177, 3) := by decide +kernel
theorem d39 : decode yB 39 = .ok (.astore 5, 2) := by decide +kernel
theorem d41 : decode yB 41 = .ok (.aload_n 0, 1) := by decide +kernel
theorem d42 : decode yB 42 = .ok (.aload 5, 2) := by decide +kernel
theorem d44 : decode yB 44 = .ok (.iload_n 3, 1) := by decide +kernel
theorem d45 : decode yB 45 = .ok (.invokestatic 47, 3) := by decide +kernel
theorem d48 : decode yB 48 = .ok (.putfield 15, 3) := by decide +kernel
theorem d51 : decode yB 51 = .ok (.aload_n 0, 1) := by decide +kernel
theorem d52 : decode yB 52 = .ok (.aload 5, 2) := by decide +kernel
theorem d54 : decode yB 54 = .ok (.putfield 9, 3) := by decide +kernel
theorem d57 : decode yB 57 = .ok (.return_, 1) := by decide +kernel
def site : List Cond := [.fieldLink "java/lang/String" 38 "java/lang/String" "COMPACT_STRINGS" "Z", Cmp3.tab, CodL.tab, .laysFinal "java/lang/String" "java/lang/String" "value" "[B", .fieldLink "java/lang/String" 9 "java/lang/String" "value" "[B", .laysFinal "java/lang/String" "java/lang/String" "coder" "B", .fieldLink "java/lang/String" 15 "java/lang/String" "coder" "B"] ++ objW "java/lang/String" 1 ++ staticW "java/lang/String" 177 Cmp3.yN ++ staticW "java/lang/String" 47 CodL.yN
def tab : Cond := tabOf yN yB 6 none site
def P (a : Addr) (D : Cell) (fV fC : Field) (b : Addr) (A : Cell) (z : Int32) (o len : Nat) (args : Array Value) (s : State) : Prop := args = #[.ref a, .ref b, .int (Int32.ofNat o), .int (Int32.ofNat len), .null] ∧ Blank "java/lang/String" a D s ∧ Found "java/lang/String" "value" "[B" fV s ∧ Found "java/lang/String" "coder" "B" fC s ∧ Ch b A s ∧ StaticIs s "java/lang/String" "COMPACT_STRINGS" "Z" (.int z) ∧ ¬ z = 0 ∧ 0 < len ∧ o + len ≤ A.slots.size ∧ len ≤ 536870912 ∧ ∀ i, i < len → ¬ 255 < cv A (o + i)
def E (a : Addr) (D : Cell) (fV fC : Field) (A : Cell) (o len : Nat) (r : Option Value) (s u : State) : Prop := Got a D fV fC A o len r s u
/-- len > 0, no char of the range above 255: a Latin-1 String of their low bytes -/
theorem law (l : Launch) (a : Addr) (D : Cell) (fV fC : Field) (b : Addr) (A : Cell) (z : Int32) (o len : Nat) : Law l yN 5 4 2 35 yB 6 none site (P a D fV fC b A z o len) (E a D fV fC A o len) [⟨a, fC.slot⟩, ⟨a, fV.slot⟩] 1 len := by
  refine Law.of_walk (plainFor_of_name (by decide +kernel)) (by decide +kernel) (by decide +kernel) (by decide) (fun _ _ h => by rw [h.1]; rfl) (fun _ U U' hal hh h => ⟨h.1, h.2.1.mv hal hh, h.2.2.1.al hal, h.2.2.2.1.al hal, h.2.2.2.2.1.mv hal hh, h.2.2.2.2.2.1.there hal hh, h.2.2.2.2.2.2⟩) (fun r U U' V V' h1 hal h2 h => Got.mv r U U' V V' h1 hal h2 h) ?_
  intro p e s m args below meth c s₁ X0 hexec hbytes hml hret hlk hnm hown hh0 W hP
  obtain ⟨rfl, hB, f1, f2, hA, s1, hz, l0, l1, l2, hp⟩ := hP
  have a31 := hA.1.2.2.2
  have c1 : Steps p.tables e below (s₁.setTop (entryFrame m #[.ref a, .ref b, .int (Int32.ofNat o), .int (Int32.ofNat len), .null] 6)) (s₁.setTop (mkF m 0 #[.val (.ref a), .val (.ref b), .val (.int (Int32.ofNat o)), .val (.int (Int32.ofNat len)), .val .null, .unset] [])) := entry rfl
  have c2 : Steps p.tables e below (s₁.setTop (entryFrame m #[.ref a, .ref b, .int (Int32.ofNat o), .int (Int32.ofNat len), .null] 6)) (s₁.setTop (mkF m 1 #[.val (.ref a), .val (.ref b), .val (.int (Int32.ofNat o)), .val (.int (Int32.ofNat len)), .val .null, .unset] [.ref a])) := c1.trans (by
    refine XS.aloadN X0.here hexec rfl (hb hbytes d0) rfl rfl ?_
    exact Steps.refl _)
  obtain ⟨T3, X3, q3, st3⟩ := X0.oinit hexec hown (wks W (objW "java/lang/String" 1)) (g := (mkF m 1 #[.val (.ref a), .val (.ref b), .val (.int (Int32.ofNat o)), .val (.int (Int32.ofNat len)), .val .null, .unset] [.ref a])) rfl (by rw [hml]; rfl) (rest := []) rfl (hb hbytes d1) (W := 0) (by show 2 * 0 + 0 ≤ _; decide) (Nat.le_of_ble_eq_true rfl) (Nat.le_of_ble_eq_true rfl)
  have hh3 := q3.trans hh0
  have c4 : Steps p.tables e below (s₁.setTop (entryFrame m #[.ref a, .ref b, .int (Int32.ofNat o), .int (Int32.ofNat len), .null] 6)) (T3.setTop (mkF m 27 #[.val (.ref a), .val (.ref b), .val (.int (Int32.ofNat o)), .val (.int (Int32.ofNat len)), .val .null, .unset] [])) := (c2.trans (st3 _ (Steps.refl _))).trans (by
    refine XS.iloadN X3.here hexec rfl (hb hbytes d4) rfl ?_
    refine XS.ifYes X3.here hexec rfl (pc0 := 5) rfl (hb hbytes d5) rfl (i0_ne_t (nz32 (by omega) l0)) (by decide) rfl ?_
    exact Steps.refl _)
  obtain ⟨T5, X5, q5, st5⟩ := X3.sget hexec hown (wk W (.fieldLink "java/lang/String" 38 "java/lang/String" "COMPACT_STRINGS" "Z")) s1 (fun _ _ h => by rw [hh3]; exact h) (g := (mkF m 27 #[.val (.ref a), .val (.ref b), .val (.int (Int32.ofNat o)), .val (.int (Int32.ofNat len)), .val .null, .unset] [])) rfl (hb hbytes d27)
  have hh5 := q5.trans hh3
  have c6 : Steps p.tables e below (s₁.setTop (entryFrame m #[.ref a, .ref b, .int (Int32.ofNat o), .int (Int32.ofNat len), .null] 6)) (T5.setTop (mkF m 30 #[.val (.ref a), .val (.ref b), .val (.int (Int32.ofNat o)), .val (.int (Int32.ofNat len)), .val .null, .unset] [.int z])) := c4.trans (st5 _ (Steps.refl _))
  have c7 : Steps p.tables e below (s₁.setTop (entryFrame m #[.ref a, .ref b, .int (Int32.ofNat o), .int (Int32.ofNat len), .null] 6)) (T5.setTop (mkF m 36 #[.val (.ref a), .val (.ref b), .val (.int (Int32.ofNat o)), .val (.int (Int32.ofNat len)), .val .null, .unset] [.int (Int32.ofNat len), .int (Int32.ofNat o), .ref b])) := c6.trans (by
    refine XS.ifNo X5.here hexec rfl (hb hbytes d30) rfl (i0_eq_f hz) ?_
    refine XS.aloadN X5.here hexec rfl (hb hbytes d33) rfl rfl ?_
    refine XS.iloadN X5.here hexec rfl (hb hbytes d34) rfl ?_
    refine XS.iloadN X5.here hexec rfl (hb hbytes d35) rfl ?_
    exact Steps.refl _)
  obtain ⟨v8, T8, X8, E8, g8⟩ := X5.callS hexec (Cmp3.law l b A o len) hown (wks W (staticW "java/lang/String" 177 Cmp3.yN)) (wk W Cmp3.tab) (W := 0) (Nat.le_of_ble_eq_true rfl) (Nat.le_of_ble_eq_true rfl) (Nat.le_refl _) (by show 0 + len ≤ len; omega) (g := (mkF m 36 #[.val (.ref a), .val (.ref b), .val (.int (Int32.ofNat o)), .val (.int (Int32.ofNat len)), .val .null, .unset] [.int (Int32.ofNat len), .int (Int32.ofNat o), .ref b])) rfl (by rw [hml]; rfl) c7 (argsL := [.ref b, .int (Int32.ofNat o), .int (Int32.ofNat len)]) (rest := []) rfl rfl (by show 2 * 0 + 0 ≤ _; decide) (hb hbytes d36) (⟨rfl, hA.mv X5.warmed.alike hh5, l1, l2, hp⟩)
  obtain ⟨e8, z8⟩ := E8
  obtain ⟨rfl, N, n1, n2, n3, n4, n5, n6⟩ := NewArr.mv _ T5 s _ _ hh5.symm (Vm.Alike.refl _) rfl e8
  rw [hh5] at z8
  have hB1 := hB.keep X8.warmed.alike (n6 _ _ hB.1)
  have hne : s.heap.size ≠ a := (Nat.ne_of_lt (Array.getElem?_eq_some_iff.mp hB.1).1).symm
  have c9 : Steps p.tables e below (s₁.setTop (entryFrame m #[.ref a, .ref b, .int (Int32.ofNat o), .int (Int32.ofNat len), .null] 6)) (T8.setTop (mkF m 39 #[.val (.ref a), .val (.ref b), .val (.int (Int32.ofNat o)), .val (.int (Int32.ofNat len)), .val .null, .unset] [.ref s.heap.size])) := g8
  have c10 : Steps p.tables e below (s₁.setTop (entryFrame m #[.ref a, .ref b, .int (Int32.ofNat o), .int (Int32.ofNat len), .null] 6)) (T8.setTop (mkF m 45 #[.val (.ref a), .val (.ref b), .val (.int (Int32.ofNat o)), .val (.int (Int32.ofNat len)), .val .null, .val (.ref s.heap.size)] [.int (Int32.ofNat N.slots.size), .ref s.heap.size, .ref a])) := by
    have hc : Steps p.tables e below (s₁.setTop (entryFrame m #[.ref a, .ref b, .int (Int32.ofNat o), .int (Int32.ofNat len), .null] 6)) (T8.setTop (mkF m 45 #[.val (.ref a), .val (.ref b), .val (.int (Int32.ofNat o)), .val (.int (Int32.ofNat len)), .val .null, .val (.ref s.heap.size)] [.int (Int32.ofNat len), .ref s.heap.size, .ref a])) := c9.trans (by
      refine XS.astore X8.here hexec rfl (hb hbytes d39) rfl rfl rfl ?_
      refine XS.aloadN X8.here hexec rfl (hb hbytes d41) rfl rfl ?_
      refine XS.aload X8.here hexec rfl (hb hbytes d42) rfl rfl ?_
      refine XS.iloadN X8.here hexec rfl (hb hbytes d44) rfl ?_
      exact Steps.refl _)
    rw [n4]; exact hc
  obtain ⟨v11, T11, X11, E11, g11⟩ := X8.callS hexec (CodL.law l s.heap.size N) hown (wks W (staticW "java/lang/String" 47 CodL.yN)) (wk W CodL.tab) (W := 1) (Nat.le_of_ble_eq_true rfl) (Nat.le_of_ble_eq_true rfl) (Nat.le_refl _) (by show 0 + len + 0 ≤ len; omega) (g := (mkF m 45 #[.val (.ref a), .val (.ref b), .val (.int (Int32.ofNat o)), .val (.int (Int32.ofNat len)), .val .null, .val (.ref s.heap.size)] [.int (Int32.ofNat N.slots.size), .ref s.heap.size, .ref a])) rfl (by rw [hml]; rfl) c10 (argsL := [.ref s.heap.size, .int (Int32.ofNat N.slots.size)]) (rest := [.ref a]) rfl rfl (by show 2 * 0 + (1 + 0) ≤ _; decide) (hb hbytes d45) (⟨rfl, n1⟩)
  obtain ⟨rfl, q11⟩ := E11
  have hB11 := hB1.mv (X8.warmed.alike.symm.trans X11.warmed.alike) q11
  have c12 : Steps p.tables e below (s₁.setTop (entryFrame m #[.ref a, .ref b, .int (Int32.ofNat o), .int (Int32.ofNat len), .null] 6)) (T11.setTop (mkF m 48 #[.val (.ref a), .val (.ref b), .val (.int (Int32.ofNat o)), .val (.int (Int32.ofNat len)), .val .null, .val (.ref s.heap.size)] [.int 0, .ref a])) := g11
  obtain ⟨T13, X13, p13, bl13, sl13, st13⟩ := X11.finit hexec hown (wk W (.fieldLink "java/lang/String" 15 "java/lang/String" "coder" "B")) (Or.inr ⟨_, (wk W (.laysFinal "java/lang/String" "java/lang/String" "coder" "B"))⟩) (Or.inl ⟨rfl, hnm⟩) f2 (Or.inl rfl) hB11 (t := .byte) (by decide +kernel) rfl (g := (mkF m 48 #[.val (.ref a), .val (.ref b), .val (.int (Int32.ofNat o)), .val (.int (Int32.ofNat len)), .val .null, .val (.ref s.heap.size)] [.int 0, .ref a])) rfl (rest := []) rfl (hb hbytes d48)
  have c14 : Steps p.tables e below (s₁.setTop (entryFrame m #[.ref a, .ref b, .int (Int32.ofNat o), .int (Int32.ofNat len), .null] 6)) (T13.setTop (mkF m 54 #[.val (.ref a), .val (.ref b), .val (.int (Int32.ofNat o)), .val (.int (Int32.ofNat len)), .val .null, .val (.ref s.heap.size)] [.ref s.heap.size, .ref a])) := (c12.trans (st13 _ (Steps.refl _))).trans (by
    refine XS.aloadN X13.here hexec rfl (hb hbytes d51) rfl rfl ?_
    refine XS.aload X13.here hexec rfl (hb hbytes d52) rfl rfl ?_
    exact Steps.refl _)
  obtain ⟨T15, X15, p15, bl15, sl15, st15⟩ := X13.finit hexec hown (wk W (.fieldLink "java/lang/String" 9 "java/lang/String" "value" "[B")) (Or.inr ⟨_, (wk W (.laysFinal "java/lang/String" "java/lang/String" "value" "[B"))⟩) (Or.inl ⟨rfl, hnm⟩) f1 (Or.inl rfl) bl13 (t := (.array .byte)) (by decide +kernel) rfl (g := (mkF m 54 #[.val (.ref a), .val (.ref b), .val (.int (Int32.ofNat o)), .val (.int (Int32.ofNat len)), .val .null, .val (.ref s.heap.size)] [.ref s.heap.size, .ref a])) rfl (rest := []) rfl (hb hbytes d54)
  have c16 : Steps p.tables e below (s₁.setTop (entryFrame m #[.ref a, .ref b, .int (Int32.ofNat o), .int (Int32.ofNat len), .null] 6)) (T15.setTop (mkF m 57 #[.val (.ref a), .val (.ref b), .val (.int (Int32.ofNat o)), .val (.int (Int32.ofNat len)), .val .null, .val (.ref s.heap.size)] [])) := c14.trans (st15 _ (Steps.refl _))
  have ap := apart (Or.inr ⟨_, (wk W (.laysFinal "java/lang/String" "java/lang/String" "value" "[B"))⟩) (Or.inr ⟨_, (wk W (.laysFinal "java/lang/String" "java/lang/String" "coder" "B"))⟩) f1 f2 (t₁ := .array .byte) (t₂ := .byte) (by decide +kernel) (by decide +kernel) (by decide)
  have al := X8.warmed.alike.symm.trans X15.warmed.alike
  have n7 : T11.heap[s.heap.size]? = some N := by rw [q11]; exact n1.1
  exact ⟨T15, none, _, _, _, X15, by simp, rfl, by omega, (fun _ => rfl), ⟨rfl, _, N, bl15, ((Same.refl D _).set _ (by simp)).set _ (by simp), sl15, (Cell.slots_setSlot_ne _ ap).trans sl13, n1.keep al (p15.other hne (p13.other hne n7)), n2, by rw [al.findClass]; exact n3, n4, n5, fun y c h1 h2 => p15.other h1 (p13.other h1 (by rw [q11]; exact n6 y c h2)), by rw [p15.2.2, p13.2.2, q11]; exact z8⟩, fun fs hl => c16.trans (X15.returnOut hexec hret (hb hbytes d57) hl)⟩
end New4
namespace New1
def yN : MethodName := ⟨"java/lang/String", "<init>", "([C)V"⟩
abbrev yB : ByteArray := jdk_42_method_3_code
theorem d0 : decode yB 0 = .ok (.aload_n 0, 1) := by decide +kernel
theorem d1 : decode yB 1 = .ok (.aload_n 1, 1) := by decide +kernel
theorem d2 : decode yB 2 = .ok (.iconst 0, 1) := by decide +kernel
theorem d3 : decode yB 3 = .ok (.aload_n 1, 1) := by decide +kernel
theorem d4 : decode yB 4 = .ok (.arraylength, 1) := by decide +kernel
theorem d5 : decode yB 5 = .ok (.aconst_null, 1) := by decide +kernel
theorem d6 : decode yB 6 = .ok (.invokespecial 27, 3) := by decide +kernel
theorem d9 : decode yB 9 = .ok (.return_, 1) := by decide +kernel
def site : List Cond := [New4.tab] ++ initW "java/lang/String" 27 New4.yN
def tab : Cond := tabOf yN yB 2 none site
def P (a : Addr) (D : Cell) (fV fC : Field) (b : Addr) (A : Cell) (z : Int32) (args : Array Value) (s : State) : Prop := args = #[.ref a, .ref b] ∧ Blank "java/lang/String" a D s ∧ Found "java/lang/String" "value" "[B" fV s ∧ Found "java/lang/String" "coder" "B" fC s ∧ Ch b A s ∧ StaticIs s "java/lang/String" "COMPACT_STRINGS" "Z" (.int z) ∧ ¬ z = 0 ∧ 0 < A.slots.size ∧ A.slots.size ≤ 536870912 ∧ ∀ i, i < A.slots.size → ¬ 255 < cv A i
def E (a : Addr) (D : Cell) (fV fC : Field) (A : Cell) (r : Option Value) (s u : State) : Prop := Got a D fV fC A 0 A.slots.size r s u
/-- new String(chars), not empty, no char above 255: a Latin-1 String of their low bytes -/
theorem law (l : Launch) (a : Addr) (D : Cell) (fV fC : Field) (b : Addr) (A : Cell) (z : Int32) : Law l yN 2 1 3 52 yB 2 none site (P a D fV fC b A z) (E a D fV fC A) [⟨a, fC.slot⟩, ⟨a, fV.slot⟩] 1 A.slots.size := by
  refine Law.of_walk (plainFor_of_name (by decide +kernel)) (by decide +kernel) (by decide +kernel) (by decide) (fun _ _ h => by rw [h.1]; rfl) (fun _ U U' hal hh h => ⟨h.1, h.2.1.mv hal hh, h.2.2.1.al hal, h.2.2.2.1.al hal, h.2.2.2.2.1.mv hal hh, h.2.2.2.2.2.1.there hal hh, h.2.2.2.2.2.2⟩) (fun r U U' V V' h1 hal h2 h => Got.mv r U U' V V' h1 hal h2 h) ?_
  intro p e s m args below meth c s₁ X0 hexec hbytes hml hret hlk hnm hown hh0 W hP
  obtain ⟨rfl, hB, f1, f2, hA, s1, hz, l0, l2, hp⟩ := hP
  have c1 : Steps p.tables e below (s₁.setTop (entryFrame m #[.ref a, .ref b] 2)) (s₁.setTop (mkF m 0 #[.val (.ref a), .val (.ref b)] [])) := entry rfl
  have c2 : Steps p.tables e below (s₁.setTop (entryFrame m #[.ref a, .ref b] 2)) (s₁.setTop (mkF m 6 #[.val (.ref a), .val (.ref b)] [.null, .int (Int32.ofNat A.slots.size), .int 0, .ref b, .ref a])) := c1.trans (by
    refine XS.aloadN X0.here hexec rfl (hb hbytes d0) rfl rfl ?_
    refine XS.aloadN X0.here hexec rfl (hb hbytes d1) rfl rfl ?_
    refine iconstV X0.here hexec rfl 0 (hb hbytes d2) (by decide) ?_
    refine XS.aloadN X0.here hexec rfl (hb hbytes d3) rfl rfl ?_
    refine X0.alen hexec (hA.1.mv X0.warmed.alike hh0) rfl rfl (hb hbytes d4) ?_
    refine XS.aconstNull X0.here hexec rfl (hb hbytes d5) ?_
    exact Steps.refl _)
  obtain ⟨v3, T3, X3, E3, g3⟩ := X0.callN hexec (New4.law l a D fV fC b A z 0 A.slots.size) rfl hown (wks W (initW "java/lang/String" 27 New4.yN)) (W New4.tab (by simp only [site, List.mem_cons, List.mem_append, true_or, or_true])) (W := 0) (Nat.le_of_ble_eq_true rfl) (Nat.le_of_ble_eq_true rfl) (Nat.le_refl _) (by show 0 + A.slots.size ≤ A.slots.size; omega) (g := (mkF m 6 #[.val (.ref a), .val (.ref b)] [.null, .int (Int32.ofNat A.slots.size), .int (Int32.ofNat 0), .ref b, .ref a])) rfl (by rw [hml]; rfl) c2 (argsL := [.ref b, .int (Int32.ofNat 0), .int (Int32.ofNat A.slots.size), .null]) (rest := []) rfl rfl (by show 2 * 0 + 0 ≤ _; decide) (hb hbytes d6) (⟨rfl, hB.mv X0.warmed.alike hh0, f1.al X0.warmed.alike, f2.al X0.warmed.alike, hA.mv X0.warmed.alike hh0, s1.there X0.warmed.alike hh0, hz, l0, by omega, l2, fun i hi => by rw [Nat.zero_add]; exact hp i hi⟩)
  have e0 := Got.mv _ s₁ s _ _ hh0.symm (Vm.Alike.refl _) rfl E3
  obtain rfl := e0.1
  have c4 : Steps p.tables e below (s₁.setTop (entryFrame m #[.ref a, .ref b] 2)) (T3.setTop (mkF m 9 #[.val (.ref a), .val (.ref b)] [])) := g3
  exact ⟨T3, none, _, _, _, X3, by simp, rfl, by omega, (fun _ => rfl), e0, fun fs hl => c4.trans (X3.returnOut hexec hret (hb hbytes d9) hl)⟩
theorem pays {l : Launch} {R : Room} {p : Program} {e : Env} {below : List Frame} {s : State} {sargs : Array Value} {len W : Nat} (a : Addr) (D : Cell) (fV fC : Field) (b : Addr) (A : Cell) (z : Int32) (htab : tab.before sargs s = true) (hfr : 4 ≤ R.frames) (hlo : W + 65 ≤ R.locals) :
    Back l R p e below s sargs yN len W (fun A₁ a₁ => A₁.cells + 1 ≤ R.cells ∧ A₁.slots + A.slots.size ≤ R.slots ∧ P a D fV fC b A z a₁ A₁.U) (fun A₁ _ v₁ B₁ => E a D fV fC A v₁ A₁.U B₁.U ∧ B₁.locs = A₁.locs ++ [⟨a, fC.slot⟩, ⟨a, fV.slot⟩] ∧ B₁.cells = A₁.cells + 1 ∧ B₁.slots = A₁.slots + A.slots.size) :=
  (law l a D fV fC b A z).pays htab hfr (by omega)
end New1
end StrChars
namespace StrChars.Road
open Jvm Sem ClassFile Op Lib Jvm.Stand Jvm.Free Jvm.Free.XT
open Jvm.Lib.Cold (StaticIs)
abbrev ST : String := "java/lang/String"
/-- every table word that New1's law asks, flat -/
abbrev words : List Jvm.Cond := [.code New1.yN New1.yB 2 none, .initialized ST, .methodLink ST 27 New4.yN, .instanceMethod New4.yN,
  .code New4.yN New4.yB 6 none, .fieldLink ST 38 ST "COMPACT_STRINGS" "Z", .laysFinal ST ST "value" "[B", .fieldLink ST 9 ST "value" "[B", .laysFinal ST ST "coder" "B", .fieldLink ST 15 ST "coder" "B",
  .methodLink ST 1 Lib.objectInit, .instanceMethod Lib.objectInit, .code Lib.objectInit ⟨#[0xb1]⟩ 1 none, .methodLink ST 177 Cmp3.yN, .static Cmp3.yN, .methodLink ST 47 CodL.yN, .static CodL.yN,
  .code Cmp3.yN Cmp3.yB 6 (some (.array .byte)), .initialized U16, .arrayClass .byte, .methodLink U16 115 Cmp5.yN, .static Cmp5.yN, .code Cmp5.yN Cmp5.yB 7 (some .int), .code CodL.yN CodL.yB 2 (some .byte)]
theorem tab_of {a : Array Value} {s : State} (h : ∀ w ∈ words, w.before a s = true) : New1.tab.before a s = true := by
  have h5 : Cmp5.tab.before a s = true := unparts (wk h (.code Cmp5.yN Cmp5.yB 7 (some .int))) (wks h (.initialized Cmp5.yN.cls :: Cmp5.site))
  have hc : CodL.tab.before a s = true := unparts (wk h (.code CodL.yN CodL.yB 2 (some .byte))) (wks h (.initialized CodL.yN.cls :: CodL.site))
  have q5 : ∀ w ∈ Cmp5.tab :: words, w.before a s = true := fun w hw => (List.mem_cons.mp hw).elim (fun e => e ▸ h5) (h w)
  have h3 : Cmp3.tab.before a s = true := unparts (wk q5 (.code Cmp3.yN Cmp3.yB 6 (some (.array .byte)))) (wks q5 (.initialized Cmp3.yN.cls :: Cmp3.site))
  have q3 : ∀ w ∈ Cmp3.tab :: CodL.tab :: words, w.before a s = true := fun w hw => (List.mem_cons.mp hw).elim (fun e => e ▸ h3) fun hw => (List.mem_cons.mp hw).elim (fun e => e ▸ hc) (h w)
  have h4 : New4.tab.before a s = true := unparts (wk q3 (.code New4.yN New4.yB 6 none)) (wks q3 (.initialized New4.yN.cls :: New4.site))
  have q4 : ∀ w ∈ New4.tab :: words, w.before a s = true := fun w hw => (List.mem_cons.mp hw).elim (fun e => e ▸ h4) (h w)
  exact unparts (wk q4 (.code New1.yN New1.yB 2 none)) (wks q4 (.initialized New1.yN.cls :: New1.site))
/-- the words ride from the start Z to the walk's own state -/
theorem moved {Z s : State} {a0 args : Array Value} (hZ : Z.Warmed39 s.vm) (hw : ∀ d ∈ words, d.before a0 Z = true) : ∀ d ∈ words, d.before args s = true := fun d hd => by
  have q := hw d hd
  have t : ∀ d ∈ words, d = .arrayClass .byte ∨ (d.onTables && d.keepsFace) = true := by decide +kernel
  rcases t d hd with rfl | t
  · exact RoadKit.mvA hZ q
  · exact RoadKit.mv hZ q t
/-- WHAT COMES BACK, over the tables of the start Z: h the heap at the call, h' behind it -/
def Q (Z : State) (x : Addr) (A : Cell) (h : Heap) (v : Option Value) (h' : Heap) (L : List Loc) : Prop := v = none ∧ (∀ y ∈ L, y.base = x) ∧ RoadKit.Keep h h' [x] ∧ h'.size = h.size + 1 ∧ RoadKit.Exa Z h' x ST ∧ RoadKit.Fld Z h' x ST "value" "[B" (.ref h.size) ∧ RoadKit.Fld Z h' x ST "coder" "B" (.int 0) ∧
  (∃ V : Cell, RoadKit.Arr Z h' h.size V .byte ∧ V.vm = .none ∧ Z.vm.findClass "[B" = some V.cls ∧ V.slots.size = A.slots.size ∧ ∀ j, j < A.slots.size → V.slots[j]? = some (.int (lo8 (cv A j)))) ∧
  ∀ (O n d : String) (w : Value), RoadKit.Fld Z h x O n d w → RoadKit.slotOf Z O n d ≠ RoadKit.slotOf Z ST "value" "[B" → RoadKit.slotOf Z O n d ≠ RoadKit.slotOf Z ST "coder" "B" → RoadKit.Fld Z h' x O n d w
/-- **new String(chars) AT A CALL, IN THE ROAD'S FORM**: for specialBack behind newO: x the fresh String, b the char[] with the cell A -/
theorem back {p : Program} {l : Launch} {e : Env} {R : Room} {s : State} {args : Array Value} {below : List Frame} {len W : Nat} {Z : State} {a0 : Array Value} {h : Heap} (hZ : Z.Warmed39 s.vm) (hw : ∀ d ∈ words, d.before a0 Z = true) {kI : Nat} (wi : (Jvm.Cond.instantiable ST kI).before a0 Z = true)
    {x b : Addr} {A : Cell} {z : Int32} {v0 c0 : Value} (E : RoadKit.Exa Z h x ST) (V : RoadKit.Fld Z h x ST "value" "[B" v0) (C : RoadKit.Fld Z h x ST "coder" "B" c0) (K : RoadKit.Arr Z h b A .char) (hty : Typed .char A) (S : RoadKit.Sta Z h ST "COMPACT_STRINGS" "Z" (.int z)) (hz : ¬ z = 0)
    (l0 : 0 < A.slots.size) (l2 : A.slots.size ≤ 536870912) (hp : ∀ i, i < A.slots.size → ¬ 255 < cv A i) (hfr : 4 ≤ R.frames) (hlo : W + 65 ≤ R.locals) :
    Back l R p e below s args New1.yN len W (fun P a => a = #[.ref x, .ref b] ∧ P.U.heap = h ∧ P.cells + 1 ≤ R.cells ∧ P.slots + A.slots.size ≤ R.slots)
      (fun P _ v B => ∃ L, Q Z x A h v B.U.heap L ∧ B.locs = P.locs ++ L ∧ B.cells = P.cells + 1 ∧ B.slots = P.slots + A.slots.size) := by
  intro m meth c P g ig mk a X hg hsize hdg hW hn hp'
  obtain ⟨rfl, rfl, r1, r2⟩ := hp'
  have al : Z.vm.Alike P.U.vm := hZ.alike.trans X.warmed.alike
  obtain ⟨D, cfV, kV, iV, fV, hD, gV, stV, knV, obV, asV, slV⟩ := id V
  obtain ⟨D', cfC, kC, iC, fC, hD', gC, stC, -, -, asC, slC⟩ := id C
  cases hD.symm.trans hD'
  obtain ⟨D2, kD, e1, e2, e3, e4, e5⟩ := id E
  cases hD.symm.trans e1
  obtain ⟨c2, k2, i1, i2, i3, -⟩ := Cond.instantiable_spec wi
  cases e2.symm.trans i1
  cases e3.symm.trans i2
  obtain ⟨kU, u1, u2⟩ := al.2.2 _ _ e3
  have hB : Blank ST x D P.U := ⟨hD, ⟨knV, fun q hq => by rw [hq] at obV; cases obV⟩, by rw [al.findClass]; exact e2, kU, u1, by rw [u2]; exact i3, by rw [u2]; exact e5 i3⟩
  have F1 : Found ST "value" "[B" fV P.U := ⟨SBG.found_only al ⟨cfV, kV, iV, gV⟩, stV⟩
  have F2 : Found ST "coder" "B" fC P.U := ⟨SBG.found_only al ⟨cfC, kC, iC, gC⟩, stC⟩
  have hA : Ch b A P.U := ⟨⟨K.1, State.isArrayOf_alike al K.2.1, K.2.2, by omega⟩, hty⟩
  have hS : StaticIs P.U ST "COMPACT_STRINGS" "Z" (.int z) := by
    obtain ⟨cfS, iS, kS, fS, st, cS, t1, t2, t3, t4, t5, t6, t7⟩ := S
    exact StaticIs.there (s := { Z with heap := P.U.heap }) ⟨cfS, iS, kS, fS, st, cS, t1, t2, t3, t4, t5, (fun q => by rw [q] at t6; cases t6), t7⟩ al rfl
  obtain ⟨v, B, X', ⟨⟨hv, E', V', q1, q2, q3, q4, q5, q6, q7, q8, q9, q10, q11⟩, hl, hc, hs⟩, st⟩ := New1.pays x D fV fC b A z (tab_of (moved hZ hw)) hfr hlo m meth c P g ig mk _ X hg hsize hdg hW hn ⟨r1, r2, rfl, hB, F1, F2, hA, hS, hz, l0, l2, hp⟩
  have al' : Z.vm.Alike B.U.vm := hZ.alike.trans X'.warmed.alike
  have hsz : E'.slots.size = D.slots.size := by
    obtain ⟨-, -, -, kB, w1, w2, w3⟩ := q1
    obtain ⟨kB', y1, y2⟩ := al'.2.2 _ _ e3
    rw [q2.2.1] at w1
    cases w1.symm.trans y1
    rw [w3, e5 i3, y2]
  refine ⟨v, B, X', ⟨_, ⟨hv, ?_, ⟨by omega, fun y cy hy hn' => q10 y cy (by simpa using hn') hy, fun y cy hy => ?_⟩, q11, ⟨E', _, q1.1, by rw [q2.2.1]; exact e2, by rw [q2.2.1]; exact e3, by rw [q2.1]; exact obV, fun _ => by rw [hsz]; exact e5 i3⟩,
    ⟨E', cfV, kV, iV, fV, q1.1, gV, stV, by rw [q2.1]; exact knV, by rw [q2.1]; exact obV, by rw [q2.2.1]; exact asV, q3⟩, ⟨E', cfC, kC, iC, fC, q1.1, gC, stC, by rw [q2.1]; exact knV, by rw [q2.1]; exact obV, by rw [q2.2.1]; exact asC, q4⟩,
    ⟨V', ⟨q5.1, State.isArrayOf_alike al'.symm q5.2.1, q5.2.2.1⟩, q6, by rw [← al'.findClass]; exact q7, q8, fun j hj => by have := q9 j hj; rwa [Nat.zero_add] at this⟩, fun O n d w F n1 n2 => ?_⟩, hl, hc, hs⟩, st⟩
  · intro y hy
    simp only [List.mem_cons, List.not_mem_nil, or_false] at hy
    rcases hy with rfl | rfl <;> rfl
  · by_cases q : y = x
    · subst q
      cases hD.symm.trans hy
      exact ⟨E', q1.1, q2.2.1, q2.1, hsz⟩
    · exact ⟨cy, q10 y cy q hy, rfl, rfl, rfl⟩
  · obtain ⟨D3, cf, k, i, f, g1, g2, g3, g4, g5, g6, g7⟩ := F
    cases hD.symm.trans g1
    simp only [RoadKit.slotOf, g2, gV, gC, Option.map_some, Option.getD_some] at n1 n2
    exact ⟨E', cf, k, i, f, q1.1, g2, g3, by rw [q2.1]; exact g4, by rw [q2.1]; exact g5, by rw [q2.2.1]; exact g6, by rw [q2.2.2 f.slot (by simp [n1, n2])]; exact g7⟩
end StrChars.Road
namespace StrChars.Road
open Jvm Sem ClassFile Op Lib Jvm.Stand Jvm.Free Jvm.Free.XT
/-- WHAT COMES BACK, the byte[] as a list of values -/
def QA (Z : State) (x : Addr) (zn : Int32) (cs : List Int32) (h : Heap) (v : Option Value) (h' : Heap) (L : List Loc) : Prop := v = none ∧ (∀ y ∈ L, y.base = x) ∧ RoadKit.Keep h h' [x] ∧ h'.size = h.size + 1 ∧ RoadKit.Exa Z h' x ST ∧ RoadKit.Fld Z h' x ST "value" "[B" (.ref h.size) ∧ RoadKit.Fld Z h' x ST "coder" "B" (.int 0) ∧
  (∃ kb, Z.vm.findClass "[B" = some kb ∧ RoadKit.Arv Z h' h.size kb .byte zn (cs.map fun c => .int (lo8 c)) (.int 0)) ∧
  ∀ (O n d : String) (w : Value), RoadKit.Fld Z h x O n d w → RoadKit.slotOf Z O n d ≠ RoadKit.slotOf Z ST "value" "[B" → RoadKit.slotOf Z O n d ≠ RoadKit.slotOf Z ST "coder" "B" → RoadKit.Fld Z h' x O n d w
/-- **new String(chars) AT A CALL, THE ARRAYS AS LISTS**: the char[] at b holds cs, not empty, no char above 255 -/
theorem backArv {p : Program} {l : Launch} {e : Env} {R : Room} {s : State} {args : Array Value} {below : List Frame} {len W : Nat} {Z : State} {a0 : Array Value} {h : Heap} (hZ : Z.Warmed39 s.vm) (hw : ∀ d ∈ words, d.before a0 Z = true) {kI : Nat} (wi : (Jvm.Cond.instantiable ST kI).before a0 Z = true)
    {x b : Addr} {k : ClassId} {zn z : Int32} {cs : List Int32} {dv v0 c0 : Value} (E : RoadKit.Exa Z h x ST) (V : RoadKit.Fld Z h x ST "value" "[B" v0) (C : RoadKit.Fld Z h x ST "coder" "B" c0) (K : RoadKit.Arv Z h b k .char zn (cs.map Value.int) dv) (S : RoadKit.Sta Z h ST "COMPACT_STRINGS" "Z" (.int z)) (hz : ¬ z = 0)
    (hlen : zn.toNatClampNeg = cs.length) (h0 : 0 < cs.length) (hbig : cs.length ≤ 536870912) (hall : ∀ c ∈ cs, ¬ 255 < c) (hfr : 4 ≤ R.frames) (hlo : W + 65 ≤ R.locals) :
    Back l R p e below s args New1.yN len W (fun P a => a = #[.ref x, .ref b] ∧ P.U.heap = h ∧ P.cells + 1 ≤ R.cells ∧ P.slots + cs.length ≤ R.slots)
      (fun P _ v B => ∃ L, QA Z x zn cs h v B.U.heap L ∧ B.locs = P.locs ++ L ∧ B.cells = P.cells + 1 ∧ B.slots = P.slots + cs.length) := by
  obtain ⟨A, K1, K2, K3, K4, K5, K6⟩ := K
  have e : A.slots.size = cs.length := K3.trans hlen
  have hat : ∀ (i : Nat) (hi : i < cs.length), A.slots[i]? = some (.int cs[i]) := fun i hi => by rw [K5 i (by omega)]; simp [List.getD_eq_getElem?_getD, hi]
  have hcv : ∀ (i : Nat) (hi : i < cs.length), cv A i = cs[i] := fun i hi => by unfold cv; rw [hat i hi]
  have hty : Typed .char A := fun i v hv => by
    have hi : i < A.slots.size := (Array.getElem?_eq_some_iff.mp hv).1
    have q := K5 i hi
    rw [hv] at q
    rw [Option.some.inj q]
    exact K6 i hi
  refine Back.mono (back hZ hw wi E V C K1 hty S hz (by omega) (by omega) (fun i hi => by rw [hcv i (by omega)]; exact hall _ (List.getElem_mem _)) hfr hlo) (fun P a hp => ⟨hp.1, hp.2.1, hp.2.2.1, by rw [e]; exact hp.2.2.2⟩) (fun P a v B hp hq => ?_)
  obtain ⟨L, ⟨q1, q2, q3, q4, q5, q6, q7, ⟨V', v1, v2, v3, v4, v5⟩, q9⟩, hl, hc, hs⟩ := hq
  refine ⟨L, ⟨q1, q2, q3, q4, q5, q6, q7, ⟨V'.cls, v3, V', v1, rfl, by rw [v4, e, hlen], K4, fun i hi => ?_, fun i hi => ?_⟩, q9⟩, hl, hc, by rw [hs, e]⟩
  · have hi' : i < cs.length := by omega
    rw [v5 i (by omega), hcv i hi']; simp [List.getD_eq_getElem?_getD, hi']
  · have hi' : i < cs.length := by omega
    simp only [List.getD_eq_getElem?_getD, List.getElem?_map, List.getElem?_eq_getElem hi', Option.map_some, Option.getD_some]
    exact fits_lo8 _
end StrChars.Road
namespace StrChars.Road
open Jvm Sem ClassFile Op Lib Jvm.Stand Jvm.Free Jvm.Free.XT
/-- WHAT COMES BACK, in the writer's own shape -/
def QV (Z : State) (x : Addr) (N : Int32) (bs : List Int32) (h : Heap) (n0 : Nat) (v : Option Value) (h' : Heap) (L : List Loc) : Prop := v = none ∧ RoadKit.Fr n0 L ∧ RoadKit.Keep h h' [x] ∧ RoadKit.Exa Z h' x ST ∧ RoadKit.Fld Z h' x ST "coder" "B" (.int 0) ∧
  ∃ (t : Addr) (kb : ClassId), n0 ≤ t ∧ h.size ≤ t ∧ ¬ t = x ∧ RoadKit.Fld Z h' x ST "value" "[B" (.ref t) ∧ RoadKit.Arv Z h' t kb .byte N (bs.map Value.int) (.int 0)
/-- **new String(chars) AT A CALL, FOR THE WRITER**: a char[] of n known ints, each 0 to 255 -/
theorem backV {p : Program} {l : Launch} {e : Env} {R : Room} {s : State} {args : Array Value} {below : List Frame} {len W : Nat} {Z : State} {a0 : Array Value} {h : Heap} (hZ : Z.Warmed39 s.vm) (hw : ∀ d ∈ words, d.before a0 Z = true) {kI : Nat} (wi : (Jvm.Cond.instantiable ST kI).before a0 Z = true)
    {x b : Addr} {kC : ClassId} {cs bs : List Int32} {d v0 c0 : Value} {z N : Int32} {n n0 : Nat} (hx0 : n0 ≤ x) (hh0 : n0 ≤ h.size) (E : RoadKit.Exa Z h x ST) (V : RoadKit.Fld Z h x ST "value" "[B" v0) (C : RoadKit.Fld Z h x ST "coder" "B" c0) (K : RoadKit.Arv Z h b kC .char N (cs.map Value.int) d) (S : RoadKit.Sta Z h ST "COMPACT_STRINGS" "Z" (.int z)) (hz : ¬ z = 0)
    (hn : cs.length = n) (hN : N = Int32.ofNat n) (l0 : 0 < n) (l2 : n ≤ 4000) (hp : ∀ c ∈ cs, ¬ c < 0 ∧ ¬ (255 : Int32) < c) (hb : bs = cs.map (fun c => c.toInt8.toInt32)) (hfr : 4 ≤ R.frames) (hlo : W + 65 ≤ R.locals) :
    Back l R p e below s args (⟨"java/lang/String", "<init>", "([C)V"⟩ : MethodName) len W (fun P a => a = #[.ref x, .ref b] ∧ P.U.heap = h ∧ P.cells + 1 ≤ R.cells ∧ P.slots + n ≤ R.slots)
      (fun P _ v B => ∃ L, QV Z x N bs h n0 v B.U.heap L ∧ B.locs = P.locs ++ L ∧ B.cells = P.cells + 1 ∧ B.slots = P.slots + n) := by
  subst hn hN hb
  refine Back.mono (backArv hZ hw wi E V C K S hz (n32 (by omega)) l0 (by omega) (fun c hc => (hp c hc).2) hfr hlo) (fun P a hp => hp) (fun P a v B hp hq => ?_)
  obtain ⟨L, ⟨q1, q2, q3, q4, q5, q6, q7, ⟨kb, v1, v2⟩, q9⟩, hl, hc, hs⟩ := hq
  exact ⟨L, ⟨q1, fun y hy => by rw [q2 y hy]; exact hx0, q3, q5, q7, h.size, kb, hh0, Nat.le_refl _, Nat.ne_of_gt E.lt, q6, by rw [List.map_map]; exact v2⟩, hl, hc, hs⟩
end StrChars.Road
end Jvm.Pilot.@@N@@

namespace Jvm.Pilot.@@N@@
open Jvm Jvm.ClassFile Sem Op Lib Jvm.Free Jvm.Stand Jvm.LawKit Jvm.RoadKit Bundle Jvm.Pilot.@@N@@.Jvm.D
theorem ow {Z : State} {a0 : Array Value} (hw : ∀ d ∈ tables_1, d.before a0 Z = true) (i : Nat) {d : Jvm.Cond} (h : tables_1[i]? = some d) : d.before a0 Z = true := hw _ (List.mem_of_getElem? h)
theorem own_irr {x : Int32} : ¬ x < x := fun h => Int.lt_irrefl _ (Int32.lt_iff_toInt_lt.mp h)
theorem own_neA {Z : State} {h : Heap} {a b : Addr} {k k' : ClassId} {ty ty' : FieldType} {z z' : Int32} {vs vs' : List Value} {d d' : Value} (A : Arv Z h a k ty z vs d) (B : Arv Z h b k' ty' z' vs' d') (hn : ty ≠ ty') : a ≠ b := fun q => by
  subst q
  obtain ⟨c1, ⟨e1, hA, -⟩, -⟩ := A
  obtain ⟨c2, ⟨e2, hB, -⟩, -⟩ := B
  cases e1.symm.trans e2
  obtain ⟨-, k1, g1, comp, hk⟩ := hA
  obtain ⟨-, k2, g2, comp', hk'⟩ := hB
  cases g1.symm.trans g2
  rw [hk] at hk'
  injection hk' with h1 h2
  exact hn h2
section Own
variable {p : Program} {l : Launch} {e : Env} {R : Room} {s : State} {m : MethodId} {args : Array Value} {below : List Frame} {meth : Method} {c : Code} {T : State} {locs : List Loc} {cells slots : Nat} {Z : State} {a0 : Array Value} {h : Heap} {vm0 : Vm} {EL : List (String × Nat)}
/-! own layer: contracts in CPS form. G is the goal at a state; go takes steps backwards, fin ends the walk. -/
def own_MetN (l : Launch) (Z : State) (y : MethodName) (bytes : ByteArray) (maxL : Nat) (ret : Option FieldType) (ws : List Jvm.Cond) (rm : Room) (as' : Array Value) (h0 : Heap) (Q : Option Value → Heap → List Loc → Prop) : Prop :=
  MetFree l y (head1 (Jvm.Cond.code y bytes maxL ret :: ws) rm) (fun a U => a = as' ∧ Z.Warmed39 U.vm ∧ U.heap = h0) (fun _ _ _ _ _ => True) (fun _ U o U' => ∃ v L, o = .returned v ∧ Q v U'.heap L ∧ FrameEnd U o U' L rm.cells rm.slots)
def own_MetH (l : Launch) (Z : State) (EL : List (String × Nat)) (y : MethodName) (bytes : ByteArray) (maxL : Nat) (ret : Option FieldType) (ws : List Jvm.Cond) (rm : Room) (as' : Array Value) (h0 : Heap) (Q : Option Value → Heap → List Loc → Prop) : Prop :=
  MetFree l y (head1 (Jvm.Cond.code y bytes maxL ret :: ws) rm) (fun a U => a = as' ∧ Z.Warmed39 U.vm ∧ U.heap = h0 ∧ CHv Z EL U.vm h0) (fun _ _ _ _ _ => True) (fun _ U o U' => ∃ v L, o = .returned v ∧ Q v U'.heap L ∧ CHr Z EL U.vm U.heap U'.vm U'.heap ∧ ReturnedEndW U o U' L rm.cells rm.slots)
def own_Go (p : Program) (e : Env) (below : List Frame) (G : State → Prop) : Prop := ∀ A B, (∀ t, Steps p.tables e below B t → Steps p.tables e below A t) → G B → G A
def own_Ret (p : Program) (e : Env) (below : List Frame) (m : MethodId) (T : State) (v : Option Value) (g : JFrame) : Prop :=
  ∀ fs, (∀ (f : JFrame) (acts : List Action), f.method = m → f.locked = none → f.entered = [] → (doReturn e (T.setTop f) acts v).1 = T.setFrames fs) → Steps p.tables e below (T.setTop g) (T.setFrames fs)
theorem own_metN {y : MethodName} {bytes : ByteArray} {maxL : Nat} {ret : Option FieldType} {ws : List Jvm.Cond} {rm : Room} {as' : Array Value} {h0 : Heap} {Q : Option Value → Heap → List Loc → Prop} (pn : plainFor y = true)
    (K : ∀ (p : Program) (e : Env) (s : State) (m : MethodId) (below : List Frame) (meth : Method) (c : Code) (s₁ : State) (G : State → Prop), p.tables.exec = Jvm.exec → c.code = bytes → c.maxLocals = maxL → Z.Warmed39 s.vm → s.vm.findClass y.cls = some m.cls → meth.name = y.name → meth.sig.returnType = ret →
      Stand p l e rm s m as' below meth c s₁ [] 0 0 → s₁.heap = h0 → own_Go p e below G →
      (∀ (T : State) (L : List Loc) (cells slots : Nat) (v : Option Value), Stand p l e rm s m as' below meth c T L cells slots → (ret = none → v = none) → cells ≤ rm.cells → slots ≤ rm.slots → Q v T.heap L → ∀ g : JFrame, own_Ret p e below m T v g → G (T.setTop g)) →
      G (s₁.setTop (entryFrame m as' maxL))) :
    own_MetN l Z y bytes maxL ret ws rm as' h0 Q := by
  refine MetFree.of_bodySF pn hisR ?_
  intro p e s m args below meth c s₁ Bd hml0 hP hK
  obtain ⟨rfl, hZ, hh⟩ := hP
  refine K p e s m below meth c s₁ (fun A => ∃ s₂ o, Steps p.tables e below A s₂ ∧ s₂.status = .running ∧ Ended s₂ below o ∧ ∃ v L, o = .returned v ∧ Q v s₂.heap L ∧ FrameEnd s o s₂ L rm.cells rm.slots) Bd.exec Bd.bytes hml0 hZ (findClass_of_methodNamed Bd.named) (name_of_methodNamed Bd.named Bd.method).1 Bd.returns (Stand.of_body Bd) (by rw [← hh, Bd.state]; rfl) ?_ ?_
  · rintro A B st ⟨s₂, o, h1, h2⟩; exact ⟨s₂, o, st _ h1, h2⟩
  · intro T L cells slots v X hv hc hs hq g hg
    obtain ⟨fs, hr, hrun, hended, hW, hsame⟩ := X.leave (v := v) (fun q => hv (Bd.returns.symm.trans q))
    exact ⟨_, _, hg fs hr, hrun, hended, _, _, rfl, hq, ⟨_, rfl⟩, hW, hsame.mono hc hs⟩
theorem own_metH {y : MethodName} {bytes : ByteArray} {maxL : Nat} {ret : Option FieldType} {ws : List Jvm.Cond} {rm : Room} {as' : Array Value} {h0 : Heap} {Q : Option Value → Heap → List Loc → Prop} (pn : plainFor y = true) (hEL : EW Z a0 EL)
    (K : ∀ (p : Program) (e : Env) (s : State) (m : MethodId) (below : List Frame) (meth : Method) (c : Code) (s₁ : State) (G : State → Prop), p.tables.exec = Jvm.exec → c.code = bytes → c.maxLocals = maxL → Z.Warmed39 s.vm → s.vm.findClass y.cls = some m.cls → meth.name = y.name → meth.sig.returnType = ret →
      Stand p l e rm (s.setVm s.vm) m as' below meth c s₁ [] 0 0 → s₁.heap = h0 → s.Since s.vm h0.size → CHr Z EL s.vm h0 s.vm h0 → own_Go p e below G →
      (∀ (T : State) (L : List Loc) (cells slots : Nat) (v : Option Value) (vm0 : Vm) (k0 : Nat), Stand p l e rm (s.setVm vm0) m as' below meth c T L cells slots → Z.Warmed39 vm0 → s.Since vm0 k0 → k0 ≤ T.heap.size → CHr Z EL s.vm h0 vm0 T.heap → (ret = none → v = none) → cells ≤ rm.cells → slots ≤ rm.slots → Q v T.heap L → ∀ g : JFrame, own_Ret p e below m T v g → G (T.setTop g)) →
      G (s₁.setTop (entryFrame m as' maxL))) :
    own_MetH l Z EL y bytes maxL ret ws rm as' h0 Q := by
  refine MetFree.of_bodySF pn hisR ?_
  intro p e s m args below meth c s₁ Bd hml0 hP hK
  obtain ⟨rfl, hZ, hh, hC⟩ := hP
  refine K p e s m below meth c s₁ (fun A => ∃ s₂ o, Steps p.tables e below A s₂ ∧ s₂.status = .running ∧ Ended s₂ below o ∧ ∃ v L, o = .returned v ∧ Q v s₂.heap L ∧ CHr Z EL s.vm s.heap s₂.vm s₂.heap ∧ ReturnedEndW s o s₂ L rm.cells rm.slots) Bd.exec Bd.bytes hml0 hZ (findClass_of_methodNamed Bd.named) (name_of_methodNamed Bd.named Bd.method).1 Bd.returns (Stand.of_body Bd) (by rw [← hh, Bd.state]; rfl) ((State.WarmedH.refl s).since _) (CHr.refl hC) ?_ ?_
  · rintro A B st ⟨s₂, o, h1, h2⟩; exact ⟨s₂, o, st _ h1, h2⟩
  · intro T L cells slots v vm0 k0 X hZ0 hS hk hR hv hc hs hq g hg
    obtain ⟨fs, hr, hrun, hended, e1, e2, e3, e4⟩ := X.leaveW (v := v) hS hk (fun q => hv (Bd.returns.symm.trans q))
    refine ⟨_, _, hg fs hr, hrun, hended, _, _, rfl, hq, ?_, e1, e2, e3, e4.mono hc hs⟩
    rw [hh]
    show CHr Z EL s.vm h0 T.vm T.heap
    exact hR.trans (CHv.at X hZ0 hEL hR.1)
theorem own_nfS {y y' z' : MethodName} {C' : String} {as' : Array Value} (hc : z'.cls = y.cls) (ws : (Jvm.Cond.selects C' y' z').before as' s = true) : NotFace s y := fun r0 h0 => by
  obtain ⟨c2, r2, m2, -, -, q3, -, kP, hkP, hkPi⟩ := Cond.selects_spec ws
  have f1 := findClass_of_methodNamed h0
  have f2 := findClass_of_methodNamed q3
  rw [hc] at f2
  have e : m2.cls = r0.cls := Option.some.inj (f2.symm.trans f1)
  rw [e] at hkP
  exact ⟨kP, hkP, hkPi⟩
/-! calls: the callee's law in backOf's shape pays -/
theorem own_bkN {y : MethodName} {bytes : ByteArray} {maxL : Nat} {ret : Option FieldType} {rm : Room} {len W : Nat} {as' : Array Value} {Q : Option Value → Heap → List Loc → Prop} (hM : own_MetN l Z y bytes maxL ret [] rm as' h Q)
    (hZ : Z.Warmed39 s.vm) (wc : (Jvm.Cond.code y bytes maxL ret).before a0 Z = true) (wz : (Jvm.Cond.initialized y.cls).before a0 Z = true) (hf : rm.frames + 1 ≤ R.frames) (hl : W + (maxL + 11) + rm.locals ≤ R.locals) :
    Back l R p e below s args y len W (fun A a => a = as' ∧ A.U.heap = h ∧ A.cells + rm.cells ≤ R.cells ∧ A.slots + rm.slots ≤ R.slots) (fun A _ v B => ∃ L, Q v B.U.heap L ∧ B.locs = A.locs ++ L ∧ B.cells = A.cells + rm.cells ∧ B.slots = A.slots + rm.slots) :=
  backOf (Q := Q) hM hZ wc wz hf hl
theorem own_bkH {y : MethodName} {bytes : ByteArray} {maxL : Nat} {ret : Option FieldType} {rm : Room} {len W : Nat} {as' : Array Value} {Q : Option Value → Heap → List Loc → Prop} (hM : own_MetH l Z EL y bytes maxL ret [] rm as' h Q)
    (hZ : Z.Warmed39 vm0) (wc : (Jvm.Cond.code y bytes maxL ret).before a0 Z = true) (wz : (Jvm.Cond.initialized y.cls).before a0 Z = true) (hf : rm.frames + 1 ≤ R.frames) (hl : W + (maxL + 11) + rm.locals ≤ R.locals) (hEL : EW Z a0 EL) (H : CHv Z EL vm0 h) :
    BackS l R p e below (s.setVm vm0) args y len W (fun A a => a = as' ∧ A.U.heap = h ∧ A.cells + rm.cells ≤ R.cells ∧ A.slots + rm.slots ≤ R.slots) (fun A _ v B => ∃ L, Q v B.U.heap L ∧ B.locs = A.locs ++ L ∧ B.cells = A.cells + rm.cells ∧ B.slots = A.slots + rm.slots ∧ CHr Z EL vm0 h B.U.vm B.U.heap) :=
  backOfSH (Q := Q) hM hZ wc wz hf hl hEL H
theorem own_st (X : Stand p l e R s m args below meth c T locs cells slots) (hx : p.tables.exec = Jvm.exec) (hZ : Z.Warmed39 s.vm) {own : String} {index : Nat} {y : MethodName} {bytes : ByteArray} {maxL : Nat} {ret : Option FieldType}
    (hown : s.vm.findClass own = some m.cls) (w1 : (Jvm.Cond.methodLink own index y).before a0 Z = true) (w2 : (Jvm.Cond.static y).before a0 Z = true) (w3 : (Jvm.Cond.initialized y.cls).before a0 Z = true) (w4 : (Jvm.Cond.code y bytes maxL ret).before a0 Z = true)
    (hy : y.cls ≠ "java/lang/invoke/MethodHandle" ∧ y.cls ≠ "java/lang/invoke/VarHandle") {W kc ks : Nat} {as' : Array Value} {Q : Option Value → Heap → List Loc → Prop}
    (hK : Back l R p e below s args y 3 W (fun A a => a = as' ∧ A.U.heap = h ∧ A.cells + kc ≤ R.cells ∧ A.slots + ks ≤ R.slots) (fun A _ v B => ∃ L, Q v B.U.heap L ∧ B.locs = A.locs ++ L ∧ B.cells = A.cells + kc ∧ B.slots = A.slots + ks))
    (eT : T.heap = h) {g : JFrame} (hg : g.method = m) (hsize : g.locals.size = c.maxLocals) {argsL rest : List Value} (ha : argsL.toArray = as') (hlen : ∀ sig, parseMethodDescriptor y.desc = some sig → argsL.length = sig.parameters.length)
    (hstack : g.stack = argsL.reverse ++ rest) (hW : 2 * g.monitorRoom + (rest.map fun v => v.category).sum ≤ W) (hdg : decode c.code g.pc = .ok (.invokestatic index, 3)) (hc : cells + kc ≤ R.cells) (hs : slots + ks ≤ R.slots) :
    ∃ (v : Option Value) (T' : State) (L : List Loc), Stand p l e R s m args below meth c T' (locs ++ L) (cells + kc) (slots + ks) ∧ Q v T'.heap L ∧ ∀ t, Steps p.tables e below (T'.setTop { g with pc := g.pc + 3, stack := v.toList ++ rest }) t → Steps p.tables e below (T.setTop g) t := by
  obtain ⟨v, vm₁, ⟨T', L', k', n'⟩, -, X', ⟨L, hq, hl, hk, hn⟩, st⟩ := Jvm.LawKit.callS X hx hown (mvT hZ w1) (mvT hZ w2) (mvT hZ w3) (mvT hZ w4) hy hK hg hsize hlen hstack hW hdg (fun _ _ => ⟨ha, eT, hc, hs⟩)
  dsimp only [Pt.U, Pt.locs, Pt.cells, Pt.slots] at X' hq hl hk hn st
  subst hl hk hn
  exact ⟨v, T', L, X', hq, st⟩
theorem own_sp (X : Stand p l e R s m args below meth c T locs cells slots) (hx : p.tables.exec = Jvm.exec) (hZ : Z.Warmed39 s.vm) {own : String} {index : Nat} {y : MethodName} {bytes : ByteArray} {maxL : Nat} (hy1 : y.name = "<init>")
    (hown : s.vm.findClass own = some m.cls) (w1 : (Jvm.Cond.methodLink own index y).before a0 Z = true) (w2 : (Jvm.Cond.instanceMethod y).before a0 Z = true) (w4 : (Jvm.Cond.code y bytes maxL none).before a0 Z = true)
    (hy : y.cls ≠ "java/lang/invoke/MethodHandle" ∧ y.cls ≠ "java/lang/invoke/VarHandle") {W kc ks : Nat} {as' : Array Value} {Q : Option Value → Heap → List Loc → Prop}
    (hK : Back l R p e below s args y 3 W (fun A a => a = as' ∧ A.U.heap = h ∧ A.cells + kc ≤ R.cells ∧ A.slots + ks ≤ R.slots) (fun A _ v B => ∃ L, Q v B.U.heap L ∧ B.locs = A.locs ++ L ∧ B.cells = A.cells + kc ∧ B.slots = A.slots + ks))
    (eT : T.heap = h) {g : JFrame} (hg : g.method = m) (hsize : g.locals.size = c.maxLocals) {a : Addr} {argsL rest : List Value} (ha : (.ref a :: argsL).toArray = as') (hlen : ∀ sig, parseMethodDescriptor y.desc = some sig → argsL.length = sig.parameters.length)
    (hstack : g.stack = argsL.reverse ++ .ref a :: rest) (hW : 2 * g.monitorRoom + (rest.map fun v => v.category).sum ≤ W) (hdg : decode c.code g.pc = .ok (.invokespecial index, 3)) (hc : cells + kc ≤ R.cells) (hs : slots + ks ≤ R.slots) :
    ∃ (v : Option Value) (T' : State) (L : List Loc), Stand p l e R s m args below meth c T' (locs ++ L) (cells + kc) (slots + ks) ∧ Q v T'.heap L ∧ ∀ t, Steps p.tables e below (T'.setTop { g with pc := g.pc + 3, stack := v.toList ++ rest }) t → Steps p.tables e below (T.setTop g) t := by
  obtain ⟨v, vm₁, ⟨T', L', k', n'⟩, -, X', ⟨L, hq, hl, hk, hn⟩, st⟩ := X.specialBack hx hy1 hown (mvT hZ w1) (mvT hZ w2) (mvT hZ w4) hy hK hg hsize (Steps.refl _) hlen hstack hW hdg (fun _ _ => ⟨ha, eT, hc, hs⟩)
  dsimp only [Pt.U, Pt.locs, Pt.cells, Pt.slots] at X' hq hl hk hn st
  subst hl hk hn
  exact ⟨v, T', L, X', hq, fun _ k => st.trans k⟩
theorem own_vi (X : Stand p l e R s m args below meth c T locs cells slots) (hx : p.tables.exec = Jvm.exec) (hZ : Z.Warmed39 s.vm) {own C : String} {index : Nat} {y z : MethodName}
    (hown : s.vm.findClass own = some m.cls) (w1 : (Jvm.Cond.methodLink own index y).before a0 Z = true) (w2 : (Jvm.Cond.declares y).before a0 Z = true) (w3 : (Jvm.Cond.selects C y z).before a0 Z = true) (w4 : (Jvm.Cond.instanceMethod z).before a0 Z = true) (hn : z = y ∨ (∃ S, (Jvm.Cond.superclass y.cls S).before a0 Z = true) ∨ (Jvm.Cond.noSuperclass y.cls).before a0 Z = true ∨ ∃ C' y' z', z'.cls = y.cls ∧ (Jvm.Cond.selects C' y' z').before a0 Z = true)
    (hy : y.cls ≠ "java/lang/invoke/MethodHandle" ∧ y.cls ≠ "java/lang/invoke/VarHandle") {W kc ks : Nat} {as' : Array Value} {Q : Option Value → Heap → List Loc → Prop}
    (hK : Back l R p e below s args z 3 W (fun A a => a = as' ∧ A.U.heap = h ∧ A.cells + kc ≤ R.cells ∧ A.slots + ks ≤ R.slots) (fun A _ v B => ∃ L, Q v B.U.heap L ∧ B.locs = A.locs ++ L ∧ B.cells = A.cells + kc ∧ B.slots = A.slots + ks))
    (eT : T.heap = h) {b : Addr} (E : Exa Z h b C) {g : JFrame} (hg : g.method = m) (hsize : g.locals.size = c.maxLocals) {argsL rest : List Value} (ha : (.ref b :: argsL).toArray = as') (hlen : ∀ sig, parseMethodDescriptor y.desc = some sig → argsL.length = sig.parameters.length)
    (hstack : g.stack = argsL.reverse ++ .ref b :: rest) (hW : 2 * g.monitorRoom + (rest.map fun v => v.category).sum ≤ W) (hdg : decode c.code g.pc = .ok (.invokevirtual index, 3)) (hc : cells + kc ≤ R.cells) (hs : slots + ks ≤ R.slots) :
    ∃ (v : Option Value) (T' : State) (L : List Loc), Stand p l e R s m args below meth c T' (locs ++ L) (cells + kc) (slots + ks) ∧ Q v T'.heap L ∧ ∀ t, Steps p.tables e below (T'.setTop { g with pc := g.pc + 3, stack := v.toList ++ rest }) t → Steps p.tables e below (T.setTop g) t := by
  have hnf : NotFace s y := by
    rcases hn with rfl | ⟨S, w⟩ | w | ⟨C', y', z', hc, w⟩
    · exact notFace_of_selects (args := #[]) (mvT hZ w3)
    · exact nf_super (args := #[]) (mvT hZ w)
    · exact nf_top (args := #[]) (mvT hZ w)
    · exact own_nfS hc (mvT (args := #[]) hZ w)
  obtain ⟨cq, kq, qa, qb, qc⟩ := isOf hZ eT E
  obtain ⟨v, vm₁, ⟨T', L', k', n'⟩, -, X', ⟨L, hq, hl, hk, hn⟩, st⟩ := X.virtualBack hx (y := y) (z := z) hown (mvT hZ w1) (mvT hZ w2) hnf (mvT hZ w3) (mvT hZ w4) hy hK qa qc hg hsize (Steps.refl _) hlen hstack hW hdg (fun _ _ => ⟨ha, eT, hc, hs⟩)
  dsimp only [Pt.U, Pt.locs, Pt.cells, Pt.slots] at X' hq hl hk hn st
  subst hl hk hn
  exact ⟨v, T', L, X', hq, fun _ k => st.trans k⟩
/-! .. of a callee that may load String constants: the walk goes on over the tables at hand -/
theorem own_stW (X : Stand p l e R (s.setVm vm0) m args below meth c T locs cells slots) (hx : p.tables.exec = Jvm.exec) (hZ : Z.Warmed39 vm0) {own : String} {index : Nat} {y : MethodName} {bytes : ByteArray} {maxL : Nat} {ret : Option FieldType}
    (hown : vm0.findClass own = some m.cls) (w1 : (Jvm.Cond.methodLink own index y).before a0 Z = true) (w2 : (Jvm.Cond.static y).before a0 Z = true) (w3 : (Jvm.Cond.initialized y.cls).before a0 Z = true) (w4 : (Jvm.Cond.code y bytes maxL ret).before a0 Z = true)
    (hy : y.cls ≠ "java/lang/invoke/MethodHandle" ∧ y.cls ≠ "java/lang/invoke/VarHandle") {W kc ks : Nat} {as' : Array Value} {Q : Option Value → Heap → List Loc → Prop}
    (hK : BackS l R p e below (s.setVm vm0) args y 3 W (fun A a => a = as' ∧ A.U.heap = h ∧ A.cells + kc ≤ R.cells ∧ A.slots + ks ≤ R.slots) (fun A _ v B => ∃ L, Q v B.U.heap L ∧ B.locs = A.locs ++ L ∧ B.cells = A.cells + kc ∧ B.slots = A.slots + ks ∧ CHr Z EL vm0 h B.U.vm B.U.heap))
    (eT : T.heap = h) {k0 : Nat} (hS : s.Since vm0 k0) (hk0 : k0 ≤ h.size) {g : JFrame} (hg : g.method = m) (hsize : g.locals.size = c.maxLocals) {argsL rest : List Value} (ha : argsL.toArray = as') (hlen : ∀ sig, parseMethodDescriptor y.desc = some sig → argsL.length = sig.parameters.length)
    (hstack : g.stack = argsL.reverse ++ rest) (hW : 2 * g.monitorRoom + (rest.map fun v => v.category).sum ≤ W) (hdg : decode c.code g.pc = .ok (.invokestatic index, 3)) (hc : cells + kc ≤ R.cells) (hs : slots + ks ≤ R.slots) :
    ∃ (v : Option Value) (T' : State) (L : List Loc), Stand p l e R (s.setVm T'.vm) m args below meth c T' (locs ++ L) (cells + kc) (slots + ks) ∧ Q v T'.heap L ∧ Z.Warmed39 T'.vm ∧ T'.vm.findClass own = some m.cls ∧ s.Since T'.vm T'.heap.size ∧ CHr Z EL vm0 h T'.vm T'.heap ∧ ∀ t, Steps p.tables e below (T'.setTop { g with pc := g.pc + 3, stack := v.toList ++ rest }) t → Steps p.tables e below (T.setTop g) t := by
  have hZ' : Z.Warmed39 (s.setVm vm0).vm := hZ
  obtain ⟨v, vm₁, ⟨T', L', k', n'⟩, -, X', hS', hg', ⟨L, hq, hl, hk, hn, hC⟩, st⟩ := callSS X hx (own := own) (index := index) hown (mvT hZ' w1) (mvT hZ' w2) (mvT hZ' w3) (mvT hZ' w4) hy hK hg hsize hlen hstack hW hdg (fun _ _ => ⟨ha, eT, hc, hs⟩)
  dsimp only [Pt.U, Pt.locs, Pt.cells, Pt.slots] at X' hS' hg' hq hl hk hn hC st
  subst hl hk hn eT
  obtain ⟨Y, hS2, hZ2, hown2⟩ := rebS hS hk0 X' hS' hg' hZ' hown
  exact ⟨v, T', L, Y, hq, hZ2, hown2, hS2, hC, fun _ k => st.trans k⟩
theorem own_spW (X : Stand p l e R (s.setVm vm0) m args below meth c T locs cells slots) (hx : p.tables.exec = Jvm.exec) (hZ : Z.Warmed39 vm0) {own : String} {index : Nat} {y : MethodName} {bytes : ByteArray} {maxL : Nat} (hy1 : y.name = "<init>")
    (hown : vm0.findClass own = some m.cls) (w1 : (Jvm.Cond.methodLink own index y).before a0 Z = true) (w2 : (Jvm.Cond.instanceMethod y).before a0 Z = true) (w4 : (Jvm.Cond.code y bytes maxL none).before a0 Z = true)
    (hy : y.cls ≠ "java/lang/invoke/MethodHandle" ∧ y.cls ≠ "java/lang/invoke/VarHandle") {W kc ks : Nat} {as' : Array Value} {Q : Option Value → Heap → List Loc → Prop}
    (hK : BackS l R p e below (s.setVm vm0) args y 3 W (fun A a => a = as' ∧ A.U.heap = h ∧ A.cells + kc ≤ R.cells ∧ A.slots + ks ≤ R.slots) (fun A _ v B => ∃ L, Q v B.U.heap L ∧ B.locs = A.locs ++ L ∧ B.cells = A.cells + kc ∧ B.slots = A.slots + ks ∧ CHr Z EL vm0 h B.U.vm B.U.heap))
    (eT : T.heap = h) {k0 : Nat} (hS : s.Since vm0 k0) (hk0 : k0 ≤ h.size) {g : JFrame} (hg : g.method = m) (hsize : g.locals.size = c.maxLocals) {a : Addr} {argsL rest : List Value} (ha : (.ref a :: argsL).toArray = as') (hlen : ∀ sig, parseMethodDescriptor y.desc = some sig → argsL.length = sig.parameters.length)
    (hstack : g.stack = argsL.reverse ++ .ref a :: rest) (hW : 2 * g.monitorRoom + (rest.map fun v => v.category).sum ≤ W) (hdg : decode c.code g.pc = .ok (.invokespecial index, 3)) (hc : cells + kc ≤ R.cells) (hs : slots + ks ≤ R.slots) :
    ∃ (v : Option Value) (T' : State) (L : List Loc), Stand p l e R (s.setVm T'.vm) m args below meth c T' (locs ++ L) (cells + kc) (slots + ks) ∧ Q v T'.heap L ∧ Z.Warmed39 T'.vm ∧ T'.vm.findClass own = some m.cls ∧ s.Since T'.vm T'.heap.size ∧ CHr Z EL vm0 h T'.vm T'.heap ∧ ∀ t, Steps p.tables e below (T'.setTop { g with pc := g.pc + 3, stack := v.toList ++ rest }) t → Steps p.tables e below (T.setTop g) t := by
  have hZ' : Z.Warmed39 (s.setVm vm0).vm := hZ
  obtain ⟨v, vm₁, ⟨T', L', k', n'⟩, -, X', hS', hg', ⟨L, hq, hl, hk, hn, hC⟩, st⟩ := X.specialBackS hx hy1 (own := own) (index := index) hown (mvT hZ' w1) (mvT hZ' w2) (mvT hZ' w4) hy hK hg hsize (Steps.refl _) hlen hstack hW hdg (fun _ _ => ⟨ha, eT, hc, hs⟩)
  dsimp only [Pt.U, Pt.locs, Pt.cells, Pt.slots] at X' hS' hg' hq hl hk hn hC st
  subst hl hk hn eT
  obtain ⟨Y, hS2, hZ2, hown2⟩ := rebS hS hk0 X' hS' hg' hZ' hown
  exact ⟨v, T', L, Y, hq, hZ2, hown2, hS2, hC, fun _ k => st.trans k⟩
theorem own_viW (X : Stand p l e R (s.setVm vm0) m args below meth c T locs cells slots) (hx : p.tables.exec = Jvm.exec) (hZ : Z.Warmed39 vm0) {own C : String} {index : Nat} {y z : MethodName}
    (hown : vm0.findClass own = some m.cls) (w1 : (Jvm.Cond.methodLink own index y).before a0 Z = true) (w2 : (Jvm.Cond.declares y).before a0 Z = true) (w3 : (Jvm.Cond.selects C y z).before a0 Z = true) (w4 : (Jvm.Cond.instanceMethod z).before a0 Z = true) (hn : z = y ∨ (∃ S, (Jvm.Cond.superclass y.cls S).before a0 Z = true) ∨ (Jvm.Cond.noSuperclass y.cls).before a0 Z = true ∨ ∃ C' y' z', z'.cls = y.cls ∧ (Jvm.Cond.selects C' y' z').before a0 Z = true)
    (hy : y.cls ≠ "java/lang/invoke/MethodHandle" ∧ y.cls ≠ "java/lang/invoke/VarHandle") {W kc ks : Nat} {as' : Array Value} {Q : Option Value → Heap → List Loc → Prop}
    (hK : BackS l R p e below (s.setVm vm0) args z 3 W (fun A a => a = as' ∧ A.U.heap = h ∧ A.cells + kc ≤ R.cells ∧ A.slots + ks ≤ R.slots) (fun A _ v B => ∃ L, Q v B.U.heap L ∧ B.locs = A.locs ++ L ∧ B.cells = A.cells + kc ∧ B.slots = A.slots + ks ∧ CHr Z EL vm0 h B.U.vm B.U.heap))
    (eT : T.heap = h) {k0 : Nat} (hS : s.Since vm0 k0) (hk0 : k0 ≤ h.size) {b : Addr} (E : Exa Z h b C) {g : JFrame} (hg : g.method = m) (hsize : g.locals.size = c.maxLocals) {argsL rest : List Value} (ha : (.ref b :: argsL).toArray = as') (hlen : ∀ sig, parseMethodDescriptor y.desc = some sig → argsL.length = sig.parameters.length)
    (hstack : g.stack = argsL.reverse ++ .ref b :: rest) (hW : 2 * g.monitorRoom + (rest.map fun v => v.category).sum ≤ W) (hdg : decode c.code g.pc = .ok (.invokevirtual index, 3)) (hc : cells + kc ≤ R.cells) (hs : slots + ks ≤ R.slots) :
    ∃ (v : Option Value) (T' : State) (L : List Loc), Stand p l e R (s.setVm T'.vm) m args below meth c T' (locs ++ L) (cells + kc) (slots + ks) ∧ Q v T'.heap L ∧ Z.Warmed39 T'.vm ∧ T'.vm.findClass own = some m.cls ∧ s.Since T'.vm T'.heap.size ∧ CHr Z EL vm0 h T'.vm T'.heap ∧ ∀ t, Steps p.tables e below (T'.setTop { g with pc := g.pc + 3, stack := v.toList ++ rest }) t → Steps p.tables e below (T.setTop g) t := by
  have hZ' : Z.Warmed39 (s.setVm vm0).vm := hZ
  have hnf : NotFace (s.setVm vm0) y := by
    rcases hn with rfl | ⟨S, w⟩ | w | ⟨C', y', z', hc, w⟩
    · exact notFace_of_selects (args := #[]) (mvT hZ' w3)
    · exact nf_super (args := #[]) (mvT hZ' w)
    · exact nf_top (args := #[]) (mvT hZ' w)
    · exact own_nfS hc (mvT (args := #[]) hZ' w)
  obtain ⟨cq, kq, qa, qb, qc⟩ := isOf hZ' eT E
  obtain ⟨v, vm₁, ⟨T', L', k', n'⟩, -, X', hS', hg', ⟨L, hq, hl, hk, hn, hC⟩, st⟩ := X.virtualBackS hx (y := y) (z := z) (own := own) (index := index) hown (mvT hZ' w1) (mvT hZ' w2) hnf (mvT hZ' w3) (mvT hZ' w4) hy hK qa qc hg hsize (Steps.refl _) hlen hstack hW hdg (fun _ _ => ⟨ha, eT, hc, hs⟩)
  dsimp only [Pt.U, Pt.locs, Pt.cells, Pt.slots] at X' hS' hg' hq hl hk hn hC st
  subst hl hk hn eT
  obtain ⟨Y, hS2, hZ2, hown2⟩ := rebS hS hk0 X' hS' hg' hZ' hown
  exact ⟨v, T', L, Y, hq, hZ2, hown2, hS2, hC, fun _ k => st.trans k⟩
theorem own_catR {a : Addr} : (Value.ref a).category = 1 := rfl
theorem own_catI {a : Int32} : (Value.int a).category = 1 := rfl
theorem own_catJ {a : Int64} : (Value.long a).category = 2 := rfl
theorem own_cat {v : Value} (hv : v.isRef = true) : v.category = 1 := by rcases ref_cases hv with rfl | ⟨a, rfl⟩ <;> rfl
theorem own_narR {v : Value} {C : String} : narrow (.object C) v = v := by cases v <;> rfl
theorem own_fitR {v : Value} {C : String} (hv : v.isRef = true) : fits (.object C) v = true := by rcases ref_cases hv with rfl | ⟨a, rfl⟩ <;> rfl
theorem own_retA (X : Stand p l e R s m args below meth c T locs cells slots) (hx : p.tables.exec = Jvm.exec) {pc : Nat} {Ls : Array Slot} {w : Value} {t : FieldType} {rest : List Value} (hret : meth.sig.returnType = some t) (ht : t.isReference = true) (hw : w.isRef = true) (hn : narrow t w = w) (hd : decode c.code pc = .ok (.areturn, 1)) :
    own_Ret p e below m T (some w) (mkF m pc Ls (w :: rest)) := fun _ hl => retOut X hx hret hn (Or.inr (Or.inr (Or.inr (Or.inr ⟨rfl, ht, hw⟩)))) hd hl
theorem own_retI (X : Stand p l e R s m args below meth c T locs cells slots) (hx : p.tables.exec = Jvm.exec) {pc : Nat} {Ls : Array Slot} {z : Int32} {rest : List Value} (hret : meth.sig.returnType = some .int) (hd : decode c.code pc = .ok (.ireturn, 1)) :
    own_Ret p e below m T (some (.int z)) (mkF m pc Ls (.int z :: rest)) := fun _ hl => retOut X hx hret rfl (Or.inl ⟨rfl, Or.inl rfl, z, rfl⟩) hd hl
theorem own_retN (X : Stand p l e R s m args below meth c T locs cells slots) (hx : p.tables.exec = Jvm.exec) {pc : Nat} {Ls : Array Slot} {z : Int32} {t : FieldType} {rest : List Value} (hret : meth.sig.returnType = some t) (ht : t = .boolean ∨ t = .byte ∨ t = .char ∨ t = .short) (hd : decode c.code pc = .ok (.ireturn, 1)) :
    own_Ret p e below m T (some (.int (nar t z))) (mkF m pc Ls (.int z :: rest)) := fun _ hl => retN X hx hret ht hd hl
theorem own_retV (X : Stand p l e R s m args below meth c T locs cells slots) (hx : p.tables.exec = Jvm.exec) {pc : Nat} {Ls : Array Slot} (hret : meth.sig.returnType = none) (hd : decode c.code pc = .ok (.return_, 1)) :
    own_Ret p e below m T none (mkF m pc Ls []) := fun _ hl => X.returnOut hx hret hd hl
theorem own_in (X : Stand p l e R s m args below meth c T locs cells slots) (hx : p.tables.exec = Jvm.exec) (hZ : Z.Warmed39 s.vm) {own C : String} {index count : Nat} {xi y : MethodName}
    (hown : s.vm.findClass own = some m.cls) (w1 : (Jvm.Cond.methodLink own index xi).before a0 Z = true) (w2 : (Jvm.Cond.declares xi).before a0 Z = true) (w3 : (Jvm.Cond.interfaceMethod xi.cls xi.cls xi.name xi.desc).before a0 Z = true) (w4 : (Jvm.Cond.selects C xi y).before a0 Z = true) (w5 : (Jvm.Cond.instanceMethod y).before a0 Z = true)
    (w6 : (Jvm.Cond.publicMethod y).before a0 Z = true) (w7 : (Jvm.Cond.unhidden C xi.name xi.desc).before a0 Z = true) (w8 : (Jvm.Cond.castable C xi.cls).before a0 Z = true)
    (hy : xi.cls ≠ "java/lang/invoke/MethodHandle" ∧ xi.cls ≠ "java/lang/invoke/VarHandle") {W kc ks : Nat} {as' : Array Value} {Q : Option Value → Heap → List Loc → Prop}
    (hK : Back l R p e below s args y 5 W (fun A a => a = as' ∧ A.U.heap = h ∧ A.cells + kc ≤ R.cells ∧ A.slots + ks ≤ R.slots) (fun A _ v B => ∃ L, Q v B.U.heap L ∧ B.locs = A.locs ++ L ∧ B.cells = A.cells + kc ∧ B.slots = A.slots + ks))
    (eT : T.heap = h) {b : Addr} (E : Exa Z h b C) {g : JFrame} (hg : g.method = m) (hsize : g.locals.size = c.maxLocals) {argsL rest : List Value} (ha : (.ref b :: argsL).toArray = as') (hlen : ∀ sig, parseMethodDescriptor xi.desc = some sig → argsL.length = sig.parameters.length)
    (hstack : g.stack = argsL.reverse ++ .ref b :: rest) (hW : 2 * g.monitorRoom + (rest.map fun v => v.category).sum ≤ W) (hdg : decode c.code g.pc = .ok (.invokeinterface index count, 5)) (hc : cells + kc ≤ R.cells) (hs : slots + ks ≤ R.slots) :
    ∃ (v : Option Value) (T' : State) (L : List Loc), Stand p l e R s m args below meth c T' (locs ++ L) (cells + kc) (slots + ks) ∧ Q v T'.heap L ∧ ∀ t, Steps p.tables e below (T'.setTop { g with pc := g.pc + 5, stack := v.toList ++ rest }) t → Steps p.tables e below (T.setTop g) t := by
  obtain ⟨cq, kq, qa, qb, qc⟩ := isOf hZ eT E
  obtain ⟨v, vm₁, ⟨T', L', k', n'⟩, -, X', ⟨L, hq, hl, hk, hn⟩, st⟩ := X.interfaceBack hx (xi := xi) (y := y) hown (mvT hZ w1) (mvT hZ w2) (mvT hZ w3 (by simp [Cond.onTables, Cond.keepsFace, Cond.keeps, Cond.steady, Cond.faceAtom, hy.1, hy.2])) (mvT hZ w4) (mvT hZ w5) (mvT hZ w6) (mvT hZ w7) (mvT hZ w8) hy hK qa qb qc hg hsize (Steps.refl _) hlen hstack hW hdg (fun _ _ => ⟨ha, eT, hc, hs⟩)
  dsimp only [Pt.U, Pt.locs, Pt.cells, Pt.slots] at X' hq hl hk hn st
  subst hl hk hn
  exact ⟨v, T', L, X', hq, fun _ k => st.trans k⟩
/-- instanceof, whatever it says -/
theorem own_inst (X : Stand p l e R s m args below meth c T locs cells slots) (hx : p.tables.exec = Jvm.exec) (hZ : Z.Warmed39 s.vm) {own K C : String} {index : Nat} (hown : s.vm.findClass own = some m.cls) (w : (Jvm.Cond.classLink own index K).before a0 Z = true) (eT : T.heap = h) {a : Addr} (E : Exa Z h a C)
    {g : JFrame} (hg : g.method = m) {rest : List Value} (hs : g.stack = .ref a :: rest) (hd : decode c.code g.pc = .ok (.instanceof index, 3)) :
    ∃ (z : Int32) (T' : State), (z = 0 ∨ z = 1) ∧ Stand p l e R s m args below meth c T' locs cells slots ∧ T'.heap = h ∧ ∀ t, Steps p.tables e below (T'.setTop { g with pc := g.pc + 3, stack := .int z :: rest }) t → Steps p.tables e below (T.setTop g) t := by
  obtain ⟨cell, k, e1, e2, e3, e4, e5⟩ := E
  have w' : (Jvm.Cond.classLink own index K).before args s = true := mv hZ w
  have hpl : e.platform.magicAccessors = ({} : Platform).magicAccessors := by rw [X.admits.platform]
  obtain ⟨cT, hcT, -⟩ := Cond.classLink_spec hown w' e.platform hpl
  obtain ⟨k', q, -⟩ := hZ.alike.2.2 _ _ e3
  cases hb : s.vm.assignable cell.cls cT with
  | true =>
    obtain ⟨vm', X', st⟩ := X.instanceofYes hx hown w' (by rw [eT]; exact e1) e4 hcT hb hg hs hd
    exact ⟨1, _, Or.inr rfl, X', eT, st⟩
  | false =>
    obtain ⟨T', X', e', st⟩ := instNo X hx hZ hown w eT (C := C) ⟨cell, k, e1, e2, e3, e4, e5⟩ ⟨cell.cls, cT, e2, by rw [← hZ.alike.findClass]; exact hcT, by rw [← hZ.alike.assignable]; exact hb⟩ hg hs hd
    exact ⟨0, _, Or.inl rfl, X', e', st⟩
/-- a class that isn't among the superclasses and is no interface (the word instantiable says so) -/
theorem own_NSroot {O K : String} {n : Nat} (w : (Jvm.Cond.noSuperclass O).before a0 Z = true) (wk : (Jvm.Cond.instantiable K n).before a0 Z = true) (hn : O ≠ K) : NS Z O K := by
  obtain ⟨c, k, h1, h2, h3, -, -⟩ := Cond.noSuperclass_spec w
  obtain ⟨t, kt, g1, -⟩ := Cond.instantiable_spec wk
  have ne := ids_ne h1 g1 hn
  refine ⟨c, t, h1, g1, fun fuel => ?_⟩
  cases fuel with
  | zero => rfl
  | succ f => simp [Vm.isSubclassAux, ne, h2, h3]
theorem own_NSno {C S K : String} {n : Nat} (w : (Jvm.Cond.superclass C S).before a0 Z = true) (wk : (Jvm.Cond.instantiable K n).before a0 Z = true) (q : NS Z C K) (hn : C ≠ K) : ∃ c t, Z.vm.findClass C = some c ∧ Z.vm.findClass K = some t ∧ Z.vm.assignable c t = false := by
  obtain ⟨c, t, h0, g0, n3⟩ := q
  obtain ⟨p, k, kp, h1, h2, h3, h4, h5, -, h7⟩ := Cond.superclass_spec h0 w
  obtain ⟨t', kt, g1, g2, g3, g4, -⟩ := Cond.instantiable_spec wk
  cases g0.symm.trans g1
  have g5 : kt.isInterface = false := by simp only [Bool.or_eq_false_iff] at g4; exact g4.1
  have ne := ids_ne h0 g0 hn
  refine ⟨c, t, h0, g0, ?_⟩
  show Z.vm.assignableAux (255 + 1) c t = false
  simp [Vm.assignableAux, ne, h2, g2, h5, g3, g5, Vm.isSubclass, n3]
theorem own_pr (X : Stand p l e R s m args below meth c T locs cells slots) (hx : p.tables.exec = Jvm.exec) (hZ : Z.Warmed39 s.vm) {own C : String} {index : Nat} {y : MethodName} {bytes : ByteArray} {maxL : Nat} {ret : Option FieldType}
    (hown : s.vm.findClass own = some m.cls) (w1 : (Jvm.Cond.methodLink own index y).before a0 Z = true) (w2 : (Jvm.Cond.instanceMethod y).before a0 Z = true) (w3 : (Jvm.Cond.selects C y y).before a0 Z = true) (w4 : (Jvm.Cond.privateMethod y).before a0 Z = true) (w5 : (Jvm.Cond.code y bytes maxL ret).before a0 Z = true)
    (hy : y.cls ≠ "java/lang/invoke/MethodHandle" ∧ y.cls ≠ "java/lang/invoke/VarHandle") {W kc ks : Nat} {as' : Array Value} {Q : Option Value → Heap → List Loc → Prop}
    (hK : Back l R p e below s args y 3 W (fun A a => a = as' ∧ A.U.heap = h ∧ A.cells + kc ≤ R.cells ∧ A.slots + ks ≤ R.slots) (fun A _ v B => ∃ L, Q v B.U.heap L ∧ B.locs = A.locs ++ L ∧ B.cells = A.cells + kc ∧ B.slots = A.slots + ks))
    (eT : T.heap = h) {b : Addr} {C' : String} (E : Exa Z h b C') {g : JFrame} (hg : g.method = m) (hsize : g.locals.size = c.maxLocals) {argsL rest : List Value} (ha : (.ref b :: argsL).toArray = as') (hlen : ∀ sig, parseMethodDescriptor y.desc = some sig → argsL.length = sig.parameters.length)
    (hstack : g.stack = argsL.reverse ++ .ref b :: rest) (hW : 2 * g.monitorRoom + (rest.map fun v => v.category).sum ≤ W) (hdg : decode c.code g.pc = .ok (.invokevirtual index, 3)) (hc : cells + kc ≤ R.cells) (hs : slots + ks ≤ R.slots) :
    ∃ (v : Option Value) (T' : State) (L : List Loc), Stand p l e R s m args below meth c T' (locs ++ L) (cells + kc) (slots + ks) ∧ Q v T'.heap L ∧ ∀ t, Steps p.tables e below (T'.setTop { g with pc := g.pc + 3, stack := v.toList ++ rest }) t → Steps p.tables e below (T.setTop g) t := by
  obtain ⟨cq, q, q'⟩ := E.cell
  have hpriv : s.PrivateAt y := Cond.privateMethod_at (mvP hZ w4 (args := #[]))
  obtain ⟨mk, methM, hnamed, hmethM, hstM, habM⟩ := Cond.instanceMethod_spec (mvT (args := args) hZ w2)
  obtain ⟨methM', cM, hmethM', -, -, -, -, -, -, hsigM⟩ := Cond.code_spec hnamed (mvT (args := args) hZ w5)
  cases hmethM.symm.trans hmethM'
  obtain ⟨c2, r2, m2, -, -, q3, -, kP, hkP, hkPi⟩ := Cond.selects_spec (mvT (args := args) hZ w3)
  cases hnamed.symm.trans q3
  have hselP : selectMethod e.platform s.vm cq.cls mk = .method mk := selectMethod_private hmethM (hpriv mk methM hnamed hmethM)
  obtain ⟨vm₁, X₁, hstep₁⟩ := X.invokevirtual hx hown (mvT hZ w1) hnamed hmethM hstM hkP hkPi hy (a := b) (cell := cq) (by rw [eT]; exact q) q' hselP hmethM habM hkP hkPi (g := g) hg (argsL := argsL) (rest := rest) (hlen _ hsigM) hstack hdg
  obtain ⟨v, ⟨T', L', k', n'⟩, X', ⟨L, hq, hl, hk, hn⟩, hsteps⟩ := hK m meth c ⟨T.setVm vm₁, locs, cells, slots⟩ { g with stack := rest } (.invokevirtual index) mk (.ref b :: argsL).toArray X₁ hg hsize hdg hW (X₁.named hnamed) ⟨ha, eT, hc, hs⟩
  dsimp only [Pt.U, Pt.locs, Pt.cells, Pt.slots] at X' hq hl hk hn hsteps
  subst hl hk hn
  exact ⟨v, T', L, X', hq, fun _ k => (hstep₁ _ fun acts => by rw [doInvoke_state]; exact Steps.refl _).trans (hsteps.trans k)⟩
theorem own_selfp {y : MethodName} {n : Nat} (w3 : (Jvm.Cond.privateMethod y).before a0 Z = true) (wi : (Jvm.Cond.instanceMethod y).before a0 Z = true) (wk : (Jvm.Cond.instantiable y.cls n).before a0 Z = true) (hy : y.cls ≠ "java/lang/invoke/MethodHandle" ∧ y.cls ≠ "java/lang/invoke/VarHandle") : (Jvm.Cond.selects y.cls y y).before a0 Z = true := by
  obtain ⟨t, kt, g1, g2, g3, g4, -⟩ := Cond.instantiable_spec wk
  have g5 : kt.isInterface = false := by simp only [Bool.or_eq_false_iff] at g4; exact g4.1
  exact selects_self_of_private g1 g2 g5 (Cond.privateMethod_at w3) wi hy
/-- the entry's class has the method itself, and it is no interface: a 'selects' word of another method of that class says so -/
theorem own_same {y y' z : MethodName} {C : String} (hy : y.cls ≠ "java/lang/invoke/MethodHandle" ∧ y.cls ≠ "java/lang/invoke/VarHandle") (hc : z.cls = y.cls) (ws : (Jvm.Cond.selects C y' z).before a0 Z = true) (wi : (Jvm.Cond.instanceMethod y).before a0 Z = true) : (Jvm.Cond.sameMethod y.cls y.cls y.name y.desc).before a0 Z = true := by
  obtain ⟨mk, methM, hnamed, -⟩ := Cond.instanceMethod_spec wi
  obtain ⟨c2, r2, m2, -, -, q3, -, kP, hkP, hkPi⟩ := Cond.selects_spec ws
  have f1 := findClass_of_methodNamed hnamed
  have f2 := findClass_of_methodNamed q3
  rw [hc] at f2
  have e : m2.cls = mk.cls := Option.some.inj (f2.symm.trans f1)
  have f3 : Z.methodFound? y.cls y.name y.desc = some mk := State.methodFound?_of_named hnamed hy
  have f4 : Z.methodNamed? (⟨y.cls, y.name, y.desc⟩ : MethodName) = some mk := hnamed
  rw [e] at hkP
  simp [Cond.before, Cond.holds, Cond.value, f1, f3, f4, hkP, hkPi]
theorem own_su (X : Stand p l e R s m args below meth c T locs cells slots) (hx : p.tables.exec = Jvm.exec) (hZ : Z.Warmed39 s.vm) {own C : String} {index : Nat} {y : MethodName} {bytes : ByteArray} {maxL : Nat} {ret : Option FieldType}
    (hown : s.vm.findClass own = some m.cls) (w1 : (Jvm.Cond.methodLink own index y).before a0 Z = true) (w2 : (Jvm.Cond.sameMethod y.cls y.cls y.name y.desc).before a0 Z = true) (w3 : (Jvm.Cond.instanceMethod y).before a0 Z = true) (w4 : (Jvm.Cond.superclass own y.cls).before a0 Z = true) (hn : y.name ≠ "<init>") (w5 : (Jvm.Cond.code y bytes maxL ret).before a0 Z = true)
    {W kc ks : Nat} {as' : Array Value} {Q : Option Value → Heap → List Loc → Prop}
    (hK : Back l R p e below s args y 3 W (fun A a => a = as' ∧ A.U.heap = h ∧ A.cells + kc ≤ R.cells ∧ A.slots + ks ≤ R.slots) (fun A _ v B => ∃ L, Q v B.U.heap L ∧ B.locs = A.locs ++ L ∧ B.cells = A.cells + kc ∧ B.slots = A.slots + ks))
    (eT : T.heap = h) {b : Addr} (E : Exa Z h b C) {g : JFrame} (hg : g.method = m) (hsize : g.locals.size = c.maxLocals) {argsL rest : List Value} (ha : (.ref b :: argsL).toArray = as') (hlen : ∀ sig, parseMethodDescriptor y.desc = some sig → argsL.length = sig.parameters.length)
    (hstack : g.stack = argsL.reverse ++ .ref b :: rest) (hW : 2 * g.monitorRoom + (rest.map fun v => v.category).sum ≤ W) (hdg : decode c.code g.pc = .ok (.invokespecial index, 3)) (hc : cells + kc ≤ R.cells) (hs : slots + ks ≤ R.slots) :
    ∃ (v : Option Value) (T' : State) (L : List Loc), Stand p l e R s m args below meth c T' (locs ++ L) (cells + kc) (slots + ks) ∧ Q v T'.heap L ∧ ∀ t, Steps p.tables e below (T'.setTop { g with pc := g.pc + 3, stack := v.toList ++ rest }) t → Steps p.tables e below (T.setTop g) t := by
  obtain ⟨v, vm₁, ⟨T', L', k', n'⟩, -, X', ⟨L, hq, hl, hk, hn'⟩, st⟩ := superBack X hx hZ hown w1 w2 w3 w4 hn hK eT (Ins.self E) hg hsize w5 hlen hstack hW hdg (fun _ _ => ⟨ha, eT, hc, hs⟩)
  dsimp only [Pt.U, Pt.locs, Pt.cells, Pt.slots] at X' hq hl hk hn' st
  subst hl hk hn'
  exact ⟨v, T', L, X', hq, fun _ k => st.trans k⟩
end Own

theorem own_i2c (x : Int32) : nar .char (x.toUInt32.toUInt16.toUInt32.toInt32) = x.toUInt32.toUInt16.toUInt32.toInt32 := by
  have a := c_i2c x
  have b := c_i2c (x.toUInt32.toUInt16.toUInt32.toInt32)
  apply Int32.toInt_inj.mp
  show ((x.toUInt32.toUInt16.toUInt32.toInt32).toUInt32.toUInt16.toUInt32.toInt32).toInt = _
  omega
theorem own_i2b (x : Int32) : nar .byte (x.toInt8.toInt32) = x.toInt8.toInt32 := by
  simp [nar]
theorem own_c255 (x : Int32) : ¬ (x &&& (255 : Int32)) < 0 ∧ ¬ (255 : Int32) < (x &&& (255 : Int32)) := by
  have a := c_and x 255 (by decide)
  have e : (255 : Int32).toInt = 255 := rfl
  have z : (0 : Int32).toInt = 0 := rfl
  rw [Int32.lt_iff_toInt_lt, Int32.lt_iff_toInt_lt]
  omega
theorem own_and255 (x : Int32) : ¬ ((x &&& (255 : Int32)).toUInt32.toUInt16.toUInt32.toInt32) < 0 ∧ ¬ (255 : Int32) < ((x &&& (255 : Int32)).toUInt32.toUInt16.toUInt32.toInt32) := by
  rw [i2c_mask]; exact own_c255 x
theorem own_narc {x : Int32} (h1 : ¬ x < (0 : Int32)) (h2 : ¬ (255 : Int32) < x) : nar .char x = x := by
  have a := c_i2c x
  have e : (255 : Int32).toInt = 255 := rfl
  have z : (0 : Int32).toInt = 0 := rfl
  rw [Int32.lt_iff_toInt_lt] at h1 h2
  apply Int32.toInt_inj.mp
  show x.toUInt32.toUInt16.toUInt32.toInt32.toInt = x.toInt
  omega
theorem own_one {x : Int32} (h1 : ¬ x < (0 : Int32)) (h2 : ¬ (255 : Int32) < x) : ∀ c ∈ ([x] : List Int32), ¬ c < 0 ∧ ¬ (255 : Int32) < c := fun c hc => by rw [List.mem_singleton.mp hc]; exact ⟨h1, h2⟩
/-- the String at a spells cs (Latin-1) -/
def own_Str (Z : State) (h : Heap) (a : Addr) (cs : List Int32) : Prop := ∃ (t : Addr) (kb : ClassId), Exa Z h a "java/lang/String" ∧ Fld Z h a "java/lang/String" "value" "[B" (.ref t) ∧ Fld Z h a "java/lang/String" "coder" "B" (.int 0) ∧ Arv Z h t kb .byte (Int32.ofNat cs.length) ((cs.map fun c => c.toInt8.toInt32).map Value.int) (.int 0) ∧ (∀ c ∈ cs, ¬ c < 0 ∧ ¬ (255 : Int32) < c) ∧ cs.length ≤ 4000
theorem own_Str_keep {Z : State} {h h' : Heap} {a : Addr} {cs : List Int32} (F : own_Str Z h a cs) (K : Keep h h' []) : own_Str Z h' a cs := by
  obtain ⟨t, kb, E, V, C, A, r⟩ := F
  exact ⟨t, kb, E.keep K, V.keep K nin0, C.keep K nin0, A.keep K nin0, r⟩
theorem own_up {cs : List Int32} (h : ∀ c ∈ cs, ¬ c < 0 ∧ ¬ (255 : Int32) < c) : ∀ c ∈ cs, ¬ c < 0 ∧ ¬ (65535 : Int32) < c := fun c hc => ⟨(h c hc).1, fun q => (h c hc).2 (by rw [Int32.lt_iff_toInt_lt] at q ⊢; have e1 : (65535 : Int32).toInt = 65535 := rfl; have e2 : (255 : Int32).toInt = 255 := rfl; omega)⟩
set_option maxRecDepth 65536 in
theorem own_hws_in : ∀ d ∈ StrChars.Road.words, d ∈ tables_1 := by decide +kernel
theorem own_hws {Z : State} {a0 : Array Value} (hw : ∀ d ∈ tables_1, d.before a0 Z = true) : ∀ d ∈ StrChars.Road.words, d.before a0 Z = true := fun d hd => hw d (own_hws_in d hd)
section OwnAL
variable {p : Program} {l : Launch} {e : Env} {R : Room} {s : State} {m : MethodId} {args : Array Value} {below : List Frame} {meth : Method} {c : Code} {T : State} {locs : List Loc} {cells slots : Nat} {Z : State} {a0 : Array Value} {h : Heap}
/-- the Class object of C has been made: it is mr -/
def own_Mir (Z : State) (C : String) (mr : Addr) : Prop := ∃ (c : ClassId) (k : Class), Z.vm.findClass C = some c ∧ Z.vm.classes[c]? = some k ∧ k.mirror = some mr
theorem own_gcls (X : Stand p l e R s m args below meth c T locs cells slots) (hx : p.tables.exec = Jvm.exec) (hZ : Z.Warmed39 s.vm) {own C : String} {index : Nat} (hown : s.vm.findClass own = some m.cls)
    (w1 : (Jvm.Cond.methodLink own index ⟨"java/lang/Object", "getClass", "()Ljava/lang/Class;"⟩).before a0 Z = true) (w2 : (Jvm.Cond.declares ⟨"java/lang/Object", "getClass", "()Ljava/lang/Class;"⟩).before a0 Z = true) (w3 : (Jvm.Cond.noSuperclass "java/lang/Object").before a0 Z = true) (w4 : (Jvm.Cond.selects C ⟨"java/lang/Object", "getClass", "()Ljava/lang/Class;"⟩ ⟨"java/lang/Object", "getClass", "()Ljava/lang/Class;"⟩).before a0 Z = true)
    (w5 : (Jvm.Cond.instanceMethod ⟨"java/lang/Object", "getClass", "()Ljava/lang/Class;"⟩).before a0 Z = true) (w6 : (Jvm.Cond.native ⟨"java/lang/Object", "getClass", "()Ljava/lang/Class;"⟩).before a0 Z = true) (eT : T.heap = h) {a : Addr} (E : Exa Z h a C) {mr : Addr} (M : own_Mir Z C mr)
    {g : JFrame} (hg : g.method = m) (hsize : g.locals.size = c.maxLocals) {rest : List Value} (hs : g.stack = .ref a :: rest) (hd : decode c.code g.pc = .ok (.invokevirtual index, 3)) (hf : 1 ≤ R.frames) {W : Nat} (hW : 2 * g.monitorRoom + (rest.map fun v => v.category).sum ≤ W) (hl : W + (nativeFrameWords "java/lang/Object" "getClass" 1 + 11) ≤ R.locals) :
    ∃ T', Stand p l e R s m args below meth c T' locs cells slots ∧ T'.heap = h ∧ ∀ target, Steps p.tables e below (T'.setTop { g with pc := g.pc + 3, stack := .ref mr :: rest }) target → Steps p.tables e below (T.setTop g) target := by
  obtain ⟨cB, kB, i1, i2, i3⟩ := isOf hZ eT E
  obtain ⟨cc, kc, m1, m2, m3⟩ := M
  rw [hZ.alike.findClass] at i1
  cases i1.symm.trans m1
  obtain ⟨k', q, ek⟩ := hZ.alike.2.2 _ _ m2
  obtain ⟨vm', X', st⟩ := X.getClassOf hx hown (mvT hZ w1) (mvT hZ w2) (nf_top (args := #[]) (mvT hZ w3)) (mvT hZ w4) (mvT hZ w5) (mvT hZ w6) (by rw [hZ.alike.findClass]; exact m1) i3 q (by rw [ek]; exact m3) hg hsize hs hd hf (by omega)
  exact ⟨_, X', eT, st⟩
theorem own_ldcM (X : Stand p l e R s m args below meth c T locs cells slots) (hx : p.tables.exec = Jvm.exec) (hZ : Z.Warmed39 s.vm) {own C : String} {index : Nat} (hown : s.vm.findClass own = some m.cls) (w : (Jvm.Cond.classLink own index C).before a0 Z = true) {mr : Addr} (M : own_Mir Z C mr) (eT : T.heap = h)
    {g : JFrame} (hg : g.method = m) (hd : decode c.code g.pc = .ok (.ldc index, 2)) :
    ∃ T', Stand p l e R s m args below meth c T' locs cells slots ∧ T'.heap = h ∧ ∀ target, Steps p.tables e below (T'.setTop { g with pc := g.pc + 2, stack := .ref mr :: g.stack }) target → Steps p.tables e below (T.setTop g) target := by
  obtain ⟨cc, kc, m1, m2, m3⟩ := M
  obtain ⟨k', q, ek⟩ := hZ.alike.2.2 _ _ m2
  have f : s.vm.findClass C = some cc := by rw [hZ.alike.findClass]; exact m1
  have m4 : k'.mirror = some mr := by rw [ek]; exact m3
  obtain ⟨vm', X', st⟩ := X.ldcMirror (a := mr) hx hown (mvT hZ w) (by simp [Term.eval, f, q, m4]) hg hd
  exact ⟨_, X', eT, st⟩
theorem own_spN (X : Stand p l e R s m args below meth c T locs cells slots) (hx : p.tables.exec = Jvm.exec) (hZ : Z.Warmed39 s.vm) {own host : String} {index : Nat} {y : MethodName} {bytes : ByteArray} {maxL : Nat} (hy1 : y.name = "<init>")
    (hown : s.vm.findClass own = some m.cls) (w1 : (Jvm.Cond.methodLinkNest own index y host).before a0 Z = true) (w2 : (Jvm.Cond.instanceMethod y).before a0 Z = true) (w4 : (Jvm.Cond.code y bytes maxL none).before a0 Z = true)
    (hy : y.cls ≠ "java/lang/invoke/MethodHandle" ∧ y.cls ≠ "java/lang/invoke/VarHandle") {W kc ks : Nat} {as' : Array Value} {Q : Option Value → Heap → List Loc → Prop}
    (hK : Back l R p e below s args y 3 W (fun A a => a = as' ∧ A.U.heap = h ∧ A.cells + kc ≤ R.cells ∧ A.slots + ks ≤ R.slots) (fun A _ v B => ∃ L, Q v B.U.heap L ∧ B.locs = A.locs ++ L ∧ B.cells = A.cells + kc ∧ B.slots = A.slots + ks))
    (eT : T.heap = h) {g : JFrame} (hg : g.method = m) (hsize : g.locals.size = c.maxLocals) {a : Addr} {argsL rest : List Value} (ha : (.ref a :: argsL).toArray = as') (hlen : ∀ sig, parseMethodDescriptor y.desc = some sig → argsL.length = sig.parameters.length)
    (hstack : g.stack = argsL.reverse ++ .ref a :: rest) (hW : 2 * g.monitorRoom + (rest.map fun v => v.category).sum ≤ W) (hdg : decode c.code g.pc = .ok (.invokespecial index, 3)) (hc : cells + kc ≤ R.cells) (hs : slots + ks ≤ R.slots) :
    ∃ (v : Option Value) (T' : State) (L : List Loc), Stand p l e R s m args below meth c T' (locs ++ L) (cells + kc) (slots + ks) ∧ Q v T'.heap L ∧ ∀ t, Steps p.tables e below (T'.setTop { g with pc := g.pc + 3, stack := v.toList ++ rest }) t → Steps p.tables e below (T.setTop g) t := by
  obtain ⟨v, vm₁, ⟨T', L', k', n'⟩, -, X', ⟨L, hq, hl, hk, hn⟩, st⟩ := X.specialBackNest hx hy1 hown (Cond.methodLinkNest_wide hZ w1 :) (mvT hZ w2) (mvT hZ w4) hy hK hg hsize (Steps.refl _) hlen hstack hW hdg (fun _ _ => ⟨ha, eT, hc, hs⟩)
  dsimp only [Pt.U, Pt.locs, Pt.cells, Pt.slots] at X' hq hl hk hn st
  subst hl hk hn
  exact ⟨v, T', L, X', hq, fun _ k => st.trans k⟩
end OwnAL
theorem own_and3 (x : Int32) : x &&& (3 : Int32) = (0 : Int32) ∨ x &&& (3 : Int32) = (1 : Int32) ∨ x &&& (3 : Int32) = (2 : Int32) ∨ x &&& (3 : Int32) = (3 : Int32) := by
  have a := c_and x 3 (by decide)
  have e3 : (3 : Int32).toInt = 3 := rfl
  generalize x &&& (3 : Int32) = z at a ⊢
  have t1 : (1 : Int32).toInt = 1 := rfl
  have t2 : (2 : Int32).toInt = 2 := rfl
  have t0 : (0 : Int32).toInt = 0 := rfl
  have h : z.toInt = 0 ∨ z.toInt = 1 ∨ z.toInt = 2 ∨ z.toInt = 3 := by omega
  rcases h with h | h | h | h
  · exact Or.inl (Int32.toInt_inj.mp (by rw [h, t0]))
  · exact Or.inr (Or.inl (Int32.toInt_inj.mp (by rw [h, t1])))
  · exact Or.inr (Or.inr (Or.inl (Int32.toInt_inj.mp (by rw [h, t2]))))
  · exact Or.inr (Or.inr (Or.inr (Int32.toInt_inj.mp (by rw [h, e3]))))
theorem own_exa_v {s : State} {args : Array Value} {t : Term} {C : String} (h : (Jvm.Cond.exactly t C).value args s none s [] = some true) : ∃ a, t.eval args s none [] s = some (.ref a) := by
  obtain ⟨a', c', cell, k, e1, -⟩ := Cond.exactly_spec (Cond.before_iff.mpr h)
  exact ⟨a', e1⟩
theorem own_len0 {s : State} {args : Array Value} {t : Term} {a : Addr} {c : Cell} {ty : FieldType} (ev : t.eval args s none [] s = some (.ref a)) (A : Arr s s.heap a c ty) (h : (Jvm.Cond.eq (.length t) (.int (0 : Int32))).value args s none s [] = some true) : c.slots.size = 0 := by
  have ha : s.arrayAt? a = some c := A.fin (Vm.Alike.refl _)
  by_cases q : c.slots.size < 2 ^ 31
  · have e := gotT (Cond.eq_ints (len_f ev ha q) (Term.int_eval 0)) h
    have e2 := congrArg Int32.toInt e
    rw [len_toInt q] at e2
    have z : (0 : Int32).toInt = 0 := rfl
    omega
  · exfalso
    have e : (Term.length t).eval args s none [] s = none := by simp [Term.eval, ev, ha, q]
    simp [Cond.value, e] at h
theorem own_arv0 {s : State} {args : Array Value} {t : Term} {a : Addr} {c : Cell} {ty : FieldType} (hf : Fit s) (ev : t.eval args s none [] s = some (.ref a)) (A : Arr s s.heap a c ty) (h : (Jvm.Cond.eq (.length t) (.int (0 : Int32))).value args s none s [] = some true) {d : Value} : Arv s s.heap a c.cls ty (0 : Int32) [] d := by
  have e := own_len0 ev A h
  exact Arv.start hf A (by omega) (by rw [e]; rfl) (by decide) rfl trivial

theorem own_d19_0 : decode jdk_30_method_1_code 0 = .ok (.aload_n 0, 1) := by decide +kernel
theorem own_d19_1 : decode jdk_30_method_1_code 1 = .ok (.invokespecial 1, 3) := by decide +kernel
theorem own_d19_4 : decode jdk_30_method_1_code 4 = .ok (.return_, 1) := by decide +kernel
theorem own_pn0 : plainName "java/lang/Record" = true := by decide +kernel
set_option maxHeartbeats 4000000 in
theorem own_ef_rm19 (m : MethodId) (x0 : Addr) : entryFrame m #[(.ref x0)] 1 = mkF m 0 #[.val (.ref x0)] [] := by rfl
set_option maxRecDepth 65536 in
set_option maxHeartbeats 40000000 in
theorem rm19 (l : Launch) (Z : State) (a0 : Array Value) (hw : ∀ d ∈ tables_1, d.before a0 Z = true) (z0 : Int32) (O2 : Sta Z Z.heap "java/lang/String" "COMPACT_STRINGS" "Z" (.int z0)) (P5 : ¬ z0 = (0 : Int32)) (dd : Addr) (kd : ClassId) (O_dd : Sta Z Z.heap "java/util/ArrayList" "DEFAULTCAPACITY_EMPTY_ELEMENTDATA" "[Ljava/lang/Object;" (.ref dd)) (V_dd : Arv Z Z.heap dd kd (.object "java/lang/Object") (0 : Int32) [] .null) (mr : Addr) (M_mr : own_Mir Z "[Ljava/lang/Object;" mr) (el : Addr) (O_el : Sta Z Z.heap "java/util/ImmutableCollections" "EMPTY_LIST" "Ljava/util/ImmutableCollections$ListN;" (.ref el)) (em : Addr) (O_em : Sta Z Z.heap "java/util/ImmutableCollections" "EMPTY" "Ljava/lang/Object;" (.ref em)) (ws : List Jvm.Cond) (a : Addr) (h0 : Heap) (n0 : Nat) (Z0 : n0 ≤ h0.size) :
    own_MetN l Z (⟨"java/lang/Record", "<init>", "()V"⟩ : MethodName) jdk_30_method_1_code 1 none ws ({ frames := 1, cells := 0, slots := 0, locals := 12 } : Room) #[(.ref a)] h0 (fun v h L => Fr n0 L ∧ h = h0 ∧ (((v = none)))) := by
  refine own_metN (plainFor_of_name own_pn0) ?_
  intro p e s m below meth c s₁ G hx hby hml hZ hown hnm hret X0 e0 go fin
  have N0 := Fr.nil n0
  refine go _ _ (fun _ k => castTop (own_ef_rm19 m a) k) ?_
  show G (s₁.setTop (mkF m 0 #[.val (.ref a)] []))
  refine go _ _ (fun _ k => XS.aloadN X0.here hx rfl (hb hby own_d19_0) rfl rfl k) ?_
  show G (s₁.setTop (mkF m 1 #[.val (.ref a)] [(.ref a)]))
  obtain ⟨T101, X101, e101, st101⟩ := initO X0 hx hZ hown (ow hw 110 rfl) (ow hw 19 rfl) (ow hw 20 rfl) e0 (g := (mkF m 1 #[.val (.ref a)] [(.ref a)])) rfl (by rw [hml]; rfl) rfl (hb hby own_d19_1) (by decide) (W := 0) (by show 2 * 0 + _ ≤ _; exact Nat.le_of_eq rfl) (by decide)
  refine go _ _ (st101) ?_
  show G (T101.setTop (mkF m 4 #[.val (.ref a)] []))
  refine fin T101 _ _ _ none X101 (fun _ => rfl) (by decide) (by decide) (by rw [e101]; exact ⟨N0, rfl, rfl⟩) _ (own_retV X101 hx hret (hb hby own_d19_4))
theorem own_d2_0 : decode jdk_22_method_1_code 0 = .ok (.aload_n 0, 1) := by decide +kernel
theorem own_d2_1 : decode jdk_22_method_1_code 1 = .ok (.invokespecial 1, 3) := by decide +kernel
theorem own_d2_4 : decode jdk_22_method_1_code 4 = .ok (.return_, 1) := by decide +kernel
theorem own_pn1 : plainName "java/util/AbstractCollection" = true := by decide +kernel
set_option maxHeartbeats 4000000 in
theorem own_ef_rm2 (m : MethodId) (x0 : Addr) : entryFrame m #[(.ref x0)] 1 = mkF m 0 #[.val (.ref x0)] [] := by rfl
set_option maxRecDepth 65536 in
set_option maxHeartbeats 40000000 in
theorem rm2 (l : Launch) (Z : State) (a0 : Array Value) (hw : ∀ d ∈ tables_1, d.before a0 Z = true) (z0 : Int32) (O2 : Sta Z Z.heap "java/lang/String" "COMPACT_STRINGS" "Z" (.int z0)) (P5 : ¬ z0 = (0 : Int32)) (dd : Addr) (kd : ClassId) (O_dd : Sta Z Z.heap "java/util/ArrayList" "DEFAULTCAPACITY_EMPTY_ELEMENTDATA" "[Ljava/lang/Object;" (.ref dd)) (V_dd : Arv Z Z.heap dd kd (.object "java/lang/Object") (0 : Int32) [] .null) (mr : Addr) (M_mr : own_Mir Z "[Ljava/lang/Object;" mr) (el : Addr) (O_el : Sta Z Z.heap "java/util/ImmutableCollections" "EMPTY_LIST" "Ljava/util/ImmutableCollections$ListN;" (.ref el)) (em : Addr) (O_em : Sta Z Z.heap "java/util/ImmutableCollections" "EMPTY" "Ljava/lang/Object;" (.ref em)) (ws : List Jvm.Cond) (a : Addr) (h0 : Heap) (n0 : Nat) (Z0 : n0 ≤ h0.size) :
    own_MetN l Z (⟨"java/util/AbstractCollection", "<init>", "()V"⟩ : MethodName) jdk_22_method_1_code 1 none ws ({ frames := 1, cells := 0, slots := 0, locals := 12 } : Room) #[(.ref a)] h0 (fun v h L => Fr n0 L ∧ h = h0 ∧ (((v = none)))) := by
  refine own_metN (plainFor_of_name own_pn1) ?_
  intro p e s m below meth c s₁ G hx hby hml hZ hown hnm hret X0 e0 go fin
  have N0 := Fr.nil n0
  refine go _ _ (fun _ k => castTop (own_ef_rm2 m a) k) ?_
  show G (s₁.setTop (mkF m 0 #[.val (.ref a)] []))
  refine go _ _ (fun _ k => XS.aloadN X0.here hx rfl (hb hby own_d2_0) rfl rfl k) ?_
  show G (s₁.setTop (mkF m 1 #[.val (.ref a)] [(.ref a)]))
  obtain ⟨T101, X101, e101, st101⟩ := initO X0 hx hZ hown (ow hw 18 rfl) (ow hw 19 rfl) (ow hw 20 rfl) e0 (g := (mkF m 1 #[.val (.ref a)] [(.ref a)])) rfl (by rw [hml]; rfl) rfl (hb hby own_d2_1) (by decide) (W := 0) (by show 2 * 0 + _ ≤ _; exact Nat.le_of_eq rfl) (by decide)
  refine go _ _ (st101) ?_
  show G (T101.setTop (mkF m 4 #[.val (.ref a)] []))
  refine fin T101 _ _ _ none X101 (fun _ => rfl) (by decide) (by decide) (by rw [e101]; exact ⟨N0, rfl, rfl⟩) _ (own_retV X101 hx hret (hb hby own_d2_4))
theorem own_d1_0 : decode jdk_39_method_1_code 0 = .ok (.aload_n 0, 1) := by decide +kernel
theorem own_d1_1 : decode jdk_39_method_1_code 1 = .ok (.invokespecial 1, 3) := by decide +kernel
theorem own_d1_4 : decode jdk_39_method_1_code 4 = .ok (.aload_n 0, 1) := by decide +kernel
theorem own_d1_5 : decode jdk_39_method_1_code 5 = .ok (.iconst 0, 1) := by decide +kernel
theorem own_d1_6 : decode jdk_39_method_1_code 6 = .ok (.putfield 7, 3) := by decide +kernel
theorem own_d1_9 : decode jdk_39_method_1_code 9 = .ok (.return_, 1) := by decide +kernel
theorem own_pn2 : plainName "java/util/AbstractList" = true := by decide +kernel
theorem own_pd0 : parseMethodDescriptor "()V" = some ⟨[], none⟩ := by decide +kernel
set_option maxHeartbeats 4000000 in
theorem own_ef_rm1 (m : MethodId) (x0 : Addr) : entryFrame m #[(.ref x0)] 1 = mkF m 0 #[.val (.ref x0)] [] := by rfl
set_option maxRecDepth 65536 in
set_option maxHeartbeats 40000000 in
theorem rm1 (l : Launch) (Z : State) (a0 : Array Value) (hw : ∀ d ∈ tables_1, d.before a0 Z = true) (z0 : Int32) (O2 : Sta Z Z.heap "java/lang/String" "COMPACT_STRINGS" "Z" (.int z0)) (P5 : ¬ z0 = (0 : Int32)) (dd : Addr) (kd : ClassId) (O_dd : Sta Z Z.heap "java/util/ArrayList" "DEFAULTCAPACITY_EMPTY_ELEMENTDATA" "[Ljava/lang/Object;" (.ref dd)) (V_dd : Arv Z Z.heap dd kd (.object "java/lang/Object") (0 : Int32) [] .null) (mr : Addr) (M_mr : own_Mir Z "[Ljava/lang/Object;" mr) (el : Addr) (O_el : Sta Z Z.heap "java/util/ImmutableCollections" "EMPTY_LIST" "Ljava/util/ImmutableCollections$ListN;" (.ref el)) (em : Addr) (O_em : Sta Z Z.heap "java/util/ImmutableCollections" "EMPTY" "Ljava/lang/Object;" (.ref em)) (ws : List Jvm.Cond) (a : Addr) (h0 : Heap) (n0 : Nat) (Z0 : n0 ≤ h0.size) (Ea : Exa Z h0 a "java/util/ArrayList") (Fm : Fld Z h0 a "java/util/AbstractList" "modCount" "I" (.int (0 : Int32))) (Fe : Fld Z h0 a "java/util/ArrayList" "elementData" "[Ljava/lang/Object;" .null) (Fs : Fld Z h0 a "java/util/ArrayList" "size" "I" (.int (0 : Int32))) (gz_a : n0 ≤ a) :
    own_MetN l Z (⟨"java/util/AbstractList", "<init>", "()V"⟩ : MethodName) jdk_39_method_1_code 1 none ws ({ frames := 2, cells := 0, slots := 0, locals := 24 } : Room) #[(.ref a)] h0 (fun v h L => Fr n0 L ∧ Keep h0 h [a] ∧ (((v = none) ∧ (Exa Z h a "java/util/ArrayList") ∧ (Fld Z h a "java/util/AbstractList" "modCount" "I" (.int (0 : Int32))) ∧ (Fld Z h a "java/util/ArrayList" "elementData" "[Ljava/lang/Object;" .null) ∧ (Fld Z h a "java/util/ArrayList" "size" "I" (.int (0 : Int32)))))) := by
  refine own_metN (plainFor_of_name own_pn2) ?_
  intro p e s m below meth c s₁ G hx hby hml hZ hown hnm hret X0 e0 go fin
  have N0 := Fr.nil n0
  refine go _ _ (fun _ k => castTop (own_ef_rm1 m a) k) ?_
  show G (s₁.setTop (mkF m 0 #[.val (.ref a)] []))
  refine go _ _ (fun _ k => XS.aloadN X0.here hx rfl (hb hby own_d1_0) rfl rfl k) ?_
  show G (s₁.setTop (mkF m 1 #[.val (.ref a)] [(.ref a)]))
  obtain ⟨rv101, T101, L101, X101, q101, st101⟩ := own_sp X0 hx hZ (y := (⟨"java/util/AbstractCollection", "<init>", "()V"⟩ : MethodName)) rfl hown (ow hw 12 rfl) (ow hw 13 rfl) (ow hw 17 rfl) (by decide) (own_bkN (W := 0) (rm2 l Z a0 hw z0 O2 P5 dd kd O_dd V_dd mr M_mr el O_el em O_em [] a h0 n0 Z0) hZ (ow hw 17 rfl) (ow hw 16 rfl) (by decide) (by decide)) e0 (g := (mkF m 1 #[.val (.ref a)] [(.ref a)])) rfl (by rw [hml]; rfl) (a := a) (argsL := []) (rest := []) rfl (lenOf own_pd0 rfl) rfl (by show 2 * 0 + _ ≤ _; exact Nat.le_of_eq rfl) (hb hby own_d1_1) (by decide) (by decide)
  obtain ⟨Nq101, e101, rfl⟩ := q101
  have N101 := Fr.app N0 Nq101
  refine go _ _ (st101) ?_
  show G (T101.setTop (mkF m 4 #[.val (.ref a)] []))
  refine go _ _ (fun _ k => XS.aloadN X101.here hx rfl (hb hby own_d1_4) rfl rfl (XS.iconst X101.here hx rfl (hb hby own_d1_5) k)) ?_
  show G (T101.setTop (mkF m 6 #[.val (.ref a)] [(.int (0 : Int32)), (.ref a)]))
  obtain ⟨T102, h102, X102, e102, W102, st102⟩ := putF X101 hx hZ hown (host := "") (Or.inl (ow hw 21 rfl)) Via.refl e101 Fm Ea (Or.inl (ow hw 22 rfl)) (ow hw 1 rfl) (ty := .int) (by decide) rfl rfl (g := (mkF m 6 #[.val (.ref a)] [(.int (0 : Int32)), (.ref a)])) rfl rfl (hb hby own_d1_6)
  have N102 := Fr.snoc X102 N101 gz_a
  refine go _ _ (st102) ?_
  show G (T102.setTop (mkF m 9 #[.val (.ref a)] []))
  have K103 : Keep h0 h102 [a] := (Keep.refl h0 [a]).wr W102 (Or.inl (List.mem_of_getElem? (i := 0) rfl))
  refine fin T102 _ _ _ none X102 (fun _ => rfl) (by decide) (by decide) (by rw [e102]; exact ⟨N102, K103, ⟨rfl, (Ea.wr W102), (Fm.same W102), (Fe.other W102 (Or.inr (RoadKit.slot_ne (t := (.array (.object "java/lang/Object"))) (t' := .int) (Or.inl (ow hw 25 rfl)) (Or.inl (ow hw 22 rfl)) (by decide) (by decide) (by decide)))), (Fs.other W102 (Or.inr (RoadKit.slot_ne (t := .int) (t' := .int) (Or.inl (ow hw 58 rfl)) (Or.inl (ow hw 22 rfl)) (by decide) (by decide) (by decide))))⟩⟩) _ (own_retV X102 hx hret (hb hby own_d1_9))
theorem own_d0_0 : decode jdk_38_method_2_code 0 = .ok (.aload_n 0, 1) := by decide +kernel
theorem own_d0_1 : decode jdk_38_method_2_code 1 = .ok (.invokespecial 1, 3) := by decide +kernel
theorem own_d0_4 : decode jdk_38_method_2_code 4 = .ok (.aload_n 0, 1) := by decide +kernel
theorem own_d0_5 : decode jdk_38_method_2_code 5 = .ok (.getstatic 39, 3) := by decide +kernel
theorem own_d0_8 : decode jdk_38_method_2_code 8 = .ok (.putfield 9, 3) := by decide +kernel
theorem own_d0_11 : decode jdk_38_method_2_code 11 = .ok (.return_, 1) := by decide +kernel
theorem own_pn3 : plainName "java/util/ArrayList" = true := by decide +kernel
set_option maxHeartbeats 4000000 in
theorem own_ef_rm0 (m : MethodId) (x0 : Addr) : entryFrame m #[(.ref x0)] 1 = mkF m 0 #[.val (.ref x0)] [] := by rfl
set_option maxRecDepth 65536 in
set_option maxHeartbeats 40000000 in
theorem rm0 (l : Launch) (Z : State) (a0 : Array Value) (hw : ∀ d ∈ tables_1, d.before a0 Z = true) (z0 : Int32) (O2 : Sta Z Z.heap "java/lang/String" "COMPACT_STRINGS" "Z" (.int z0)) (P5 : ¬ z0 = (0 : Int32)) (dd : Addr) (kd : ClassId) (O_dd : Sta Z Z.heap "java/util/ArrayList" "DEFAULTCAPACITY_EMPTY_ELEMENTDATA" "[Ljava/lang/Object;" (.ref dd)) (V_dd : Arv Z Z.heap dd kd (.object "java/lang/Object") (0 : Int32) [] .null) (mr : Addr) (M_mr : own_Mir Z "[Ljava/lang/Object;" mr) (el : Addr) (O_el : Sta Z Z.heap "java/util/ImmutableCollections" "EMPTY_LIST" "Ljava/util/ImmutableCollections$ListN;" (.ref el)) (em : Addr) (O_em : Sta Z Z.heap "java/util/ImmutableCollections" "EMPTY" "Ljava/lang/Object;" (.ref em)) (ws : List Jvm.Cond) (a : Addr) (h0 : Heap) (n0 : Nat) (Z0 : n0 ≤ h0.size) (Xo : Old Z n0 h0) (Ea : Exa Z h0 a "java/util/ArrayList") (Fm : Fld Z h0 a "java/util/AbstractList" "modCount" "I" (.int (0 : Int32))) (Fe : Fld Z h0 a "java/util/ArrayList" "elementData" "[Ljava/lang/Object;" .null) (Fs : Fld Z h0 a "java/util/ArrayList" "size" "I" (.int (0 : Int32))) (gz_a : n0 ≤ a) :
    own_MetN l Z (⟨"java/util/ArrayList", "<init>", "()V"⟩ : MethodName) jdk_38_method_2_code 1 none ws ({ frames := 3, cells := 0, slots := 0, locals := 36 } : Room) #[(.ref a)] h0 (fun v h L => Fr n0 L ∧ Keep h0 h [a] ∧ (((v = none) ∧ (Exa Z h a "java/util/ArrayList") ∧ (Fld Z h a "java/util/AbstractList" "modCount" "I" (.int (0 : Int32))) ∧ (Fld Z h a "java/util/ArrayList" "elementData" "[Ljava/lang/Object;" (.ref dd)) ∧ (Fld Z h a "java/util/ArrayList" "size" "I" (.int (0 : Int32)))))) := by
  refine own_metN (plainFor_of_name own_pn3) ?_
  intro p e s m below meth c s₁ G hx hby hml hZ hown hnm hret X0 e0 go fin
  have N0 := Fr.nil n0
  refine go _ _ (fun _ k => castTop (own_ef_rm0 m a) k) ?_
  show G (s₁.setTop (mkF m 0 #[.val (.ref a)] []))
  refine go _ _ (fun _ k => XS.aloadN X0.here hx rfl (hb hby own_d0_0) rfl rfl k) ?_
  show G (s₁.setTop (mkF m 1 #[.val (.ref a)] [(.ref a)]))
  obtain ⟨rv101, T101, L101, X101, q101, st101⟩ := own_sp X0 hx hZ (y := (⟨"java/util/AbstractList", "<init>", "()V"⟩ : MethodName)) rfl hown (ow hw 6 rfl) (ow hw 7 rfl) (ow hw 11 rfl) (by decide) (own_bkN (W := 0) (rm1 l Z a0 hw z0 O2 P5 dd kd O_dd V_dd mr M_mr el O_el em O_em [] a h0 n0 Z0 Ea Fm Fe Fs gz_a) hZ (ow hw 11 rfl) (ow hw 10 rfl) (by decide) (by decide)) e0 (g := (mkF m 1 #[.val (.ref a)] [(.ref a)])) rfl (by rw [hml]; rfl) (a := a) (argsL := []) (rest := []) rfl (lenOf own_pd0 rfl) rfl (by show 2 * 0 + _ ≤ _; exact Nat.le_of_eq rfl) (hb hby own_d0_1) (by decide) (by decide)
  obtain ⟨Nq101, Kp101, ⟨rfl, f102, f103, f104, f105⟩⟩ := q101
  have N101 := Fr.app N0 Nq101
  refine go _ _ (st101) ?_
  show G (T101.setTop (mkF m 4 #[.val (.ref a)] []))
  refine go _ _ (fun _ k => XS.aloadN X101.here hx rfl (hb hby own_d0_4) rfl rfl k) ?_
  show G (T101.setTop (mkF m 5 #[.val (.ref a)] [(.ref a)]))
  have K107 : Keep h0 T101.heap [a] := (Keep.refl h0 [a]).trans Kp101 (allS (Or.inl (List.mem_of_getElem? (i := 0) rfl)) all0)
  have F108 : Old Z n0 T101.heap := (Xo.keep K107 (allS gz_a all0))
  obtain ⟨T106, X106, e106, st106⟩ := getS2 X101 hx hZ (host := "") hown (Or.inl (ow hw 23 rfl)) Via.refl rfl (O_dd.ext F108.2) (g := (mkF m 5 #[.val (.ref a)] [(.ref a)])) rfl (hb hby own_d0_5)
  refine go _ _ (st106) ?_
  show G (T106.setTop (mkF m 8 #[.val (.ref a)] [(.ref dd), (.ref a)]))
  obtain ⟨T109, h109, X109, e109, W109, st109⟩ := putF X106 hx hZ hown (host := "") (Or.inl (ow hw 24 rfl)) Via.refl e106 f104 f102 (Or.inl (ow hw 25 rfl)) (ow hw 1 rfl) (ty := (.array (.object "java/lang/Object"))) (by decide) rfl rfl (g := (mkF m 8 #[.val (.ref a)] [(.ref dd), (.ref a)])) rfl rfl (hb hby own_d0_8)
  have N109 := Fr.snoc X109 N101 gz_a
  refine go _ _ (st109) ?_
  show G (T109.setTop (mkF m 11 #[.val (.ref a)] []))
  have K110 : Keep h0 h109 [a] := K107.wr W109 (Or.inl (List.mem_of_getElem? (i := 0) rfl))
  refine fin T109 _ _ _ none X109 (fun _ => rfl) (by decide) (by decide) (by rw [e109]; exact ⟨N109, K110, ⟨rfl, (f102.wr W109), (f103.other W109 (Or.inr (RoadKit.slot_ne (t := .int) (t' := (.array (.object "java/lang/Object"))) (Or.inl (ow hw 22 rfl)) (Or.inl (ow hw 25 rfl)) (by decide) (by decide) (by decide)))), (f104.same W109), (f105.other W109 (Or.inr (RoadKit.slot_ne (t := .int) (t' := (.array (.object "java/lang/Object"))) (Or.inl (ow hw 58 rfl)) (Or.inl (ow hw 25 rfl)) (by decide) (by decide) (by decide))))⟩⟩) _ (own_retV X109 hx hret (hb hby own_d0_11))
theorem own_d32_0 : decode jdk_47_method_1_code 0 = .ok (.aload_n 0, 1) := by decide +kernel
theorem own_d32_1 : decode jdk_47_method_1_code 1 = .ok (.invokespecial 1, 3) := by decide +kernel
theorem own_d32_4 : decode jdk_47_method_1_code 4 = .ok (.return_, 1) := by decide +kernel
theorem own_pn4 : plainName "java/util/ImmutableCollections$AbstractImmutableCollection" = true := by decide +kernel
set_option maxHeartbeats 4000000 in
theorem own_ef_rm32 (m : MethodId) (x0 : Addr) : entryFrame m #[(.ref x0)] 1 = mkF m 0 #[.val (.ref x0)] [] := by rfl
set_option maxRecDepth 65536 in
set_option maxHeartbeats 40000000 in
theorem rm32 (l : Launch) (Z : State) (a0 : Array Value) (hw : ∀ d ∈ tables_1, d.before a0 Z = true) (z0 : Int32) (O2 : Sta Z Z.heap "java/lang/String" "COMPACT_STRINGS" "Z" (.int z0)) (P5 : ¬ z0 = (0 : Int32)) (dd : Addr) (kd : ClassId) (O_dd : Sta Z Z.heap "java/util/ArrayList" "DEFAULTCAPACITY_EMPTY_ELEMENTDATA" "[Ljava/lang/Object;" (.ref dd)) (V_dd : Arv Z Z.heap dd kd (.object "java/lang/Object") (0 : Int32) [] .null) (mr : Addr) (M_mr : own_Mir Z "[Ljava/lang/Object;" mr) (el : Addr) (O_el : Sta Z Z.heap "java/util/ImmutableCollections" "EMPTY_LIST" "Ljava/util/ImmutableCollections$ListN;" (.ref el)) (em : Addr) (O_em : Sta Z Z.heap "java/util/ImmutableCollections" "EMPTY" "Ljava/lang/Object;" (.ref em)) (ws : List Jvm.Cond) (a : Addr) (h0 : Heap) (n0 : Nat) (Z0 : n0 ≤ h0.size) :
    own_MetN l Z (⟨"java/util/ImmutableCollections$AbstractImmutableCollection", "<init>", "()V"⟩ : MethodName) jdk_47_method_1_code 1 none ws ({ frames := 2, cells := 0, slots := 0, locals := 24 } : Room) #[(.ref a)] h0 (fun v h L => Fr n0 L ∧ h = h0 ∧ (((v = none)))) := by
  refine own_metN (plainFor_of_name own_pn4) ?_
  intro p e s m below meth c s₁ G hx hby hml hZ hown hnm hret X0 e0 go fin
  have N0 := Fr.nil n0
  refine go _ _ (fun _ k => castTop (own_ef_rm32 m a) k) ?_
  show G (s₁.setTop (mkF m 0 #[.val (.ref a)] []))
  refine go _ _ (fun _ k => XS.aloadN X0.here hx rfl (hb hby own_d32_0) rfl rfl k) ?_
  show G (s₁.setTop (mkF m 1 #[.val (.ref a)] [(.ref a)]))
  obtain ⟨rv101, T101, L101, X101, q101, st101⟩ := own_sp X0 hx hZ (y := (⟨"java/util/AbstractCollection", "<init>", "()V"⟩ : MethodName)) rfl hown (ow hw 193 rfl) (ow hw 13 rfl) (ow hw 17 rfl) (by decide) (own_bkN (W := 0) (rm2 l Z a0 hw z0 O2 P5 dd kd O_dd V_dd mr M_mr el O_el em O_em [] a h0 n0 Z0) hZ (ow hw 17 rfl) (ow hw 16 rfl) (by decide) (by decide)) e0 (g := (mkF m 1 #[.val (.ref a)] [(.ref a)])) rfl (by rw [hml]; rfl) (a := a) (argsL := []) (rest := []) rfl (lenOf own_pd0 rfl) rfl (by show 2 * 0 + _ ≤ _; exact Nat.le_of_eq rfl) (hb hby own_d32_1) (by decide) (by decide)
  obtain ⟨Nq101, e101, rfl⟩ := q101
  have N101 := Fr.app N0 Nq101
  refine go _ _ (st101) ?_
  show G (T101.setTop (mkF m 4 #[.val (.ref a)] []))
  refine fin T101 _ _ _ none X101 (fun _ => rfl) (by decide) (by decide) (by rw [e101]; exact ⟨N101, rfl, rfl⟩) _ (own_retV X101 hx hret (hb hby own_d32_4))
theorem own_d31_0 : decode jdk_46_method_1_code 0 = .ok (.aload_n 0, 1) := by decide +kernel
theorem own_d31_1 : decode jdk_46_method_1_code 1 = .ok (.invokespecial 1, 3) := by decide +kernel
theorem own_d31_4 : decode jdk_46_method_1_code 4 = .ok (.return_, 1) := by decide +kernel
theorem own_pn5 : plainName "java/util/ImmutableCollections$AbstractImmutableList" = true := by decide +kernel
set_option maxHeartbeats 4000000 in
theorem own_ef_rm31 (m : MethodId) (x0 : Addr) : entryFrame m #[(.ref x0)] 1 = mkF m 0 #[.val (.ref x0)] [] := by rfl
set_option maxRecDepth 65536 in
set_option maxHeartbeats 40000000 in
theorem rm31 (l : Launch) (Z : State) (a0 : Array Value) (hw : ∀ d ∈ tables_1, d.before a0 Z = true) (z0 : Int32) (O2 : Sta Z Z.heap "java/lang/String" "COMPACT_STRINGS" "Z" (.int z0)) (P5 : ¬ z0 = (0 : Int32)) (dd : Addr) (kd : ClassId) (O_dd : Sta Z Z.heap "java/util/ArrayList" "DEFAULTCAPACITY_EMPTY_ELEMENTDATA" "[Ljava/lang/Object;" (.ref dd)) (V_dd : Arv Z Z.heap dd kd (.object "java/lang/Object") (0 : Int32) [] .null) (mr : Addr) (M_mr : own_Mir Z "[Ljava/lang/Object;" mr) (el : Addr) (O_el : Sta Z Z.heap "java/util/ImmutableCollections" "EMPTY_LIST" "Ljava/util/ImmutableCollections$ListN;" (.ref el)) (em : Addr) (O_em : Sta Z Z.heap "java/util/ImmutableCollections" "EMPTY" "Ljava/lang/Object;" (.ref em)) (ws : List Jvm.Cond) (a : Addr) (h0 : Heap) (n0 : Nat) (Z0 : n0 ≤ h0.size) :
    own_MetN l Z (⟨"java/util/ImmutableCollections$AbstractImmutableList", "<init>", "()V"⟩ : MethodName) jdk_46_method_1_code 1 none ws ({ frames := 3, cells := 0, slots := 0, locals := 36 } : Room) #[(.ref a)] h0 (fun v h L => Fr n0 L ∧ h = h0 ∧ (((v = none)))) := by
  refine own_metN (plainFor_of_name own_pn5) ?_
  intro p e s m below meth c s₁ G hx hby hml hZ hown hnm hret X0 e0 go fin
  have N0 := Fr.nil n0
  refine go _ _ (fun _ k => castTop (own_ef_rm31 m a) k) ?_
  show G (s₁.setTop (mkF m 0 #[.val (.ref a)] []))
  refine go _ _ (fun _ k => XS.aloadN X0.here hx rfl (hb hby own_d31_0) rfl rfl k) ?_
  show G (s₁.setTop (mkF m 1 #[.val (.ref a)] [(.ref a)]))
  obtain ⟨rv101, T101, L101, X101, q101, st101⟩ := own_sp X0 hx hZ (y := (⟨"java/util/ImmutableCollections$AbstractImmutableCollection", "<init>", "()V"⟩ : MethodName)) rfl hown (ow hw 187 rfl) (ow hw 188 rfl) (ow hw 192 rfl) (by decide) (own_bkN (W := 0) (rm32 l Z a0 hw z0 O2 P5 dd kd O_dd V_dd mr M_mr el O_el em O_em [] a h0 n0 Z0) hZ (ow hw 192 rfl) (ow hw 191 rfl) (by decide) (by decide)) e0 (g := (mkF m 1 #[.val (.ref a)] [(.ref a)])) rfl (by rw [hml]; rfl) (a := a) (argsL := []) (rest := []) rfl (lenOf own_pd0 rfl) rfl (by show 2 * 0 + _ ≤ _; exact Nat.le_of_eq rfl) (hb hby own_d31_1) (by decide) (by decide)
  obtain ⟨Nq101, e101, rfl⟩ := q101
  have N101 := Fr.app N0 Nq101
  refine go _ _ (st101) ?_
  show G (T101.setTop (mkF m 4 #[.val (.ref a)] []))
  refine fin T101 _ _ _ none X101 (fun _ => rfl) (by decide) (by decide) (by rw [e101]; exact ⟨N101, rfl, rfl⟩) _ (own_retV X101 hx hret (hb hby own_d31_4))
theorem own_d29_0 : decode jdk_31_method_10_code 0 = .ok (.aload_n 0, 1) := by decide +kernel
theorem own_d29_1 : decode jdk_31_method_10_code 1 = .ok (.ifnonnull 11, 3) := by decide +kernel
theorem own_d29_4 : decode jdk_31_method_10_code 4 = .ok (.new 84, 3) := by decide +kernel
theorem own_d29_7 : decode jdk_31_method_10_code 7 = .ok (.dup, 1) := by decide +kernel
theorem own_d29_8 : decode jdk_31_method_10_code 8 = .ok (.invokespecial 86, 3) := by decide +kernel
theorem own_d29_11 : decode jdk_31_method_10_code 11 = .ok (.athrow, 1) := by decide +kernel
theorem own_d29_12 : decode jdk_31_method_10_code 12 = .ok (.aload_n 0, 1) := by decide +kernel
theorem own_d29_13 : decode jdk_31_method_10_code 13 = .ok (.areturn, 1) := by decide +kernel
theorem own_pn6 : plainName "java/util/Objects" = true := by decide +kernel
set_option maxHeartbeats 4000000 in
theorem own_ef_rm29 (m : MethodId) (x0 : Addr) : entryFrame m #[(.ref x0)] 1 = mkF m 0 #[.val (.ref x0)] [] := by rfl
set_option maxRecDepth 65536 in
set_option maxHeartbeats 40000000 in
theorem rm29 (l : Launch) (Z : State) (a0 : Array Value) (hw : ∀ d ∈ tables_1, d.before a0 Z = true) (z0 : Int32) (O2 : Sta Z Z.heap "java/lang/String" "COMPACT_STRINGS" "Z" (.int z0)) (P5 : ¬ z0 = (0 : Int32)) (dd : Addr) (kd : ClassId) (O_dd : Sta Z Z.heap "java/util/ArrayList" "DEFAULTCAPACITY_EMPTY_ELEMENTDATA" "[Ljava/lang/Object;" (.ref dd)) (V_dd : Arv Z Z.heap dd kd (.object "java/lang/Object") (0 : Int32) [] .null) (mr : Addr) (M_mr : own_Mir Z "[Ljava/lang/Object;" mr) (el : Addr) (O_el : Sta Z Z.heap "java/util/ImmutableCollections" "EMPTY_LIST" "Ljava/util/ImmutableCollections$ListN;" (.ref el)) (em : Addr) (O_em : Sta Z Z.heap "java/util/ImmutableCollections" "EMPTY" "Ljava/lang/Object;" (.ref em)) (ws : List Jvm.Cond) (q : Addr) (h0 : Heap) (n0 : Nat) (Z0 : n0 ≤ h0.size) :
    own_MetN l Z (⟨"java/util/Objects", "requireNonNull", "(Ljava/lang/Object;)Ljava/lang/Object;"⟩ : MethodName) jdk_31_method_10_code 1 (some (.object "java/lang/Object")) ws ({ frames := 0, cells := 0, slots := 0, locals := 0 } : Room) #[(.ref q)] h0 (fun v h L => Fr n0 L ∧ h = h0 ∧ (((v = some (.ref q))))) := by
  refine own_metN (plainFor_of_name own_pn6) ?_
  intro p e s m below meth c s₁ G hx hby hml hZ hown hnm hret X0 e0 go fin
  have N0 := Fr.nil n0
  refine go _ _ (fun _ k => castTop (own_ef_rm29 m q) k) ?_
  show G (s₁.setTop (mkF m 0 #[.val (.ref q)] []))
  refine go _ _ (fun _ k => XS.aloadN X0.here hx rfl (hb hby own_d29_0) rfl rfl k) ?_
  show G (s₁.setTop (mkF m 1 #[.val (.ref q)] [(.ref q)]))
  refine go _ _ (fun _ k => XS.ifnonnullYes X0.here hx rfl (pc0 := 1) (pc' := 12) rfl (hb hby own_d29_1) rfl (by decide) (by decide) k) ?_
  show G (s₁.setTop (mkF m 12 #[.val (.ref q)] []))
  refine go _ _ (fun _ k => XS.aloadN X0.here hx rfl (hb hby own_d29_12) rfl rfl k) ?_
  show G (s₁.setTop (mkF m 13 #[.val (.ref q)] [(.ref q)]))
  refine fin s₁ _ _ _ (some (.ref q)) X0 (fun q => nomatch q) (by decide) (by decide) (by rw [e0]; exact ⟨N0, rfl, rfl⟩) _ (own_retA X0 hx hret rfl rfl rfl (hb hby own_d29_13))
theorem own_d36_0 : decode jdk_44_method_1_code 0 = .ok (.aload_n 0, 1) := by decide +kernel
theorem own_d36_1 : decode jdk_44_method_1_code 1 = .ok (.invokespecial 1, 3) := by decide +kernel
theorem own_d36_4 : decode jdk_44_method_1_code 4 = .ok (.aload_n 0, 1) := by decide +kernel
theorem own_d36_5 : decode jdk_44_method_1_code 5 = .ok (.aload_n 1, 1) := by decide +kernel
theorem own_d36_6 : decode jdk_44_method_1_code 6 = .ok (.invokestatic 7, 3) := by decide +kernel
theorem own_d36_9 : decode jdk_44_method_1_code 9 = .ok (.putfield 13, 3) := by decide +kernel
theorem own_d36_12 : decode jdk_44_method_1_code 12 = .ok (.aload_n 0, 1) := by decide +kernel
theorem own_d36_13 : decode jdk_44_method_1_code 13 = .ok (.getstatic 19, 3) := by decide +kernel
theorem own_d36_16 : decode jdk_44_method_1_code 16 = .ok (.putfield 24, 3) := by decide +kernel
theorem own_d36_19 : decode jdk_44_method_1_code 19 = .ok (.return_, 1) := by decide +kernel
theorem own_pn7 : plainName "java/util/ImmutableCollections$List12" = true := by decide +kernel
theorem own_pd1 : parseMethodDescriptor "(Ljava/lang/Object;)Ljava/lang/Object;" = some ⟨[(.object "java/lang/Object")], some (.object "java/lang/Object")⟩ := by decide +kernel
set_option maxHeartbeats 4000000 in
theorem own_ef_rm36 (m : MethodId) (x0 : Addr) (x1 : Addr) : entryFrame m #[(.ref x0), (.ref x1)] 2 = mkF m 0 #[.val (.ref x0), .val (.ref x1)] [] := by rfl
set_option maxRecDepth 65536 in
set_option maxHeartbeats 40000000 in
theorem rm36 (l : Launch) (Z : State) (a0 : Array Value) (hw : ∀ d ∈ tables_1, d.before a0 Z = true) (z0 : Int32) (O2 : Sta Z Z.heap "java/lang/String" "COMPACT_STRINGS" "Z" (.int z0)) (P5 : ¬ z0 = (0 : Int32)) (dd : Addr) (kd : ClassId) (O_dd : Sta Z Z.heap "java/util/ArrayList" "DEFAULTCAPACITY_EMPTY_ELEMENTDATA" "[Ljava/lang/Object;" (.ref dd)) (V_dd : Arv Z Z.heap dd kd (.object "java/lang/Object") (0 : Int32) [] .null) (mr : Addr) (M_mr : own_Mir Z "[Ljava/lang/Object;" mr) (el : Addr) (O_el : Sta Z Z.heap "java/util/ImmutableCollections" "EMPTY_LIST" "Ljava/util/ImmutableCollections$ListN;" (.ref el)) (em : Addr) (O_em : Sta Z Z.heap "java/util/ImmutableCollections" "EMPTY" "Ljava/lang/Object;" (.ref em)) (ws : List Jvm.Cond) (a : Addr) (q : Addr) (h0 : Heap) (n0 : Nat) (Z0 : n0 ≤ h0.size) (Xo : Old Z n0 h0) (Ea : Exa Z h0 a "java/util/ImmutableCollections$List12") (F1 : Fld Z h0 a "java/util/ImmutableCollections$List12" "e0" "Ljava/lang/Object;" .null) (F2 : Fld Z h0 a "java/util/ImmutableCollections$List12" "e1" "Ljava/lang/Object;" .null) (gz_a : n0 ≤ a) :
    own_MetN l Z (⟨"java/util/ImmutableCollections$List12", "<init>", "(Ljava/lang/Object;)V"⟩ : MethodName) jdk_44_method_1_code 2 none ws ({ frames := 4, cells := 0, slots := 0, locals := 48 } : Room) #[(.ref a), (.ref q)] h0 (fun v h L => Fr n0 L ∧ Keep h0 h [a] ∧ (((v = none)))) := by
  refine own_metN (plainFor_of_name own_pn7) ?_
  intro p e s m below meth c s₁ G hx hby hml hZ hown hnm hret X0 e0 go fin
  have N0 := Fr.nil n0
  refine go _ _ (fun _ k => castTop (own_ef_rm36 m a q) k) ?_
  show G (s₁.setTop (mkF m 0 #[.val (.ref a), .val (.ref q)] []))
  refine go _ _ (fun _ k => XS.aloadN X0.here hx rfl (hb hby own_d36_0) rfl rfl k) ?_
  show G (s₁.setTop (mkF m 1 #[.val (.ref a), .val (.ref q)] [(.ref a)]))
  obtain ⟨rv101, T101, L101, X101, q101, st101⟩ := own_sp X0 hx hZ (y := (⟨"java/util/ImmutableCollections$AbstractImmutableList", "<init>", "()V"⟩ : MethodName)) rfl hown (ow hw 218 rfl) (ow hw 182 rfl) (ow hw 186 rfl) (by decide) (own_bkN (W := 0) (rm31 l Z a0 hw z0 O2 P5 dd kd O_dd V_dd mr M_mr el O_el em O_em [] a h0 n0 Z0) hZ (ow hw 186 rfl) (ow hw 185 rfl) (by decide) (by decide)) e0 (g := (mkF m 1 #[.val (.ref a), .val (.ref q)] [(.ref a)])) rfl (by rw [hml]; rfl) (a := a) (argsL := []) (rest := []) rfl (lenOf own_pd0 rfl) rfl (by show 2 * 0 + _ ≤ _; exact Nat.le_of_eq rfl) (hb hby own_d36_1) (by decide) (by decide)
  obtain ⟨Nq101, e101, rfl⟩ := q101
  have N101 := Fr.app N0 Nq101
  refine go _ _ (st101) ?_
  show G (T101.setTop (mkF m 4 #[.val (.ref a), .val (.ref q)] []))
  refine go _ _ (fun _ k => XS.aloadN X101.here hx rfl (hb hby own_d36_4) rfl rfl (XS.aloadN X101.here hx rfl (hb hby own_d36_5) rfl rfl k)) ?_
  show G (T101.setTop (mkF m 6 #[.val (.ref a), .val (.ref q)] [(.ref q), (.ref a)]))
  obtain ⟨rv102, T102, L102, X102, q102, st102⟩ := own_st X101 hx hZ (y := (⟨"java/util/Objects", "requireNonNull", "(Ljava/lang/Object;)Ljava/lang/Object;"⟩ : MethodName)) hown (ow hw 222 rfl) (ow hw 172 rfl) (ow hw 173 rfl) (ow hw 174 rfl) (by decide) (own_bkN (W := 1) (rm29 l Z a0 hw z0 O2 P5 dd kd O_dd V_dd mr M_mr el O_el em O_em [] q h0 n0 Z0) hZ (ow hw 174 rfl) (ow hw 173 rfl) (by decide) (by decide)) e101 (g := (mkF m 6 #[.val (.ref a), .val (.ref q)] [(.ref q), (.ref a)])) rfl (by rw [hml]; rfl) (argsL := [(.ref q)]) (rest := [(.ref a)]) rfl (lenOf own_pd1 rfl) rfl (by show 2 * 0 + _ ≤ _; exact Nat.le_of_eq rfl) (hb hby own_d36_6) (by decide) (by decide)
  obtain ⟨Nq102, e102, rfl⟩ := q102
  have N102 := Fr.app N101 Nq102
  refine go _ _ (st102) ?_
  show G (T102.setTop (mkF m 9 #[.val (.ref a), .val (.ref q)] [(.ref q), (.ref a)]))
  obtain ⟨T103, h103, X103, e103, W103, st103⟩ := putF X102 hx hZ hown (host := "") (Or.inl (ow hw 223 rfl)) Via.refl e102 F1 Ea (Or.inr ⟨(ow hw 224 rfl), rfl, hnm⟩) (ow hw 212 rfl) (ty := (.object "java/lang/Object")) (by decide) rfl rfl (g := (mkF m 9 #[.val (.ref a), .val (.ref q)] [(.ref q), (.ref a)])) rfl rfl (hb hby own_d36_9)
  have N103 := Fr.snoc X103 N102 gz_a
  refine go _ _ (st103) ?_
  show G (T103.setTop (mkF m 12 #[.val (.ref a), .val (.ref q)] []))
  refine go _ _ (fun _ k => XS.aloadN X103.here hx rfl (hb hby own_d36_12) rfl rfl k) ?_
  show G (T103.setTop (mkF m 13 #[.val (.ref a), .val (.ref q)] [(.ref a)]))
  have K105 : Keep h0 h103 [a] := (Keep.refl h0 [a]).wr W103 (Or.inl (List.mem_of_getElem? (i := 0) rfl))
  have F106 : Old Z n0 h103 := (Xo.keep K105 (allS gz_a all0))
  obtain ⟨T104, X104, e104, st104⟩ := getS2 X103 hx hZ (host := "java/util/ImmutableCollections") hown (Or.inr (ow hw 230 rfl)) Via.refl e103 (O_em.ext F106.2) (g := (mkF m 13 #[.val (.ref a), .val (.ref q)] [(.ref a)])) rfl (hb hby own_d36_13)
  refine go _ _ (st104) ?_
  show G (T104.setTop (mkF m 16 #[.val (.ref a), .val (.ref q)] [(.ref em), (.ref a)]))
  obtain ⟨T107, h107, X107, e107, W107, st107⟩ := putF X104 hx hZ hown (host := "") (Or.inl (ow hw 225 rfl)) Via.refl e104 (F2.other W103 (Or.inr (RoadKit.slot_ne (t := (.object "java/lang/Object")) (t' := (.object "java/lang/Object")) (Or.inr (ow hw 226 rfl)) (Or.inr (ow hw 224 rfl)) (by decide) (by decide) (by decide)))) (Ea.wr W103) (Or.inr ⟨(ow hw 226 rfl), rfl, hnm⟩) (ow hw 212 rfl) (ty := (.object "java/lang/Object")) (by decide) rfl rfl (g := (mkF m 16 #[.val (.ref a), .val (.ref q)] [(.ref em), (.ref a)])) rfl rfl (hb hby own_d36_16)
  have N107 := Fr.snoc X107 N103 gz_a
  refine go _ _ (st107) ?_
  show G (T107.setTop (mkF m 19 #[.val (.ref a), .val (.ref q)] []))
  have K108 : Keep h0 h107 [a] := K105.wr W107 (Or.inl (List.mem_of_getElem? (i := 0) rfl))
  refine fin T107 _ _ _ none X107 (fun _ => rfl) (by decide) (by decide) (by rw [e107]; exact ⟨N107, K108, rfl⟩) _ (own_retV X107 hx hret (hb hby own_d36_19))
theorem own_d35_0 : decode jdk_44_method_2_code 0 = .ok (.aload_n 0, 1) := by decide +kernel
theorem own_d35_1 : decode jdk_44_method_2_code 1 = .ok (.invokespecial 1, 3) := by decide +kernel
theorem own_d35_4 : decode jdk_44_method_2_code 4 = .ok (.aload_n 0, 1) := by decide +kernel
theorem own_d35_5 : decode jdk_44_method_2_code 5 = .ok (.aload_n 1, 1) := by decide +kernel
theorem own_d35_6 : decode jdk_44_method_2_code 6 = .ok (.invokestatic 7, 3) := by decide +kernel
theorem own_d35_9 : decode jdk_44_method_2_code 9 = .ok (.putfield 13, 3) := by decide +kernel
theorem own_d35_12 : decode jdk_44_method_2_code 12 = .ok (.aload_n 0, 1) := by decide +kernel
theorem own_d35_13 : decode jdk_44_method_2_code 13 = .ok (.aload_n 2, 1) := by decide +kernel
theorem own_d35_14 : decode jdk_44_method_2_code 14 = .ok (.invokestatic 7, 3) := by decide +kernel
theorem own_d35_17 : decode jdk_44_method_2_code 17 = .ok (.putfield 24, 3) := by decide +kernel
theorem own_d35_20 : decode jdk_44_method_2_code 20 = .ok (.return_, 1) := by decide +kernel
set_option maxHeartbeats 4000000 in
theorem own_ef_rm35 (m : MethodId) (x0 : Addr) (x1 : Addr) (x2 : Addr) : entryFrame m #[(.ref x0), (.ref x1), (.ref x2)] 3 = mkF m 0 #[.val (.ref x0), .val (.ref x1), .val (.ref x2)] [] := by rfl
set_option maxRecDepth 65536 in
set_option maxHeartbeats 40000000 in
theorem rm35 (l : Launch) (Z : State) (a0 : Array Value) (hw : ∀ d ∈ tables_1, d.before a0 Z = true) (z0 : Int32) (O2 : Sta Z Z.heap "java/lang/String" "COMPACT_STRINGS" "Z" (.int z0)) (P5 : ¬ z0 = (0 : Int32)) (dd : Addr) (kd : ClassId) (O_dd : Sta Z Z.heap "java/util/ArrayList" "DEFAULTCAPACITY_EMPTY_ELEMENTDATA" "[Ljava/lang/Object;" (.ref dd)) (V_dd : Arv Z Z.heap dd kd (.object "java/lang/Object") (0 : Int32) [] .null) (mr : Addr) (M_mr : own_Mir Z "[Ljava/lang/Object;" mr) (el : Addr) (O_el : Sta Z Z.heap "java/util/ImmutableCollections" "EMPTY_LIST" "Ljava/util/ImmutableCollections$ListN;" (.ref el)) (em : Addr) (O_em : Sta Z Z.heap "java/util/ImmutableCollections" "EMPTY" "Ljava/lang/Object;" (.ref em)) (ws : List Jvm.Cond) (a : Addr) (q : Addr) (q2 : Addr) (h0 : Heap) (n0 : Nat) (Z0 : n0 ≤ h0.size) (Ea : Exa Z h0 a "java/util/ImmutableCollections$List12") (F1 : Fld Z h0 a "java/util/ImmutableCollections$List12" "e0" "Ljava/lang/Object;" .null) (F2 : Fld Z h0 a "java/util/ImmutableCollections$List12" "e1" "Ljava/lang/Object;" .null) (gz_a : n0 ≤ a) :
    own_MetN l Z (⟨"java/util/ImmutableCollections$List12", "<init>", "(Ljava/lang/Object;Ljava/lang/Object;)V"⟩ : MethodName) jdk_44_method_2_code 3 none ws ({ frames := 4, cells := 0, slots := 0, locals := 48 } : Room) #[(.ref a), (.ref q), (.ref q2)] h0 (fun v h L => Fr n0 L ∧ Keep h0 h [a] ∧ (((v = none)))) := by
  refine own_metN (plainFor_of_name own_pn7) ?_
  intro p e s m below meth c s₁ G hx hby hml hZ hown hnm hret X0 e0 go fin
  have N0 := Fr.nil n0
  refine go _ _ (fun _ k => castTop (own_ef_rm35 m a q q2) k) ?_
  show G (s₁.setTop (mkF m 0 #[.val (.ref a), .val (.ref q), .val (.ref q2)] []))
  refine go _ _ (fun _ k => XS.aloadN X0.here hx rfl (hb hby own_d35_0) rfl rfl k) ?_
  show G (s₁.setTop (mkF m 1 #[.val (.ref a), .val (.ref q), .val (.ref q2)] [(.ref a)]))
  obtain ⟨rv101, T101, L101, X101, q101, st101⟩ := own_sp X0 hx hZ (y := (⟨"java/util/ImmutableCollections$AbstractImmutableList", "<init>", "()V"⟩ : MethodName)) rfl hown (ow hw 218 rfl) (ow hw 182 rfl) (ow hw 186 rfl) (by decide) (own_bkN (W := 0) (rm31 l Z a0 hw z0 O2 P5 dd kd O_dd V_dd mr M_mr el O_el em O_em [] a h0 n0 Z0) hZ (ow hw 186 rfl) (ow hw 185 rfl) (by decide) (by decide)) e0 (g := (mkF m 1 #[.val (.ref a), .val (.ref q), .val (.ref q2)] [(.ref a)])) rfl (by rw [hml]; rfl) (a := a) (argsL := []) (rest := []) rfl (lenOf own_pd0 rfl) rfl (by show 2 * 0 + _ ≤ _; exact Nat.le_of_eq rfl) (hb hby own_d35_1) (by decide) (by decide)
  obtain ⟨Nq101, e101, rfl⟩ := q101
  have N101 := Fr.app N0 Nq101
  refine go _ _ (st101) ?_
  show G (T101.setTop (mkF m 4 #[.val (.ref a), .val (.ref q), .val (.ref q2)] []))
  refine go _ _ (fun _ k => XS.aloadN X101.here hx rfl (hb hby own_d35_4) rfl rfl (XS.aloadN X101.here hx rfl (hb hby own_d35_5) rfl rfl k)) ?_
  show G (T101.setTop (mkF m 6 #[.val (.ref a), .val (.ref q), .val (.ref q2)] [(.ref q), (.ref a)]))
  obtain ⟨rv102, T102, L102, X102, q102, st102⟩ := own_st X101 hx hZ (y := (⟨"java/util/Objects", "requireNonNull", "(Ljava/lang/Object;)Ljava/lang/Object;"⟩ : MethodName)) hown (ow hw 222 rfl) (ow hw 172 rfl) (ow hw 173 rfl) (ow hw 174 rfl) (by decide) (own_bkN (W := 1) (rm29 l Z a0 hw z0 O2 P5 dd kd O_dd V_dd mr M_mr el O_el em O_em [] q h0 n0 Z0) hZ (ow hw 174 rfl) (ow hw 173 rfl) (by decide) (by decide)) e101 (g := (mkF m 6 #[.val (.ref a), .val (.ref q), .val (.ref q2)] [(.ref q), (.ref a)])) rfl (by rw [hml]; rfl) (argsL := [(.ref q)]) (rest := [(.ref a)]) rfl (lenOf own_pd1 rfl) rfl (by show 2 * 0 + _ ≤ _; exact Nat.le_of_eq rfl) (hb hby own_d35_6) (by decide) (by decide)
  obtain ⟨Nq102, e102, rfl⟩ := q102
  have N102 := Fr.app N101 Nq102
  refine go _ _ (st102) ?_
  show G (T102.setTop (mkF m 9 #[.val (.ref a), .val (.ref q), .val (.ref q2)] [(.ref q), (.ref a)]))
  obtain ⟨T103, h103, X103, e103, W103, st103⟩ := putF X102 hx hZ hown (host := "") (Or.inl (ow hw 223 rfl)) Via.refl e102 F1 Ea (Or.inr ⟨(ow hw 224 rfl), rfl, hnm⟩) (ow hw 212 rfl) (ty := (.object "java/lang/Object")) (by decide) rfl rfl (g := (mkF m 9 #[.val (.ref a), .val (.ref q), .val (.ref q2)] [(.ref q), (.ref a)])) rfl rfl (hb hby own_d35_9)
  have N103 := Fr.snoc X103 N102 gz_a
  refine go _ _ (st103) ?_
  show G (T103.setTop (mkF m 12 #[.val (.ref a), .val (.ref q), .val (.ref q2)] []))
  refine go _ _ (fun _ k => XS.aloadN X103.here hx rfl (hb hby own_d35_12) rfl rfl (XS.aloadN X103.here hx rfl (hb hby own_d35_13) rfl rfl k)) ?_
  show G (T103.setTop (mkF m 14 #[.val (.ref a), .val (.ref q), .val (.ref q2)] [(.ref q2), (.ref a)]))
  have Z105 : h0.size ≤ h103.size := (Keep.of_wr W103).1
  obtain ⟨rv104, T104, L104, X104, q104, st104⟩ := own_st X103 hx hZ (y := (⟨"java/util/Objects", "requireNonNull", "(Ljava/lang/Object;)Ljava/lang/Object;"⟩ : MethodName)) hown (ow hw 222 rfl) (ow hw 172 rfl) (ow hw 173 rfl) (ow hw 174 rfl) (by decide) (own_bkN (W := 1) (rm29 l Z a0 hw z0 O2 P5 dd kd O_dd V_dd mr M_mr el O_el em O_em [] q2 h103 n0 (Nat.le_trans Z0 Z105)) hZ (ow hw 174 rfl) (ow hw 173 rfl) (by decide) (by decide)) e103 (g := (mkF m 14 #[.val (.ref a), .val (.ref q), .val (.ref q2)] [(.ref q2), (.ref a)])) rfl (by rw [hml]; rfl) (argsL := [(.ref q2)]) (rest := [(.ref a)]) rfl (lenOf own_pd1 rfl) rfl (by show 2 * 0 + _ ≤ _; exact Nat.le_of_eq rfl) (hb hby own_d35_14) (by decide) (by decide)
  obtain ⟨Nq104, e104, rfl⟩ := q104
  have N104 := Fr.app N103 Nq104
  refine go _ _ (st104) ?_
  show G (T104.setTop (mkF m 17 #[.val (.ref a), .val (.ref q), .val (.ref q2)] [(.ref q2), (.ref a)]))
  obtain ⟨T106, h106, X106, e106, W106, st106⟩ := putF X104 hx hZ hown (host := "") (Or.inl (ow hw 225 rfl)) Via.refl e104 (F2.other W103 (Or.inr (RoadKit.slot_ne (t := (.object "java/lang/Object")) (t' := (.object "java/lang/Object")) (Or.inr (ow hw 226 rfl)) (Or.inr (ow hw 224 rfl)) (by decide) (by decide) (by decide)))) (Ea.wr W103) (Or.inr ⟨(ow hw 226 rfl), rfl, hnm⟩) (ow hw 212 rfl) (ty := (.object "java/lang/Object")) (by decide) rfl rfl (g := (mkF m 17 #[.val (.ref a), .val (.ref q), .val (.ref q2)] [(.ref q2), (.ref a)])) rfl rfl (hb hby own_d35_17)
  have N106 := Fr.snoc X106 N104 gz_a
  refine go _ _ (st106) ?_
  show G (T106.setTop (mkF m 20 #[.val (.ref a), .val (.ref q), .val (.ref q2)] []))
  have K107 : Keep h0 h103 [a] := (Keep.refl h0 [a]).wr W103 (Or.inl (List.mem_of_getElem? (i := 0) rfl))
  have K108 : Keep h0 h106 [a] := K107.wr W106 (Or.inl (List.mem_of_getElem? (i := 0) rfl))
  refine fin T106 _ _ _ none X106 (fun _ => rfl) (by decide) (by decide) (by rw [e106]; exact ⟨N106, K108, rfl⟩) _ (own_retV X106 hx hret (hb hby own_d35_20))
theorem own_d30_0 : decode jdk_45_method_1_code 0 = .ok (.aload_n 0, 1) := by decide +kernel
theorem own_d30_1 : decode jdk_45_method_1_code 1 = .ok (.invokespecial 1, 3) := by decide +kernel
theorem own_d30_4 : decode jdk_45_method_1_code 4 = .ok (.aload_n 0, 1) := by decide +kernel
theorem own_d30_5 : decode jdk_45_method_1_code 5 = .ok (.aload_n 1, 1) := by decide +kernel
theorem own_d30_6 : decode jdk_45_method_1_code 6 = .ok (.putfield 7, 3) := by decide +kernel
theorem own_d30_9 : decode jdk_45_method_1_code 9 = .ok (.aload_n 0, 1) := by decide +kernel
theorem own_d30_10 : decode jdk_45_method_1_code 10 = .ok (.iload_n 2, 1) := by decide +kernel
theorem own_d30_11 : decode jdk_45_method_1_code 11 = .ok (.putfield 13, 3) := by decide +kernel
theorem own_d30_14 : decode jdk_45_method_1_code 14 = .ok (.return_, 1) := by decide +kernel
theorem own_pn8 : plainName "java/util/ImmutableCollections$ListN" = true := by decide +kernel
set_option maxHeartbeats 4000000 in
theorem own_ef_rm30 (m : MethodId) (x0 : Addr) (x1 : Addr) (x2 : Int32) : entryFrame m #[(.ref x0), (.ref x1), (.int x2)] 3 = mkF m 0 #[.val (.ref x0), .val (.ref x1), .val (.int x2)] [] := by rfl
set_option maxRecDepth 65536 in
set_option maxHeartbeats 40000000 in
theorem rm30 (l : Launch) (Z : State) (a0 : Array Value) (hw : ∀ d ∈ tables_1, d.before a0 Z = true) (z0 : Int32) (O2 : Sta Z Z.heap "java/lang/String" "COMPACT_STRINGS" "Z" (.int z0)) (P5 : ¬ z0 = (0 : Int32)) (dd : Addr) (kd : ClassId) (O_dd : Sta Z Z.heap "java/util/ArrayList" "DEFAULTCAPACITY_EMPTY_ELEMENTDATA" "[Ljava/lang/Object;" (.ref dd)) (V_dd : Arv Z Z.heap dd kd (.object "java/lang/Object") (0 : Int32) [] .null) (mr : Addr) (M_mr : own_Mir Z "[Ljava/lang/Object;" mr) (el : Addr) (O_el : Sta Z Z.heap "java/util/ImmutableCollections" "EMPTY_LIST" "Ljava/util/ImmutableCollections$ListN;" (.ref el)) (em : Addr) (O_em : Sta Z Z.heap "java/util/ImmutableCollections" "EMPTY" "Ljava/lang/Object;" (.ref em)) (ws : List Jvm.Cond) (a : Addr) (q : Addr) (h0 : Heap) (n0 : Nat) (Z0 : n0 ≤ h0.size) (Ea : Exa Z h0 a "java/util/ImmutableCollections$ListN") (F1 : Fld Z h0 a "java/util/ImmutableCollections$ListN" "elements" "[Ljava/lang/Object;" .null) (F2 : Fld Z h0 a "java/util/ImmutableCollections$ListN" "allowNulls" "Z" (.int (0 : Int32))) (gz_a : n0 ≤ a) :
    own_MetN l Z (⟨"java/util/ImmutableCollections$ListN", "<init>", "([Ljava/lang/Object;Z)V"⟩ : MethodName) jdk_45_method_1_code 3 none ws ({ frames := 4, cells := 0, slots := 0, locals := 48 } : Room) #[(.ref a), (.ref q), (.int (0 : Int32))] h0 (fun v h L => Fr n0 L ∧ Keep h0 h [a] ∧ (((v = none)))) := by
  refine own_metN (plainFor_of_name own_pn8) ?_
  intro p e s m below meth c s₁ G hx hby hml hZ hown hnm hret X0 e0 go fin
  have N0 := Fr.nil n0
  refine go _ _ (fun _ k => castTop (own_ef_rm30 m a q (0 : Int32)) k) ?_
  show G (s₁.setTop (mkF m 0 #[.val (.ref a), .val (.ref q), .val (.int (0 : Int32))] []))
  refine go _ _ (fun _ k => XS.aloadN X0.here hx rfl (hb hby own_d30_0) rfl rfl k) ?_
  show G (s₁.setTop (mkF m 1 #[.val (.ref a), .val (.ref q), .val (.int (0 : Int32))] [(.ref a)]))
  obtain ⟨rv101, T101, L101, X101, q101, st101⟩ := own_sp X0 hx hZ (y := (⟨"java/util/ImmutableCollections$AbstractImmutableList", "<init>", "()V"⟩ : MethodName)) rfl hown (ow hw 181 rfl) (ow hw 182 rfl) (ow hw 186 rfl) (by decide) (own_bkN (W := 0) (rm31 l Z a0 hw z0 O2 P5 dd kd O_dd V_dd mr M_mr el O_el em O_em [] a h0 n0 Z0) hZ (ow hw 186 rfl) (ow hw 185 rfl) (by decide) (by decide)) e0 (g := (mkF m 1 #[.val (.ref a), .val (.ref q), .val (.int (0 : Int32))] [(.ref a)])) rfl (by rw [hml]; rfl) (a := a) (argsL := []) (rest := []) rfl (lenOf own_pd0 rfl) rfl (by show 2 * 0 + _ ≤ _; exact Nat.le_of_eq rfl) (hb hby own_d30_1) (by decide) (by decide)
  obtain ⟨Nq101, e101, rfl⟩ := q101
  have N101 := Fr.app N0 Nq101
  refine go _ _ (st101) ?_
  show G (T101.setTop (mkF m 4 #[.val (.ref a), .val (.ref q), .val (.int (0 : Int32))] []))
  refine go _ _ (fun _ k => XS.aloadN X101.here hx rfl (hb hby own_d30_4) rfl rfl (XS.aloadN X101.here hx rfl (hb hby own_d30_5) rfl rfl k)) ?_
  show G (T101.setTop (mkF m 6 #[.val (.ref a), .val (.ref q), .val (.int (0 : Int32))] [(.ref q), (.ref a)]))
  obtain ⟨T102, h102, X102, e102, W102, st102⟩ := putF X101 hx hZ hown (host := "") (Or.inl (ow hw 195 rfl)) Via.refl e101 F1 Ea (Or.inr ⟨(ow hw 196 rfl), rfl, hnm⟩) (ow hw 175 rfl) (ty := (.array (.object "java/lang/Object"))) (by decide) rfl rfl (g := (mkF m 6 #[.val (.ref a), .val (.ref q), .val (.int (0 : Int32))] [(.ref q), (.ref a)])) rfl rfl (hb hby own_d30_6)
  have N102 := Fr.snoc X102 N101 gz_a
  refine go _ _ (st102) ?_
  show G (T102.setTop (mkF m 9 #[.val (.ref a), .val (.ref q), .val (.int (0 : Int32))] []))
  refine go _ _ (fun _ k => XS.aloadN X102.here hx rfl (hb hby own_d30_9) rfl rfl (XS.iloadN X102.here hx rfl (hb hby own_d30_10) rfl k)) ?_
  show G (T102.setTop (mkF m 11 #[.val (.ref a), .val (.ref q), .val (.int (0 : Int32))] [(.int (0 : Int32)), (.ref a)]))
  obtain ⟨T103, h103, X103, e103, W103, st103⟩ := putF X102 hx hZ hown (host := "") (Or.inl (ow hw 197 rfl)) Via.refl e102 (F2.other W102 (Or.inr (RoadKit.slot_ne (t := .boolean) (t' := (.array (.object "java/lang/Object"))) (Or.inr (ow hw 198 rfl)) (Or.inr (ow hw 196 rfl)) (by decide) (by decide) (by decide)))) (Ea.wr W102) (Or.inr ⟨(ow hw 198 rfl), rfl, hnm⟩) (ow hw 175 rfl) (ty := .boolean) (by decide) rfl rfl (g := (mkF m 11 #[.val (.ref a), .val (.ref q), .val (.int (0 : Int32))] [(.int (0 : Int32)), (.ref a)])) rfl rfl (hb hby own_d30_11)
  have N103 := Fr.snoc X103 N102 gz_a
  refine go _ _ (st103) ?_
  show G (T103.setTop (mkF m 14 #[.val (.ref a), .val (.ref q), .val (.int (0 : Int32))] []))
  have K104 : Keep h0 h102 [a] := (Keep.refl h0 [a]).wr W102 (Or.inl (List.mem_of_getElem? (i := 0) rfl))
  have K105 : Keep h0 h103 [a] := K104.wr W103 (Or.inl (List.mem_of_getElem? (i := 0) rfl))
  refine fin T103 _ _ _ none X103 (fun _ => rfl) (by decide) (by decide) (by rw [e103]; exact ⟨N103, K105, rfl⟩) _ (own_retV X103 hx hret (hb hby own_d30_14))
theorem own_d26_0 : decode jdk_29_method_69_code 0 = .ok (.iload_n 0, 1) := by decide +kernel
theorem own_d26_1 : decode jdk_29_method_69_code 1 = .ok (.iload_n 1, 1) := by decide +kernel
theorem own_d26_2 : decode jdk_29_method_69_code 2 = .ok (.if_icmp .gt 7, 3) := by decide +kernel
theorem own_d26_5 : decode jdk_29_method_69_code 5 = .ok (.iload_n 0, 1) := by decide +kernel
theorem own_d26_6 : decode jdk_29_method_69_code 6 = .ok (.goto 4, 3) := by decide +kernel
theorem own_d26_9 : decode jdk_29_method_69_code 9 = .ok (.iload_n 1, 1) := by decide +kernel
theorem own_d26_10 : decode jdk_29_method_69_code 10 = .ok (.ireturn, 1) := by decide +kernel
set_option maxHeartbeats 4000000 in
theorem own_ef_rm26 (m : MethodId) (x0 : Int32) (x1 : Int32) : entryFrame m #[(.int x0), (.int x1)] 2 = mkF m 0 #[.val (.int x0), .val (.int x1)] [] := by rfl
set_option maxRecDepth 65536 in
set_option maxHeartbeats 40000000 in
theorem rm26 (l : Launch) (Z : State) (a0 : Array Value) (hw : ∀ d ∈ tables_1, d.before a0 Z = true) (z0 : Int32) (O2 : Sta Z Z.heap "java/lang/String" "COMPACT_STRINGS" "Z" (.int z0)) (P5 : ¬ z0 = (0 : Int32)) (dd : Addr) (kd : ClassId) (O_dd : Sta Z Z.heap "java/util/ArrayList" "DEFAULTCAPACITY_EMPTY_ELEMENTDATA" "[Ljava/lang/Object;" (.ref dd)) (V_dd : Arv Z Z.heap dd kd (.object "java/lang/Object") (0 : Int32) [] .null) (mr : Addr) (M_mr : own_Mir Z "[Ljava/lang/Object;" mr) (el : Addr) (O_el : Sta Z Z.heap "java/util/ImmutableCollections" "EMPTY_LIST" "Ljava/util/ImmutableCollections$ListN;" (.ref el)) (em : Addr) (O_em : Sta Z Z.heap "java/util/ImmutableCollections" "EMPTY" "Ljava/lang/Object;" (.ref em)) (ws : List Jvm.Cond) (x : Int32) (y : Int32) (h0 : Heap) (n0 : Nat) (Z0 : n0 ≤ h0.size) :
    own_MetN l Z (⟨"java/lang/Math", "min", "(II)I"⟩ : MethodName) jdk_29_method_69_code 2 (some .int) ws ({ frames := 0, cells := 0, slots := 0, locals := 0 } : Room) #[(.int x), (.int y)] h0 (fun v h L => Fr n0 L ∧ h = h0 ∧ (((v = some (.int y)) ∧ (y < x)) ∨ ((v = some (.int x)) ∧ (¬ y < x)))) := by
  refine own_metN (Free.JP.mathPlain rfl (by decide)) ?_
  intro p e s m below meth c s₁ G hx hby hml hZ hown hnm hret X0 e0 go fin
  have N0 := Fr.nil n0
  refine go _ _ (fun _ k => castTop (own_ef_rm26 m x y) k) ?_
  show G (s₁.setTop (mkF m 0 #[.val (.int x), .val (.int y)] []))
  refine go _ _ (fun _ k => XS.iloadN X0.here hx rfl (hb hby own_d26_0) rfl (XS.iloadN X0.here hx rfl (hb hby own_d26_1) rfl k)) ?_
  show G (s₁.setTop (mkF m 2 #[.val (.int x), .val (.int y)] [(.int y), (.int x)]))
  by_cases hc2_101 : y < x
  · refine go _ _ (fun _ k => XS.icmpYes X0.here hx rfl (pc0 := 2) (pc' := 9) rfl (hb hby own_d26_2) rfl (tlt hc2_101).2.2.1 (by decide) (by decide) k) ?_
    show G (s₁.setTop (mkF m 9 #[.val (.int x), .val (.int y)] []))
    refine go _ _ (fun _ k => XS.iloadN X0.here hx rfl (hb hby own_d26_9) rfl k) ?_
    show G (s₁.setTop (mkF m 10 #[.val (.int x), .val (.int y)] [(.int y)]))
    refine fin s₁ _ _ _ (some (.int y)) X0 (fun q => nomatch q) (by decide) (by decide) (by rw [e0]; exact ⟨N0, rfl, (Or.inl ⟨rfl, hc2_101⟩)⟩) _ (own_retI X0 hx hret (hb hby own_d26_10))
  · refine go _ _ (fun _ k => XS.icmpNo X0.here hx rfl (hb hby own_d26_2) rfl (flt hc2_101).2.2.1 k) ?_
    show G (s₁.setTop (mkF m 5 #[.val (.int x), .val (.int y)] []))
    refine go _ _ (fun _ k => XS.iloadN X0.here hx rfl (hb hby own_d26_5) rfl k) ?_
    show G (s₁.setTop (mkF m 6 #[.val (.int x), .val (.int y)] [(.int x)]))
    refine go _ _ (fun _ k => XS.goto X0.here hx rfl (pc0 := 6) (pc' := 10) rfl (hb hby own_d26_6) (by decide) (by decide) k) ?_
    show G (s₁.setTop (mkF m 10 #[.val (.int x), .val (.int y)] [(.int x)]))
    refine fin s₁ _ _ _ (some (.int x)) X0 (fun q => nomatch q) (by decide) (by decide) (by rw [e0]; exact ⟨N0, rfl, (Or.inr ⟨rfl, hc2_101⟩)⟩) _ (own_retI X0 hx hret (hb hby own_d26_10))
theorem own_d12_0 : decode jdk_29_method_65_code 0 = .ok (.iload_n 0, 1) := by decide +kernel
theorem own_d12_1 : decode jdk_29_method_65_code 1 = .ok (.iload_n 1, 1) := by decide +kernel
theorem own_d12_2 : decode jdk_29_method_65_code 2 = .ok (.if_icmp .lt 7, 3) := by decide +kernel
theorem own_d12_5 : decode jdk_29_method_65_code 5 = .ok (.iload_n 0, 1) := by decide +kernel
theorem own_d12_6 : decode jdk_29_method_65_code 6 = .ok (.goto 4, 3) := by decide +kernel
theorem own_d12_9 : decode jdk_29_method_65_code 9 = .ok (.iload_n 1, 1) := by decide +kernel
theorem own_d12_10 : decode jdk_29_method_65_code 10 = .ok (.ireturn, 1) := by decide +kernel
set_option maxHeartbeats 4000000 in
theorem own_ef_rm12 (m : MethodId) (x0 : Int32) (x1 : Int32) : entryFrame m #[(.int x0), (.int x1)] 2 = mkF m 0 #[.val (.int x0), .val (.int x1)] [] := by rfl
set_option maxRecDepth 65536 in
set_option maxHeartbeats 40000000 in
theorem rm12 (l : Launch) (Z : State) (a0 : Array Value) (hw : ∀ d ∈ tables_1, d.before a0 Z = true) (z0 : Int32) (O2 : Sta Z Z.heap "java/lang/String" "COMPACT_STRINGS" "Z" (.int z0)) (P5 : ¬ z0 = (0 : Int32)) (dd : Addr) (kd : ClassId) (O_dd : Sta Z Z.heap "java/util/ArrayList" "DEFAULTCAPACITY_EMPTY_ELEMENTDATA" "[Ljava/lang/Object;" (.ref dd)) (V_dd : Arv Z Z.heap dd kd (.object "java/lang/Object") (0 : Int32) [] .null) (mr : Addr) (M_mr : own_Mir Z "[Ljava/lang/Object;" mr) (el : Addr) (O_el : Sta Z Z.heap "java/util/ImmutableCollections" "EMPTY_LIST" "Ljava/util/ImmutableCollections$ListN;" (.ref el)) (em : Addr) (O_em : Sta Z Z.heap "java/util/ImmutableCollections" "EMPTY" "Ljava/lang/Object;" (.ref em)) (ws : List Jvm.Cond) (x : Int32) (y : Int32) (h0 : Heap) (n0 : Nat) (Z0 : n0 ≤ h0.size) :
    own_MetN l Z (⟨"java/lang/Math", "max", "(II)I"⟩ : MethodName) jdk_29_method_65_code 2 (some .int) ws ({ frames := 0, cells := 0, slots := 0, locals := 0 } : Room) #[(.int x), (.int y)] h0 (fun v h L => Fr n0 L ∧ h = h0 ∧ (((v = some (.int y)) ∧ (x < y)) ∨ ((v = some (.int x)) ∧ (¬ x < y)))) := by
  refine own_metN (Free.JP.mathPlain rfl (by decide)) ?_
  intro p e s m below meth c s₁ G hx hby hml hZ hown hnm hret X0 e0 go fin
  have N0 := Fr.nil n0
  refine go _ _ (fun _ k => castTop (own_ef_rm12 m x y) k) ?_
  show G (s₁.setTop (mkF m 0 #[.val (.int x), .val (.int y)] []))
  refine go _ _ (fun _ k => XS.iloadN X0.here hx rfl (hb hby own_d12_0) rfl (XS.iloadN X0.here hx rfl (hb hby own_d12_1) rfl k)) ?_
  show G (s₁.setTop (mkF m 2 #[.val (.int x), .val (.int y)] [(.int y), (.int x)]))
  by_cases hc2_101 : x < y
  · refine go _ _ (fun _ k => XS.icmpYes X0.here hx rfl (pc0 := 2) (pc' := 9) rfl (hb hby own_d12_2) rfl (tlt hc2_101).1 (by decide) (by decide) k) ?_
    show G (s₁.setTop (mkF m 9 #[.val (.int x), .val (.int y)] []))
    refine go _ _ (fun _ k => XS.iloadN X0.here hx rfl (hb hby own_d12_9) rfl k) ?_
    show G (s₁.setTop (mkF m 10 #[.val (.int x), .val (.int y)] [(.int y)]))
    refine fin s₁ _ _ _ (some (.int y)) X0 (fun q => nomatch q) (by decide) (by decide) (by rw [e0]; exact ⟨N0, rfl, (Or.inl ⟨rfl, hc2_101⟩)⟩) _ (own_retI X0 hx hret (hb hby own_d12_10))
  · refine go _ _ (fun _ k => XS.icmpNo X0.here hx rfl (hb hby own_d12_2) rfl (flt hc2_101).1 k) ?_
    show G (s₁.setTop (mkF m 5 #[.val (.int x), .val (.int y)] []))
    refine go _ _ (fun _ k => XS.iloadN X0.here hx rfl (hb hby own_d12_5) rfl k) ?_
    show G (s₁.setTop (mkF m 6 #[.val (.int x), .val (.int y)] [(.int x)]))
    refine go _ _ (fun _ k => XS.goto X0.here hx rfl (pc0 := 6) (pc' := 10) rfl (hb hby own_d12_6) (by decide) (by decide) k) ?_
    show G (s₁.setTop (mkF m 10 #[.val (.int x), .val (.int y)] [(.int x)]))
    refine fin s₁ _ _ _ (some (.int x)) X0 (fun q => nomatch q) (by decide) (by decide) (by rw [e0]; exact ⟨N0, rfl, (Or.inr ⟨rfl, hc2_101⟩)⟩) _ (own_retI X0 hx hret (hb hby own_d12_10))
theorem own_d5_0 : decode jdk_43_method_3_code 0 = .ok (.iload_n 0, 1) := by decide +kernel
theorem own_d5_1 : decode jdk_43_method_3_code 1 = .ok (.sipush 255, 3) := by decide +kernel
theorem own_d5_4 : decode jdk_43_method_3_code 4 = .ok (.if_icmp .gt 7, 3) := by decide +kernel
theorem own_d5_7 : decode jdk_43_method_3_code 7 = .ok (.iconst 1, 1) := by decide +kernel
theorem own_d5_8 : decode jdk_43_method_3_code 8 = .ok (.goto 4, 3) := by decide +kernel
theorem own_d5_11 : decode jdk_43_method_3_code 11 = .ok (.iconst 0, 1) := by decide +kernel
theorem own_d5_12 : decode jdk_43_method_3_code 12 = .ok (.ireturn, 1) := by decide +kernel
theorem own_pn10 : plainName "java/lang/StringLatin1" = true := by decide +kernel
set_option maxHeartbeats 4000000 in
theorem own_ef_rm5 (m : MethodId) (x0 : Int32) : entryFrame m #[(.int x0)] 1 = mkF m 0 #[.val (.int x0)] [] := by rfl
set_option maxRecDepth 65536 in
set_option maxHeartbeats 40000000 in
theorem rm5 (l : Launch) (Z : State) (a0 : Array Value) (hw : ∀ d ∈ tables_1, d.before a0 Z = true) (z0 : Int32) (O2 : Sta Z Z.heap "java/lang/String" "COMPACT_STRINGS" "Z" (.int z0)) (P5 : ¬ z0 = (0 : Int32)) (dd : Addr) (kd : ClassId) (O_dd : Sta Z Z.heap "java/util/ArrayList" "DEFAULTCAPACITY_EMPTY_ELEMENTDATA" "[Ljava/lang/Object;" (.ref dd)) (V_dd : Arv Z Z.heap dd kd (.object "java/lang/Object") (0 : Int32) [] .null) (mr : Addr) (M_mr : own_Mir Z "[Ljava/lang/Object;" mr) (el : Addr) (O_el : Sta Z Z.heap "java/util/ImmutableCollections" "EMPTY_LIST" "Ljava/util/ImmutableCollections$ListN;" (.ref el)) (em : Addr) (O_em : Sta Z Z.heap "java/util/ImmutableCollections" "EMPTY" "Ljava/lang/Object;" (.ref em)) (ws : List Jvm.Cond) (q : Int32) (h0 : Heap) (n0 : Nat) (Z0 : n0 ≤ h0.size) (h2 : ¬ (255 : Int32) < q) :
    own_MetN l Z (⟨"java/lang/StringLatin1", "canEncode", "(C)Z"⟩ : MethodName) jdk_43_method_3_code 1 (some .boolean) ws ({ frames := 0, cells := 0, slots := 0, locals := 0 } : Room) #[(.int q)] h0 (fun v h L => Fr n0 L ∧ h = h0 ∧ (((v = some (.int (1 : Int32)))))) := by
  refine own_metN (plainFor_of_name own_pn10) ?_
  intro p e s m below meth c s₁ G hx hby hml hZ hown hnm hret X0 e0 go fin
  have N0 := Fr.nil n0
  refine go _ _ (fun _ k => castTop (own_ef_rm5 m q) k) ?_
  show G (s₁.setTop (mkF m 0 #[.val (.int q)] []))
  refine go _ _ (fun _ k => XS.iloadN X0.here hx rfl (hb hby own_d5_0) rfl (XS.sipush X0.here hx rfl (hb hby own_d5_1) k)) ?_
  show G (s₁.setTop (mkF m 4 #[.val (.int q)] [(.int (255 : Int32)), (.int q)]))
  refine go _ _ (fun _ k => XS.icmpNo X0.here hx rfl (hb hby own_d5_4) rfl (flt h2).2.2.1 k) ?_
  show G (s₁.setTop (mkF m 7 #[.val (.int q)] []))
  refine go _ _ (fun _ k => XS.iconst X0.here hx rfl (hb hby own_d5_7) k) ?_
  show G (s₁.setTop (mkF m 8 #[.val (.int q)] [(.int (1 : Int32))]))
  refine go _ _ (fun _ k => XS.goto X0.here hx rfl (pc0 := 8) (pc' := 12) rfl (hb hby own_d5_8) (by decide) (by decide) k) ?_
  show G (s₁.setTop (mkF m 12 #[.val (.int q)] [(.int (1 : Int32))]))
  refine fin s₁ _ _ _ (some (.int (1 : Int32))) X0 (fun q => nomatch q) (by decide) (by decide) (by rw [e0]; exact ⟨N0, rfl, rfl⟩) _ (own_retN X0 hx (z := (1 : Int32)) (t := .boolean) hret (by simp) (hb hby own_d5_12))
theorem own_d6_0 : decode jdk_43_method_46_code 0 = .ok (.iconst 1, 1) := by decide +kernel
theorem own_d6_1 : decode jdk_43_method_46_code 1 = .ok (.newarray .byte, 2) := by decide +kernel
theorem own_d6_3 : decode jdk_43_method_46_code 3 = .ok (.dup, 1) := by decide +kernel
theorem own_d6_4 : decode jdk_43_method_46_code 4 = .ok (.iconst 0, 1) := by decide +kernel
theorem own_d6_5 : decode jdk_43_method_46_code 5 = .ok (.iload_n 0, 1) := by decide +kernel
theorem own_d6_6 : decode jdk_43_method_46_code 6 = .ok (.i2b, 1) := by decide +kernel
theorem own_d6_7 : decode jdk_43_method_46_code 7 = .ok (.bastore, 1) := by decide +kernel
theorem own_d6_8 : decode jdk_43_method_46_code 8 = .ok (.areturn, 1) := by decide +kernel
set_option maxHeartbeats 4000000 in
theorem own_ef_rm6 (m : MethodId) (x0 : Int32) : entryFrame m #[(.int x0)] 1 = mkF m 0 #[.val (.int x0)] [] := by rfl
set_option maxRecDepth 65536 in
set_option maxHeartbeats 40000000 in
theorem rm6 (l : Launch) (Z : State) (a0 : Array Value) (hw : ∀ d ∈ tables_1, d.before a0 Z = true) (z0 : Int32) (O2 : Sta Z Z.heap "java/lang/String" "COMPACT_STRINGS" "Z" (.int z0)) (P5 : ¬ z0 = (0 : Int32)) (dd : Addr) (kd : ClassId) (O_dd : Sta Z Z.heap "java/util/ArrayList" "DEFAULTCAPACITY_EMPTY_ELEMENTDATA" "[Ljava/lang/Object;" (.ref dd)) (V_dd : Arv Z Z.heap dd kd (.object "java/lang/Object") (0 : Int32) [] .null) (mr : Addr) (M_mr : own_Mir Z "[Ljava/lang/Object;" mr) (el : Addr) (O_el : Sta Z Z.heap "java/util/ImmutableCollections" "EMPTY_LIST" "Ljava/util/ImmutableCollections$ListN;" (.ref el)) (em : Addr) (O_em : Sta Z Z.heap "java/util/ImmutableCollections" "EMPTY" "Ljava/lang/Object;" (.ref em)) (ws : List Jvm.Cond) (q : Int32) (h0 : Heap) (n0 : Nat) (Z0 : n0 ≤ h0.size) :
    own_MetN l Z (⟨"java/lang/StringLatin1", "toBytes", "(C)[B"⟩ : MethodName) jdk_43_method_46_code 1 (some (.array .byte)) ws ({ frames := 0, cells := 1, slots := 1, locals := 0 } : Room) #[(.int q)] h0 (fun v h L => Fr n0 L ∧ Keep h0 h [] ∧ ((∃ (b : Addr) (kb : ClassId), (v = some (.ref b)) ∧ (h0.size ≤ b) ∧ (Arv Z h b kb .byte (1 : Int32) [(.int (q.toInt8.toInt32))] (.int (0 : Int32)))))) := by
  refine own_metN (plainFor_of_name own_pn10) ?_
  intro p e s m below meth c s₁ G hx hby hml hZ hown hnm hret X0 e0 go fin
  have N0 := Fr.nil n0
  refine go _ _ (fun _ k => castTop (own_ef_rm6 m q) k) ?_
  show G (s₁.setTop (mkF m 0 #[.val (.int q)] []))
  refine go _ _ (fun _ k => XS.iconst X0.here hx rfl (hb hby own_d6_0) k) ?_
  show G (s₁.setTop (mkF m 1 #[.val (.int q)] [(.int (1 : Int32))]))
  obtain ⟨T101, h101, k101, X101, e101, E101, A101, st101⟩ := newP X0 hx hZ (ow hw 40 rfl) e0 (g := (mkF m 1 #[.val (.int q)] [(.int (1 : Int32))])) rfl (hb hby own_d6_1) rfl (by decide) (cap := 1) (by decide) (by decide) (by decide) (by decide)
  obtain ⟨b101, g101⟩ : ∃ z, z = h0.size := ⟨_, rfl⟩
  rw [← g101] at A101 st101
  have V101 : Arv Z h101 b101 k101 .byte (1 : Int32) [(.int (0 : Int32))] (.int (0 : Int32)) := (Arv.new A101 (by decide)).pad (pad_rep [] (.int (0 : Int32)) 1)
  refine go _ _ (st101) ?_
  show G (T101.setTop (mkF m 3 #[.val (.int q)] [(.ref b101)]))
  refine go _ _ (fun _ k => XS.dup X101.here hx rfl (hb hby own_d6_3) rfl rfl (XS.iconst X101.here hx rfl (hb hby own_d6_4) (XS.iloadN X101.here hx rfl (hb hby own_d6_5) rfl (XS.i2b X101.here hx rfl (hb hby own_d6_6) rfl k)))) ?_
  show G (T101.setTop (mkF m 7 #[.val (.int q)] [(.int (q.toInt8.toInt32)), (.int (0 : Int32)), (.ref b101), (.ref b101)]))
  obtain ⟨cl102, Ar102, q102, S102, M102, H102, U102⟩ := id V101
  obtain ⟨T102, h102, X102, e102, W102, st102⟩ := stB X101 hx hZ e101 Ar102 (j := (0 : Int32)) (inb_of S102 ⟨by decide, by decide⟩) (g := (mkF m 7 #[.val (.int q)] [(.int (q.toInt8.toInt32)), (.int (0 : Int32)), (.ref b101), (.ref b101)])) rfl rfl (hb hby own_d6_7)
  have V102 : Arv Z h102 b101 k101 .byte (1 : Int32) [(.int (nar .byte (q.toInt8.toInt32)))] (.int (0 : Int32)) := Arv.set Ar102 q102 S102 M102 H102 U102 (fits_nar_byte _) W102 0 rfl (Nat.le_of_ble_eq_true rfl)
  rw [(own_i2b q)] at V102
  have N102 := Fr.snoc X102 N0 (Nat.le_trans Z0 (Nat.le_of_eq g101.symm))
  refine go _ _ (st102) ?_
  show G (T102.setTop (mkF m 8 #[.val (.int q)] [(.ref b101)]))
  have K103 : Keep h0 h101 [] := (Keep.refl h0 []).ext E101
  have K104 : Keep h0 h102 [] := K103.wr W102 (Or.inr (Nat.le_of_eq g101.symm))
  refine fin T102 _ _ _ (some (.ref b101)) X102 (fun q => nomatch q) (by decide) (by decide) (by rw [e102]; exact ⟨N102, K104, ⟨b101, k101, rfl, (Nat.le_of_eq g101.symm), V102⟩⟩) _ (own_retA X102 hx hret rfl rfl rfl (hb hby own_d6_8))
theorem own_d7_0 : decode jdk_42_method_151_code 0 = .ok (.aload_n 0, 1) := by decide +kernel
theorem own_d7_1 : decode jdk_42_method_151_code 1 = .ok (.invokespecial 1, 3) := by decide +kernel
theorem own_d7_4 : decode jdk_42_method_151_code 4 = .ok (.aload_n 0, 1) := by decide +kernel
theorem own_d7_5 : decode jdk_42_method_151_code 5 = .ok (.aload_n 1, 1) := by decide +kernel
theorem own_d7_6 : decode jdk_42_method_151_code 6 = .ok (.putfield 9, 3) := by decide +kernel
theorem own_d7_9 : decode jdk_42_method_151_code 9 = .ok (.aload_n 0, 1) := by decide +kernel
theorem own_d7_10 : decode jdk_42_method_151_code 10 = .ok (.iload_n 2, 1) := by decide +kernel
theorem own_d7_11 : decode jdk_42_method_151_code 11 = .ok (.putfield 15, 3) := by decide +kernel
theorem own_d7_14 : decode jdk_42_method_151_code 14 = .ok (.return_, 1) := by decide +kernel
theorem own_pn11 : plainName "java/lang/String" = true := by decide +kernel
set_option maxHeartbeats 4000000 in
theorem own_ef_rm7 (m : MethodId) (x0 : Addr) (x1 : Addr) (x2 : Int32) : entryFrame m #[(.ref x0), (.ref x1), (.int x2)] 3 = mkF m 0 #[.val (.ref x0), .val (.ref x1), .val (.int x2)] [] := by rfl
set_option maxRecDepth 65536 in
set_option maxHeartbeats 40000000 in
theorem rm7 (l : Launch) (Z : State) (a0 : Array Value) (hw : ∀ d ∈ tables_1, d.before a0 Z = true) (z0 : Int32) (O2 : Sta Z Z.heap "java/lang/String" "COMPACT_STRINGS" "Z" (.int z0)) (P5 : ¬ z0 = (0 : Int32)) (dd : Addr) (kd : ClassId) (O_dd : Sta Z Z.heap "java/util/ArrayList" "DEFAULTCAPACITY_EMPTY_ELEMENTDATA" "[Ljava/lang/Object;" (.ref dd)) (V_dd : Arv Z Z.heap dd kd (.object "java/lang/Object") (0 : Int32) [] .null) (mr : Addr) (M_mr : own_Mir Z "[Ljava/lang/Object;" mr) (el : Addr) (O_el : Sta Z Z.heap "java/util/ImmutableCollections" "EMPTY_LIST" "Ljava/util/ImmutableCollections$ListN;" (.ref el)) (em : Addr) (O_em : Sta Z Z.heap "java/util/ImmutableCollections" "EMPTY" "Ljava/lang/Object;" (.ref em)) (ws : List Jvm.Cond) (a : Addr) (b : Addr) (h0 : Heap) (n0 : Nat) (Z0 : n0 ≤ h0.size) (Ea : Exa Z h0 a "java/lang/String") (Fv : Fld Z h0 a "java/lang/String" "value" "[B" .null) (Fc : Fld Z h0 a "java/lang/String" "coder" "B" (.int (0 : Int32))) (gz_a : n0 ≤ a) :
    own_MetN l Z (⟨"java/lang/String", "<init>", "([BB)V"⟩ : MethodName) jdk_42_method_151_code 3 none ws ({ frames := 1, cells := 0, slots := 0, locals := 12 } : Room) #[(.ref a), (.ref b), (.int (0 : Int32))] h0 (fun v h L => Fr n0 L ∧ Keep h0 h [a] ∧ (((v = none) ∧ (Exa Z h a "java/lang/String")))) := by
  refine own_metN (plainFor_of_name own_pn11) ?_
  intro p e s m below meth c s₁ G hx hby hml hZ hown hnm hret X0 e0 go fin
  have N0 := Fr.nil n0
  refine go _ _ (fun _ k => castTop (own_ef_rm7 m a b (0 : Int32)) k) ?_
  show G (s₁.setTop (mkF m 0 #[.val (.ref a), .val (.ref b), .val (.int (0 : Int32))] []))
  refine go _ _ (fun _ k => XS.aloadN X0.here hx rfl (hb hby own_d7_0) rfl rfl k) ?_
  show G (s₁.setTop (mkF m 1 #[.val (.ref a), .val (.ref b), .val (.int (0 : Int32))] [(.ref a)]))
  obtain ⟨T101, X101, e101, st101⟩ := initO X0 hx hZ hown (ow hw 45 rfl) (ow hw 19 rfl) (ow hw 20 rfl) e0 (g := (mkF m 1 #[.val (.ref a), .val (.ref b), .val (.int (0 : Int32))] [(.ref a)])) rfl (by rw [hml]; rfl) rfl (hb hby own_d7_1) (by decide) (W := 0) (by show 2 * 0 + _ ≤ _; exact Nat.le_of_eq rfl) (by decide)
  refine go _ _ (st101) ?_
  show G (T101.setTop (mkF m 4 #[.val (.ref a), .val (.ref b), .val (.int (0 : Int32))] []))
  refine go _ _ (fun _ k => XS.aloadN X101.here hx rfl (hb hby own_d7_4) rfl rfl (XS.aloadN X101.here hx rfl (hb hby own_d7_5) rfl rfl k)) ?_
  show G (T101.setTop (mkF m 6 #[.val (.ref a), .val (.ref b), .val (.int (0 : Int32))] [(.ref b), (.ref a)]))
  obtain ⟨T102, h102, X102, e102, W102, st102⟩ := putF X101 hx hZ hown (host := "") (Or.inl (ow hw 46 rfl)) Via.refl e101 Fv Ea (Or.inr ⟨(ow hw 47 rfl), rfl, hnm⟩) (ow hw 36 rfl) (ty := (.array .byte)) (by decide) rfl rfl (g := (mkF m 6 #[.val (.ref a), .val (.ref b), .val (.int (0 : Int32))] [(.ref b), (.ref a)])) rfl rfl (hb hby own_d7_6)
  have N102 := Fr.snoc X102 N0 gz_a
  refine go _ _ (st102) ?_
  show G (T102.setTop (mkF m 9 #[.val (.ref a), .val (.ref b), .val (.int (0 : Int32))] []))
  refine go _ _ (fun _ k => XS.aloadN X102.here hx rfl (hb hby own_d7_9) rfl rfl (XS.iloadN X102.here hx rfl (hb hby own_d7_10) rfl k)) ?_
  show G (T102.setTop (mkF m 11 #[.val (.ref a), .val (.ref b), .val (.int (0 : Int32))] [(.int (0 : Int32)), (.ref a)]))
  obtain ⟨T103, h103, X103, e103, W103, st103⟩ := putF X102 hx hZ hown (host := "") (Or.inl (ow hw 48 rfl)) Via.refl e102 (Fc.other W102 (Or.inr (RoadKit.slot_ne (t := .byte) (t' := (.array .byte)) (Or.inr (ow hw 49 rfl)) (Or.inr (ow hw 47 rfl)) (by decide) (by decide) (by decide)))) (Ea.wr W102) (Or.inr ⟨(ow hw 49 rfl), rfl, hnm⟩) (ow hw 36 rfl) (ty := .byte) (by decide) rfl rfl (g := (mkF m 11 #[.val (.ref a), .val (.ref b), .val (.int (0 : Int32))] [(.int (0 : Int32)), (.ref a)])) rfl rfl (hb hby own_d7_11)
  have N103 := Fr.snoc X103 N102 gz_a
  refine go _ _ (st103) ?_
  show G (T103.setTop (mkF m 14 #[.val (.ref a), .val (.ref b), .val (.int (0 : Int32))] []))
  have K104 : Keep h0 h102 [a] := (Keep.refl h0 [a]).wr W102 (Or.inl (List.mem_of_getElem? (i := 0) rfl))
  have K105 : Keep h0 h103 [a] := K104.wr W103 (Or.inl (List.mem_of_getElem? (i := 0) rfl))
  refine fin T103 _ _ _ none X103 (fun _ => rfl) (by decide) (by decide) (by rw [e103]; exact ⟨N103, K105, ⟨rfl, ((Ea.wr W102).wr W103)⟩⟩) _ (own_retV X103 hx hret (hb hby own_d7_14))
theorem own_d4_0 : decode jdk_42_method_139_code 0 = .ok (.getstatic 38, 3) := by decide +kernel
theorem own_d4_3 : decode jdk_42_method_139_code 3 = .ok (.ifCond .eq 23, 3) := by decide +kernel
theorem own_d4_6 : decode jdk_42_method_139_code 6 = .ok (.iload_n 0, 1) := by decide +kernel
theorem own_d4_7 : decode jdk_42_method_139_code 7 = .ok (.invokestatic 1015, 3) := by decide +kernel
theorem own_d4_10 : decode jdk_42_method_139_code 10 = .ok (.ifCond .eq 16, 3) := by decide +kernel
theorem own_d4_13 : decode jdk_42_method_139_code 13 = .ok (.new 10, 3) := by decide +kernel
theorem own_d4_16 : decode jdk_42_method_139_code 16 = .ok (.dup, 1) := by decide +kernel
theorem own_d4_17 : decode jdk_42_method_139_code 17 = .ok (.iload_n 0, 1) := by decide +kernel
theorem own_d4_18 : decode jdk_42_method_139_code 18 = .ok (.invokestatic 1018, 3) := by decide +kernel
theorem own_d4_21 : decode jdk_42_method_139_code 21 = .ok (.iconst 0, 1) := by decide +kernel
theorem own_d4_22 : decode jdk_42_method_139_code 22 = .ok (.invokespecial 209, 3) := by decide +kernel
theorem own_d4_25 : decode jdk_42_method_139_code 25 = .ok (.areturn, 1) := by decide +kernel
theorem own_d4_26 : decode jdk_42_method_139_code 26 = .ok (.new 10, 3) := by decide +kernel
theorem own_d4_29 : decode jdk_42_method_139_code 29 = .ok (.dup, 1) := by decide +kernel
theorem own_d4_30 : decode jdk_42_method_139_code 30 = .ok (.iload_n 0, 1) := by decide +kernel
theorem own_d4_31 : decode jdk_42_method_139_code 31 = .ok (.invokestatic 1021, 3) := by decide +kernel
theorem own_d4_34 : decode jdk_42_method_139_code 34 = .ok (.iconst 1, 1) := by decide +kernel
theorem own_d4_35 : decode jdk_42_method_139_code 35 = .ok (.invokespecial 209, 3) := by decide +kernel
theorem own_d4_38 : decode jdk_42_method_139_code 38 = .ok (.areturn, 1) := by decide +kernel
theorem own_pd2 : parseMethodDescriptor "(C)Z" = some ⟨[.char], some .boolean⟩ := by decide +kernel
theorem own_pd3 : parseMethodDescriptor "(C)[B" = some ⟨[.char], some (.array .byte)⟩ := by decide +kernel
theorem own_pd4 : parseMethodDescriptor "([BB)V" = some ⟨[(.array .byte), .byte], none⟩ := by decide +kernel
set_option maxHeartbeats 4000000 in
theorem own_ef_rm4 (m : MethodId) (x0 : Int32) : entryFrame m #[(.int x0)] 1 = mkF m 0 #[.val (.int x0)] [] := by rfl
set_option maxRecDepth 65536 in
set_option maxHeartbeats 40000000 in
theorem rm4 (l : Launch) (Z : State) (a0 : Array Value) (hw : ∀ d ∈ tables_1, d.before a0 Z = true) (z0 : Int32) (O2 : Sta Z Z.heap "java/lang/String" "COMPACT_STRINGS" "Z" (.int z0)) (P5 : ¬ z0 = (0 : Int32)) (dd : Addr) (kd : ClassId) (O_dd : Sta Z Z.heap "java/util/ArrayList" "DEFAULTCAPACITY_EMPTY_ELEMENTDATA" "[Ljava/lang/Object;" (.ref dd)) (V_dd : Arv Z Z.heap dd kd (.object "java/lang/Object") (0 : Int32) [] .null) (mr : Addr) (M_mr : own_Mir Z "[Ljava/lang/Object;" mr) (el : Addr) (O_el : Sta Z Z.heap "java/util/ImmutableCollections" "EMPTY_LIST" "Ljava/util/ImmutableCollections$ListN;" (.ref el)) (em : Addr) (O_em : Sta Z Z.heap "java/util/ImmutableCollections" "EMPTY" "Ljava/lang/Object;" (.ref em)) (ws : List Jvm.Cond) (q : Int32) (h0 : Heap) (n0 : Nat) (Z0 : n0 ≤ h0.size) (Xo : Old Z n0 h0) (h2 : ¬ (255 : Int32) < q) :
    own_MetN l Z (⟨"java/lang/String", "valueOf", "(C)Ljava/lang/String;"⟩ : MethodName) jdk_42_method_139_code 1 (some (.object "java/lang/String")) ws ({ frames := 2, cells := 2, slots := 5, locals := 27 } : Room) #[(.int q)] h0 (fun v h L => Fr n0 L ∧ Keep h0 h [] ∧ ((∃ (b : Addr), (v = some (.ref b)) ∧ (h0.size ≤ b) ∧ (Exa Z h b "java/lang/String")))) := by
  refine own_metN (plainFor_of_name own_pn11) ?_
  intro p e s m below meth c s₁ G hx hby hml hZ hown hnm hret X0 e0 go fin
  have N0 := Fr.nil n0
  refine go _ _ (fun _ k => castTop (own_ef_rm4 m q) k) ?_
  show G (s₁.setTop (mkF m 0 #[.val (.int q)] []))
  obtain ⟨T101, X101, e101, st101⟩ := getS2 X0 hx hZ (host := "") hown (Or.inl (ow hw 30 rfl)) Via.refl e0 (O2.ext Xo.2) (g := (mkF m 0 #[.val (.int q)] [])) rfl (hb hby own_d4_0)
  refine go _ _ (st101) ?_
  show G (T101.setTop (mkF m 3 #[.val (.int q)] [(.int z0)]))
  refine go _ _ (fun _ k => XS.ifNo X101.here hx rfl (hb hby own_d4_3) rfl ((if0 _ _).trans (feq P5).1) k) ?_
  show G (T101.setTop (mkF m 6 #[.val (.int q)] []))
  refine go _ _ (fun _ k => XS.iloadN X101.here hx rfl (hb hby own_d4_6) rfl k) ?_
  show G (T101.setTop (mkF m 7 #[.val (.int q)] [(.int q)]))
  obtain ⟨rv102, T102, L102, X102, q102, st102⟩ := own_st X101 hx hZ (y := (⟨"java/lang/StringLatin1", "canEncode", "(C)Z"⟩ : MethodName)) hown (ow hw 31 rfl) (ow hw 32 rfl) (ow hw 33 rfl) (ow hw 34 rfl) (by decide) (own_bkN (W := 0) (rm5 l Z a0 hw z0 O2 P5 dd kd O_dd V_dd mr M_mr el O_el em O_em [] q h0 n0 Z0 h2) hZ (ow hw 34 rfl) (ow hw 33 rfl) (by decide) (by decide)) e101 (g := (mkF m 7 #[.val (.int q)] [(.int q)])) rfl (by rw [hml]; rfl) (argsL := [(.int q)]) (rest := []) rfl (lenOf own_pd2 rfl) rfl (by show 2 * 0 + _ ≤ _; exact Nat.le_of_eq rfl) (hb hby own_d4_7) (by decide) (by decide)
  obtain ⟨Nq102, e102, rfl⟩ := q102
  have N102 := Fr.app N0 Nq102
  refine go _ _ (st102) ?_
  show G (T102.setTop (mkF m 10 #[.val (.int q)] [(.int (1 : Int32))]))
  refine go _ _ (fun _ k => XS.ifNo X102.here hx rfl (hb hby own_d4_10) rfl (by decide) k) ?_
  show G (T102.setTop (mkF m 13 #[.val (.int q)] []))
  obtain ⟨T103, h103, X103, e103, E103, A103, D103, -, st103⟩ := newO X102 hx hZ hown (ow hw 35 rfl) (ow hw 36 rfl) (ow hw 28 rfl) e102 (g := (mkF m 13 #[.val (.int q)] [])) rfl (hb hby own_d4_13) (by decide) (by decide)
  obtain ⟨b103, g103⟩ : ∃ z, z = h0.size := ⟨_, rfl⟩
  rw [← g103] at A103 D103 st103
  refine go _ _ (st103) ?_
  show G (T103.setTop (mkF m 16 #[.val (.int q)] [(.ref b103)]))
  refine go _ _ (fun _ k => XS.dup X103.here hx rfl (hb hby own_d4_16) rfl rfl (XS.iloadN X103.here hx rfl (hb hby own_d4_17) rfl k)) ?_
  show G (T103.setTop (mkF m 18 #[.val (.int q)] [(.int q), (.ref b103), (.ref b103)]))
  have Z105 : h0.size ≤ h103.size := E103.1
  obtain ⟨rv104, T104, L104, X104, q104, st104⟩ := own_st X103 hx hZ (y := (⟨"java/lang/StringLatin1", "toBytes", "(C)[B"⟩ : MethodName)) hown (ow hw 37 rfl) (ow hw 38 rfl) (ow hw 33 rfl) (ow hw 39 rfl) (by decide) (own_bkN (W := 2) (rm6 l Z a0 hw z0 O2 P5 dd kd O_dd V_dd mr M_mr el O_el em O_em [] q h103 n0 (Nat.le_trans Z0 Z105)) hZ (ow hw 39 rfl) (ow hw 33 rfl) (by decide) (by decide)) e103 (g := (mkF m 18 #[.val (.int q)] [(.int q), (.ref b103), (.ref b103)])) rfl (by rw [hml]; rfl) (argsL := [(.int q)]) (rest := [(.ref b103), (.ref b103)]) rfl (lenOf own_pd3 rfl) rfl (by show 2 * 0 + _ ≤ _; exact Nat.le_of_eq rfl) (hb hby own_d4_18) (by decide) (by decide)
  obtain ⟨Nq104, Kp104, ⟨b_106, kb_107, rfl, z108, f109⟩⟩ := q104
  have N104 := Fr.app N102 Nq104
  refine go _ _ (st104) ?_
  show G (T104.setTop (mkF m 21 #[.val (.int q)] [(.ref b_106), (.ref b103), (.ref b103)]))
  refine go _ _ (fun _ k => XS.iconst X104.here hx rfl (hb hby own_d4_21) k) ?_
  show G (T104.setTop (mkF m 22 #[.val (.int q)] [(.int (0 : Int32)), (.ref b_106), (.ref b103), (.ref b103)]))
  have K111 : Keep h103 T104.heap [] := (Keep.refl h103 []).trans Kp104 all0
  have F112 : Exa Z T104.heap b103 "java/lang/String" := (A103.keep K111)
  have F113 : Fld Z T104.heap b103 "java/lang/String" "value" "[B" .null := ((D103 (Or.inr (ow hw 47 rfl)) (ty := (.array .byte)) (by decide)).keep K111 nin0)
  have F114 : Fld Z T104.heap b103 "java/lang/String" "coder" "B" (.int (0 : Int32)) := ((D103 (Or.inr (ow hw 49 rfl)) (ty := .byte) (by decide)).keep K111 nin0)
  have Z115 : h0.size ≤ T104.heap.size := Nat.le_trans Z105 Kp104.1
  obtain ⟨rv110, T110, L110, X110, q110, st110⟩ := own_sp X104 hx hZ (y := (⟨"java/lang/String", "<init>", "([BB)V"⟩ : MethodName)) rfl hown (ow hw 41 rfl) (ow hw 42 rfl) (ow hw 44 rfl) (by decide) (own_bkN (W := 1) (rm7 l Z a0 hw z0 O2 P5 dd kd O_dd V_dd mr M_mr el O_el em O_em [] b103 b_106 T104.heap n0 (Nat.le_trans Z0 Z115) F112 F113 F114 (Nat.le_trans Z0 (Nat.le_of_eq g103.symm))) hZ (ow hw 44 rfl) (ow hw 28 rfl) (by decide) (by decide)) rfl (g := (mkF m 22 #[.val (.int q)] [(.int (0 : Int32)), (.ref b_106), (.ref b103), (.ref b103)])) rfl (by rw [hml]; rfl) (a := b103) (argsL := [(.ref b_106), (.int (0 : Int32))]) (rest := [(.ref b103)]) rfl (lenOf own_pd4 rfl) rfl (by show 2 * 0 + _ ≤ _; exact Nat.le_of_eq rfl) (hb hby own_d4_22) (by decide) (by decide)
  obtain ⟨Nq110, Kp110, ⟨rfl, f116⟩⟩ := q110
  have N110 := Fr.app N104 Nq110
  refine go _ _ (st110) ?_
  show G (T110.setTop (mkF m 25 #[.val (.int q)] [(.ref b103)]))
  have K117 : Keep h0 h103 [] := (Keep.refl h0 []).ext E103
  have K118 : Keep h0 T104.heap [] := K117.trans Kp104 all0
  have K119 : Keep h0 T110.heap [] := K118.trans Kp110 (allS (Or.inr (Nat.le_of_eq g103.symm)) all0)
  refine fin T110 _ _ _ (some (.ref b103)) X110 (fun q => nomatch q) (by decide) (by decide) ⟨N110, K119, ⟨b103, rfl, (Nat.le_of_eq g103.symm), f116⟩⟩ _ (own_retA X110 hx hret rfl rfl rfl (hb hby own_d4_25))
theorem own_d11_0 : decode jdk_38_method_6_code 0 = .ok (.aload_n 0, 1) := by decide +kernel
theorem own_d11_1 : decode jdk_38_method_6_code 1 = .ok (.getfield 9, 3) := by decide +kernel
theorem own_d11_4 : decode jdk_38_method_6_code 4 = .ok (.arraylength, 1) := by decide +kernel
theorem own_d11_5 : decode jdk_38_method_6_code 5 = .ok (.istore_n 2, 1) := by decide +kernel
theorem own_d11_6 : decode jdk_38_method_6_code 6 = .ok (.iload_n 2, 1) := by decide +kernel
theorem own_d11_7 : decode jdk_38_method_6_code 7 = .ok (.ifCond .gt 13, 3) := by decide +kernel
theorem own_d11_10 : decode jdk_38_method_6_code 10 = .ok (.aload_n 0, 1) := by decide +kernel
theorem own_d11_11 : decode jdk_38_method_6_code 11 = .ok (.getfield 9, 3) := by decide +kernel
theorem own_d11_14 : decode jdk_38_method_6_code 14 = .ok (.getstatic 39, 3) := by decide +kernel
theorem own_d11_17 : decode jdk_38_method_6_code 17 = .ok (.if_acmp .eq 28, 3) := by decide +kernel
theorem own_d11_20 : decode jdk_38_method_6_code 20 = .ok (.iload_n 2, 1) := by decide +kernel
theorem own_d11_21 : decode jdk_38_method_6_code 21 = .ok (.iload_n 1, 1) := by decide +kernel
theorem own_d11_22 : decode jdk_38_method_6_code 22 = .ok (.iload_n 2, 1) := by decide +kernel
theorem own_d11_23 : decode jdk_38_method_6_code 23 = .ok (.isub, 1) := by decide +kernel
theorem own_d11_24 : decode jdk_38_method_6_code 24 = .ok (.iload_n 2, 1) := by decide +kernel
theorem own_d11_25 : decode jdk_38_method_6_code 25 = .ok (.iconst 1, 1) := by decide +kernel
theorem own_d11_26 : decode jdk_38_method_6_code 26 = .ok (.ishr, 1) := by decide +kernel
theorem own_d11_27 : decode jdk_38_method_6_code 27 = .ok (.invokestatic 73, 3) := by decide +kernel
theorem own_d11_30 : decode jdk_38_method_6_code 30 = .ok (.istore_n 3, 1) := by decide +kernel
theorem own_d11_31 : decode jdk_38_method_6_code 31 = .ok (.aload_n 0, 1) := by decide +kernel
theorem own_d11_32 : decode jdk_38_method_6_code 32 = .ok (.aload_n 0, 1) := by decide +kernel
theorem own_d11_33 : decode jdk_38_method_6_code 33 = .ok (.getfield 9, 3) := by decide +kernel
theorem own_d11_36 : decode jdk_38_method_6_code 36 = .ok (.iload_n 3, 1) := by decide +kernel
theorem own_d11_37 : decode jdk_38_method_6_code 37 = .ok (.invokestatic 66, 3) := by decide +kernel
theorem own_d11_40 : decode jdk_38_method_6_code 40 = .ok (.dup_x1, 1) := by decide +kernel
theorem own_d11_41 : decode jdk_38_method_6_code 41 = .ok (.putfield 9, 3) := by decide +kernel
theorem own_d11_44 : decode jdk_38_method_6_code 44 = .ok (.areturn, 1) := by decide +kernel
theorem own_d11_45 : decode jdk_38_method_6_code 45 = .ok (.aload_n 0, 1) := by decide +kernel
theorem own_d11_46 : decode jdk_38_method_6_code 46 = .ok (.bipush 10, 2) := by decide +kernel
theorem own_d11_48 : decode jdk_38_method_6_code 48 = .ok (.iload_n 1, 1) := by decide +kernel
theorem own_d11_49 : decode jdk_38_method_6_code 49 = .ok (.invokestatic 79, 3) := by decide +kernel
theorem own_d11_52 : decode jdk_38_method_6_code 52 = .ok (.anewarray 7, 3) := by decide +kernel
theorem own_d11_55 : decode jdk_38_method_6_code 55 = .ok (.dup_x1, 1) := by decide +kernel
theorem own_d11_56 : decode jdk_38_method_6_code 56 = .ok (.putfield 9, 3) := by decide +kernel
theorem own_d11_59 : decode jdk_38_method_6_code 59 = .ok (.areturn, 1) := by decide +kernel
theorem own_pd5 : parseMethodDescriptor "(II)I" = some ⟨[.int, .int], some .int⟩ := by decide +kernel
set_option maxHeartbeats 4000000 in
theorem own_ef_rm11 (m : MethodId) (x0 : Addr) (x1 : Int32) : entryFrame m #[(.ref x0), (.int x1)] 4 = mkF m 0 #[.val (.ref x0), .val (.int x1), .unset, .unset] [] := by rfl
set_option maxRecDepth 65536 in
set_option maxHeartbeats 40000000 in
theorem rm11 (l : Launch) (Z : State) (a0 : Array Value) (hw : ∀ d ∈ tables_1, d.before a0 Z = true) (z0 : Int32) (O2 : Sta Z Z.heap "java/lang/String" "COMPACT_STRINGS" "Z" (.int z0)) (P5 : ¬ z0 = (0 : Int32)) (dd : Addr) (kd : ClassId) (O_dd : Sta Z Z.heap "java/util/ArrayList" "DEFAULTCAPACITY_EMPTY_ELEMENTDATA" "[Ljava/lang/Object;" (.ref dd)) (V_dd : Arv Z Z.heap dd kd (.object "java/lang/Object") (0 : Int32) [] .null) (mr : Addr) (M_mr : own_Mir Z "[Ljava/lang/Object;" mr) (el : Addr) (O_el : Sta Z Z.heap "java/util/ImmutableCollections" "EMPTY_LIST" "Ljava/util/ImmutableCollections$ListN;" (.ref el)) (em : Addr) (O_em : Sta Z Z.heap "java/util/ImmutableCollections" "EMPTY" "Ljava/lang/Object;" (.ref em)) (ws : List Jvm.Cond) (a : Addr) (mc : Int32) (h0 : Heap) (n0 : Nat) (Z0 : n0 ≤ h0.size) (Xo : Old Z n0 h0) (Ea : Exa Z h0 a "java/util/ArrayList") (Fe : Fld Z h0 a "java/util/ArrayList" "elementData" "[Ljava/lang/Object;" (.ref dd)) (Fs : Fld Z h0 a "java/util/ArrayList" "size" "I" (.int (0 : Int32))) (Fm : Fld Z h0 a "java/util/AbstractList" "modCount" "I" (.int mc)) (gz_a : n0 ≤ a) :
    own_MetN l Z (⟨"java/util/ArrayList", "grow", "(I)[Ljava/lang/Object;"⟩ : MethodName) jdk_38_method_6_code 4 (some (.array (.object "java/lang/Object"))) ws ({ frames := 1, cells := 1, slots := 10, locals := 14 } : Room) #[(.ref a), (.int (1 : Int32))] h0 (fun v h L => Fr n0 L ∧ Keep h0 h [a] ∧ ((∃ (b : Addr) (kb : ClassId), (v = some (.ref b)) ∧ (h0.size ≤ b) ∧ (Exa Z h a "java/util/ArrayList") ∧ (Fld Z h a "java/util/ArrayList" "elementData" "[Ljava/lang/Object;" (.ref b)) ∧ (Fld Z h a "java/util/ArrayList" "size" "I" (.int (0 : Int32))) ∧ (Fld Z h a "java/util/AbstractList" "modCount" "I" (.int mc)) ∧ (Exa Z h b "[Ljava/lang/Object;") ∧ (Arv Z h b kb (.object "java/lang/Object") (10 : Int32) [] .null) ∧ (Ovr Z kb "java/lang/Object")))) := by
  refine own_metN (plainFor_of_name own_pn3) ?_
  intro p e s m below meth c s₁ G hx hby hml hZ hown hnm hret X0 e0 go fin
  have N0 := Fr.nil n0
  refine go _ _ (fun _ k => castTop (own_ef_rm11 m a (1 : Int32)) k) ?_
  show G (s₁.setTop (mkF m 0 #[.val (.ref a), .val (.int (1 : Int32)), .unset, .unset] []))
  refine go _ _ (fun _ k => XS.aloadN X0.here hx rfl (hb hby own_d11_0) rfl rfl k) ?_
  show G (s₁.setTop (mkF m 1 #[.val (.ref a), .val (.int (1 : Int32)), .unset, .unset] [(.ref a)]))
  obtain ⟨T101, X101, e101, st101⟩ := getF X0 hx hZ hown (host := "") (Or.inl (ow hw 24 rfl)) Via.refl e0 Fe (g := (mkF m 1 #[.val (.ref a), .val (.int (1 : Int32)), .unset, .unset] [(.ref a)])) rfl rfl (hb hby own_d11_1)
  refine go _ _ (st101) ?_
  show G (T101.setTop (mkF m 4 #[.val (.ref a), .val (.int (1 : Int32)), .unset, .unset] [(.ref dd)]))
  obtain ⟨cl102, Ar102, q102, S102, M102, H102, U102⟩ := id (V_dd.ext Xo.2)
  refine go _ _ (fun _ k => X101.arraylength hx (by rw [e101]; exact Ar102.1) (State.isArrayOf_alike hZ.alike Ar102.2.1) (g := (mkF m 4 #[.val (.ref a), .val (.int (1 : Int32)), .unset, .unset] [(.ref dd)])) rfl rfl (hb hby own_d11_4) _ k) ?_
  show G (T101.setTop (mkF m 5 #[.val (.ref a), .val (.int (1 : Int32)), .unset, .unset] [(.int cl102.slots.size.toInt32)]))
  rw [len_of S102 M102]
  show G (T101.setTop (mkF m 5 #[.val (.ref a), .val (.int (1 : Int32)), .unset, .unset] [(.int (0 : Int32))]))
  refine go _ _ (fun _ k => XS.istoreN X101.here hx rfl (hb hby own_d11_5) rfl (l' := #[.val (.ref a), .val (.int (1 : Int32)), .val (.int (0 : Int32)), .unset]) rfl (XS.iloadN X101.here hx rfl (hb hby own_d11_6) rfl k)) ?_
  show G (T101.setTop (mkF m 7 #[.val (.ref a), .val (.int (1 : Int32)), .val (.int (0 : Int32)), .unset] [(.int (0 : Int32))]))
  refine go _ _ (fun _ k => XS.ifNo X101.here hx rfl (hb hby own_d11_7) rfl (by decide) k) ?_
  show G (T101.setTop (mkF m 10 #[.val (.ref a), .val (.int (1 : Int32)), .val (.int (0 : Int32)), .unset] []))
  refine go _ _ (fun _ k => XS.aloadN X101.here hx rfl (hb hby own_d11_10) rfl rfl k) ?_
  show G (T101.setTop (mkF m 11 #[.val (.ref a), .val (.int (1 : Int32)), .val (.int (0 : Int32)), .unset] [(.ref a)]))
  obtain ⟨T103, X103, e103, st103⟩ := getF X101 hx hZ hown (host := "") (Or.inl (ow hw 24 rfl)) Via.refl e101 Fe (g := (mkF m 11 #[.val (.ref a), .val (.int (1 : Int32)), .val (.int (0 : Int32)), .unset] [(.ref a)])) rfl rfl (hb hby own_d11_11)
  refine go _ _ (st103) ?_
  show G (T103.setTop (mkF m 14 #[.val (.ref a), .val (.int (1 : Int32)), .val (.int (0 : Int32)), .unset] [(.ref dd)]))
  obtain ⟨T104, X104, e104, st104⟩ := getS2 X103 hx hZ (host := "") hown (Or.inl (ow hw 23 rfl)) Via.refl e103 (O_dd.ext Xo.2) (g := (mkF m 14 #[.val (.ref a), .val (.int (1 : Int32)), .val (.int (0 : Int32)), .unset] [(.ref dd)])) rfl (hb hby own_d11_14)
  refine go _ _ (st104) ?_
  show G (T104.setTop (mkF m 17 #[.val (.ref a), .val (.int (1 : Int32)), .val (.int (0 : Int32)), .unset] [(.ref dd), (.ref dd)]))
  refine go _ _ (fun _ k => acmp X104 hx rfl rfl rfl (pc0 := 17) (pc' := 45) (same := true) rfl (hb hby own_d11_17) rfl (decide_eq_true rfl) (by decide) (by decide) k) ?_
  show G (T104.setTop (mkF m 45 #[.val (.ref a), .val (.int (1 : Int32)), .val (.int (0 : Int32)), .unset] []))
  refine go _ _ (fun _ k => XS.aloadN X104.here hx rfl (hb hby own_d11_45) rfl rfl (XS.bipush X104.here hx rfl (hb hby own_d11_46) (XS.iloadN X104.here hx rfl (hb hby own_d11_48) rfl k))) ?_
  show G (T104.setTop (mkF m 49 #[.val (.ref a), .val (.int (1 : Int32)), .val (.int (0 : Int32)), .unset] [(.int (1 : Int32)), (.int (10 : Int32)), (.ref a)]))
  obtain ⟨rv105, T105, L105, X105, q105, st105⟩ := own_st X104 hx hZ (y := (⟨"java/lang/Math", "max", "(II)I"⟩ : MethodName)) hown (ow hw 74 rfl) (ow hw 75 rfl) (ow hw 76 rfl) (ow hw 77 rfl) (by decide) (own_bkN (W := 1) (rm12 l Z a0 hw z0 O2 P5 dd kd O_dd V_dd mr M_mr el O_el em O_em [] (10 : Int32) (1 : Int32) h0 n0 Z0) hZ (ow hw 77 rfl) (ow hw 76 rfl) (by decide) (by decide)) e104 (g := (mkF m 49 #[.val (.ref a), .val (.int (1 : Int32)), .val (.int (0 : Int32)), .unset] [(.int (1 : Int32)), (.int (10 : Int32)), (.ref a)])) rfl (by rw [hml]; rfl) (argsL := [(.int (10 : Int32)), (.int (1 : Int32))]) (rest := [(.ref a)]) rfl (lenOf own_pd5 rfl) rfl (by show 2 * 0 + _ ≤ _; exact Nat.le_of_eq rfl) (hb hby own_d11_49) (by decide) (by decide)
  obtain ⟨Nq105, e105, q105⟩ := q105
  have N105 := Fr.app N0 Nq105
  rcases q105 with ⟨rfl, p106⟩ | ⟨rfl, p107⟩
  · exact absurd p106 (by decide)
  · refine go _ _ (st105) ?_
    show G (T105.setTop (mkF m 52 #[.val (.ref a), .val (.int (1 : Int32)), .val (.int (0 : Int32)), .unset] [(.int (10 : Int32)), (.ref a)]))
    obtain ⟨T108, h108, k108, X108, e108, E108, A108, Ex108, O108, st108⟩ := newRE X105 hx hZ hown (ow hw 78 rfl) (ow hw 79 rfl) e105 (g := (mkF m 52 #[.val (.ref a), .val (.int (1 : Int32)), .val (.int (0 : Int32)), .unset] [(.int (10 : Int32)), (.ref a)])) rfl (hb hby own_d11_52) rfl (by decide) (cap := 10) (by decide) (by decide) (by decide) (by decide) (ad := "[Ljava/lang/Object;") (by decide)
    obtain ⟨b108, g108⟩ : ∃ z, z = h0.size := ⟨_, rfl⟩
    rw [← g108] at A108 Ex108 st108
    have V108 : Arv Z h108 b108 k108 (.object "java/lang/Object") (10 : Int32) [] .null := Arv.new A108 (by decide)
    refine go _ _ (st108) ?_
    show G (T108.setTop (mkF m 55 #[.val (.ref a), .val (.int (1 : Int32)), .val (.int (0 : Int32)), .unset] [(.ref b108), (.ref a)]))
    refine go _ _ (fun _ k => XS.dupX1 X108.here hx rfl (hb hby own_d11_55) rfl rfl rfl k) ?_
    show G (T108.setTop (mkF m 56 #[.val (.ref a), .val (.int (1 : Int32)), .val (.int (0 : Int32)), .unset] [(.ref b108), (.ref a), (.ref b108)]))
    have K110 : Keep h0 h108 [] := (Keep.refl h0 []).ext E108
    have F111 : Fld Z h108 a "java/util/ArrayList" "elementData" "[Ljava/lang/Object;" (.ref dd) := (Fe.keep K110 nin0)
    have F112 : Exa Z h108 a "java/util/ArrayList" := (Ea.keep K110)
    obtain ⟨T109, h109, X109, e109, W109, st109⟩ := putF X108 hx hZ hown (host := "") (Or.inl (ow hw 24 rfl)) Via.refl e108 F111 F112 (Or.inl (ow hw 25 rfl)) (ow hw 1 rfl) (ty := (.array (.object "java/lang/Object"))) (by decide) rfl rfl (g := (mkF m 56 #[.val (.ref a), .val (.int (1 : Int32)), .val (.int (0 : Int32)), .unset] [(.ref b108), (.ref a), (.ref b108)])) rfl rfl (hb hby own_d11_56)
    have F113 : Fld Z h108 a "java/util/ArrayList" "size" "I" (.int (0 : Int32)) := (Fs.keep K110 nin0)
    have F114 : Fld Z h108 a "java/util/AbstractList" "modCount" "I" (.int mc) := (Fm.keep K110 nin0)
    have N109 := Fr.snoc X109 N105 gz_a
    refine go _ _ (st109) ?_
    show G (T109.setTop (mkF m 59 #[.val (.ref a), .val (.int (1 : Int32)), .val (.int (0 : Int32)), .unset] [(.ref b108)]))
    have K115 : Keep h0 h108 [a] := (Keep.refl h0 [a]).ext E108
    have K116 : Keep h0 h109 [a] := K115.wr W109 (Or.inl (List.mem_of_getElem? (i := 0) rfl))
    have K117 : Keep h108 h109 [a] := (Keep.refl h108 [a]).wr W109 (Or.inl (List.mem_of_getElem? (i := 0) rfl))
    have F118 : Exa Z h109 b108 "[Ljava/lang/Object;" := (Ex108.keep K117)
    have F119 : Arv Z h109 b108 k108 (.object "java/lang/Object") (10 : Int32) [] .null := (V108.keep K117 (ninS (Ne.symm (Nat.ne_of_lt (Nat.lt_of_lt_of_le Fe.lt (Nat.le_of_eq g108.symm)))) nin0))
    have F120 : Ovr Z k108 "java/lang/Object" := O108
    refine fin T109 _ _ _ (some (.ref b108)) X109 (fun q => nomatch q) (by decide) (by decide) (by rw [e109]; exact ⟨N109, K116, ⟨b108, k108, rfl, (Nat.le_of_eq g108.symm), (F112.wr W109), (F111.same W109), (F113.other W109 (Or.inr (RoadKit.slot_ne (t := .int) (t' := (.array (.object "java/lang/Object"))) (Or.inl (ow hw 58 rfl)) (Or.inl (ow hw 25 rfl)) (by decide) (by decide) (by decide)))), (F114.other W109 (Or.inr (RoadKit.slot_ne (t := .int) (t' := (.array (.object "java/lang/Object"))) (Or.inl (ow hw 22 rfl)) (Or.inl (ow hw 25 rfl)) (by decide) (by decide) (by decide)))), F118, F119, F120⟩⟩) _ (own_retA X109 hx hret rfl rfl rfl (hb hby own_d11_59))
theorem own_d10_0 : decode jdk_38_method_7_code 0 = .ok (.aload_n 0, 1) := by decide +kernel
theorem own_d10_1 : decode jdk_38_method_7_code 1 = .ok (.aload_n 0, 1) := by decide +kernel
theorem own_d10_2 : decode jdk_38_method_7_code 2 = .ok (.getfield 48, 3) := by decide +kernel
theorem own_d10_5 : decode jdk_38_method_7_code 5 = .ok (.iconst 1, 1) := by decide +kernel
theorem own_d10_6 : decode jdk_38_method_7_code 6 = .ok (.iadd, 1) := by decide +kernel
theorem own_d10_7 : decode jdk_38_method_7_code 7 = .ok (.invokevirtual 69, 3) := by decide +kernel
theorem own_d10_10 : decode jdk_38_method_7_code 10 = .ok (.areturn, 1) := by decide +kernel
theorem own_pd6 : parseMethodDescriptor "(I)[Ljava/lang/Object;" = some ⟨[.int], some (.array (.object "java/lang/Object"))⟩ := by decide +kernel
set_option maxHeartbeats 4000000 in
theorem own_ef_rm10 (m : MethodId) (x0 : Addr) : entryFrame m #[(.ref x0)] 1 = mkF m 0 #[.val (.ref x0)] [] := by rfl
set_option maxRecDepth 65536 in
set_option maxHeartbeats 40000000 in
theorem rm10 (l : Launch) (Z : State) (a0 : Array Value) (hw : ∀ d ∈ tables_1, d.before a0 Z = true) (z0 : Int32) (O2 : Sta Z Z.heap "java/lang/String" "COMPACT_STRINGS" "Z" (.int z0)) (P5 : ¬ z0 = (0 : Int32)) (dd : Addr) (kd : ClassId) (O_dd : Sta Z Z.heap "java/util/ArrayList" "DEFAULTCAPACITY_EMPTY_ELEMENTDATA" "[Ljava/lang/Object;" (.ref dd)) (V_dd : Arv Z Z.heap dd kd (.object "java/lang/Object") (0 : Int32) [] .null) (mr : Addr) (M_mr : own_Mir Z "[Ljava/lang/Object;" mr) (el : Addr) (O_el : Sta Z Z.heap "java/util/ImmutableCollections" "EMPTY_LIST" "Ljava/util/ImmutableCollections$ListN;" (.ref el)) (em : Addr) (O_em : Sta Z Z.heap "java/util/ImmutableCollections" "EMPTY" "Ljava/lang/Object;" (.ref em)) (ws : List Jvm.Cond) (a : Addr) (mc : Int32) (h0 : Heap) (n0 : Nat) (Z0 : n0 ≤ h0.size) (Xo : Old Z n0 h0) (Ea : Exa Z h0 a "java/util/ArrayList") (Fe : Fld Z h0 a "java/util/ArrayList" "elementData" "[Ljava/lang/Object;" (.ref dd)) (Fs : Fld Z h0 a "java/util/ArrayList" "size" "I" (.int (0 : Int32))) (Fm : Fld Z h0 a "java/util/AbstractList" "modCount" "I" (.int mc)) (gz_a : n0 ≤ a) :
    own_MetN l Z (⟨"java/util/ArrayList", "grow", "()[Ljava/lang/Object;"⟩ : MethodName) jdk_38_method_7_code 1 (some (.array (.object "java/lang/Object"))) ws ({ frames := 2, cells := 1, slots := 10, locals := 29 } : Room) #[(.ref a)] h0 (fun v h L => Fr n0 L ∧ Keep h0 h [a] ∧ ((∃ (b : Addr) (kb : ClassId), (v = some (.ref b)) ∧ (h0.size ≤ b) ∧ (Exa Z h a "java/util/ArrayList") ∧ (Fld Z h a "java/util/ArrayList" "elementData" "[Ljava/lang/Object;" (.ref b)) ∧ (Fld Z h a "java/util/ArrayList" "size" "I" (.int (0 : Int32))) ∧ (Fld Z h a "java/util/AbstractList" "modCount" "I" (.int mc)) ∧ (Exa Z h b "[Ljava/lang/Object;") ∧ (Arv Z h b kb (.object "java/lang/Object") (10 : Int32) [] .null) ∧ (Ovr Z kb "java/lang/Object")))) := by
  refine own_metN (plainFor_of_name own_pn3) ?_
  intro p e s m below meth c s₁ G hx hby hml hZ hown hnm hret X0 e0 go fin
  have N0 := Fr.nil n0
  refine go _ _ (fun _ k => castTop (own_ef_rm10 m a) k) ?_
  show G (s₁.setTop (mkF m 0 #[.val (.ref a)] []))
  refine go _ _ (fun _ k => XS.aloadN X0.here hx rfl (hb hby own_d10_0) rfl rfl (XS.aloadN X0.here hx rfl (hb hby own_d10_1) rfl rfl k)) ?_
  show G (s₁.setTop (mkF m 2 #[.val (.ref a)] [(.ref a), (.ref a)]))
  obtain ⟨T101, X101, e101, st101⟩ := getF X0 hx hZ hown (host := "") (Or.inl (ow hw 57 rfl)) Via.refl e0 Fs (g := (mkF m 2 #[.val (.ref a)] [(.ref a), (.ref a)])) rfl rfl (hb hby own_d10_2)
  refine go _ _ (st101) ?_
  show G (T101.setTop (mkF m 5 #[.val (.ref a)] [(.int (0 : Int32)), (.ref a)]))
  refine go _ _ (fun _ k => XS.iconst X101.here hx rfl (hb hby own_d10_5) (XS.iadd X101.here hx rfl (hb hby own_d10_6) rfl k)) ?_
  show G (T101.setTop (mkF m 7 #[.val (.ref a)] [(.int (1 : Int32)), (.ref a)]))
  obtain ⟨rv102, T102, L102, X102, q102, st102⟩ := own_pr X101 hx hZ (y := (⟨"java/util/ArrayList", "grow", "(I)[Ljava/lang/Object;"⟩ : MethodName)) hown (ow hw 69 rfl) (ow hw 70 rfl) (ow hw 72 rfl) (ow hw 71 rfl) (ow hw 73 rfl) (by decide) (own_bkN (W := 0) (rm11 l Z a0 hw z0 O2 P5 dd kd O_dd V_dd mr M_mr el O_el em O_em [] a mc h0 n0 Z0 Xo Ea Fe Fs Fm gz_a) hZ (ow hw 73 rfl) (ow hw 2 rfl) (by decide) (by decide)) e101 Ea (g := (mkF m 7 #[.val (.ref a)] [(.int (1 : Int32)), (.ref a)])) rfl (by rw [hml]; rfl) (argsL := [(.int (1 : Int32))]) (rest := []) rfl (lenOf own_pd6 rfl) rfl (by show 2 * 0 + _ ≤ _; exact Nat.le_of_eq rfl) (hb hby own_d10_7) (by decide) (by decide)
  obtain ⟨Nq102, Kp102, ⟨b_103, kb_104, rfl, z105, f106, f107, f108, f109, f110, f111, f112⟩⟩ := q102
  have N102 := Fr.app N0 Nq102
  refine go _ _ (st102) ?_
  show G (T102.setTop (mkF m 10 #[.val (.ref a)] [(.ref b_103)]))
  have K113 : Keep h0 T102.heap [a] := (Keep.refl h0 [a]).trans Kp102 (allS (Or.inl (List.mem_of_getElem? (i := 0) rfl)) all0)
  refine fin T102 _ _ _ (some (.ref b_103)) X102 (fun q => nomatch q) (by decide) (by decide) ⟨N102, K113, ⟨b_103, kb_104, rfl, z105, f106, f107, f108, f109, f110, f111, f112⟩⟩ _ (own_retA X102 hx hret rfl rfl rfl (hb hby own_d10_10))
theorem own_d9_0 : decode jdk_38_method_24_code 0 = .ok (.iload_n 3, 1) := by decide +kernel
theorem own_d9_1 : decode jdk_38_method_24_code 1 = .ok (.aload_n 2, 1) := by decide +kernel
theorem own_d9_2 : decode jdk_38_method_24_code 2 = .ok (.arraylength, 1) := by decide +kernel
theorem own_d9_3 : decode jdk_38_method_24_code 3 = .ok (.if_icmp .ne 8, 3) := by decide +kernel
theorem own_d9_6 : decode jdk_38_method_24_code 6 = .ok (.aload_n 0, 1) := by decide +kernel
theorem own_d9_7 : decode jdk_38_method_24_code 7 = .ok (.invokevirtual 129, 3) := by decide +kernel
theorem own_d9_10 : decode jdk_38_method_24_code 10 = .ok (.astore_n 2, 1) := by decide +kernel
theorem own_d9_11 : decode jdk_38_method_24_code 11 = .ok (.aload_n 2, 1) := by decide +kernel
theorem own_d9_12 : decode jdk_38_method_24_code 12 = .ok (.iload_n 3, 1) := by decide +kernel
theorem own_d9_13 : decode jdk_38_method_24_code 13 = .ok (.aload_n 1, 1) := by decide +kernel
theorem own_d9_14 : decode jdk_38_method_24_code 14 = .ok (.aastore, 1) := by decide +kernel
theorem own_d9_15 : decode jdk_38_method_24_code 15 = .ok (.aload_n 0, 1) := by decide +kernel
theorem own_d9_16 : decode jdk_38_method_24_code 16 = .ok (.iload_n 3, 1) := by decide +kernel
theorem own_d9_17 : decode jdk_38_method_24_code 17 = .ok (.iconst 1, 1) := by decide +kernel
theorem own_d9_18 : decode jdk_38_method_24_code 18 = .ok (.iadd, 1) := by decide +kernel
theorem own_d9_19 : decode jdk_38_method_24_code 19 = .ok (.putfield 48, 3) := by decide +kernel
theorem own_d9_22 : decode jdk_38_method_24_code 22 = .ok (.return_, 1) := by decide +kernel
theorem own_pd7 : parseMethodDescriptor "()[Ljava/lang/Object;" = some ⟨[], some (.array (.object "java/lang/Object"))⟩ := by decide +kernel
set_option maxHeartbeats 4000000 in
theorem own_ef_rmAddP0 (m : MethodId) (x0 : Addr) (x1 : Addr) (x2 : Addr) (x3 : Int32) : entryFrame m #[(.ref x0), (.ref x1), (.ref x2), (.int x3)] 4 = mkF m 0 #[.val (.ref x0), .val (.ref x1), .val (.ref x2), .val (.int x3)] [] := by rfl
set_option maxRecDepth 65536 in
set_option maxHeartbeats 40000000 in
theorem rmAddP0 (l : Launch) (Z : State) (a0 : Array Value) (hw : ∀ d ∈ tables_1, d.before a0 Z = true) (z0 : Int32) (O2 : Sta Z Z.heap "java/lang/String" "COMPACT_STRINGS" "Z" (.int z0)) (P5 : ¬ z0 = (0 : Int32)) (dd : Addr) (kd : ClassId) (O_dd : Sta Z Z.heap "java/util/ArrayList" "DEFAULTCAPACITY_EMPTY_ELEMENTDATA" "[Ljava/lang/Object;" (.ref dd)) (V_dd : Arv Z Z.heap dd kd (.object "java/lang/Object") (0 : Int32) [] .null) (mr : Addr) (M_mr : own_Mir Z "[Ljava/lang/Object;" mr) (el : Addr) (O_el : Sta Z Z.heap "java/util/ImmutableCollections" "EMPTY_LIST" "Ljava/util/ImmutableCollections$ListN;" (.ref el)) (em : Addr) (O_em : Sta Z Z.heap "java/util/ImmutableCollections" "EMPTY" "Ljava/lang/Object;" (.ref em)) (ws : List Jvm.Cond) (a : Addr) (q : Addr) (mc : Int32) (h0 : Heap) (n0 : Nat) (Z0 : n0 ≤ h0.size) (Xo : Old Z n0 h0) (Ea : Exa Z h0 a "java/util/ArrayList") (Fs : Fld Z h0 a "java/util/ArrayList" "size" "I" (.int (0 : Int32))) (Fm : Fld Z h0 a "java/util/AbstractList" "modCount" "I" (.int mc)) (Eq : Exa Z h0 q "java/lang/String") (Fe : Fld Z h0 a "java/util/ArrayList" "elementData" "[Ljava/lang/Object;" (.ref dd)) (gz_a : n0 ≤ a) :
    own_MetN l Z (⟨"java/util/ArrayList", "add", "(Ljava/lang/Object;[Ljava/lang/Object;I)V"⟩ : MethodName) jdk_38_method_24_code 4 none ws ({ frames := 3, cells := 1, slots := 10, locals := 41 } : Room) #[(.ref a), (.ref q), (.ref dd), (.int (0 : Int32))] h0 (fun v h L => Fr n0 L ∧ Keep h0 h [a] ∧ ((∃ (b : Addr) (kb : ClassId), (v = none) ∧ (h0.size ≤ b) ∧ (Exa Z h a "java/util/ArrayList") ∧ (Fld Z h a "java/util/ArrayList" "elementData" "[Ljava/lang/Object;" (.ref b)) ∧ (Fld Z h a "java/util/ArrayList" "size" "I" (.int (1 : Int32))) ∧ (Fld Z h a "java/util/AbstractList" "modCount" "I" (.int mc)) ∧ (Exa Z h b "[Ljava/lang/Object;") ∧ (Arv Z h b kb (.object "java/lang/Object") (10 : Int32) [(.ref q)] .null) ∧ (Ovr Z kb "java/lang/Object")))) := by
  refine own_metN (plainFor_of_name own_pn3) ?_
  intro p e s m below meth c s₁ G hx hby hml hZ hown hnm hret X0 e0 go fin
  have N0 := Fr.nil n0
  refine go _ _ (fun _ k => castTop (own_ef_rmAddP0 m a q dd (0 : Int32)) k) ?_
  show G (s₁.setTop (mkF m 0 #[.val (.ref a), .val (.ref q), .val (.ref dd), .val (.int (0 : Int32))] []))
  refine go _ _ (fun _ k => XS.iloadN X0.here hx rfl (hb hby own_d9_0) rfl (XS.aloadN X0.here hx rfl (hb hby own_d9_1) rfl rfl k)) ?_
  show G (s₁.setTop (mkF m 2 #[.val (.ref a), .val (.ref q), .val (.ref dd), .val (.int (0 : Int32))] [(.ref dd), (.int (0 : Int32))]))
  obtain ⟨cl101, Ar101, q101, S101, M101, H101, U101⟩ := id (V_dd.ext Xo.2)
  refine go _ _ (fun _ k => X0.arraylength hx (by rw [e0]; exact Ar101.1) (State.isArrayOf_alike hZ.alike Ar101.2.1) (g := (mkF m 2 #[.val (.ref a), .val (.ref q), .val (.ref dd), .val (.int (0 : Int32))] [(.ref dd), (.int (0 : Int32))])) rfl rfl (hb hby own_d9_2) _ k) ?_
  show G (s₁.setTop (mkF m 3 #[.val (.ref a), .val (.ref q), .val (.ref dd), .val (.int (0 : Int32))] [(.int cl101.slots.size.toInt32), (.int (0 : Int32))]))
  rw [len_of S101 M101]
  show G (s₁.setTop (mkF m 3 #[.val (.ref a), .val (.ref q), .val (.ref dd), .val (.int (0 : Int32))] [(.int (0 : Int32)), (.int (0 : Int32))]))
  refine go _ _ (fun _ k => XS.icmpNo X0.here hx rfl (hb hby own_d9_3) rfl (by decide) k) ?_
  show G (s₁.setTop (mkF m 6 #[.val (.ref a), .val (.ref q), .val (.ref dd), .val (.int (0 : Int32))] []))
  refine go _ _ (fun _ k => XS.aloadN X0.here hx rfl (hb hby own_d9_6) rfl rfl k) ?_
  show G (s₁.setTop (mkF m 7 #[.val (.ref a), .val (.ref q), .val (.ref dd), .val (.int (0 : Int32))] [(.ref a)]))
  obtain ⟨rv102, T102, L102, X102, q102, st102⟩ := own_pr X0 hx hZ (y := (⟨"java/util/ArrayList", "grow", "()[Ljava/lang/Object;"⟩ : MethodName)) hown (ow hw 64 rfl) (ow hw 65 rfl) (ow hw 67 rfl) (ow hw 66 rfl) (ow hw 68 rfl) (by decide) (own_bkN (W := 0) (rm10 l Z a0 hw z0 O2 P5 dd kd O_dd V_dd mr M_mr el O_el em O_em [] a mc h0 n0 Z0 Xo Ea Fe Fs Fm gz_a) hZ (ow hw 68 rfl) (ow hw 2 rfl) (by decide) (by decide)) e0 Ea (g := (mkF m 7 #[.val (.ref a), .val (.ref q), .val (.ref dd), .val (.int (0 : Int32))] [(.ref a)])) rfl (by rw [hml]; rfl) (argsL := []) (rest := []) rfl (lenOf own_pd7 rfl) rfl (by show 2 * 0 + _ ≤ _; exact Nat.le_of_eq rfl) (hb hby own_d9_7) (by decide) (by decide)
  obtain ⟨Nq102, Kp102, ⟨b_103, kb_104, rfl, z105, f106, f107, f108, f109, f110, f111, f112⟩⟩ := q102
  have N102 := Fr.app N0 Nq102
  refine go _ _ (st102) ?_
  show G (T102.setTop (mkF m 10 #[.val (.ref a), .val (.ref q), .val (.ref dd), .val (.int (0 : Int32))] [(.ref b_103)]))
  refine go _ _ (fun _ k => XS.astoreN X102.here hx rfl (hb hby own_d9_10) rfl rfl (l' := #[.val (.ref a), .val (.ref q), .val (.ref b_103), .val (.int (0 : Int32))]) rfl (XS.aloadN X102.here hx rfl (hb hby own_d9_11) rfl rfl (XS.iloadN X102.here hx rfl (hb hby own_d9_12) rfl (XS.aloadN X102.here hx rfl (hb hby own_d9_13) rfl rfl k)))) ?_
  show G (T102.setTop (mkF m 14 #[.val (.ref a), .val (.ref q), .val (.ref b_103), .val (.int (0 : Int32))] [(.ref q), (.int (0 : Int32)), (.ref b_103)]))
  have Vp113 : Arv Z T102.heap b_103 kb_104 (.object "java/lang/Object") (10 : Int32) [.null] .null := f111.pad (pad_rep [] .null 1)
  obtain ⟨cl113, Ar113, q113, S113, M113, H113, U113⟩ := id Vp113
  have K114 : Keep h0 T102.heap [a] := (Keep.refl h0 [a]).trans Kp102 (allS (Or.inl (List.mem_of_getElem? (i := 0) rfl)) all0)
  have F115 : Exa Z T102.heap q "java/lang/String" := (Eq.keep K114)
  obtain ⟨T113, h113, X113, e113, W113, st113⟩ := stR X102 hx hZ rfl Ar113 (j := (0 : Int32)) (inb_of S113 ⟨by decide, by decide⟩) rfl (Sto.ofV Ar113 q113 f112 (Ins.of_exa F115 (ow hw 80 rfl))) (g := (mkF m 14 #[.val (.ref a), .val (.ref q), .val (.ref b_103), .val (.int (0 : Int32))] [(.ref q), (.int (0 : Int32)), (.ref b_103)])) rfl rfl (hb hby own_d9_14)
  have V113 : Arv Z h113 b_103 kb_104 (.object "java/lang/Object") (10 : Int32) [(.ref q)] .null := Arv.set Ar113 q113 S113 M113 H113 U113 rfl W113 0 rfl (Nat.le_of_ble_eq_true rfl)
  have N113 := Fr.snoc X113 N102 (Nat.le_trans Z0 z105)
  refine go _ _ (st113) ?_
  show G (T113.setTop (mkF m 15 #[.val (.ref a), .val (.ref q), .val (.ref b_103), .val (.int (0 : Int32))] []))
  refine go _ _ (fun _ k => XS.aloadN X113.here hx rfl (hb hby own_d9_15) rfl rfl (XS.iloadN X113.here hx rfl (hb hby own_d9_16) rfl (XS.iconst X113.here hx rfl (hb hby own_d9_17) (XS.iadd X113.here hx rfl (hb hby own_d9_18) rfl k)))) ?_
  show G (T113.setTop (mkF m 19 #[.val (.ref a), .val (.ref q), .val (.ref b_103), .val (.int (0 : Int32))] [(.int (1 : Int32)), (.ref a)]))
  have K117 : Keep T102.heap h113 [b_103] := (Keep.refl T102.heap [b_103]).wr W113 (Or.inl (List.mem_of_getElem? (i := 0) rfl))
  have F118 : Fld Z h113 a "java/util/ArrayList" "size" "I" (.int (0 : Int32)) := (f108.keep K117 (ninS (Nat.ne_of_lt (Nat.lt_of_lt_of_le Ea.lt z105)) nin0))
  have F119 : Exa Z h113 a "java/util/ArrayList" := (f106.keep K117)
  obtain ⟨T116, h116, X116, e116, W116, st116⟩ := putF X113 hx hZ hown (host := "") (Or.inl (ow hw 57 rfl)) Via.refl e113 F118 F119 (Or.inl (ow hw 58 rfl)) (ow hw 1 rfl) (ty := .int) (by decide) rfl rfl (g := (mkF m 19 #[.val (.ref a), .val (.ref q), .val (.ref b_103), .val (.int (0 : Int32))] [(.int (1 : Int32)), (.ref a)])) rfl rfl (hb hby own_d9_19)
  have F120 : Fld Z h113 a "java/util/AbstractList" "modCount" "I" (.int mc) := (f109.keep K117 (ninS (Nat.ne_of_lt (Nat.lt_of_lt_of_le Ea.lt z105)) nin0))
  have F121 : Fld Z h113 a "java/util/ArrayList" "elementData" "[Ljava/lang/Object;" (.ref b_103) := (f107.keep K117 (ninS (Nat.ne_of_lt (Nat.lt_of_lt_of_le Ea.lt z105)) nin0))
  have N116 := Fr.snoc X116 N113 gz_a
  refine go _ _ (st116) ?_
  show G (T116.setTop (mkF m 22 #[.val (.ref a), .val (.ref q), .val (.ref b_103), .val (.int (0 : Int32))] []))
  have K122 : Keep h0 h113 [a] := K114.wr W113 (Or.inr z105)
  have K123 : Keep h0 h116 [a] := K122.wr W116 (Or.inl (List.mem_of_getElem? (i := 0) rfl))
  have K124 : Keep h113 h116 [a] := (Keep.refl h113 [a]).wr W116 (Or.inl (List.mem_of_getElem? (i := 0) rfl))
  have F125 : Exa Z h116 b_103 "[Ljava/lang/Object;" := ((f110.wr W113).keep K124)
  have F126 : Arv Z h116 b_103 kb_104 (.object "java/lang/Object") (10 : Int32) [(.ref q)] .null := (V113.keep K124 (ninS (Ne.symm (Nat.ne_of_lt (Nat.lt_of_lt_of_le Ea.lt z105))) nin0))
  have K127 : Keep T102.heap h113 [b_103, a] := (Keep.refl T102.heap [b_103, a]).wr W113 (Or.inl (List.mem_of_getElem? (i := 0) rfl))
  have K128 : Keep T102.heap h116 [b_103, a] := K127.wr W116 (Or.inl (List.mem_of_getElem? (i := 1) rfl))
  have F129 : Ovr Z kb_104 "java/lang/Object" := f112
  refine fin T116 _ _ _ none X116 (fun _ => rfl) (by decide) (by decide) (by rw [e116]; exact ⟨N116, K123, ⟨b_103, kb_104, rfl, z105, (F119.wr W116), (F121.other W116 (Or.inr (RoadKit.slot_ne (t := (.array (.object "java/lang/Object"))) (t' := .int) (Or.inl (ow hw 25 rfl)) (Or.inl (ow hw 58 rfl)) (by decide) (by decide) (by decide)))), (F118.same W116), (F120.other W116 (Or.inr (RoadKit.slot_ne (t := .int) (t' := .int) (Or.inl (ow hw 22 rfl)) (Or.inl (ow hw 58 rfl)) (by decide) (by decide) (by decide)))), F125, F126, F129⟩⟩) _ (own_retV X116 hx hret (hb hby own_d9_22))
theorem own_d8_0 : decode jdk_38_method_25_code 0 = .ok (.aload_n 0, 1) := by decide +kernel
theorem own_d8_1 : decode jdk_38_method_25_code 1 = .ok (.dup, 1) := by decide +kernel
theorem own_d8_2 : decode jdk_38_method_25_code 2 = .ok (.getfield 63, 3) := by decide +kernel
theorem own_d8_5 : decode jdk_38_method_25_code 5 = .ok (.iconst 1, 1) := by decide +kernel
theorem own_d8_6 : decode jdk_38_method_25_code 6 = .ok (.iadd, 1) := by decide +kernel
theorem own_d8_7 : decode jdk_38_method_25_code 7 = .ok (.putfield 63, 3) := by decide +kernel
theorem own_d8_10 : decode jdk_38_method_25_code 10 = .ok (.aload_n 0, 1) := by decide +kernel
theorem own_d8_11 : decode jdk_38_method_25_code 11 = .ok (.aload_n 1, 1) := by decide +kernel
theorem own_d8_12 : decode jdk_38_method_25_code 12 = .ok (.aload_n 0, 1) := by decide +kernel
theorem own_d8_13 : decode jdk_38_method_25_code 13 = .ok (.getfield 9, 3) := by decide +kernel
theorem own_d8_16 : decode jdk_38_method_25_code 16 = .ok (.aload_n 0, 1) := by decide +kernel
theorem own_d8_17 : decode jdk_38_method_25_code 17 = .ok (.getfield 48, 3) := by decide +kernel
theorem own_d8_20 : decode jdk_38_method_25_code 20 = .ok (.invokevirtual 131, 3) := by decide +kernel
theorem own_d8_23 : decode jdk_38_method_25_code 23 = .ok (.iconst 1, 1) := by decide +kernel
theorem own_d8_24 : decode jdk_38_method_25_code 24 = .ok (.ireturn, 1) := by decide +kernel
theorem own_pd8 : parseMethodDescriptor "(Ljava/lang/Object;[Ljava/lang/Object;I)V" = some ⟨[(.object "java/lang/Object"), (.array (.object "java/lang/Object")), .int], none⟩ := by decide +kernel
set_option maxHeartbeats 4000000 in
theorem own_ef_rmAdd0 (m : MethodId) (x0 : Addr) (x1 : Addr) : entryFrame m #[(.ref x0), (.ref x1)] 2 = mkF m 0 #[.val (.ref x0), .val (.ref x1)] [] := by rfl
set_option maxRecDepth 65536 in
set_option maxHeartbeats 40000000 in
theorem rmAdd0 (l : Launch) (Z : State) (a0 : Array Value) (hw : ∀ d ∈ tables_1, d.before a0 Z = true) (z0 : Int32) (O2 : Sta Z Z.heap "java/lang/String" "COMPACT_STRINGS" "Z" (.int z0)) (P5 : ¬ z0 = (0 : Int32)) (dd : Addr) (kd : ClassId) (O_dd : Sta Z Z.heap "java/util/ArrayList" "DEFAULTCAPACITY_EMPTY_ELEMENTDATA" "[Ljava/lang/Object;" (.ref dd)) (V_dd : Arv Z Z.heap dd kd (.object "java/lang/Object") (0 : Int32) [] .null) (mr : Addr) (M_mr : own_Mir Z "[Ljava/lang/Object;" mr) (el : Addr) (O_el : Sta Z Z.heap "java/util/ImmutableCollections" "EMPTY_LIST" "Ljava/util/ImmutableCollections$ListN;" (.ref el)) (em : Addr) (O_em : Sta Z Z.heap "java/util/ImmutableCollections" "EMPTY" "Ljava/lang/Object;" (.ref em)) (ws : List Jvm.Cond) (a : Addr) (q : Addr) (mc : Int32) (h0 : Heap) (n0 : Nat) (Z0 : n0 ≤ h0.size) (Xo : Old Z n0 h0) (Ea : Exa Z h0 a "java/util/ArrayList") (Fs : Fld Z h0 a "java/util/ArrayList" "size" "I" (.int (0 : Int32))) (Fm : Fld Z h0 a "java/util/AbstractList" "modCount" "I" (.int mc)) (Eq : Exa Z h0 q "java/lang/String") (Fe : Fld Z h0 a "java/util/ArrayList" "elementData" "[Ljava/lang/Object;" (.ref dd)) (gz_a : n0 ≤ a) :
    own_MetN l Z (⟨"java/util/ArrayList", "add", "(Ljava/lang/Object;)Z"⟩ : MethodName) jdk_38_method_25_code 2 (some .boolean) ws ({ frames := 4, cells := 1, slots := 10, locals := 56 } : Room) #[(.ref a), (.ref q)] h0 (fun v h L => Fr n0 L ∧ Keep h0 h [a] ∧ ((∃ (b : Addr) (kb : ClassId), (v = some (.int (1 : Int32))) ∧ (h0.size ≤ b) ∧ (Exa Z h a "java/util/ArrayList") ∧ (Fld Z h a "java/util/ArrayList" "elementData" "[Ljava/lang/Object;" (.ref b)) ∧ (Fld Z h a "java/util/ArrayList" "size" "I" (.int (1 : Int32))) ∧ (Fld Z h a "java/util/AbstractList" "modCount" "I" (.int (mc + (1 : Int32)))) ∧ (Exa Z h b "[Ljava/lang/Object;") ∧ (Arv Z h b kb (.object "java/lang/Object") (10 : Int32) [(.ref q)] .null) ∧ (Ovr Z kb "java/lang/Object")))) := by
  refine own_metN (plainFor_of_name own_pn3) ?_
  intro p e s m below meth c s₁ G hx hby hml hZ hown hnm hret X0 e0 go fin
  have N0 := Fr.nil n0
  refine go _ _ (fun _ k => castTop (own_ef_rmAdd0 m a q) k) ?_
  show G (s₁.setTop (mkF m 0 #[.val (.ref a), .val (.ref q)] []))
  refine go _ _ (fun _ k => XS.aloadN X0.here hx rfl (hb hby own_d8_0) rfl rfl (XS.dup X0.here hx rfl (hb hby own_d8_1) rfl rfl k)) ?_
  show G (s₁.setTop (mkF m 2 #[.val (.ref a), .val (.ref q)] [(.ref a), (.ref a)]))
  obtain ⟨T101, X101, e101, st101⟩ := getF X0 hx hZ hown (host := "") (Or.inl (ow hw 55 rfl)) (Via.of (ow hw 56 rfl)) e0 Fm (g := (mkF m 2 #[.val (.ref a), .val (.ref q)] [(.ref a), (.ref a)])) rfl rfl (hb hby own_d8_2)
  refine go _ _ (st101) ?_
  show G (T101.setTop (mkF m 5 #[.val (.ref a), .val (.ref q)] [(.int mc), (.ref a)]))
  refine go _ _ (fun _ k => XS.iconst X101.here hx rfl (hb hby own_d8_5) (XS.iadd X101.here hx rfl (hb hby own_d8_6) rfl k)) ?_
  show G (T101.setTop (mkF m 7 #[.val (.ref a), .val (.ref q)] [(.int (mc + (1 : Int32))), (.ref a)]))
  obtain ⟨T102, h102, X102, e102, W102, st102⟩ := putF X101 hx hZ hown (host := "") (Or.inl (ow hw 55 rfl)) (Via.of (ow hw 56 rfl)) e101 Fm Ea (Or.inl (ow hw 22 rfl)) (ow hw 1 rfl) (ty := .int) (by decide) rfl rfl (g := (mkF m 7 #[.val (.ref a), .val (.ref q)] [(.int (mc + (1 : Int32))), (.ref a)])) rfl rfl (hb hby own_d8_7)
  have N102 := Fr.snoc X102 N0 gz_a
  refine go _ _ (st102) ?_
  show G (T102.setTop (mkF m 10 #[.val (.ref a), .val (.ref q)] []))
  refine go _ _ (fun _ k => XS.aloadN X102.here hx rfl (hb hby own_d8_10) rfl rfl (XS.aloadN X102.here hx rfl (hb hby own_d8_11) rfl rfl (XS.aloadN X102.here hx rfl (hb hby own_d8_12) rfl rfl k))) ?_
  show G (T102.setTop (mkF m 13 #[.val (.ref a), .val (.ref q)] [(.ref a), (.ref q), (.ref a)]))
  obtain ⟨T103, X103, e103, st103⟩ := getF X102 hx hZ hown (host := "") (Or.inl (ow hw 24 rfl)) Via.refl e102 (Fe.other W102 (Or.inr (RoadKit.slot_ne (t := (.array (.object "java/lang/Object"))) (t' := .int) (Or.inl (ow hw 25 rfl)) (Or.inl (ow hw 22 rfl)) (by decide) (by decide) (by decide)))) (g := (mkF m 13 #[.val (.ref a), .val (.ref q)] [(.ref a), (.ref q), (.ref a)])) rfl rfl (hb hby own_d8_13)
  refine go _ _ (st103) ?_
  show G (T103.setTop (mkF m 16 #[.val (.ref a), .val (.ref q)] [(.ref dd), (.ref q), (.ref a)]))
  refine go _ _ (fun _ k => XS.aloadN X103.here hx rfl (hb hby own_d8_16) rfl rfl k) ?_
  show G (T103.setTop (mkF m 17 #[.val (.ref a), .val (.ref q)] [(.ref a), (.ref dd), (.ref q), (.ref a)]))
  obtain ⟨T104, X104, e104, st104⟩ := getF X103 hx hZ hown (host := "") (Or.inl (ow hw 57 rfl)) Via.refl e103 (Fs.other W102 (Or.inr (RoadKit.slot_ne (t := .int) (t' := .int) (Or.inl (ow hw 58 rfl)) (Or.inl (ow hw 22 rfl)) (by decide) (by decide) (by decide)))) (g := (mkF m 17 #[.val (.ref a), .val (.ref q)] [(.ref a), (.ref dd), (.ref q), (.ref a)])) rfl rfl (hb hby own_d8_17)
  refine go _ _ (st104) ?_
  show G (T104.setTop (mkF m 20 #[.val (.ref a), .val (.ref q)] [(.int (0 : Int32)), (.ref dd), (.ref q), (.ref a)]))
  have K106 : Keep h0 h102 [a] := (Keep.refl h0 [a]).wr W102 (Or.inl (List.mem_of_getElem? (i := 0) rfl))
  have F107 : Old Z n0 h102 := (Xo.keep K106 (allS gz_a all0))
  have F108 : Exa Z h102 q "java/lang/String" := (Eq.keep K106)
  have Z109 : h0.size ≤ h102.size := (Keep.of_wr W102).1
  obtain ⟨rv105, T105, L105, X105, q105, st105⟩ := own_pr X104 hx hZ (y := (⟨"java/util/ArrayList", "add", "(Ljava/lang/Object;[Ljava/lang/Object;I)V"⟩ : MethodName)) hown (ow hw 59 rfl) (ow hw 60 rfl) (ow hw 62 rfl) (ow hw 61 rfl) (ow hw 63 rfl) (by decide) (own_bkN (W := 0) (rmAddP0 l Z a0 hw z0 O2 P5 dd kd O_dd V_dd mr M_mr el O_el em O_em [] a q (mc + (1 : Int32)) h102 n0 (Nat.le_trans Z0 Z109) F107 (Ea.wr W102) (Fs.other W102 (Or.inr (RoadKit.slot_ne (t := .int) (t' := .int) (Or.inl (ow hw 58 rfl)) (Or.inl (ow hw 22 rfl)) (by decide) (by decide) (by decide)))) (Fm.same W102) F108 (Fe.other W102 (Or.inr (RoadKit.slot_ne (t := (.array (.object "java/lang/Object"))) (t' := .int) (Or.inl (ow hw 25 rfl)) (Or.inl (ow hw 22 rfl)) (by decide) (by decide) (by decide)))) gz_a) hZ (ow hw 63 rfl) (ow hw 2 rfl) (by decide) (by decide)) e104 (Ea.wr W102) (g := (mkF m 20 #[.val (.ref a), .val (.ref q)] [(.int (0 : Int32)), (.ref dd), (.ref q), (.ref a)])) rfl (by rw [hml]; rfl) (argsL := [(.ref q), (.ref dd), (.int (0 : Int32))]) (rest := []) rfl (lenOf own_pd8 rfl) rfl (by show 2 * 0 + _ ≤ _; exact Nat.le_of_eq rfl) (hb hby own_d8_20) (by decide) (by decide)
  obtain ⟨Nq105, Kp105, ⟨b_110, kb_111, rfl, z112, f113, f114, f115, f116, f117, f118, f119⟩⟩ := q105
  have N105 := Fr.app N102 Nq105
  refine go _ _ (st105) ?_
  show G (T105.setTop (mkF m 23 #[.val (.ref a), .val (.ref q)] []))
  refine go _ _ (fun _ k => XS.iconst X105.here hx rfl (hb hby own_d8_23) k) ?_
  show G (T105.setTop (mkF m 24 #[.val (.ref a), .val (.ref q)] [(.int (1 : Int32))]))
  have K120 : Keep h0 T105.heap [a] := K106.trans Kp105 (allS (Or.inl (List.mem_of_getElem? (i := 0) rfl)) all0)
  refine fin T105 _ _ _ (some (.int (1 : Int32))) X105 (fun q => nomatch q) (by decide) (by decide) ⟨N105, K120, ⟨b_110, kb_111, rfl, (Nat.le_trans Z109 z112), f113, f114, f115, f116, f117, f118, f119⟩⟩ _ (own_retN X105 hx (z := (1 : Int32)) (t := .boolean) hret (by simp) (hb hby own_d8_24))
set_option maxHeartbeats 4000000 in
theorem own_ef_rmAddP1 (m : MethodId) (x0 : Addr) (x1 : Addr) (x2 : Addr) (x3 : Int32) : entryFrame m #[(.ref x0), (.ref x1), (.ref x2), (.int x3)] 4 = mkF m 0 #[.val (.ref x0), .val (.ref x1), .val (.ref x2), .val (.int x3)] [] := by rfl
set_option maxRecDepth 65536 in
set_option maxHeartbeats 40000000 in
theorem rmAddP1 (l : Launch) (Z : State) (a0 : Array Value) (hw : ∀ d ∈ tables_1, d.before a0 Z = true) (z0 : Int32) (O2 : Sta Z Z.heap "java/lang/String" "COMPACT_STRINGS" "Z" (.int z0)) (P5 : ¬ z0 = (0 : Int32)) (dd : Addr) (kd : ClassId) (O_dd : Sta Z Z.heap "java/util/ArrayList" "DEFAULTCAPACITY_EMPTY_ELEMENTDATA" "[Ljava/lang/Object;" (.ref dd)) (V_dd : Arv Z Z.heap dd kd (.object "java/lang/Object") (0 : Int32) [] .null) (mr : Addr) (M_mr : own_Mir Z "[Ljava/lang/Object;" mr) (el : Addr) (O_el : Sta Z Z.heap "java/util/ImmutableCollections" "EMPTY_LIST" "Ljava/util/ImmutableCollections$ListN;" (.ref el)) (em : Addr) (O_em : Sta Z Z.heap "java/util/ImmutableCollections" "EMPTY" "Ljava/lang/Object;" (.ref em)) (ws : List Jvm.Cond) (a : Addr) (q : Addr) (t : Addr) (mc : Int32) (kb : ClassId) (ee0 : Addr) (h0 : Heap) (n0 : Nat) (Z0 : n0 ≤ h0.size) (Xo : Old Z n0 h0) (Ea : Exa Z h0 a "java/util/ArrayList") (Fs : Fld Z h0 a "java/util/ArrayList" "size" "I" (.int (1 : Int32))) (Fm : Fld Z h0 a "java/util/AbstractList" "modCount" "I" (.int mc)) (Eq : Exa Z h0 q "java/lang/String") (Fe : Fld Z h0 a "java/util/ArrayList" "elementData" "[Ljava/lang/Object;" (.ref t)) (Et : Exa Z h0 t "[Ljava/lang/Object;") (At : Arv Z h0 t kb (.object "java/lang/Object") (10 : Int32) [(.ref ee0)] .null) (Ot : Ovr Z kb "java/lang/Object") (gz_a : n0 ≤ a) (gz_t : n0 ≤ t) :
    own_MetN l Z (⟨"java/util/ArrayList", "add", "(Ljava/lang/Object;[Ljava/lang/Object;I)V"⟩ : MethodName) jdk_38_method_24_code 4 none ws ({ frames := 0, cells := 0, slots := 0, locals := 0 } : Room) #[(.ref a), (.ref q), (.ref t), (.int (1 : Int32))] h0 (fun v h L => Fr n0 L ∧ Keep h0 h [a, t] ∧ (((v = none) ∧ (Exa Z h a "java/util/ArrayList") ∧ (Fld Z h a "java/util/ArrayList" "elementData" "[Ljava/lang/Object;" (.ref t)) ∧ (Fld Z h a "java/util/ArrayList" "size" "I" (.int (2 : Int32))) ∧ (Fld Z h a "java/util/AbstractList" "modCount" "I" (.int mc)) ∧ (Exa Z h t "[Ljava/lang/Object;") ∧ (Arv Z h t kb (.object "java/lang/Object") (10 : Int32) [(.ref ee0), (.ref q)] .null)))) := by
  refine own_metN (plainFor_of_name own_pn3) ?_
  intro p e s m below meth c s₁ G hx hby hml hZ hown hnm hret X0 e0 go fin
  have N0 := Fr.nil n0
  refine go _ _ (fun _ k => castTop (own_ef_rmAddP1 m a q t (1 : Int32)) k) ?_
  show G (s₁.setTop (mkF m 0 #[.val (.ref a), .val (.ref q), .val (.ref t), .val (.int (1 : Int32))] []))
  refine go _ _ (fun _ k => XS.iloadN X0.here hx rfl (hb hby own_d9_0) rfl (XS.aloadN X0.here hx rfl (hb hby own_d9_1) rfl rfl k)) ?_
  show G (s₁.setTop (mkF m 2 #[.val (.ref a), .val (.ref q), .val (.ref t), .val (.int (1 : Int32))] [(.ref t), (.int (1 : Int32))]))
  obtain ⟨cl101, Ar101, q101, S101, M101, H101, U101⟩ := id At
  refine go _ _ (fun _ k => X0.arraylength hx (by rw [e0]; exact Ar101.1) (State.isArrayOf_alike hZ.alike Ar101.2.1) (g := (mkF m 2 #[.val (.ref a), .val (.ref q), .val (.ref t), .val (.int (1 : Int32))] [(.ref t), (.int (1 : Int32))])) rfl rfl (hb hby own_d9_2) _ k) ?_
  show G (s₁.setTop (mkF m 3 #[.val (.ref a), .val (.ref q), .val (.ref t), .val (.int (1 : Int32))] [(.int cl101.slots.size.toInt32), (.int (1 : Int32))]))
  rw [len_of S101 M101]
  show G (s₁.setTop (mkF m 3 #[.val (.ref a), .val (.ref q), .val (.ref t), .val (.int (1 : Int32))] [(.int (10 : Int32)), (.int (1 : Int32))]))
  refine go _ _ (fun _ k => XS.icmpYes X0.here hx rfl (pc0 := 3) (pc' := 11) rfl (hb hby own_d9_3) rfl (by decide) (by decide) (by decide) k) ?_
  show G (s₁.setTop (mkF m 11 #[.val (.ref a), .val (.ref q), .val (.ref t), .val (.int (1 : Int32))] []))
  refine go _ _ (fun _ k => XS.aloadN X0.here hx rfl (hb hby own_d9_11) rfl rfl (XS.iloadN X0.here hx rfl (hb hby own_d9_12) rfl (XS.aloadN X0.here hx rfl (hb hby own_d9_13) rfl rfl k))) ?_
  show G (s₁.setTop (mkF m 14 #[.val (.ref a), .val (.ref q), .val (.ref t), .val (.int (1 : Int32))] [(.ref q), (.int (1 : Int32)), (.ref t)]))
  have Vp102 : Arv Z h0 t kb (.object "java/lang/Object") (10 : Int32) [(.ref ee0), .null] .null := At.pad (pad_rep [(.ref ee0)] .null 1)
  obtain ⟨cl102, Ar102, q102, S102, M102, H102, U102⟩ := id Vp102
  obtain ⟨T102, h102, X102, e102, W102, st102⟩ := stR X0 hx hZ e0 Ar102 (j := (1 : Int32)) (inb_of S102 ⟨by decide, by decide⟩) rfl (Sto.ofV Ar102 q102 Ot (Ins.of_exa Eq (ow hw 80 rfl))) (g := (mkF m 14 #[.val (.ref a), .val (.ref q), .val (.ref t), .val (.int (1 : Int32))] [(.ref q), (.int (1 : Int32)), (.ref t)])) rfl rfl (hb hby own_d9_14)
  have V102 : Arv Z h102 t kb (.object "java/lang/Object") (10 : Int32) [(.ref ee0), (.ref q)] .null := Arv.set Ar102 q102 S102 M102 H102 U102 rfl W102 1 rfl (Nat.le_of_ble_eq_true rfl)
  have N102 := Fr.snoc X102 N0 gz_t
  refine go _ _ (st102) ?_
  show G (T102.setTop (mkF m 15 #[.val (.ref a), .val (.ref q), .val (.ref t), .val (.int (1 : Int32))] []))
  refine go _ _ (fun _ k => XS.aloadN X102.here hx rfl (hb hby own_d9_15) rfl rfl (XS.iloadN X102.here hx rfl (hb hby own_d9_16) rfl (XS.iconst X102.here hx rfl (hb hby own_d9_17) (XS.iadd X102.here hx rfl (hb hby own_d9_18) rfl k)))) ?_
  show G (T102.setTop (mkF m 19 #[.val (.ref a), .val (.ref q), .val (.ref t), .val (.int (1 : Int32))] [(.int (2 : Int32)), (.ref a)]))
  have K104 : Keep h0 h102 [t] := (Keep.refl h0 [t]).wr W102 (Or.inl (List.mem_of_getElem? (i := 0) rfl))
  have F105 : Fld Z h102 a "java/util/ArrayList" "size" "I" (.int (1 : Int32)) := (Fs.keep K104 (ninS (Exa.neArv Ea At (ow hw 1 rfl)) nin0))
  have F106 : Exa Z h102 a "java/util/ArrayList" := (Ea.keep K104)
  obtain ⟨T103, h103, X103, e103, W103, st103⟩ := putF X102 hx hZ hown (host := "") (Or.inl (ow hw 57 rfl)) Via.refl e102 F105 F106 (Or.inl (ow hw 58 rfl)) (ow hw 1 rfl) (ty := .int) (by decide) rfl rfl (g := (mkF m 19 #[.val (.ref a), .val (.ref q), .val (.ref t), .val (.int (1 : Int32))] [(.int (2 : Int32)), (.ref a)])) rfl rfl (hb hby own_d9_19)
  have F107 : Fld Z h102 a "java/util/AbstractList" "modCount" "I" (.int mc) := (Fm.keep K104 (ninS (Exa.neArv Ea At (ow hw 1 rfl)) nin0))
  have F108 : Fld Z h102 a "java/util/ArrayList" "elementData" "[Ljava/lang/Object;" (.ref t) := (Fe.keep K104 (ninS (Exa.neArv Ea At (ow hw 1 rfl)) nin0))
  have N103 := Fr.snoc X103 N102 gz_a
  refine go _ _ (st103) ?_
  show G (T103.setTop (mkF m 22 #[.val (.ref a), .val (.ref q), .val (.ref t), .val (.int (1 : Int32))] []))
  have K109 : Keep h0 h102 [a, t] := (Keep.refl h0 [a, t]).wr W102 (Or.inl (List.mem_of_getElem? (i := 1) rfl))
  have K110 : Keep h0 h103 [a, t] := K109.wr W103 (Or.inl (List.mem_of_getElem? (i := 0) rfl))
  have K111 : Keep h102 h103 [a] := (Keep.refl h102 [a]).wr W103 (Or.inl (List.mem_of_getElem? (i := 0) rfl))
  have F112 : Exa Z h103 t "[Ljava/lang/Object;" := ((Et.wr W102).keep K111)
  have F113 : Arv Z h103 t kb (.object "java/lang/Object") (10 : Int32) [(.ref ee0), (.ref q)] .null := (V102.keep K111 (ninS (Ne.symm (Exa.neArv Ea At (ow hw 1 rfl))) nin0))
  refine fin T103 _ _ _ none X103 (fun _ => rfl) (by decide) (by decide) (by rw [e103]; exact ⟨N103, K110, ⟨rfl, (F106.wr W103), (F108.other W103 (Or.inr (RoadKit.slot_ne (t := (.array (.object "java/lang/Object"))) (t' := .int) (Or.inl (ow hw 25 rfl)) (Or.inl (ow hw 58 rfl)) (by decide) (by decide) (by decide)))), (F105.same W103), (F107.other W103 (Or.inr (RoadKit.slot_ne (t := .int) (t' := .int) (Or.inl (ow hw 22 rfl)) (Or.inl (ow hw 58 rfl)) (by decide) (by decide) (by decide)))), F112, F113⟩⟩) _ (own_retV X103 hx hret (hb hby own_d9_22))
set_option maxHeartbeats 4000000 in
theorem own_ef_rmAdd1 (m : MethodId) (x0 : Addr) (x1 : Addr) : entryFrame m #[(.ref x0), (.ref x1)] 2 = mkF m 0 #[.val (.ref x0), .val (.ref x1)] [] := by rfl
set_option maxRecDepth 65536 in
set_option maxHeartbeats 40000000 in
theorem rmAdd1 (l : Launch) (Z : State) (a0 : Array Value) (hw : ∀ d ∈ tables_1, d.before a0 Z = true) (z0 : Int32) (O2 : Sta Z Z.heap "java/lang/String" "COMPACT_STRINGS" "Z" (.int z0)) (P5 : ¬ z0 = (0 : Int32)) (dd : Addr) (kd : ClassId) (O_dd : Sta Z Z.heap "java/util/ArrayList" "DEFAULTCAPACITY_EMPTY_ELEMENTDATA" "[Ljava/lang/Object;" (.ref dd)) (V_dd : Arv Z Z.heap dd kd (.object "java/lang/Object") (0 : Int32) [] .null) (mr : Addr) (M_mr : own_Mir Z "[Ljava/lang/Object;" mr) (el : Addr) (O_el : Sta Z Z.heap "java/util/ImmutableCollections" "EMPTY_LIST" "Ljava/util/ImmutableCollections$ListN;" (.ref el)) (em : Addr) (O_em : Sta Z Z.heap "java/util/ImmutableCollections" "EMPTY" "Ljava/lang/Object;" (.ref em)) (ws : List Jvm.Cond) (a : Addr) (q : Addr) (mc : Int32) (kb : ClassId) (ee0 : Addr) (t : Addr) (h0 : Heap) (n0 : Nat) (Z0 : n0 ≤ h0.size) (Xo : Old Z n0 h0) (Ea : Exa Z h0 a "java/util/ArrayList") (Fs : Fld Z h0 a "java/util/ArrayList" "size" "I" (.int (1 : Int32))) (Fm : Fld Z h0 a "java/util/AbstractList" "modCount" "I" (.int mc)) (Eq : Exa Z h0 q "java/lang/String") (Fe : Fld Z h0 a "java/util/ArrayList" "elementData" "[Ljava/lang/Object;" (.ref t)) (Et : Exa Z h0 t "[Ljava/lang/Object;") (At : Arv Z h0 t kb (.object "java/lang/Object") (10 : Int32) [(.ref ee0)] .null) (Ot : Ovr Z kb "java/lang/Object") (gz_a : n0 ≤ a) (gz_t : n0 ≤ t) :
    own_MetN l Z (⟨"java/util/ArrayList", "add", "(Ljava/lang/Object;)Z"⟩ : MethodName) jdk_38_method_25_code 2 (some .boolean) ws ({ frames := 1, cells := 0, slots := 0, locals := 15 } : Room) #[(.ref a), (.ref q)] h0 (fun v h L => Fr n0 L ∧ Keep h0 h [a, t] ∧ (((v = some (.int (1 : Int32))) ∧ (Exa Z h a "java/util/ArrayList") ∧ (Fld Z h a "java/util/ArrayList" "elementData" "[Ljava/lang/Object;" (.ref t)) ∧ (Fld Z h a "java/util/ArrayList" "size" "I" (.int (2 : Int32))) ∧ (Fld Z h a "java/util/AbstractList" "modCount" "I" (.int (mc + (1 : Int32)))) ∧ (Exa Z h t "[Ljava/lang/Object;") ∧ (Arv Z h t kb (.object "java/lang/Object") (10 : Int32) [(.ref ee0), (.ref q)] .null)))) := by
  refine own_metN (plainFor_of_name own_pn3) ?_
  intro p e s m below meth c s₁ G hx hby hml hZ hown hnm hret X0 e0 go fin
  have N0 := Fr.nil n0
  refine go _ _ (fun _ k => castTop (own_ef_rmAdd1 m a q) k) ?_
  show G (s₁.setTop (mkF m 0 #[.val (.ref a), .val (.ref q)] []))
  refine go _ _ (fun _ k => XS.aloadN X0.here hx rfl (hb hby own_d8_0) rfl rfl (XS.dup X0.here hx rfl (hb hby own_d8_1) rfl rfl k)) ?_
  show G (s₁.setTop (mkF m 2 #[.val (.ref a), .val (.ref q)] [(.ref a), (.ref a)]))
  obtain ⟨T101, X101, e101, st101⟩ := getF X0 hx hZ hown (host := "") (Or.inl (ow hw 55 rfl)) (Via.of (ow hw 56 rfl)) e0 Fm (g := (mkF m 2 #[.val (.ref a), .val (.ref q)] [(.ref a), (.ref a)])) rfl rfl (hb hby own_d8_2)
  refine go _ _ (st101) ?_
  show G (T101.setTop (mkF m 5 #[.val (.ref a), .val (.ref q)] [(.int mc), (.ref a)]))
  refine go _ _ (fun _ k => XS.iconst X101.here hx rfl (hb hby own_d8_5) (XS.iadd X101.here hx rfl (hb hby own_d8_6) rfl k)) ?_
  show G (T101.setTop (mkF m 7 #[.val (.ref a), .val (.ref q)] [(.int (mc + (1 : Int32))), (.ref a)]))
  obtain ⟨T102, h102, X102, e102, W102, st102⟩ := putF X101 hx hZ hown (host := "") (Or.inl (ow hw 55 rfl)) (Via.of (ow hw 56 rfl)) e101 Fm Ea (Or.inl (ow hw 22 rfl)) (ow hw 1 rfl) (ty := .int) (by decide) rfl rfl (g := (mkF m 7 #[.val (.ref a), .val (.ref q)] [(.int (mc + (1 : Int32))), (.ref a)])) rfl rfl (hb hby own_d8_7)
  have N102 := Fr.snoc X102 N0 gz_a
  refine go _ _ (st102) ?_
  show G (T102.setTop (mkF m 10 #[.val (.ref a), .val (.ref q)] []))
  refine go _ _ (fun _ k => XS.aloadN X102.here hx rfl (hb hby own_d8_10) rfl rfl (XS.aloadN X102.here hx rfl (hb hby own_d8_11) rfl rfl (XS.aloadN X102.here hx rfl (hb hby own_d8_12) rfl rfl k))) ?_
  show G (T102.setTop (mkF m 13 #[.val (.ref a), .val (.ref q)] [(.ref a), (.ref q), (.ref a)]))
  obtain ⟨T103, X103, e103, st103⟩ := getF X102 hx hZ hown (host := "") (Or.inl (ow hw 24 rfl)) Via.refl e102 (Fe.other W102 (Or.inr (RoadKit.slot_ne (t := (.array (.object "java/lang/Object"))) (t' := .int) (Or.inl (ow hw 25 rfl)) (Or.inl (ow hw 22 rfl)) (by decide) (by decide) (by decide)))) (g := (mkF m 13 #[.val (.ref a), .val (.ref q)] [(.ref a), (.ref q), (.ref a)])) rfl rfl (hb hby own_d8_13)
  refine go _ _ (st103) ?_
  show G (T103.setTop (mkF m 16 #[.val (.ref a), .val (.ref q)] [(.ref t), (.ref q), (.ref a)]))
  refine go _ _ (fun _ k => XS.aloadN X103.here hx rfl (hb hby own_d8_16) rfl rfl k) ?_
  show G (T103.setTop (mkF m 17 #[.val (.ref a), .val (.ref q)] [(.ref a), (.ref t), (.ref q), (.ref a)]))
  obtain ⟨T104, X104, e104, st104⟩ := getF X103 hx hZ hown (host := "") (Or.inl (ow hw 57 rfl)) Via.refl e103 (Fs.other W102 (Or.inr (RoadKit.slot_ne (t := .int) (t' := .int) (Or.inl (ow hw 58 rfl)) (Or.inl (ow hw 22 rfl)) (by decide) (by decide) (by decide)))) (g := (mkF m 17 #[.val (.ref a), .val (.ref q)] [(.ref a), (.ref t), (.ref q), (.ref a)])) rfl rfl (hb hby own_d8_17)
  refine go _ _ (st104) ?_
  show G (T104.setTop (mkF m 20 #[.val (.ref a), .val (.ref q)] [(.int (1 : Int32)), (.ref t), (.ref q), (.ref a)]))
  have K106 : Keep h0 h102 [a] := (Keep.refl h0 [a]).wr W102 (Or.inl (List.mem_of_getElem? (i := 0) rfl))
  have F107 : Old Z n0 h102 := (Xo.keep K106 (allS gz_a all0))
  have F108 : Exa Z h102 q "java/lang/String" := (Eq.keep K106)
  have F109 : Exa Z h102 t "[Ljava/lang/Object;" := (Et.keep K106)
  have F110 : Arv Z h102 t kb (.object "java/lang/Object") (10 : Int32) [(.ref ee0)] .null := (At.keep K106 (ninS (Ne.symm (Exa.neArv Ea At (ow hw 1 rfl))) nin0))
  have F111 : Ovr Z kb "java/lang/Object" := Ot
  have Z112 : h0.size ≤ h102.size := (Keep.of_wr W102).1
  obtain ⟨rv105, T105, L105, X105, q105, st105⟩ := own_pr X104 hx hZ (y := (⟨"java/util/ArrayList", "add", "(Ljava/lang/Object;[Ljava/lang/Object;I)V"⟩ : MethodName)) hown (ow hw 59 rfl) (ow hw 60 rfl) (ow hw 62 rfl) (ow hw 61 rfl) (ow hw 63 rfl) (by decide) (own_bkN (W := 0) (rmAddP1 l Z a0 hw z0 O2 P5 dd kd O_dd V_dd mr M_mr el O_el em O_em [] a q t (mc + (1 : Int32)) kb ee0 h102 n0 (Nat.le_trans Z0 Z112) F107 (Ea.wr W102) (Fs.other W102 (Or.inr (RoadKit.slot_ne (t := .int) (t' := .int) (Or.inl (ow hw 58 rfl)) (Or.inl (ow hw 22 rfl)) (by decide) (by decide) (by decide)))) (Fm.same W102) F108 (Fe.other W102 (Or.inr (RoadKit.slot_ne (t := (.array (.object "java/lang/Object"))) (t' := .int) (Or.inl (ow hw 25 rfl)) (Or.inl (ow hw 22 rfl)) (by decide) (by decide) (by decide)))) F109 F110 F111 gz_a gz_t) hZ (ow hw 63 rfl) (ow hw 2 rfl) (by decide) (by decide)) e104 (Ea.wr W102) (g := (mkF m 20 #[.val (.ref a), .val (.ref q)] [(.int (1 : Int32)), (.ref t), (.ref q), (.ref a)])) rfl (by rw [hml]; rfl) (argsL := [(.ref q), (.ref t), (.int (1 : Int32))]) (rest := []) rfl (lenOf own_pd8 rfl) rfl (by show 2 * 0 + _ ≤ _; exact Nat.le_of_eq rfl) (hb hby own_d8_20) (by decide) (by decide)
  obtain ⟨Nq105, Kp105, ⟨rfl, f113, f114, f115, f116, f117, f118⟩⟩ := q105
  have N105 := Fr.app N102 Nq105
  refine go _ _ (st105) ?_
  show G (T105.setTop (mkF m 23 #[.val (.ref a), .val (.ref q)] []))
  refine go _ _ (fun _ k => XS.iconst X105.here hx rfl (hb hby own_d8_23) k) ?_
  show G (T105.setTop (mkF m 24 #[.val (.ref a), .val (.ref q)] [(.int (1 : Int32))]))
  have K119 : Keep h0 h102 [a, t] := (Keep.refl h0 [a, t]).wr W102 (Or.inl (List.mem_of_getElem? (i := 0) rfl))
  have K120 : Keep h0 T105.heap [a, t] := K119.trans Kp105 (allS (Or.inl (List.mem_of_getElem? (i := 0) rfl)) (allS (Or.inl (List.mem_of_getElem? (i := 1) rfl)) all0))
  refine fin T105 _ _ _ (some (.int (1 : Int32))) X105 (fun q => nomatch q) (by decide) (by decide) ⟨N105, K120, ⟨rfl, f113, f114, f115, f116, f117, f118⟩⟩ _ (own_retN X105 hx (z := (1 : Int32)) (t := .boolean) hret (by simp) (hb hby own_d8_24))
set_option maxHeartbeats 4000000 in
theorem own_ef_rmAddP2 (m : MethodId) (x0 : Addr) (x1 : Addr) (x2 : Addr) (x3 : Int32) : entryFrame m #[(.ref x0), (.ref x1), (.ref x2), (.int x3)] 4 = mkF m 0 #[.val (.ref x0), .val (.ref x1), .val (.ref x2), .val (.int x3)] [] := by rfl
set_option maxRecDepth 65536 in
set_option maxHeartbeats 40000000 in
theorem rmAddP2 (l : Launch) (Z : State) (a0 : Array Value) (hw : ∀ d ∈ tables_1, d.before a0 Z = true) (z0 : Int32) (O2 : Sta Z Z.heap "java/lang/String" "COMPACT_STRINGS" "Z" (.int z0)) (P5 : ¬ z0 = (0 : Int32)) (dd : Addr) (kd : ClassId) (O_dd : Sta Z Z.heap "java/util/ArrayList" "DEFAULTCAPACITY_EMPTY_ELEMENTDATA" "[Ljava/lang/Object;" (.ref dd)) (V_dd : Arv Z Z.heap dd kd (.object "java/lang/Object") (0 : Int32) [] .null) (mr : Addr) (M_mr : own_Mir Z "[Ljava/lang/Object;" mr) (el : Addr) (O_el : Sta Z Z.heap "java/util/ImmutableCollections" "EMPTY_LIST" "Ljava/util/ImmutableCollections$ListN;" (.ref el)) (em : Addr) (O_em : Sta Z Z.heap "java/util/ImmutableCollections" "EMPTY" "Ljava/lang/Object;" (.ref em)) (ws : List Jvm.Cond) (a : Addr) (q : Addr) (t : Addr) (mc : Int32) (kb : ClassId) (ee0 : Addr) (ee1 : Addr) (h0 : Heap) (n0 : Nat) (Z0 : n0 ≤ h0.size) (Xo : Old Z n0 h0) (Ea : Exa Z h0 a "java/util/ArrayList") (Fs : Fld Z h0 a "java/util/ArrayList" "size" "I" (.int (2 : Int32))) (Fm : Fld Z h0 a "java/util/AbstractList" "modCount" "I" (.int mc)) (Eq : Exa Z h0 q "java/lang/String") (Fe : Fld Z h0 a "java/util/ArrayList" "elementData" "[Ljava/lang/Object;" (.ref t)) (Et : Exa Z h0 t "[Ljava/lang/Object;") (At : Arv Z h0 t kb (.object "java/lang/Object") (10 : Int32) [(.ref ee0), (.ref ee1)] .null) (Ot : Ovr Z kb "java/lang/Object") (gz_a : n0 ≤ a) (gz_t : n0 ≤ t) :
    own_MetN l Z (⟨"java/util/ArrayList", "add", "(Ljava/lang/Object;[Ljava/lang/Object;I)V"⟩ : MethodName) jdk_38_method_24_code 4 none ws ({ frames := 0, cells := 0, slots := 0, locals := 0 } : Room) #[(.ref a), (.ref q), (.ref t), (.int (2 : Int32))] h0 (fun v h L => Fr n0 L ∧ Keep h0 h [a, t] ∧ (((v = none) ∧ (Exa Z h a "java/util/ArrayList") ∧ (Fld Z h a "java/util/ArrayList" "elementData" "[Ljava/lang/Object;" (.ref t)) ∧ (Fld Z h a "java/util/ArrayList" "size" "I" (.int (3 : Int32))) ∧ (Fld Z h a "java/util/AbstractList" "modCount" "I" (.int mc)) ∧ (Exa Z h t "[Ljava/lang/Object;") ∧ (Arv Z h t kb (.object "java/lang/Object") (10 : Int32) [(.ref ee0), (.ref ee1), (.ref q)] .null)))) := by
  refine own_metN (plainFor_of_name own_pn3) ?_
  intro p e s m below meth c s₁ G hx hby hml hZ hown hnm hret X0 e0 go fin
  have N0 := Fr.nil n0
  refine go _ _ (fun _ k => castTop (own_ef_rmAddP2 m a q t (2 : Int32)) k) ?_
  show G (s₁.setTop (mkF m 0 #[.val (.ref a), .val (.ref q), .val (.ref t), .val (.int (2 : Int32))] []))
  refine go _ _ (fun _ k => XS.iloadN X0.here hx rfl (hb hby own_d9_0) rfl (XS.aloadN X0.here hx rfl (hb hby own_d9_1) rfl rfl k)) ?_
  show G (s₁.setTop (mkF m 2 #[.val (.ref a), .val (.ref q), .val (.ref t), .val (.int (2 : Int32))] [(.ref t), (.int (2 : Int32))]))
  obtain ⟨cl101, Ar101, q101, S101, M101, H101, U101⟩ := id At
  refine go _ _ (fun _ k => X0.arraylength hx (by rw [e0]; exact Ar101.1) (State.isArrayOf_alike hZ.alike Ar101.2.1) (g := (mkF m 2 #[.val (.ref a), .val (.ref q), .val (.ref t), .val (.int (2 : Int32))] [(.ref t), (.int (2 : Int32))])) rfl rfl (hb hby own_d9_2) _ k) ?_
  show G (s₁.setTop (mkF m 3 #[.val (.ref a), .val (.ref q), .val (.ref t), .val (.int (2 : Int32))] [(.int cl101.slots.size.toInt32), (.int (2 : Int32))]))
  rw [len_of S101 M101]
  show G (s₁.setTop (mkF m 3 #[.val (.ref a), .val (.ref q), .val (.ref t), .val (.int (2 : Int32))] [(.int (10 : Int32)), (.int (2 : Int32))]))
  refine go _ _ (fun _ k => XS.icmpYes X0.here hx rfl (pc0 := 3) (pc' := 11) rfl (hb hby own_d9_3) rfl (by decide) (by decide) (by decide) k) ?_
  show G (s₁.setTop (mkF m 11 #[.val (.ref a), .val (.ref q), .val (.ref t), .val (.int (2 : Int32))] []))
  refine go _ _ (fun _ k => XS.aloadN X0.here hx rfl (hb hby own_d9_11) rfl rfl (XS.iloadN X0.here hx rfl (hb hby own_d9_12) rfl (XS.aloadN X0.here hx rfl (hb hby own_d9_13) rfl rfl k))) ?_
  show G (s₁.setTop (mkF m 14 #[.val (.ref a), .val (.ref q), .val (.ref t), .val (.int (2 : Int32))] [(.ref q), (.int (2 : Int32)), (.ref t)]))
  have Vp102 : Arv Z h0 t kb (.object "java/lang/Object") (10 : Int32) [(.ref ee0), (.ref ee1), .null] .null := At.pad (pad_rep [(.ref ee0), (.ref ee1)] .null 1)
  obtain ⟨cl102, Ar102, q102, S102, M102, H102, U102⟩ := id Vp102
  obtain ⟨T102, h102, X102, e102, W102, st102⟩ := stR X0 hx hZ e0 Ar102 (j := (2 : Int32)) (inb_of S102 ⟨by decide, by decide⟩) rfl (Sto.ofV Ar102 q102 Ot (Ins.of_exa Eq (ow hw 80 rfl))) (g := (mkF m 14 #[.val (.ref a), .val (.ref q), .val (.ref t), .val (.int (2 : Int32))] [(.ref q), (.int (2 : Int32)), (.ref t)])) rfl rfl (hb hby own_d9_14)
  have V102 : Arv Z h102 t kb (.object "java/lang/Object") (10 : Int32) [(.ref ee0), (.ref ee1), (.ref q)] .null := Arv.set Ar102 q102 S102 M102 H102 U102 rfl W102 2 rfl (Nat.le_of_ble_eq_true rfl)
  have N102 := Fr.snoc X102 N0 gz_t
  refine go _ _ (st102) ?_
  show G (T102.setTop (mkF m 15 #[.val (.ref a), .val (.ref q), .val (.ref t), .val (.int (2 : Int32))] []))
  refine go _ _ (fun _ k => XS.aloadN X102.here hx rfl (hb hby own_d9_15) rfl rfl (XS.iloadN X102.here hx rfl (hb hby own_d9_16) rfl (XS.iconst X102.here hx rfl (hb hby own_d9_17) (XS.iadd X102.here hx rfl (hb hby own_d9_18) rfl k)))) ?_
  show G (T102.setTop (mkF m 19 #[.val (.ref a), .val (.ref q), .val (.ref t), .val (.int (2 : Int32))] [(.int (3 : Int32)), (.ref a)]))
  have K104 : Keep h0 h102 [t] := (Keep.refl h0 [t]).wr W102 (Or.inl (List.mem_of_getElem? (i := 0) rfl))
  have F105 : Fld Z h102 a "java/util/ArrayList" "size" "I" (.int (2 : Int32)) := (Fs.keep K104 (ninS (Exa.neArv Ea At (ow hw 1 rfl)) nin0))
  have F106 : Exa Z h102 a "java/util/ArrayList" := (Ea.keep K104)
  obtain ⟨T103, h103, X103, e103, W103, st103⟩ := putF X102 hx hZ hown (host := "") (Or.inl (ow hw 57 rfl)) Via.refl e102 F105 F106 (Or.inl (ow hw 58 rfl)) (ow hw 1 rfl) (ty := .int) (by decide) rfl rfl (g := (mkF m 19 #[.val (.ref a), .val (.ref q), .val (.ref t), .val (.int (2 : Int32))] [(.int (3 : Int32)), (.ref a)])) rfl rfl (hb hby own_d9_19)
  have F107 : Fld Z h102 a "java/util/AbstractList" "modCount" "I" (.int mc) := (Fm.keep K104 (ninS (Exa.neArv Ea At (ow hw 1 rfl)) nin0))
  have F108 : Fld Z h102 a "java/util/ArrayList" "elementData" "[Ljava/lang/Object;" (.ref t) := (Fe.keep K104 (ninS (Exa.neArv Ea At (ow hw 1 rfl)) nin0))
  have N103 := Fr.snoc X103 N102 gz_a
  refine go _ _ (st103) ?_
  show G (T103.setTop (mkF m 22 #[.val (.ref a), .val (.ref q), .val (.ref t), .val (.int (2 : Int32))] []))
  have K109 : Keep h0 h102 [a, t] := (Keep.refl h0 [a, t]).wr W102 (Or.inl (List.mem_of_getElem? (i := 1) rfl))
  have K110 : Keep h0 h103 [a, t] := K109.wr W103 (Or.inl (List.mem_of_getElem? (i := 0) rfl))
  have K111 : Keep h102 h103 [a] := (Keep.refl h102 [a]).wr W103 (Or.inl (List.mem_of_getElem? (i := 0) rfl))
  have F112 : Exa Z h103 t "[Ljava/lang/Object;" := ((Et.wr W102).keep K111)
  have F113 : Arv Z h103 t kb (.object "java/lang/Object") (10 : Int32) [(.ref ee0), (.ref ee1), (.ref q)] .null := (V102.keep K111 (ninS (Ne.symm (Exa.neArv Ea At (ow hw 1 rfl))) nin0))
  refine fin T103 _ _ _ none X103 (fun _ => rfl) (by decide) (by decide) (by rw [e103]; exact ⟨N103, K110, ⟨rfl, (F106.wr W103), (F108.other W103 (Or.inr (RoadKit.slot_ne (t := (.array (.object "java/lang/Object"))) (t' := .int) (Or.inl (ow hw 25 rfl)) (Or.inl (ow hw 58 rfl)) (by decide) (by decide) (by decide)))), (F105.same W103), (F107.other W103 (Or.inr (RoadKit.slot_ne (t := .int) (t' := .int) (Or.inl (ow hw 22 rfl)) (Or.inl (ow hw 58 rfl)) (by decide) (by decide) (by decide)))), F112, F113⟩⟩) _ (own_retV X103 hx hret (hb hby own_d9_22))
set_option maxHeartbeats 4000000 in
theorem own_ef_rmAdd2 (m : MethodId) (x0 : Addr) (x1 : Addr) : entryFrame m #[(.ref x0), (.ref x1)] 2 = mkF m 0 #[.val (.ref x0), .val (.ref x1)] [] := by rfl
set_option maxRecDepth 65536 in
set_option maxHeartbeats 40000000 in
theorem rmAdd2 (l : Launch) (Z : State) (a0 : Array Value) (hw : ∀ d ∈ tables_1, d.before a0 Z = true) (z0 : Int32) (O2 : Sta Z Z.heap "java/lang/String" "COMPACT_STRINGS" "Z" (.int z0)) (P5 : ¬ z0 = (0 : Int32)) (dd : Addr) (kd : ClassId) (O_dd : Sta Z Z.heap "java/util/ArrayList" "DEFAULTCAPACITY_EMPTY_ELEMENTDATA" "[Ljava/lang/Object;" (.ref dd)) (V_dd : Arv Z Z.heap dd kd (.object "java/lang/Object") (0 : Int32) [] .null) (mr : Addr) (M_mr : own_Mir Z "[Ljava/lang/Object;" mr) (el : Addr) (O_el : Sta Z Z.heap "java/util/ImmutableCollections" "EMPTY_LIST" "Ljava/util/ImmutableCollections$ListN;" (.ref el)) (em : Addr) (O_em : Sta Z Z.heap "java/util/ImmutableCollections" "EMPTY" "Ljava/lang/Object;" (.ref em)) (ws : List Jvm.Cond) (a : Addr) (q : Addr) (mc : Int32) (kb : ClassId) (ee0 : Addr) (ee1 : Addr) (t : Addr) (h0 : Heap) (n0 : Nat) (Z0 : n0 ≤ h0.size) (Xo : Old Z n0 h0) (Ea : Exa Z h0 a "java/util/ArrayList") (Fs : Fld Z h0 a "java/util/ArrayList" "size" "I" (.int (2 : Int32))) (Fm : Fld Z h0 a "java/util/AbstractList" "modCount" "I" (.int mc)) (Eq : Exa Z h0 q "java/lang/String") (Fe : Fld Z h0 a "java/util/ArrayList" "elementData" "[Ljava/lang/Object;" (.ref t)) (Et : Exa Z h0 t "[Ljava/lang/Object;") (At : Arv Z h0 t kb (.object "java/lang/Object") (10 : Int32) [(.ref ee0), (.ref ee1)] .null) (Ot : Ovr Z kb "java/lang/Object") (gz_a : n0 ≤ a) (gz_t : n0 ≤ t) :
    own_MetN l Z (⟨"java/util/ArrayList", "add", "(Ljava/lang/Object;)Z"⟩ : MethodName) jdk_38_method_25_code 2 (some .boolean) ws ({ frames := 1, cells := 0, slots := 0, locals := 15 } : Room) #[(.ref a), (.ref q)] h0 (fun v h L => Fr n0 L ∧ Keep h0 h [a, t] ∧ (((v = some (.int (1 : Int32))) ∧ (Exa Z h a "java/util/ArrayList") ∧ (Fld Z h a "java/util/ArrayList" "elementData" "[Ljava/lang/Object;" (.ref t)) ∧ (Fld Z h a "java/util/ArrayList" "size" "I" (.int (3 : Int32))) ∧ (Fld Z h a "java/util/AbstractList" "modCount" "I" (.int (mc + (1 : Int32)))) ∧ (Exa Z h t "[Ljava/lang/Object;") ∧ (Arv Z h t kb (.object "java/lang/Object") (10 : Int32) [(.ref ee0), (.ref ee1), (.ref q)] .null)))) := by
  refine own_metN (plainFor_of_name own_pn3) ?_
  intro p e s m below meth c s₁ G hx hby hml hZ hown hnm hret X0 e0 go fin
  have N0 := Fr.nil n0
  refine go _ _ (fun _ k => castTop (own_ef_rmAdd2 m a q) k) ?_
  show G (s₁.setTop (mkF m 0 #[.val (.ref a), .val (.ref q)] []))
  refine go _ _ (fun _ k => XS.aloadN X0.here hx rfl (hb hby own_d8_0) rfl rfl (XS.dup X0.here hx rfl (hb hby own_d8_1) rfl rfl k)) ?_
  show G (s₁.setTop (mkF m 2 #[.val (.ref a), .val (.ref q)] [(.ref a), (.ref a)]))
  obtain ⟨T101, X101, e101, st101⟩ := getF X0 hx hZ hown (host := "") (Or.inl (ow hw 55 rfl)) (Via.of (ow hw 56 rfl)) e0 Fm (g := (mkF m 2 #[.val (.ref a), .val (.ref q)] [(.ref a), (.ref a)])) rfl rfl (hb hby own_d8_2)
  refine go _ _ (st101) ?_
  show G (T101.setTop (mkF m 5 #[.val (.ref a), .val (.ref q)] [(.int mc), (.ref a)]))
  refine go _ _ (fun _ k => XS.iconst X101.here hx rfl (hb hby own_d8_5) (XS.iadd X101.here hx rfl (hb hby own_d8_6) rfl k)) ?_
  show G (T101.setTop (mkF m 7 #[.val (.ref a), .val (.ref q)] [(.int (mc + (1 : Int32))), (.ref a)]))
  obtain ⟨T102, h102, X102, e102, W102, st102⟩ := putF X101 hx hZ hown (host := "") (Or.inl (ow hw 55 rfl)) (Via.of (ow hw 56 rfl)) e101 Fm Ea (Or.inl (ow hw 22 rfl)) (ow hw 1 rfl) (ty := .int) (by decide) rfl rfl (g := (mkF m 7 #[.val (.ref a), .val (.ref q)] [(.int (mc + (1 : Int32))), (.ref a)])) rfl rfl (hb hby own_d8_7)
  have N102 := Fr.snoc X102 N0 gz_a
  refine go _ _ (st102) ?_
  show G (T102.setTop (mkF m 10 #[.val (.ref a), .val (.ref q)] []))
  refine go _ _ (fun _ k => XS.aloadN X102.here hx rfl (hb hby own_d8_10) rfl rfl (XS.aloadN X102.here hx rfl (hb hby own_d8_11) rfl rfl (XS.aloadN X102.here hx rfl (hb hby own_d8_12) rfl rfl k))) ?_
  show G (T102.setTop (mkF m 13 #[.val (.ref a), .val (.ref q)] [(.ref a), (.ref q), (.ref a)]))
  obtain ⟨T103, X103, e103, st103⟩ := getF X102 hx hZ hown (host := "") (Or.inl (ow hw 24 rfl)) Via.refl e102 (Fe.other W102 (Or.inr (RoadKit.slot_ne (t := (.array (.object "java/lang/Object"))) (t' := .int) (Or.inl (ow hw 25 rfl)) (Or.inl (ow hw 22 rfl)) (by decide) (by decide) (by decide)))) (g := (mkF m 13 #[.val (.ref a), .val (.ref q)] [(.ref a), (.ref q), (.ref a)])) rfl rfl (hb hby own_d8_13)
  refine go _ _ (st103) ?_
  show G (T103.setTop (mkF m 16 #[.val (.ref a), .val (.ref q)] [(.ref t), (.ref q), (.ref a)]))
  refine go _ _ (fun _ k => XS.aloadN X103.here hx rfl (hb hby own_d8_16) rfl rfl k) ?_
  show G (T103.setTop (mkF m 17 #[.val (.ref a), .val (.ref q)] [(.ref a), (.ref t), (.ref q), (.ref a)]))
  obtain ⟨T104, X104, e104, st104⟩ := getF X103 hx hZ hown (host := "") (Or.inl (ow hw 57 rfl)) Via.refl e103 (Fs.other W102 (Or.inr (RoadKit.slot_ne (t := .int) (t' := .int) (Or.inl (ow hw 58 rfl)) (Or.inl (ow hw 22 rfl)) (by decide) (by decide) (by decide)))) (g := (mkF m 17 #[.val (.ref a), .val (.ref q)] [(.ref a), (.ref t), (.ref q), (.ref a)])) rfl rfl (hb hby own_d8_17)
  refine go _ _ (st104) ?_
  show G (T104.setTop (mkF m 20 #[.val (.ref a), .val (.ref q)] [(.int (2 : Int32)), (.ref t), (.ref q), (.ref a)]))
  have K106 : Keep h0 h102 [a] := (Keep.refl h0 [a]).wr W102 (Or.inl (List.mem_of_getElem? (i := 0) rfl))
  have F107 : Old Z n0 h102 := (Xo.keep K106 (allS gz_a all0))
  have F108 : Exa Z h102 q "java/lang/String" := (Eq.keep K106)
  have F109 : Exa Z h102 t "[Ljava/lang/Object;" := (Et.keep K106)
  have F110 : Arv Z h102 t kb (.object "java/lang/Object") (10 : Int32) [(.ref ee0), (.ref ee1)] .null := (At.keep K106 (ninS (Ne.symm (Exa.neArv Ea At (ow hw 1 rfl))) nin0))
  have F111 : Ovr Z kb "java/lang/Object" := Ot
  have Z112 : h0.size ≤ h102.size := (Keep.of_wr W102).1
  obtain ⟨rv105, T105, L105, X105, q105, st105⟩ := own_pr X104 hx hZ (y := (⟨"java/util/ArrayList", "add", "(Ljava/lang/Object;[Ljava/lang/Object;I)V"⟩ : MethodName)) hown (ow hw 59 rfl) (ow hw 60 rfl) (ow hw 62 rfl) (ow hw 61 rfl) (ow hw 63 rfl) (by decide) (own_bkN (W := 0) (rmAddP2 l Z a0 hw z0 O2 P5 dd kd O_dd V_dd mr M_mr el O_el em O_em [] a q t (mc + (1 : Int32)) kb ee0 ee1 h102 n0 (Nat.le_trans Z0 Z112) F107 (Ea.wr W102) (Fs.other W102 (Or.inr (RoadKit.slot_ne (t := .int) (t' := .int) (Or.inl (ow hw 58 rfl)) (Or.inl (ow hw 22 rfl)) (by decide) (by decide) (by decide)))) (Fm.same W102) F108 (Fe.other W102 (Or.inr (RoadKit.slot_ne (t := (.array (.object "java/lang/Object"))) (t' := .int) (Or.inl (ow hw 25 rfl)) (Or.inl (ow hw 22 rfl)) (by decide) (by decide) (by decide)))) F109 F110 F111 gz_a gz_t) hZ (ow hw 63 rfl) (ow hw 2 rfl) (by decide) (by decide)) e104 (Ea.wr W102) (g := (mkF m 20 #[.val (.ref a), .val (.ref q)] [(.int (2 : Int32)), (.ref t), (.ref q), (.ref a)])) rfl (by rw [hml]; rfl) (argsL := [(.ref q), (.ref t), (.int (2 : Int32))]) (rest := []) rfl (lenOf own_pd8 rfl) rfl (by show 2 * 0 + _ ≤ _; exact Nat.le_of_eq rfl) (hb hby own_d8_20) (by decide) (by decide)
  obtain ⟨Nq105, Kp105, ⟨rfl, f113, f114, f115, f116, f117, f118⟩⟩ := q105
  have N105 := Fr.app N102 Nq105
  refine go _ _ (st105) ?_
  show G (T105.setTop (mkF m 23 #[.val (.ref a), .val (.ref q)] []))
  refine go _ _ (fun _ k => XS.iconst X105.here hx rfl (hb hby own_d8_23) k) ?_
  show G (T105.setTop (mkF m 24 #[.val (.ref a), .val (.ref q)] [(.int (1 : Int32))]))
  have K119 : Keep h0 h102 [a, t] := (Keep.refl h0 [a, t]).wr W102 (Or.inl (List.mem_of_getElem? (i := 0) rfl))
  have K120 : Keep h0 T105.heap [a, t] := K119.trans Kp105 (allS (Or.inl (List.mem_of_getElem? (i := 0) rfl)) (allS (Or.inl (List.mem_of_getElem? (i := 1) rfl)) all0))
  refine fin T105 _ _ _ (some (.int (1 : Int32))) X105 (fun q => nomatch q) (by decide) (by decide) ⟨N105, K120, ⟨rfl, f113, f114, f115, f116, f117, f118⟩⟩ _ (own_retN X105 hx (z := (1 : Int32)) (t := .boolean) hret (by simp) (hb hby own_d8_24))
theorem own_d25_0 : decode jdk_65_method_120_code 0 = .ok (.aload_n 2, 1) := by decide +kernel
theorem own_d25_1 : decode jdk_65_method_120_code 1 = .ok (.ldc 110, 2) := by decide +kernel
theorem own_d25_3 : decode jdk_65_method_120_code 3 = .ok (.if_acmp .ne 10, 3) := by decide +kernel
theorem own_d25_6 : decode jdk_65_method_120_code 6 = .ok (.iload_n 1, 1) := by decide +kernel
theorem own_d25_7 : decode jdk_65_method_120_code 7 = .ok (.anewarray 2, 3) := by decide +kernel
theorem own_d25_10 : decode jdk_65_method_120_code 10 = .ok (.goto 14, 3) := by decide +kernel
theorem own_d25_13 : decode jdk_65_method_120_code 13 = .ok (.aload_n 2, 1) := by decide +kernel
theorem own_d25_14 : decode jdk_65_method_120_code 14 = .ok (.invokevirtual 90, 3) := by decide +kernel
theorem own_d25_17 : decode jdk_65_method_120_code 17 = .ok (.iload_n 1, 1) := by decide +kernel
theorem own_d25_18 : decode jdk_65_method_120_code 18 = .ok (.invokestatic 95, 3) := by decide +kernel
theorem own_d25_21 : decode jdk_65_method_120_code 21 = .ok (.checkcast 110, 3) := by decide +kernel
theorem own_d25_24 : decode jdk_65_method_120_code 24 = .ok (.astore_n 3, 1) := by decide +kernel
theorem own_d25_25 : decode jdk_65_method_120_code 25 = .ok (.aload_n 0, 1) := by decide +kernel
theorem own_d25_26 : decode jdk_65_method_120_code 26 = .ok (.iconst 0, 1) := by decide +kernel
theorem own_d25_27 : decode jdk_65_method_120_code 27 = .ok (.aload_n 3, 1) := by decide +kernel
theorem own_d25_28 : decode jdk_65_method_120_code 28 = .ok (.iconst 0, 1) := by decide +kernel
theorem own_d25_29 : decode jdk_65_method_120_code 29 = .ok (.aload_n 0, 1) := by decide +kernel
theorem own_d25_30 : decode jdk_65_method_120_code 30 = .ok (.arraylength, 1) := by decide +kernel
theorem own_d25_31 : decode jdk_65_method_120_code 31 = .ok (.iload_n 1, 1) := by decide +kernel
theorem own_d25_32 : decode jdk_65_method_120_code 32 = .ok (.invokestatic 304, 3) := by decide +kernel
theorem own_d25_35 : decode jdk_65_method_120_code 35 = .ok (.invokestatic 150, 3) := by decide +kernel
theorem own_d25_38 : decode jdk_65_method_120_code 38 = .ok (.aload_n 3, 1) := by decide +kernel
theorem own_d25_39 : decode jdk_65_method_120_code 39 = .ok (.areturn, 1) := by decide +kernel
theorem own_pn12 : plainName "java/util/Arrays" = true := by decide +kernel
set_option maxHeartbeats 4000000 in
theorem own_ef_rmCpC1 (m : MethodId) (x0 : Addr) (x1 : Int32) (x2 : Addr) : entryFrame m #[(.ref x0), (.int x1), (.ref x2)] 4 = mkF m 0 #[.val (.ref x0), .val (.int x1), .val (.ref x2), .unset] [] := by rfl
set_option maxRecDepth 65536 in
set_option maxHeartbeats 40000000 in
theorem rmCpC1 (l : Launch) (Z : State) (a0 : Array Value) (hw : ∀ d ∈ tables_1, d.before a0 Z = true) (z0 : Int32) (O2 : Sta Z Z.heap "java/lang/String" "COMPACT_STRINGS" "Z" (.int z0)) (P5 : ¬ z0 = (0 : Int32)) (dd : Addr) (kd : ClassId) (O_dd : Sta Z Z.heap "java/util/ArrayList" "DEFAULTCAPACITY_EMPTY_ELEMENTDATA" "[Ljava/lang/Object;" (.ref dd)) (V_dd : Arv Z Z.heap dd kd (.object "java/lang/Object") (0 : Int32) [] .null) (mr : Addr) (M_mr : own_Mir Z "[Ljava/lang/Object;" mr) (el : Addr) (O_el : Sta Z Z.heap "java/util/ImmutableCollections" "EMPTY_LIST" "Ljava/util/ImmutableCollections$ListN;" (.ref el)) (em : Addr) (O_em : Sta Z Z.heap "java/util/ImmutableCollections" "EMPTY" "Ljava/lang/Object;" (.ref em)) (ws : List Jvm.Cond) (t : Addr) (kb : ClassId) (ee0 : Addr) (h0 : Heap) (n0 : Nat) (Z0 : n0 ≤ h0.size) (Et : Exa Z h0 t "[Ljava/lang/Object;") (At : Arv Z h0 t kb (.object "java/lang/Object") (10 : Int32) [(.ref ee0)] .null) (Eee0 : Exa Z h0 ee0 "java/lang/String") :
    own_MetN l Z (⟨"java/util/Arrays", "copyOf", "([Ljava/lang/Object;ILjava/lang/Class;)[Ljava/lang/Object;"⟩ : MethodName) jdk_65_method_120_code 4 (some (.array (.object "java/lang/Object"))) ws ({ frames := 1, cells := 1, slots := 1, locals := 27 } : Room) #[(.ref t), (.int (1 : Int32)), (.ref mr)] h0 (fun v h L => Fr n0 L ∧ Keep h0 h [] ∧ ((∃ (b : Addr) (kb2 : ClassId), (v = some (.ref b)) ∧ (h0.size ≤ b) ∧ (Exa Z h b "[Ljava/lang/Object;") ∧ (Arv Z h b kb2 (.object "java/lang/Object") (1 : Int32) [(.ref ee0)] .null) ∧ (Ovr Z kb2 "java/lang/Object")))) := by
  refine own_metN (plainFor_of_name own_pn12) ?_
  intro p e s m below meth c s₁ G hx hby hml hZ hown hnm hret X0 e0 go fin
  have N0 := Fr.nil n0
  refine go _ _ (fun _ k => castTop (own_ef_rmCpC1 m t (1 : Int32) mr) k) ?_
  show G (s₁.setTop (mkF m 0 #[.val (.ref t), .val (.int (1 : Int32)), .val (.ref mr), .unset] []))
  refine go _ _ (fun _ k => XS.aloadN X0.here hx rfl (hb hby own_d25_0) rfl rfl k) ?_
  show G (s₁.setTop (mkF m 1 #[.val (.ref t), .val (.int (1 : Int32)), .val (.ref mr), .unset] [(.ref mr)]))
  obtain ⟨T101, X101, e101, st101⟩ := own_ldcM X0 hx hZ hown (ow hw 155 rfl) M_mr e0 (g := (mkF m 1 #[.val (.ref t), .val (.int (1 : Int32)), .val (.ref mr), .unset] [(.ref mr)])) rfl (hb hby own_d25_1)
  refine go _ _ (st101) ?_
  show G (T101.setTop (mkF m 3 #[.val (.ref t), .val (.int (1 : Int32)), .val (.ref mr), .unset] [(.ref mr), (.ref mr)]))
  refine go _ _ (fun _ k => acmp X101 hx rfl rfl rfl (pc0 := 3) (pc' := 6) (same := true) rfl (hb hby own_d25_3) rfl (decide_eq_true rfl) (by decide) (by decide) k) ?_
  show G (T101.setTop (mkF m 6 #[.val (.ref t), .val (.int (1 : Int32)), .val (.ref mr), .unset] []))
  refine go _ _ (fun _ k => XS.iloadN X101.here hx rfl (hb hby own_d25_6) rfl k) ?_
  show G (T101.setTop (mkF m 7 #[.val (.ref t), .val (.int (1 : Int32)), .val (.ref mr), .unset] [(.int (1 : Int32))]))
  obtain ⟨T102, h102, k102, X102, e102, E102, A102, Ex102, O102, st102⟩ := newRE X101 hx hZ hown (ow hw 156 rfl) (ow hw 79 rfl) e101 (g := (mkF m 7 #[.val (.ref t), .val (.int (1 : Int32)), .val (.ref mr), .unset] [(.int (1 : Int32))])) rfl (hb hby own_d25_7) rfl (by decide) (cap := 1) (by decide) (by decide) (by decide) (by decide) (ad := "[Ljava/lang/Object;") (by decide)
  obtain ⟨b102, g102⟩ : ∃ z, z = h0.size := ⟨_, rfl⟩
  rw [← g102] at A102 Ex102 st102
  have V102 : Arv Z h102 b102 k102 (.object "java/lang/Object") (1 : Int32) [] .null := Arv.new A102 (by decide)
  refine go _ _ (st102) ?_
  show G (T102.setTop (mkF m 10 #[.val (.ref t), .val (.int (1 : Int32)), .val (.ref mr), .unset] [(.ref b102)]))
  refine go _ _ (fun _ k => XS.goto X102.here hx rfl (pc0 := 10) (pc' := 24) rfl (hb hby own_d25_10) (by decide) (by decide) k) ?_
  show G (T102.setTop (mkF m 24 #[.val (.ref t), .val (.int (1 : Int32)), .val (.ref mr), .unset] [(.ref b102)]))
  refine go _ _ (fun _ k => XS.astoreN X102.here hx rfl (hb hby own_d25_24) rfl rfl (l' := #[.val (.ref t), .val (.int (1 : Int32)), .val (.ref mr), .val (.ref b102)]) rfl (XS.aloadN X102.here hx rfl (hb hby own_d25_25) rfl rfl (XS.iconst X102.here hx rfl (hb hby own_d25_26) (XS.aloadN X102.here hx rfl (hb hby own_d25_27) rfl rfl (XS.iconst X102.here hx rfl (hb hby own_d25_28) (XS.aloadN X102.here hx rfl (hb hby own_d25_29) rfl rfl k)))))) ?_
  show G (T102.setTop (mkF m 30 #[.val (.ref t), .val (.int (1 : Int32)), .val (.ref mr), .val (.ref b102)] [(.ref t), (.int (0 : Int32)), (.ref b102), (.int (0 : Int32)), (.ref t)]))
  have K104 : Keep h0 h102 [] := (Keep.refl h0 []).ext E102
  have F105 : Arv Z h102 t kb (.object "java/lang/Object") (10 : Int32) [(.ref ee0)] .null := (At.keep K104 nin0)
  obtain ⟨cl103, Ar103, q103, S103, M103, H103, U103⟩ := id F105
  refine go _ _ (fun _ k => X102.arraylength hx (by rw [e102]; exact Ar103.1) (State.isArrayOf_alike hZ.alike Ar103.2.1) (g := (mkF m 30 #[.val (.ref t), .val (.int (1 : Int32)), .val (.ref mr), .val (.ref b102)] [(.ref t), (.int (0 : Int32)), (.ref b102), (.int (0 : Int32)), (.ref t)])) rfl rfl (hb hby own_d25_30) _ k) ?_
  show G (T102.setTop (mkF m 31 #[.val (.ref t), .val (.int (1 : Int32)), .val (.ref mr), .val (.ref b102)] [(.int cl103.slots.size.toInt32), (.int (0 : Int32)), (.ref b102), (.int (0 : Int32)), (.ref t)]))
  rw [len_of S103 M103]
  show G (T102.setTop (mkF m 31 #[.val (.ref t), .val (.int (1 : Int32)), .val (.ref mr), .val (.ref b102)] [(.int (10 : Int32)), (.int (0 : Int32)), (.ref b102), (.int (0 : Int32)), (.ref t)]))
  refine go _ _ (fun _ k => XS.iloadN X102.here hx rfl (hb hby own_d25_31) rfl k) ?_
  show G (T102.setTop (mkF m 32 #[.val (.ref t), .val (.int (1 : Int32)), .val (.ref mr), .val (.ref b102)] [(.int (1 : Int32)), (.int (10 : Int32)), (.int (0 : Int32)), (.ref b102), (.int (0 : Int32)), (.ref t)]))
  have Z107 : h0.size ≤ h102.size := E102.1
  obtain ⟨rv106, T106, L106, X106, q106, st106⟩ := own_st X102 hx hZ (y := (⟨"java/lang/Math", "min", "(II)I"⟩ : MethodName)) hown (ow hw 157 rfl) (ow hw 158 rfl) (ow hw 76 rfl) (ow hw 159 rfl) (by decide) (own_bkN (W := 4) (rm26 l Z a0 hw z0 O2 P5 dd kd O_dd V_dd mr M_mr el O_el em O_em [] (10 : Int32) (1 : Int32) h102 n0 (Nat.le_trans Z0 Z107)) hZ (ow hw 159 rfl) (ow hw 76 rfl) (by decide) (by decide)) e102 (g := (mkF m 32 #[.val (.ref t), .val (.int (1 : Int32)), .val (.ref mr), .val (.ref b102)] [(.int (1 : Int32)), (.int (10 : Int32)), (.int (0 : Int32)), (.ref b102), (.int (0 : Int32)), (.ref t)])) rfl (by rw [hml]; rfl) (argsL := [(.int (10 : Int32)), (.int (1 : Int32))]) (rest := [(.int (0 : Int32)), (.ref b102), (.int (0 : Int32)), (.ref t)]) rfl (lenOf own_pd5 rfl) rfl (by show 2 * 0 + _ ≤ _; exact Nat.le_of_eq rfl) (hb hby own_d25_32) (by decide) (by decide)
  obtain ⟨Nq106, e106, q106⟩ := q106
  have N106 := Fr.app N0 Nq106
  rcases q106 with ⟨rfl, p108⟩ | ⟨rfl, p109⟩
  · refine go _ _ (st106) ?_
    show G (T106.setTop (mkF m 35 #[.val (.ref t), .val (.int (1 : Int32)), .val (.ref mr), .val (.ref b102)] [(.int (1 : Int32)), (.int (0 : Int32)), (.ref b102), (.int (0 : Int32)), (.ref t)]))
    have Vp110 : Arv Z h102 b102 k102 (.object "java/lang/Object") (1 : Int32) [.null] .null := V102.pad (pad_rep [] .null 1)
    obtain ⟨cl110, Ar110, q110, -⟩ := id Vp110
    have F111 : Exa Z h102 ee0 "java/lang/String" := (Eee0.keep K104)
    obtain ⟨T110, h110, L110, X110, e110, N110, Kp110, V110, st110⟩ := cpA X106 hx hZ hown (ow hw 160 rfl) (ow hw 163 rfl) (ow hw 161 rfl) (ow hw 162 rfl) e106 F105 Vp110 (us := [(.ref ee0)]) (Or.inr ⟨rfl, rfl, ⟨Sto.ofV Ar110 q110 O102 (Ins.of_exa F111 (ow hw 80 rfl)), trivial⟩⟩) (by decide) (by decide) (by decide) (by decide) (by decide) rfl (by decide) N106 (Nat.le_trans Z0 (Nat.le_of_eq g102.symm)) (g := (mkF m 35 #[.val (.ref t), .val (.int (1 : Int32)), .val (.ref mr), .val (.ref b102)] [(.int (1 : Int32)), (.int (0 : Int32)), (.ref b102), (.int (0 : Int32)), (.ref t)])) rfl (by rw [hml]; rfl) (rest := []) rfl (hb hby own_d25_35) (by decide) (W := 0) (by show 2 * 0 + _ ≤ _; exact Nat.le_of_eq rfl) (by decide)
    have Vq110 : Arv Z h110 b102 k102 (.object "java/lang/Object") (1 : Int32) [(.ref ee0)] .null := V110
    refine go _ _ (st110) ?_
    show G (T110.setTop (mkF m 38 #[.val (.ref t), .val (.int (1 : Int32)), .val (.ref mr), .val (.ref b102)] []))
    refine go _ _ (fun _ k => XS.aloadN X110.here hx rfl (hb hby own_d25_38) rfl rfl k) ?_
    show G (T110.setTop (mkF m 39 #[.val (.ref t), .val (.int (1 : Int32)), .val (.ref mr), .val (.ref b102)] [(.ref b102)]))
    have K112 : Keep h0 h110 [] := K104.trans Kp110 (allS (Or.inr (Nat.le_of_eq g102.symm)) all0)
    have K113 : Keep h102 h110 [b102] := (Keep.refl h102 [b102]).trans Kp110 (allS (Or.inl (List.mem_of_getElem? (i := 0) rfl)) all0)
    have F114 : Ovr Z k102 "java/lang/Object" := O102
    refine fin T110 _ _ _ (some (.ref b102)) X110 (fun q => nomatch q) (by decide) (by decide) (by rw [e110]; exact ⟨N110, K112, ⟨b102, k102, rfl, (Nat.le_of_eq g102.symm), (Ex102.keep Kp110), Vq110, F114⟩⟩) _ (own_retA X110 hx hret rfl rfl rfl (hb hby own_d25_39))
  · exact absurd (by decide) p109
theorem own_d24_0 : decode jdk_65_method_119_code 0 = .ok (.aload_n 0, 1) := by decide +kernel
theorem own_d24_1 : decode jdk_65_method_119_code 1 = .ok (.iload_n 1, 1) := by decide +kernel
theorem own_d24_2 : decode jdk_65_method_119_code 2 = .ok (.aload_n 0, 1) := by decide +kernel
theorem own_d24_3 : decode jdk_65_method_119_code 3 = .ok (.invokevirtual 86, 3) := by decide +kernel
theorem own_d24_6 : decode jdk_65_method_119_code 6 = .ok (.invokestatic 300, 3) := by decide +kernel
theorem own_d24_9 : decode jdk_65_method_119_code 9 = .ok (.areturn, 1) := by decide +kernel
theorem own_pd9 : parseMethodDescriptor "([Ljava/lang/Object;ILjava/lang/Class;)[Ljava/lang/Object;" = some ⟨[(.array (.object "java/lang/Object")), .int, (.object "java/lang/Class")], some (.array (.object "java/lang/Object"))⟩ := by decide +kernel
set_option maxHeartbeats 4000000 in
theorem own_ef_rmCp1 (m : MethodId) (x0 : Addr) (x1 : Int32) : entryFrame m #[(.ref x0), (.int x1)] 2 = mkF m 0 #[.val (.ref x0), .val (.int x1)] [] := by rfl
set_option maxRecDepth 65536 in
set_option maxHeartbeats 40000000 in
theorem rmCp1 (l : Launch) (Z : State) (a0 : Array Value) (hw : ∀ d ∈ tables_1, d.before a0 Z = true) (z0 : Int32) (O2 : Sta Z Z.heap "java/lang/String" "COMPACT_STRINGS" "Z" (.int z0)) (P5 : ¬ z0 = (0 : Int32)) (dd : Addr) (kd : ClassId) (O_dd : Sta Z Z.heap "java/util/ArrayList" "DEFAULTCAPACITY_EMPTY_ELEMENTDATA" "[Ljava/lang/Object;" (.ref dd)) (V_dd : Arv Z Z.heap dd kd (.object "java/lang/Object") (0 : Int32) [] .null) (mr : Addr) (M_mr : own_Mir Z "[Ljava/lang/Object;" mr) (el : Addr) (O_el : Sta Z Z.heap "java/util/ImmutableCollections" "EMPTY_LIST" "Ljava/util/ImmutableCollections$ListN;" (.ref el)) (em : Addr) (O_em : Sta Z Z.heap "java/util/ImmutableCollections" "EMPTY" "Ljava/lang/Object;" (.ref em)) (ws : List Jvm.Cond) (t : Addr) (kb : ClassId) (ee0 : Addr) (h0 : Heap) (n0 : Nat) (Z0 : n0 ≤ h0.size) (Et : Exa Z h0 t "[Ljava/lang/Object;") (At : Arv Z h0 t kb (.object "java/lang/Object") (10 : Int32) [(.ref ee0)] .null) (Eee0 : Exa Z h0 ee0 "java/lang/String") :
    own_MetN l Z (⟨"java/util/Arrays", "copyOf", "([Ljava/lang/Object;I)[Ljava/lang/Object;"⟩ : MethodName) jdk_65_method_119_code 2 (some (.array (.object "java/lang/Object"))) ws ({ frames := 2, cells := 1, slots := 1, locals := 42 } : Room) #[(.ref t), (.int (1 : Int32))] h0 (fun v h L => Fr n0 L ∧ Keep h0 h [] ∧ ((∃ (b : Addr) (kb2 : ClassId), (v = some (.ref b)) ∧ (h0.size ≤ b) ∧ (Exa Z h b "[Ljava/lang/Object;") ∧ (Arv Z h b kb2 (.object "java/lang/Object") (1 : Int32) [(.ref ee0)] .null) ∧ (Ovr Z kb2 "java/lang/Object")))) := by
  refine own_metN (plainFor_of_name own_pn12) ?_
  intro p e s m below meth c s₁ G hx hby hml hZ hown hnm hret X0 e0 go fin
  have N0 := Fr.nil n0
  refine go _ _ (fun _ k => castTop (own_ef_rmCp1 m t (1 : Int32)) k) ?_
  show G (s₁.setTop (mkF m 0 #[.val (.ref t), .val (.int (1 : Int32))] []))
  refine go _ _ (fun _ k => XS.aloadN X0.here hx rfl (hb hby own_d24_0) rfl rfl (XS.iloadN X0.here hx rfl (hb hby own_d24_1) rfl (XS.aloadN X0.here hx rfl (hb hby own_d24_2) rfl rfl k))) ?_
  show G (s₁.setTop (mkF m 3 #[.val (.ref t), .val (.int (1 : Int32))] [(.ref t), (.int (1 : Int32)), (.ref t)]))
  obtain ⟨T101, X101, e101, st101⟩ := own_gcls X0 hx hZ hown (ow hw 146 rfl) (ow hw 147 rfl) (ow hw 123 rfl) (ow hw 149 rfl) (ow hw 148 rfl) (ow hw 150 rfl) e0 Et M_mr (g := (mkF m 3 #[.val (.ref t), .val (.int (1 : Int32))] [(.ref t), (.int (1 : Int32)), (.ref t)])) rfl (by rw [hml]; rfl) rfl (hb hby own_d24_3) (by decide) (W := 2) (by show 2 * 0 + _ ≤ _; exact Nat.le_of_eq rfl) (by decide)
  refine go _ _ (st101) ?_
  show G (T101.setTop (mkF m 6 #[.val (.ref t), .val (.int (1 : Int32))] [(.ref mr), (.int (1 : Int32)), (.ref t)]))
  obtain ⟨rv102, T102, L102, X102, q102, st102⟩ := own_st X101 hx hZ (y := (⟨"java/util/Arrays", "copyOf", "([Ljava/lang/Object;ILjava/lang/Class;)[Ljava/lang/Object;"⟩ : MethodName)) hown (ow hw 152 rfl) (ow hw 153 rfl) (ow hw 144 rfl) (ow hw 154 rfl) (by decide) (own_bkN (W := 0) (rmCpC1 l Z a0 hw z0 O2 P5 dd kd O_dd V_dd mr M_mr el O_el em O_em [] t kb ee0 h0 n0 Z0 Et At Eee0) hZ (ow hw 154 rfl) (ow hw 144 rfl) (by decide) (by decide)) e101 (g := (mkF m 6 #[.val (.ref t), .val (.int (1 : Int32))] [(.ref mr), (.int (1 : Int32)), (.ref t)])) rfl (by rw [hml]; rfl) (argsL := [(.ref t), (.int (1 : Int32)), (.ref mr)]) (rest := []) rfl (lenOf own_pd9 rfl) rfl (by show 2 * 0 + _ ≤ _; exact Nat.le_of_eq rfl) (hb hby own_d24_6) (by decide) (by decide)
  obtain ⟨Nq102, Kp102, ⟨b_103, kb2_104, rfl, z105, f106, f107, f108⟩⟩ := q102
  have N102 := Fr.app N0 Nq102
  refine go _ _ (st102) ?_
  show G (T102.setTop (mkF m 9 #[.val (.ref t), .val (.int (1 : Int32))] [(.ref b_103)]))
  have K109 : Keep h0 T102.heap [] := (Keep.refl h0 []).trans Kp102 all0
  refine fin T102 _ _ _ (some (.ref b_103)) X102 (fun q => nomatch q) (by decide) (by decide) ⟨N102, K109, ⟨b_103, kb2_104, rfl, z105, f106, f107, f108⟩⟩ _ (own_retA X102 hx hret rfl rfl rfl (hb hby own_d24_9))
theorem own_d23_0 : decode jdk_38_method_16_code 0 = .ok (.aload_n 0, 1) := by decide +kernel
theorem own_d23_1 : decode jdk_38_method_16_code 1 = .ok (.getfield 9, 3) := by decide +kernel
theorem own_d23_4 : decode jdk_38_method_16_code 4 = .ok (.aload_n 0, 1) := by decide +kernel
theorem own_d23_5 : decode jdk_38_method_16_code 5 = .ok (.getfield 48, 3) := by decide +kernel
theorem own_d23_8 : decode jdk_38_method_16_code 8 = .ok (.invokestatic 66, 3) := by decide +kernel
theorem own_d23_11 : decode jdk_38_method_16_code 11 = .ok (.areturn, 1) := by decide +kernel
theorem own_pd10 : parseMethodDescriptor "([Ljava/lang/Object;I)[Ljava/lang/Object;" = some ⟨[(.array (.object "java/lang/Object")), .int], some (.array (.object "java/lang/Object"))⟩ := by decide +kernel
set_option maxHeartbeats 4000000 in
theorem own_ef_rmTa1 (m : MethodId) (x0 : Addr) : entryFrame m #[(.ref x0)] 1 = mkF m 0 #[.val (.ref x0)] [] := by rfl
set_option maxRecDepth 65536 in
set_option maxHeartbeats 40000000 in
theorem rmTa1 (l : Launch) (Z : State) (a0 : Array Value) (hw : ∀ d ∈ tables_1, d.before a0 Z = true) (z0 : Int32) (O2 : Sta Z Z.heap "java/lang/String" "COMPACT_STRINGS" "Z" (.int z0)) (P5 : ¬ z0 = (0 : Int32)) (dd : Addr) (kd : ClassId) (O_dd : Sta Z Z.heap "java/util/ArrayList" "DEFAULTCAPACITY_EMPTY_ELEMENTDATA" "[Ljava/lang/Object;" (.ref dd)) (V_dd : Arv Z Z.heap dd kd (.object "java/lang/Object") (0 : Int32) [] .null) (mr : Addr) (M_mr : own_Mir Z "[Ljava/lang/Object;" mr) (el : Addr) (O_el : Sta Z Z.heap "java/util/ImmutableCollections" "EMPTY_LIST" "Ljava/util/ImmutableCollections$ListN;" (.ref el)) (em : Addr) (O_em : Sta Z Z.heap "java/util/ImmutableCollections" "EMPTY" "Ljava/lang/Object;" (.ref em)) (ws : List Jvm.Cond) (a : Addr) (t : Addr) (kb : ClassId) (ee0 : Addr) (h0 : Heap) (n0 : Nat) (Z0 : n0 ≤ h0.size) (Et : Exa Z h0 t "[Ljava/lang/Object;") (At : Arv Z h0 t kb (.object "java/lang/Object") (10 : Int32) [(.ref ee0)] .null) (Eee0 : Exa Z h0 ee0 "java/lang/String") (Fe : Fld Z h0 a "java/util/ArrayList" "elementData" "[Ljava/lang/Object;" (.ref t)) (Fs : Fld Z h0 a "java/util/ArrayList" "size" "I" (.int (1 : Int32))) :
    own_MetN l Z (⟨"java/util/ArrayList", "toArray", "()[Ljava/lang/Object;"⟩ : MethodName) jdk_38_method_16_code 1 (some (.array (.object "java/lang/Object"))) ws ({ frames := 3, cells := 1, slots := 1, locals := 55 } : Room) #[(.ref a)] h0 (fun v h L => Fr n0 L ∧ Keep h0 h [] ∧ ((∃ (b : Addr) (kb2 : ClassId), (v = some (.ref b)) ∧ (h0.size ≤ b) ∧ (Exa Z h b "[Ljava/lang/Object;") ∧ (Arv Z h b kb2 (.object "java/lang/Object") (1 : Int32) [(.ref ee0)] .null) ∧ (Ovr Z kb2 "java/lang/Object")))) := by
  refine own_metN (plainFor_of_name own_pn3) ?_
  intro p e s m below meth c s₁ G hx hby hml hZ hown hnm hret X0 e0 go fin
  have N0 := Fr.nil n0
  refine go _ _ (fun _ k => castTop (own_ef_rmTa1 m a) k) ?_
  show G (s₁.setTop (mkF m 0 #[.val (.ref a)] []))
  refine go _ _ (fun _ k => XS.aloadN X0.here hx rfl (hb hby own_d23_0) rfl rfl k) ?_
  show G (s₁.setTop (mkF m 1 #[.val (.ref a)] [(.ref a)]))
  obtain ⟨T101, X101, e101, st101⟩ := getF X0 hx hZ hown (host := "") (Or.inl (ow hw 24 rfl)) Via.refl e0 Fe (g := (mkF m 1 #[.val (.ref a)] [(.ref a)])) rfl rfl (hb hby own_d23_1)
  refine go _ _ (st101) ?_
  show G (T101.setTop (mkF m 4 #[.val (.ref a)] [(.ref t)]))
  refine go _ _ (fun _ k => XS.aloadN X101.here hx rfl (hb hby own_d23_4) rfl rfl k) ?_
  show G (T101.setTop (mkF m 5 #[.val (.ref a)] [(.ref a), (.ref t)]))
  obtain ⟨T102, X102, e102, st102⟩ := getF X101 hx hZ hown (host := "") (Or.inl (ow hw 57 rfl)) Via.refl e101 Fs (g := (mkF m 5 #[.val (.ref a)] [(.ref a), (.ref t)])) rfl rfl (hb hby own_d23_5)
  refine go _ _ (st102) ?_
  show G (T102.setTop (mkF m 8 #[.val (.ref a)] [(.int (1 : Int32)), (.ref t)]))
  obtain ⟨rv103, T103, L103, X103, q103, st103⟩ := own_st X102 hx hZ (y := (⟨"java/util/Arrays", "copyOf", "([Ljava/lang/Object;I)[Ljava/lang/Object;"⟩ : MethodName)) hown (ow hw 142 rfl) (ow hw 143 rfl) (ow hw 144 rfl) (ow hw 145 rfl) (by decide) (own_bkN (W := 0) (rmCp1 l Z a0 hw z0 O2 P5 dd kd O_dd V_dd mr M_mr el O_el em O_em [] t kb ee0 h0 n0 Z0 Et At Eee0) hZ (ow hw 145 rfl) (ow hw 144 rfl) (by decide) (by decide)) e102 (g := (mkF m 8 #[.val (.ref a)] [(.int (1 : Int32)), (.ref t)])) rfl (by rw [hml]; rfl) (argsL := [(.ref t), (.int (1 : Int32))]) (rest := []) rfl (lenOf own_pd10 rfl) rfl (by show 2 * 0 + _ ≤ _; exact Nat.le_of_eq rfl) (hb hby own_d23_8) (by decide) (by decide)
  obtain ⟨Nq103, Kp103, ⟨b_104, kb2_105, rfl, z106, f107, f108, f109⟩⟩ := q103
  have N103 := Fr.app N0 Nq103
  refine go _ _ (st103) ?_
  show G (T103.setTop (mkF m 11 #[.val (.ref a)] [(.ref b_104)]))
  have K110 : Keep h0 T103.heap [] := (Keep.refl h0 []).trans Kp103 all0
  refine fin T103 _ _ _ (some (.ref b_104)) X103 (fun q => nomatch q) (by decide) (by decide) ⟨N103, K110, ⟨b_104, kb2_105, rfl, z106, f107, f108, f109⟩⟩ _ (own_retA X103 hx hret rfl rfl rfl (hb hby own_d23_11))
theorem own_d27_0 : decode jdk_40_method_47_code 0 = .ok (.aload_n 0, 1) := by decide +kernel
theorem own_d27_1 : decode jdk_40_method_47_code 1 = .ok (.arraylength, 1) := by decide +kernel
theorem own_d27_2 : decode jdk_40_method_47_code 2 = .ok (.tableswitch 57 0 2 #[26, 32, 43], 26) := by decide +kernel
theorem own_d27_28 : decode jdk_40_method_47_code 28 = .ok (.getstatic 90, 3) := by decide +kernel
theorem own_d27_31 : decode jdk_40_method_47_code 31 = .ok (.astore_n 1, 1) := by decide +kernel
theorem own_d27_32 : decode jdk_40_method_47_code 32 = .ok (.aload_n 1, 1) := by decide +kernel
theorem own_d27_33 : decode jdk_40_method_47_code 33 = .ok (.areturn, 1) := by decide +kernel
theorem own_d27_34 : decode jdk_40_method_47_code 34 = .ok (.new 96, 3) := by decide +kernel
theorem own_d27_37 : decode jdk_40_method_47_code 37 = .ok (.dup, 1) := by decide +kernel
theorem own_d27_38 : decode jdk_40_method_47_code 38 = .ok (.aload_n 0, 1) := by decide +kernel
theorem own_d27_39 : decode jdk_40_method_47_code 39 = .ok (.iconst 0, 1) := by decide +kernel
theorem own_d27_40 : decode jdk_40_method_47_code 40 = .ok (.aaload, 1) := by decide +kernel
theorem own_d27_41 : decode jdk_40_method_47_code 41 = .ok (.invokespecial 98, 3) := by decide +kernel
theorem own_d27_44 : decode jdk_40_method_47_code 44 = .ok (.areturn, 1) := by decide +kernel
theorem own_d27_45 : decode jdk_40_method_47_code 45 = .ok (.new 96, 3) := by decide +kernel
theorem own_d27_48 : decode jdk_40_method_47_code 48 = .ok (.dup, 1) := by decide +kernel
theorem own_d27_49 : decode jdk_40_method_47_code 49 = .ok (.aload_n 0, 1) := by decide +kernel
theorem own_d27_50 : decode jdk_40_method_47_code 50 = .ok (.iconst 0, 1) := by decide +kernel
theorem own_d27_51 : decode jdk_40_method_47_code 51 = .ok (.aaload, 1) := by decide +kernel
theorem own_d27_52 : decode jdk_40_method_47_code 52 = .ok (.aload_n 0, 1) := by decide +kernel
theorem own_d27_53 : decode jdk_40_method_47_code 53 = .ok (.iconst 1, 1) := by decide +kernel
theorem own_d27_54 : decode jdk_40_method_47_code 54 = .ok (.aaload, 1) := by decide +kernel
theorem own_d27_55 : decode jdk_40_method_47_code 55 = .ok (.invokespecial 100, 3) := by decide +kernel
theorem own_d27_58 : decode jdk_40_method_47_code 58 = .ok (.areturn, 1) := by decide +kernel
theorem own_d27_59 : decode jdk_40_method_47_code 59 = .ok (.aload_n 0, 1) := by decide +kernel
theorem own_d27_60 : decode jdk_40_method_47_code 60 = .ok (.invokestatic 109, 3) := by decide +kernel
theorem own_d27_63 : decode jdk_40_method_47_code 63 = .ok (.areturn, 1) := by decide +kernel
theorem own_pn13 : plainName "java/util/List" = true := by decide +kernel
theorem own_pd11 : parseMethodDescriptor "(Ljava/lang/Object;)V" = some ⟨[(.object "java/lang/Object")], none⟩ := by decide +kernel
set_option maxHeartbeats 4000000 in
theorem own_ef_rmLo1 (m : MethodId) (x0 : Addr) : entryFrame m #[(.ref x0)] 2 = mkF m 0 #[.val (.ref x0), .unset] [] := by rfl
set_option maxRecDepth 65536 in
set_option maxHeartbeats 40000000 in
theorem rmLo1 (l : Launch) (Z : State) (a0 : Array Value) (hw : ∀ d ∈ tables_1, d.before a0 Z = true) (z0 : Int32) (O2 : Sta Z Z.heap "java/lang/String" "COMPACT_STRINGS" "Z" (.int z0)) (P5 : ¬ z0 = (0 : Int32)) (dd : Addr) (kd : ClassId) (O_dd : Sta Z Z.heap "java/util/ArrayList" "DEFAULTCAPACITY_EMPTY_ELEMENTDATA" "[Ljava/lang/Object;" (.ref dd)) (V_dd : Arv Z Z.heap dd kd (.object "java/lang/Object") (0 : Int32) [] .null) (mr : Addr) (M_mr : own_Mir Z "[Ljava/lang/Object;" mr) (el : Addr) (O_el : Sta Z Z.heap "java/util/ImmutableCollections" "EMPTY_LIST" "Ljava/util/ImmutableCollections$ListN;" (.ref el)) (em : Addr) (O_em : Sta Z Z.heap "java/util/ImmutableCollections" "EMPTY" "Ljava/lang/Object;" (.ref em)) (ws : List Jvm.Cond) (q : Addr) (kb : ClassId) (ee0 : Addr) (h0 : Heap) (n0 : Nat) (Z0 : n0 ≤ h0.size) (Xo : Old Z n0 h0) (Aq : Arv Z h0 q kb (.object "java/lang/Object") (1 : Int32) [(.ref ee0)] .null) (Eee0 : Exa Z h0 ee0 "java/lang/String") :
    own_MetN l Z (⟨"java/util/List", "of", "([Ljava/lang/Object;)Ljava/util/List;"⟩ : MethodName) jdk_40_method_47_code 2 (some (.object "java/util/List")) ws ({ frames := 5, cells := 1, slots := 2, locals := 62 } : Room) #[(.ref q)] h0 (fun v h L => Fr n0 L ∧ Keep h0 h [] ∧ ((∃ (b : Addr), (v = some (.ref b))))) := by
  refine own_metN (plainFor_of_name own_pn13) ?_
  intro p e s m below meth c s₁ G hx hby hml hZ hown hnm hret X0 e0 go fin
  have N0 := Fr.nil n0
  refine go _ _ (fun _ k => castTop (own_ef_rmLo1 m q) k) ?_
  show G (s₁.setTop (mkF m 0 #[.val (.ref q), .unset] []))
  refine go _ _ (fun _ k => XS.aloadN X0.here hx rfl (hb hby own_d27_0) rfl rfl k) ?_
  show G (s₁.setTop (mkF m 1 #[.val (.ref q), .unset] [(.ref q)]))
  obtain ⟨cl101, Ar101, q101, S101, M101, H101, U101⟩ := id Aq
  refine go _ _ (fun _ k => X0.arraylength hx (by rw [e0]; exact Ar101.1) (State.isArrayOf_alike hZ.alike Ar101.2.1) (g := (mkF m 1 #[.val (.ref q), .unset] [(.ref q)])) rfl rfl (hb hby own_d27_1) _ k) ?_
  show G (s₁.setTop (mkF m 2 #[.val (.ref q), .unset] [(.int cl101.slots.size.toInt32)]))
  rw [len_of S101 M101]
  show G (s₁.setTop (mkF m 2 #[.val (.ref q), .unset] [(.int (1 : Int32))]))
  refine go _ _ (fun _ k => XS.tswIn X0.here hx rfl (pc0 := 2) (pc' := 34) rfl (hb hby own_d27_2) rfl (by decide) (o := 32) (by decide) (by decide) (by decide) k) ?_
  show G (s₁.setTop (mkF m 34 #[.val (.ref q), .unset] []))
  obtain ⟨T102, h102, X102, e102, E102, A102, D102, -, st102⟩ := newO X0 hx hZ hown (ow hw 211 rfl) (ow hw 212 rfl) (ow hw 213 rfl) e0 (g := (mkF m 34 #[.val (.ref q), .unset] [])) rfl (hb hby own_d27_34) (by decide) (by decide)
  obtain ⟨b102, g102⟩ : ∃ z, z = h0.size := ⟨_, rfl⟩
  rw [← g102] at A102 D102 st102
  refine go _ _ (st102) ?_
  show G (T102.setTop (mkF m 37 #[.val (.ref q), .unset] [(.ref b102)]))
  refine go _ _ (fun _ k => XS.dup X102.here hx rfl (hb hby own_d27_37) rfl rfl (XS.aloadN X102.here hx rfl (hb hby own_d27_38) rfl rfl (XS.iconst X102.here hx rfl (hb hby own_d27_39) k))) ?_
  show G (T102.setTop (mkF m 40 #[.val (.ref q), .unset] [(.int (0 : Int32)), (.ref q), (.ref b102), (.ref b102)]))
  have K104 : Keep h0 h102 [] := (Keep.refl h0 []).ext E102
  have F105 : Arv Z h102 q kb (.object "java/lang/Object") (1 : Int32) [(.ref ee0)] .null := (Aq.keep K104 nin0)
  obtain ⟨cl103, Ar103, q103, S103, M103, H103, U103⟩ := id F105
  refine go _ _ (fun _ k => X102.aaload hx (j := (0 : Int32)) (v := (.ref ee0)) (by rw [e102]; exact Ar103.1) (State.isArrayOf_alike hZ.alike Ar103.2.1) rfl Ar103.2.2 (inb_of S103 ⟨by decide, by decide⟩) (Has.at H103 (inb_of S103 ⟨by decide, by decide⟩) rfl) (g := (mkF m 40 #[.val (.ref q), .unset] [(.int (0 : Int32)), (.ref q), (.ref b102), (.ref b102)])) rfl rfl (hb hby own_d27_40) _ k) ?_
  show G (T102.setTop (mkF m 41 #[.val (.ref q), .unset] [(.ref ee0), (.ref b102), (.ref b102)]))
  have F107 : Old Z n0 h102 := (Xo.keep K104 all0)
  have Z108 : h0.size ≤ h102.size := E102.1
  obtain ⟨rv106, T106, L106, X106, q106, st106⟩ := own_sp X102 hx hZ (y := (⟨"java/util/ImmutableCollections$List12", "<init>", "(Ljava/lang/Object;)V"⟩ : MethodName)) rfl hown (ow hw 227 rfl) (ow hw 228 rfl) (ow hw 229 rfl) (by decide) (own_bkN (W := 1) (rm36 l Z a0 hw z0 O2 P5 dd kd O_dd V_dd mr M_mr el O_el em O_em [] b102 ee0 h102 n0 (Nat.le_trans Z0 Z108) F107 A102 (D102 (Or.inr (ow hw 224 rfl)) (ty := (.object "java/lang/Object")) (by decide)) (D102 (Or.inr (ow hw 226 rfl)) (ty := (.object "java/lang/Object")) (by decide)) (Nat.le_trans Z0 (Nat.le_of_eq g102.symm))) hZ (ow hw 229 rfl) (ow hw 213 rfl) (by decide) (by decide)) e102 (g := (mkF m 41 #[.val (.ref q), .unset] [(.ref ee0), (.ref b102), (.ref b102)])) rfl (by rw [hml]; rfl) (a := b102) (argsL := [(.ref ee0)]) (rest := [(.ref b102)]) rfl (lenOf own_pd11 rfl) rfl (by show 2 * 0 + _ ≤ _; exact Nat.le_of_eq rfl) (hb hby own_d27_41) (by decide) (by decide)
  obtain ⟨Nq106, Kp106, rfl⟩ := q106
  have N106 := Fr.app N0 Nq106
  refine go _ _ (st106) ?_
  show G (T106.setTop (mkF m 44 #[.val (.ref q), .unset] [(.ref b102)]))
  have K109 : Keep h0 T106.heap [] := K104.trans Kp106 (allS (Or.inr (Nat.le_of_eq g102.symm)) all0)
  refine fin T106 _ _ _ (some (.ref b102)) X106 (fun q => nomatch q) (by decide) (by decide) ⟨N106, K109, ⟨b102, rfl⟩⟩ _ (own_retA X106 hx hret rfl rfl rfl (hb hby own_d27_44))
set_option maxHeartbeats 4000000 in
theorem own_ef_rmCpC2 (m : MethodId) (x0 : Addr) (x1 : Int32) (x2 : Addr) : entryFrame m #[(.ref x0), (.int x1), (.ref x2)] 4 = mkF m 0 #[.val (.ref x0), .val (.int x1), .val (.ref x2), .unset] [] := by rfl
set_option maxRecDepth 65536 in
set_option maxHeartbeats 40000000 in
theorem rmCpC2 (l : Launch) (Z : State) (a0 : Array Value) (hw : ∀ d ∈ tables_1, d.before a0 Z = true) (z0 : Int32) (O2 : Sta Z Z.heap "java/lang/String" "COMPACT_STRINGS" "Z" (.int z0)) (P5 : ¬ z0 = (0 : Int32)) (dd : Addr) (kd : ClassId) (O_dd : Sta Z Z.heap "java/util/ArrayList" "DEFAULTCAPACITY_EMPTY_ELEMENTDATA" "[Ljava/lang/Object;" (.ref dd)) (V_dd : Arv Z Z.heap dd kd (.object "java/lang/Object") (0 : Int32) [] .null) (mr : Addr) (M_mr : own_Mir Z "[Ljava/lang/Object;" mr) (el : Addr) (O_el : Sta Z Z.heap "java/util/ImmutableCollections" "EMPTY_LIST" "Ljava/util/ImmutableCollections$ListN;" (.ref el)) (em : Addr) (O_em : Sta Z Z.heap "java/util/ImmutableCollections" "EMPTY" "Ljava/lang/Object;" (.ref em)) (ws : List Jvm.Cond) (t : Addr) (kb : ClassId) (ee0 : Addr) (ee1 : Addr) (h0 : Heap) (n0 : Nat) (Z0 : n0 ≤ h0.size) (Et : Exa Z h0 t "[Ljava/lang/Object;") (At : Arv Z h0 t kb (.object "java/lang/Object") (10 : Int32) [(.ref ee0), (.ref ee1)] .null) (Eee0 : Exa Z h0 ee0 "java/lang/String") (Eee1 : Exa Z h0 ee1 "java/lang/String") :
    own_MetN l Z (⟨"java/util/Arrays", "copyOf", "([Ljava/lang/Object;ILjava/lang/Class;)[Ljava/lang/Object;"⟩ : MethodName) jdk_65_method_120_code 4 (some (.array (.object "java/lang/Object"))) ws ({ frames := 1, cells := 1, slots := 2, locals := 27 } : Room) #[(.ref t), (.int (2 : Int32)), (.ref mr)] h0 (fun v h L => Fr n0 L ∧ Keep h0 h [] ∧ ((∃ (b : Addr) (kb2 : ClassId), (v = some (.ref b)) ∧ (h0.size ≤ b) ∧ (Exa Z h b "[Ljava/lang/Object;") ∧ (Arv Z h b kb2 (.object "java/lang/Object") (2 : Int32) [(.ref ee0), (.ref ee1)] .null) ∧ (Ovr Z kb2 "java/lang/Object")))) := by
  refine own_metN (plainFor_of_name own_pn12) ?_
  intro p e s m below meth c s₁ G hx hby hml hZ hown hnm hret X0 e0 go fin
  have N0 := Fr.nil n0
  refine go _ _ (fun _ k => castTop (own_ef_rmCpC2 m t (2 : Int32) mr) k) ?_
  show G (s₁.setTop (mkF m 0 #[.val (.ref t), .val (.int (2 : Int32)), .val (.ref mr), .unset] []))
  refine go _ _ (fun _ k => XS.aloadN X0.here hx rfl (hb hby own_d25_0) rfl rfl k) ?_
  show G (s₁.setTop (mkF m 1 #[.val (.ref t), .val (.int (2 : Int32)), .val (.ref mr), .unset] [(.ref mr)]))
  obtain ⟨T101, X101, e101, st101⟩ := own_ldcM X0 hx hZ hown (ow hw 155 rfl) M_mr e0 (g := (mkF m 1 #[.val (.ref t), .val (.int (2 : Int32)), .val (.ref mr), .unset] [(.ref mr)])) rfl (hb hby own_d25_1)
  refine go _ _ (st101) ?_
  show G (T101.setTop (mkF m 3 #[.val (.ref t), .val (.int (2 : Int32)), .val (.ref mr), .unset] [(.ref mr), (.ref mr)]))
  refine go _ _ (fun _ k => acmp X101 hx rfl rfl rfl (pc0 := 3) (pc' := 6) (same := true) rfl (hb hby own_d25_3) rfl (decide_eq_true rfl) (by decide) (by decide) k) ?_
  show G (T101.setTop (mkF m 6 #[.val (.ref t), .val (.int (2 : Int32)), .val (.ref mr), .unset] []))
  refine go _ _ (fun _ k => XS.iloadN X101.here hx rfl (hb hby own_d25_6) rfl k) ?_
  show G (T101.setTop (mkF m 7 #[.val (.ref t), .val (.int (2 : Int32)), .val (.ref mr), .unset] [(.int (2 : Int32))]))
  obtain ⟨T102, h102, k102, X102, e102, E102, A102, Ex102, O102, st102⟩ := newRE X101 hx hZ hown (ow hw 156 rfl) (ow hw 79 rfl) e101 (g := (mkF m 7 #[.val (.ref t), .val (.int (2 : Int32)), .val (.ref mr), .unset] [(.int (2 : Int32))])) rfl (hb hby own_d25_7) rfl (by decide) (cap := 2) (by decide) (by decide) (by decide) (by decide) (ad := "[Ljava/lang/Object;") (by decide)
  obtain ⟨b102, g102⟩ : ∃ z, z = h0.size := ⟨_, rfl⟩
  rw [← g102] at A102 Ex102 st102
  have V102 : Arv Z h102 b102 k102 (.object "java/lang/Object") (2 : Int32) [] .null := Arv.new A102 (by decide)
  refine go _ _ (st102) ?_
  show G (T102.setTop (mkF m 10 #[.val (.ref t), .val (.int (2 : Int32)), .val (.ref mr), .unset] [(.ref b102)]))
  refine go _ _ (fun _ k => XS.goto X102.here hx rfl (pc0 := 10) (pc' := 24) rfl (hb hby own_d25_10) (by decide) (by decide) k) ?_
  show G (T102.setTop (mkF m 24 #[.val (.ref t), .val (.int (2 : Int32)), .val (.ref mr), .unset] [(.ref b102)]))
  refine go _ _ (fun _ k => XS.astoreN X102.here hx rfl (hb hby own_d25_24) rfl rfl (l' := #[.val (.ref t), .val (.int (2 : Int32)), .val (.ref mr), .val (.ref b102)]) rfl (XS.aloadN X102.here hx rfl (hb hby own_d25_25) rfl rfl (XS.iconst X102.here hx rfl (hb hby own_d25_26) (XS.aloadN X102.here hx rfl (hb hby own_d25_27) rfl rfl (XS.iconst X102.here hx rfl (hb hby own_d25_28) (XS.aloadN X102.here hx rfl (hb hby own_d25_29) rfl rfl k)))))) ?_
  show G (T102.setTop (mkF m 30 #[.val (.ref t), .val (.int (2 : Int32)), .val (.ref mr), .val (.ref b102)] [(.ref t), (.int (0 : Int32)), (.ref b102), (.int (0 : Int32)), (.ref t)]))
  have K104 : Keep h0 h102 [] := (Keep.refl h0 []).ext E102
  have F105 : Arv Z h102 t kb (.object "java/lang/Object") (10 : Int32) [(.ref ee0), (.ref ee1)] .null := (At.keep K104 nin0)
  obtain ⟨cl103, Ar103, q103, S103, M103, H103, U103⟩ := id F105
  refine go _ _ (fun _ k => X102.arraylength hx (by rw [e102]; exact Ar103.1) (State.isArrayOf_alike hZ.alike Ar103.2.1) (g := (mkF m 30 #[.val (.ref t), .val (.int (2 : Int32)), .val (.ref mr), .val (.ref b102)] [(.ref t), (.int (0 : Int32)), (.ref b102), (.int (0 : Int32)), (.ref t)])) rfl rfl (hb hby own_d25_30) _ k) ?_
  show G (T102.setTop (mkF m 31 #[.val (.ref t), .val (.int (2 : Int32)), .val (.ref mr), .val (.ref b102)] [(.int cl103.slots.size.toInt32), (.int (0 : Int32)), (.ref b102), (.int (0 : Int32)), (.ref t)]))
  rw [len_of S103 M103]
  show G (T102.setTop (mkF m 31 #[.val (.ref t), .val (.int (2 : Int32)), .val (.ref mr), .val (.ref b102)] [(.int (10 : Int32)), (.int (0 : Int32)), (.ref b102), (.int (0 : Int32)), (.ref t)]))
  refine go _ _ (fun _ k => XS.iloadN X102.here hx rfl (hb hby own_d25_31) rfl k) ?_
  show G (T102.setTop (mkF m 32 #[.val (.ref t), .val (.int (2 : Int32)), .val (.ref mr), .val (.ref b102)] [(.int (2 : Int32)), (.int (10 : Int32)), (.int (0 : Int32)), (.ref b102), (.int (0 : Int32)), (.ref t)]))
  have Z107 : h0.size ≤ h102.size := E102.1
  obtain ⟨rv106, T106, L106, X106, q106, st106⟩ := own_st X102 hx hZ (y := (⟨"java/lang/Math", "min", "(II)I"⟩ : MethodName)) hown (ow hw 157 rfl) (ow hw 158 rfl) (ow hw 76 rfl) (ow hw 159 rfl) (by decide) (own_bkN (W := 4) (rm26 l Z a0 hw z0 O2 P5 dd kd O_dd V_dd mr M_mr el O_el em O_em [] (10 : Int32) (2 : Int32) h102 n0 (Nat.le_trans Z0 Z107)) hZ (ow hw 159 rfl) (ow hw 76 rfl) (by decide) (by decide)) e102 (g := (mkF m 32 #[.val (.ref t), .val (.int (2 : Int32)), .val (.ref mr), .val (.ref b102)] [(.int (2 : Int32)), (.int (10 : Int32)), (.int (0 : Int32)), (.ref b102), (.int (0 : Int32)), (.ref t)])) rfl (by rw [hml]; rfl) (argsL := [(.int (10 : Int32)), (.int (2 : Int32))]) (rest := [(.int (0 : Int32)), (.ref b102), (.int (0 : Int32)), (.ref t)]) rfl (lenOf own_pd5 rfl) rfl (by show 2 * 0 + _ ≤ _; exact Nat.le_of_eq rfl) (hb hby own_d25_32) (by decide) (by decide)
  obtain ⟨Nq106, e106, q106⟩ := q106
  have N106 := Fr.app N0 Nq106
  rcases q106 with ⟨rfl, p108⟩ | ⟨rfl, p109⟩
  · refine go _ _ (st106) ?_
    show G (T106.setTop (mkF m 35 #[.val (.ref t), .val (.int (2 : Int32)), .val (.ref mr), .val (.ref b102)] [(.int (2 : Int32)), (.int (0 : Int32)), (.ref b102), (.int (0 : Int32)), (.ref t)]))
    have Vp110 : Arv Z h102 b102 k102 (.object "java/lang/Object") (2 : Int32) [.null, .null] .null := V102.pad (pad_rep [] .null 2)
    obtain ⟨cl110, Ar110, q110, -⟩ := id Vp110
    have F111 : Exa Z h102 ee1 "java/lang/String" := (Eee1.keep K104)
    have F112 : Exa Z h102 ee0 "java/lang/String" := (Eee0.keep K104)
    obtain ⟨T110, h110, L110, X110, e110, N110, Kp110, V110, st110⟩ := cpA X106 hx hZ hown (ow hw 160 rfl) (ow hw 163 rfl) (ow hw 161 rfl) (ow hw 162 rfl) e106 F105 Vp110 (us := [(.ref ee0), (.ref ee1)]) (Or.inr ⟨rfl, rfl, ⟨Sto.ofV Ar110 q110 O102 (Ins.of_exa F112 (ow hw 80 rfl)), ⟨Sto.ofV Ar110 q110 O102 (Ins.of_exa F111 (ow hw 80 rfl)), trivial⟩⟩⟩) (by decide) (by decide) (by decide) (by decide) (by decide) rfl (by decide) N106 (Nat.le_trans Z0 (Nat.le_of_eq g102.symm)) (g := (mkF m 35 #[.val (.ref t), .val (.int (2 : Int32)), .val (.ref mr), .val (.ref b102)] [(.int (2 : Int32)), (.int (0 : Int32)), (.ref b102), (.int (0 : Int32)), (.ref t)])) rfl (by rw [hml]; rfl) (rest := []) rfl (hb hby own_d25_35) (by decide) (W := 0) (by show 2 * 0 + _ ≤ _; exact Nat.le_of_eq rfl) (by decide)
    have Vq110 : Arv Z h110 b102 k102 (.object "java/lang/Object") (2 : Int32) [(.ref ee0), (.ref ee1)] .null := V110
    refine go _ _ (st110) ?_
    show G (T110.setTop (mkF m 38 #[.val (.ref t), .val (.int (2 : Int32)), .val (.ref mr), .val (.ref b102)] []))
    refine go _ _ (fun _ k => XS.aloadN X110.here hx rfl (hb hby own_d25_38) rfl rfl k) ?_
    show G (T110.setTop (mkF m 39 #[.val (.ref t), .val (.int (2 : Int32)), .val (.ref mr), .val (.ref b102)] [(.ref b102)]))
    have K113 : Keep h0 h110 [] := K104.trans Kp110 (allS (Or.inr (Nat.le_of_eq g102.symm)) all0)
    have K114 : Keep h102 h110 [b102] := (Keep.refl h102 [b102]).trans Kp110 (allS (Or.inl (List.mem_of_getElem? (i := 0) rfl)) all0)
    have F115 : Ovr Z k102 "java/lang/Object" := O102
    refine fin T110 _ _ _ (some (.ref b102)) X110 (fun q => nomatch q) (by decide) (by decide) (by rw [e110]; exact ⟨N110, K113, ⟨b102, k102, rfl, (Nat.le_of_eq g102.symm), (Ex102.keep Kp110), Vq110, F115⟩⟩) _ (own_retA X110 hx hret rfl rfl rfl (hb hby own_d25_39))
  · exact absurd (by decide) p109
set_option maxHeartbeats 4000000 in
theorem own_ef_rmCp2 (m : MethodId) (x0 : Addr) (x1 : Int32) : entryFrame m #[(.ref x0), (.int x1)] 2 = mkF m 0 #[.val (.ref x0), .val (.int x1)] [] := by rfl
set_option maxRecDepth 65536 in
set_option maxHeartbeats 40000000 in
theorem rmCp2 (l : Launch) (Z : State) (a0 : Array Value) (hw : ∀ d ∈ tables_1, d.before a0 Z = true) (z0 : Int32) (O2 : Sta Z Z.heap "java/lang/String" "COMPACT_STRINGS" "Z" (.int z0)) (P5 : ¬ z0 = (0 : Int32)) (dd : Addr) (kd : ClassId) (O_dd : Sta Z Z.heap "java/util/ArrayList" "DEFAULTCAPACITY_EMPTY_ELEMENTDATA" "[Ljava/lang/Object;" (.ref dd)) (V_dd : Arv Z Z.heap dd kd (.object "java/lang/Object") (0 : Int32) [] .null) (mr : Addr) (M_mr : own_Mir Z "[Ljava/lang/Object;" mr) (el : Addr) (O_el : Sta Z Z.heap "java/util/ImmutableCollections" "EMPTY_LIST" "Ljava/util/ImmutableCollections$ListN;" (.ref el)) (em : Addr) (O_em : Sta Z Z.heap "java/util/ImmutableCollections" "EMPTY" "Ljava/lang/Object;" (.ref em)) (ws : List Jvm.Cond) (t : Addr) (kb : ClassId) (ee0 : Addr) (ee1 : Addr) (h0 : Heap) (n0 : Nat) (Z0 : n0 ≤ h0.size) (Et : Exa Z h0 t "[Ljava/lang/Object;") (At : Arv Z h0 t kb (.object "java/lang/Object") (10 : Int32) [(.ref ee0), (.ref ee1)] .null) (Eee0 : Exa Z h0 ee0 "java/lang/String") (Eee1 : Exa Z h0 ee1 "java/lang/String") :
    own_MetN l Z (⟨"java/util/Arrays", "copyOf", "([Ljava/lang/Object;I)[Ljava/lang/Object;"⟩ : MethodName) jdk_65_method_119_code 2 (some (.array (.object "java/lang/Object"))) ws ({ frames := 2, cells := 1, slots := 2, locals := 42 } : Room) #[(.ref t), (.int (2 : Int32))] h0 (fun v h L => Fr n0 L ∧ Keep h0 h [] ∧ ((∃ (b : Addr) (kb2 : ClassId), (v = some (.ref b)) ∧ (h0.size ≤ b) ∧ (Exa Z h b "[Ljava/lang/Object;") ∧ (Arv Z h b kb2 (.object "java/lang/Object") (2 : Int32) [(.ref ee0), (.ref ee1)] .null) ∧ (Ovr Z kb2 "java/lang/Object")))) := by
  refine own_metN (plainFor_of_name own_pn12) ?_
  intro p e s m below meth c s₁ G hx hby hml hZ hown hnm hret X0 e0 go fin
  have N0 := Fr.nil n0
  refine go _ _ (fun _ k => castTop (own_ef_rmCp2 m t (2 : Int32)) k) ?_
  show G (s₁.setTop (mkF m 0 #[.val (.ref t), .val (.int (2 : Int32))] []))
  refine go _ _ (fun _ k => XS.aloadN X0.here hx rfl (hb hby own_d24_0) rfl rfl (XS.iloadN X0.here hx rfl (hb hby own_d24_1) rfl (XS.aloadN X0.here hx rfl (hb hby own_d24_2) rfl rfl k))) ?_
  show G (s₁.setTop (mkF m 3 #[.val (.ref t), .val (.int (2 : Int32))] [(.ref t), (.int (2 : Int32)), (.ref t)]))
  obtain ⟨T101, X101, e101, st101⟩ := own_gcls X0 hx hZ hown (ow hw 146 rfl) (ow hw 147 rfl) (ow hw 123 rfl) (ow hw 149 rfl) (ow hw 148 rfl) (ow hw 150 rfl) e0 Et M_mr (g := (mkF m 3 #[.val (.ref t), .val (.int (2 : Int32))] [(.ref t), (.int (2 : Int32)), (.ref t)])) rfl (by rw [hml]; rfl) rfl (hb hby own_d24_3) (by decide) (W := 2) (by show 2 * 0 + _ ≤ _; exact Nat.le_of_eq rfl) (by decide)
  refine go _ _ (st101) ?_
  show G (T101.setTop (mkF m 6 #[.val (.ref t), .val (.int (2 : Int32))] [(.ref mr), (.int (2 : Int32)), (.ref t)]))
  obtain ⟨rv102, T102, L102, X102, q102, st102⟩ := own_st X101 hx hZ (y := (⟨"java/util/Arrays", "copyOf", "([Ljava/lang/Object;ILjava/lang/Class;)[Ljava/lang/Object;"⟩ : MethodName)) hown (ow hw 152 rfl) (ow hw 153 rfl) (ow hw 144 rfl) (ow hw 154 rfl) (by decide) (own_bkN (W := 0) (rmCpC2 l Z a0 hw z0 O2 P5 dd kd O_dd V_dd mr M_mr el O_el em O_em [] t kb ee0 ee1 h0 n0 Z0 Et At Eee0 Eee1) hZ (ow hw 154 rfl) (ow hw 144 rfl) (by decide) (by decide)) e101 (g := (mkF m 6 #[.val (.ref t), .val (.int (2 : Int32))] [(.ref mr), (.int (2 : Int32)), (.ref t)])) rfl (by rw [hml]; rfl) (argsL := [(.ref t), (.int (2 : Int32)), (.ref mr)]) (rest := []) rfl (lenOf own_pd9 rfl) rfl (by show 2 * 0 + _ ≤ _; exact Nat.le_of_eq rfl) (hb hby own_d24_6) (by decide) (by decide)
  obtain ⟨Nq102, Kp102, ⟨b_103, kb2_104, rfl, z105, f106, f107, f108⟩⟩ := q102
  have N102 := Fr.app N0 Nq102
  refine go _ _ (st102) ?_
  show G (T102.setTop (mkF m 9 #[.val (.ref t), .val (.int (2 : Int32))] [(.ref b_103)]))
  have K109 : Keep h0 T102.heap [] := (Keep.refl h0 []).trans Kp102 all0
  refine fin T102 _ _ _ (some (.ref b_103)) X102 (fun q => nomatch q) (by decide) (by decide) ⟨N102, K109, ⟨b_103, kb2_104, rfl, z105, f106, f107, f108⟩⟩ _ (own_retA X102 hx hret rfl rfl rfl (hb hby own_d24_9))
set_option maxHeartbeats 4000000 in
theorem own_ef_rmTa2 (m : MethodId) (x0 : Addr) : entryFrame m #[(.ref x0)] 1 = mkF m 0 #[.val (.ref x0)] [] := by rfl
set_option maxRecDepth 65536 in
set_option maxHeartbeats 40000000 in
theorem rmTa2 (l : Launch) (Z : State) (a0 : Array Value) (hw : ∀ d ∈ tables_1, d.before a0 Z = true) (z0 : Int32) (O2 : Sta Z Z.heap "java/lang/String" "COMPACT_STRINGS" "Z" (.int z0)) (P5 : ¬ z0 = (0 : Int32)) (dd : Addr) (kd : ClassId) (O_dd : Sta Z Z.heap "java/util/ArrayList" "DEFAULTCAPACITY_EMPTY_ELEMENTDATA" "[Ljava/lang/Object;" (.ref dd)) (V_dd : Arv Z Z.heap dd kd (.object "java/lang/Object") (0 : Int32) [] .null) (mr : Addr) (M_mr : own_Mir Z "[Ljava/lang/Object;" mr) (el : Addr) (O_el : Sta Z Z.heap "java/util/ImmutableCollections" "EMPTY_LIST" "Ljava/util/ImmutableCollections$ListN;" (.ref el)) (em : Addr) (O_em : Sta Z Z.heap "java/util/ImmutableCollections" "EMPTY" "Ljava/lang/Object;" (.ref em)) (ws : List Jvm.Cond) (a : Addr) (t : Addr) (kb : ClassId) (ee0 : Addr) (ee1 : Addr) (h0 : Heap) (n0 : Nat) (Z0 : n0 ≤ h0.size) (Et : Exa Z h0 t "[Ljava/lang/Object;") (At : Arv Z h0 t kb (.object "java/lang/Object") (10 : Int32) [(.ref ee0), (.ref ee1)] .null) (Eee0 : Exa Z h0 ee0 "java/lang/String") (Eee1 : Exa Z h0 ee1 "java/lang/String") (Fe : Fld Z h0 a "java/util/ArrayList" "elementData" "[Ljava/lang/Object;" (.ref t)) (Fs : Fld Z h0 a "java/util/ArrayList" "size" "I" (.int (2 : Int32))) :
    own_MetN l Z (⟨"java/util/ArrayList", "toArray", "()[Ljava/lang/Object;"⟩ : MethodName) jdk_38_method_16_code 1 (some (.array (.object "java/lang/Object"))) ws ({ frames := 3, cells := 1, slots := 2, locals := 55 } : Room) #[(.ref a)] h0 (fun v h L => Fr n0 L ∧ Keep h0 h [] ∧ ((∃ (b : Addr) (kb2 : ClassId), (v = some (.ref b)) ∧ (h0.size ≤ b) ∧ (Exa Z h b "[Ljava/lang/Object;") ∧ (Arv Z h b kb2 (.object "java/lang/Object") (2 : Int32) [(.ref ee0), (.ref ee1)] .null) ∧ (Ovr Z kb2 "java/lang/Object")))) := by
  refine own_metN (plainFor_of_name own_pn3) ?_
  intro p e s m below meth c s₁ G hx hby hml hZ hown hnm hret X0 e0 go fin
  have N0 := Fr.nil n0
  refine go _ _ (fun _ k => castTop (own_ef_rmTa2 m a) k) ?_
  show G (s₁.setTop (mkF m 0 #[.val (.ref a)] []))
  refine go _ _ (fun _ k => XS.aloadN X0.here hx rfl (hb hby own_d23_0) rfl rfl k) ?_
  show G (s₁.setTop (mkF m 1 #[.val (.ref a)] [(.ref a)]))
  obtain ⟨T101, X101, e101, st101⟩ := getF X0 hx hZ hown (host := "") (Or.inl (ow hw 24 rfl)) Via.refl e0 Fe (g := (mkF m 1 #[.val (.ref a)] [(.ref a)])) rfl rfl (hb hby own_d23_1)
  refine go _ _ (st101) ?_
  show G (T101.setTop (mkF m 4 #[.val (.ref a)] [(.ref t)]))
  refine go _ _ (fun _ k => XS.aloadN X101.here hx rfl (hb hby own_d23_4) rfl rfl k) ?_
  show G (T101.setTop (mkF m 5 #[.val (.ref a)] [(.ref a), (.ref t)]))
  obtain ⟨T102, X102, e102, st102⟩ := getF X101 hx hZ hown (host := "") (Or.inl (ow hw 57 rfl)) Via.refl e101 Fs (g := (mkF m 5 #[.val (.ref a)] [(.ref a), (.ref t)])) rfl rfl (hb hby own_d23_5)
  refine go _ _ (st102) ?_
  show G (T102.setTop (mkF m 8 #[.val (.ref a)] [(.int (2 : Int32)), (.ref t)]))
  obtain ⟨rv103, T103, L103, X103, q103, st103⟩ := own_st X102 hx hZ (y := (⟨"java/util/Arrays", "copyOf", "([Ljava/lang/Object;I)[Ljava/lang/Object;"⟩ : MethodName)) hown (ow hw 142 rfl) (ow hw 143 rfl) (ow hw 144 rfl) (ow hw 145 rfl) (by decide) (own_bkN (W := 0) (rmCp2 l Z a0 hw z0 O2 P5 dd kd O_dd V_dd mr M_mr el O_el em O_em [] t kb ee0 ee1 h0 n0 Z0 Et At Eee0 Eee1) hZ (ow hw 145 rfl) (ow hw 144 rfl) (by decide) (by decide)) e102 (g := (mkF m 8 #[.val (.ref a)] [(.int (2 : Int32)), (.ref t)])) rfl (by rw [hml]; rfl) (argsL := [(.ref t), (.int (2 : Int32))]) (rest := []) rfl (lenOf own_pd10 rfl) rfl (by show 2 * 0 + _ ≤ _; exact Nat.le_of_eq rfl) (hb hby own_d23_8) (by decide) (by decide)
  obtain ⟨Nq103, Kp103, ⟨b_104, kb2_105, rfl, z106, f107, f108, f109⟩⟩ := q103
  have N103 := Fr.app N0 Nq103
  refine go _ _ (st103) ?_
  show G (T103.setTop (mkF m 11 #[.val (.ref a)] [(.ref b_104)]))
  have K110 : Keep h0 T103.heap [] := (Keep.refl h0 []).trans Kp103 all0
  refine fin T103 _ _ _ (some (.ref b_104)) X103 (fun q => nomatch q) (by decide) (by decide) ⟨N103, K110, ⟨b_104, kb2_105, rfl, z106, f107, f108, f109⟩⟩ _ (own_retA X103 hx hret rfl rfl rfl (hb hby own_d23_11))
theorem own_pd12 : parseMethodDescriptor "(Ljava/lang/Object;Ljava/lang/Object;)V" = some ⟨[(.object "java/lang/Object"), (.object "java/lang/Object")], none⟩ := by decide +kernel
set_option maxHeartbeats 4000000 in
theorem own_ef_rmLo2 (m : MethodId) (x0 : Addr) : entryFrame m #[(.ref x0)] 2 = mkF m 0 #[.val (.ref x0), .unset] [] := by rfl
set_option maxRecDepth 65536 in
set_option maxHeartbeats 40000000 in
theorem rmLo2 (l : Launch) (Z : State) (a0 : Array Value) (hw : ∀ d ∈ tables_1, d.before a0 Z = true) (z0 : Int32) (O2 : Sta Z Z.heap "java/lang/String" "COMPACT_STRINGS" "Z" (.int z0)) (P5 : ¬ z0 = (0 : Int32)) (dd : Addr) (kd : ClassId) (O_dd : Sta Z Z.heap "java/util/ArrayList" "DEFAULTCAPACITY_EMPTY_ELEMENTDATA" "[Ljava/lang/Object;" (.ref dd)) (V_dd : Arv Z Z.heap dd kd (.object "java/lang/Object") (0 : Int32) [] .null) (mr : Addr) (M_mr : own_Mir Z "[Ljava/lang/Object;" mr) (el : Addr) (O_el : Sta Z Z.heap "java/util/ImmutableCollections" "EMPTY_LIST" "Ljava/util/ImmutableCollections$ListN;" (.ref el)) (em : Addr) (O_em : Sta Z Z.heap "java/util/ImmutableCollections" "EMPTY" "Ljava/lang/Object;" (.ref em)) (ws : List Jvm.Cond) (q : Addr) (kb : ClassId) (ee0 : Addr) (ee1 : Addr) (h0 : Heap) (n0 : Nat) (Z0 : n0 ≤ h0.size) (Xo : Old Z n0 h0) (Aq : Arv Z h0 q kb (.object "java/lang/Object") (2 : Int32) [(.ref ee0), (.ref ee1)] .null) (Eee0 : Exa Z h0 ee0 "java/lang/String") (Eee1 : Exa Z h0 ee1 "java/lang/String") :
    own_MetN l Z (⟨"java/util/List", "of", "([Ljava/lang/Object;)Ljava/util/List;"⟩ : MethodName) jdk_40_method_47_code 2 (some (.object "java/util/List")) ws ({ frames := 5, cells := 1, slots := 2, locals := 63 } : Room) #[(.ref q)] h0 (fun v h L => Fr n0 L ∧ Keep h0 h [] ∧ ((∃ (b : Addr), (v = some (.ref b))))) := by
  refine own_metN (plainFor_of_name own_pn13) ?_
  intro p e s m below meth c s₁ G hx hby hml hZ hown hnm hret X0 e0 go fin
  have N0 := Fr.nil n0
  refine go _ _ (fun _ k => castTop (own_ef_rmLo2 m q) k) ?_
  show G (s₁.setTop (mkF m 0 #[.val (.ref q), .unset] []))
  refine go _ _ (fun _ k => XS.aloadN X0.here hx rfl (hb hby own_d27_0) rfl rfl k) ?_
  show G (s₁.setTop (mkF m 1 #[.val (.ref q), .unset] [(.ref q)]))
  obtain ⟨cl101, Ar101, q101, S101, M101, H101, U101⟩ := id Aq
  refine go _ _ (fun _ k => X0.arraylength hx (by rw [e0]; exact Ar101.1) (State.isArrayOf_alike hZ.alike Ar101.2.1) (g := (mkF m 1 #[.val (.ref q), .unset] [(.ref q)])) rfl rfl (hb hby own_d27_1) _ k) ?_
  show G (s₁.setTop (mkF m 2 #[.val (.ref q), .unset] [(.int cl101.slots.size.toInt32)]))
  rw [len_of S101 M101]
  show G (s₁.setTop (mkF m 2 #[.val (.ref q), .unset] [(.int (2 : Int32))]))
  refine go _ _ (fun _ k => XS.tswIn X0.here hx rfl (pc0 := 2) (pc' := 45) rfl (hb hby own_d27_2) rfl (by decide) (o := 43) (by decide) (by decide) (by decide) k) ?_
  show G (s₁.setTop (mkF m 45 #[.val (.ref q), .unset] []))
  obtain ⟨T102, h102, X102, e102, E102, A102, D102, -, st102⟩ := newO X0 hx hZ hown (ow hw 211 rfl) (ow hw 212 rfl) (ow hw 213 rfl) e0 (g := (mkF m 45 #[.val (.ref q), .unset] [])) rfl (hb hby own_d27_45) (by decide) (by decide)
  obtain ⟨b102, g102⟩ : ∃ z, z = h0.size := ⟨_, rfl⟩
  rw [← g102] at A102 D102 st102
  refine go _ _ (st102) ?_
  show G (T102.setTop (mkF m 48 #[.val (.ref q), .unset] [(.ref b102)]))
  refine go _ _ (fun _ k => XS.dup X102.here hx rfl (hb hby own_d27_48) rfl rfl (XS.aloadN X102.here hx rfl (hb hby own_d27_49) rfl rfl (XS.iconst X102.here hx rfl (hb hby own_d27_50) k))) ?_
  show G (T102.setTop (mkF m 51 #[.val (.ref q), .unset] [(.int (0 : Int32)), (.ref q), (.ref b102), (.ref b102)]))
  have K104 : Keep h0 h102 [] := (Keep.refl h0 []).ext E102
  have F105 : Arv Z h102 q kb (.object "java/lang/Object") (2 : Int32) [(.ref ee0), (.ref ee1)] .null := (Aq.keep K104 nin0)
  obtain ⟨cl103, Ar103, q103, S103, M103, H103, U103⟩ := id F105
  refine go _ _ (fun _ k => X102.aaload hx (j := (0 : Int32)) (v := (.ref ee0)) (by rw [e102]; exact Ar103.1) (State.isArrayOf_alike hZ.alike Ar103.2.1) rfl Ar103.2.2 (inb_of S103 ⟨by decide, by decide⟩) (Has.at H103 (inb_of S103 ⟨by decide, by decide⟩) rfl) (g := (mkF m 51 #[.val (.ref q), .unset] [(.int (0 : Int32)), (.ref q), (.ref b102), (.ref b102)])) rfl rfl (hb hby own_d27_51) _ k) ?_
  show G (T102.setTop (mkF m 52 #[.val (.ref q), .unset] [(.ref ee0), (.ref b102), (.ref b102)]))
  refine go _ _ (fun _ k => XS.aloadN X102.here hx rfl (hb hby own_d27_52) rfl rfl (XS.iconst X102.here hx rfl (hb hby own_d27_53) k)) ?_
  show G (T102.setTop (mkF m 54 #[.val (.ref q), .unset] [(.int (1 : Int32)), (.ref q), (.ref ee0), (.ref b102), (.ref b102)]))
  obtain ⟨cl106, Ar106, q106, S106, M106, H106, U106⟩ := id F105
  refine go _ _ (fun _ k => X102.aaload hx (j := (1 : Int32)) (v := (.ref ee1)) (by rw [e102]; exact Ar106.1) (State.isArrayOf_alike hZ.alike Ar106.2.1) rfl Ar106.2.2 (inb_of S106 ⟨by decide, by decide⟩) (Has.at H106 (inb_of S106 ⟨by decide, by decide⟩) rfl) (g := (mkF m 54 #[.val (.ref q), .unset] [(.int (1 : Int32)), (.ref q), (.ref ee0), (.ref b102), (.ref b102)])) rfl rfl (hb hby own_d27_54) _ k) ?_
  show G (T102.setTop (mkF m 55 #[.val (.ref q), .unset] [(.ref ee1), (.ref ee0), (.ref b102), (.ref b102)]))
  have Z108 : h0.size ≤ h102.size := E102.1
  obtain ⟨rv107, T107, L107, X107, q107, st107⟩ := own_sp X102 hx hZ (y := (⟨"java/util/ImmutableCollections$List12", "<init>", "(Ljava/lang/Object;Ljava/lang/Object;)V"⟩ : MethodName)) rfl hown (ow hw 214 rfl) (ow hw 215 rfl) (ow hw 217 rfl) (by decide) (own_bkN (W := 1) (rm35 l Z a0 hw z0 O2 P5 dd kd O_dd V_dd mr M_mr el O_el em O_em [] b102 ee0 ee1 h102 n0 (Nat.le_trans Z0 Z108) A102 (D102 (Or.inr (ow hw 224 rfl)) (ty := (.object "java/lang/Object")) (by decide)) (D102 (Or.inr (ow hw 226 rfl)) (ty := (.object "java/lang/Object")) (by decide)) (Nat.le_trans Z0 (Nat.le_of_eq g102.symm))) hZ (ow hw 217 rfl) (ow hw 213 rfl) (by decide) (by decide)) e102 (g := (mkF m 55 #[.val (.ref q), .unset] [(.ref ee1), (.ref ee0), (.ref b102), (.ref b102)])) rfl (by rw [hml]; rfl) (a := b102) (argsL := [(.ref ee0), (.ref ee1)]) (rest := [(.ref b102)]) rfl (lenOf own_pd12 rfl) rfl (by show 2 * 0 + _ ≤ _; exact Nat.le_of_eq rfl) (hb hby own_d27_55) (by decide) (by decide)
  obtain ⟨Nq107, Kp107, rfl⟩ := q107
  have N107 := Fr.app N0 Nq107
  refine go _ _ (st107) ?_
  show G (T107.setTop (mkF m 58 #[.val (.ref q), .unset] [(.ref b102)]))
  have K109 : Keep h0 T107.heap [] := K104.trans Kp107 (allS (Or.inr (Nat.le_of_eq g102.symm)) all0)
  refine fin T107 _ _ _ (some (.ref b102)) X107 (fun q => nomatch q) (by decide) (by decide) ⟨N107, K109, ⟨b102, rfl⟩⟩ _ (own_retA X107 hx hret rfl rfl rfl (hb hby own_d27_58))
set_option maxHeartbeats 4000000 in
theorem own_ef_rmCpC3 (m : MethodId) (x0 : Addr) (x1 : Int32) (x2 : Addr) : entryFrame m #[(.ref x0), (.int x1), (.ref x2)] 4 = mkF m 0 #[.val (.ref x0), .val (.int x1), .val (.ref x2), .unset] [] := by rfl
set_option maxRecDepth 65536 in
set_option maxHeartbeats 40000000 in
theorem rmCpC3 (l : Launch) (Z : State) (a0 : Array Value) (hw : ∀ d ∈ tables_1, d.before a0 Z = true) (z0 : Int32) (O2 : Sta Z Z.heap "java/lang/String" "COMPACT_STRINGS" "Z" (.int z0)) (P5 : ¬ z0 = (0 : Int32)) (dd : Addr) (kd : ClassId) (O_dd : Sta Z Z.heap "java/util/ArrayList" "DEFAULTCAPACITY_EMPTY_ELEMENTDATA" "[Ljava/lang/Object;" (.ref dd)) (V_dd : Arv Z Z.heap dd kd (.object "java/lang/Object") (0 : Int32) [] .null) (mr : Addr) (M_mr : own_Mir Z "[Ljava/lang/Object;" mr) (el : Addr) (O_el : Sta Z Z.heap "java/util/ImmutableCollections" "EMPTY_LIST" "Ljava/util/ImmutableCollections$ListN;" (.ref el)) (em : Addr) (O_em : Sta Z Z.heap "java/util/ImmutableCollections" "EMPTY" "Ljava/lang/Object;" (.ref em)) (ws : List Jvm.Cond) (t : Addr) (kb : ClassId) (ee0 : Addr) (ee1 : Addr) (ee2 : Addr) (h0 : Heap) (n0 : Nat) (Z0 : n0 ≤ h0.size) (Et : Exa Z h0 t "[Ljava/lang/Object;") (At : Arv Z h0 t kb (.object "java/lang/Object") (10 : Int32) [(.ref ee0), (.ref ee1), (.ref ee2)] .null) (Eee0 : Exa Z h0 ee0 "java/lang/String") (Eee1 : Exa Z h0 ee1 "java/lang/String") (Eee2 : Exa Z h0 ee2 "java/lang/String") :
    own_MetN l Z (⟨"java/util/Arrays", "copyOf", "([Ljava/lang/Object;ILjava/lang/Class;)[Ljava/lang/Object;"⟩ : MethodName) jdk_65_method_120_code 4 (some (.array (.object "java/lang/Object"))) ws ({ frames := 1, cells := 1, slots := 3, locals := 27 } : Room) #[(.ref t), (.int (3 : Int32)), (.ref mr)] h0 (fun v h L => Fr n0 L ∧ Keep h0 h [] ∧ ((∃ (b : Addr) (kb2 : ClassId), (v = some (.ref b)) ∧ (h0.size ≤ b) ∧ (Exa Z h b "[Ljava/lang/Object;") ∧ (Arv Z h b kb2 (.object "java/lang/Object") (3 : Int32) [(.ref ee0), (.ref ee1), (.ref ee2)] .null) ∧ (Ovr Z kb2 "java/lang/Object")))) := by
  refine own_metN (plainFor_of_name own_pn12) ?_
  intro p e s m below meth c s₁ G hx hby hml hZ hown hnm hret X0 e0 go fin
  have N0 := Fr.nil n0
  refine go _ _ (fun _ k => castTop (own_ef_rmCpC3 m t (3 : Int32) mr) k) ?_
  show G (s₁.setTop (mkF m 0 #[.val (.ref t), .val (.int (3 : Int32)), .val (.ref mr), .unset] []))
  refine go _ _ (fun _ k => XS.aloadN X0.here hx rfl (hb hby own_d25_0) rfl rfl k) ?_
  show G (s₁.setTop (mkF m 1 #[.val (.ref t), .val (.int (3 : Int32)), .val (.ref mr), .unset] [(.ref mr)]))
  obtain ⟨T101, X101, e101, st101⟩ := own_ldcM X0 hx hZ hown (ow hw 155 rfl) M_mr e0 (g := (mkF m 1 #[.val (.ref t), .val (.int (3 : Int32)), .val (.ref mr), .unset] [(.ref mr)])) rfl (hb hby own_d25_1)
  refine go _ _ (st101) ?_
  show G (T101.setTop (mkF m 3 #[.val (.ref t), .val (.int (3 : Int32)), .val (.ref mr), .unset] [(.ref mr), (.ref mr)]))
  refine go _ _ (fun _ k => acmp X101 hx rfl rfl rfl (pc0 := 3) (pc' := 6) (same := true) rfl (hb hby own_d25_3) rfl (decide_eq_true rfl) (by decide) (by decide) k) ?_
  show G (T101.setTop (mkF m 6 #[.val (.ref t), .val (.int (3 : Int32)), .val (.ref mr), .unset] []))
  refine go _ _ (fun _ k => XS.iloadN X101.here hx rfl (hb hby own_d25_6) rfl k) ?_
  show G (T101.setTop (mkF m 7 #[.val (.ref t), .val (.int (3 : Int32)), .val (.ref mr), .unset] [(.int (3 : Int32))]))
  obtain ⟨T102, h102, k102, X102, e102, E102, A102, Ex102, O102, st102⟩ := newRE X101 hx hZ hown (ow hw 156 rfl) (ow hw 79 rfl) e101 (g := (mkF m 7 #[.val (.ref t), .val (.int (3 : Int32)), .val (.ref mr), .unset] [(.int (3 : Int32))])) rfl (hb hby own_d25_7) rfl (by decide) (cap := 3) (by decide) (by decide) (by decide) (by decide) (ad := "[Ljava/lang/Object;") (by decide)
  obtain ⟨b102, g102⟩ : ∃ z, z = h0.size := ⟨_, rfl⟩
  rw [← g102] at A102 Ex102 st102
  have V102 : Arv Z h102 b102 k102 (.object "java/lang/Object") (3 : Int32) [] .null := Arv.new A102 (by decide)
  refine go _ _ (st102) ?_
  show G (T102.setTop (mkF m 10 #[.val (.ref t), .val (.int (3 : Int32)), .val (.ref mr), .unset] [(.ref b102)]))
  refine go _ _ (fun _ k => XS.goto X102.here hx rfl (pc0 := 10) (pc' := 24) rfl (hb hby own_d25_10) (by decide) (by decide) k) ?_
  show G (T102.setTop (mkF m 24 #[.val (.ref t), .val (.int (3 : Int32)), .val (.ref mr), .unset] [(.ref b102)]))
  refine go _ _ (fun _ k => XS.astoreN X102.here hx rfl (hb hby own_d25_24) rfl rfl (l' := #[.val (.ref t), .val (.int (3 : Int32)), .val (.ref mr), .val (.ref b102)]) rfl (XS.aloadN X102.here hx rfl (hb hby own_d25_25) rfl rfl (XS.iconst X102.here hx rfl (hb hby own_d25_26) (XS.aloadN X102.here hx rfl (hb hby own_d25_27) rfl rfl (XS.iconst X102.here hx rfl (hb hby own_d25_28) (XS.aloadN X102.here hx rfl (hb hby own_d25_29) rfl rfl k)))))) ?_
  show G (T102.setTop (mkF m 30 #[.val (.ref t), .val (.int (3 : Int32)), .val (.ref mr), .val (.ref b102)] [(.ref t), (.int (0 : Int32)), (.ref b102), (.int (0 : Int32)), (.ref t)]))
  have K104 : Keep h0 h102 [] := (Keep.refl h0 []).ext E102
  have F105 : Arv Z h102 t kb (.object "java/lang/Object") (10 : Int32) [(.ref ee0), (.ref ee1), (.ref ee2)] .null := (At.keep K104 nin0)
  obtain ⟨cl103, Ar103, q103, S103, M103, H103, U103⟩ := id F105
  refine go _ _ (fun _ k => X102.arraylength hx (by rw [e102]; exact Ar103.1) (State.isArrayOf_alike hZ.alike Ar103.2.1) (g := (mkF m 30 #[.val (.ref t), .val (.int (3 : Int32)), .val (.ref mr), .val (.ref b102)] [(.ref t), (.int (0 : Int32)), (.ref b102), (.int (0 : Int32)), (.ref t)])) rfl rfl (hb hby own_d25_30) _ k) ?_
  show G (T102.setTop (mkF m 31 #[.val (.ref t), .val (.int (3 : Int32)), .val (.ref mr), .val (.ref b102)] [(.int cl103.slots.size.toInt32), (.int (0 : Int32)), (.ref b102), (.int (0 : Int32)), (.ref t)]))
  rw [len_of S103 M103]
  show G (T102.setTop (mkF m 31 #[.val (.ref t), .val (.int (3 : Int32)), .val (.ref mr), .val (.ref b102)] [(.int (10 : Int32)), (.int (0 : Int32)), (.ref b102), (.int (0 : Int32)), (.ref t)]))
  refine go _ _ (fun _ k => XS.iloadN X102.here hx rfl (hb hby own_d25_31) rfl k) ?_
  show G (T102.setTop (mkF m 32 #[.val (.ref t), .val (.int (3 : Int32)), .val (.ref mr), .val (.ref b102)] [(.int (3 : Int32)), (.int (10 : Int32)), (.int (0 : Int32)), (.ref b102), (.int (0 : Int32)), (.ref t)]))
  have Z107 : h0.size ≤ h102.size := E102.1
  obtain ⟨rv106, T106, L106, X106, q106, st106⟩ := own_st X102 hx hZ (y := (⟨"java/lang/Math", "min", "(II)I"⟩ : MethodName)) hown (ow hw 157 rfl) (ow hw 158 rfl) (ow hw 76 rfl) (ow hw 159 rfl) (by decide) (own_bkN (W := 4) (rm26 l Z a0 hw z0 O2 P5 dd kd O_dd V_dd mr M_mr el O_el em O_em [] (10 : Int32) (3 : Int32) h102 n0 (Nat.le_trans Z0 Z107)) hZ (ow hw 159 rfl) (ow hw 76 rfl) (by decide) (by decide)) e102 (g := (mkF m 32 #[.val (.ref t), .val (.int (3 : Int32)), .val (.ref mr), .val (.ref b102)] [(.int (3 : Int32)), (.int (10 : Int32)), (.int (0 : Int32)), (.ref b102), (.int (0 : Int32)), (.ref t)])) rfl (by rw [hml]; rfl) (argsL := [(.int (10 : Int32)), (.int (3 : Int32))]) (rest := [(.int (0 : Int32)), (.ref b102), (.int (0 : Int32)), (.ref t)]) rfl (lenOf own_pd5 rfl) rfl (by show 2 * 0 + _ ≤ _; exact Nat.le_of_eq rfl) (hb hby own_d25_32) (by decide) (by decide)
  obtain ⟨Nq106, e106, q106⟩ := q106
  have N106 := Fr.app N0 Nq106
  rcases q106 with ⟨rfl, p108⟩ | ⟨rfl, p109⟩
  · refine go _ _ (st106) ?_
    show G (T106.setTop (mkF m 35 #[.val (.ref t), .val (.int (3 : Int32)), .val (.ref mr), .val (.ref b102)] [(.int (3 : Int32)), (.int (0 : Int32)), (.ref b102), (.int (0 : Int32)), (.ref t)]))
    have Vp110 : Arv Z h102 b102 k102 (.object "java/lang/Object") (3 : Int32) [.null, .null, .null] .null := V102.pad (pad_rep [] .null 3)
    obtain ⟨cl110, Ar110, q110, -⟩ := id Vp110
    have F111 : Exa Z h102 ee2 "java/lang/String" := (Eee2.keep K104)
    have F112 : Exa Z h102 ee1 "java/lang/String" := (Eee1.keep K104)
    have F113 : Exa Z h102 ee0 "java/lang/String" := (Eee0.keep K104)
    obtain ⟨T110, h110, L110, X110, e110, N110, Kp110, V110, st110⟩ := cpA X106 hx hZ hown (ow hw 160 rfl) (ow hw 163 rfl) (ow hw 161 rfl) (ow hw 162 rfl) e106 F105 Vp110 (us := [(.ref ee0), (.ref ee1), (.ref ee2)]) (Or.inr ⟨rfl, rfl, ⟨Sto.ofV Ar110 q110 O102 (Ins.of_exa F113 (ow hw 80 rfl)), ⟨Sto.ofV Ar110 q110 O102 (Ins.of_exa F112 (ow hw 80 rfl)), ⟨Sto.ofV Ar110 q110 O102 (Ins.of_exa F111 (ow hw 80 rfl)), trivial⟩⟩⟩⟩) (by decide) (by decide) (by decide) (by decide) (by decide) rfl (by decide) N106 (Nat.le_trans Z0 (Nat.le_of_eq g102.symm)) (g := (mkF m 35 #[.val (.ref t), .val (.int (3 : Int32)), .val (.ref mr), .val (.ref b102)] [(.int (3 : Int32)), (.int (0 : Int32)), (.ref b102), (.int (0 : Int32)), (.ref t)])) rfl (by rw [hml]; rfl) (rest := []) rfl (hb hby own_d25_35) (by decide) (W := 0) (by show 2 * 0 + _ ≤ _; exact Nat.le_of_eq rfl) (by decide)
    have Vq110 : Arv Z h110 b102 k102 (.object "java/lang/Object") (3 : Int32) [(.ref ee0), (.ref ee1), (.ref ee2)] .null := V110
    refine go _ _ (st110) ?_
    show G (T110.setTop (mkF m 38 #[.val (.ref t), .val (.int (3 : Int32)), .val (.ref mr), .val (.ref b102)] []))
    refine go _ _ (fun _ k => XS.aloadN X110.here hx rfl (hb hby own_d25_38) rfl rfl k) ?_
    show G (T110.setTop (mkF m 39 #[.val (.ref t), .val (.int (3 : Int32)), .val (.ref mr), .val (.ref b102)] [(.ref b102)]))
    have K114 : Keep h0 h110 [] := K104.trans Kp110 (allS (Or.inr (Nat.le_of_eq g102.symm)) all0)
    have K115 : Keep h102 h110 [b102] := (Keep.refl h102 [b102]).trans Kp110 (allS (Or.inl (List.mem_of_getElem? (i := 0) rfl)) all0)
    have F116 : Ovr Z k102 "java/lang/Object" := O102
    refine fin T110 _ _ _ (some (.ref b102)) X110 (fun q => nomatch q) (by decide) (by decide) (by rw [e110]; exact ⟨N110, K114, ⟨b102, k102, rfl, (Nat.le_of_eq g102.symm), (Ex102.keep Kp110), Vq110, F116⟩⟩) _ (own_retA X110 hx hret rfl rfl rfl (hb hby own_d25_39))
  · exact absurd (by decide) p109
set_option maxHeartbeats 4000000 in
theorem own_ef_rmCp3 (m : MethodId) (x0 : Addr) (x1 : Int32) : entryFrame m #[(.ref x0), (.int x1)] 2 = mkF m 0 #[.val (.ref x0), .val (.int x1)] [] := by rfl
set_option maxRecDepth 65536 in
set_option maxHeartbeats 40000000 in
theorem rmCp3 (l : Launch) (Z : State) (a0 : Array Value) (hw : ∀ d ∈ tables_1, d.before a0 Z = true) (z0 : Int32) (O2 : Sta Z Z.heap "java/lang/String" "COMPACT_STRINGS" "Z" (.int z0)) (P5 : ¬ z0 = (0 : Int32)) (dd : Addr) (kd : ClassId) (O_dd : Sta Z Z.heap "java/util/ArrayList" "DEFAULTCAPACITY_EMPTY_ELEMENTDATA" "[Ljava/lang/Object;" (.ref dd)) (V_dd : Arv Z Z.heap dd kd (.object "java/lang/Object") (0 : Int32) [] .null) (mr : Addr) (M_mr : own_Mir Z "[Ljava/lang/Object;" mr) (el : Addr) (O_el : Sta Z Z.heap "java/util/ImmutableCollections" "EMPTY_LIST" "Ljava/util/ImmutableCollections$ListN;" (.ref el)) (em : Addr) (O_em : Sta Z Z.heap "java/util/ImmutableCollections" "EMPTY" "Ljava/lang/Object;" (.ref em)) (ws : List Jvm.Cond) (t : Addr) (kb : ClassId) (ee0 : Addr) (ee1 : Addr) (ee2 : Addr) (h0 : Heap) (n0 : Nat) (Z0 : n0 ≤ h0.size) (Et : Exa Z h0 t "[Ljava/lang/Object;") (At : Arv Z h0 t kb (.object "java/lang/Object") (10 : Int32) [(.ref ee0), (.ref ee1), (.ref ee2)] .null) (Eee0 : Exa Z h0 ee0 "java/lang/String") (Eee1 : Exa Z h0 ee1 "java/lang/String") (Eee2 : Exa Z h0 ee2 "java/lang/String") :
    own_MetN l Z (⟨"java/util/Arrays", "copyOf", "([Ljava/lang/Object;I)[Ljava/lang/Object;"⟩ : MethodName) jdk_65_method_119_code 2 (some (.array (.object "java/lang/Object"))) ws ({ frames := 2, cells := 1, slots := 3, locals := 42 } : Room) #[(.ref t), (.int (3 : Int32))] h0 (fun v h L => Fr n0 L ∧ Keep h0 h [] ∧ ((∃ (b : Addr) (kb2 : ClassId), (v = some (.ref b)) ∧ (h0.size ≤ b) ∧ (Exa Z h b "[Ljava/lang/Object;") ∧ (Arv Z h b kb2 (.object "java/lang/Object") (3 : Int32) [(.ref ee0), (.ref ee1), (.ref ee2)] .null) ∧ (Ovr Z kb2 "java/lang/Object")))) := by
  refine own_metN (plainFor_of_name own_pn12) ?_
  intro p e s m below meth c s₁ G hx hby hml hZ hown hnm hret X0 e0 go fin
  have N0 := Fr.nil n0
  refine go _ _ (fun _ k => castTop (own_ef_rmCp3 m t (3 : Int32)) k) ?_
  show G (s₁.setTop (mkF m 0 #[.val (.ref t), .val (.int (3 : Int32))] []))
  refine go _ _ (fun _ k => XS.aloadN X0.here hx rfl (hb hby own_d24_0) rfl rfl (XS.iloadN X0.here hx rfl (hb hby own_d24_1) rfl (XS.aloadN X0.here hx rfl (hb hby own_d24_2) rfl rfl k))) ?_
  show G (s₁.setTop (mkF m 3 #[.val (.ref t), .val (.int (3 : Int32))] [(.ref t), (.int (3 : Int32)), (.ref t)]))
  obtain ⟨T101, X101, e101, st101⟩ := own_gcls X0 hx hZ hown (ow hw 146 rfl) (ow hw 147 rfl) (ow hw 123 rfl) (ow hw 149 rfl) (ow hw 148 rfl) (ow hw 150 rfl) e0 Et M_mr (g := (mkF m 3 #[.val (.ref t), .val (.int (3 : Int32))] [(.ref t), (.int (3 : Int32)), (.ref t)])) rfl (by rw [hml]; rfl) rfl (hb hby own_d24_3) (by decide) (W := 2) (by show 2 * 0 + _ ≤ _; exact Nat.le_of_eq rfl) (by decide)
  refine go _ _ (st101) ?_
  show G (T101.setTop (mkF m 6 #[.val (.ref t), .val (.int (3 : Int32))] [(.ref mr), (.int (3 : Int32)), (.ref t)]))
  obtain ⟨rv102, T102, L102, X102, q102, st102⟩ := own_st X101 hx hZ (y := (⟨"java/util/Arrays", "copyOf", "([Ljava/lang/Object;ILjava/lang/Class;)[Ljava/lang/Object;"⟩ : MethodName)) hown (ow hw 152 rfl) (ow hw 153 rfl) (ow hw 144 rfl) (ow hw 154 rfl) (by decide) (own_bkN (W := 0) (rmCpC3 l Z a0 hw z0 O2 P5 dd kd O_dd V_dd mr M_mr el O_el em O_em [] t kb ee0 ee1 ee2 h0 n0 Z0 Et At Eee0 Eee1 Eee2) hZ (ow hw 154 rfl) (ow hw 144 rfl) (by decide) (by decide)) e101 (g := (mkF m 6 #[.val (.ref t), .val (.int (3 : Int32))] [(.ref mr), (.int (3 : Int32)), (.ref t)])) rfl (by rw [hml]; rfl) (argsL := [(.ref t), (.int (3 : Int32)), (.ref mr)]) (rest := []) rfl (lenOf own_pd9 rfl) rfl (by show 2 * 0 + _ ≤ _; exact Nat.le_of_eq rfl) (hb hby own_d24_6) (by decide) (by decide)
  obtain ⟨Nq102, Kp102, ⟨b_103, kb2_104, rfl, z105, f106, f107, f108⟩⟩ := q102
  have N102 := Fr.app N0 Nq102
  refine go _ _ (st102) ?_
  show G (T102.setTop (mkF m 9 #[.val (.ref t), .val (.int (3 : Int32))] [(.ref b_103)]))
  have K109 : Keep h0 T102.heap [] := (Keep.refl h0 []).trans Kp102 all0
  refine fin T102 _ _ _ (some (.ref b_103)) X102 (fun q => nomatch q) (by decide) (by decide) ⟨N102, K109, ⟨b_103, kb2_104, rfl, z105, f106, f107, f108⟩⟩ _ (own_retA X102 hx hret rfl rfl rfl (hb hby own_d24_9))
set_option maxHeartbeats 4000000 in
theorem own_ef_rmTa3 (m : MethodId) (x0 : Addr) : entryFrame m #[(.ref x0)] 1 = mkF m 0 #[.val (.ref x0)] [] := by rfl
set_option maxRecDepth 65536 in
set_option maxHeartbeats 40000000 in
theorem rmTa3 (l : Launch) (Z : State) (a0 : Array Value) (hw : ∀ d ∈ tables_1, d.before a0 Z = true) (z0 : Int32) (O2 : Sta Z Z.heap "java/lang/String" "COMPACT_STRINGS" "Z" (.int z0)) (P5 : ¬ z0 = (0 : Int32)) (dd : Addr) (kd : ClassId) (O_dd : Sta Z Z.heap "java/util/ArrayList" "DEFAULTCAPACITY_EMPTY_ELEMENTDATA" "[Ljava/lang/Object;" (.ref dd)) (V_dd : Arv Z Z.heap dd kd (.object "java/lang/Object") (0 : Int32) [] .null) (mr : Addr) (M_mr : own_Mir Z "[Ljava/lang/Object;" mr) (el : Addr) (O_el : Sta Z Z.heap "java/util/ImmutableCollections" "EMPTY_LIST" "Ljava/util/ImmutableCollections$ListN;" (.ref el)) (em : Addr) (O_em : Sta Z Z.heap "java/util/ImmutableCollections" "EMPTY" "Ljava/lang/Object;" (.ref em)) (ws : List Jvm.Cond) (a : Addr) (t : Addr) (kb : ClassId) (ee0 : Addr) (ee1 : Addr) (ee2 : Addr) (h0 : Heap) (n0 : Nat) (Z0 : n0 ≤ h0.size) (Et : Exa Z h0 t "[Ljava/lang/Object;") (At : Arv Z h0 t kb (.object "java/lang/Object") (10 : Int32) [(.ref ee0), (.ref ee1), (.ref ee2)] .null) (Eee0 : Exa Z h0 ee0 "java/lang/String") (Eee1 : Exa Z h0 ee1 "java/lang/String") (Eee2 : Exa Z h0 ee2 "java/lang/String") (Fe : Fld Z h0 a "java/util/ArrayList" "elementData" "[Ljava/lang/Object;" (.ref t)) (Fs : Fld Z h0 a "java/util/ArrayList" "size" "I" (.int (3 : Int32))) :
    own_MetN l Z (⟨"java/util/ArrayList", "toArray", "()[Ljava/lang/Object;"⟩ : MethodName) jdk_38_method_16_code 1 (some (.array (.object "java/lang/Object"))) ws ({ frames := 3, cells := 1, slots := 3, locals := 55 } : Room) #[(.ref a)] h0 (fun v h L => Fr n0 L ∧ Keep h0 h [] ∧ ((∃ (b : Addr) (kb2 : ClassId), (v = some (.ref b)) ∧ (h0.size ≤ b) ∧ (Exa Z h b "[Ljava/lang/Object;") ∧ (Arv Z h b kb2 (.object "java/lang/Object") (3 : Int32) [(.ref ee0), (.ref ee1), (.ref ee2)] .null) ∧ (Ovr Z kb2 "java/lang/Object")))) := by
  refine own_metN (plainFor_of_name own_pn3) ?_
  intro p e s m below meth c s₁ G hx hby hml hZ hown hnm hret X0 e0 go fin
  have N0 := Fr.nil n0
  refine go _ _ (fun _ k => castTop (own_ef_rmTa3 m a) k) ?_
  show G (s₁.setTop (mkF m 0 #[.val (.ref a)] []))
  refine go _ _ (fun _ k => XS.aloadN X0.here hx rfl (hb hby own_d23_0) rfl rfl k) ?_
  show G (s₁.setTop (mkF m 1 #[.val (.ref a)] [(.ref a)]))
  obtain ⟨T101, X101, e101, st101⟩ := getF X0 hx hZ hown (host := "") (Or.inl (ow hw 24 rfl)) Via.refl e0 Fe (g := (mkF m 1 #[.val (.ref a)] [(.ref a)])) rfl rfl (hb hby own_d23_1)
  refine go _ _ (st101) ?_
  show G (T101.setTop (mkF m 4 #[.val (.ref a)] [(.ref t)]))
  refine go _ _ (fun _ k => XS.aloadN X101.here hx rfl (hb hby own_d23_4) rfl rfl k) ?_
  show G (T101.setTop (mkF m 5 #[.val (.ref a)] [(.ref a), (.ref t)]))
  obtain ⟨T102, X102, e102, st102⟩ := getF X101 hx hZ hown (host := "") (Or.inl (ow hw 57 rfl)) Via.refl e101 Fs (g := (mkF m 5 #[.val (.ref a)] [(.ref a), (.ref t)])) rfl rfl (hb hby own_d23_5)
  refine go _ _ (st102) ?_
  show G (T102.setTop (mkF m 8 #[.val (.ref a)] [(.int (3 : Int32)), (.ref t)]))
  obtain ⟨rv103, T103, L103, X103, q103, st103⟩ := own_st X102 hx hZ (y := (⟨"java/util/Arrays", "copyOf", "([Ljava/lang/Object;I)[Ljava/lang/Object;"⟩ : MethodName)) hown (ow hw 142 rfl) (ow hw 143 rfl) (ow hw 144 rfl) (ow hw 145 rfl) (by decide) (own_bkN (W := 0) (rmCp3 l Z a0 hw z0 O2 P5 dd kd O_dd V_dd mr M_mr el O_el em O_em [] t kb ee0 ee1 ee2 h0 n0 Z0 Et At Eee0 Eee1 Eee2) hZ (ow hw 145 rfl) (ow hw 144 rfl) (by decide) (by decide)) e102 (g := (mkF m 8 #[.val (.ref a)] [(.int (3 : Int32)), (.ref t)])) rfl (by rw [hml]; rfl) (argsL := [(.ref t), (.int (3 : Int32))]) (rest := []) rfl (lenOf own_pd10 rfl) rfl (by show 2 * 0 + _ ≤ _; exact Nat.le_of_eq rfl) (hb hby own_d23_8) (by decide) (by decide)
  obtain ⟨Nq103, Kp103, ⟨b_104, kb2_105, rfl, z106, f107, f108, f109⟩⟩ := q103
  have N103 := Fr.app N0 Nq103
  refine go _ _ (st103) ?_
  show G (T103.setTop (mkF m 11 #[.val (.ref a)] [(.ref b_104)]))
  have K110 : Keep h0 T103.heap [] := (Keep.refl h0 []).trans Kp103 all0
  refine fin T103 _ _ _ (some (.ref b_104)) X103 (fun q => nomatch q) (by decide) (by decide) ⟨N103, K110, ⟨b_104, kb2_105, rfl, z106, f107, f108, f109⟩⟩ _ (own_retA X103 hx hret rfl rfl rfl (hb hby own_d23_11))
theorem own_d28_0 : decode jdk_56_method_4_code 0 = .ok (.aload_n 0, 1) := by decide +kernel
theorem own_d28_1 : decode jdk_56_method_4_code 1 = .ok (.arraylength, 1) := by decide +kernel
theorem own_d28_2 : decode jdk_56_method_4_code 2 = .ok (.anewarray 2, 3) := by decide +kernel
theorem own_d28_5 : decode jdk_56_method_4_code 5 = .ok (.astore_n 1, 1) := by decide +kernel
theorem own_d28_6 : decode jdk_56_method_4_code 6 = .ok (.iconst 0, 1) := by decide +kernel
theorem own_d28_7 : decode jdk_56_method_4_code 7 = .ok (.istore_n 2, 1) := by decide +kernel
theorem own_d28_8 : decode jdk_56_method_4_code 8 = .ok (.iload_n 2, 1) := by decide +kernel
theorem own_d28_9 : decode jdk_56_method_4_code 9 = .ok (.aload_n 0, 1) := by decide +kernel
theorem own_d28_10 : decode jdk_56_method_4_code 10 = .ok (.arraylength, 1) := by decide +kernel
theorem own_d28_11 : decode jdk_56_method_4_code 11 = .ok (.if_icmp .ge 18, 3) := by decide +kernel
theorem own_d28_14 : decode jdk_56_method_4_code 14 = .ok (.aload_n 1, 1) := by decide +kernel
theorem own_d28_15 : decode jdk_56_method_4_code 15 = .ok (.iload_n 2, 1) := by decide +kernel
theorem own_d28_16 : decode jdk_56_method_4_code 16 = .ok (.aload_n 0, 1) := by decide +kernel
theorem own_d28_17 : decode jdk_56_method_4_code 17 = .ok (.iload_n 2, 1) := by decide +kernel
theorem own_d28_18 : decode jdk_56_method_4_code 18 = .ok (.aaload, 1) := by decide +kernel
theorem own_d28_19 : decode jdk_56_method_4_code 19 = .ok (.invokestatic 37, 3) := by decide +kernel
theorem own_d28_22 : decode jdk_56_method_4_code 22 = .ok (.aastore, 1) := by decide +kernel
theorem own_d28_23 : decode jdk_56_method_4_code 23 = .ok (.iinc 2 1, 3) := by decide +kernel
theorem own_d28_26 : decode jdk_56_method_4_code 26 = .ok (.goto (-18), 3) := by decide +kernel
theorem own_d28_29 : decode jdk_56_method_4_code 29 = .ok (.new 12, 3) := by decide +kernel
theorem own_d28_32 : decode jdk_56_method_4_code 32 = .ok (.dup, 1) := by decide +kernel
theorem own_d28_33 : decode jdk_56_method_4_code 33 = .ok (.aload_n 1, 1) := by decide +kernel
theorem own_d28_34 : decode jdk_56_method_4_code 34 = .ok (.iconst 0, 1) := by decide +kernel
theorem own_d28_35 : decode jdk_56_method_4_code 35 = .ok (.invokespecial 43, 3) := by decide +kernel
theorem own_d28_38 : decode jdk_56_method_4_code 38 = .ok (.areturn, 1) := by decide +kernel
theorem own_pn14 : plainName "java/util/ImmutableCollections" = true := by decide +kernel
theorem own_pd13 : parseMethodDescriptor "([Ljava/lang/Object;Z)V" = some ⟨[(.array (.object "java/lang/Object")), .boolean], none⟩ := by decide +kernel
set_option maxHeartbeats 4000000 in
theorem own_ef_rmLfa (m : MethodId) (x0 : Addr) : entryFrame m #[(.ref x0)] 3 = mkF m 0 #[.val (.ref x0), .unset, .unset] [] := by rfl
set_option maxRecDepth 65536 in
set_option maxHeartbeats 40000000 in
theorem rmLfa (l : Launch) (Z : State) (a0 : Array Value) (hw : ∀ d ∈ tables_1, d.before a0 Z = true) (z0 : Int32) (O2 : Sta Z Z.heap "java/lang/String" "COMPACT_STRINGS" "Z" (.int z0)) (P5 : ¬ z0 = (0 : Int32)) (dd : Addr) (kd : ClassId) (O_dd : Sta Z Z.heap "java/util/ArrayList" "DEFAULTCAPACITY_EMPTY_ELEMENTDATA" "[Ljava/lang/Object;" (.ref dd)) (V_dd : Arv Z Z.heap dd kd (.object "java/lang/Object") (0 : Int32) [] .null) (mr : Addr) (M_mr : own_Mir Z "[Ljava/lang/Object;" mr) (el : Addr) (O_el : Sta Z Z.heap "java/util/ImmutableCollections" "EMPTY_LIST" "Ljava/util/ImmutableCollections$ListN;" (.ref el)) (em : Addr) (O_em : Sta Z Z.heap "java/util/ImmutableCollections" "EMPTY" "Ljava/lang/Object;" (.ref em)) (ws : List Jvm.Cond) (q : Addr) (kb : ClassId) (ee0 : Addr) (ee1 : Addr) (ee2 : Addr) (h0 : Heap) (n0 : Nat) (Z0 : n0 ≤ h0.size) (Xo : Old Z n0 h0) (Aq : Arv Z h0 q kb (.object "java/lang/Object") (3 : Int32) [(.ref ee0), (.ref ee1), (.ref ee2)] .null) (Eee0 : Exa Z h0 ee0 "java/lang/String") (Eee1 : Exa Z h0 ee1 "java/lang/String") (Eee2 : Exa Z h0 ee2 "java/lang/String") :
    own_MetN l Z (⟨"java/util/ImmutableCollections", "listFromArray", "([Ljava/lang/Object;)Ljava/util/List;"⟩ : MethodName) jdk_56_method_4_code 3 (some (.object "java/util/List")) ws ({ frames := 5, cells := 2, slots := 5, locals := 63 } : Room) #[(.ref q)] h0 (fun v h L => Fr n0 L ∧ Keep h0 h [] ∧ ((∃ (b : Addr), (v = some (.ref b))))) := by
  refine own_metN (plainFor_of_name own_pn14) ?_
  intro p e s m below meth c s₁ G hx hby hml hZ hown hnm hret X0 e0 go fin
  have N0 := Fr.nil n0
  refine go _ _ (fun _ k => castTop (own_ef_rmLfa m q) k) ?_
  show G (s₁.setTop (mkF m 0 #[.val (.ref q), .unset, .unset] []))
  refine go _ _ (fun _ k => XS.aloadN X0.here hx rfl (hb hby own_d28_0) rfl rfl k) ?_
  show G (s₁.setTop (mkF m 1 #[.val (.ref q), .unset, .unset] [(.ref q)]))
  obtain ⟨cl101, Ar101, q101, S101, M101, H101, U101⟩ := id Aq
  refine go _ _ (fun _ k => X0.arraylength hx (by rw [e0]; exact Ar101.1) (State.isArrayOf_alike hZ.alike Ar101.2.1) (g := (mkF m 1 #[.val (.ref q), .unset, .unset] [(.ref q)])) rfl rfl (hb hby own_d28_1) _ k) ?_
  show G (s₁.setTop (mkF m 2 #[.val (.ref q), .unset, .unset] [(.int cl101.slots.size.toInt32)]))
  rw [len_of S101 M101]
  show G (s₁.setTop (mkF m 2 #[.val (.ref q), .unset, .unset] [(.int (3 : Int32))]))
  obtain ⟨T102, h102, k102, X102, e102, E102, A102, Ex102, O102, st102⟩ := newRE X0 hx hZ hown (ow hw 170 rfl) (ow hw 79 rfl) e0 (g := (mkF m 2 #[.val (.ref q), .unset, .unset] [(.int (3 : Int32))])) rfl (hb hby own_d28_2) rfl (by decide) (cap := 3) (by decide) (by decide) (by decide) (by decide) (ad := "[Ljava/lang/Object;") (by decide)
  obtain ⟨b102, g102⟩ : ∃ z, z = h0.size := ⟨_, rfl⟩
  rw [← g102] at A102 Ex102 st102
  have V102 : Arv Z h102 b102 k102 (.object "java/lang/Object") (3 : Int32) [] .null := Arv.new A102 (by decide)
  refine go _ _ (st102) ?_
  show G (T102.setTop (mkF m 5 #[.val (.ref q), .unset, .unset] [(.ref b102)]))
  refine go _ _ (fun _ k => XS.astoreN X102.here hx rfl (hb hby own_d28_5) rfl rfl (l' := #[.val (.ref q), .val (.ref b102), .unset]) rfl (XS.iconst X102.here hx rfl (hb hby own_d28_6) (XS.istoreN X102.here hx rfl (hb hby own_d28_7) rfl (l' := #[.val (.ref q), .val (.ref b102), .val (.int (0 : Int32))]) rfl (XS.iloadN X102.here hx rfl (hb hby own_d28_8) rfl (XS.aloadN X102.here hx rfl (hb hby own_d28_9) rfl rfl k))))) ?_
  show G (T102.setTop (mkF m 10 #[.val (.ref q), .val (.ref b102), .val (.int (0 : Int32))] [(.ref q), (.int (0 : Int32))]))
  have K104 : Keep h0 h102 [] := (Keep.refl h0 []).ext E102
  have F105 : Arv Z h102 q kb (.object "java/lang/Object") (3 : Int32) [(.ref ee0), (.ref ee1), (.ref ee2)] .null := (Aq.keep K104 nin0)
  obtain ⟨cl103, Ar103, q103, S103, M103, H103, U103⟩ := id F105
  refine go _ _ (fun _ k => X102.arraylength hx (by rw [e102]; exact Ar103.1) (State.isArrayOf_alike hZ.alike Ar103.2.1) (g := (mkF m 10 #[.val (.ref q), .val (.ref b102), .val (.int (0 : Int32))] [(.ref q), (.int (0 : Int32))])) rfl rfl (hb hby own_d28_10) _ k) ?_
  show G (T102.setTop (mkF m 11 #[.val (.ref q), .val (.ref b102), .val (.int (0 : Int32))] [(.int cl103.slots.size.toInt32), (.int (0 : Int32))]))
  rw [len_of S103 M103]
  show G (T102.setTop (mkF m 11 #[.val (.ref q), .val (.ref b102), .val (.int (0 : Int32))] [(.int (3 : Int32)), (.int (0 : Int32))]))
  refine go _ _ (fun _ k => XS.icmpNo X102.here hx rfl (hb hby own_d28_11) rfl (by decide) k) ?_
  show G (T102.setTop (mkF m 14 #[.val (.ref q), .val (.ref b102), .val (.int (0 : Int32))] []))
  refine go _ _ (fun _ k => XS.aloadN X102.here hx rfl (hb hby own_d28_14) rfl rfl (XS.iloadN X102.here hx rfl (hb hby own_d28_15) rfl (XS.aloadN X102.here hx rfl (hb hby own_d28_16) rfl rfl (XS.iloadN X102.here hx rfl (hb hby own_d28_17) rfl k)))) ?_
  show G (T102.setTop (mkF m 18 #[.val (.ref q), .val (.ref b102), .val (.int (0 : Int32))] [(.int (0 : Int32)), (.ref q), (.int (0 : Int32)), (.ref b102)]))
  obtain ⟨cl106, Ar106, q106, S106, M106, H106, U106⟩ := id F105
  refine go _ _ (fun _ k => X102.aaload hx (j := (0 : Int32)) (v := (.ref ee0)) (by rw [e102]; exact Ar106.1) (State.isArrayOf_alike hZ.alike Ar106.2.1) rfl Ar106.2.2 (inb_of S106 ⟨by decide, by decide⟩) (Has.at H106 (inb_of S106 ⟨by decide, by decide⟩) rfl) (g := (mkF m 18 #[.val (.ref q), .val (.ref b102), .val (.int (0 : Int32))] [(.int (0 : Int32)), (.ref q), (.int (0 : Int32)), (.ref b102)])) rfl rfl (hb hby own_d28_18) _ k) ?_
  show G (T102.setTop (mkF m 19 #[.val (.ref q), .val (.ref b102), .val (.int (0 : Int32))] [(.ref ee0), (.int (0 : Int32)), (.ref b102)]))
  have Z108 : h0.size ≤ h102.size := E102.1
  obtain ⟨rv107, T107, L107, X107, q107, st107⟩ := own_st X102 hx hZ (y := (⟨"java/util/Objects", "requireNonNull", "(Ljava/lang/Object;)Ljava/lang/Object;"⟩ : MethodName)) hown (ow hw 171 rfl) (ow hw 172 rfl) (ow hw 173 rfl) (ow hw 174 rfl) (by decide) (own_bkN (W := 2) (rm29 l Z a0 hw z0 O2 P5 dd kd O_dd V_dd mr M_mr el O_el em O_em [] ee0 h102 n0 (Nat.le_trans Z0 Z108)) hZ (ow hw 174 rfl) (ow hw 173 rfl) (by decide) (by decide)) e102 (g := (mkF m 19 #[.val (.ref q), .val (.ref b102), .val (.int (0 : Int32))] [(.ref ee0), (.int (0 : Int32)), (.ref b102)])) rfl (by rw [hml]; rfl) (argsL := [(.ref ee0)]) (rest := [(.int (0 : Int32)), (.ref b102)]) rfl (lenOf own_pd1 rfl) rfl (by show 2 * 0 + _ ≤ _; exact Nat.le_of_eq rfl) (hb hby own_d28_19) (by decide) (by decide)
  obtain ⟨Nq107, e107, rfl⟩ := q107
  have N107 := Fr.app N0 Nq107
  refine go _ _ (st107) ?_
  show G (T107.setTop (mkF m 22 #[.val (.ref q), .val (.ref b102), .val (.int (0 : Int32))] [(.ref ee0), (.int (0 : Int32)), (.ref b102)]))
  have Vp109 : Arv Z h102 b102 k102 (.object "java/lang/Object") (3 : Int32) [.null] .null := V102.pad (pad_rep [] .null 1)
  obtain ⟨cl109, Ar109, q109, S109, M109, H109, U109⟩ := id Vp109
  have F110 : Exa Z h102 ee0 "java/lang/String" := (Eee0.keep K104)
  obtain ⟨T109, h109, X109, e109, W109, st109⟩ := stR X107 hx hZ e107 Ar109 (j := (0 : Int32)) (inb_of S109 ⟨by decide, by decide⟩) rfl (Sto.ofV Ar109 q109 O102 (Ins.of_exa F110 (ow hw 80 rfl))) (g := (mkF m 22 #[.val (.ref q), .val (.ref b102), .val (.int (0 : Int32))] [(.ref ee0), (.int (0 : Int32)), (.ref b102)])) rfl rfl (hb hby own_d28_22)
  have V109 : Arv Z h109 b102 k102 (.object "java/lang/Object") (3 : Int32) [(.ref ee0)] .null := Arv.set Ar109 q109 S109 M109 H109 U109 rfl W109 0 rfl (Nat.le_of_ble_eq_true rfl)
  have N109 := Fr.snoc X109 N107 (Nat.le_trans Z0 (Nat.le_of_eq g102.symm))
  refine go _ _ (st109) ?_
  show G (T109.setTop (mkF m 23 #[.val (.ref q), .val (.ref b102), .val (.int (0 : Int32))] []))
  refine go _ _ (fun _ k => XS.iinc X109.here hx rfl (hb hby own_d28_23) rfl (l' := #[.val (.ref q), .val (.ref b102), .val (.int (1 : Int32))]) rfl k) ?_
  show G (T109.setTop (mkF m 26 #[.val (.ref q), .val (.ref b102), .val (.int (1 : Int32))] []))
  refine go _ _ (fun _ k => XS.goto X109.here hx rfl (pc0 := 26) (pc' := 8) rfl (hb hby own_d28_26) (by decide) (by decide) k) ?_
  show G (T109.setTop (mkF m 8 #[.val (.ref q), .val (.ref b102), .val (.int (1 : Int32))] []))
  refine go _ _ (fun _ k => XS.iloadN X109.here hx rfl (hb hby own_d28_8) rfl (XS.aloadN X109.here hx rfl (hb hby own_d28_9) rfl rfl k)) ?_
  show G (T109.setTop (mkF m 10 #[.val (.ref q), .val (.ref b102), .val (.int (1 : Int32))] [(.ref q), (.int (1 : Int32))]))
  have K112 : Keep h102 h109 [b102] := (Keep.refl h102 [b102]).wr W109 (Or.inl (List.mem_of_getElem? (i := 0) rfl))
  have F113 : Arv Z h109 q kb (.object "java/lang/Object") (3 : Int32) [(.ref ee0), (.ref ee1), (.ref ee2)] .null := (F105.keep K112 (ninS (Nat.ne_of_lt (Nat.lt_of_lt_of_le Aq.lt (Nat.le_of_eq g102.symm))) nin0))
  obtain ⟨cl111, Ar111, q111, S111, M111, H111, U111⟩ := id F113
  refine go _ _ (fun _ k => X109.arraylength hx (by rw [e109]; exact Ar111.1) (State.isArrayOf_alike hZ.alike Ar111.2.1) (g := (mkF m 10 #[.val (.ref q), .val (.ref b102), .val (.int (1 : Int32))] [(.ref q), (.int (1 : Int32))])) rfl rfl (hb hby own_d28_10) _ k) ?_
  show G (T109.setTop (mkF m 11 #[.val (.ref q), .val (.ref b102), .val (.int (1 : Int32))] [(.int cl111.slots.size.toInt32), (.int (1 : Int32))]))
  rw [len_of S111 M111]
  show G (T109.setTop (mkF m 11 #[.val (.ref q), .val (.ref b102), .val (.int (1 : Int32))] [(.int (3 : Int32)), (.int (1 : Int32))]))
  refine go _ _ (fun _ k => XS.icmpNo X109.here hx rfl (hb hby own_d28_11) rfl (by decide) k) ?_
  show G (T109.setTop (mkF m 14 #[.val (.ref q), .val (.ref b102), .val (.int (1 : Int32))] []))
  refine go _ _ (fun _ k => XS.aloadN X109.here hx rfl (hb hby own_d28_14) rfl rfl (XS.iloadN X109.here hx rfl (hb hby own_d28_15) rfl (XS.aloadN X109.here hx rfl (hb hby own_d28_16) rfl rfl (XS.iloadN X109.here hx rfl (hb hby own_d28_17) rfl k)))) ?_
  show G (T109.setTop (mkF m 18 #[.val (.ref q), .val (.ref b102), .val (.int (1 : Int32))] [(.int (1 : Int32)), (.ref q), (.int (1 : Int32)), (.ref b102)]))
  obtain ⟨cl114, Ar114, q114, S114, M114, H114, U114⟩ := id F113
  refine go _ _ (fun _ k => X109.aaload hx (j := (1 : Int32)) (v := (.ref ee1)) (by rw [e109]; exact Ar114.1) (State.isArrayOf_alike hZ.alike Ar114.2.1) rfl Ar114.2.2 (inb_of S114 ⟨by decide, by decide⟩) (Has.at H114 (inb_of S114 ⟨by decide, by decide⟩) rfl) (g := (mkF m 18 #[.val (.ref q), .val (.ref b102), .val (.int (1 : Int32))] [(.int (1 : Int32)), (.ref q), (.int (1 : Int32)), (.ref b102)])) rfl rfl (hb hby own_d28_18) _ k) ?_
  show G (T109.setTop (mkF m 19 #[.val (.ref q), .val (.ref b102), .val (.int (1 : Int32))] [(.ref ee1), (.int (1 : Int32)), (.ref b102)]))
  have Z116 : h0.size ≤ h109.size := Nat.le_trans Z108 (Keep.of_wr W109).1
  obtain ⟨rv115, T115, L115, X115, q115, st115⟩ := own_st X109 hx hZ (y := (⟨"java/util/Objects", "requireNonNull", "(Ljava/lang/Object;)Ljava/lang/Object;"⟩ : MethodName)) hown (ow hw 171 rfl) (ow hw 172 rfl) (ow hw 173 rfl) (ow hw 174 rfl) (by decide) (own_bkN (W := 2) (rm29 l Z a0 hw z0 O2 P5 dd kd O_dd V_dd mr M_mr el O_el em O_em [] ee1 h109 n0 (Nat.le_trans Z0 Z116)) hZ (ow hw 174 rfl) (ow hw 173 rfl) (by decide) (by decide)) e109 (g := (mkF m 19 #[.val (.ref q), .val (.ref b102), .val (.int (1 : Int32))] [(.ref ee1), (.int (1 : Int32)), (.ref b102)])) rfl (by rw [hml]; rfl) (argsL := [(.ref ee1)]) (rest := [(.int (1 : Int32)), (.ref b102)]) rfl (lenOf own_pd1 rfl) rfl (by show 2 * 0 + _ ≤ _; exact Nat.le_of_eq rfl) (hb hby own_d28_19) (by decide) (by decide)
  obtain ⟨Nq115, e115, rfl⟩ := q115
  have N115 := Fr.app N109 Nq115
  refine go _ _ (st115) ?_
  show G (T115.setTop (mkF m 22 #[.val (.ref q), .val (.ref b102), .val (.int (1 : Int32))] [(.ref ee1), (.int (1 : Int32)), (.ref b102)]))
  have Vp117 : Arv Z h109 b102 k102 (.object "java/lang/Object") (3 : Int32) [(.ref ee0), .null] .null := V109.pad (pad_rep [(.ref ee0)] .null 1)
  obtain ⟨cl117, Ar117, q117, S117, M117, H117, U117⟩ := id Vp117
  have K118 : Keep h0 h109 [] := K104.wr W109 (Or.inr (Nat.le_of_eq g102.symm))
  have F119 : Exa Z h109 ee1 "java/lang/String" := (Eee1.keep K118)
  obtain ⟨T117, h117, X117, e117, W117, st117⟩ := stR X115 hx hZ e115 Ar117 (j := (1 : Int32)) (inb_of S117 ⟨by decide, by decide⟩) rfl (Sto.ofV Ar117 q117 O102 (Ins.of_exa F119 (ow hw 80 rfl))) (g := (mkF m 22 #[.val (.ref q), .val (.ref b102), .val (.int (1 : Int32))] [(.ref ee1), (.int (1 : Int32)), (.ref b102)])) rfl rfl (hb hby own_d28_22)
  have V117 : Arv Z h117 b102 k102 (.object "java/lang/Object") (3 : Int32) [(.ref ee0), (.ref ee1)] .null := Arv.set Ar117 q117 S117 M117 H117 U117 rfl W117 1 rfl (Nat.le_of_ble_eq_true rfl)
  have N117 := Fr.snoc X117 N115 (Nat.le_trans Z0 (Nat.le_of_eq g102.symm))
  refine go _ _ (st117) ?_
  show G (T117.setTop (mkF m 23 #[.val (.ref q), .val (.ref b102), .val (.int (1 : Int32))] []))
  refine go _ _ (fun _ k => XS.iinc X117.here hx rfl (hb hby own_d28_23) rfl (l' := #[.val (.ref q), .val (.ref b102), .val (.int (2 : Int32))]) rfl k) ?_
  show G (T117.setTop (mkF m 26 #[.val (.ref q), .val (.ref b102), .val (.int (2 : Int32))] []))
  refine go _ _ (fun _ k => XS.goto X117.here hx rfl (pc0 := 26) (pc' := 8) rfl (hb hby own_d28_26) (by decide) (by decide) k) ?_
  show G (T117.setTop (mkF m 8 #[.val (.ref q), .val (.ref b102), .val (.int (2 : Int32))] []))
  refine go _ _ (fun _ k => XS.iloadN X117.here hx rfl (hb hby own_d28_8) rfl (XS.aloadN X117.here hx rfl (hb hby own_d28_9) rfl rfl k)) ?_
  show G (T117.setTop (mkF m 10 #[.val (.ref q), .val (.ref b102), .val (.int (2 : Int32))] [(.ref q), (.int (2 : Int32))]))
  have K121 : Keep h109 h117 [b102] := (Keep.refl h109 [b102]).wr W117 (Or.inl (List.mem_of_getElem? (i := 0) rfl))
  have F122 : Arv Z h117 q kb (.object "java/lang/Object") (3 : Int32) [(.ref ee0), (.ref ee1), (.ref ee2)] .null := (F113.keep K121 (ninS (Nat.ne_of_lt (Nat.lt_of_lt_of_le Aq.lt (Nat.le_of_eq g102.symm))) nin0))
  obtain ⟨cl120, Ar120, q120, S120, M120, H120, U120⟩ := id F122
  refine go _ _ (fun _ k => X117.arraylength hx (by rw [e117]; exact Ar120.1) (State.isArrayOf_alike hZ.alike Ar120.2.1) (g := (mkF m 10 #[.val (.ref q), .val (.ref b102), .val (.int (2 : Int32))] [(.ref q), (.int (2 : Int32))])) rfl rfl (hb hby own_d28_10) _ k) ?_
  show G (T117.setTop (mkF m 11 #[.val (.ref q), .val (.ref b102), .val (.int (2 : Int32))] [(.int cl120.slots.size.toInt32), (.int (2 : Int32))]))
  rw [len_of S120 M120]
  show G (T117.setTop (mkF m 11 #[.val (.ref q), .val (.ref b102), .val (.int (2 : Int32))] [(.int (3 : Int32)), (.int (2 : Int32))]))
  refine go _ _ (fun _ k => XS.icmpNo X117.here hx rfl (hb hby own_d28_11) rfl (by decide) k) ?_
  show G (T117.setTop (mkF m 14 #[.val (.ref q), .val (.ref b102), .val (.int (2 : Int32))] []))
  refine go _ _ (fun _ k => XS.aloadN X117.here hx rfl (hb hby own_d28_14) rfl rfl (XS.iloadN X117.here hx rfl (hb hby own_d28_15) rfl (XS.aloadN X117.here hx rfl (hb hby own_d28_16) rfl rfl (XS.iloadN X117.here hx rfl (hb hby own_d28_17) rfl k)))) ?_
  show G (T117.setTop (mkF m 18 #[.val (.ref q), .val (.ref b102), .val (.int (2 : Int32))] [(.int (2 : Int32)), (.ref q), (.int (2 : Int32)), (.ref b102)]))
  obtain ⟨cl123, Ar123, q123, S123, M123, H123, U123⟩ := id F122
  refine go _ _ (fun _ k => X117.aaload hx (j := (2 : Int32)) (v := (.ref ee2)) (by rw [e117]; exact Ar123.1) (State.isArrayOf_alike hZ.alike Ar123.2.1) rfl Ar123.2.2 (inb_of S123 ⟨by decide, by decide⟩) (Has.at H123 (inb_of S123 ⟨by decide, by decide⟩) rfl) (g := (mkF m 18 #[.val (.ref q), .val (.ref b102), .val (.int (2 : Int32))] [(.int (2 : Int32)), (.ref q), (.int (2 : Int32)), (.ref b102)])) rfl rfl (hb hby own_d28_18) _ k) ?_
  show G (T117.setTop (mkF m 19 #[.val (.ref q), .val (.ref b102), .val (.int (2 : Int32))] [(.ref ee2), (.int (2 : Int32)), (.ref b102)]))
  have Z125 : h0.size ≤ h117.size := Nat.le_trans Z116 (Keep.of_wr W117).1
  obtain ⟨rv124, T124, L124, X124, q124, st124⟩ := own_st X117 hx hZ (y := (⟨"java/util/Objects", "requireNonNull", "(Ljava/lang/Object;)Ljava/lang/Object;"⟩ : MethodName)) hown (ow hw 171 rfl) (ow hw 172 rfl) (ow hw 173 rfl) (ow hw 174 rfl) (by decide) (own_bkN (W := 2) (rm29 l Z a0 hw z0 O2 P5 dd kd O_dd V_dd mr M_mr el O_el em O_em [] ee2 h117 n0 (Nat.le_trans Z0 Z125)) hZ (ow hw 174 rfl) (ow hw 173 rfl) (by decide) (by decide)) e117 (g := (mkF m 19 #[.val (.ref q), .val (.ref b102), .val (.int (2 : Int32))] [(.ref ee2), (.int (2 : Int32)), (.ref b102)])) rfl (by rw [hml]; rfl) (argsL := [(.ref ee2)]) (rest := [(.int (2 : Int32)), (.ref b102)]) rfl (lenOf own_pd1 rfl) rfl (by show 2 * 0 + _ ≤ _; exact Nat.le_of_eq rfl) (hb hby own_d28_19) (by decide) (by decide)
  obtain ⟨Nq124, e124, rfl⟩ := q124
  have N124 := Fr.app N117 Nq124
  refine go _ _ (st124) ?_
  show G (T124.setTop (mkF m 22 #[.val (.ref q), .val (.ref b102), .val (.int (2 : Int32))] [(.ref ee2), (.int (2 : Int32)), (.ref b102)]))
  have Vp126 : Arv Z h117 b102 k102 (.object "java/lang/Object") (3 : Int32) [(.ref ee0), (.ref ee1), .null] .null := V117.pad (pad_rep [(.ref ee0), (.ref ee1)] .null 1)
  obtain ⟨cl126, Ar126, q126, S126, M126, H126, U126⟩ := id Vp126
  have K127 : Keep h0 h117 [] := K118.wr W117 (Or.inr (Nat.le_of_eq g102.symm))
  have F128 : Exa Z h117 ee2 "java/lang/String" := (Eee2.keep K127)
  obtain ⟨T126, h126, X126, e126, W126, st126⟩ := stR X124 hx hZ e124 Ar126 (j := (2 : Int32)) (inb_of S126 ⟨by decide, by decide⟩) rfl (Sto.ofV Ar126 q126 O102 (Ins.of_exa F128 (ow hw 80 rfl))) (g := (mkF m 22 #[.val (.ref q), .val (.ref b102), .val (.int (2 : Int32))] [(.ref ee2), (.int (2 : Int32)), (.ref b102)])) rfl rfl (hb hby own_d28_22)
  have V126 : Arv Z h126 b102 k102 (.object "java/lang/Object") (3 : Int32) [(.ref ee0), (.ref ee1), (.ref ee2)] .null := Arv.set Ar126 q126 S126 M126 H126 U126 rfl W126 2 rfl (Nat.le_of_ble_eq_true rfl)
  have N126 := Fr.snoc X126 N124 (Nat.le_trans Z0 (Nat.le_of_eq g102.symm))
  refine go _ _ (st126) ?_
  show G (T126.setTop (mkF m 23 #[.val (.ref q), .val (.ref b102), .val (.int (2 : Int32))] []))
  refine go _ _ (fun _ k => XS.iinc X126.here hx rfl (hb hby own_d28_23) rfl (l' := #[.val (.ref q), .val (.ref b102), .val (.int (3 : Int32))]) rfl k) ?_
  show G (T126.setTop (mkF m 26 #[.val (.ref q), .val (.ref b102), .val (.int (3 : Int32))] []))
  refine go _ _ (fun _ k => XS.goto X126.here hx rfl (pc0 := 26) (pc' := 8) rfl (hb hby own_d28_26) (by decide) (by decide) k) ?_
  show G (T126.setTop (mkF m 8 #[.val (.ref q), .val (.ref b102), .val (.int (3 : Int32))] []))
  refine go _ _ (fun _ k => XS.iloadN X126.here hx rfl (hb hby own_d28_8) rfl (XS.aloadN X126.here hx rfl (hb hby own_d28_9) rfl rfl k)) ?_
  show G (T126.setTop (mkF m 10 #[.val (.ref q), .val (.ref b102), .val (.int (3 : Int32))] [(.ref q), (.int (3 : Int32))]))
  have K130 : Keep h117 h126 [b102] := (Keep.refl h117 [b102]).wr W126 (Or.inl (List.mem_of_getElem? (i := 0) rfl))
  have F131 : Arv Z h126 q kb (.object "java/lang/Object") (3 : Int32) [(.ref ee0), (.ref ee1), (.ref ee2)] .null := (F122.keep K130 (ninS (Nat.ne_of_lt (Nat.lt_of_lt_of_le Aq.lt (Nat.le_of_eq g102.symm))) nin0))
  obtain ⟨cl129, Ar129, q129, S129, M129, H129, U129⟩ := id F131
  refine go _ _ (fun _ k => X126.arraylength hx (by rw [e126]; exact Ar129.1) (State.isArrayOf_alike hZ.alike Ar129.2.1) (g := (mkF m 10 #[.val (.ref q), .val (.ref b102), .val (.int (3 : Int32))] [(.ref q), (.int (3 : Int32))])) rfl rfl (hb hby own_d28_10) _ k) ?_
  show G (T126.setTop (mkF m 11 #[.val (.ref q), .val (.ref b102), .val (.int (3 : Int32))] [(.int cl129.slots.size.toInt32), (.int (3 : Int32))]))
  rw [len_of S129 M129]
  show G (T126.setTop (mkF m 11 #[.val (.ref q), .val (.ref b102), .val (.int (3 : Int32))] [(.int (3 : Int32)), (.int (3 : Int32))]))
  refine go _ _ (fun _ k => XS.icmpYes X126.here hx rfl (pc0 := 11) (pc' := 29) rfl (hb hby own_d28_11) rfl (by decide) (by decide) (by decide) k) ?_
  show G (T126.setTop (mkF m 29 #[.val (.ref q), .val (.ref b102), .val (.int (3 : Int32))] []))
  obtain ⟨T132, h132, X132, e132, E132, A132, D132, -, st132⟩ := newO X126 hx hZ hown (ow hw 124 rfl) (ow hw 175 rfl) (ow hw 176 rfl) e126 (g := (mkF m 29 #[.val (.ref q), .val (.ref b102), .val (.int (3 : Int32))] [])) rfl (hb hby own_d28_29) (by decide) (by decide)
  obtain ⟨b132, g132⟩ : ∃ z, z = h126.size := ⟨_, rfl⟩
  rw [← g132] at A132 D132 st132
  refine go _ _ (st132) ?_
  show G (T132.setTop (mkF m 32 #[.val (.ref q), .val (.ref b102), .val (.int (3 : Int32))] [(.ref b132)]))
  refine go _ _ (fun _ k => XS.dup X132.here hx rfl (hb hby own_d28_32) rfl rfl (XS.aloadN X132.here hx rfl (hb hby own_d28_33) rfl rfl (XS.iconst X132.here hx rfl (hb hby own_d28_34) k))) ?_
  show G (T132.setTop (mkF m 35 #[.val (.ref q), .val (.ref b102), .val (.int (3 : Int32))] [(.int (0 : Int32)), (.ref b102), (.ref b132), (.ref b132)]))
  have Z134 : h0.size ≤ h126.size := Nat.le_trans Z125 (Keep.of_wr W126).1
  have Z135 : h0.size ≤ h132.size := Nat.le_trans Z134 E132.1
  obtain ⟨rv133, T133, L133, X133, q133, st133⟩ := own_spN X132 hx hZ (y := (⟨"java/util/ImmutableCollections$ListN", "<init>", "([Ljava/lang/Object;Z)V"⟩ : MethodName)) rfl hown (ow hw 177 rfl) (ow hw 178 rfl) (ow hw 180 rfl) (by decide) (own_bkN (W := 1) (rm30 l Z a0 hw z0 O2 P5 dd kd O_dd V_dd mr M_mr el O_el em O_em [] b132 b102 h132 n0 (Nat.le_trans Z0 Z135) A132 (D132 (Or.inr (ow hw 196 rfl)) (ty := (.array (.object "java/lang/Object"))) (by decide)) (D132 (Or.inr (ow hw 198 rfl)) (ty := .boolean) (by decide)) (Nat.le_trans (Nat.le_trans Z0 Z134) (Nat.le_of_eq g132.symm))) hZ (ow hw 180 rfl) (ow hw 176 rfl) (by decide) (by decide)) e132 (g := (mkF m 35 #[.val (.ref q), .val (.ref b102), .val (.int (3 : Int32))] [(.int (0 : Int32)), (.ref b102), (.ref b132), (.ref b132)])) rfl (by rw [hml]; rfl) (a := b132) (argsL := [(.ref b102), (.int (0 : Int32))]) (rest := [(.ref b132)]) rfl (lenOf own_pd13 rfl) rfl (by show 2 * 0 + _ ≤ _; exact Nat.le_of_eq rfl) (hb hby own_d28_35) (by decide) (by decide)
  obtain ⟨Nq133, Kp133, rfl⟩ := q133
  have N133 := Fr.app N126 Nq133
  refine go _ _ (st133) ?_
  show G (T133.setTop (mkF m 38 #[.val (.ref q), .val (.ref b102), .val (.int (3 : Int32))] [(.ref b132)]))
  have K136 : Keep h0 h126 [] := K127.wr W126 (Or.inr (Nat.le_of_eq g102.symm))
  have K137 : Keep h0 h132 [] := K136.ext E132
  have K138 : Keep h0 T133.heap [] := K137.trans Kp133 (allS (Or.inr (Nat.le_trans Z134 (Nat.le_of_eq g132.symm))) all0)
  refine fin T133 _ _ _ (some (.ref b132)) X133 (fun q => nomatch q) (by decide) (by decide) ⟨N133, K138, ⟨b132, rfl⟩⟩ _ (own_retA X133 hx hret rfl rfl rfl (hb hby own_d28_38))
theorem own_pd14 : parseMethodDescriptor "([Ljava/lang/Object;)Ljava/util/List;" = some ⟨[(.array (.object "java/lang/Object"))], some (.object "java/util/List")⟩ := by decide +kernel
set_option maxHeartbeats 4000000 in
theorem own_ef_rmLo3 (m : MethodId) (x0 : Addr) : entryFrame m #[(.ref x0)] 2 = mkF m 0 #[.val (.ref x0), .unset] [] := by rfl
set_option maxRecDepth 65536 in
set_option maxHeartbeats 40000000 in
theorem rmLo3 (l : Launch) (Z : State) (a0 : Array Value) (hw : ∀ d ∈ tables_1, d.before a0 Z = true) (z0 : Int32) (O2 : Sta Z Z.heap "java/lang/String" "COMPACT_STRINGS" "Z" (.int z0)) (P5 : ¬ z0 = (0 : Int32)) (dd : Addr) (kd : ClassId) (O_dd : Sta Z Z.heap "java/util/ArrayList" "DEFAULTCAPACITY_EMPTY_ELEMENTDATA" "[Ljava/lang/Object;" (.ref dd)) (V_dd : Arv Z Z.heap dd kd (.object "java/lang/Object") (0 : Int32) [] .null) (mr : Addr) (M_mr : own_Mir Z "[Ljava/lang/Object;" mr) (el : Addr) (O_el : Sta Z Z.heap "java/util/ImmutableCollections" "EMPTY_LIST" "Ljava/util/ImmutableCollections$ListN;" (.ref el)) (em : Addr) (O_em : Sta Z Z.heap "java/util/ImmutableCollections" "EMPTY" "Ljava/lang/Object;" (.ref em)) (ws : List Jvm.Cond) (q : Addr) (kb : ClassId) (ee0 : Addr) (ee1 : Addr) (ee2 : Addr) (h0 : Heap) (n0 : Nat) (Z0 : n0 ≤ h0.size) (Xo : Old Z n0 h0) (Aq : Arv Z h0 q kb (.object "java/lang/Object") (3 : Int32) [(.ref ee0), (.ref ee1), (.ref ee2)] .null) (Eee0 : Exa Z h0 ee0 "java/lang/String") (Eee1 : Exa Z h0 ee1 "java/lang/String") (Eee2 : Exa Z h0 ee2 "java/lang/String") :
    own_MetN l Z (⟨"java/util/List", "of", "([Ljava/lang/Object;)Ljava/util/List;"⟩ : MethodName) jdk_40_method_47_code 2 (some (.object "java/util/List")) ws ({ frames := 6, cells := 2, slots := 5, locals := 77 } : Room) #[(.ref q)] h0 (fun v h L => Fr n0 L ∧ Keep h0 h [] ∧ ((∃ (b : Addr), (v = some (.ref b))))) := by
  refine own_metN (plainFor_of_name own_pn13) ?_
  intro p e s m below meth c s₁ G hx hby hml hZ hown hnm hret X0 e0 go fin
  have N0 := Fr.nil n0
  refine go _ _ (fun _ k => castTop (own_ef_rmLo3 m q) k) ?_
  show G (s₁.setTop (mkF m 0 #[.val (.ref q), .unset] []))
  refine go _ _ (fun _ k => XS.aloadN X0.here hx rfl (hb hby own_d27_0) rfl rfl k) ?_
  show G (s₁.setTop (mkF m 1 #[.val (.ref q), .unset] [(.ref q)]))
  obtain ⟨cl101, Ar101, q101, S101, M101, H101, U101⟩ := id Aq
  refine go _ _ (fun _ k => X0.arraylength hx (by rw [e0]; exact Ar101.1) (State.isArrayOf_alike hZ.alike Ar101.2.1) (g := (mkF m 1 #[.val (.ref q), .unset] [(.ref q)])) rfl rfl (hb hby own_d27_1) _ k) ?_
  show G (s₁.setTop (mkF m 2 #[.val (.ref q), .unset] [(.int cl101.slots.size.toInt32)]))
  rw [len_of S101 M101]
  show G (s₁.setTop (mkF m 2 #[.val (.ref q), .unset] [(.int (3 : Int32))]))
  refine go _ _ (fun _ k => XS.tswOut X0.here hx rfl (pc0 := 2) (pc' := 59) rfl (hb hby own_d27_2) rfl (by decide) (by decide) (by decide) k) ?_
  show G (s₁.setTop (mkF m 59 #[.val (.ref q), .unset] []))
  refine go _ _ (fun _ k => XS.aloadN X0.here hx rfl (hb hby own_d27_59) rfl rfl k) ?_
  show G (s₁.setTop (mkF m 60 #[.val (.ref q), .unset] [(.ref q)]))
  obtain ⟨rv102, T102, L102, X102, q102, st102⟩ := own_st X0 hx hZ (y := (⟨"java/util/ImmutableCollections", "listFromArray", "([Ljava/lang/Object;)Ljava/util/List;"⟩ : MethodName)) hown (ow hw 167 rfl) (ow hw 168 rfl) (ow hw 117 rfl) (ow hw 169 rfl) (by decide) (own_bkN (W := 0) (rmLfa l Z a0 hw z0 O2 P5 dd kd O_dd V_dd mr M_mr el O_el em O_em [] q kb ee0 ee1 ee2 h0 n0 Z0 Xo Aq Eee0 Eee1 Eee2) hZ (ow hw 169 rfl) (ow hw 117 rfl) (by decide) (by decide)) e0 (g := (mkF m 60 #[.val (.ref q), .unset] [(.ref q)])) rfl (by rw [hml]; rfl) (argsL := [(.ref q)]) (rest := []) rfl (lenOf own_pd14 rfl) rfl (by show 2 * 0 + _ ≤ _; exact Nat.le_of_eq rfl) (hb hby own_d27_60) (by decide) (by decide)
  obtain ⟨Nq102, Kp102, ⟨b_103, rfl⟩⟩ := q102
  have N102 := Fr.app N0 Nq102
  refine go _ _ (st102) ?_
  show G (T102.setTop (mkF m 63 #[.val (.ref q), .unset] [(.ref b_103)]))
  have K104 : Keep h0 T102.heap [] := (Keep.refl h0 []).trans Kp102 all0
  refine fin T102 _ _ _ (some (.ref b_103)) X102 (fun q => nomatch q) (by decide) (by decide) ⟨N102, K104, ⟨b_103, rfl⟩⟩ _ (own_retA X102 hx hret rfl rfl rfl (hb hby own_d27_63))
theorem own_d22_0 : decode jdk_38_method_9_code 0 = .ok (.aload_n 0, 1) := by decide +kernel
theorem own_d22_1 : decode jdk_38_method_9_code 1 = .ok (.getfield 48, 3) := by decide +kernel
theorem own_d22_4 : decode jdk_38_method_9_code 4 = .ok (.ifCond .ne 7, 3) := by decide +kernel
theorem own_d22_7 : decode jdk_38_method_9_code 7 = .ok (.iconst 1, 1) := by decide +kernel
theorem own_d22_8 : decode jdk_38_method_9_code 8 = .ok (.goto 4, 3) := by decide +kernel
theorem own_d22_11 : decode jdk_38_method_9_code 11 = .ok (.iconst 0, 1) := by decide +kernel
theorem own_d22_12 : decode jdk_38_method_9_code 12 = .ok (.ireturn, 1) := by decide +kernel
set_option maxHeartbeats 4000000 in
theorem own_ef_rm22 (m : MethodId) (x0 : Addr) : entryFrame m #[(.ref x0)] 1 = mkF m 0 #[.val (.ref x0)] [] := by rfl
set_option maxRecDepth 65536 in
set_option maxHeartbeats 40000000 in
theorem rm22 (l : Launch) (Z : State) (a0 : Array Value) (hw : ∀ d ∈ tables_1, d.before a0 Z = true) (z0 : Int32) (O2 : Sta Z Z.heap "java/lang/String" "COMPACT_STRINGS" "Z" (.int z0)) (P5 : ¬ z0 = (0 : Int32)) (dd : Addr) (kd : ClassId) (O_dd : Sta Z Z.heap "java/util/ArrayList" "DEFAULTCAPACITY_EMPTY_ELEMENTDATA" "[Ljava/lang/Object;" (.ref dd)) (V_dd : Arv Z Z.heap dd kd (.object "java/lang/Object") (0 : Int32) [] .null) (mr : Addr) (M_mr : own_Mir Z "[Ljava/lang/Object;" mr) (el : Addr) (O_el : Sta Z Z.heap "java/util/ImmutableCollections" "EMPTY_LIST" "Ljava/util/ImmutableCollections$ListN;" (.ref el)) (em : Addr) (O_em : Sta Z Z.heap "java/util/ImmutableCollections" "EMPTY" "Ljava/lang/Object;" (.ref em)) (ws : List Jvm.Cond) (a : Addr) (n : Int32) (h0 : Heap) (n0 : Nat) (Z0 : n0 ≤ h0.size) (Fs : Fld Z h0 a "java/util/ArrayList" "size" "I" (.int n)) :
    own_MetN l Z (⟨"java/util/ArrayList", "isEmpty", "()Z"⟩ : MethodName) jdk_38_method_9_code 1 (some .boolean) ws ({ frames := 0, cells := 0, slots := 0, locals := 0 } : Room) #[(.ref a)] h0 (fun v h L => Fr n0 L ∧ h = h0 ∧ (((v = some (.int (1 : Int32))) ∧ (n = (0 : Int32))) ∨ ((v = some (.int (0 : Int32))) ∧ (¬ n = (0 : Int32))))) := by
  refine own_metN (plainFor_of_name own_pn3) ?_
  intro p e s m below meth c s₁ G hx hby hml hZ hown hnm hret X0 e0 go fin
  have N0 := Fr.nil n0
  refine go _ _ (fun _ k => castTop (own_ef_rm22 m a) k) ?_
  show G (s₁.setTop (mkF m 0 #[.val (.ref a)] []))
  refine go _ _ (fun _ k => XS.aloadN X0.here hx rfl (hb hby own_d22_0) rfl rfl k) ?_
  show G (s₁.setTop (mkF m 1 #[.val (.ref a)] [(.ref a)]))
  obtain ⟨T101, X101, e101, st101⟩ := getF X0 hx hZ hown (host := "") (Or.inl (ow hw 57 rfl)) Via.refl e0 Fs (g := (mkF m 1 #[.val (.ref a)] [(.ref a)])) rfl rfl (hb hby own_d22_1)
  refine go _ _ (st101) ?_
  show G (T101.setTop (mkF m 4 #[.val (.ref a)] [(.int n)]))
  by_cases hc4_102 : n = (0 : Int32)
  · refine go _ _ (fun _ k => XS.ifNo X101.here hx rfl (hb hby own_d22_4) rfl ((if0 _ _).trans (teq hc4_102).2) k) ?_
    show G (T101.setTop (mkF m 7 #[.val (.ref a)] []))
    refine go _ _ (fun _ k => XS.iconst X101.here hx rfl (hb hby own_d22_7) k) ?_
    show G (T101.setTop (mkF m 8 #[.val (.ref a)] [(.int (1 : Int32))]))
    refine go _ _ (fun _ k => XS.goto X101.here hx rfl (pc0 := 8) (pc' := 12) rfl (hb hby own_d22_8) (by decide) (by decide) k) ?_
    show G (T101.setTop (mkF m 12 #[.val (.ref a)] [(.int (1 : Int32))]))
    refine fin T101 _ _ _ (some (.int (1 : Int32))) X101 (fun q => nomatch q) (by decide) (by decide) (by rw [e101]; exact ⟨N0, rfl, (Or.inl ⟨rfl, hc4_102⟩)⟩) _ (own_retN X101 hx (z := (1 : Int32)) (t := .boolean) hret (by simp) (hb hby own_d22_12))
  · refine go _ _ (fun _ k => XS.ifYes X101.here hx rfl (pc0 := 4) (pc' := 11) rfl (hb hby own_d22_4) rfl ((if0 _ _).trans (feq hc4_102).2) (by decide) (by decide) k) ?_
    show G (T101.setTop (mkF m 11 #[.val (.ref a)] []))
    refine go _ _ (fun _ k => XS.iconst X101.here hx rfl (hb hby own_d22_11) k) ?_
    show G (T101.setTop (mkF m 12 #[.val (.ref a)] [(.int (0 : Int32))]))
    refine fin T101 _ _ _ (some (.int (0 : Int32))) X101 (fun q => nomatch q) (by decide) (by decide) (by rw [e101]; exact ⟨N0, rfl, (Or.inr ⟨rfl, hc4_102⟩)⟩) _ (own_retN X101 hx (z := (0 : Int32)) (t := .boolean) hret (by simp) (hb hby own_d22_12))
theorem own_d37_0 : decode jdk_40_method_36_code 0 = .ok (.getstatic 90, 3) := by decide +kernel
theorem own_d37_3 : decode jdk_40_method_36_code 3 = .ok (.areturn, 1) := by decide +kernel
set_option maxHeartbeats 4000000 in
theorem own_ef_rm37 (m : MethodId) : entryFrame m #[] 0 = mkF m 0 #[] [] := by rfl
set_option maxRecDepth 65536 in
set_option maxHeartbeats 40000000 in
theorem rm37 (l : Launch) (Z : State) (a0 : Array Value) (hw : ∀ d ∈ tables_1, d.before a0 Z = true) (z0 : Int32) (O2 : Sta Z Z.heap "java/lang/String" "COMPACT_STRINGS" "Z" (.int z0)) (P5 : ¬ z0 = (0 : Int32)) (dd : Addr) (kd : ClassId) (O_dd : Sta Z Z.heap "java/util/ArrayList" "DEFAULTCAPACITY_EMPTY_ELEMENTDATA" "[Ljava/lang/Object;" (.ref dd)) (V_dd : Arv Z Z.heap dd kd (.object "java/lang/Object") (0 : Int32) [] .null) (mr : Addr) (M_mr : own_Mir Z "[Ljava/lang/Object;" mr) (el : Addr) (O_el : Sta Z Z.heap "java/util/ImmutableCollections" "EMPTY_LIST" "Ljava/util/ImmutableCollections$ListN;" (.ref el)) (em : Addr) (O_em : Sta Z Z.heap "java/util/ImmutableCollections" "EMPTY" "Ljava/lang/Object;" (.ref em)) (ws : List Jvm.Cond) (h0 : Heap) (n0 : Nat) (Z0 : n0 ≤ h0.size) (Xo : Old Z n0 h0) :
    own_MetN l Z (⟨"java/util/List", "of", "()Ljava/util/List;"⟩ : MethodName) jdk_40_method_36_code 0 (some (.object "java/util/List")) ws ({ frames := 0, cells := 0, slots := 0, locals := 0 } : Room) #[] h0 (fun v h L => Fr n0 L ∧ h = h0 ∧ (((v = some (.ref el))))) := by
  refine own_metN (plainFor_of_name own_pn13) ?_
  intro p e s m below meth c s₁ G hx hby hml hZ hown hnm hret X0 e0 go fin
  have N0 := Fr.nil n0
  refine go _ _ (fun _ k => castTop (own_ef_rm37 m) k) ?_
  show G (s₁.setTop (mkF m 0 #[] []))
  obtain ⟨T101, X101, e101, st101⟩ := getS2 X0 hx hZ (host := "") hown (Or.inl (ow hw 234 rfl)) Via.refl e0 (O_el.ext Xo.2) (g := (mkF m 0 #[] [])) rfl (hb hby own_d37_0)
  refine go _ _ (st101) ?_
  show G (T101.setTop (mkF m 3 #[] [(.ref el)]))
  refine fin T101 _ _ _ (some (.ref el)) X101 (fun q => nomatch q) (by decide) (by decide) (by rw [e101]; exact ⟨N0, rfl, rfl⟩) _ (own_retA X101 hx hret rfl rfl rfl (hb hby own_d37_3))
theorem own_d21_0 : decode jdk_56_method_3_code 0 = .ok (.aload_n 0, 1) := by decide +kernel
theorem own_d21_1 : decode jdk_56_method_3_code 1 = .ok (.instanceof 10, 3) := by decide +kernel
theorem own_d21_4 : decode jdk_56_method_3_code 4 = .ok (.ifCond .ne 22, 3) := by decide +kernel
theorem own_d21_7 : decode jdk_56_method_3_code 7 = .ok (.aload_n 0, 1) := by decide +kernel
theorem own_d21_8 : decode jdk_56_method_3_code 8 = .ok (.instanceof 12, 3) := by decide +kernel
theorem own_d21_11 : decode jdk_56_method_3_code 11 = .ok (.ifCond .eq 20, 3) := by decide +kernel
theorem own_d21_14 : decode jdk_56_method_3_code 14 = .ok (.aload_n 0, 1) := by decide +kernel
theorem own_d21_15 : decode jdk_56_method_3_code 15 = .ok (.checkcast 12, 3) := by decide +kernel
theorem own_d21_18 : decode jdk_56_method_3_code 18 = .ok (.astore_n 1, 1) := by decide +kernel
theorem own_d21_19 : decode jdk_56_method_3_code 19 = .ok (.aload_n 1, 1) := by decide +kernel
theorem own_d21_20 : decode jdk_56_method_3_code 20 = .ok (.getfield 14, 3) := by decide +kernel
theorem own_d21_23 : decode jdk_56_method_3_code 23 = .ok (.ifCond .ne 8, 3) := by decide +kernel
theorem own_d21_26 : decode jdk_56_method_3_code 26 = .ok (.aload_n 0, 1) := by decide +kernel
theorem own_d21_27 : decode jdk_56_method_3_code 27 = .ok (.checkcast 18, 3) := by decide +kernel
theorem own_d21_30 : decode jdk_56_method_3_code 30 = .ok (.areturn, 1) := by decide +kernel
theorem own_d21_31 : decode jdk_56_method_3_code 31 = .ok (.aload_n 0, 1) := by decide +kernel
theorem own_d21_32 : decode jdk_56_method_3_code 32 = .ok (.invokeinterface 20 1, 5) := by decide +kernel
theorem own_d21_37 : decode jdk_56_method_3_code 37 = .ok (.ifCond .eq 7, 3) := by decide +kernel
theorem own_d21_40 : decode jdk_56_method_3_code 40 = .ok (.invokestatic 26, 3) := by decide +kernel
theorem own_d21_43 : decode jdk_56_method_3_code 43 = .ok (.areturn, 1) := by decide +kernel
theorem own_d21_44 : decode jdk_56_method_3_code 44 = .ok (.aload_n 0, 1) := by decide +kernel
theorem own_d21_45 : decode jdk_56_method_3_code 45 = .ok (.invokeinterface 30 1, 5) := by decide +kernel
theorem own_d21_50 : decode jdk_56_method_3_code 50 = .ok (.invokestatic 34, 3) := by decide +kernel
theorem own_d21_53 : decode jdk_56_method_3_code 53 = .ok (.areturn, 1) := by decide +kernel
theorem own_pd15 : parseMethodDescriptor "()Z" = some ⟨[], some .boolean⟩ := by decide +kernel
theorem own_pd16 : parseMethodDescriptor "()Ljava/util/List;" = some ⟨[], some (.object "java/util/List")⟩ := by decide +kernel
set_option maxHeartbeats 4000000 in
theorem own_ef_rmLc0 (m : MethodId) (x0 : Addr) : entryFrame m #[(.ref x0)] 2 = mkF m 0 #[.val (.ref x0), .unset] [] := by rfl
set_option maxRecDepth 65536 in
set_option maxHeartbeats 40000000 in
theorem rmLc0 (l : Launch) (Z : State) (a0 : Array Value) (hw : ∀ d ∈ tables_1, d.before a0 Z = true) (z0 : Int32) (O2 : Sta Z Z.heap "java/lang/String" "COMPACT_STRINGS" "Z" (.int z0)) (P5 : ¬ z0 = (0 : Int32)) (dd : Addr) (kd : ClassId) (O_dd : Sta Z Z.heap "java/util/ArrayList" "DEFAULTCAPACITY_EMPTY_ELEMENTDATA" "[Ljava/lang/Object;" (.ref dd)) (V_dd : Arv Z Z.heap dd kd (.object "java/lang/Object") (0 : Int32) [] .null) (mr : Addr) (M_mr : own_Mir Z "[Ljava/lang/Object;" mr) (el : Addr) (O_el : Sta Z Z.heap "java/util/ImmutableCollections" "EMPTY_LIST" "Ljava/util/ImmutableCollections$ListN;" (.ref el)) (em : Addr) (O_em : Sta Z Z.heap "java/util/ImmutableCollections" "EMPTY" "Ljava/lang/Object;" (.ref em)) (ws : List Jvm.Cond) (a : Addr) (h0 : Heap) (n0 : Nat) (Z0 : n0 ≤ h0.size) (Xo : Old Z n0 h0) (Ea : Exa Z h0 a "java/util/ArrayList") (Fs : Fld Z h0 a "java/util/ArrayList" "size" "I" (.int (0 : Int32))) :
    own_MetN l Z (⟨"java/util/ImmutableCollections", "listCopy", "(Ljava/util/Collection;)Ljava/util/List;"⟩ : MethodName) jdk_56_method_3_code 2 (some (.object "java/util/List")) ws ({ frames := 1, cells := 0, slots := 0, locals := 12 } : Room) #[(.ref a)] h0 (fun v h L => Fr n0 L ∧ Keep h0 h [] ∧ ((∃ (b : Addr), (v = some (.ref b))))) := by
  refine own_metN (plainFor_of_name own_pn14) ?_
  intro p e s m below meth c s₁ G hx hby hml hZ hown hnm hret X0 e0 go fin
  have N0 := Fr.nil n0
  refine go _ _ (fun _ k => castTop (own_ef_rmLc0 m a) k) ?_
  show G (s₁.setTop (mkF m 0 #[.val (.ref a), .unset] []))
  refine go _ _ (fun _ k => XS.aloadN X0.here hx rfl (hb hby own_d21_0) rfl rfl k) ?_
  show G (s₁.setTop (mkF m 1 #[.val (.ref a), .unset] [(.ref a)]))
  obtain ⟨T101, X101, e101, st101⟩ := instNo X0 hx hZ hown (ow hw 119 rfl) e0 Ea (own_NSno (ow hw 120 rfl) (ow hw 212 rfl) (NS.step (ow hw 120 rfl) (NS.step (ow hw 121 rfl) (NS.step (ow hw 122 rfl) (own_NSroot (ow hw 123 rfl) (ow hw 212 rfl) (by decide)) (by decide)) (by decide)) (by decide)) (by decide)) (g := (mkF m 1 #[.val (.ref a), .unset] [(.ref a)])) rfl rfl (hb hby own_d21_1)
  refine go _ _ (st101) ?_
  show G (T101.setTop (mkF m 4 #[.val (.ref a), .unset] [(.int (0 : Int32))]))
  refine go _ _ (fun _ k => XS.ifNo X101.here hx rfl (hb hby own_d21_4) rfl (by decide) k) ?_
  show G (T101.setTop (mkF m 7 #[.val (.ref a), .unset] []))
  refine go _ _ (fun _ k => XS.aloadN X101.here hx rfl (hb hby own_d21_7) rfl rfl k) ?_
  show G (T101.setTop (mkF m 8 #[.val (.ref a), .unset] [(.ref a)]))
  obtain ⟨T102, X102, e102, st102⟩ := instNo X101 hx hZ hown (ow hw 124 rfl) e101 Ea (own_NSno (ow hw 120 rfl) (ow hw 175 rfl) (NS.step (ow hw 120 rfl) (NS.step (ow hw 121 rfl) (NS.step (ow hw 122 rfl) (own_NSroot (ow hw 123 rfl) (ow hw 175 rfl) (by decide)) (by decide)) (by decide)) (by decide)) (by decide)) (g := (mkF m 8 #[.val (.ref a), .unset] [(.ref a)])) rfl rfl (hb hby own_d21_8)
  refine go _ _ (st102) ?_
  show G (T102.setTop (mkF m 11 #[.val (.ref a), .unset] [(.int (0 : Int32))]))
  refine go _ _ (fun _ k => XS.ifYes X102.here hx rfl (pc0 := 11) (pc' := 31) rfl (hb hby own_d21_11) rfl (by decide) (by decide) (by decide) k) ?_
  show G (T102.setTop (mkF m 31 #[.val (.ref a), .unset] []))
  refine go _ _ (fun _ k => XS.aloadN X102.here hx rfl (hb hby own_d21_31) rfl rfl k) ?_
  show G (T102.setTop (mkF m 32 #[.val (.ref a), .unset] [(.ref a)]))
  obtain ⟨rv103, T103, L103, X103, q103, st103⟩ := own_in X102 hx hZ (xi := (⟨"java/util/Collection", "isEmpty", "()Z"⟩ : MethodName)) (y := (⟨"java/util/ArrayList", "isEmpty", "()Z"⟩ : MethodName)) hown (ow hw 125 rfl) (ow hw 126 rfl) (ow hw 127 rfl) (ow hw 128 rfl) (ow hw 129 rfl) (ow hw 130 rfl) (ow hw 131 rfl) (ow hw 132 rfl) (by decide) (own_bkN (W := 0) (rm22 l Z a0 hw z0 O2 P5 dd kd O_dd V_dd mr M_mr el O_el em O_em [] a (0 : Int32) h0 n0 Z0 Fs) hZ (ow hw 133 rfl) (ow hw 2 rfl) (by decide) (by decide)) e102 Ea (g := (mkF m 32 #[.val (.ref a), .unset] [(.ref a)])) rfl (by rw [hml]; rfl) (argsL := []) (rest := []) rfl (lenOf own_pd15 rfl) rfl (by show 2 * 0 + _ ≤ _; exact Nat.le_of_eq rfl) (hb hby own_d21_32) (by decide) (by decide)
  obtain ⟨Nq103, e103, q103⟩ := q103
  have N103 := Fr.app N0 Nq103
  rcases q103 with ⟨rfl, p104⟩ | ⟨rfl, p105⟩
  · refine go _ _ (st103) ?_
    show G (T103.setTop (mkF m 37 #[.val (.ref a), .unset] [(.int (1 : Int32))]))
    refine go _ _ (fun _ k => XS.ifNo X103.here hx rfl (hb hby own_d21_37) rfl (by decide) k) ?_
    show G (T103.setTop (mkF m 40 #[.val (.ref a), .unset] []))
    obtain ⟨rv106, T106, L106, X106, q106, st106⟩ := own_st X103 hx hZ (y := (⟨"java/util/List", "of", "()Ljava/util/List;"⟩ : MethodName)) hown (ow hw 231 rfl) (ow hw 232 rfl) (ow hw 113 rfl) (ow hw 233 rfl) (by decide) (own_bkN (W := 0) (rm37 l Z a0 hw z0 O2 P5 dd kd O_dd V_dd mr M_mr el O_el em O_em [] h0 n0 Z0 Xo) hZ (ow hw 233 rfl) (ow hw 113 rfl) (by decide) (by decide)) e103 (g := (mkF m 40 #[.val (.ref a), .unset] [])) rfl (by rw [hml]; rfl) (argsL := []) (rest := []) rfl (lenOf own_pd16 rfl) rfl (by show 2 * 0 + _ ≤ _; exact Nat.le_of_eq rfl) (hb hby own_d21_40) (by decide) (by decide)
    obtain ⟨Nq106, e106, rfl⟩ := q106
    have N106 := Fr.app N103 Nq106
    refine go _ _ (st106) ?_
    show G (T106.setTop (mkF m 43 #[.val (.ref a), .unset] [(.ref el)]))
    refine fin T106 _ _ _ (some (.ref el)) X106 (fun q => nomatch q) (by decide) (by decide) (by rw [e106]; exact ⟨N106, (Keep.refl h0 []), ⟨el, rfl⟩⟩) _ (own_retA X106 hx hret rfl rfl rfl (hb hby own_d21_43))
  · exact absurd rfl p105
theorem own_d20_0 : decode jdk_40_method_48_code 0 = .ok (.aload_n 0, 1) := by decide +kernel
theorem own_d20_1 : decode jdk_40_method_48_code 1 = .ok (.invokestatic 112, 3) := by decide +kernel
theorem own_d20_4 : decode jdk_40_method_48_code 4 = .ok (.areturn, 1) := by decide +kernel
theorem own_pd17 : parseMethodDescriptor "(Ljava/util/Collection;)Ljava/util/List;" = some ⟨[(.object "java/util/Collection")], some (.object "java/util/List")⟩ := by decide +kernel
set_option maxHeartbeats 4000000 in
theorem own_ef_rmLy0 (m : MethodId) (x0 : Addr) : entryFrame m #[(.ref x0)] 1 = mkF m 0 #[.val (.ref x0)] [] := by rfl
set_option maxRecDepth 65536 in
set_option maxHeartbeats 40000000 in
theorem rmLy0 (l : Launch) (Z : State) (a0 : Array Value) (hw : ∀ d ∈ tables_1, d.before a0 Z = true) (z0 : Int32) (O2 : Sta Z Z.heap "java/lang/String" "COMPACT_STRINGS" "Z" (.int z0)) (P5 : ¬ z0 = (0 : Int32)) (dd : Addr) (kd : ClassId) (O_dd : Sta Z Z.heap "java/util/ArrayList" "DEFAULTCAPACITY_EMPTY_ELEMENTDATA" "[Ljava/lang/Object;" (.ref dd)) (V_dd : Arv Z Z.heap dd kd (.object "java/lang/Object") (0 : Int32) [] .null) (mr : Addr) (M_mr : own_Mir Z "[Ljava/lang/Object;" mr) (el : Addr) (O_el : Sta Z Z.heap "java/util/ImmutableCollections" "EMPTY_LIST" "Ljava/util/ImmutableCollections$ListN;" (.ref el)) (em : Addr) (O_em : Sta Z Z.heap "java/util/ImmutableCollections" "EMPTY" "Ljava/lang/Object;" (.ref em)) (ws : List Jvm.Cond) (a : Addr) (h0 : Heap) (n0 : Nat) (Z0 : n0 ≤ h0.size) (Xo : Old Z n0 h0) (Ea : Exa Z h0 a "java/util/ArrayList") (Fs : Fld Z h0 a "java/util/ArrayList" "size" "I" (.int (0 : Int32))) :
    own_MetN l Z (⟨"java/util/List", "copyOf", "(Ljava/util/Collection;)Ljava/util/List;"⟩ : MethodName) jdk_40_method_48_code 1 (some (.object "java/util/List")) ws ({ frames := 2, cells := 0, slots := 0, locals := 25 } : Room) #[(.ref a)] h0 (fun v h L => Fr n0 L ∧ Keep h0 h [] ∧ ((∃ (b : Addr), (v = some (.ref b))))) := by
  refine own_metN (plainFor_of_name own_pn13) ?_
  intro p e s m below meth c s₁ G hx hby hml hZ hown hnm hret X0 e0 go fin
  have N0 := Fr.nil n0
  refine go _ _ (fun _ k => castTop (own_ef_rmLy0 m a) k) ?_
  show G (s₁.setTop (mkF m 0 #[.val (.ref a)] []))
  refine go _ _ (fun _ k => XS.aloadN X0.here hx rfl (hb hby own_d20_0) rfl rfl k) ?_
  show G (s₁.setTop (mkF m 1 #[.val (.ref a)] [(.ref a)]))
  obtain ⟨rv101, T101, L101, X101, q101, st101⟩ := own_st X0 hx hZ (y := (⟨"java/util/ImmutableCollections", "listCopy", "(Ljava/util/Collection;)Ljava/util/List;"⟩ : MethodName)) hown (ow hw 115 rfl) (ow hw 116 rfl) (ow hw 117 rfl) (ow hw 118 rfl) (by decide) (own_bkN (W := 0) (rmLc0 l Z a0 hw z0 O2 P5 dd kd O_dd V_dd mr M_mr el O_el em O_em [] a h0 n0 Z0 Xo Ea Fs) hZ (ow hw 118 rfl) (ow hw 117 rfl) (by decide) (by decide)) e0 (g := (mkF m 1 #[.val (.ref a)] [(.ref a)])) rfl (by rw [hml]; rfl) (argsL := [(.ref a)]) (rest := []) rfl (lenOf own_pd17 rfl) rfl (by show 2 * 0 + _ ≤ _; exact Nat.le_of_eq rfl) (hb hby own_d20_1) (by decide) (by decide)
  obtain ⟨Nq101, Kp101, ⟨b_102, rfl⟩⟩ := q101
  have N101 := Fr.app N0 Nq101
  refine go _ _ (st101) ?_
  show G (T101.setTop (mkF m 4 #[.val (.ref a)] [(.ref b_102)]))
  have K103 : Keep h0 T101.heap [] := (Keep.refl h0 []).trans Kp101 all0
  refine fin T101 _ _ _ (some (.ref b_102)) X101 (fun q => nomatch q) (by decide) (by decide) ⟨N101, K103, ⟨b_102, rfl⟩⟩ _ (own_retA X101 hx hret rfl rfl rfl (hb hby own_d20_4))
set_option maxHeartbeats 4000000 in
theorem own_ef_rmLc1 (m : MethodId) (x0 : Addr) : entryFrame m #[(.ref x0)] 2 = mkF m 0 #[.val (.ref x0), .unset] [] := by rfl
set_option maxRecDepth 65536 in
set_option maxHeartbeats 40000000 in
theorem rmLc1 (l : Launch) (Z : State) (a0 : Array Value) (hw : ∀ d ∈ tables_1, d.before a0 Z = true) (z0 : Int32) (O2 : Sta Z Z.heap "java/lang/String" "COMPACT_STRINGS" "Z" (.int z0)) (P5 : ¬ z0 = (0 : Int32)) (dd : Addr) (kd : ClassId) (O_dd : Sta Z Z.heap "java/util/ArrayList" "DEFAULTCAPACITY_EMPTY_ELEMENTDATA" "[Ljava/lang/Object;" (.ref dd)) (V_dd : Arv Z Z.heap dd kd (.object "java/lang/Object") (0 : Int32) [] .null) (mr : Addr) (M_mr : own_Mir Z "[Ljava/lang/Object;" mr) (el : Addr) (O_el : Sta Z Z.heap "java/util/ImmutableCollections" "EMPTY_LIST" "Ljava/util/ImmutableCollections$ListN;" (.ref el)) (em : Addr) (O_em : Sta Z Z.heap "java/util/ImmutableCollections" "EMPTY" "Ljava/lang/Object;" (.ref em)) (ws : List Jvm.Cond) (a : Addr) (t : Addr) (kb : ClassId) (ee0 : Addr) (h0 : Heap) (n0 : Nat) (Z0 : n0 ≤ h0.size) (Xo : Old Z n0 h0) (Ea : Exa Z h0 a "java/util/ArrayList") (Fe : Fld Z h0 a "java/util/ArrayList" "elementData" "[Ljava/lang/Object;" (.ref t)) (Fs : Fld Z h0 a "java/util/ArrayList" "size" "I" (.int (1 : Int32))) (Et : Exa Z h0 t "[Ljava/lang/Object;") (At : Arv Z h0 t kb (.object "java/lang/Object") (10 : Int32) [(.ref ee0)] .null) (Eee0 : Exa Z h0 ee0 "java/lang/String") :
    own_MetN l Z (⟨"java/util/ImmutableCollections", "listCopy", "(Ljava/util/Collection;)Ljava/util/List;"⟩ : MethodName) jdk_56_method_3_code 2 (some (.object "java/util/List")) ws ({ frames := 6, cells := 2, slots := 3, locals := 75 } : Room) #[(.ref a)] h0 (fun v h L => Fr n0 L ∧ Keep h0 h [] ∧ ((∃ (b : Addr), (v = some (.ref b))))) := by
  refine own_metN (plainFor_of_name own_pn14) ?_
  intro p e s m below meth c s₁ G hx hby hml hZ hown hnm hret X0 e0 go fin
  have N0 := Fr.nil n0
  refine go _ _ (fun _ k => castTop (own_ef_rmLc1 m a) k) ?_
  show G (s₁.setTop (mkF m 0 #[.val (.ref a), .unset] []))
  refine go _ _ (fun _ k => XS.aloadN X0.here hx rfl (hb hby own_d21_0) rfl rfl k) ?_
  show G (s₁.setTop (mkF m 1 #[.val (.ref a), .unset] [(.ref a)]))
  obtain ⟨T101, X101, e101, st101⟩ := instNo X0 hx hZ hown (ow hw 119 rfl) e0 Ea (own_NSno (ow hw 120 rfl) (ow hw 212 rfl) (NS.step (ow hw 120 rfl) (NS.step (ow hw 121 rfl) (NS.step (ow hw 122 rfl) (own_NSroot (ow hw 123 rfl) (ow hw 212 rfl) (by decide)) (by decide)) (by decide)) (by decide)) (by decide)) (g := (mkF m 1 #[.val (.ref a), .unset] [(.ref a)])) rfl rfl (hb hby own_d21_1)
  refine go _ _ (st101) ?_
  show G (T101.setTop (mkF m 4 #[.val (.ref a), .unset] [(.int (0 : Int32))]))
  refine go _ _ (fun _ k => XS.ifNo X101.here hx rfl (hb hby own_d21_4) rfl (by decide) k) ?_
  show G (T101.setTop (mkF m 7 #[.val (.ref a), .unset] []))
  refine go _ _ (fun _ k => XS.aloadN X101.here hx rfl (hb hby own_d21_7) rfl rfl k) ?_
  show G (T101.setTop (mkF m 8 #[.val (.ref a), .unset] [(.ref a)]))
  obtain ⟨T102, X102, e102, st102⟩ := instNo X101 hx hZ hown (ow hw 124 rfl) e101 Ea (own_NSno (ow hw 120 rfl) (ow hw 175 rfl) (NS.step (ow hw 120 rfl) (NS.step (ow hw 121 rfl) (NS.step (ow hw 122 rfl) (own_NSroot (ow hw 123 rfl) (ow hw 175 rfl) (by decide)) (by decide)) (by decide)) (by decide)) (by decide)) (g := (mkF m 8 #[.val (.ref a), .unset] [(.ref a)])) rfl rfl (hb hby own_d21_8)
  refine go _ _ (st102) ?_
  show G (T102.setTop (mkF m 11 #[.val (.ref a), .unset] [(.int (0 : Int32))]))
  refine go _ _ (fun _ k => XS.ifYes X102.here hx rfl (pc0 := 11) (pc' := 31) rfl (hb hby own_d21_11) rfl (by decide) (by decide) (by decide) k) ?_
  show G (T102.setTop (mkF m 31 #[.val (.ref a), .unset] []))
  refine go _ _ (fun _ k => XS.aloadN X102.here hx rfl (hb hby own_d21_31) rfl rfl k) ?_
  show G (T102.setTop (mkF m 32 #[.val (.ref a), .unset] [(.ref a)]))
  obtain ⟨rv103, T103, L103, X103, q103, st103⟩ := own_in X102 hx hZ (xi := (⟨"java/util/Collection", "isEmpty", "()Z"⟩ : MethodName)) (y := (⟨"java/util/ArrayList", "isEmpty", "()Z"⟩ : MethodName)) hown (ow hw 125 rfl) (ow hw 126 rfl) (ow hw 127 rfl) (ow hw 128 rfl) (ow hw 129 rfl) (ow hw 130 rfl) (ow hw 131 rfl) (ow hw 132 rfl) (by decide) (own_bkN (W := 0) (rm22 l Z a0 hw z0 O2 P5 dd kd O_dd V_dd mr M_mr el O_el em O_em [] a (1 : Int32) h0 n0 Z0 Fs) hZ (ow hw 133 rfl) (ow hw 2 rfl) (by decide) (by decide)) e102 Ea (g := (mkF m 32 #[.val (.ref a), .unset] [(.ref a)])) rfl (by rw [hml]; rfl) (argsL := []) (rest := []) rfl (lenOf own_pd15 rfl) rfl (by show 2 * 0 + _ ≤ _; exact Nat.le_of_eq rfl) (hb hby own_d21_32) (by decide) (by decide)
  obtain ⟨Nq103, e103, q103⟩ := q103
  have N103 := Fr.app N0 Nq103
  rcases q103 with ⟨rfl, p104⟩ | ⟨rfl, p105⟩
  · exact absurd p104 (by decide)
  · refine go _ _ (st103) ?_
    show G (T103.setTop (mkF m 37 #[.val (.ref a), .unset] [(.int (0 : Int32))]))
    refine go _ _ (fun _ k => XS.ifYes X103.here hx rfl (pc0 := 37) (pc' := 44) rfl (hb hby own_d21_37) rfl (by decide) (by decide) (by decide) k) ?_
    show G (T103.setTop (mkF m 44 #[.val (.ref a), .unset] []))
    refine go _ _ (fun _ k => XS.aloadN X103.here hx rfl (hb hby own_d21_44) rfl rfl k) ?_
    show G (T103.setTop (mkF m 45 #[.val (.ref a), .unset] [(.ref a)]))
    obtain ⟨rv106, T106, L106, X106, q106, st106⟩ := own_in X103 hx hZ (xi := (⟨"java/util/Collection", "toArray", "()[Ljava/lang/Object;"⟩ : MethodName)) (y := (⟨"java/util/ArrayList", "toArray", "()[Ljava/lang/Object;"⟩ : MethodName)) hown (ow hw 134 rfl) (ow hw 135 rfl) (ow hw 136 rfl) (ow hw 137 rfl) (ow hw 138 rfl) (ow hw 139 rfl) (ow hw 140 rfl) (ow hw 132 rfl) (by decide) (own_bkN (W := 0) (rmTa1 l Z a0 hw z0 O2 P5 dd kd O_dd V_dd mr M_mr el O_el em O_em [] a t kb ee0 h0 n0 Z0 Et At Eee0 Fe Fs) hZ (ow hw 141 rfl) (ow hw 2 rfl) (by decide) (by decide)) e103 Ea (g := (mkF m 45 #[.val (.ref a), .unset] [(.ref a)])) rfl (by rw [hml]; rfl) (argsL := []) (rest := []) rfl (lenOf own_pd7 rfl) rfl (by show 2 * 0 + _ ≤ _; exact Nat.le_of_eq rfl) (hb hby own_d21_45) (by decide) (by decide)
    obtain ⟨Nq106, Kp106, ⟨b_107, kb2_108, rfl, z109, f110, f111, f112⟩⟩ := q106
    have N106 := Fr.app N103 Nq106
    refine go _ _ (st106) ?_
    show G (T106.setTop (mkF m 50 #[.val (.ref a), .unset] [(.ref b_107)]))
    have K114 : Keep h0 T106.heap [] := (Keep.refl h0 []).trans Kp106 all0
    have F115 : Old Z n0 T106.heap := (Xo.keep K114 all0)
    have F116 : Exa Z T106.heap ee0 "java/lang/String" := (Eee0.keep K114)
    have Z117 : h0.size ≤ T106.heap.size := Kp106.1
    obtain ⟨rv113, T113, L113, X113, q113, st113⟩ := own_st X106 hx hZ (y := (⟨"java/util/List", "of", "([Ljava/lang/Object;)Ljava/util/List;"⟩ : MethodName)) hown (ow hw 164 rfl) (ow hw 165 rfl) (ow hw 113 rfl) (ow hw 166 rfl) (by decide) (own_bkN (W := 0) (rmLo1 l Z a0 hw z0 O2 P5 dd kd O_dd V_dd mr M_mr el O_el em O_em [] b_107 kb2_108 ee0 T106.heap n0 (Nat.le_trans Z0 Z117) F115 f111 F116) hZ (ow hw 166 rfl) (ow hw 113 rfl) (by decide) (by decide)) rfl (g := (mkF m 50 #[.val (.ref a), .unset] [(.ref b_107)])) rfl (by rw [hml]; rfl) (argsL := [(.ref b_107)]) (rest := []) rfl (lenOf own_pd14 rfl) rfl (by show 2 * 0 + _ ≤ _; exact Nat.le_of_eq rfl) (hb hby own_d21_50) (by decide) (by decide)
    obtain ⟨Nq113, Kp113, ⟨b_118, rfl⟩⟩ := q113
    have N113 := Fr.app N106 Nq113
    refine go _ _ (st113) ?_
    show G (T113.setTop (mkF m 53 #[.val (.ref a), .unset] [(.ref b_118)]))
    have K119 : Keep h0 T113.heap [] := K114.trans Kp113 all0
    refine fin T113 _ _ _ (some (.ref b_118)) X113 (fun q => nomatch q) (by decide) (by decide) ⟨N113, K119, ⟨b_118, rfl⟩⟩ _ (own_retA X113 hx hret rfl rfl rfl (hb hby own_d21_53))
set_option maxHeartbeats 4000000 in
theorem own_ef_rmLy1 (m : MethodId) (x0 : Addr) : entryFrame m #[(.ref x0)] 1 = mkF m 0 #[.val (.ref x0)] [] := by rfl
set_option maxRecDepth 65536 in
set_option maxHeartbeats 40000000 in
theorem rmLy1 (l : Launch) (Z : State) (a0 : Array Value) (hw : ∀ d ∈ tables_1, d.before a0 Z = true) (z0 : Int32) (O2 : Sta Z Z.heap "java/lang/String" "COMPACT_STRINGS" "Z" (.int z0)) (P5 : ¬ z0 = (0 : Int32)) (dd : Addr) (kd : ClassId) (O_dd : Sta Z Z.heap "java/util/ArrayList" "DEFAULTCAPACITY_EMPTY_ELEMENTDATA" "[Ljava/lang/Object;" (.ref dd)) (V_dd : Arv Z Z.heap dd kd (.object "java/lang/Object") (0 : Int32) [] .null) (mr : Addr) (M_mr : own_Mir Z "[Ljava/lang/Object;" mr) (el : Addr) (O_el : Sta Z Z.heap "java/util/ImmutableCollections" "EMPTY_LIST" "Ljava/util/ImmutableCollections$ListN;" (.ref el)) (em : Addr) (O_em : Sta Z Z.heap "java/util/ImmutableCollections" "EMPTY" "Ljava/lang/Object;" (.ref em)) (ws : List Jvm.Cond) (a : Addr) (t : Addr) (kb : ClassId) (ee0 : Addr) (h0 : Heap) (n0 : Nat) (Z0 : n0 ≤ h0.size) (Xo : Old Z n0 h0) (Ea : Exa Z h0 a "java/util/ArrayList") (Fe : Fld Z h0 a "java/util/ArrayList" "elementData" "[Ljava/lang/Object;" (.ref t)) (Fs : Fld Z h0 a "java/util/ArrayList" "size" "I" (.int (1 : Int32))) (Et : Exa Z h0 t "[Ljava/lang/Object;") (At : Arv Z h0 t kb (.object "java/lang/Object") (10 : Int32) [(.ref ee0)] .null) (Eee0 : Exa Z h0 ee0 "java/lang/String") :
    own_MetN l Z (⟨"java/util/List", "copyOf", "(Ljava/util/Collection;)Ljava/util/List;"⟩ : MethodName) jdk_40_method_48_code 1 (some (.object "java/util/List")) ws ({ frames := 7, cells := 2, slots := 3, locals := 88 } : Room) #[(.ref a)] h0 (fun v h L => Fr n0 L ∧ Keep h0 h [] ∧ ((∃ (b : Addr), (v = some (.ref b))))) := by
  refine own_metN (plainFor_of_name own_pn13) ?_
  intro p e s m below meth c s₁ G hx hby hml hZ hown hnm hret X0 e0 go fin
  have N0 := Fr.nil n0
  refine go _ _ (fun _ k => castTop (own_ef_rmLy1 m a) k) ?_
  show G (s₁.setTop (mkF m 0 #[.val (.ref a)] []))
  refine go _ _ (fun _ k => XS.aloadN X0.here hx rfl (hb hby own_d20_0) rfl rfl k) ?_
  show G (s₁.setTop (mkF m 1 #[.val (.ref a)] [(.ref a)]))
  obtain ⟨rv101, T101, L101, X101, q101, st101⟩ := own_st X0 hx hZ (y := (⟨"java/util/ImmutableCollections", "listCopy", "(Ljava/util/Collection;)Ljava/util/List;"⟩ : MethodName)) hown (ow hw 115 rfl) (ow hw 116 rfl) (ow hw 117 rfl) (ow hw 118 rfl) (by decide) (own_bkN (W := 0) (rmLc1 l Z a0 hw z0 O2 P5 dd kd O_dd V_dd mr M_mr el O_el em O_em [] a t kb ee0 h0 n0 Z0 Xo Ea Fe Fs Et At Eee0) hZ (ow hw 118 rfl) (ow hw 117 rfl) (by decide) (by decide)) e0 (g := (mkF m 1 #[.val (.ref a)] [(.ref a)])) rfl (by rw [hml]; rfl) (argsL := [(.ref a)]) (rest := []) rfl (lenOf own_pd17 rfl) rfl (by show 2 * 0 + _ ≤ _; exact Nat.le_of_eq rfl) (hb hby own_d20_1) (by decide) (by decide)
  obtain ⟨Nq101, Kp101, ⟨b_102, rfl⟩⟩ := q101
  have N101 := Fr.app N0 Nq101
  refine go _ _ (st101) ?_
  show G (T101.setTop (mkF m 4 #[.val (.ref a)] [(.ref b_102)]))
  have K103 : Keep h0 T101.heap [] := (Keep.refl h0 []).trans Kp101 all0
  refine fin T101 _ _ _ (some (.ref b_102)) X101 (fun q => nomatch q) (by decide) (by decide) ⟨N101, K103, ⟨b_102, rfl⟩⟩ _ (own_retA X101 hx hret rfl rfl rfl (hb hby own_d20_4))
set_option maxHeartbeats 4000000 in
theorem own_ef_rmLc2 (m : MethodId) (x0 : Addr) : entryFrame m #[(.ref x0)] 2 = mkF m 0 #[.val (.ref x0), .unset] [] := by rfl
set_option maxRecDepth 65536 in
set_option maxHeartbeats 40000000 in
theorem rmLc2 (l : Launch) (Z : State) (a0 : Array Value) (hw : ∀ d ∈ tables_1, d.before a0 Z = true) (z0 : Int32) (O2 : Sta Z Z.heap "java/lang/String" "COMPACT_STRINGS" "Z" (.int z0)) (P5 : ¬ z0 = (0 : Int32)) (dd : Addr) (kd : ClassId) (O_dd : Sta Z Z.heap "java/util/ArrayList" "DEFAULTCAPACITY_EMPTY_ELEMENTDATA" "[Ljava/lang/Object;" (.ref dd)) (V_dd : Arv Z Z.heap dd kd (.object "java/lang/Object") (0 : Int32) [] .null) (mr : Addr) (M_mr : own_Mir Z "[Ljava/lang/Object;" mr) (el : Addr) (O_el : Sta Z Z.heap "java/util/ImmutableCollections" "EMPTY_LIST" "Ljava/util/ImmutableCollections$ListN;" (.ref el)) (em : Addr) (O_em : Sta Z Z.heap "java/util/ImmutableCollections" "EMPTY" "Ljava/lang/Object;" (.ref em)) (ws : List Jvm.Cond) (a : Addr) (t : Addr) (kb : ClassId) (ee0 : Addr) (ee1 : Addr) (h0 : Heap) (n0 : Nat) (Z0 : n0 ≤ h0.size) (Xo : Old Z n0 h0) (Ea : Exa Z h0 a "java/util/ArrayList") (Fe : Fld Z h0 a "java/util/ArrayList" "elementData" "[Ljava/lang/Object;" (.ref t)) (Fs : Fld Z h0 a "java/util/ArrayList" "size" "I" (.int (2 : Int32))) (Et : Exa Z h0 t "[Ljava/lang/Object;") (At : Arv Z h0 t kb (.object "java/lang/Object") (10 : Int32) [(.ref ee0), (.ref ee1)] .null) (Eee0 : Exa Z h0 ee0 "java/lang/String") (Eee1 : Exa Z h0 ee1 "java/lang/String") :
    own_MetN l Z (⟨"java/util/ImmutableCollections", "listCopy", "(Ljava/util/Collection;)Ljava/util/List;"⟩ : MethodName) jdk_56_method_3_code 2 (some (.object "java/util/List")) ws ({ frames := 6, cells := 2, slots := 4, locals := 76 } : Room) #[(.ref a)] h0 (fun v h L => Fr n0 L ∧ Keep h0 h [] ∧ ((∃ (b : Addr), (v = some (.ref b))))) := by
  refine own_metN (plainFor_of_name own_pn14) ?_
  intro p e s m below meth c s₁ G hx hby hml hZ hown hnm hret X0 e0 go fin
  have N0 := Fr.nil n0
  refine go _ _ (fun _ k => castTop (own_ef_rmLc2 m a) k) ?_
  show G (s₁.setTop (mkF m 0 #[.val (.ref a), .unset] []))
  refine go _ _ (fun _ k => XS.aloadN X0.here hx rfl (hb hby own_d21_0) rfl rfl k) ?_
  show G (s₁.setTop (mkF m 1 #[.val (.ref a), .unset] [(.ref a)]))
  obtain ⟨T101, X101, e101, st101⟩ := instNo X0 hx hZ hown (ow hw 119 rfl) e0 Ea (own_NSno (ow hw 120 rfl) (ow hw 212 rfl) (NS.step (ow hw 120 rfl) (NS.step (ow hw 121 rfl) (NS.step (ow hw 122 rfl) (own_NSroot (ow hw 123 rfl) (ow hw 212 rfl) (by decide)) (by decide)) (by decide)) (by decide)) (by decide)) (g := (mkF m 1 #[.val (.ref a), .unset] [(.ref a)])) rfl rfl (hb hby own_d21_1)
  refine go _ _ (st101) ?_
  show G (T101.setTop (mkF m 4 #[.val (.ref a), .unset] [(.int (0 : Int32))]))
  refine go _ _ (fun _ k => XS.ifNo X101.here hx rfl (hb hby own_d21_4) rfl (by decide) k) ?_
  show G (T101.setTop (mkF m 7 #[.val (.ref a), .unset] []))
  refine go _ _ (fun _ k => XS.aloadN X101.here hx rfl (hb hby own_d21_7) rfl rfl k) ?_
  show G (T101.setTop (mkF m 8 #[.val (.ref a), .unset] [(.ref a)]))
  obtain ⟨T102, X102, e102, st102⟩ := instNo X101 hx hZ hown (ow hw 124 rfl) e101 Ea (own_NSno (ow hw 120 rfl) (ow hw 175 rfl) (NS.step (ow hw 120 rfl) (NS.step (ow hw 121 rfl) (NS.step (ow hw 122 rfl) (own_NSroot (ow hw 123 rfl) (ow hw 175 rfl) (by decide)) (by decide)) (by decide)) (by decide)) (by decide)) (g := (mkF m 8 #[.val (.ref a), .unset] [(.ref a)])) rfl rfl (hb hby own_d21_8)
  refine go _ _ (st102) ?_
  show G (T102.setTop (mkF m 11 #[.val (.ref a), .unset] [(.int (0 : Int32))]))
  refine go _ _ (fun _ k => XS.ifYes X102.here hx rfl (pc0 := 11) (pc' := 31) rfl (hb hby own_d21_11) rfl (by decide) (by decide) (by decide) k) ?_
  show G (T102.setTop (mkF m 31 #[.val (.ref a), .unset] []))
  refine go _ _ (fun _ k => XS.aloadN X102.here hx rfl (hb hby own_d21_31) rfl rfl k) ?_
  show G (T102.setTop (mkF m 32 #[.val (.ref a), .unset] [(.ref a)]))
  obtain ⟨rv103, T103, L103, X103, q103, st103⟩ := own_in X102 hx hZ (xi := (⟨"java/util/Collection", "isEmpty", "()Z"⟩ : MethodName)) (y := (⟨"java/util/ArrayList", "isEmpty", "()Z"⟩ : MethodName)) hown (ow hw 125 rfl) (ow hw 126 rfl) (ow hw 127 rfl) (ow hw 128 rfl) (ow hw 129 rfl) (ow hw 130 rfl) (ow hw 131 rfl) (ow hw 132 rfl) (by decide) (own_bkN (W := 0) (rm22 l Z a0 hw z0 O2 P5 dd kd O_dd V_dd mr M_mr el O_el em O_em [] a (2 : Int32) h0 n0 Z0 Fs) hZ (ow hw 133 rfl) (ow hw 2 rfl) (by decide) (by decide)) e102 Ea (g := (mkF m 32 #[.val (.ref a), .unset] [(.ref a)])) rfl (by rw [hml]; rfl) (argsL := []) (rest := []) rfl (lenOf own_pd15 rfl) rfl (by show 2 * 0 + _ ≤ _; exact Nat.le_of_eq rfl) (hb hby own_d21_32) (by decide) (by decide)
  obtain ⟨Nq103, e103, q103⟩ := q103
  have N103 := Fr.app N0 Nq103
  rcases q103 with ⟨rfl, p104⟩ | ⟨rfl, p105⟩
  · exact absurd p104 (by decide)
  · refine go _ _ (st103) ?_
    show G (T103.setTop (mkF m 37 #[.val (.ref a), .unset] [(.int (0 : Int32))]))
    refine go _ _ (fun _ k => XS.ifYes X103.here hx rfl (pc0 := 37) (pc' := 44) rfl (hb hby own_d21_37) rfl (by decide) (by decide) (by decide) k) ?_
    show G (T103.setTop (mkF m 44 #[.val (.ref a), .unset] []))
    refine go _ _ (fun _ k => XS.aloadN X103.here hx rfl (hb hby own_d21_44) rfl rfl k) ?_
    show G (T103.setTop (mkF m 45 #[.val (.ref a), .unset] [(.ref a)]))
    obtain ⟨rv106, T106, L106, X106, q106, st106⟩ := own_in X103 hx hZ (xi := (⟨"java/util/Collection", "toArray", "()[Ljava/lang/Object;"⟩ : MethodName)) (y := (⟨"java/util/ArrayList", "toArray", "()[Ljava/lang/Object;"⟩ : MethodName)) hown (ow hw 134 rfl) (ow hw 135 rfl) (ow hw 136 rfl) (ow hw 137 rfl) (ow hw 138 rfl) (ow hw 139 rfl) (ow hw 140 rfl) (ow hw 132 rfl) (by decide) (own_bkN (W := 0) (rmTa2 l Z a0 hw z0 O2 P5 dd kd O_dd V_dd mr M_mr el O_el em O_em [] a t kb ee0 ee1 h0 n0 Z0 Et At Eee0 Eee1 Fe Fs) hZ (ow hw 141 rfl) (ow hw 2 rfl) (by decide) (by decide)) e103 Ea (g := (mkF m 45 #[.val (.ref a), .unset] [(.ref a)])) rfl (by rw [hml]; rfl) (argsL := []) (rest := []) rfl (lenOf own_pd7 rfl) rfl (by show 2 * 0 + _ ≤ _; exact Nat.le_of_eq rfl) (hb hby own_d21_45) (by decide) (by decide)
    obtain ⟨Nq106, Kp106, ⟨b_107, kb2_108, rfl, z109, f110, f111, f112⟩⟩ := q106
    have N106 := Fr.app N103 Nq106
    refine go _ _ (st106) ?_
    show G (T106.setTop (mkF m 50 #[.val (.ref a), .unset] [(.ref b_107)]))
    have K114 : Keep h0 T106.heap [] := (Keep.refl h0 []).trans Kp106 all0
    have F115 : Old Z n0 T106.heap := (Xo.keep K114 all0)
    have F116 : Exa Z T106.heap ee0 "java/lang/String" := (Eee0.keep K114)
    have F117 : Exa Z T106.heap ee1 "java/lang/String" := (Eee1.keep K114)
    have Z118 : h0.size ≤ T106.heap.size := Kp106.1
    obtain ⟨rv113, T113, L113, X113, q113, st113⟩ := own_st X106 hx hZ (y := (⟨"java/util/List", "of", "([Ljava/lang/Object;)Ljava/util/List;"⟩ : MethodName)) hown (ow hw 164 rfl) (ow hw 165 rfl) (ow hw 113 rfl) (ow hw 166 rfl) (by decide) (own_bkN (W := 0) (rmLo2 l Z a0 hw z0 O2 P5 dd kd O_dd V_dd mr M_mr el O_el em O_em [] b_107 kb2_108 ee0 ee1 T106.heap n0 (Nat.le_trans Z0 Z118) F115 f111 F116 F117) hZ (ow hw 166 rfl) (ow hw 113 rfl) (by decide) (by decide)) rfl (g := (mkF m 50 #[.val (.ref a), .unset] [(.ref b_107)])) rfl (by rw [hml]; rfl) (argsL := [(.ref b_107)]) (rest := []) rfl (lenOf own_pd14 rfl) rfl (by show 2 * 0 + _ ≤ _; exact Nat.le_of_eq rfl) (hb hby own_d21_50) (by decide) (by decide)
    obtain ⟨Nq113, Kp113, ⟨b_119, rfl⟩⟩ := q113
    have N113 := Fr.app N106 Nq113
    refine go _ _ (st113) ?_
    show G (T113.setTop (mkF m 53 #[.val (.ref a), .unset] [(.ref b_119)]))
    have K120 : Keep h0 T113.heap [] := K114.trans Kp113 all0
    refine fin T113 _ _ _ (some (.ref b_119)) X113 (fun q => nomatch q) (by decide) (by decide) ⟨N113, K120, ⟨b_119, rfl⟩⟩ _ (own_retA X113 hx hret rfl rfl rfl (hb hby own_d21_53))
set_option maxHeartbeats 4000000 in
theorem own_ef_rmLy2 (m : MethodId) (x0 : Addr) : entryFrame m #[(.ref x0)] 1 = mkF m 0 #[.val (.ref x0)] [] := by rfl
set_option maxRecDepth 65536 in
set_option maxHeartbeats 40000000 in
theorem rmLy2 (l : Launch) (Z : State) (a0 : Array Value) (hw : ∀ d ∈ tables_1, d.before a0 Z = true) (z0 : Int32) (O2 : Sta Z Z.heap "java/lang/String" "COMPACT_STRINGS" "Z" (.int z0)) (P5 : ¬ z0 = (0 : Int32)) (dd : Addr) (kd : ClassId) (O_dd : Sta Z Z.heap "java/util/ArrayList" "DEFAULTCAPACITY_EMPTY_ELEMENTDATA" "[Ljava/lang/Object;" (.ref dd)) (V_dd : Arv Z Z.heap dd kd (.object "java/lang/Object") (0 : Int32) [] .null) (mr : Addr) (M_mr : own_Mir Z "[Ljava/lang/Object;" mr) (el : Addr) (O_el : Sta Z Z.heap "java/util/ImmutableCollections" "EMPTY_LIST" "Ljava/util/ImmutableCollections$ListN;" (.ref el)) (em : Addr) (O_em : Sta Z Z.heap "java/util/ImmutableCollections" "EMPTY" "Ljava/lang/Object;" (.ref em)) (ws : List Jvm.Cond) (a : Addr) (t : Addr) (kb : ClassId) (ee0 : Addr) (ee1 : Addr) (h0 : Heap) (n0 : Nat) (Z0 : n0 ≤ h0.size) (Xo : Old Z n0 h0) (Ea : Exa Z h0 a "java/util/ArrayList") (Fe : Fld Z h0 a "java/util/ArrayList" "elementData" "[Ljava/lang/Object;" (.ref t)) (Fs : Fld Z h0 a "java/util/ArrayList" "size" "I" (.int (2 : Int32))) (Et : Exa Z h0 t "[Ljava/lang/Object;") (At : Arv Z h0 t kb (.object "java/lang/Object") (10 : Int32) [(.ref ee0), (.ref ee1)] .null) (Eee0 : Exa Z h0 ee0 "java/lang/String") (Eee1 : Exa Z h0 ee1 "java/lang/String") :
    own_MetN l Z (⟨"java/util/List", "copyOf", "(Ljava/util/Collection;)Ljava/util/List;"⟩ : MethodName) jdk_40_method_48_code 1 (some (.object "java/util/List")) ws ({ frames := 7, cells := 2, slots := 4, locals := 89 } : Room) #[(.ref a)] h0 (fun v h L => Fr n0 L ∧ Keep h0 h [] ∧ ((∃ (b : Addr), (v = some (.ref b))))) := by
  refine own_metN (plainFor_of_name own_pn13) ?_
  intro p e s m below meth c s₁ G hx hby hml hZ hown hnm hret X0 e0 go fin
  have N0 := Fr.nil n0
  refine go _ _ (fun _ k => castTop (own_ef_rmLy2 m a) k) ?_
  show G (s₁.setTop (mkF m 0 #[.val (.ref a)] []))
  refine go _ _ (fun _ k => XS.aloadN X0.here hx rfl (hb hby own_d20_0) rfl rfl k) ?_
  show G (s₁.setTop (mkF m 1 #[.val (.ref a)] [(.ref a)]))
  obtain ⟨rv101, T101, L101, X101, q101, st101⟩ := own_st X0 hx hZ (y := (⟨"java/util/ImmutableCollections", "listCopy", "(Ljava/util/Collection;)Ljava/util/List;"⟩ : MethodName)) hown (ow hw 115 rfl) (ow hw 116 rfl) (ow hw 117 rfl) (ow hw 118 rfl) (by decide) (own_bkN (W := 0) (rmLc2 l Z a0 hw z0 O2 P5 dd kd O_dd V_dd mr M_mr el O_el em O_em [] a t kb ee0 ee1 h0 n0 Z0 Xo Ea Fe Fs Et At Eee0 Eee1) hZ (ow hw 118 rfl) (ow hw 117 rfl) (by decide) (by decide)) e0 (g := (mkF m 1 #[.val (.ref a)] [(.ref a)])) rfl (by rw [hml]; rfl) (argsL := [(.ref a)]) (rest := []) rfl (lenOf own_pd17 rfl) rfl (by show 2 * 0 + _ ≤ _; exact Nat.le_of_eq rfl) (hb hby own_d20_1) (by decide) (by decide)
  obtain ⟨Nq101, Kp101, ⟨b_102, rfl⟩⟩ := q101
  have N101 := Fr.app N0 Nq101
  refine go _ _ (st101) ?_
  show G (T101.setTop (mkF m 4 #[.val (.ref a)] [(.ref b_102)]))
  have K103 : Keep h0 T101.heap [] := (Keep.refl h0 []).trans Kp101 all0
  refine fin T101 _ _ _ (some (.ref b_102)) X101 (fun q => nomatch q) (by decide) (by decide) ⟨N101, K103, ⟨b_102, rfl⟩⟩ _ (own_retA X101 hx hret rfl rfl rfl (hb hby own_d20_4))
set_option maxHeartbeats 4000000 in
theorem own_ef_rmLc3 (m : MethodId) (x0 : Addr) : entryFrame m #[(.ref x0)] 2 = mkF m 0 #[.val (.ref x0), .unset] [] := by rfl
set_option maxRecDepth 65536 in
set_option maxHeartbeats 40000000 in
theorem rmLc3 (l : Launch) (Z : State) (a0 : Array Value) (hw : ∀ d ∈ tables_1, d.before a0 Z = true) (z0 : Int32) (O2 : Sta Z Z.heap "java/lang/String" "COMPACT_STRINGS" "Z" (.int z0)) (P5 : ¬ z0 = (0 : Int32)) (dd : Addr) (kd : ClassId) (O_dd : Sta Z Z.heap "java/util/ArrayList" "DEFAULTCAPACITY_EMPTY_ELEMENTDATA" "[Ljava/lang/Object;" (.ref dd)) (V_dd : Arv Z Z.heap dd kd (.object "java/lang/Object") (0 : Int32) [] .null) (mr : Addr) (M_mr : own_Mir Z "[Ljava/lang/Object;" mr) (el : Addr) (O_el : Sta Z Z.heap "java/util/ImmutableCollections" "EMPTY_LIST" "Ljava/util/ImmutableCollections$ListN;" (.ref el)) (em : Addr) (O_em : Sta Z Z.heap "java/util/ImmutableCollections" "EMPTY" "Ljava/lang/Object;" (.ref em)) (ws : List Jvm.Cond) (a : Addr) (t : Addr) (kb : ClassId) (ee0 : Addr) (ee1 : Addr) (ee2 : Addr) (h0 : Heap) (n0 : Nat) (Z0 : n0 ≤ h0.size) (Xo : Old Z n0 h0) (Ea : Exa Z h0 a "java/util/ArrayList") (Fe : Fld Z h0 a "java/util/ArrayList" "elementData" "[Ljava/lang/Object;" (.ref t)) (Fs : Fld Z h0 a "java/util/ArrayList" "size" "I" (.int (3 : Int32))) (Et : Exa Z h0 t "[Ljava/lang/Object;") (At : Arv Z h0 t kb (.object "java/lang/Object") (10 : Int32) [(.ref ee0), (.ref ee1), (.ref ee2)] .null) (Eee0 : Exa Z h0 ee0 "java/lang/String") (Eee1 : Exa Z h0 ee1 "java/lang/String") (Eee2 : Exa Z h0 ee2 "java/lang/String") :
    own_MetN l Z (⟨"java/util/ImmutableCollections", "listCopy", "(Ljava/util/Collection;)Ljava/util/List;"⟩ : MethodName) jdk_56_method_3_code 2 (some (.object "java/util/List")) ws ({ frames := 7, cells := 3, slots := 8, locals := 90 } : Room) #[(.ref a)] h0 (fun v h L => Fr n0 L ∧ Keep h0 h [] ∧ ((∃ (b : Addr), (v = some (.ref b))))) := by
  refine own_metN (plainFor_of_name own_pn14) ?_
  intro p e s m below meth c s₁ G hx hby hml hZ hown hnm hret X0 e0 go fin
  have N0 := Fr.nil n0
  refine go _ _ (fun _ k => castTop (own_ef_rmLc3 m a) k) ?_
  show G (s₁.setTop (mkF m 0 #[.val (.ref a), .unset] []))
  refine go _ _ (fun _ k => XS.aloadN X0.here hx rfl (hb hby own_d21_0) rfl rfl k) ?_
  show G (s₁.setTop (mkF m 1 #[.val (.ref a), .unset] [(.ref a)]))
  obtain ⟨T101, X101, e101, st101⟩ := instNo X0 hx hZ hown (ow hw 119 rfl) e0 Ea (own_NSno (ow hw 120 rfl) (ow hw 212 rfl) (NS.step (ow hw 120 rfl) (NS.step (ow hw 121 rfl) (NS.step (ow hw 122 rfl) (own_NSroot (ow hw 123 rfl) (ow hw 212 rfl) (by decide)) (by decide)) (by decide)) (by decide)) (by decide)) (g := (mkF m 1 #[.val (.ref a), .unset] [(.ref a)])) rfl rfl (hb hby own_d21_1)
  refine go _ _ (st101) ?_
  show G (T101.setTop (mkF m 4 #[.val (.ref a), .unset] [(.int (0 : Int32))]))
  refine go _ _ (fun _ k => XS.ifNo X101.here hx rfl (hb hby own_d21_4) rfl (by decide) k) ?_
  show G (T101.setTop (mkF m 7 #[.val (.ref a), .unset] []))
  refine go _ _ (fun _ k => XS.aloadN X101.here hx rfl (hb hby own_d21_7) rfl rfl k) ?_
  show G (T101.setTop (mkF m 8 #[.val (.ref a), .unset] [(.ref a)]))
  obtain ⟨T102, X102, e102, st102⟩ := instNo X101 hx hZ hown (ow hw 124 rfl) e101 Ea (own_NSno (ow hw 120 rfl) (ow hw 175 rfl) (NS.step (ow hw 120 rfl) (NS.step (ow hw 121 rfl) (NS.step (ow hw 122 rfl) (own_NSroot (ow hw 123 rfl) (ow hw 175 rfl) (by decide)) (by decide)) (by decide)) (by decide)) (by decide)) (g := (mkF m 8 #[.val (.ref a), .unset] [(.ref a)])) rfl rfl (hb hby own_d21_8)
  refine go _ _ (st102) ?_
  show G (T102.setTop (mkF m 11 #[.val (.ref a), .unset] [(.int (0 : Int32))]))
  refine go _ _ (fun _ k => XS.ifYes X102.here hx rfl (pc0 := 11) (pc' := 31) rfl (hb hby own_d21_11) rfl (by decide) (by decide) (by decide) k) ?_
  show G (T102.setTop (mkF m 31 #[.val (.ref a), .unset] []))
  refine go _ _ (fun _ k => XS.aloadN X102.here hx rfl (hb hby own_d21_31) rfl rfl k) ?_
  show G (T102.setTop (mkF m 32 #[.val (.ref a), .unset] [(.ref a)]))
  obtain ⟨rv103, T103, L103, X103, q103, st103⟩ := own_in X102 hx hZ (xi := (⟨"java/util/Collection", "isEmpty", "()Z"⟩ : MethodName)) (y := (⟨"java/util/ArrayList", "isEmpty", "()Z"⟩ : MethodName)) hown (ow hw 125 rfl) (ow hw 126 rfl) (ow hw 127 rfl) (ow hw 128 rfl) (ow hw 129 rfl) (ow hw 130 rfl) (ow hw 131 rfl) (ow hw 132 rfl) (by decide) (own_bkN (W := 0) (rm22 l Z a0 hw z0 O2 P5 dd kd O_dd V_dd mr M_mr el O_el em O_em [] a (3 : Int32) h0 n0 Z0 Fs) hZ (ow hw 133 rfl) (ow hw 2 rfl) (by decide) (by decide)) e102 Ea (g := (mkF m 32 #[.val (.ref a), .unset] [(.ref a)])) rfl (by rw [hml]; rfl) (argsL := []) (rest := []) rfl (lenOf own_pd15 rfl) rfl (by show 2 * 0 + _ ≤ _; exact Nat.le_of_eq rfl) (hb hby own_d21_32) (by decide) (by decide)
  obtain ⟨Nq103, e103, q103⟩ := q103
  have N103 := Fr.app N0 Nq103
  rcases q103 with ⟨rfl, p104⟩ | ⟨rfl, p105⟩
  · exact absurd p104 (by decide)
  · refine go _ _ (st103) ?_
    show G (T103.setTop (mkF m 37 #[.val (.ref a), .unset] [(.int (0 : Int32))]))
    refine go _ _ (fun _ k => XS.ifYes X103.here hx rfl (pc0 := 37) (pc' := 44) rfl (hb hby own_d21_37) rfl (by decide) (by decide) (by decide) k) ?_
    show G (T103.setTop (mkF m 44 #[.val (.ref a), .unset] []))
    refine go _ _ (fun _ k => XS.aloadN X103.here hx rfl (hb hby own_d21_44) rfl rfl k) ?_
    show G (T103.setTop (mkF m 45 #[.val (.ref a), .unset] [(.ref a)]))
    obtain ⟨rv106, T106, L106, X106, q106, st106⟩ := own_in X103 hx hZ (xi := (⟨"java/util/Collection", "toArray", "()[Ljava/lang/Object;"⟩ : MethodName)) (y := (⟨"java/util/ArrayList", "toArray", "()[Ljava/lang/Object;"⟩ : MethodName)) hown (ow hw 134 rfl) (ow hw 135 rfl) (ow hw 136 rfl) (ow hw 137 rfl) (ow hw 138 rfl) (ow hw 139 rfl) (ow hw 140 rfl) (ow hw 132 rfl) (by decide) (own_bkN (W := 0) (rmTa3 l Z a0 hw z0 O2 P5 dd kd O_dd V_dd mr M_mr el O_el em O_em [] a t kb ee0 ee1 ee2 h0 n0 Z0 Et At Eee0 Eee1 Eee2 Fe Fs) hZ (ow hw 141 rfl) (ow hw 2 rfl) (by decide) (by decide)) e103 Ea (g := (mkF m 45 #[.val (.ref a), .unset] [(.ref a)])) rfl (by rw [hml]; rfl) (argsL := []) (rest := []) rfl (lenOf own_pd7 rfl) rfl (by show 2 * 0 + _ ≤ _; exact Nat.le_of_eq rfl) (hb hby own_d21_45) (by decide) (by decide)
    obtain ⟨Nq106, Kp106, ⟨b_107, kb2_108, rfl, z109, f110, f111, f112⟩⟩ := q106
    have N106 := Fr.app N103 Nq106
    refine go _ _ (st106) ?_
    show G (T106.setTop (mkF m 50 #[.val (.ref a), .unset] [(.ref b_107)]))
    have K114 : Keep h0 T106.heap [] := (Keep.refl h0 []).trans Kp106 all0
    have F115 : Old Z n0 T106.heap := (Xo.keep K114 all0)
    have F116 : Exa Z T106.heap ee0 "java/lang/String" := (Eee0.keep K114)
    have F117 : Exa Z T106.heap ee1 "java/lang/String" := (Eee1.keep K114)
    have F118 : Exa Z T106.heap ee2 "java/lang/String" := (Eee2.keep K114)
    have Z119 : h0.size ≤ T106.heap.size := Kp106.1
    obtain ⟨rv113, T113, L113, X113, q113, st113⟩ := own_st X106 hx hZ (y := (⟨"java/util/List", "of", "([Ljava/lang/Object;)Ljava/util/List;"⟩ : MethodName)) hown (ow hw 164 rfl) (ow hw 165 rfl) (ow hw 113 rfl) (ow hw 166 rfl) (by decide) (own_bkN (W := 0) (rmLo3 l Z a0 hw z0 O2 P5 dd kd O_dd V_dd mr M_mr el O_el em O_em [] b_107 kb2_108 ee0 ee1 ee2 T106.heap n0 (Nat.le_trans Z0 Z119) F115 f111 F116 F117 F118) hZ (ow hw 166 rfl) (ow hw 113 rfl) (by decide) (by decide)) rfl (g := (mkF m 50 #[.val (.ref a), .unset] [(.ref b_107)])) rfl (by rw [hml]; rfl) (argsL := [(.ref b_107)]) (rest := []) rfl (lenOf own_pd14 rfl) rfl (by show 2 * 0 + _ ≤ _; exact Nat.le_of_eq rfl) (hb hby own_d21_50) (by decide) (by decide)
    obtain ⟨Nq113, Kp113, ⟨b_120, rfl⟩⟩ := q113
    have N113 := Fr.app N106 Nq113
    refine go _ _ (st113) ?_
    show G (T113.setTop (mkF m 53 #[.val (.ref a), .unset] [(.ref b_120)]))
    have K121 : Keep h0 T113.heap [] := K114.trans Kp113 all0
    refine fin T113 _ _ _ (some (.ref b_120)) X113 (fun q => nomatch q) (by decide) (by decide) ⟨N113, K121, ⟨b_120, rfl⟩⟩ _ (own_retA X113 hx hret rfl rfl rfl (hb hby own_d21_53))
set_option maxHeartbeats 4000000 in
theorem own_ef_rmLy3 (m : MethodId) (x0 : Addr) : entryFrame m #[(.ref x0)] 1 = mkF m 0 #[.val (.ref x0)] [] := by rfl
set_option maxRecDepth 65536 in
set_option maxHeartbeats 40000000 in
theorem rmLy3 (l : Launch) (Z : State) (a0 : Array Value) (hw : ∀ d ∈ tables_1, d.before a0 Z = true) (z0 : Int32) (O2 : Sta Z Z.heap "java/lang/String" "COMPACT_STRINGS" "Z" (.int z0)) (P5 : ¬ z0 = (0 : Int32)) (dd : Addr) (kd : ClassId) (O_dd : Sta Z Z.heap "java/util/ArrayList" "DEFAULTCAPACITY_EMPTY_ELEMENTDATA" "[Ljava/lang/Object;" (.ref dd)) (V_dd : Arv Z Z.heap dd kd (.object "java/lang/Object") (0 : Int32) [] .null) (mr : Addr) (M_mr : own_Mir Z "[Ljava/lang/Object;" mr) (el : Addr) (O_el : Sta Z Z.heap "java/util/ImmutableCollections" "EMPTY_LIST" "Ljava/util/ImmutableCollections$ListN;" (.ref el)) (em : Addr) (O_em : Sta Z Z.heap "java/util/ImmutableCollections" "EMPTY" "Ljava/lang/Object;" (.ref em)) (ws : List Jvm.Cond) (a : Addr) (t : Addr) (kb : ClassId) (ee0 : Addr) (ee1 : Addr) (ee2 : Addr) (h0 : Heap) (n0 : Nat) (Z0 : n0 ≤ h0.size) (Xo : Old Z n0 h0) (Ea : Exa Z h0 a "java/util/ArrayList") (Fe : Fld Z h0 a "java/util/ArrayList" "elementData" "[Ljava/lang/Object;" (.ref t)) (Fs : Fld Z h0 a "java/util/ArrayList" "size" "I" (.int (3 : Int32))) (Et : Exa Z h0 t "[Ljava/lang/Object;") (At : Arv Z h0 t kb (.object "java/lang/Object") (10 : Int32) [(.ref ee0), (.ref ee1), (.ref ee2)] .null) (Eee0 : Exa Z h0 ee0 "java/lang/String") (Eee1 : Exa Z h0 ee1 "java/lang/String") (Eee2 : Exa Z h0 ee2 "java/lang/String") :
    own_MetN l Z (⟨"java/util/List", "copyOf", "(Ljava/util/Collection;)Ljava/util/List;"⟩ : MethodName) jdk_40_method_48_code 1 (some (.object "java/util/List")) ws ({ frames := 8, cells := 3, slots := 8, locals := 103 } : Room) #[(.ref a)] h0 (fun v h L => Fr n0 L ∧ Keep h0 h [] ∧ ((∃ (b : Addr), (v = some (.ref b))))) := by
  refine own_metN (plainFor_of_name own_pn13) ?_
  intro p e s m below meth c s₁ G hx hby hml hZ hown hnm hret X0 e0 go fin
  have N0 := Fr.nil n0
  refine go _ _ (fun _ k => castTop (own_ef_rmLy3 m a) k) ?_
  show G (s₁.setTop (mkF m 0 #[.val (.ref a)] []))
  refine go _ _ (fun _ k => XS.aloadN X0.here hx rfl (hb hby own_d20_0) rfl rfl k) ?_
  show G (s₁.setTop (mkF m 1 #[.val (.ref a)] [(.ref a)]))
  obtain ⟨rv101, T101, L101, X101, q101, st101⟩ := own_st X0 hx hZ (y := (⟨"java/util/ImmutableCollections", "listCopy", "(Ljava/util/Collection;)Ljava/util/List;"⟩ : MethodName)) hown (ow hw 115 rfl) (ow hw 116 rfl) (ow hw 117 rfl) (ow hw 118 rfl) (by decide) (own_bkN (W := 0) (rmLc3 l Z a0 hw z0 O2 P5 dd kd O_dd V_dd mr M_mr el O_el em O_em [] a t kb ee0 ee1 ee2 h0 n0 Z0 Xo Ea Fe Fs Et At Eee0 Eee1 Eee2) hZ (ow hw 118 rfl) (ow hw 117 rfl) (by decide) (by decide)) e0 (g := (mkF m 1 #[.val (.ref a)] [(.ref a)])) rfl (by rw [hml]; rfl) (argsL := [(.ref a)]) (rest := []) rfl (lenOf own_pd17 rfl) rfl (by show 2 * 0 + _ ≤ _; exact Nat.le_of_eq rfl) (hb hby own_d20_1) (by decide) (by decide)
  obtain ⟨Nq101, Kp101, ⟨b_102, rfl⟩⟩ := q101
  have N101 := Fr.app N0 Nq101
  refine go _ _ (st101) ?_
  show G (T101.setTop (mkF m 4 #[.val (.ref a)] [(.ref b_102)]))
  have K103 : Keep h0 T101.heap [] := (Keep.refl h0 []).trans Kp101 all0
  refine fin T101 _ _ _ (some (.ref b_102)) X101 (fun q => nomatch q) (by decide) (by decide) ⟨N101, K103, ⟨b_102, rfl⟩⟩ _ (own_retA X101 hx hret rfl rfl rfl (hb hby own_d20_4))
theorem own_d18_0 : decode prog_12_method_1_code 0 = .ok (.aload_n 0, 1) := by decide +kernel
theorem own_d18_1 : decode prog_12_method_1_code 1 = .ok (.invokespecial 1, 3) := by decide +kernel
theorem own_d18_4 : decode prog_12_method_1_code 4 = .ok (.aload_n 1, 1) := by decide +kernel
theorem own_d18_5 : decode prog_12_method_1_code 5 = .ok (.ifnonnull 7, 3) := by decide +kernel
theorem own_d18_8 : decode prog_12_method_1_code 8 = .ok (.aconst_null, 1) := by decide +kernel
theorem own_d18_9 : decode prog_12_method_1_code 9 = .ok (.goto 7, 3) := by decide +kernel
theorem own_d18_12 : decode prog_12_method_1_code 12 = .ok (.aload_n 1, 1) := by decide +kernel
theorem own_d18_13 : decode prog_12_method_1_code 13 = .ok (.invokestatic 7, 3) := by decide +kernel
theorem own_d18_16 : decode prog_12_method_1_code 16 = .ok (.astore_n 1, 1) := by decide +kernel
theorem own_d18_17 : decode prog_12_method_1_code 17 = .ok (.aload_n 0, 1) := by decide +kernel
theorem own_d18_18 : decode prog_12_method_1_code 18 = .ok (.aload_n 1, 1) := by decide +kernel
theorem own_d18_19 : decode prog_12_method_1_code 19 = .ok (.putfield 13, 3) := by decide +kernel
theorem own_d18_22 : decode prog_12_method_1_code 22 = .ok (.return_, 1) := by decide +kernel
theorem own_pn15 : plainName "com/example/limmat/limmat/analysis/Opacity$Verdict" = true := by decide +kernel
set_option maxHeartbeats 4000000 in
theorem own_ef_rmVn (m : MethodId) (x0 : Addr) : entryFrame m #[(.ref x0), .null] 2 = mkF m 0 #[.val (.ref x0), .val .null] [] := by rfl
set_option maxRecDepth 65536 in
set_option maxHeartbeats 40000000 in
theorem rmVn (l : Launch) (Z : State) (a0 : Array Value) (hw : ∀ d ∈ tables_1, d.before a0 Z = true) (z0 : Int32) (O2 : Sta Z Z.heap "java/lang/String" "COMPACT_STRINGS" "Z" (.int z0)) (P5 : ¬ z0 = (0 : Int32)) (dd : Addr) (kd : ClassId) (O_dd : Sta Z Z.heap "java/util/ArrayList" "DEFAULTCAPACITY_EMPTY_ELEMENTDATA" "[Ljava/lang/Object;" (.ref dd)) (V_dd : Arv Z Z.heap dd kd (.object "java/lang/Object") (0 : Int32) [] .null) (mr : Addr) (M_mr : own_Mir Z "[Ljava/lang/Object;" mr) (el : Addr) (O_el : Sta Z Z.heap "java/util/ImmutableCollections" "EMPTY_LIST" "Ljava/util/ImmutableCollections$ListN;" (.ref el)) (em : Addr) (O_em : Sta Z Z.heap "java/util/ImmutableCollections" "EMPTY" "Ljava/lang/Object;" (.ref em)) (ws : List Jvm.Cond) (vd : Addr) (h0 : Heap) (n0 : Nat) (Z0 : n0 ≤ h0.size) (Ev : Exa Z h0 vd "com/example/limmat/limmat/analysis/Opacity$Verdict") (Fo : Fld Z h0 vd "com/example/limmat/limmat/analysis/Opacity$Verdict" "observation" "Ljava/util/List;" .null) (gz_vd : n0 ≤ vd) :
    own_MetN l Z (⟨"com/example/limmat/limmat/analysis/Opacity$Verdict", "<init>", "(Ljava/util/List;)V"⟩ : MethodName) prog_12_method_1_code 2 none ws ({ frames := 2, cells := 0, slots := 0, locals := 24 } : Room) #[(.ref vd), .null] h0 (fun v h L => Fr n0 L ∧ Keep h0 h [vd] ∧ (((v = none) ∧ (Exa Z h vd "com/example/limmat/limmat/analysis/Opacity$Verdict") ∧ (Fld Z h vd "com/example/limmat/limmat/analysis/Opacity$Verdict" "observation" "Ljava/util/List;" .null)))) := by
  refine own_metN (plainFor_of_name own_pn15) ?_
  intro p e s m below meth c s₁ G hx hby hml hZ hown hnm hret X0 e0 go fin
  have N0 := Fr.nil n0
  refine go _ _ (fun _ k => castTop (own_ef_rmVn m vd) k) ?_
  show G (s₁.setTop (mkF m 0 #[.val (.ref vd), .val .null] []))
  refine go _ _ (fun _ k => XS.aloadN X0.here hx rfl (hb hby own_d18_0) rfl rfl k) ?_
  show G (s₁.setTop (mkF m 1 #[.val (.ref vd), .val .null] [(.ref vd)]))
  obtain ⟨rv101, T101, L101, X101, q101, st101⟩ := own_sp X0 hx hZ (y := (⟨"java/lang/Record", "<init>", "()V"⟩ : MethodName)) rfl hown (ow hw 105 rfl) (ow hw 106 rfl) (ow hw 109 rfl) (by decide) (own_bkN (W := 0) (rm19 l Z a0 hw z0 O2 P5 dd kd O_dd V_dd mr M_mr el O_el em O_em [] vd h0 n0 Z0) hZ (ow hw 109 rfl) (ow hw 108 rfl) (by decide) (by decide)) e0 (g := (mkF m 1 #[.val (.ref vd), .val .null] [(.ref vd)])) rfl (by rw [hml]; rfl) (a := vd) (argsL := []) (rest := []) rfl (lenOf own_pd0 rfl) rfl (by show 2 * 0 + _ ≤ _; exact Nat.le_of_eq rfl) (hb hby own_d18_1) (by decide) (by decide)
  obtain ⟨Nq101, e101, rfl⟩ := q101
  have N101 := Fr.app N0 Nq101
  refine go _ _ (st101) ?_
  show G (T101.setTop (mkF m 4 #[.val (.ref vd), .val .null] []))
  refine go _ _ (fun _ k => XS.aloadN X101.here hx rfl (hb hby own_d18_4) rfl rfl k) ?_
  show G (T101.setTop (mkF m 5 #[.val (.ref vd), .val .null] [.null]))
  refine go _ _ (fun _ k => XS.ifnonnullNo X101.here hx rfl (hb hby own_d18_5) rfl k) ?_
  show G (T101.setTop (mkF m 8 #[.val (.ref vd), .val .null] []))
  refine go _ _ (fun _ k => XS.aconstNull X101.here hx rfl (hb hby own_d18_8) k) ?_
  show G (T101.setTop (mkF m 9 #[.val (.ref vd), .val .null] [.null]))
  refine go _ _ (fun _ k => XS.goto X101.here hx rfl (pc0 := 9) (pc' := 16) rfl (hb hby own_d18_9) (by decide) (by decide) k) ?_
  show G (T101.setTop (mkF m 16 #[.val (.ref vd), .val .null] [.null]))
  refine go _ _ (fun _ k => XS.astoreN X101.here hx rfl (hb hby own_d18_16) rfl rfl (l' := #[.val (.ref vd), .val .null]) rfl (XS.aloadN X101.here hx rfl (hb hby own_d18_17) rfl rfl (XS.aloadN X101.here hx rfl (hb hby own_d18_18) rfl rfl k))) ?_
  show G (T101.setTop (mkF m 19 #[.val (.ref vd), .val .null] [.null, (.ref vd)]))
  obtain ⟨T102, h102, X102, e102, W102, st102⟩ := putF X101 hx hZ hown (host := "") (Or.inl (ow hw 199 rfl)) Via.refl e101 Fo Ev (Or.inr ⟨(ow hw 200 rfl), rfl, hnm⟩) (ow hw 100 rfl) (ty := (.object "java/util/List")) (by decide) rfl rfl (g := (mkF m 19 #[.val (.ref vd), .val .null] [.null, (.ref vd)])) rfl rfl (hb hby own_d18_19)
  have N102 := Fr.snoc X102 N101 gz_vd
  refine go _ _ (st102) ?_
  show G (T102.setTop (mkF m 22 #[.val (.ref vd), .val .null] []))
  have K103 : Keep h0 h102 [vd] := (Keep.refl h0 [vd]).wr W102 (Or.inl (List.mem_of_getElem? (i := 0) rfl))
  refine fin T102 _ _ _ none X102 (fun _ => rfl) (by decide) (by decide) (by rw [e102]; exact ⟨N102, K103, ⟨rfl, (Ev.wr W102), (Fo.same W102)⟩⟩) _ (own_retV X102 hx hret (hb hby own_d18_22))
set_option maxHeartbeats 4000000 in
theorem own_ef_rmV0 (m : MethodId) (x0 : Addr) (x1 : Addr) : entryFrame m #[(.ref x0), (.ref x1)] 2 = mkF m 0 #[.val (.ref x0), .val (.ref x1)] [] := by rfl
set_option maxRecDepth 65536 in
set_option maxHeartbeats 40000000 in
theorem rmV0 (l : Launch) (Z : State) (a0 : Array Value) (hw : ∀ d ∈ tables_1, d.before a0 Z = true) (z0 : Int32) (O2 : Sta Z Z.heap "java/lang/String" "COMPACT_STRINGS" "Z" (.int z0)) (P5 : ¬ z0 = (0 : Int32)) (dd : Addr) (kd : ClassId) (O_dd : Sta Z Z.heap "java/util/ArrayList" "DEFAULTCAPACITY_EMPTY_ELEMENTDATA" "[Ljava/lang/Object;" (.ref dd)) (V_dd : Arv Z Z.heap dd kd (.object "java/lang/Object") (0 : Int32) [] .null) (mr : Addr) (M_mr : own_Mir Z "[Ljava/lang/Object;" mr) (el : Addr) (O_el : Sta Z Z.heap "java/util/ImmutableCollections" "EMPTY_LIST" "Ljava/util/ImmutableCollections$ListN;" (.ref el)) (em : Addr) (O_em : Sta Z Z.heap "java/util/ImmutableCollections" "EMPTY" "Ljava/lang/Object;" (.ref em)) (ws : List Jvm.Cond) (vd : Addr) (a : Addr) (h0 : Heap) (n0 : Nat) (Z0 : n0 ≤ h0.size) (Ev : Exa Z h0 vd "com/example/limmat/limmat/analysis/Opacity$Verdict") (Fo : Fld Z h0 vd "com/example/limmat/limmat/analysis/Opacity$Verdict" "observation" "Ljava/util/List;" .null) (Xo : Old Z n0 h0) (Ea : Exa Z h0 a "java/util/ArrayList") (Fs : Fld Z h0 a "java/util/ArrayList" "size" "I" (.int (0 : Int32))) (gz_vd : n0 ≤ vd) :
    own_MetN l Z (⟨"com/example/limmat/limmat/analysis/Opacity$Verdict", "<init>", "(Ljava/util/List;)V"⟩ : MethodName) prog_12_method_1_code 2 none ws ({ frames := 3, cells := 0, slots := 0, locals := 37 } : Room) #[(.ref vd), (.ref a)] h0 (fun v h L => Fr n0 L ∧ Keep h0 h [vd] ∧ ((∃ (o : Addr), (v = none) ∧ (Exa Z h vd "com/example/limmat/limmat/analysis/Opacity$Verdict") ∧ (Fld Z h vd "com/example/limmat/limmat/analysis/Opacity$Verdict" "observation" "Ljava/util/List;" (.ref o))))) := by
  refine own_metN (plainFor_of_name own_pn15) ?_
  intro p e s m below meth c s₁ G hx hby hml hZ hown hnm hret X0 e0 go fin
  have N0 := Fr.nil n0
  refine go _ _ (fun _ k => castTop (own_ef_rmV0 m vd a) k) ?_
  show G (s₁.setTop (mkF m 0 #[.val (.ref vd), .val (.ref a)] []))
  refine go _ _ (fun _ k => XS.aloadN X0.here hx rfl (hb hby own_d18_0) rfl rfl k) ?_
  show G (s₁.setTop (mkF m 1 #[.val (.ref vd), .val (.ref a)] [(.ref vd)]))
  obtain ⟨rv101, T101, L101, X101, q101, st101⟩ := own_sp X0 hx hZ (y := (⟨"java/lang/Record", "<init>", "()V"⟩ : MethodName)) rfl hown (ow hw 105 rfl) (ow hw 106 rfl) (ow hw 109 rfl) (by decide) (own_bkN (W := 0) (rm19 l Z a0 hw z0 O2 P5 dd kd O_dd V_dd mr M_mr el O_el em O_em [] vd h0 n0 Z0) hZ (ow hw 109 rfl) (ow hw 108 rfl) (by decide) (by decide)) e0 (g := (mkF m 1 #[.val (.ref vd), .val (.ref a)] [(.ref vd)])) rfl (by rw [hml]; rfl) (a := vd) (argsL := []) (rest := []) rfl (lenOf own_pd0 rfl) rfl (by show 2 * 0 + _ ≤ _; exact Nat.le_of_eq rfl) (hb hby own_d18_1) (by decide) (by decide)
  obtain ⟨Nq101, e101, rfl⟩ := q101
  have N101 := Fr.app N0 Nq101
  refine go _ _ (st101) ?_
  show G (T101.setTop (mkF m 4 #[.val (.ref vd), .val (.ref a)] []))
  refine go _ _ (fun _ k => XS.aloadN X101.here hx rfl (hb hby own_d18_4) rfl rfl k) ?_
  show G (T101.setTop (mkF m 5 #[.val (.ref vd), .val (.ref a)] [(.ref a)]))
  refine go _ _ (fun _ k => XS.ifnonnullYes X101.here hx rfl (pc0 := 5) (pc' := 12) rfl (hb hby own_d18_5) rfl (by decide) (by decide) k) ?_
  show G (T101.setTop (mkF m 12 #[.val (.ref vd), .val (.ref a)] []))
  refine go _ _ (fun _ k => XS.aloadN X101.here hx rfl (hb hby own_d18_12) rfl rfl k) ?_
  show G (T101.setTop (mkF m 13 #[.val (.ref vd), .val (.ref a)] [(.ref a)]))
  obtain ⟨rv102, T102, L102, X102, q102, st102⟩ := own_st X101 hx hZ (y := (⟨"java/util/List", "copyOf", "(Ljava/util/Collection;)Ljava/util/List;"⟩ : MethodName)) hown (ow hw 111 rfl) (ow hw 112 rfl) (ow hw 113 rfl) (ow hw 114 rfl) (by decide) (own_bkN (W := 0) (rmLy0 l Z a0 hw z0 O2 P5 dd kd O_dd V_dd mr M_mr el O_el em O_em [] a h0 n0 Z0 Xo Ea Fs) hZ (ow hw 114 rfl) (ow hw 113 rfl) (by decide) (by decide)) e101 (g := (mkF m 13 #[.val (.ref vd), .val (.ref a)] [(.ref a)])) rfl (by rw [hml]; rfl) (argsL := [(.ref a)]) (rest := []) rfl (lenOf own_pd17 rfl) rfl (by show 2 * 0 + _ ≤ _; exact Nat.le_of_eq rfl) (hb hby own_d18_13) (by decide) (by decide)
  obtain ⟨Nq102, Kp102, ⟨b_103, rfl⟩⟩ := q102
  have N102 := Fr.app N101 Nq102
  refine go _ _ (st102) ?_
  show G (T102.setTop (mkF m 16 #[.val (.ref vd), .val (.ref a)] [(.ref b_103)]))
  refine go _ _ (fun _ k => XS.astoreN X102.here hx rfl (hb hby own_d18_16) rfl rfl (l' := #[.val (.ref vd), .val (.ref b_103)]) rfl (XS.aloadN X102.here hx rfl (hb hby own_d18_17) rfl rfl (XS.aloadN X102.here hx rfl (hb hby own_d18_18) rfl rfl k))) ?_
  show G (T102.setTop (mkF m 19 #[.val (.ref vd), .val (.ref b_103)] [(.ref b_103), (.ref vd)]))
  have K105 : Keep h0 T102.heap [] := (Keep.refl h0 []).trans Kp102 all0
  have F106 : Fld Z T102.heap vd "com/example/limmat/limmat/analysis/Opacity$Verdict" "observation" "Ljava/util/List;" .null := (Fo.keep K105 nin0)
  have F107 : Exa Z T102.heap vd "com/example/limmat/limmat/analysis/Opacity$Verdict" := (Ev.keep K105)
  obtain ⟨T104, h104, X104, e104, W104, st104⟩ := putF X102 hx hZ hown (host := "") (Or.inl (ow hw 199 rfl)) Via.refl rfl F106 F107 (Or.inr ⟨(ow hw 200 rfl), rfl, hnm⟩) (ow hw 100 rfl) (ty := (.object "java/util/List")) (by decide) rfl rfl (g := (mkF m 19 #[.val (.ref vd), .val (.ref b_103)] [(.ref b_103), (.ref vd)])) rfl rfl (hb hby own_d18_19)
  have N104 := Fr.snoc X104 N102 gz_vd
  refine go _ _ (st104) ?_
  show G (T104.setTop (mkF m 22 #[.val (.ref vd), .val (.ref b_103)] []))
  have K108 : Keep h0 T102.heap [vd] := (Keep.refl h0 [vd]).trans Kp102 all0
  have K109 : Keep h0 h104 [vd] := K108.wr W104 (Or.inl (List.mem_of_getElem? (i := 0) rfl))
  refine fin T104 _ _ _ none X104 (fun _ => rfl) (by decide) (by decide) (by rw [e104]; exact ⟨N104, K109, ⟨b_103, rfl, (F107.wr W104), (F106.same W104)⟩⟩) _ (own_retV X104 hx hret (hb hby own_d18_22))
set_option maxHeartbeats 4000000 in
theorem own_ef_rmV1 (m : MethodId) (x0 : Addr) (x1 : Addr) : entryFrame m #[(.ref x0), (.ref x1)] 2 = mkF m 0 #[.val (.ref x0), .val (.ref x1)] [] := by rfl
set_option maxRecDepth 65536 in
set_option maxHeartbeats 40000000 in
theorem rmV1 (l : Launch) (Z : State) (a0 : Array Value) (hw : ∀ d ∈ tables_1, d.before a0 Z = true) (z0 : Int32) (O2 : Sta Z Z.heap "java/lang/String" "COMPACT_STRINGS" "Z" (.int z0)) (P5 : ¬ z0 = (0 : Int32)) (dd : Addr) (kd : ClassId) (O_dd : Sta Z Z.heap "java/util/ArrayList" "DEFAULTCAPACITY_EMPTY_ELEMENTDATA" "[Ljava/lang/Object;" (.ref dd)) (V_dd : Arv Z Z.heap dd kd (.object "java/lang/Object") (0 : Int32) [] .null) (mr : Addr) (M_mr : own_Mir Z "[Ljava/lang/Object;" mr) (el : Addr) (O_el : Sta Z Z.heap "java/util/ImmutableCollections" "EMPTY_LIST" "Ljava/util/ImmutableCollections$ListN;" (.ref el)) (em : Addr) (O_em : Sta Z Z.heap "java/util/ImmutableCollections" "EMPTY" "Ljava/lang/Object;" (.ref em)) (ws : List Jvm.Cond) (vd : Addr) (a : Addr) (t : Addr) (kb : ClassId) (ee0 : Addr) (h0 : Heap) (n0 : Nat) (Z0 : n0 ≤ h0.size) (Ev : Exa Z h0 vd "com/example/limmat/limmat/analysis/Opacity$Verdict") (Fo : Fld Z h0 vd "com/example/limmat/limmat/analysis/Opacity$Verdict" "observation" "Ljava/util/List;" .null) (Xo : Old Z n0 h0) (Ea : Exa Z h0 a "java/util/ArrayList") (Fe : Fld Z h0 a "java/util/ArrayList" "elementData" "[Ljava/lang/Object;" (.ref t)) (Fs : Fld Z h0 a "java/util/ArrayList" "size" "I" (.int (1 : Int32))) (Et : Exa Z h0 t "[Ljava/lang/Object;") (At : Arv Z h0 t kb (.object "java/lang/Object") (10 : Int32) [(.ref ee0)] .null) (Eee0 : Exa Z h0 ee0 "java/lang/String") (gz_vd : n0 ≤ vd) :
    own_MetN l Z (⟨"com/example/limmat/limmat/analysis/Opacity$Verdict", "<init>", "(Ljava/util/List;)V"⟩ : MethodName) prog_12_method_1_code 2 none ws ({ frames := 8, cells := 2, slots := 3, locals := 100 } : Room) #[(.ref vd), (.ref a)] h0 (fun v h L => Fr n0 L ∧ Keep h0 h [vd] ∧ ((∃ (o : Addr), (v = none) ∧ (Exa Z h vd "com/example/limmat/limmat/analysis/Opacity$Verdict") ∧ (Fld Z h vd "com/example/limmat/limmat/analysis/Opacity$Verdict" "observation" "Ljava/util/List;" (.ref o))))) := by
  refine own_metN (plainFor_of_name own_pn15) ?_
  intro p e s m below meth c s₁ G hx hby hml hZ hown hnm hret X0 e0 go fin
  have N0 := Fr.nil n0
  refine go _ _ (fun _ k => castTop (own_ef_rmV1 m vd a) k) ?_
  show G (s₁.setTop (mkF m 0 #[.val (.ref vd), .val (.ref a)] []))
  refine go _ _ (fun _ k => XS.aloadN X0.here hx rfl (hb hby own_d18_0) rfl rfl k) ?_
  show G (s₁.setTop (mkF m 1 #[.val (.ref vd), .val (.ref a)] [(.ref vd)]))
  obtain ⟨rv101, T101, L101, X101, q101, st101⟩ := own_sp X0 hx hZ (y := (⟨"java/lang/Record", "<init>", "()V"⟩ : MethodName)) rfl hown (ow hw 105 rfl) (ow hw 106 rfl) (ow hw 109 rfl) (by decide) (own_bkN (W := 0) (rm19 l Z a0 hw z0 O2 P5 dd kd O_dd V_dd mr M_mr el O_el em O_em [] vd h0 n0 Z0) hZ (ow hw 109 rfl) (ow hw 108 rfl) (by decide) (by decide)) e0 (g := (mkF m 1 #[.val (.ref vd), .val (.ref a)] [(.ref vd)])) rfl (by rw [hml]; rfl) (a := vd) (argsL := []) (rest := []) rfl (lenOf own_pd0 rfl) rfl (by show 2 * 0 + _ ≤ _; exact Nat.le_of_eq rfl) (hb hby own_d18_1) (by decide) (by decide)
  obtain ⟨Nq101, e101, rfl⟩ := q101
  have N101 := Fr.app N0 Nq101
  refine go _ _ (st101) ?_
  show G (T101.setTop (mkF m 4 #[.val (.ref vd), .val (.ref a)] []))
  refine go _ _ (fun _ k => XS.aloadN X101.here hx rfl (hb hby own_d18_4) rfl rfl k) ?_
  show G (T101.setTop (mkF m 5 #[.val (.ref vd), .val (.ref a)] [(.ref a)]))
  refine go _ _ (fun _ k => XS.ifnonnullYes X101.here hx rfl (pc0 := 5) (pc' := 12) rfl (hb hby own_d18_5) rfl (by decide) (by decide) k) ?_
  show G (T101.setTop (mkF m 12 #[.val (.ref vd), .val (.ref a)] []))
  refine go _ _ (fun _ k => XS.aloadN X101.here hx rfl (hb hby own_d18_12) rfl rfl k) ?_
  show G (T101.setTop (mkF m 13 #[.val (.ref vd), .val (.ref a)] [(.ref a)]))
  obtain ⟨rv102, T102, L102, X102, q102, st102⟩ := own_st X101 hx hZ (y := (⟨"java/util/List", "copyOf", "(Ljava/util/Collection;)Ljava/util/List;"⟩ : MethodName)) hown (ow hw 111 rfl) (ow hw 112 rfl) (ow hw 113 rfl) (ow hw 114 rfl) (by decide) (own_bkN (W := 0) (rmLy1 l Z a0 hw z0 O2 P5 dd kd O_dd V_dd mr M_mr el O_el em O_em [] a t kb ee0 h0 n0 Z0 Xo Ea Fe Fs Et At Eee0) hZ (ow hw 114 rfl) (ow hw 113 rfl) (by decide) (by decide)) e101 (g := (mkF m 13 #[.val (.ref vd), .val (.ref a)] [(.ref a)])) rfl (by rw [hml]; rfl) (argsL := [(.ref a)]) (rest := []) rfl (lenOf own_pd17 rfl) rfl (by show 2 * 0 + _ ≤ _; exact Nat.le_of_eq rfl) (hb hby own_d18_13) (by decide) (by decide)
  obtain ⟨Nq102, Kp102, ⟨b_103, rfl⟩⟩ := q102
  have N102 := Fr.app N101 Nq102
  refine go _ _ (st102) ?_
  show G (T102.setTop (mkF m 16 #[.val (.ref vd), .val (.ref a)] [(.ref b_103)]))
  refine go _ _ (fun _ k => XS.astoreN X102.here hx rfl (hb hby own_d18_16) rfl rfl (l' := #[.val (.ref vd), .val (.ref b_103)]) rfl (XS.aloadN X102.here hx rfl (hb hby own_d18_17) rfl rfl (XS.aloadN X102.here hx rfl (hb hby own_d18_18) rfl rfl k))) ?_
  show G (T102.setTop (mkF m 19 #[.val (.ref vd), .val (.ref b_103)] [(.ref b_103), (.ref vd)]))
  have K105 : Keep h0 T102.heap [] := (Keep.refl h0 []).trans Kp102 all0
  have F106 : Fld Z T102.heap vd "com/example/limmat/limmat/analysis/Opacity$Verdict" "observation" "Ljava/util/List;" .null := (Fo.keep K105 nin0)
  have F107 : Exa Z T102.heap vd "com/example/limmat/limmat/analysis/Opacity$Verdict" := (Ev.keep K105)
  obtain ⟨T104, h104, X104, e104, W104, st104⟩ := putF X102 hx hZ hown (host := "") (Or.inl (ow hw 199 rfl)) Via.refl rfl F106 F107 (Or.inr ⟨(ow hw 200 rfl), rfl, hnm⟩) (ow hw 100 rfl) (ty := (.object "java/util/List")) (by decide) rfl rfl (g := (mkF m 19 #[.val (.ref vd), .val (.ref b_103)] [(.ref b_103), (.ref vd)])) rfl rfl (hb hby own_d18_19)
  have N104 := Fr.snoc X104 N102 gz_vd
  refine go _ _ (st104) ?_
  show G (T104.setTop (mkF m 22 #[.val (.ref vd), .val (.ref b_103)] []))
  have K108 : Keep h0 T102.heap [vd] := (Keep.refl h0 [vd]).trans Kp102 all0
  have K109 : Keep h0 h104 [vd] := K108.wr W104 (Or.inl (List.mem_of_getElem? (i := 0) rfl))
  refine fin T104 _ _ _ none X104 (fun _ => rfl) (by decide) (by decide) (by rw [e104]; exact ⟨N104, K109, ⟨b_103, rfl, (F107.wr W104), (F106.same W104)⟩⟩) _ (own_retV X104 hx hret (hb hby own_d18_22))
set_option maxHeartbeats 4000000 in
theorem own_ef_rmV2 (m : MethodId) (x0 : Addr) (x1 : Addr) : entryFrame m #[(.ref x0), (.ref x1)] 2 = mkF m 0 #[.val (.ref x0), .val (.ref x1)] [] := by rfl
set_option maxRecDepth 65536 in
set_option maxHeartbeats 40000000 in
theorem rmV2 (l : Launch) (Z : State) (a0 : Array Value) (hw : ∀ d ∈ tables_1, d.before a0 Z = true) (z0 : Int32) (O2 : Sta Z Z.heap "java/lang/String" "COMPACT_STRINGS" "Z" (.int z0)) (P5 : ¬ z0 = (0 : Int32)) (dd : Addr) (kd : ClassId) (O_dd : Sta Z Z.heap "java/util/ArrayList" "DEFAULTCAPACITY_EMPTY_ELEMENTDATA" "[Ljava/lang/Object;" (.ref dd)) (V_dd : Arv Z Z.heap dd kd (.object "java/lang/Object") (0 : Int32) [] .null) (mr : Addr) (M_mr : own_Mir Z "[Ljava/lang/Object;" mr) (el : Addr) (O_el : Sta Z Z.heap "java/util/ImmutableCollections" "EMPTY_LIST" "Ljava/util/ImmutableCollections$ListN;" (.ref el)) (em : Addr) (O_em : Sta Z Z.heap "java/util/ImmutableCollections" "EMPTY" "Ljava/lang/Object;" (.ref em)) (ws : List Jvm.Cond) (vd : Addr) (a : Addr) (t : Addr) (kb : ClassId) (ee0 : Addr) (ee1 : Addr) (h0 : Heap) (n0 : Nat) (Z0 : n0 ≤ h0.size) (Ev : Exa Z h0 vd "com/example/limmat/limmat/analysis/Opacity$Verdict") (Fo : Fld Z h0 vd "com/example/limmat/limmat/analysis/Opacity$Verdict" "observation" "Ljava/util/List;" .null) (Xo : Old Z n0 h0) (Ea : Exa Z h0 a "java/util/ArrayList") (Fe : Fld Z h0 a "java/util/ArrayList" "elementData" "[Ljava/lang/Object;" (.ref t)) (Fs : Fld Z h0 a "java/util/ArrayList" "size" "I" (.int (2 : Int32))) (Et : Exa Z h0 t "[Ljava/lang/Object;") (At : Arv Z h0 t kb (.object "java/lang/Object") (10 : Int32) [(.ref ee0), (.ref ee1)] .null) (Eee0 : Exa Z h0 ee0 "java/lang/String") (Eee1 : Exa Z h0 ee1 "java/lang/String") (gz_vd : n0 ≤ vd) :
    own_MetN l Z (⟨"com/example/limmat/limmat/analysis/Opacity$Verdict", "<init>", "(Ljava/util/List;)V"⟩ : MethodName) prog_12_method_1_code 2 none ws ({ frames := 8, cells := 2, slots := 4, locals := 101 } : Room) #[(.ref vd), (.ref a)] h0 (fun v h L => Fr n0 L ∧ Keep h0 h [vd] ∧ ((∃ (o : Addr), (v = none) ∧ (Exa Z h vd "com/example/limmat/limmat/analysis/Opacity$Verdict") ∧ (Fld Z h vd "com/example/limmat/limmat/analysis/Opacity$Verdict" "observation" "Ljava/util/List;" (.ref o))))) := by
  refine own_metN (plainFor_of_name own_pn15) ?_
  intro p e s m below meth c s₁ G hx hby hml hZ hown hnm hret X0 e0 go fin
  have N0 := Fr.nil n0
  refine go _ _ (fun _ k => castTop (own_ef_rmV2 m vd a) k) ?_
  show G (s₁.setTop (mkF m 0 #[.val (.ref vd), .val (.ref a)] []))
  refine go _ _ (fun _ k => XS.aloadN X0.here hx rfl (hb hby own_d18_0) rfl rfl k) ?_
  show G (s₁.setTop (mkF m 1 #[.val (.ref vd), .val (.ref a)] [(.ref vd)]))
  obtain ⟨rv101, T101, L101, X101, q101, st101⟩ := own_sp X0 hx hZ (y := (⟨"java/lang/Record", "<init>", "()V"⟩ : MethodName)) rfl hown (ow hw 105 rfl) (ow hw 106 rfl) (ow hw 109 rfl) (by decide) (own_bkN (W := 0) (rm19 l Z a0 hw z0 O2 P5 dd kd O_dd V_dd mr M_mr el O_el em O_em [] vd h0 n0 Z0) hZ (ow hw 109 rfl) (ow hw 108 rfl) (by decide) (by decide)) e0 (g := (mkF m 1 #[.val (.ref vd), .val (.ref a)] [(.ref vd)])) rfl (by rw [hml]; rfl) (a := vd) (argsL := []) (rest := []) rfl (lenOf own_pd0 rfl) rfl (by show 2 * 0 + _ ≤ _; exact Nat.le_of_eq rfl) (hb hby own_d18_1) (by decide) (by decide)
  obtain ⟨Nq101, e101, rfl⟩ := q101
  have N101 := Fr.app N0 Nq101
  refine go _ _ (st101) ?_
  show G (T101.setTop (mkF m 4 #[.val (.ref vd), .val (.ref a)] []))
  refine go _ _ (fun _ k => XS.aloadN X101.here hx rfl (hb hby own_d18_4) rfl rfl k) ?_
  show G (T101.setTop (mkF m 5 #[.val (.ref vd), .val (.ref a)] [(.ref a)]))
  refine go _ _ (fun _ k => XS.ifnonnullYes X101.here hx rfl (pc0 := 5) (pc' := 12) rfl (hb hby own_d18_5) rfl (by decide) (by decide) k) ?_
  show G (T101.setTop (mkF m 12 #[.val (.ref vd), .val (.ref a)] []))
  refine go _ _ (fun _ k => XS.aloadN X101.here hx rfl (hb hby own_d18_12) rfl rfl k) ?_
  show G (T101.setTop (mkF m 13 #[.val (.ref vd), .val (.ref a)] [(.ref a)]))
  obtain ⟨rv102, T102, L102, X102, q102, st102⟩ := own_st X101 hx hZ (y := (⟨"java/util/List", "copyOf", "(Ljava/util/Collection;)Ljava/util/List;"⟩ : MethodName)) hown (ow hw 111 rfl) (ow hw 112 rfl) (ow hw 113 rfl) (ow hw 114 rfl) (by decide) (own_bkN (W := 0) (rmLy2 l Z a0 hw z0 O2 P5 dd kd O_dd V_dd mr M_mr el O_el em O_em [] a t kb ee0 ee1 h0 n0 Z0 Xo Ea Fe Fs Et At Eee0 Eee1) hZ (ow hw 114 rfl) (ow hw 113 rfl) (by decide) (by decide)) e101 (g := (mkF m 13 #[.val (.ref vd), .val (.ref a)] [(.ref a)])) rfl (by rw [hml]; rfl) (argsL := [(.ref a)]) (rest := []) rfl (lenOf own_pd17 rfl) rfl (by show 2 * 0 + _ ≤ _; exact Nat.le_of_eq rfl) (hb hby own_d18_13) (by decide) (by decide)
  obtain ⟨Nq102, Kp102, ⟨b_103, rfl⟩⟩ := q102
  have N102 := Fr.app N101 Nq102
  refine go _ _ (st102) ?_
  show G (T102.setTop (mkF m 16 #[.val (.ref vd), .val (.ref a)] [(.ref b_103)]))
  refine go _ _ (fun _ k => XS.astoreN X102.here hx rfl (hb hby own_d18_16) rfl rfl (l' := #[.val (.ref vd), .val (.ref b_103)]) rfl (XS.aloadN X102.here hx rfl (hb hby own_d18_17) rfl rfl (XS.aloadN X102.here hx rfl (hb hby own_d18_18) rfl rfl k))) ?_
  show G (T102.setTop (mkF m 19 #[.val (.ref vd), .val (.ref b_103)] [(.ref b_103), (.ref vd)]))
  have K105 : Keep h0 T102.heap [] := (Keep.refl h0 []).trans Kp102 all0
  have F106 : Fld Z T102.heap vd "com/example/limmat/limmat/analysis/Opacity$Verdict" "observation" "Ljava/util/List;" .null := (Fo.keep K105 nin0)
  have F107 : Exa Z T102.heap vd "com/example/limmat/limmat/analysis/Opacity$Verdict" := (Ev.keep K105)
  obtain ⟨T104, h104, X104, e104, W104, st104⟩ := putF X102 hx hZ hown (host := "") (Or.inl (ow hw 199 rfl)) Via.refl rfl F106 F107 (Or.inr ⟨(ow hw 200 rfl), rfl, hnm⟩) (ow hw 100 rfl) (ty := (.object "java/util/List")) (by decide) rfl rfl (g := (mkF m 19 #[.val (.ref vd), .val (.ref b_103)] [(.ref b_103), (.ref vd)])) rfl rfl (hb hby own_d18_19)
  have N104 := Fr.snoc X104 N102 gz_vd
  refine go _ _ (st104) ?_
  show G (T104.setTop (mkF m 22 #[.val (.ref vd), .val (.ref b_103)] []))
  have K108 : Keep h0 T102.heap [vd] := (Keep.refl h0 [vd]).trans Kp102 all0
  have K109 : Keep h0 h104 [vd] := K108.wr W104 (Or.inl (List.mem_of_getElem? (i := 0) rfl))
  refine fin T104 _ _ _ none X104 (fun _ => rfl) (by decide) (by decide) (by rw [e104]; exact ⟨N104, K109, ⟨b_103, rfl, (F107.wr W104), (F106.same W104)⟩⟩) _ (own_retV X104 hx hret (hb hby own_d18_22))
set_option maxHeartbeats 4000000 in
theorem own_ef_rmV3 (m : MethodId) (x0 : Addr) (x1 : Addr) : entryFrame m #[(.ref x0), (.ref x1)] 2 = mkF m 0 #[.val (.ref x0), .val (.ref x1)] [] := by rfl
set_option maxRecDepth 65536 in
set_option maxHeartbeats 40000000 in
theorem rmV3 (l : Launch) (Z : State) (a0 : Array Value) (hw : ∀ d ∈ tables_1, d.before a0 Z = true) (z0 : Int32) (O2 : Sta Z Z.heap "java/lang/String" "COMPACT_STRINGS" "Z" (.int z0)) (P5 : ¬ z0 = (0 : Int32)) (dd : Addr) (kd : ClassId) (O_dd : Sta Z Z.heap "java/util/ArrayList" "DEFAULTCAPACITY_EMPTY_ELEMENTDATA" "[Ljava/lang/Object;" (.ref dd)) (V_dd : Arv Z Z.heap dd kd (.object "java/lang/Object") (0 : Int32) [] .null) (mr : Addr) (M_mr : own_Mir Z "[Ljava/lang/Object;" mr) (el : Addr) (O_el : Sta Z Z.heap "java/util/ImmutableCollections" "EMPTY_LIST" "Ljava/util/ImmutableCollections$ListN;" (.ref el)) (em : Addr) (O_em : Sta Z Z.heap "java/util/ImmutableCollections" "EMPTY" "Ljava/lang/Object;" (.ref em)) (ws : List Jvm.Cond) (vd : Addr) (a : Addr) (t : Addr) (kb : ClassId) (ee0 : Addr) (ee1 : Addr) (ee2 : Addr) (h0 : Heap) (n0 : Nat) (Z0 : n0 ≤ h0.size) (Ev : Exa Z h0 vd "com/example/limmat/limmat/analysis/Opacity$Verdict") (Fo : Fld Z h0 vd "com/example/limmat/limmat/analysis/Opacity$Verdict" "observation" "Ljava/util/List;" .null) (Xo : Old Z n0 h0) (Ea : Exa Z h0 a "java/util/ArrayList") (Fe : Fld Z h0 a "java/util/ArrayList" "elementData" "[Ljava/lang/Object;" (.ref t)) (Fs : Fld Z h0 a "java/util/ArrayList" "size" "I" (.int (3 : Int32))) (Et : Exa Z h0 t "[Ljava/lang/Object;") (At : Arv Z h0 t kb (.object "java/lang/Object") (10 : Int32) [(.ref ee0), (.ref ee1), (.ref ee2)] .null) (Eee0 : Exa Z h0 ee0 "java/lang/String") (Eee1 : Exa Z h0 ee1 "java/lang/String") (Eee2 : Exa Z h0 ee2 "java/lang/String") (gz_vd : n0 ≤ vd) :
    own_MetN l Z (⟨"com/example/limmat/limmat/analysis/Opacity$Verdict", "<init>", "(Ljava/util/List;)V"⟩ : MethodName) prog_12_method_1_code 2 none ws ({ frames := 9, cells := 3, slots := 8, locals := 115 } : Room) #[(.ref vd), (.ref a)] h0 (fun v h L => Fr n0 L ∧ Keep h0 h [vd] ∧ ((∃ (o : Addr), (v = none) ∧ (Exa Z h vd "com/example/limmat/limmat/analysis/Opacity$Verdict") ∧ (Fld Z h vd "com/example/limmat/limmat/analysis/Opacity$Verdict" "observation" "Ljava/util/List;" (.ref o))))) := by
  refine own_metN (plainFor_of_name own_pn15) ?_
  intro p e s m below meth c s₁ G hx hby hml hZ hown hnm hret X0 e0 go fin
  have N0 := Fr.nil n0
  refine go _ _ (fun _ k => castTop (own_ef_rmV3 m vd a) k) ?_
  show G (s₁.setTop (mkF m 0 #[.val (.ref vd), .val (.ref a)] []))
  refine go _ _ (fun _ k => XS.aloadN X0.here hx rfl (hb hby own_d18_0) rfl rfl k) ?_
  show G (s₁.setTop (mkF m 1 #[.val (.ref vd), .val (.ref a)] [(.ref vd)]))
  obtain ⟨rv101, T101, L101, X101, q101, st101⟩ := own_sp X0 hx hZ (y := (⟨"java/lang/Record", "<init>", "()V"⟩ : MethodName)) rfl hown (ow hw 105 rfl) (ow hw 106 rfl) (ow hw 109 rfl) (by decide) (own_bkN (W := 0) (rm19 l Z a0 hw z0 O2 P5 dd kd O_dd V_dd mr M_mr el O_el em O_em [] vd h0 n0 Z0) hZ (ow hw 109 rfl) (ow hw 108 rfl) (by decide) (by decide)) e0 (g := (mkF m 1 #[.val (.ref vd), .val (.ref a)] [(.ref vd)])) rfl (by rw [hml]; rfl) (a := vd) (argsL := []) (rest := []) rfl (lenOf own_pd0 rfl) rfl (by show 2 * 0 + _ ≤ _; exact Nat.le_of_eq rfl) (hb hby own_d18_1) (by decide) (by decide)
  obtain ⟨Nq101, e101, rfl⟩ := q101
  have N101 := Fr.app N0 Nq101
  refine go _ _ (st101) ?_
  show G (T101.setTop (mkF m 4 #[.val (.ref vd), .val (.ref a)] []))
  refine go _ _ (fun _ k => XS.aloadN X101.here hx rfl (hb hby own_d18_4) rfl rfl k) ?_
  show G (T101.setTop (mkF m 5 #[.val (.ref vd), .val (.ref a)] [(.ref a)]))
  refine go _ _ (fun _ k => XS.ifnonnullYes X101.here hx rfl (pc0 := 5) (pc' := 12) rfl (hb hby own_d18_5) rfl (by decide) (by decide) k) ?_
  show G (T101.setTop (mkF m 12 #[.val (.ref vd), .val (.ref a)] []))
  refine go _ _ (fun _ k => XS.aloadN X101.here hx rfl (hb hby own_d18_12) rfl rfl k) ?_
  show G (T101.setTop (mkF m 13 #[.val (.ref vd), .val (.ref a)] [(.ref a)]))
  obtain ⟨rv102, T102, L102, X102, q102, st102⟩ := own_st X101 hx hZ (y := (⟨"java/util/List", "copyOf", "(Ljava/util/Collection;)Ljava/util/List;"⟩ : MethodName)) hown (ow hw 111 rfl) (ow hw 112 rfl) (ow hw 113 rfl) (ow hw 114 rfl) (by decide) (own_bkN (W := 0) (rmLy3 l Z a0 hw z0 O2 P5 dd kd O_dd V_dd mr M_mr el O_el em O_em [] a t kb ee0 ee1 ee2 h0 n0 Z0 Xo Ea Fe Fs Et At Eee0 Eee1 Eee2) hZ (ow hw 114 rfl) (ow hw 113 rfl) (by decide) (by decide)) e101 (g := (mkF m 13 #[.val (.ref vd), .val (.ref a)] [(.ref a)])) rfl (by rw [hml]; rfl) (argsL := [(.ref a)]) (rest := []) rfl (lenOf own_pd17 rfl) rfl (by show 2 * 0 + _ ≤ _; exact Nat.le_of_eq rfl) (hb hby own_d18_13) (by decide) (by decide)
  obtain ⟨Nq102, Kp102, ⟨b_103, rfl⟩⟩ := q102
  have N102 := Fr.app N101 Nq102
  refine go _ _ (st102) ?_
  show G (T102.setTop (mkF m 16 #[.val (.ref vd), .val (.ref a)] [(.ref b_103)]))
  refine go _ _ (fun _ k => XS.astoreN X102.here hx rfl (hb hby own_d18_16) rfl rfl (l' := #[.val (.ref vd), .val (.ref b_103)]) rfl (XS.aloadN X102.here hx rfl (hb hby own_d18_17) rfl rfl (XS.aloadN X102.here hx rfl (hb hby own_d18_18) rfl rfl k))) ?_
  show G (T102.setTop (mkF m 19 #[.val (.ref vd), .val (.ref b_103)] [(.ref b_103), (.ref vd)]))
  have K105 : Keep h0 T102.heap [] := (Keep.refl h0 []).trans Kp102 all0
  have F106 : Fld Z T102.heap vd "com/example/limmat/limmat/analysis/Opacity$Verdict" "observation" "Ljava/util/List;" .null := (Fo.keep K105 nin0)
  have F107 : Exa Z T102.heap vd "com/example/limmat/limmat/analysis/Opacity$Verdict" := (Ev.keep K105)
  obtain ⟨T104, h104, X104, e104, W104, st104⟩ := putF X102 hx hZ hown (host := "") (Or.inl (ow hw 199 rfl)) Via.refl rfl F106 F107 (Or.inr ⟨(ow hw 200 rfl), rfl, hnm⟩) (ow hw 100 rfl) (ty := (.object "java/util/List")) (by decide) rfl rfl (g := (mkF m 19 #[.val (.ref vd), .val (.ref b_103)] [(.ref b_103), (.ref vd)])) rfl rfl (hb hby own_d18_19)
  have N104 := Fr.snoc X104 N102 gz_vd
  refine go _ _ (st104) ?_
  show G (T104.setTop (mkF m 22 #[.val (.ref vd), .val (.ref b_103)] []))
  have K108 : Keep h0 T102.heap [vd] := (Keep.refl h0 [vd]).trans Kp102 all0
  have K109 : Keep h0 h104 [vd] := K108.wr W104 (Or.inl (List.mem_of_getElem? (i := 0) rfl))
  refine fin T104 _ _ _ none X104 (fun _ => rfl) (by decide) (by decide) (by rw [e104]; exact ⟨N104, K109, ⟨b_103, rfl, (F107.wr W104), (F106.same W104)⟩⟩) _ (own_retV X104 hx hret (hb hby own_d18_22))
theorem own_d33_0 : decode prog_12_method_2_code 0 = .ok (.aload_n 0, 1) := by decide +kernel
theorem own_d33_1 : decode prog_12_method_2_code 1 = .ok (.getfield 13, 3) := by decide +kernel
theorem own_d33_4 : decode prog_12_method_2_code 4 = .ok (.ifnonnull 7, 3) := by decide +kernel
theorem own_d33_7 : decode prog_12_method_2_code 7 = .ok (.iconst 1, 1) := by decide +kernel
theorem own_d33_8 : decode prog_12_method_2_code 8 = .ok (.goto 4, 3) := by decide +kernel
theorem own_d33_11 : decode prog_12_method_2_code 11 = .ok (.iconst 0, 1) := by decide +kernel
theorem own_d33_12 : decode prog_12_method_2_code 12 = .ok (.ireturn, 1) := by decide +kernel
set_option maxHeartbeats 4000000 in
theorem own_ef_rm33 (m : MethodId) (x0 : Addr) : entryFrame m #[(.ref x0)] 1 = mkF m 0 #[.val (.ref x0)] [] := by rfl
set_option maxRecDepth 65536 in
set_option maxHeartbeats 40000000 in
theorem rm33 (l : Launch) (Z : State) (a0 : Array Value) (hw : ∀ d ∈ tables_1, d.before a0 Z = true) (z0 : Int32) (O2 : Sta Z Z.heap "java/lang/String" "COMPACT_STRINGS" "Z" (.int z0)) (P5 : ¬ z0 = (0 : Int32)) (dd : Addr) (kd : ClassId) (O_dd : Sta Z Z.heap "java/util/ArrayList" "DEFAULTCAPACITY_EMPTY_ELEMENTDATA" "[Ljava/lang/Object;" (.ref dd)) (V_dd : Arv Z Z.heap dd kd (.object "java/lang/Object") (0 : Int32) [] .null) (mr : Addr) (M_mr : own_Mir Z "[Ljava/lang/Object;" mr) (el : Addr) (O_el : Sta Z Z.heap "java/util/ImmutableCollections" "EMPTY_LIST" "Ljava/util/ImmutableCollections$ListN;" (.ref el)) (em : Addr) (O_em : Sta Z Z.heap "java/util/ImmutableCollections" "EMPTY" "Ljava/lang/Object;" (.ref em)) (ws : List Jvm.Cond) (vd : Addr) (w0 : Value) (h0 : Heap) (n0 : Nat) (Z0 : n0 ≤ h0.size) (rw0 : w0.isRef = true) (Fo : Fld Z h0 vd "com/example/limmat/limmat/analysis/Opacity$Verdict" "observation" "Ljava/util/List;" w0) :
    own_MetN l Z (⟨"com/example/limmat/limmat/analysis/Opacity$Verdict", "holds", "()Z"⟩ : MethodName) prog_12_method_2_code 1 (some .boolean) ws ({ frames := 0, cells := 0, slots := 0, locals := 0 } : Room) #[(.ref vd)] h0 (fun v h L => Fr n0 L ∧ h = h0 ∧ (((v = some (.int (1 : Int32))) ∧ (w0 = .null)) ∨ ((v = some (.int (0 : Int32))) ∧ (¬ w0 = .null)))) := by
  refine own_metN (plainFor_of_name own_pn15) ?_
  intro p e s m below meth c s₁ G hx hby hml hZ hown hnm hret X0 e0 go fin
  have N0 := Fr.nil n0
  refine go _ _ (fun _ k => castTop (own_ef_rm33 m vd) k) ?_
  show G (s₁.setTop (mkF m 0 #[.val (.ref vd)] []))
  refine go _ _ (fun _ k => XS.aloadN X0.here hx rfl (hb hby own_d33_0) rfl rfl k) ?_
  show G (s₁.setTop (mkF m 1 #[.val (.ref vd)] [(.ref vd)]))
  obtain ⟨T101, X101, e101, st101⟩ := getF X0 hx hZ hown (host := "") (Or.inl (ow hw 199 rfl)) Via.refl e0 Fo (g := (mkF m 1 #[.val (.ref vd)] [(.ref vd)])) rfl rfl (hb hby own_d33_1)
  refine go _ _ (st101) ?_
  show G (T101.setTop (mkF m 4 #[.val (.ref vd)] [w0]))
  rcases ref_cases rw0 with rfl | ⟨b102, rfl⟩
  · refine go _ _ (fun _ k => XS.ifnonnullNo X101.here hx rfl (hb hby own_d33_4) rfl k) ?_
    show G (T101.setTop (mkF m 7 #[.val (.ref vd)] []))
    refine go _ _ (fun _ k => XS.iconst X101.here hx rfl (hb hby own_d33_7) k) ?_
    show G (T101.setTop (mkF m 8 #[.val (.ref vd)] [(.int (1 : Int32))]))
    refine go _ _ (fun _ k => XS.goto X101.here hx rfl (pc0 := 8) (pc' := 12) rfl (hb hby own_d33_8) (by decide) (by decide) k) ?_
    show G (T101.setTop (mkF m 12 #[.val (.ref vd)] [(.int (1 : Int32))]))
    refine fin T101 _ _ _ (some (.int (1 : Int32))) X101 (fun q => nomatch q) (by decide) (by decide) (by rw [e101]; exact ⟨N0, rfl, (Or.inl ⟨rfl, rfl⟩)⟩) _ (own_retN X101 hx (z := (1 : Int32)) (t := .boolean) hret (by simp) (hb hby own_d33_12))
  · refine go _ _ (fun _ k => XS.ifnonnullYes X101.here hx rfl (pc0 := 4) (pc' := 11) rfl (hb hby own_d33_4) rfl (by decide) (by decide) k) ?_
    show G (T101.setTop (mkF m 11 #[.val (.ref vd)] []))
    refine go _ _ (fun _ k => XS.iconst X101.here hx rfl (hb hby own_d33_11) k) ?_
    show G (T101.setTop (mkF m 12 #[.val (.ref vd)] [(.int (0 : Int32))]))
    refine fin T101 _ _ _ (some (.int (0 : Int32))) X101 (fun q => nomatch q) (by decide) (by decide) (by rw [e101]; exact ⟨N0, rfl, (Or.inr ⟨rfl, (fun q => nomatch q)⟩)⟩) _ (own_retN X101 hx (z := (0 : Int32)) (t := .boolean) hret (by simp) (hb hby own_d33_12))
theorem own_d34_0 : decode prog_12_method_6_code 0 = .ok (.aload_n 0, 1) := by decide +kernel
theorem own_d34_1 : decode prog_12_method_6_code 1 = .ok (.getfield 13, 3) := by decide +kernel
theorem own_d34_4 : decode prog_12_method_6_code 4 = .ok (.areturn, 1) := by decide +kernel
set_option maxHeartbeats 4000000 in
theorem own_ef_rm34 (m : MethodId) (x0 : Addr) : entryFrame m #[(.ref x0)] 1 = mkF m 0 #[.val (.ref x0)] [] := by rfl
set_option maxRecDepth 65536 in
set_option maxHeartbeats 40000000 in
theorem rm34 (l : Launch) (Z : State) (a0 : Array Value) (hw : ∀ d ∈ tables_1, d.before a0 Z = true) (z0 : Int32) (O2 : Sta Z Z.heap "java/lang/String" "COMPACT_STRINGS" "Z" (.int z0)) (P5 : ¬ z0 = (0 : Int32)) (dd : Addr) (kd : ClassId) (O_dd : Sta Z Z.heap "java/util/ArrayList" "DEFAULTCAPACITY_EMPTY_ELEMENTDATA" "[Ljava/lang/Object;" (.ref dd)) (V_dd : Arv Z Z.heap dd kd (.object "java/lang/Object") (0 : Int32) [] .null) (mr : Addr) (M_mr : own_Mir Z "[Ljava/lang/Object;" mr) (el : Addr) (O_el : Sta Z Z.heap "java/util/ImmutableCollections" "EMPTY_LIST" "Ljava/util/ImmutableCollections$ListN;" (.ref el)) (em : Addr) (O_em : Sta Z Z.heap "java/util/ImmutableCollections" "EMPTY" "Ljava/lang/Object;" (.ref em)) (ws : List Jvm.Cond) (vd : Addr) (w0 : Value) (h0 : Heap) (n0 : Nat) (Z0 : n0 ≤ h0.size) (rw0 : w0.isRef = true) (Fo : Fld Z h0 vd "com/example/limmat/limmat/analysis/Opacity$Verdict" "observation" "Ljava/util/List;" w0) :
    own_MetN l Z (⟨"com/example/limmat/limmat/analysis/Opacity$Verdict", "observation", "()Ljava/util/List;"⟩ : MethodName) prog_12_method_6_code 1 (some (.object "java/util/List")) ws ({ frames := 0, cells := 0, slots := 0, locals := 0 } : Room) #[(.ref vd)] h0 (fun v h L => Fr n0 L ∧ h = h0 ∧ (((v = some w0)))) := by
  refine own_metN (plainFor_of_name own_pn15) ?_
  intro p e s m below meth c s₁ G hx hby hml hZ hown hnm hret X0 e0 go fin
  have N0 := Fr.nil n0
  refine go _ _ (fun _ k => castTop (own_ef_rm34 m vd) k) ?_
  show G (s₁.setTop (mkF m 0 #[.val (.ref vd)] []))
  refine go _ _ (fun _ k => XS.aloadN X0.here hx rfl (hb hby own_d34_0) rfl rfl k) ?_
  show G (s₁.setTop (mkF m 1 #[.val (.ref vd)] [(.ref vd)]))
  obtain ⟨T101, X101, e101, st101⟩ := getF X0 hx hZ hown (host := "") (Or.inl (ow hw 199 rfl)) Via.refl e0 Fo (g := (mkF m 1 #[.val (.ref vd)] [(.ref vd)])) rfl rfl (hb hby own_d34_1)
  refine go _ _ (st101) ?_
  show G (T101.setTop (mkF m 4 #[.val (.ref vd)] [w0]))
  refine fin T101 _ _ _ (some w0) X101 (fun q => nomatch q) (by decide) (by decide) (by rw [e101]; exact ⟨N0, rfl, rfl⟩) _ (own_retA X101 hx hret rfl rw0 own_narR (hb hby own_d34_4))
theorem own_pn16 : plainName "com/example/limmat/limmat/analysis/VerdictHoldsPinLaw" = true := by decide +kernel
theorem own_pd18 : parseMethodDescriptor "(Ljava/util/List;)V" = some ⟨[(.object "java/util/List")], none⟩ := by decide +kernel
theorem own_pd19 : parseMethodDescriptor "(C)Ljava/lang/String;" = some ⟨[.char], some (.object "java/lang/String")⟩ := by decide +kernel
theorem own_pd20 : parseMethodDescriptor "(Ljava/lang/Object;)Z" = some ⟨[(.object "java/lang/Object")], some .boolean⟩ := by decide +kernel
theorem own_pd21 : parseMethodDescriptor "([C)V" = some ⟨[(.array .char)], none⟩ := by decide +kernel
set_option maxHeartbeats 4000000 in
theorem own_ef_rmLaw (m : MethodId) (x0 : Int32) (x1 : Int32) (x2 : Int32) (x3 : Int32) : entryFrame m #[(.int x0), (.int x1), (.int x2), (.int x3)] maxLocals = mkF m 0 #[.val (.int x0), .val (.int x1), .val (.int x2), .val (.int x3), .unset, .unset, .unset, .unset, .unset] [] := by rfl
set_option maxRecDepth 65536 in
set_option maxHeartbeats 40000000 in
theorem rmLaw (l : Launch) (Z : State) (a0 : Array Value) (hw : ∀ d ∈ tables_1, d.before a0 Z = true) (z0 : Int32) (O2 : Sta Z Z.heap "java/lang/String" "COMPACT_STRINGS" "Z" (.int z0)) (P5 : ¬ z0 = (0 : Int32)) (dd : Addr) (kd : ClassId) (O_dd : Sta Z Z.heap "java/util/ArrayList" "DEFAULTCAPACITY_EMPTY_ELEMENTDATA" "[Ljava/lang/Object;" (.ref dd)) (V_dd : Arv Z Z.heap dd kd (.object "java/lang/Object") (0 : Int32) [] .null) (mr : Addr) (M_mr : own_Mir Z "[Ljava/lang/Object;" mr) (el : Addr) (O_el : Sta Z Z.heap "java/util/ImmutableCollections" "EMPTY_LIST" "Ljava/util/ImmutableCollections$ListN;" (.ref el)) (em : Addr) (O_em : Sta Z Z.heap "java/util/ImmutableCollections" "EMPTY" "Ljava/lang/Object;" (.ref em)) (ws : List Jvm.Cond) (p0 : Int32) (p1 : Int32) (p2 : Int32) (p3 : Int32) (h0 : Heap) (n0 : Nat) (Z0 : n0 ≤ h0.size) (Xo : Old Z n0 h0) :
    own_MetN l Z x code maxLocals ret ws room_1 #[(.int p0), (.int p1), (.int p2), (.int p3)] h0 (fun v h L => Fr n0 L ∧ Keep h0 h [] ∧ (((v = some (.int (1 : Int32)))))) := by
  refine own_metN (plainFor_of_name own_pn16) ?_
  intro p e s m below meth c s₁ G hx hby hml hZ hown hnm hret X0 e0 go fin
  have N0 := Fr.nil n0
  refine go _ _ (fun _ k => castTop (own_ef_rmLaw m p0 p1 p2 p3) k) ?_
  show G (s₁.setTop (mkF m 0 #[.val (.int p0), .val (.int p1), .val (.int p2), .val (.int p3), .unset, .unset, .unset, .unset, .unset] []))
  refine go _ _ (fun _ k => XS.iloadN X0.here hx rfl (hb hby at_0) rfl (XS.iconst X0.here hx rfl (hb hby at_1) (XS.iand X0.here hx rfl (hb hby at_2) rfl k))) ?_
  show G (s₁.setTop (mkF m 3 #[.val (.int p0), .val (.int p1), .val (.int p2), .val (.int p3), .unset, .unset, .unset, .unset, .unset] [(.int (p0 &&& (1 : Int32)))]))
  have J101 : ∀ (T101 : State) (L101 : List Loc) (X101 : Stand p l e room_1 s m #[(.int p0), (.int p1), (.int p2), (.int p3)] below meth c T101 L101 0 0) (e101 : T101.heap = h0) (N101 : Fr n0 L101) (z_101 : Int32) (pj101_z0 : z_101 = (0 : Int32) ∨ z_101 = (1 : Int32)), G (T101.setTop (mkF m 11 #[.val (.int p0), .val (.int p1), .val (.int p2), .val (.int p3), .unset, .unset, .unset, .unset, .unset] [(.int z_101)])) := by
    intro T101 L101 X101 e101 N101 z_101 pj101_z0
    show G (T101.setTop (mkF m 11 #[.val (.int p0), .val (.int p1), .val (.int p2), .val (.int p3), .unset, .unset, .unset, .unset, .unset] [(.int z_101)]))
    refine go _ _ (fun _ k => XS.istore X101.here hx rfl (hb hby at_11) rfl (l' := #[.val (.int p0), .val (.int p1), .val (.int p2), .val (.int p3), .val (.int z_101), .unset, .unset, .unset, .unset]) rfl (XS.iloadN X101.here hx rfl (hb hby at_13) rfl (XS.iconst X101.here hx rfl (hb hby at_14) (XS.iand X101.here hx rfl (hb hby at_15) rfl k)))) ?_
    show G (T101.setTop (mkF m 16 #[.val (.int p0), .val (.int p1), .val (.int p2), .val (.int p3), .val (.int z_101), .unset, .unset, .unset, .unset] [(.int (p1 &&& (3 : Int32)))]))
    have hv102 : (p1 &&& (3 : Int32)) = (0 : Int32) ∨ (p1 &&& (3 : Int32)) = (1 : Int32) ∨ (p1 &&& (3 : Int32)) = (2 : Int32) ∨ (p1 &&& (3 : Int32)) = (3 : Int32) := (own_and3 p1)
    rcases hv102 with hk102 | hk102 | hk102 | hk102
    · rw [hk102]
      show G (T101.setTop (mkF m 16 #[.val (.int p0), .val (.int p1), .val (.int p2), .val (.int p3), .val (.int z_101), .unset, .unset, .unset, .unset] [(.int (0 : Int32))]))
      refine go _ _ (fun _ k => XS.istore X101.here hx rfl (hb hby at_16) rfl (l' := #[.val (.int p0), .val (.int p1), .val (.int p2), .val (.int p3), .val (.int z_101), .val (.int (0 : Int32)), .unset, .unset, .unset]) rfl k) ?_
      show G (T101.setTop (mkF m 18 #[.val (.int p0), .val (.int p1), .val (.int p2), .val (.int p3), .val (.int z_101), .val (.int (0 : Int32)), .unset, .unset, .unset] []))
      obtain ⟨T103, h103, X103, e103, E103, A103, D103, -, st103⟩ := newO X101 hx hZ hown (ow hw 0 rfl) (ow hw 1 rfl) (ow hw 2 rfl) e101 (g := (mkF m 18 #[.val (.int p0), .val (.int p1), .val (.int p2), .val (.int p3), .val (.int z_101), .val (.int (0 : Int32)), .unset, .unset, .unset] [])) rfl (hb hby at_18) (by decide) (by decide)
      obtain ⟨b103, g103⟩ : ∃ z, z = h0.size := ⟨_, rfl⟩
      rw [← g103] at A103 D103 st103
      refine go _ _ (st103) ?_
      show G (T103.setTop (mkF m 21 #[.val (.int p0), .val (.int p1), .val (.int p2), .val (.int p3), .val (.int z_101), .val (.int (0 : Int32)), .unset, .unset, .unset] [(.ref b103)]))
      refine go _ _ (fun _ k => XS.dup X103.here hx rfl (hb hby at_21) rfl rfl k) ?_
      show G (T103.setTop (mkF m 22 #[.val (.int p0), .val (.int p1), .val (.int p2), .val (.int p3), .val (.int z_101), .val (.int (0 : Int32)), .unset, .unset, .unset] [(.ref b103), (.ref b103)]))
      have K105 : Keep h0 h103 [] := (Keep.refl h0 []).ext E103
      have F106 : Old Z n0 h103 := (Xo.keep K105 all0)
      have Z107 : h0.size ≤ h103.size := E103.1
      obtain ⟨rv104, T104, L104, X104, q104, st104⟩ := own_sp X103 hx hZ (y := (⟨"java/util/ArrayList", "<init>", "()V"⟩ : MethodName)) rfl hown (ow hw 3 rfl) (ow hw 4 rfl) (ow hw 5 rfl) (by decide) (own_bkN (W := 1) (rm0 l Z a0 hw z0 O2 P5 dd kd O_dd V_dd mr M_mr el O_el em O_em [] b103 h103 n0 (Nat.le_trans Z0 Z107) F106 A103 (D103 (Or.inl (ow hw 22 rfl)) (ty := .int) (by decide)) (D103 (Or.inl (ow hw 25 rfl)) (ty := (.array (.object "java/lang/Object"))) (by decide)) (D103 (Or.inl (ow hw 58 rfl)) (ty := .int) (by decide)) (Nat.le_trans Z0 (Nat.le_of_eq g103.symm))) hZ (ow hw 5 rfl) (ow hw 2 rfl) (by decide) (by decide)) e103 (g := (mkF m 22 #[.val (.int p0), .val (.int p1), .val (.int p2), .val (.int p3), .val (.int z_101), .val (.int (0 : Int32)), .unset, .unset, .unset] [(.ref b103), (.ref b103)])) rfl (by rw [hml]; rfl) (a := b103) (argsL := []) (rest := [(.ref b103)]) rfl (lenOf own_pd0 rfl) rfl (by show 2 * 0 + _ ≤ _; exact Nat.le_of_eq rfl) (hb hby at_22) (by decide) (by decide)
      obtain ⟨Nq104, Kp104, ⟨rfl, f108, f109, f110, f111⟩⟩ := q104
      have N104 := Fr.app N101 Nq104
      refine go _ _ (st104) ?_
      show G (T104.setTop (mkF m 25 #[.val (.int p0), .val (.int p1), .val (.int p2), .val (.int p3), .val (.int z_101), .val (.int (0 : Int32)), .unset, .unset, .unset] [(.ref b103)]))
      refine go _ _ (fun _ k => XS.astore X104.here hx rfl (hb hby at_25) rfl rfl (l' := #[.val (.int p0), .val (.int p1), .val (.int p2), .val (.int p3), .val (.int z_101), .val (.int (0 : Int32)), .val (.ref b103), .unset, .unset]) rfl (XS.iload X104.here hx rfl (hb hby at_27) rfl (XS.iconst X104.here hx rfl (hb hby at_29) k))) ?_
      show G (T104.setTop (mkF m 30 #[.val (.int p0), .val (.int p1), .val (.int p2), .val (.int p3), .val (.int z_101), .val (.int (0 : Int32)), .val (.ref b103), .unset, .unset] [(.int (1 : Int32)), (.int (0 : Int32))]))
      refine go _ _ (fun _ k => XS.icmpYes X104.here hx rfl (pc0 := 30) (pc' := 48) rfl (hb hby at_30) rfl (by decide) (by decide) (by decide) k) ?_
      show G (T104.setTop (mkF m 48 #[.val (.int p0), .val (.int p1), .val (.int p2), .val (.int p3), .val (.int z_101), .val (.int (0 : Int32)), .val (.ref b103), .unset, .unset] []))
      refine go _ _ (fun _ k => XS.iload X104.here hx rfl (hb hby at_48) rfl (XS.iconst X104.here hx rfl (hb hby at_50) k)) ?_
      show G (T104.setTop (mkF m 51 #[.val (.int p0), .val (.int p1), .val (.int p2), .val (.int p3), .val (.int z_101), .val (.int (0 : Int32)), .val (.ref b103), .unset, .unset] [(.int (2 : Int32)), (.int (0 : Int32))]))
      refine go _ _ (fun _ k => XS.icmpYes X104.here hx rfl (pc0 := 51) (pc' := 69) rfl (hb hby at_51) rfl (by decide) (by decide) (by decide) k) ?_
      show G (T104.setTop (mkF m 69 #[.val (.int p0), .val (.int p1), .val (.int p2), .val (.int p3), .val (.int z_101), .val (.int (0 : Int32)), .val (.ref b103), .unset, .unset] []))
      refine go _ _ (fun _ k => XS.iload X104.here hx rfl (hb hby at_69) rfl (XS.iconst X104.here hx rfl (hb hby at_71) k)) ?_
      show G (T104.setTop (mkF m 72 #[.val (.int p0), .val (.int p1), .val (.int p2), .val (.int p3), .val (.int z_101), .val (.int (0 : Int32)), .val (.ref b103), .unset, .unset] [(.int (3 : Int32)), (.int (0 : Int32))]))
      refine go _ _ (fun _ k => XS.icmpYes X104.here hx rfl (pc0 := 72) (pc' := 115) rfl (hb hby at_72) rfl (by decide) (by decide) (by decide) k) ?_
      show G (T104.setTop (mkF m 115 #[.val (.int p0), .val (.int p1), .val (.int p2), .val (.int p3), .val (.int z_101), .val (.int (0 : Int32)), .val (.ref b103), .unset, .unset] []))
      obtain ⟨T112, h112, X112, e112, E112, A112, D112, -, st112⟩ := newO X104 hx hZ hown (ow hw 99 rfl) (ow hw 100 rfl) (ow hw 101 rfl) rfl (g := (mkF m 115 #[.val (.int p0), .val (.int p1), .val (.int p2), .val (.int p3), .val (.int z_101), .val (.int (0 : Int32)), .val (.ref b103), .unset, .unset] [])) rfl (hb hby at_115) (by decide) (by decide)
      obtain ⟨b112, g112⟩ : ∃ z, z = T104.heap.size := ⟨_, rfl⟩
      rw [← g112] at A112 D112 st112
      refine go _ _ (st112) ?_
      show G (T112.setTop (mkF m 118 #[.val (.int p0), .val (.int p1), .val (.int p2), .val (.int p3), .val (.int z_101), .val (.int (0 : Int32)), .val (.ref b103), .unset, .unset] [(.ref b112)]))
      refine go _ _ (fun _ k => XS.dup X112.here hx rfl (hb hby at_118) rfl rfl (XS.iload X112.here hx rfl (hb hby at_119) rfl k)) ?_
      show G (T112.setTop (mkF m 121 #[.val (.int p0), .val (.int p1), .val (.int p2), .val (.int p3), .val (.int z_101), .val (.int (0 : Int32)), .val (.ref b103), .unset, .unset] [(.int z_101), (.ref b112), (.ref b112)]))
      rcases pj101_z0 with rfl | rfl
      · show G (T112.setTop (mkF m 121 #[.val (.int p0), .val (.int p1), .val (.int p2), .val (.int p3), .val (.int (0 : Int32)), .val (.int (0 : Int32)), .val (.ref b103), .unset, .unset] [(.int (0 : Int32)), (.ref b112), (.ref b112)]))
        refine go _ _ (fun _ k => XS.ifYes X112.here hx rfl (pc0 := 121) (pc' := 128) rfl (hb hby at_121) rfl (by decide) (by decide) (by decide) k) ?_
        show G (T112.setTop (mkF m 128 #[.val (.int p0), .val (.int p1), .val (.int p2), .val (.int p3), .val (.int (0 : Int32)), .val (.int (0 : Int32)), .val (.ref b103), .unset, .unset] [(.ref b112), (.ref b112)]))
        refine go _ _ (fun _ k => XS.aload X112.here hx rfl (hb hby at_128) rfl rfl k) ?_
        show G (T112.setTop (mkF m 130 #[.val (.int p0), .val (.int p1), .val (.int p2), .val (.int p3), .val (.int (0 : Int32)), .val (.int (0 : Int32)), .val (.ref b103), .unset, .unset] [(.ref b103), (.ref b112), (.ref b112)]))
        have K114 : Keep h103 T104.heap [b103] := (Keep.refl h103 [b103]).trans Kp104 (allS (Or.inl (List.mem_of_getElem? (i := 0) rfl)) all0)
        have K115 : Keep h103 h112 [b103] := K114.ext E112
        have F116 : Old Z n0 h112 := (F106.keep K115 (allS (Nat.le_trans Z0 (Nat.le_of_eq g103.symm)) all0))
        have K117 : Keep T104.heap h112 [] := (Keep.refl T104.heap []).ext E112
        have F118 : Exa Z h112 b103 "java/util/ArrayList" := (f108.keep K117)
        have F119 : Fld Z h112 b103 "java/util/ArrayList" "size" "I" (.int (0 : Int32)) := (f111.keep K117 nin0)
        have Z120 : h0.size ≤ T104.heap.size := Nat.le_trans Z107 Kp104.1
        have Z121 : h0.size ≤ h112.size := Nat.le_trans Z120 E112.1
        obtain ⟨rv113, T113, L113, X113, q113, st113⟩ := own_sp X112 hx hZ (y := (⟨"com/example/limmat/limmat/analysis/Opacity$Verdict", "<init>", "(Ljava/util/List;)V"⟩ : MethodName)) rfl hown (ow hw 102 rfl) (ow hw 103 rfl) (ow hw 104 rfl) (by decide) (own_bkN (W := 1) (rmV0 l Z a0 hw z0 O2 P5 dd kd O_dd V_dd mr M_mr el O_el em O_em [] b112 b103 h112 n0 (Nat.le_trans Z0 Z121) A112 (D112 (Or.inr (ow hw 200 rfl)) (ty := (.object "java/util/List")) (by decide)) F116 F118 F119 (Nat.le_trans (Nat.le_trans Z0 Z120) (Nat.le_of_eq g112.symm))) hZ (ow hw 104 rfl) (ow hw 101 rfl) (by decide) (by decide)) e112 (g := (mkF m 130 #[.val (.int p0), .val (.int p1), .val (.int p2), .val (.int p3), .val (.int (0 : Int32)), .val (.int (0 : Int32)), .val (.ref b103), .unset, .unset] [(.ref b103), (.ref b112), (.ref b112)])) rfl (by rw [hml]; rfl) (a := b112) (argsL := [(.ref b103)]) (rest := [(.ref b112)]) rfl (lenOf own_pd18 rfl) rfl (by show 2 * 0 + _ ≤ _; exact Nat.le_of_eq rfl) (hb hby at_130) (by decide) (by decide)
        obtain ⟨Nq113, Kp113, ⟨o_122, rfl, f123, f124⟩⟩ := q113
        have N113 := Fr.app N104 Nq113
        refine go _ _ (st113) ?_
        show G (T113.setTop (mkF m 133 #[.val (.int p0), .val (.int p1), .val (.int p2), .val (.int p3), .val (.int (0 : Int32)), .val (.int (0 : Int32)), .val (.ref b103), .unset, .unset] [(.ref b112)]))
        refine go _ _ (fun _ k => XS.astore X113.here hx rfl (hb hby at_133) rfl rfl (l' := #[.val (.int p0), .val (.int p1), .val (.int p2), .val (.int p3), .val (.int (0 : Int32)), .val (.int (0 : Int32)), .val (.ref b103), .val (.ref b112), .unset]) rfl (XS.aload X113.here hx rfl (hb hby at_135) rfl rfl k)) ?_
        show G (T113.setTop (mkF m 137 #[.val (.int p0), .val (.int p1), .val (.int p2), .val (.int p3), .val (.int (0 : Int32)), .val (.int (0 : Int32)), .val (.ref b103), .val (.ref b112), .unset] [(.ref b112)]))
        have Z126 : h0.size ≤ T113.heap.size := Nat.le_trans Z121 Kp113.1
        obtain ⟨rv125, T125, L125, X125, q125, st125⟩ := own_vi X113 hx hZ (y := (⟨"com/example/limmat/limmat/analysis/Opacity$Verdict", "holds", "()Z"⟩ : MethodName)) (z := (⟨"com/example/limmat/limmat/analysis/Opacity$Verdict", "holds", "()Z"⟩ : MethodName)) hown (ow hw 201 rfl) (ow hw 202 rfl) (ow hw 204 rfl) (ow hw 203 rfl) (Or.inl rfl) (by decide) (own_bkN (W := 0) (rm33 l Z a0 hw z0 O2 P5 dd kd O_dd V_dd mr M_mr el O_el em O_em [] b112 (.ref o_122) T113.heap n0 (Nat.le_trans Z0 Z126) rfl f124) hZ (ow hw 205 rfl) (ow hw 101 rfl) (by decide) (by decide)) rfl f123 (g := (mkF m 137 #[.val (.int p0), .val (.int p1), .val (.int p2), .val (.int p3), .val (.int (0 : Int32)), .val (.int (0 : Int32)), .val (.ref b103), .val (.ref b112), .unset] [(.ref b112)])) rfl (by rw [hml]; rfl) (argsL := []) (rest := []) rfl (lenOf own_pd15 rfl) rfl (by show 2 * 0 + _ ≤ _; exact Nat.le_of_eq rfl) (hb hby at_137) (by decide) (by decide)
        obtain ⟨Nq125, e125, q125⟩ := q125
        have N125 := Fr.app N113 Nq125
        rcases q125 with ⟨rfl, p127⟩ | ⟨rfl, p128⟩
        · exact absurd p127 (fun q => nomatch q)
        · refine go _ _ (st125) ?_
          show G (T125.setTop (mkF m 140 #[.val (.int p0), .val (.int p1), .val (.int p2), .val (.int p3), .val (.int (0 : Int32)), .val (.int (0 : Int32)), .val (.ref b103), .val (.ref b112), .unset] [(.int (0 : Int32))]))
          refine go _ _ (fun _ k => XS.istore X125.here hx rfl (hb hby at_140) rfl (l' := #[.val (.int p0), .val (.int p1), .val (.int p2), .val (.int p3), .val (.int (0 : Int32)), .val (.int (0 : Int32)), .val (.ref b103), .val (.ref b112), .val (.int (0 : Int32))]) rfl (XS.iload X125.here hx rfl (hb hby at_142) rfl (XS.iload X125.here hx rfl (hb hby at_144) rfl k))) ?_
          show G (T125.setTop (mkF m 146 #[.val (.int p0), .val (.int p1), .val (.int p2), .val (.int p3), .val (.int (0 : Int32)), .val (.int (0 : Int32)), .val (.ref b103), .val (.ref b112), .val (.int (0 : Int32))] [(.int (0 : Int32)), (.int (0 : Int32))]))
          refine go _ _ (fun _ k => XS.icmpNo X125.here hx rfl (hb hby at_146) rfl (by decide) k) ?_
          show G (T125.setTop (mkF m 149 #[.val (.int p0), .val (.int p1), .val (.int p2), .val (.int p3), .val (.int (0 : Int32)), .val (.int (0 : Int32)), .val (.ref b103), .val (.ref b112), .val (.int (0 : Int32))] []))
          refine go _ _ (fun _ k => XS.iload X125.here hx rfl (hb hby at_149) rfl (XS.aload X125.here hx rfl (hb hby at_151) rfl rfl k)) ?_
          show G (T125.setTop (mkF m 153 #[.val (.int p0), .val (.int p1), .val (.int p2), .val (.int p3), .val (.int (0 : Int32)), .val (.int (0 : Int32)), .val (.ref b103), .val (.ref b112), .val (.int (0 : Int32))] [(.ref b112), (.int (0 : Int32))]))
          obtain ⟨rv129, T129, L129, X129, q129, st129⟩ := own_vi X125 hx hZ (y := (⟨"com/example/limmat/limmat/analysis/Opacity$Verdict", "observation", "()Ljava/util/List;"⟩ : MethodName)) (z := (⟨"com/example/limmat/limmat/analysis/Opacity$Verdict", "observation", "()Ljava/util/List;"⟩ : MethodName)) hown (ow hw 206 rfl) (ow hw 207 rfl) (ow hw 209 rfl) (ow hw 208 rfl) (Or.inl rfl) (by decide) (own_bkN (W := 1) (rm34 l Z a0 hw z0 O2 P5 dd kd O_dd V_dd mr M_mr el O_el em O_em [] b112 (.ref o_122) T113.heap n0 (Nat.le_trans Z0 Z126) rfl f124) hZ (ow hw 210 rfl) (ow hw 101 rfl) (by decide) (by decide)) e125 f123 (g := (mkF m 153 #[.val (.int p0), .val (.int p1), .val (.int p2), .val (.int p3), .val (.int (0 : Int32)), .val (.int (0 : Int32)), .val (.ref b103), .val (.ref b112), .val (.int (0 : Int32))] [(.ref b112), (.int (0 : Int32))])) rfl (by rw [hml]; rfl) (argsL := []) (rest := [(.int (0 : Int32))]) rfl (lenOf own_pd16 rfl) rfl (by show 2 * 0 + _ ≤ _; exact Nat.le_of_eq rfl) (hb hby at_153) (by decide) (by decide)
          obtain ⟨Nq129, e129, rfl⟩ := q129
          have N129 := Fr.app N125 Nq129
          refine go _ _ (st129) ?_
          show G (T129.setTop (mkF m 156 #[.val (.int p0), .val (.int p1), .val (.int p2), .val (.int p3), .val (.int (0 : Int32)), .val (.int (0 : Int32)), .val (.ref b103), .val (.ref b112), .val (.int (0 : Int32))] [(.ref o_122), (.int (0 : Int32))]))
          refine go _ _ (fun _ k => XS.ifnonnullYes X129.here hx rfl (pc0 := 156) (pc' := 163) rfl (hb hby at_156) rfl (by decide) (by decide) k) ?_
          show G (T129.setTop (mkF m 163 #[.val (.int p0), .val (.int p1), .val (.int p2), .val (.int p3), .val (.int (0 : Int32)), .val (.int (0 : Int32)), .val (.ref b103), .val (.ref b112), .val (.int (0 : Int32))] [(.int (0 : Int32))]))
          refine go _ _ (fun _ k => XS.iconst X129.here hx rfl (hb hby at_163) k) ?_
          show G (T129.setTop (mkF m 164 #[.val (.int p0), .val (.int p1), .val (.int p2), .val (.int p3), .val (.int (0 : Int32)), .val (.int (0 : Int32)), .val (.ref b103), .val (.ref b112), .val (.int (0 : Int32))] [(.int (0 : Int32)), (.int (0 : Int32))]))
          refine go _ _ (fun _ k => XS.icmpNo X129.here hx rfl (hb hby at_164) rfl (by decide) k) ?_
          show G (T129.setTop (mkF m 167 #[.val (.int p0), .val (.int p1), .val (.int p2), .val (.int p3), .val (.int (0 : Int32)), .val (.int (0 : Int32)), .val (.ref b103), .val (.ref b112), .val (.int (0 : Int32))] []))
          refine go _ _ (fun _ k => XS.iconst X129.here hx rfl (hb hby at_167) k) ?_
          show G (T129.setTop (mkF m 168 #[.val (.int p0), .val (.int p1), .val (.int p2), .val (.int p3), .val (.int (0 : Int32)), .val (.int (0 : Int32)), .val (.ref b103), .val (.ref b112), .val (.int (0 : Int32))] [(.int (1 : Int32))]))
          refine go _ _ (fun _ k => XS.goto X129.here hx rfl (pc0 := 168) (pc' := 172) rfl (hb hby at_168) (by decide) (by decide) k) ?_
          show G (T129.setTop (mkF m 172 #[.val (.int p0), .val (.int p1), .val (.int p2), .val (.int p3), .val (.int (0 : Int32)), .val (.int (0 : Int32)), .val (.ref b103), .val (.ref b112), .val (.int (0 : Int32))] [(.int (1 : Int32))]))
          have K130 : Keep h0 T104.heap [] := K105.trans Kp104 (allS (Or.inr (Nat.le_of_eq g103.symm)) all0)
          have K131 : Keep h0 h112 [] := K130.ext E112
          have K132 : Keep h0 T113.heap [] := K131.trans Kp113 (allS (Or.inr (Nat.le_trans Z120 (Nat.le_of_eq g112.symm))) all0)
          refine fin T129 _ _ _ (some (.int (1 : Int32))) X129 (fun q => nomatch q) (by decide) (by decide) (by rw [e129]; exact ⟨N129, K132, rfl⟩) _ (own_retN X129 hx (z := (1 : Int32)) (t := .boolean) hret (by simp) (hb hby at_172))
      · show G (T112.setTop (mkF m 121 #[.val (.int p0), .val (.int p1), .val (.int p2), .val (.int p3), .val (.int (1 : Int32)), .val (.int (0 : Int32)), .val (.ref b103), .unset, .unset] [(.int (1 : Int32)), (.ref b112), (.ref b112)]))
        refine go _ _ (fun _ k => XS.ifNo X112.here hx rfl (hb hby at_121) rfl (by decide) k) ?_
        show G (T112.setTop (mkF m 124 #[.val (.int p0), .val (.int p1), .val (.int p2), .val (.int p3), .val (.int (1 : Int32)), .val (.int (0 : Int32)), .val (.ref b103), .unset, .unset] [(.ref b112), (.ref b112)]))
        refine go _ _ (fun _ k => XS.aconstNull X112.here hx rfl (hb hby at_124) k) ?_
        show G (T112.setTop (mkF m 125 #[.val (.int p0), .val (.int p1), .val (.int p2), .val (.int p3), .val (.int (1 : Int32)), .val (.int (0 : Int32)), .val (.ref b103), .unset, .unset] [.null, (.ref b112), (.ref b112)]))
        refine go _ _ (fun _ k => XS.goto X112.here hx rfl (pc0 := 125) (pc' := 130) rfl (hb hby at_125) (by decide) (by decide) k) ?_
        show G (T112.setTop (mkF m 130 #[.val (.int p0), .val (.int p1), .val (.int p2), .val (.int p3), .val (.int (1 : Int32)), .val (.int (0 : Int32)), .val (.ref b103), .unset, .unset] [.null, (.ref b112), (.ref b112)]))
        have Z134 : h0.size ≤ T104.heap.size := Nat.le_trans Z107 Kp104.1
        have Z135 : h0.size ≤ h112.size := Nat.le_trans Z134 E112.1
        obtain ⟨rv133, T133, L133, X133, q133, st133⟩ := own_sp X112 hx hZ (y := (⟨"com/example/limmat/limmat/analysis/Opacity$Verdict", "<init>", "(Ljava/util/List;)V"⟩ : MethodName)) rfl hown (ow hw 102 rfl) (ow hw 103 rfl) (ow hw 104 rfl) (by decide) (own_bkN (W := 1) (rmVn l Z a0 hw z0 O2 P5 dd kd O_dd V_dd mr M_mr el O_el em O_em [] b112 h112 n0 (Nat.le_trans Z0 Z135) A112 (D112 (Or.inr (ow hw 200 rfl)) (ty := (.object "java/util/List")) (by decide)) (Nat.le_trans (Nat.le_trans Z0 Z134) (Nat.le_of_eq g112.symm))) hZ (ow hw 104 rfl) (ow hw 101 rfl) (by decide) (by decide)) e112 (g := (mkF m 130 #[.val (.int p0), .val (.int p1), .val (.int p2), .val (.int p3), .val (.int (1 : Int32)), .val (.int (0 : Int32)), .val (.ref b103), .unset, .unset] [.null, (.ref b112), (.ref b112)])) rfl (by rw [hml]; rfl) (a := b112) (argsL := [.null]) (rest := [(.ref b112)]) rfl (lenOf own_pd18 rfl) rfl (by show 2 * 0 + _ ≤ _; exact Nat.le_of_eq rfl) (hb hby at_130) (by decide) (by decide)
        obtain ⟨Nq133, Kp133, ⟨rfl, f136, f137⟩⟩ := q133
        have N133 := Fr.app N104 Nq133
        refine go _ _ (st133) ?_
        show G (T133.setTop (mkF m 133 #[.val (.int p0), .val (.int p1), .val (.int p2), .val (.int p3), .val (.int (1 : Int32)), .val (.int (0 : Int32)), .val (.ref b103), .unset, .unset] [(.ref b112)]))
        refine go _ _ (fun _ k => XS.astore X133.here hx rfl (hb hby at_133) rfl rfl (l' := #[.val (.int p0), .val (.int p1), .val (.int p2), .val (.int p3), .val (.int (1 : Int32)), .val (.int (0 : Int32)), .val (.ref b103), .val (.ref b112), .unset]) rfl (XS.aload X133.here hx rfl (hb hby at_135) rfl rfl k)) ?_
        show G (T133.setTop (mkF m 137 #[.val (.int p0), .val (.int p1), .val (.int p2), .val (.int p3), .val (.int (1 : Int32)), .val (.int (0 : Int32)), .val (.ref b103), .val (.ref b112), .unset] [(.ref b112)]))
        have Z139 : h0.size ≤ T133.heap.size := Nat.le_trans Z135 Kp133.1
        obtain ⟨rv138, T138, L138, X138, q138, st138⟩ := own_vi X133 hx hZ (y := (⟨"com/example/limmat/limmat/analysis/Opacity$Verdict", "holds", "()Z"⟩ : MethodName)) (z := (⟨"com/example/limmat/limmat/analysis/Opacity$Verdict", "holds", "()Z"⟩ : MethodName)) hown (ow hw 201 rfl) (ow hw 202 rfl) (ow hw 204 rfl) (ow hw 203 rfl) (Or.inl rfl) (by decide) (own_bkN (W := 0) (rm33 l Z a0 hw z0 O2 P5 dd kd O_dd V_dd mr M_mr el O_el em O_em [] b112 .null T133.heap n0 (Nat.le_trans Z0 Z139) rfl f137) hZ (ow hw 205 rfl) (ow hw 101 rfl) (by decide) (by decide)) rfl f136 (g := (mkF m 137 #[.val (.int p0), .val (.int p1), .val (.int p2), .val (.int p3), .val (.int (1 : Int32)), .val (.int (0 : Int32)), .val (.ref b103), .val (.ref b112), .unset] [(.ref b112)])) rfl (by rw [hml]; rfl) (argsL := []) (rest := []) rfl (lenOf own_pd15 rfl) rfl (by show 2 * 0 + _ ≤ _; exact Nat.le_of_eq rfl) (hb hby at_137) (by decide) (by decide)
        obtain ⟨Nq138, e138, q138⟩ := q138
        have N138 := Fr.app N133 Nq138
        rcases q138 with ⟨rfl, p140⟩ | ⟨rfl, p141⟩
        · refine go _ _ (st138) ?_
          show G (T138.setTop (mkF m 140 #[.val (.int p0), .val (.int p1), .val (.int p2), .val (.int p3), .val (.int (1 : Int32)), .val (.int (0 : Int32)), .val (.ref b103), .val (.ref b112), .unset] [(.int (1 : Int32))]))
          refine go _ _ (fun _ k => XS.istore X138.here hx rfl (hb hby at_140) rfl (l' := #[.val (.int p0), .val (.int p1), .val (.int p2), .val (.int p3), .val (.int (1 : Int32)), .val (.int (0 : Int32)), .val (.ref b103), .val (.ref b112), .val (.int (1 : Int32))]) rfl (XS.iload X138.here hx rfl (hb hby at_142) rfl (XS.iload X138.here hx rfl (hb hby at_144) rfl k))) ?_
          show G (T138.setTop (mkF m 146 #[.val (.int p0), .val (.int p1), .val (.int p2), .val (.int p3), .val (.int (1 : Int32)), .val (.int (0 : Int32)), .val (.ref b103), .val (.ref b112), .val (.int (1 : Int32))] [(.int (1 : Int32)), (.int (1 : Int32))]))
          refine go _ _ (fun _ k => XS.icmpNo X138.here hx rfl (hb hby at_146) rfl (by decide) k) ?_
          show G (T138.setTop (mkF m 149 #[.val (.int p0), .val (.int p1), .val (.int p2), .val (.int p3), .val (.int (1 : Int32)), .val (.int (0 : Int32)), .val (.ref b103), .val (.ref b112), .val (.int (1 : Int32))] []))
          refine go _ _ (fun _ k => XS.iload X138.here hx rfl (hb hby at_149) rfl (XS.aload X138.here hx rfl (hb hby at_151) rfl rfl k)) ?_
          show G (T138.setTop (mkF m 153 #[.val (.int p0), .val (.int p1), .val (.int p2), .val (.int p3), .val (.int (1 : Int32)), .val (.int (0 : Int32)), .val (.ref b103), .val (.ref b112), .val (.int (1 : Int32))] [(.ref b112), (.int (1 : Int32))]))
          obtain ⟨rv142, T142, L142, X142, q142, st142⟩ := own_vi X138 hx hZ (y := (⟨"com/example/limmat/limmat/analysis/Opacity$Verdict", "observation", "()Ljava/util/List;"⟩ : MethodName)) (z := (⟨"com/example/limmat/limmat/analysis/Opacity$Verdict", "observation", "()Ljava/util/List;"⟩ : MethodName)) hown (ow hw 206 rfl) (ow hw 207 rfl) (ow hw 209 rfl) (ow hw 208 rfl) (Or.inl rfl) (by decide) (own_bkN (W := 1) (rm34 l Z a0 hw z0 O2 P5 dd kd O_dd V_dd mr M_mr el O_el em O_em [] b112 .null T133.heap n0 (Nat.le_trans Z0 Z139) rfl f137) hZ (ow hw 210 rfl) (ow hw 101 rfl) (by decide) (by decide)) e138 f136 (g := (mkF m 153 #[.val (.int p0), .val (.int p1), .val (.int p2), .val (.int p3), .val (.int (1 : Int32)), .val (.int (0 : Int32)), .val (.ref b103), .val (.ref b112), .val (.int (1 : Int32))] [(.ref b112), (.int (1 : Int32))])) rfl (by rw [hml]; rfl) (argsL := []) (rest := [(.int (1 : Int32))]) rfl (lenOf own_pd16 rfl) rfl (by show 2 * 0 + _ ≤ _; exact Nat.le_of_eq rfl) (hb hby at_153) (by decide) (by decide)
          obtain ⟨Nq142, e142, rfl⟩ := q142
          have N142 := Fr.app N138 Nq142
          refine go _ _ (st142) ?_
          show G (T142.setTop (mkF m 156 #[.val (.int p0), .val (.int p1), .val (.int p2), .val (.int p3), .val (.int (1 : Int32)), .val (.int (0 : Int32)), .val (.ref b103), .val (.ref b112), .val (.int (1 : Int32))] [.null, (.int (1 : Int32))]))
          refine go _ _ (fun _ k => XS.ifnonnullNo X142.here hx rfl (hb hby at_156) rfl k) ?_
          show G (T142.setTop (mkF m 159 #[.val (.int p0), .val (.int p1), .val (.int p2), .val (.int p3), .val (.int (1 : Int32)), .val (.int (0 : Int32)), .val (.ref b103), .val (.ref b112), .val (.int (1 : Int32))] [(.int (1 : Int32))]))
          refine go _ _ (fun _ k => XS.iconst X142.here hx rfl (hb hby at_159) k) ?_
          show G (T142.setTop (mkF m 160 #[.val (.int p0), .val (.int p1), .val (.int p2), .val (.int p3), .val (.int (1 : Int32)), .val (.int (0 : Int32)), .val (.ref b103), .val (.ref b112), .val (.int (1 : Int32))] [(.int (1 : Int32)), (.int (1 : Int32))]))
          refine go _ _ (fun _ k => XS.goto X142.here hx rfl (pc0 := 160) (pc' := 164) rfl (hb hby at_160) (by decide) (by decide) k) ?_
          show G (T142.setTop (mkF m 164 #[.val (.int p0), .val (.int p1), .val (.int p2), .val (.int p3), .val (.int (1 : Int32)), .val (.int (0 : Int32)), .val (.ref b103), .val (.ref b112), .val (.int (1 : Int32))] [(.int (1 : Int32)), (.int (1 : Int32))]))
          refine go _ _ (fun _ k => XS.icmpNo X142.here hx rfl (hb hby at_164) rfl (by decide) k) ?_
          show G (T142.setTop (mkF m 167 #[.val (.int p0), .val (.int p1), .val (.int p2), .val (.int p3), .val (.int (1 : Int32)), .val (.int (0 : Int32)), .val (.ref b103), .val (.ref b112), .val (.int (1 : Int32))] []))
          refine go _ _ (fun _ k => XS.iconst X142.here hx rfl (hb hby at_167) k) ?_
          show G (T142.setTop (mkF m 168 #[.val (.int p0), .val (.int p1), .val (.int p2), .val (.int p3), .val (.int (1 : Int32)), .val (.int (0 : Int32)), .val (.ref b103), .val (.ref b112), .val (.int (1 : Int32))] [(.int (1 : Int32))]))
          refine go _ _ (fun _ k => XS.goto X142.here hx rfl (pc0 := 168) (pc' := 172) rfl (hb hby at_168) (by decide) (by decide) k) ?_
          show G (T142.setTop (mkF m 172 #[.val (.int p0), .val (.int p1), .val (.int p2), .val (.int p3), .val (.int (1 : Int32)), .val (.int (0 : Int32)), .val (.ref b103), .val (.ref b112), .val (.int (1 : Int32))] [(.int (1 : Int32))]))
          have K143 : Keep h0 T104.heap [] := K105.trans Kp104 (allS (Or.inr (Nat.le_of_eq g103.symm)) all0)
          have K144 : Keep h0 h112 [] := K143.ext E112
          have K145 : Keep h0 T133.heap [] := K144.trans Kp133 (allS (Or.inr (Nat.le_trans Z134 (Nat.le_of_eq g112.symm))) all0)
          refine fin T142 _ _ _ (some (.int (1 : Int32))) X142 (fun q => nomatch q) (by decide) (by decide) (by rw [e142]; exact ⟨N142, K145, rfl⟩) _ (own_retN X142 hx (z := (1 : Int32)) (t := .boolean) hret (by simp) (hb hby at_172))
        · exact absurd rfl p141
    · rw [hk102]
      show G (T101.setTop (mkF m 16 #[.val (.int p0), .val (.int p1), .val (.int p2), .val (.int p3), .val (.int z_101), .unset, .unset, .unset, .unset] [(.int (1 : Int32))]))
      refine go _ _ (fun _ k => XS.istore X101.here hx rfl (hb hby at_16) rfl (l' := #[.val (.int p0), .val (.int p1), .val (.int p2), .val (.int p3), .val (.int z_101), .val (.int (1 : Int32)), .unset, .unset, .unset]) rfl k) ?_
      show G (T101.setTop (mkF m 18 #[.val (.int p0), .val (.int p1), .val (.int p2), .val (.int p3), .val (.int z_101), .val (.int (1 : Int32)), .unset, .unset, .unset] []))
      obtain ⟨T146, h146, X146, e146, E146, A146, D146, -, st146⟩ := newO X101 hx hZ hown (ow hw 0 rfl) (ow hw 1 rfl) (ow hw 2 rfl) e101 (g := (mkF m 18 #[.val (.int p0), .val (.int p1), .val (.int p2), .val (.int p3), .val (.int z_101), .val (.int (1 : Int32)), .unset, .unset, .unset] [])) rfl (hb hby at_18) (by decide) (by decide)
      obtain ⟨b146, g146⟩ : ∃ z, z = h0.size := ⟨_, rfl⟩
      rw [← g146] at A146 D146 st146
      refine go _ _ (st146) ?_
      show G (T146.setTop (mkF m 21 #[.val (.int p0), .val (.int p1), .val (.int p2), .val (.int p3), .val (.int z_101), .val (.int (1 : Int32)), .unset, .unset, .unset] [(.ref b146)]))
      refine go _ _ (fun _ k => XS.dup X146.here hx rfl (hb hby at_21) rfl rfl k) ?_
      show G (T146.setTop (mkF m 22 #[.val (.int p0), .val (.int p1), .val (.int p2), .val (.int p3), .val (.int z_101), .val (.int (1 : Int32)), .unset, .unset, .unset] [(.ref b146), (.ref b146)]))
      have K148 : Keep h0 h146 [] := (Keep.refl h0 []).ext E146
      have F149 : Old Z n0 h146 := (Xo.keep K148 all0)
      have Z150 : h0.size ≤ h146.size := E146.1
      obtain ⟨rv147, T147, L147, X147, q147, st147⟩ := own_sp X146 hx hZ (y := (⟨"java/util/ArrayList", "<init>", "()V"⟩ : MethodName)) rfl hown (ow hw 3 rfl) (ow hw 4 rfl) (ow hw 5 rfl) (by decide) (own_bkN (W := 1) (rm0 l Z a0 hw z0 O2 P5 dd kd O_dd V_dd mr M_mr el O_el em O_em [] b146 h146 n0 (Nat.le_trans Z0 Z150) F149 A146 (D146 (Or.inl (ow hw 22 rfl)) (ty := .int) (by decide)) (D146 (Or.inl (ow hw 25 rfl)) (ty := (.array (.object "java/lang/Object"))) (by decide)) (D146 (Or.inl (ow hw 58 rfl)) (ty := .int) (by decide)) (Nat.le_trans Z0 (Nat.le_of_eq g146.symm))) hZ (ow hw 5 rfl) (ow hw 2 rfl) (by decide) (by decide)) e146 (g := (mkF m 22 #[.val (.int p0), .val (.int p1), .val (.int p2), .val (.int p3), .val (.int z_101), .val (.int (1 : Int32)), .unset, .unset, .unset] [(.ref b146), (.ref b146)])) rfl (by rw [hml]; rfl) (a := b146) (argsL := []) (rest := [(.ref b146)]) rfl (lenOf own_pd0 rfl) rfl (by show 2 * 0 + _ ≤ _; exact Nat.le_of_eq rfl) (hb hby at_22) (by decide) (by decide)
      obtain ⟨Nq147, Kp147, ⟨rfl, f151, f152, f153, f154⟩⟩ := q147
      have N147 := Fr.app N101 Nq147
      refine go _ _ (st147) ?_
      show G (T147.setTop (mkF m 25 #[.val (.int p0), .val (.int p1), .val (.int p2), .val (.int p3), .val (.int z_101), .val (.int (1 : Int32)), .unset, .unset, .unset] [(.ref b146)]))
      refine go _ _ (fun _ k => XS.astore X147.here hx rfl (hb hby at_25) rfl rfl (l' := #[.val (.int p0), .val (.int p1), .val (.int p2), .val (.int p3), .val (.int z_101), .val (.int (1 : Int32)), .val (.ref b146), .unset, .unset]) rfl (XS.iload X147.here hx rfl (hb hby at_27) rfl (XS.iconst X147.here hx rfl (hb hby at_29) k))) ?_
      show G (T147.setTop (mkF m 30 #[.val (.int p0), .val (.int p1), .val (.int p2), .val (.int p3), .val (.int z_101), .val (.int (1 : Int32)), .val (.ref b146), .unset, .unset] [(.int (1 : Int32)), (.int (1 : Int32))]))
      refine go _ _ (fun _ k => XS.icmpNo X147.here hx rfl (hb hby at_30) rfl (by decide) k) ?_
      show G (T147.setTop (mkF m 33 #[.val (.int p0), .val (.int p1), .val (.int p2), .val (.int p3), .val (.int z_101), .val (.int (1 : Int32)), .val (.ref b146), .unset, .unset] []))
      refine go _ _ (fun _ k => XS.aload X147.here hx rfl (hb hby at_33) rfl rfl (XS.iloadN X147.here hx rfl (hb hby at_35) rfl (XS.sipush X147.here hx rfl (hb hby at_36) (XS.iand X147.here hx rfl (hb hby at_39) rfl (XS.i2c X147.here hx rfl (hb hby at_40) rfl k))))) ?_
      show G (T147.setTop (mkF m 41 #[.val (.int p0), .val (.int p1), .val (.int p2), .val (.int p3), .val (.int z_101), .val (.int (1 : Int32)), .val (.ref b146), .unset, .unset] [(.int ((p2 &&& (255 : Int32)).toUInt32.toUInt16.toUInt32.toInt32)), (.ref b146)]))
      have K156 : Keep h146 T147.heap [b146] := (Keep.refl h146 [b146]).trans Kp147 (allS (Or.inl (List.mem_of_getElem? (i := 0) rfl)) all0)
      have F157 : Old Z n0 T147.heap := (F149.keep K156 (allS (Nat.le_trans Z0 (Nat.le_of_eq g146.symm)) all0))
      have Z158 : h0.size ≤ T147.heap.size := Nat.le_trans Z150 Kp147.1
      obtain ⟨rv155, T155, L155, X155, q155, st155⟩ := own_st X147 hx hZ (y := (⟨"java/lang/String", "valueOf", "(C)Ljava/lang/String;"⟩ : MethodName)) hown (ow hw 26 rfl) (ow hw 27 rfl) (ow hw 28 rfl) (ow hw 29 rfl) (by decide) (own_bkN (W := 1) (rm4 l Z a0 hw z0 O2 P5 dd kd O_dd V_dd mr M_mr el O_el em O_em [] ((p2 &&& (255 : Int32)).toUInt32.toUInt16.toUInt32.toInt32) T147.heap n0 (Nat.le_trans Z0 Z158) F157 ((own_and255 _).2)) hZ (ow hw 29 rfl) (ow hw 28 rfl) (by decide) (by decide)) rfl (g := (mkF m 41 #[.val (.int p0), .val (.int p1), .val (.int p2), .val (.int p3), .val (.int z_101), .val (.int (1 : Int32)), .val (.ref b146), .unset, .unset] [(.int ((p2 &&& (255 : Int32)).toUInt32.toUInt16.toUInt32.toInt32)), (.ref b146)])) rfl (by rw [hml]; rfl) (argsL := [(.int ((p2 &&& (255 : Int32)).toUInt32.toUInt16.toUInt32.toInt32))]) (rest := [(.ref b146)]) rfl (lenOf own_pd19 rfl) rfl (by show 2 * 0 + _ ≤ _; exact Nat.le_of_eq rfl) (hb hby at_41) (by decide) (by decide)
      obtain ⟨Nq155, Kp155, ⟨b_159, rfl, z160, f161⟩⟩ := q155
      have N155 := Fr.app N147 Nq155
      refine go _ _ (st155) ?_
      show G (T155.setTop (mkF m 44 #[.val (.int p0), .val (.int p1), .val (.int p2), .val (.int p3), .val (.int z_101), .val (.int (1 : Int32)), .val (.ref b146), .unset, .unset] [(.ref b_159), (.ref b146)]))
      have K163 : Keep T147.heap T155.heap [] := (Keep.refl T147.heap []).trans Kp155 all0
      have F164 : Old Z n0 T155.heap := (F157.keep K163 all0)
      have F165 : Exa Z T155.heap b146 "java/util/ArrayList" := (f151.keep K163)
      have F166 : Fld Z T155.heap b146 "java/util/ArrayList" "size" "I" (.int (0 : Int32)) := (f154.keep K163 nin0)
      have F167 : Fld Z T155.heap b146 "java/util/AbstractList" "modCount" "I" (.int (0 : Int32)) := (f152.keep K163 nin0)
      have F168 : Fld Z T155.heap b146 "java/util/ArrayList" "elementData" "[Ljava/lang/Object;" (.ref dd) := (f153.keep K163 nin0)
      have Z169 : h0.size ≤ T155.heap.size := Nat.le_trans Z158 Kp155.1
      obtain ⟨rv162, T162, L162, X162, q162, st162⟩ := own_vi X155 hx hZ (y := (⟨"java/util/ArrayList", "add", "(Ljava/lang/Object;)Z"⟩ : MethodName)) (z := (⟨"java/util/ArrayList", "add", "(Ljava/lang/Object;)Z"⟩ : MethodName)) hown (ow hw 50 rfl) (ow hw 51 rfl) (ow hw 53 rfl) (ow hw 52 rfl) (Or.inl rfl) (by decide) (own_bkN (W := 0) (rmAdd0 l Z a0 hw z0 O2 P5 dd kd O_dd V_dd mr M_mr el O_el em O_em [] b146 b_159 (0 : Int32) T155.heap n0 (Nat.le_trans Z0 Z169) F164 F165 F166 F167 f161 F168 (Nat.le_trans Z0 (Nat.le_of_eq g146.symm))) hZ (ow hw 54 rfl) (ow hw 2 rfl) (by decide) (by decide)) rfl F165 (g := (mkF m 44 #[.val (.int p0), .val (.int p1), .val (.int p2), .val (.int p3), .val (.int z_101), .val (.int (1 : Int32)), .val (.ref b146), .unset, .unset] [(.ref b_159), (.ref b146)])) rfl (by rw [hml]; rfl) (argsL := [(.ref b_159)]) (rest := []) rfl (lenOf own_pd20 rfl) rfl (by show 2 * 0 + _ ≤ _; exact Nat.le_of_eq rfl) (hb hby at_44) (by decide) (by decide)
      obtain ⟨Nq162, Kp162, ⟨b_170, kb_171, rfl, z172, f173, f174, f175, f176, f177, f178, f179⟩⟩ := q162
      have N162 := Fr.app N155 Nq162
      refine go _ _ (st162) ?_
      show G (T162.setTop (mkF m 47 #[.val (.int p0), .val (.int p1), .val (.int p2), .val (.int p3), .val (.int z_101), .val (.int (1 : Int32)), .val (.ref b146), .unset, .unset] [(.int (1 : Int32))]))
      refine go _ _ (fun _ k => XS.pop X162.here hx rfl (hb hby at_47) rfl rfl (XS.iload X162.here hx rfl (hb hby at_48) rfl (XS.iconst X162.here hx rfl (hb hby at_50) k))) ?_
      show G (T162.setTop (mkF m 51 #[.val (.int p0), .val (.int p1), .val (.int p2), .val (.int p3), .val (.int z_101), .val (.int (1 : Int32)), .val (.ref b146), .unset, .unset] [(.int (2 : Int32)), (.int (1 : Int32))]))
      refine go _ _ (fun _ k => XS.icmpYes X162.here hx rfl (pc0 := 51) (pc' := 69) rfl (hb hby at_51) rfl (by decide) (by decide) (by decide) k) ?_
      show G (T162.setTop (mkF m 69 #[.val (.int p0), .val (.int p1), .val (.int p2), .val (.int p3), .val (.int z_101), .val (.int (1 : Int32)), .val (.ref b146), .unset, .unset] []))
      refine go _ _ (fun _ k => XS.iload X162.here hx rfl (hb hby at_69) rfl (XS.iconst X162.here hx rfl (hb hby at_71) k)) ?_
      show G (T162.setTop (mkF m 72 #[.val (.int p0), .val (.int p1), .val (.int p2), .val (.int p3), .val (.int z_101), .val (.int (1 : Int32)), .val (.ref b146), .unset, .unset] [(.int (3 : Int32)), (.int (1 : Int32))]))
      refine go _ _ (fun _ k => XS.icmpYes X162.here hx rfl (pc0 := 72) (pc' := 115) rfl (hb hby at_72) rfl (by decide) (by decide) (by decide) k) ?_
      show G (T162.setTop (mkF m 115 #[.val (.int p0), .val (.int p1), .val (.int p2), .val (.int p3), .val (.int z_101), .val (.int (1 : Int32)), .val (.ref b146), .unset, .unset] []))
      obtain ⟨T180, h180, X180, e180, E180, A180, D180, -, st180⟩ := newO X162 hx hZ hown (ow hw 99 rfl) (ow hw 100 rfl) (ow hw 101 rfl) rfl (g := (mkF m 115 #[.val (.int p0), .val (.int p1), .val (.int p2), .val (.int p3), .val (.int z_101), .val (.int (1 : Int32)), .val (.ref b146), .unset, .unset] [])) rfl (hb hby at_115) (by decide) (by decide)
      obtain ⟨b180, g180⟩ : ∃ z, z = T162.heap.size := ⟨_, rfl⟩
      rw [← g180] at A180 D180 st180
      refine go _ _ (st180) ?_
      show G (T180.setTop (mkF m 118 #[.val (.int p0), .val (.int p1), .val (.int p2), .val (.int p3), .val (.int z_101), .val (.int (1 : Int32)), .val (.ref b146), .unset, .unset] [(.ref b180)]))
      refine go _ _ (fun _ k => XS.dup X180.here hx rfl (hb hby at_118) rfl rfl (XS.iload X180.here hx rfl (hb hby at_119) rfl k)) ?_
      show G (T180.setTop (mkF m 121 #[.val (.int p0), .val (.int p1), .val (.int p2), .val (.int p3), .val (.int z_101), .val (.int (1 : Int32)), .val (.ref b146), .unset, .unset] [(.int z_101), (.ref b180), (.ref b180)]))
      rcases pj101_z0 with rfl | rfl
      · show G (T180.setTop (mkF m 121 #[.val (.int p0), .val (.int p1), .val (.int p2), .val (.int p3), .val (.int (0 : Int32)), .val (.int (1 : Int32)), .val (.ref b146), .unset, .unset] [(.int (0 : Int32)), (.ref b180), (.ref b180)]))
        refine go _ _ (fun _ k => XS.ifYes X180.here hx rfl (pc0 := 121) (pc' := 128) rfl (hb hby at_121) rfl (by decide) (by decide) (by decide) k) ?_
        show G (T180.setTop (mkF m 128 #[.val (.int p0), .val (.int p1), .val (.int p2), .val (.int p3), .val (.int (0 : Int32)), .val (.int (1 : Int32)), .val (.ref b146), .unset, .unset] [(.ref b180), (.ref b180)]))
        refine go _ _ (fun _ k => XS.aload X180.here hx rfl (hb hby at_128) rfl rfl k) ?_
        show G (T180.setTop (mkF m 130 #[.val (.int p0), .val (.int p1), .val (.int p2), .val (.int p3), .val (.int (0 : Int32)), .val (.int (1 : Int32)), .val (.ref b146), .unset, .unset] [(.ref b146), (.ref b180), (.ref b180)]))
        have K182 : Keep T155.heap T162.heap [b146] := (Keep.refl T155.heap [b146]).trans Kp162 (allS (Or.inl (List.mem_of_getElem? (i := 0) rfl)) all0)
        have K183 : Keep T155.heap h180 [b146] := K182.ext E180
        have F184 : Old Z n0 h180 := (F164.keep K183 (allS (Nat.le_trans Z0 (Nat.le_of_eq g146.symm)) all0))
        have K185 : Keep T162.heap h180 [] := (Keep.refl T162.heap []).ext E180
        have F186 : Exa Z h180 b146 "java/util/ArrayList" := (f173.keep K185)
        have F187 : Fld Z h180 b146 "java/util/ArrayList" "elementData" "[Ljava/lang/Object;" (.ref b_170) := (f174.keep K185 nin0)
        have F188 : Fld Z h180 b146 "java/util/ArrayList" "size" "I" (.int (1 : Int32)) := (f175.keep K185 nin0)
        have F189 : Exa Z h180 b_170 "[Ljava/lang/Object;" := (f177.keep K185)
        have F190 : Arv Z h180 b_170 kb_171 (.object "java/lang/Object") (10 : Int32) [(.ref b_159)] .null := (f178.keep K185 nin0)
        have F191 : Exa Z h180 b_159 "java/lang/String" := (f161.keep K183)
        have Z192 : h0.size ≤ T162.heap.size := Nat.le_trans Z169 Kp162.1
        have Z193 : h0.size ≤ h180.size := Nat.le_trans Z192 E180.1
        obtain ⟨rv181, T181, L181, X181, q181, st181⟩ := own_sp X180 hx hZ (y := (⟨"com/example/limmat/limmat/analysis/Opacity$Verdict", "<init>", "(Ljava/util/List;)V"⟩ : MethodName)) rfl hown (ow hw 102 rfl) (ow hw 103 rfl) (ow hw 104 rfl) (by decide) (own_bkN (W := 1) (rmV1 l Z a0 hw z0 O2 P5 dd kd O_dd V_dd mr M_mr el O_el em O_em [] b180 b146 b_170 kb_171 b_159 h180 n0 (Nat.le_trans Z0 Z193) A180 (D180 (Or.inr (ow hw 200 rfl)) (ty := (.object "java/util/List")) (by decide)) F184 F186 F187 F188 F189 F190 F191 (Nat.le_trans (Nat.le_trans Z0 Z192) (Nat.le_of_eq g180.symm))) hZ (ow hw 104 rfl) (ow hw 101 rfl) (by decide) (by decide)) e180 (g := (mkF m 130 #[.val (.int p0), .val (.int p1), .val (.int p2), .val (.int p3), .val (.int (0 : Int32)), .val (.int (1 : Int32)), .val (.ref b146), .unset, .unset] [(.ref b146), (.ref b180), (.ref b180)])) rfl (by rw [hml]; rfl) (a := b180) (argsL := [(.ref b146)]) (rest := [(.ref b180)]) rfl (lenOf own_pd18 rfl) rfl (by show 2 * 0 + _ ≤ _; exact Nat.le_of_eq rfl) (hb hby at_130) (by decide) (by decide)
        obtain ⟨Nq181, Kp181, ⟨o_194, rfl, f195, f196⟩⟩ := q181
        have N181 := Fr.app N162 Nq181
        refine go _ _ (st181) ?_
        show G (T181.setTop (mkF m 133 #[.val (.int p0), .val (.int p1), .val (.int p2), .val (.int p3), .val (.int (0 : Int32)), .val (.int (1 : Int32)), .val (.ref b146), .unset, .unset] [(.ref b180)]))
        refine go _ _ (fun _ k => XS.astore X181.here hx rfl (hb hby at_133) rfl rfl (l' := #[.val (.int p0), .val (.int p1), .val (.int p2), .val (.int p3), .val (.int (0 : Int32)), .val (.int (1 : Int32)), .val (.ref b146), .val (.ref b180), .unset]) rfl (XS.aload X181.here hx rfl (hb hby at_135) rfl rfl k)) ?_
        show G (T181.setTop (mkF m 137 #[.val (.int p0), .val (.int p1), .val (.int p2), .val (.int p3), .val (.int (0 : Int32)), .val (.int (1 : Int32)), .val (.ref b146), .val (.ref b180), .unset] [(.ref b180)]))
        have Z198 : h0.size ≤ T181.heap.size := Nat.le_trans Z193 Kp181.1
        obtain ⟨rv197, T197, L197, X197, q197, st197⟩ := own_vi X181 hx hZ (y := (⟨"com/example/limmat/limmat/analysis/Opacity$Verdict", "holds", "()Z"⟩ : MethodName)) (z := (⟨"com/example/limmat/limmat/analysis/Opacity$Verdict", "holds", "()Z"⟩ : MethodName)) hown (ow hw 201 rfl) (ow hw 202 rfl) (ow hw 204 rfl) (ow hw 203 rfl) (Or.inl rfl) (by decide) (own_bkN (W := 0) (rm33 l Z a0 hw z0 O2 P5 dd kd O_dd V_dd mr M_mr el O_el em O_em [] b180 (.ref o_194) T181.heap n0 (Nat.le_trans Z0 Z198) rfl f196) hZ (ow hw 205 rfl) (ow hw 101 rfl) (by decide) (by decide)) rfl f195 (g := (mkF m 137 #[.val (.int p0), .val (.int p1), .val (.int p2), .val (.int p3), .val (.int (0 : Int32)), .val (.int (1 : Int32)), .val (.ref b146), .val (.ref b180), .unset] [(.ref b180)])) rfl (by rw [hml]; rfl) (argsL := []) (rest := []) rfl (lenOf own_pd15 rfl) rfl (by show 2 * 0 + _ ≤ _; exact Nat.le_of_eq rfl) (hb hby at_137) (by decide) (by decide)
        obtain ⟨Nq197, e197, q197⟩ := q197
        have N197 := Fr.app N181 Nq197
        rcases q197 with ⟨rfl, p199⟩ | ⟨rfl, p200⟩
        · exact absurd p199 (fun q => nomatch q)
        · refine go _ _ (st197) ?_
          show G (T197.setTop (mkF m 140 #[.val (.int p0), .val (.int p1), .val (.int p2), .val (.int p3), .val (.int (0 : Int32)), .val (.int (1 : Int32)), .val (.ref b146), .val (.ref b180), .unset] [(.int (0 : Int32))]))
          refine go _ _ (fun _ k => XS.istore X197.here hx rfl (hb hby at_140) rfl (l' := #[.val (.int p0), .val (.int p1), .val (.int p2), .val (.int p3), .val (.int (0 : Int32)), .val (.int (1 : Int32)), .val (.ref b146), .val (.ref b180), .val (.int (0 : Int32))]) rfl (XS.iload X197.here hx rfl (hb hby at_142) rfl (XS.iload X197.here hx rfl (hb hby at_144) rfl k))) ?_
          show G (T197.setTop (mkF m 146 #[.val (.int p0), .val (.int p1), .val (.int p2), .val (.int p3), .val (.int (0 : Int32)), .val (.int (1 : Int32)), .val (.ref b146), .val (.ref b180), .val (.int (0 : Int32))] [(.int (0 : Int32)), (.int (0 : Int32))]))
          refine go _ _ (fun _ k => XS.icmpNo X197.here hx rfl (hb hby at_146) rfl (by decide) k) ?_
          show G (T197.setTop (mkF m 149 #[.val (.int p0), .val (.int p1), .val (.int p2), .val (.int p3), .val (.int (0 : Int32)), .val (.int (1 : Int32)), .val (.ref b146), .val (.ref b180), .val (.int (0 : Int32))] []))
          refine go _ _ (fun _ k => XS.iload X197.here hx rfl (hb hby at_149) rfl (XS.aload X197.here hx rfl (hb hby at_151) rfl rfl k)) ?_
          show G (T197.setTop (mkF m 153 #[.val (.int p0), .val (.int p1), .val (.int p2), .val (.int p3), .val (.int (0 : Int32)), .val (.int (1 : Int32)), .val (.ref b146), .val (.ref b180), .val (.int (0 : Int32))] [(.ref b180), (.int (0 : Int32))]))
          obtain ⟨rv201, T201, L201, X201, q201, st201⟩ := own_vi X197 hx hZ (y := (⟨"com/example/limmat/limmat/analysis/Opacity$Verdict", "observation", "()Ljava/util/List;"⟩ : MethodName)) (z := (⟨"com/example/limmat/limmat/analysis/Opacity$Verdict", "observation", "()Ljava/util/List;"⟩ : MethodName)) hown (ow hw 206 rfl) (ow hw 207 rfl) (ow hw 209 rfl) (ow hw 208 rfl) (Or.inl rfl) (by decide) (own_bkN (W := 1) (rm34 l Z a0 hw z0 O2 P5 dd kd O_dd V_dd mr M_mr el O_el em O_em [] b180 (.ref o_194) T181.heap n0 (Nat.le_trans Z0 Z198) rfl f196) hZ (ow hw 210 rfl) (ow hw 101 rfl) (by decide) (by decide)) e197 f195 (g := (mkF m 153 #[.val (.int p0), .val (.int p1), .val (.int p2), .val (.int p3), .val (.int (0 : Int32)), .val (.int (1 : Int32)), .val (.ref b146), .val (.ref b180), .val (.int (0 : Int32))] [(.ref b180), (.int (0 : Int32))])) rfl (by rw [hml]; rfl) (argsL := []) (rest := [(.int (0 : Int32))]) rfl (lenOf own_pd16 rfl) rfl (by show 2 * 0 + _ ≤ _; exact Nat.le_of_eq rfl) (hb hby at_153) (by decide) (by decide)
          obtain ⟨Nq201, e201, rfl⟩ := q201
          have N201 := Fr.app N197 Nq201
          refine go _ _ (st201) ?_
          show G (T201.setTop (mkF m 156 #[.val (.int p0), .val (.int p1), .val (.int p2), .val (.int p3), .val (.int (0 : Int32)), .val (.int (1 : Int32)), .val (.ref b146), .val (.ref b180), .val (.int (0 : Int32))] [(.ref o_194), (.int (0 : Int32))]))
          refine go _ _ (fun _ k => XS.ifnonnullYes X201.here hx rfl (pc0 := 156) (pc' := 163) rfl (hb hby at_156) rfl (by decide) (by decide) k) ?_
          show G (T201.setTop (mkF m 163 #[.val (.int p0), .val (.int p1), .val (.int p2), .val (.int p3), .val (.int (0 : Int32)), .val (.int (1 : Int32)), .val (.ref b146), .val (.ref b180), .val (.int (0 : Int32))] [(.int (0 : Int32))]))
          refine go _ _ (fun _ k => XS.iconst X201.here hx rfl (hb hby at_163) k) ?_
          show G (T201.setTop (mkF m 164 #[.val (.int p0), .val (.int p1), .val (.int p2), .val (.int p3), .val (.int (0 : Int32)), .val (.int (1 : Int32)), .val (.ref b146), .val (.ref b180), .val (.int (0 : Int32))] [(.int (0 : Int32)), (.int (0 : Int32))]))
          refine go _ _ (fun _ k => XS.icmpNo X201.here hx rfl (hb hby at_164) rfl (by decide) k) ?_
          show G (T201.setTop (mkF m 167 #[.val (.int p0), .val (.int p1), .val (.int p2), .val (.int p3), .val (.int (0 : Int32)), .val (.int (1 : Int32)), .val (.ref b146), .val (.ref b180), .val (.int (0 : Int32))] []))
          refine go _ _ (fun _ k => XS.iconst X201.here hx rfl (hb hby at_167) k) ?_
          show G (T201.setTop (mkF m 168 #[.val (.int p0), .val (.int p1), .val (.int p2), .val (.int p3), .val (.int (0 : Int32)), .val (.int (1 : Int32)), .val (.ref b146), .val (.ref b180), .val (.int (0 : Int32))] [(.int (1 : Int32))]))
          refine go _ _ (fun _ k => XS.goto X201.here hx rfl (pc0 := 168) (pc' := 172) rfl (hb hby at_168) (by decide) (by decide) k) ?_
          show G (T201.setTop (mkF m 172 #[.val (.int p0), .val (.int p1), .val (.int p2), .val (.int p3), .val (.int (0 : Int32)), .val (.int (1 : Int32)), .val (.ref b146), .val (.ref b180), .val (.int (0 : Int32))] [(.int (1 : Int32))]))
          have K202 : Keep h0 T147.heap [] := K148.trans Kp147 (allS (Or.inr (Nat.le_of_eq g146.symm)) all0)
          have K203 : Keep h0 T155.heap [] := K202.trans Kp155 all0
          have K204 : Keep h0 T162.heap [] := K203.trans Kp162 (allS (Or.inr (Nat.le_of_eq g146.symm)) all0)
          have K205 : Keep h0 h180 [] := K204.ext E180
          have K206 : Keep h0 T181.heap [] := K205.trans Kp181 (allS (Or.inr (Nat.le_trans Z192 (Nat.le_of_eq g180.symm))) all0)
          refine fin T201 _ _ _ (some (.int (1 : Int32))) X201 (fun q => nomatch q) (by decide) (by decide) (by rw [e201]; exact ⟨N201, K206, rfl⟩) _ (own_retN X201 hx (z := (1 : Int32)) (t := .boolean) hret (by simp) (hb hby at_172))
      · show G (T180.setTop (mkF m 121 #[.val (.int p0), .val (.int p1), .val (.int p2), .val (.int p3), .val (.int (1 : Int32)), .val (.int (1 : Int32)), .val (.ref b146), .unset, .unset] [(.int (1 : Int32)), (.ref b180), (.ref b180)]))
        refine go _ _ (fun _ k => XS.ifNo X180.here hx rfl (hb hby at_121) rfl (by decide) k) ?_
        show G (T180.setTop (mkF m 124 #[.val (.int p0), .val (.int p1), .val (.int p2), .val (.int p3), .val (.int (1 : Int32)), .val (.int (1 : Int32)), .val (.ref b146), .unset, .unset] [(.ref b180), (.ref b180)]))
        refine go _ _ (fun _ k => XS.aconstNull X180.here hx rfl (hb hby at_124) k) ?_
        show G (T180.setTop (mkF m 125 #[.val (.int p0), .val (.int p1), .val (.int p2), .val (.int p3), .val (.int (1 : Int32)), .val (.int (1 : Int32)), .val (.ref b146), .unset, .unset] [.null, (.ref b180), (.ref b180)]))
        refine go _ _ (fun _ k => XS.goto X180.here hx rfl (pc0 := 125) (pc' := 130) rfl (hb hby at_125) (by decide) (by decide) k) ?_
        show G (T180.setTop (mkF m 130 #[.val (.int p0), .val (.int p1), .val (.int p2), .val (.int p3), .val (.int (1 : Int32)), .val (.int (1 : Int32)), .val (.ref b146), .unset, .unset] [.null, (.ref b180), (.ref b180)]))
        have Z208 : h0.size ≤ T162.heap.size := Nat.le_trans Z169 Kp162.1
        have Z209 : h0.size ≤ h180.size := Nat.le_trans Z208 E180.1
        obtain ⟨rv207, T207, L207, X207, q207, st207⟩ := own_sp X180 hx hZ (y := (⟨"com/example/limmat/limmat/analysis/Opacity$Verdict", "<init>", "(Ljava/util/List;)V"⟩ : MethodName)) rfl hown (ow hw 102 rfl) (ow hw 103 rfl) (ow hw 104 rfl) (by decide) (own_bkN (W := 1) (rmVn l Z a0 hw z0 O2 P5 dd kd O_dd V_dd mr M_mr el O_el em O_em [] b180 h180 n0 (Nat.le_trans Z0 Z209) A180 (D180 (Or.inr (ow hw 200 rfl)) (ty := (.object "java/util/List")) (by decide)) (Nat.le_trans (Nat.le_trans Z0 Z208) (Nat.le_of_eq g180.symm))) hZ (ow hw 104 rfl) (ow hw 101 rfl) (by decide) (by decide)) e180 (g := (mkF m 130 #[.val (.int p0), .val (.int p1), .val (.int p2), .val (.int p3), .val (.int (1 : Int32)), .val (.int (1 : Int32)), .val (.ref b146), .unset, .unset] [.null, (.ref b180), (.ref b180)])) rfl (by rw [hml]; rfl) (a := b180) (argsL := [.null]) (rest := [(.ref b180)]) rfl (lenOf own_pd18 rfl) rfl (by show 2 * 0 + _ ≤ _; exact Nat.le_of_eq rfl) (hb hby at_130) (by decide) (by decide)
        obtain ⟨Nq207, Kp207, ⟨rfl, f210, f211⟩⟩ := q207
        have N207 := Fr.app N162 Nq207
        refine go _ _ (st207) ?_
        show G (T207.setTop (mkF m 133 #[.val (.int p0), .val (.int p1), .val (.int p2), .val (.int p3), .val (.int (1 : Int32)), .val (.int (1 : Int32)), .val (.ref b146), .unset, .unset] [(.ref b180)]))
        refine go _ _ (fun _ k => XS.astore X207.here hx rfl (hb hby at_133) rfl rfl (l' := #[.val (.int p0), .val (.int p1), .val (.int p2), .val (.int p3), .val (.int (1 : Int32)), .val (.int (1 : Int32)), .val (.ref b146), .val (.ref b180), .unset]) rfl (XS.aload X207.here hx rfl (hb hby at_135) rfl rfl k)) ?_
        show G (T207.setTop (mkF m 137 #[.val (.int p0), .val (.int p1), .val (.int p2), .val (.int p3), .val (.int (1 : Int32)), .val (.int (1 : Int32)), .val (.ref b146), .val (.ref b180), .unset] [(.ref b180)]))
        have Z213 : h0.size ≤ T207.heap.size := Nat.le_trans Z209 Kp207.1
        obtain ⟨rv212, T212, L212, X212, q212, st212⟩ := own_vi X207 hx hZ (y := (⟨"com/example/limmat/limmat/analysis/Opacity$Verdict", "holds", "()Z"⟩ : MethodName)) (z := (⟨"com/example/limmat/limmat/analysis/Opacity$Verdict", "holds", "()Z"⟩ : MethodName)) hown (ow hw 201 rfl) (ow hw 202 rfl) (ow hw 204 rfl) (ow hw 203 rfl) (Or.inl rfl) (by decide) (own_bkN (W := 0) (rm33 l Z a0 hw z0 O2 P5 dd kd O_dd V_dd mr M_mr el O_el em O_em [] b180 .null T207.heap n0 (Nat.le_trans Z0 Z213) rfl f211) hZ (ow hw 205 rfl) (ow hw 101 rfl) (by decide) (by decide)) rfl f210 (g := (mkF m 137 #[.val (.int p0), .val (.int p1), .val (.int p2), .val (.int p3), .val (.int (1 : Int32)), .val (.int (1 : Int32)), .val (.ref b146), .val (.ref b180), .unset] [(.ref b180)])) rfl (by rw [hml]; rfl) (argsL := []) (rest := []) rfl (lenOf own_pd15 rfl) rfl (by show 2 * 0 + _ ≤ _; exact Nat.le_of_eq rfl) (hb hby at_137) (by decide) (by decide)
        obtain ⟨Nq212, e212, q212⟩ := q212
        have N212 := Fr.app N207 Nq212
        rcases q212 with ⟨rfl, p214⟩ | ⟨rfl, p215⟩
        · refine go _ _ (st212) ?_
          show G (T212.setTop (mkF m 140 #[.val (.int p0), .val (.int p1), .val (.int p2), .val (.int p3), .val (.int (1 : Int32)), .val (.int (1 : Int32)), .val (.ref b146), .val (.ref b180), .unset] [(.int (1 : Int32))]))
          refine go _ _ (fun _ k => XS.istore X212.here hx rfl (hb hby at_140) rfl (l' := #[.val (.int p0), .val (.int p1), .val (.int p2), .val (.int p3), .val (.int (1 : Int32)), .val (.int (1 : Int32)), .val (.ref b146), .val (.ref b180), .val (.int (1 : Int32))]) rfl (XS.iload X212.here hx rfl (hb hby at_142) rfl (XS.iload X212.here hx rfl (hb hby at_144) rfl k))) ?_
          show G (T212.setTop (mkF m 146 #[.val (.int p0), .val (.int p1), .val (.int p2), .val (.int p3), .val (.int (1 : Int32)), .val (.int (1 : Int32)), .val (.ref b146), .val (.ref b180), .val (.int (1 : Int32))] [(.int (1 : Int32)), (.int (1 : Int32))]))
          refine go _ _ (fun _ k => XS.icmpNo X212.here hx rfl (hb hby at_146) rfl (by decide) k) ?_
          show G (T212.setTop (mkF m 149 #[.val (.int p0), .val (.int p1), .val (.int p2), .val (.int p3), .val (.int (1 : Int32)), .val (.int (1 : Int32)), .val (.ref b146), .val (.ref b180), .val (.int (1 : Int32))] []))
          refine go _ _ (fun _ k => XS.iload X212.here hx rfl (hb hby at_149) rfl (XS.aload X212.here hx rfl (hb hby at_151) rfl rfl k)) ?_
          show G (T212.setTop (mkF m 153 #[.val (.int p0), .val (.int p1), .val (.int p2), .val (.int p3), .val (.int (1 : Int32)), .val (.int (1 : Int32)), .val (.ref b146), .val (.ref b180), .val (.int (1 : Int32))] [(.ref b180), (.int (1 : Int32))]))
          obtain ⟨rv216, T216, L216, X216, q216, st216⟩ := own_vi X212 hx hZ (y := (⟨"com/example/limmat/limmat/analysis/Opacity$Verdict", "observation", "()Ljava/util/List;"⟩ : MethodName)) (z := (⟨"com/example/limmat/limmat/analysis/Opacity$Verdict", "observation", "()Ljava/util/List;"⟩ : MethodName)) hown (ow hw 206 rfl) (ow hw 207 rfl) (ow hw 209 rfl) (ow hw 208 rfl) (Or.inl rfl) (by decide) (own_bkN (W := 1) (rm34 l Z a0 hw z0 O2 P5 dd kd O_dd V_dd mr M_mr el O_el em O_em [] b180 .null T207.heap n0 (Nat.le_trans Z0 Z213) rfl f211) hZ (ow hw 210 rfl) (ow hw 101 rfl) (by decide) (by decide)) e212 f210 (g := (mkF m 153 #[.val (.int p0), .val (.int p1), .val (.int p2), .val (.int p3), .val (.int (1 : Int32)), .val (.int (1 : Int32)), .val (.ref b146), .val (.ref b180), .val (.int (1 : Int32))] [(.ref b180), (.int (1 : Int32))])) rfl (by rw [hml]; rfl) (argsL := []) (rest := [(.int (1 : Int32))]) rfl (lenOf own_pd16 rfl) rfl (by show 2 * 0 + _ ≤ _; exact Nat.le_of_eq rfl) (hb hby at_153) (by decide) (by decide)
          obtain ⟨Nq216, e216, rfl⟩ := q216
          have N216 := Fr.app N212 Nq216
          refine go _ _ (st216) ?_
          show G (T216.setTop (mkF m 156 #[.val (.int p0), .val (.int p1), .val (.int p2), .val (.int p3), .val (.int (1 : Int32)), .val (.int (1 : Int32)), .val (.ref b146), .val (.ref b180), .val (.int (1 : Int32))] [.null, (.int (1 : Int32))]))
          refine go _ _ (fun _ k => XS.ifnonnullNo X216.here hx rfl (hb hby at_156) rfl k) ?_
          show G (T216.setTop (mkF m 159 #[.val (.int p0), .val (.int p1), .val (.int p2), .val (.int p3), .val (.int (1 : Int32)), .val (.int (1 : Int32)), .val (.ref b146), .val (.ref b180), .val (.int (1 : Int32))] [(.int (1 : Int32))]))
          refine go _ _ (fun _ k => XS.iconst X216.here hx rfl (hb hby at_159) k) ?_
          show G (T216.setTop (mkF m 160 #[.val (.int p0), .val (.int p1), .val (.int p2), .val (.int p3), .val (.int (1 : Int32)), .val (.int (1 : Int32)), .val (.ref b146), .val (.ref b180), .val (.int (1 : Int32))] [(.int (1 : Int32)), (.int (1 : Int32))]))
          refine go _ _ (fun _ k => XS.goto X216.here hx rfl (pc0 := 160) (pc' := 164) rfl (hb hby at_160) (by decide) (by decide) k) ?_
          show G (T216.setTop (mkF m 164 #[.val (.int p0), .val (.int p1), .val (.int p2), .val (.int p3), .val (.int (1 : Int32)), .val (.int (1 : Int32)), .val (.ref b146), .val (.ref b180), .val (.int (1 : Int32))] [(.int (1 : Int32)), (.int (1 : Int32))]))
          refine go _ _ (fun _ k => XS.icmpNo X216.here hx rfl (hb hby at_164) rfl (by decide) k) ?_
          show G (T216.setTop (mkF m 167 #[.val (.int p0), .val (.int p1), .val (.int p2), .val (.int p3), .val (.int (1 : Int32)), .val (.int (1 : Int32)), .val (.ref b146), .val (.ref b180), .val (.int (1 : Int32))] []))
          refine go _ _ (fun _ k => XS.iconst X216.here hx rfl (hb hby at_167) k) ?_
          show G (T216.setTop (mkF m 168 #[.val (.int p0), .val (.int p1), .val (.int p2), .val (.int p3), .val (.int (1 : Int32)), .val (.int (1 : Int32)), .val (.ref b146), .val (.ref b180), .val (.int (1 : Int32))] [(.int (1 : Int32))]))
          refine go _ _ (fun _ k => XS.goto X216.here hx rfl (pc0 := 168) (pc' := 172) rfl (hb hby at_168) (by decide) (by decide) k) ?_
          show G (T216.setTop (mkF m 172 #[.val (.int p0), .val (.int p1), .val (.int p2), .val (.int p3), .val (.int (1 : Int32)), .val (.int (1 : Int32)), .val (.ref b146), .val (.ref b180), .val (.int (1 : Int32))] [(.int (1 : Int32))]))
          have K217 : Keep h0 T147.heap [] := K148.trans Kp147 (allS (Or.inr (Nat.le_of_eq g146.symm)) all0)
          have K218 : Keep h0 T155.heap [] := K217.trans Kp155 all0
          have K219 : Keep h0 T162.heap [] := K218.trans Kp162 (allS (Or.inr (Nat.le_of_eq g146.symm)) all0)
          have K220 : Keep h0 h180 [] := K219.ext E180
          have K221 : Keep h0 T207.heap [] := K220.trans Kp207 (allS (Or.inr (Nat.le_trans Z208 (Nat.le_of_eq g180.symm))) all0)
          refine fin T216 _ _ _ (some (.int (1 : Int32))) X216 (fun q => nomatch q) (by decide) (by decide) (by rw [e216]; exact ⟨N216, K221, rfl⟩) _ (own_retN X216 hx (z := (1 : Int32)) (t := .boolean) hret (by simp) (hb hby at_172))
        · exact absurd rfl p215
    · rw [hk102]
      show G (T101.setTop (mkF m 16 #[.val (.int p0), .val (.int p1), .val (.int p2), .val (.int p3), .val (.int z_101), .unset, .unset, .unset, .unset] [(.int (2 : Int32))]))
      refine go _ _ (fun _ k => XS.istore X101.here hx rfl (hb hby at_16) rfl (l' := #[.val (.int p0), .val (.int p1), .val (.int p2), .val (.int p3), .val (.int z_101), .val (.int (2 : Int32)), .unset, .unset, .unset]) rfl k) ?_
      show G (T101.setTop (mkF m 18 #[.val (.int p0), .val (.int p1), .val (.int p2), .val (.int p3), .val (.int z_101), .val (.int (2 : Int32)), .unset, .unset, .unset] []))
      obtain ⟨T222, h222, X222, e222, E222, A222, D222, -, st222⟩ := newO X101 hx hZ hown (ow hw 0 rfl) (ow hw 1 rfl) (ow hw 2 rfl) e101 (g := (mkF m 18 #[.val (.int p0), .val (.int p1), .val (.int p2), .val (.int p3), .val (.int z_101), .val (.int (2 : Int32)), .unset, .unset, .unset] [])) rfl (hb hby at_18) (by decide) (by decide)
      obtain ⟨b222, g222⟩ : ∃ z, z = h0.size := ⟨_, rfl⟩
      rw [← g222] at A222 D222 st222
      refine go _ _ (st222) ?_
      show G (T222.setTop (mkF m 21 #[.val (.int p0), .val (.int p1), .val (.int p2), .val (.int p3), .val (.int z_101), .val (.int (2 : Int32)), .unset, .unset, .unset] [(.ref b222)]))
      refine go _ _ (fun _ k => XS.dup X222.here hx rfl (hb hby at_21) rfl rfl k) ?_
      show G (T222.setTop (mkF m 22 #[.val (.int p0), .val (.int p1), .val (.int p2), .val (.int p3), .val (.int z_101), .val (.int (2 : Int32)), .unset, .unset, .unset] [(.ref b222), (.ref b222)]))
      have K224 : Keep h0 h222 [] := (Keep.refl h0 []).ext E222
      have F225 : Old Z n0 h222 := (Xo.keep K224 all0)
      have Z226 : h0.size ≤ h222.size := E222.1
      obtain ⟨rv223, T223, L223, X223, q223, st223⟩ := own_sp X222 hx hZ (y := (⟨"java/util/ArrayList", "<init>", "()V"⟩ : MethodName)) rfl hown (ow hw 3 rfl) (ow hw 4 rfl) (ow hw 5 rfl) (by decide) (own_bkN (W := 1) (rm0 l Z a0 hw z0 O2 P5 dd kd O_dd V_dd mr M_mr el O_el em O_em [] b222 h222 n0 (Nat.le_trans Z0 Z226) F225 A222 (D222 (Or.inl (ow hw 22 rfl)) (ty := .int) (by decide)) (D222 (Or.inl (ow hw 25 rfl)) (ty := (.array (.object "java/lang/Object"))) (by decide)) (D222 (Or.inl (ow hw 58 rfl)) (ty := .int) (by decide)) (Nat.le_trans Z0 (Nat.le_of_eq g222.symm))) hZ (ow hw 5 rfl) (ow hw 2 rfl) (by decide) (by decide)) e222 (g := (mkF m 22 #[.val (.int p0), .val (.int p1), .val (.int p2), .val (.int p3), .val (.int z_101), .val (.int (2 : Int32)), .unset, .unset, .unset] [(.ref b222), (.ref b222)])) rfl (by rw [hml]; rfl) (a := b222) (argsL := []) (rest := [(.ref b222)]) rfl (lenOf own_pd0 rfl) rfl (by show 2 * 0 + _ ≤ _; exact Nat.le_of_eq rfl) (hb hby at_22) (by decide) (by decide)
      obtain ⟨Nq223, Kp223, ⟨rfl, f227, f228, f229, f230⟩⟩ := q223
      have N223 := Fr.app N101 Nq223
      refine go _ _ (st223) ?_
      show G (T223.setTop (mkF m 25 #[.val (.int p0), .val (.int p1), .val (.int p2), .val (.int p3), .val (.int z_101), .val (.int (2 : Int32)), .unset, .unset, .unset] [(.ref b222)]))
      refine go _ _ (fun _ k => XS.astore X223.here hx rfl (hb hby at_25) rfl rfl (l' := #[.val (.int p0), .val (.int p1), .val (.int p2), .val (.int p3), .val (.int z_101), .val (.int (2 : Int32)), .val (.ref b222), .unset, .unset]) rfl (XS.iload X223.here hx rfl (hb hby at_27) rfl (XS.iconst X223.here hx rfl (hb hby at_29) k))) ?_
      show G (T223.setTop (mkF m 30 #[.val (.int p0), .val (.int p1), .val (.int p2), .val (.int p3), .val (.int z_101), .val (.int (2 : Int32)), .val (.ref b222), .unset, .unset] [(.int (1 : Int32)), (.int (2 : Int32))]))
      refine go _ _ (fun _ k => XS.icmpNo X223.here hx rfl (hb hby at_30) rfl (by decide) k) ?_
      show G (T223.setTop (mkF m 33 #[.val (.int p0), .val (.int p1), .val (.int p2), .val (.int p3), .val (.int z_101), .val (.int (2 : Int32)), .val (.ref b222), .unset, .unset] []))
      refine go _ _ (fun _ k => XS.aload X223.here hx rfl (hb hby at_33) rfl rfl (XS.iloadN X223.here hx rfl (hb hby at_35) rfl (XS.sipush X223.here hx rfl (hb hby at_36) (XS.iand X223.here hx rfl (hb hby at_39) rfl (XS.i2c X223.here hx rfl (hb hby at_40) rfl k))))) ?_
      show G (T223.setTop (mkF m 41 #[.val (.int p0), .val (.int p1), .val (.int p2), .val (.int p3), .val (.int z_101), .val (.int (2 : Int32)), .val (.ref b222), .unset, .unset] [(.int ((p2 &&& (255 : Int32)).toUInt32.toUInt16.toUInt32.toInt32)), (.ref b222)]))
      have K232 : Keep h222 T223.heap [b222] := (Keep.refl h222 [b222]).trans Kp223 (allS (Or.inl (List.mem_of_getElem? (i := 0) rfl)) all0)
      have F233 : Old Z n0 T223.heap := (F225.keep K232 (allS (Nat.le_trans Z0 (Nat.le_of_eq g222.symm)) all0))
      have Z234 : h0.size ≤ T223.heap.size := Nat.le_trans Z226 Kp223.1
      obtain ⟨rv231, T231, L231, X231, q231, st231⟩ := own_st X223 hx hZ (y := (⟨"java/lang/String", "valueOf", "(C)Ljava/lang/String;"⟩ : MethodName)) hown (ow hw 26 rfl) (ow hw 27 rfl) (ow hw 28 rfl) (ow hw 29 rfl) (by decide) (own_bkN (W := 1) (rm4 l Z a0 hw z0 O2 P5 dd kd O_dd V_dd mr M_mr el O_el em O_em [] ((p2 &&& (255 : Int32)).toUInt32.toUInt16.toUInt32.toInt32) T223.heap n0 (Nat.le_trans Z0 Z234) F233 ((own_and255 _).2)) hZ (ow hw 29 rfl) (ow hw 28 rfl) (by decide) (by decide)) rfl (g := (mkF m 41 #[.val (.int p0), .val (.int p1), .val (.int p2), .val (.int p3), .val (.int z_101), .val (.int (2 : Int32)), .val (.ref b222), .unset, .unset] [(.int ((p2 &&& (255 : Int32)).toUInt32.toUInt16.toUInt32.toInt32)), (.ref b222)])) rfl (by rw [hml]; rfl) (argsL := [(.int ((p2 &&& (255 : Int32)).toUInt32.toUInt16.toUInt32.toInt32))]) (rest := [(.ref b222)]) rfl (lenOf own_pd19 rfl) rfl (by show 2 * 0 + _ ≤ _; exact Nat.le_of_eq rfl) (hb hby at_41) (by decide) (by decide)
      obtain ⟨Nq231, Kp231, ⟨b_235, rfl, z236, f237⟩⟩ := q231
      have N231 := Fr.app N223 Nq231
      refine go _ _ (st231) ?_
      show G (T231.setTop (mkF m 44 #[.val (.int p0), .val (.int p1), .val (.int p2), .val (.int p3), .val (.int z_101), .val (.int (2 : Int32)), .val (.ref b222), .unset, .unset] [(.ref b_235), (.ref b222)]))
      have K239 : Keep T223.heap T231.heap [] := (Keep.refl T223.heap []).trans Kp231 all0
      have F240 : Old Z n0 T231.heap := (F233.keep K239 all0)
      have F241 : Exa Z T231.heap b222 "java/util/ArrayList" := (f227.keep K239)
      have F242 : Fld Z T231.heap b222 "java/util/ArrayList" "size" "I" (.int (0 : Int32)) := (f230.keep K239 nin0)
      have F243 : Fld Z T231.heap b222 "java/util/AbstractList" "modCount" "I" (.int (0 : Int32)) := (f228.keep K239 nin0)
      have F244 : Fld Z T231.heap b222 "java/util/ArrayList" "elementData" "[Ljava/lang/Object;" (.ref dd) := (f229.keep K239 nin0)
      have Z245 : h0.size ≤ T231.heap.size := Nat.le_trans Z234 Kp231.1
      obtain ⟨rv238, T238, L238, X238, q238, st238⟩ := own_vi X231 hx hZ (y := (⟨"java/util/ArrayList", "add", "(Ljava/lang/Object;)Z"⟩ : MethodName)) (z := (⟨"java/util/ArrayList", "add", "(Ljava/lang/Object;)Z"⟩ : MethodName)) hown (ow hw 50 rfl) (ow hw 51 rfl) (ow hw 53 rfl) (ow hw 52 rfl) (Or.inl rfl) (by decide) (own_bkN (W := 0) (rmAdd0 l Z a0 hw z0 O2 P5 dd kd O_dd V_dd mr M_mr el O_el em O_em [] b222 b_235 (0 : Int32) T231.heap n0 (Nat.le_trans Z0 Z245) F240 F241 F242 F243 f237 F244 (Nat.le_trans Z0 (Nat.le_of_eq g222.symm))) hZ (ow hw 54 rfl) (ow hw 2 rfl) (by decide) (by decide)) rfl F241 (g := (mkF m 44 #[.val (.int p0), .val (.int p1), .val (.int p2), .val (.int p3), .val (.int z_101), .val (.int (2 : Int32)), .val (.ref b222), .unset, .unset] [(.ref b_235), (.ref b222)])) rfl (by rw [hml]; rfl) (argsL := [(.ref b_235)]) (rest := []) rfl (lenOf own_pd20 rfl) rfl (by show 2 * 0 + _ ≤ _; exact Nat.le_of_eq rfl) (hb hby at_44) (by decide) (by decide)
      obtain ⟨Nq238, Kp238, ⟨b_246, kb_247, rfl, z248, f249, f250, f251, f252, f253, f254, f255⟩⟩ := q238
      have N238 := Fr.app N231 Nq238
      refine go _ _ (st238) ?_
      show G (T238.setTop (mkF m 47 #[.val (.int p0), .val (.int p1), .val (.int p2), .val (.int p3), .val (.int z_101), .val (.int (2 : Int32)), .val (.ref b222), .unset, .unset] [(.int (1 : Int32))]))
      refine go _ _ (fun _ k => XS.pop X238.here hx rfl (hb hby at_47) rfl rfl (XS.iload X238.here hx rfl (hb hby at_48) rfl (XS.iconst X238.here hx rfl (hb hby at_50) k))) ?_
      show G (T238.setTop (mkF m 51 #[.val (.int p0), .val (.int p1), .val (.int p2), .val (.int p3), .val (.int z_101), .val (.int (2 : Int32)), .val (.ref b222), .unset, .unset] [(.int (2 : Int32)), (.int (2 : Int32))]))
      refine go _ _ (fun _ k => XS.icmpNo X238.here hx rfl (hb hby at_51) rfl (by decide) k) ?_
      show G (T238.setTop (mkF m 54 #[.val (.int p0), .val (.int p1), .val (.int p2), .val (.int p3), .val (.int z_101), .val (.int (2 : Int32)), .val (.ref b222), .unset, .unset] []))
      refine go _ _ (fun _ k => XS.aload X238.here hx rfl (hb hby at_54) rfl rfl (XS.iloadN X238.here hx rfl (hb hby at_56) rfl (XS.sipush X238.here hx rfl (hb hby at_57) (XS.iand X238.here hx rfl (hb hby at_60) rfl (XS.i2c X238.here hx rfl (hb hby at_61) rfl k))))) ?_
      show G (T238.setTop (mkF m 62 #[.val (.int p0), .val (.int p1), .val (.int p2), .val (.int p3), .val (.int z_101), .val (.int (2 : Int32)), .val (.ref b222), .unset, .unset] [(.int ((p3 &&& (255 : Int32)).toUInt32.toUInt16.toUInt32.toInt32)), (.ref b222)]))
      have K257 : Keep T231.heap T238.heap [b222] := (Keep.refl T231.heap [b222]).trans Kp238 (allS (Or.inl (List.mem_of_getElem? (i := 0) rfl)) all0)
      have F258 : Old Z n0 T238.heap := (F240.keep K257 (allS (Nat.le_trans Z0 (Nat.le_of_eq g222.symm)) all0))
      have Z259 : h0.size ≤ T238.heap.size := Nat.le_trans Z245 Kp238.1
      obtain ⟨rv256, T256, L256, X256, q256, st256⟩ := own_st X238 hx hZ (y := (⟨"java/lang/String", "valueOf", "(C)Ljava/lang/String;"⟩ : MethodName)) hown (ow hw 26 rfl) (ow hw 27 rfl) (ow hw 28 rfl) (ow hw 29 rfl) (by decide) (own_bkN (W := 1) (rm4 l Z a0 hw z0 O2 P5 dd kd O_dd V_dd mr M_mr el O_el em O_em [] ((p3 &&& (255 : Int32)).toUInt32.toUInt16.toUInt32.toInt32) T238.heap n0 (Nat.le_trans Z0 Z259) F258 ((own_and255 _).2)) hZ (ow hw 29 rfl) (ow hw 28 rfl) (by decide) (by decide)) rfl (g := (mkF m 62 #[.val (.int p0), .val (.int p1), .val (.int p2), .val (.int p3), .val (.int z_101), .val (.int (2 : Int32)), .val (.ref b222), .unset, .unset] [(.int ((p3 &&& (255 : Int32)).toUInt32.toUInt16.toUInt32.toInt32)), (.ref b222)])) rfl (by rw [hml]; rfl) (argsL := [(.int ((p3 &&& (255 : Int32)).toUInt32.toUInt16.toUInt32.toInt32))]) (rest := [(.ref b222)]) rfl (lenOf own_pd19 rfl) rfl (by show 2 * 0 + _ ≤ _; exact Nat.le_of_eq rfl) (hb hby at_62) (by decide) (by decide)
      obtain ⟨Nq256, Kp256, ⟨b_260, rfl, z261, f262⟩⟩ := q256
      have N256 := Fr.app N238 Nq256
      refine go _ _ (st256) ?_
      show G (T256.setTop (mkF m 65 #[.val (.int p0), .val (.int p1), .val (.int p2), .val (.int p3), .val (.int z_101), .val (.int (2 : Int32)), .val (.ref b222), .unset, .unset] [(.ref b_260), (.ref b222)]))
      have K264 : Keep T238.heap T256.heap [] := (Keep.refl T238.heap []).trans Kp256 all0
      have F265 : Old Z n0 T256.heap := (F258.keep K264 all0)
      have F266 : Exa Z T256.heap b222 "java/util/ArrayList" := (f249.keep K264)
      have F267 : Fld Z T256.heap b222 "java/util/ArrayList" "size" "I" (.int (1 : Int32)) := (f251.keep K264 nin0)
      have F268 : Fld Z T256.heap b222 "java/util/AbstractList" "modCount" "I" (.int ((0 : Int32) + (1 : Int32))) := (f252.keep K264 nin0)
      have F269 : Fld Z T256.heap b222 "java/util/ArrayList" "elementData" "[Ljava/lang/Object;" (.ref b_246) := (f250.keep K264 nin0)
      have F270 : Exa Z T256.heap b_246 "[Ljava/lang/Object;" := (f253.keep K264)
      have F271 : Arv Z T256.heap b_246 kb_247 (.object "java/lang/Object") (10 : Int32) [(.ref b_235)] .null := (f254.keep K264 nin0)
      have F272 : Ovr Z kb_247 "java/lang/Object" := f255
      have Z273 : h0.size ≤ T256.heap.size := Nat.le_trans Z259 Kp256.1
      obtain ⟨rv263, T263, L263, X263, q263, st263⟩ := own_vi X256 hx hZ (y := (⟨"java/util/ArrayList", "add", "(Ljava/lang/Object;)Z"⟩ : MethodName)) (z := (⟨"java/util/ArrayList", "add", "(Ljava/lang/Object;)Z"⟩ : MethodName)) hown (ow hw 50 rfl) (ow hw 51 rfl) (ow hw 53 rfl) (ow hw 52 rfl) (Or.inl rfl) (by decide) (own_bkN (W := 0) (rmAdd1 l Z a0 hw z0 O2 P5 dd kd O_dd V_dd mr M_mr el O_el em O_em [] b222 b_260 ((0 : Int32) + (1 : Int32)) kb_247 b_235 b_246 T256.heap n0 (Nat.le_trans Z0 Z273) F265 F266 F267 F268 f262 F269 F270 F271 F272 (Nat.le_trans Z0 (Nat.le_of_eq g222.symm)) (Nat.le_trans (Nat.le_trans Z0 Z245) z248)) hZ (ow hw 54 rfl) (ow hw 2 rfl) (by decide) (by decide)) rfl F266 (g := (mkF m 65 #[.val (.int p0), .val (.int p1), .val (.int p2), .val (.int p3), .val (.int z_101), .val (.int (2 : Int32)), .val (.ref b222), .unset, .unset] [(.ref b_260), (.ref b222)])) rfl (by rw [hml]; rfl) (argsL := [(.ref b_260)]) (rest := []) rfl (lenOf own_pd20 rfl) rfl (by show 2 * 0 + _ ≤ _; exact Nat.le_of_eq rfl) (hb hby at_65) (by decide) (by decide)
      obtain ⟨Nq263, Kp263, ⟨rfl, f274, f275, f276, f277, f278, f279⟩⟩ := q263
      have N263 := Fr.app N256 Nq263
      refine go _ _ (st263) ?_
      show G (T263.setTop (mkF m 68 #[.val (.int p0), .val (.int p1), .val (.int p2), .val (.int p3), .val (.int z_101), .val (.int (2 : Int32)), .val (.ref b222), .unset, .unset] [(.int (1 : Int32))]))
      refine go _ _ (fun _ k => XS.pop X263.here hx rfl (hb hby at_68) rfl rfl (XS.iload X263.here hx rfl (hb hby at_69) rfl (XS.iconst X263.here hx rfl (hb hby at_71) k))) ?_
      show G (T263.setTop (mkF m 72 #[.val (.int p0), .val (.int p1), .val (.int p2), .val (.int p3), .val (.int z_101), .val (.int (2 : Int32)), .val (.ref b222), .unset, .unset] [(.int (3 : Int32)), (.int (2 : Int32))]))
      refine go _ _ (fun _ k => XS.icmpYes X263.here hx rfl (pc0 := 72) (pc' := 115) rfl (hb hby at_72) rfl (by decide) (by decide) (by decide) k) ?_
      show G (T263.setTop (mkF m 115 #[.val (.int p0), .val (.int p1), .val (.int p2), .val (.int p3), .val (.int z_101), .val (.int (2 : Int32)), .val (.ref b222), .unset, .unset] []))
      obtain ⟨T280, h280, X280, e280, E280, A280, D280, -, st280⟩ := newO X263 hx hZ hown (ow hw 99 rfl) (ow hw 100 rfl) (ow hw 101 rfl) rfl (g := (mkF m 115 #[.val (.int p0), .val (.int p1), .val (.int p2), .val (.int p3), .val (.int z_101), .val (.int (2 : Int32)), .val (.ref b222), .unset, .unset] [])) rfl (hb hby at_115) (by decide) (by decide)
      obtain ⟨b280, g280⟩ : ∃ z, z = T263.heap.size := ⟨_, rfl⟩
      rw [← g280] at A280 D280 st280
      refine go _ _ (st280) ?_
      show G (T280.setTop (mkF m 118 #[.val (.int p0), .val (.int p1), .val (.int p2), .val (.int p3), .val (.int z_101), .val (.int (2 : Int32)), .val (.ref b222), .unset, .unset] [(.ref b280)]))
      refine go _ _ (fun _ k => XS.dup X280.here hx rfl (hb hby at_118) rfl rfl (XS.iload X280.here hx rfl (hb hby at_119) rfl k)) ?_
      show G (T280.setTop (mkF m 121 #[.val (.int p0), .val (.int p1), .val (.int p2), .val (.int p3), .val (.int z_101), .val (.int (2 : Int32)), .val (.ref b222), .unset, .unset] [(.int z_101), (.ref b280), (.ref b280)]))
      rcases pj101_z0 with rfl | rfl
      · show G (T280.setTop (mkF m 121 #[.val (.int p0), .val (.int p1), .val (.int p2), .val (.int p3), .val (.int (0 : Int32)), .val (.int (2 : Int32)), .val (.ref b222), .unset, .unset] [(.int (0 : Int32)), (.ref b280), (.ref b280)]))
        refine go _ _ (fun _ k => XS.ifYes X280.here hx rfl (pc0 := 121) (pc' := 128) rfl (hb hby at_121) rfl (by decide) (by decide) (by decide) k) ?_
        show G (T280.setTop (mkF m 128 #[.val (.int p0), .val (.int p1), .val (.int p2), .val (.int p3), .val (.int (0 : Int32)), .val (.int (2 : Int32)), .val (.ref b222), .unset, .unset] [(.ref b280), (.ref b280)]))
        refine go _ _ (fun _ k => XS.aload X280.here hx rfl (hb hby at_128) rfl rfl k) ?_
        show G (T280.setTop (mkF m 130 #[.val (.int p0), .val (.int p1), .val (.int p2), .val (.int p3), .val (.int (0 : Int32)), .val (.int (2 : Int32)), .val (.ref b222), .unset, .unset] [(.ref b222), (.ref b280), (.ref b280)]))
        have K282 : Keep T256.heap T263.heap [b222, b_246] := (Keep.refl T256.heap [b222, b_246]).trans Kp263 (allS (Or.inl (List.mem_of_getElem? (i := 0) rfl)) (allS (Or.inl (List.mem_of_getElem? (i := 1) rfl)) all0))
        have K283 : Keep T256.heap h280 [b222, b_246] := K282.ext E280
        have F284 : Old Z n0 h280 := (F265.keep K283 (allS (Nat.le_trans Z0 (Nat.le_of_eq g222.symm)) (allS (Nat.le_trans (Nat.le_trans Z0 Z245) z248) all0)))
        have K285 : Keep T263.heap h280 [] := (Keep.refl T263.heap []).ext E280
        have F286 : Exa Z h280 b222 "java/util/ArrayList" := (f274.keep K285)
        have F287 : Fld Z h280 b222 "java/util/ArrayList" "elementData" "[Ljava/lang/Object;" (.ref b_246) := (f275.keep K285 nin0)
        have F288 : Fld Z h280 b222 "java/util/ArrayList" "size" "I" (.int (2 : Int32)) := (f276.keep K285 nin0)
        have F289 : Exa Z h280 b_246 "[Ljava/lang/Object;" := (f278.keep K285)
        have F290 : Arv Z h280 b_246 kb_247 (.object "java/lang/Object") (10 : Int32) [(.ref b_235), (.ref b_260)] .null := (f279.keep K285 nin0)
        have K291 : Keep T231.heap T256.heap [b222] := K257.trans Kp256 all0
        have K292 : Keep T231.heap T263.heap [b222] := K291.trans Kp263 (allS (Or.inl (List.mem_of_getElem? (i := 0) rfl)) (allS (Or.inr z248) all0))
        have K293 : Keep T231.heap h280 [b222] := K292.ext E280
        have F294 : Exa Z h280 b_235 "java/lang/String" := (f237.keep K293)
        have F295 : Exa Z h280 b_260 "java/lang/String" := (f262.keep K283)
        have Z296 : h0.size ≤ T263.heap.size := Nat.le_trans Z273 Kp263.1
        have Z297 : h0.size ≤ h280.size := Nat.le_trans Z296 E280.1
        obtain ⟨rv281, T281, L281, X281, q281, st281⟩ := own_sp X280 hx hZ (y := (⟨"com/example/limmat/limmat/analysis/Opacity$Verdict", "<init>", "(Ljava/util/List;)V"⟩ : MethodName)) rfl hown (ow hw 102 rfl) (ow hw 103 rfl) (ow hw 104 rfl) (by decide) (own_bkN (W := 1) (rmV2 l Z a0 hw z0 O2 P5 dd kd O_dd V_dd mr M_mr el O_el em O_em [] b280 b222 b_246 kb_247 b_235 b_260 h280 n0 (Nat.le_trans Z0 Z297) A280 (D280 (Or.inr (ow hw 200 rfl)) (ty := (.object "java/util/List")) (by decide)) F284 F286 F287 F288 F289 F290 F294 F295 (Nat.le_trans (Nat.le_trans Z0 Z296) (Nat.le_of_eq g280.symm))) hZ (ow hw 104 rfl) (ow hw 101 rfl) (by decide) (by decide)) e280 (g := (mkF m 130 #[.val (.int p0), .val (.int p1), .val (.int p2), .val (.int p3), .val (.int (0 : Int32)), .val (.int (2 : Int32)), .val (.ref b222), .unset, .unset] [(.ref b222), (.ref b280), (.ref b280)])) rfl (by rw [hml]; rfl) (a := b280) (argsL := [(.ref b222)]) (rest := [(.ref b280)]) rfl (lenOf own_pd18 rfl) rfl (by show 2 * 0 + _ ≤ _; exact Nat.le_of_eq rfl) (hb hby at_130) (by decide) (by decide)
        obtain ⟨Nq281, Kp281, ⟨o_298, rfl, f299, f300⟩⟩ := q281
        have N281 := Fr.app N263 Nq281
        refine go _ _ (st281) ?_
        show G (T281.setTop (mkF m 133 #[.val (.int p0), .val (.int p1), .val (.int p2), .val (.int p3), .val (.int (0 : Int32)), .val (.int (2 : Int32)), .val (.ref b222), .unset, .unset] [(.ref b280)]))
        refine go _ _ (fun _ k => XS.astore X281.here hx rfl (hb hby at_133) rfl rfl (l' := #[.val (.int p0), .val (.int p1), .val (.int p2), .val (.int p3), .val (.int (0 : Int32)), .val (.int (2 : Int32)), .val (.ref b222), .val (.ref b280), .unset]) rfl (XS.aload X281.here hx rfl (hb hby at_135) rfl rfl k)) ?_
        show G (T281.setTop (mkF m 137 #[.val (.int p0), .val (.int p1), .val (.int p2), .val (.int p3), .val (.int (0 : Int32)), .val (.int (2 : Int32)), .val (.ref b222), .val (.ref b280), .unset] [(.ref b280)]))
        have Z302 : h0.size ≤ T281.heap.size := Nat.le_trans Z297 Kp281.1
        obtain ⟨rv301, T301, L301, X301, q301, st301⟩ := own_vi X281 hx hZ (y := (⟨"com/example/limmat/limmat/analysis/Opacity$Verdict", "holds", "()Z"⟩ : MethodName)) (z := (⟨"com/example/limmat/limmat/analysis/Opacity$Verdict", "holds", "()Z"⟩ : MethodName)) hown (ow hw 201 rfl) (ow hw 202 rfl) (ow hw 204 rfl) (ow hw 203 rfl) (Or.inl rfl) (by decide) (own_bkN (W := 0) (rm33 l Z a0 hw z0 O2 P5 dd kd O_dd V_dd mr M_mr el O_el em O_em [] b280 (.ref o_298) T281.heap n0 (Nat.le_trans Z0 Z302) rfl f300) hZ (ow hw 205 rfl) (ow hw 101 rfl) (by decide) (by decide)) rfl f299 (g := (mkF m 137 #[.val (.int p0), .val (.int p1), .val (.int p2), .val (.int p3), .val (.int (0 : Int32)), .val (.int (2 : Int32)), .val (.ref b222), .val (.ref b280), .unset] [(.ref b280)])) rfl (by rw [hml]; rfl) (argsL := []) (rest := []) rfl (lenOf own_pd15 rfl) rfl (by show 2 * 0 + _ ≤ _; exact Nat.le_of_eq rfl) (hb hby at_137) (by decide) (by decide)
        obtain ⟨Nq301, e301, q301⟩ := q301
        have N301 := Fr.app N281 Nq301
        rcases q301 with ⟨rfl, p303⟩ | ⟨rfl, p304⟩
        · exact absurd p303 (fun q => nomatch q)
        · refine go _ _ (st301) ?_
          show G (T301.setTop (mkF m 140 #[.val (.int p0), .val (.int p1), .val (.int p2), .val (.int p3), .val (.int (0 : Int32)), .val (.int (2 : Int32)), .val (.ref b222), .val (.ref b280), .unset] [(.int (0 : Int32))]))
          refine go _ _ (fun _ k => XS.istore X301.here hx rfl (hb hby at_140) rfl (l' := #[.val (.int p0), .val (.int p1), .val (.int p2), .val (.int p3), .val (.int (0 : Int32)), .val (.int (2 : Int32)), .val (.ref b222), .val (.ref b280), .val (.int (0 : Int32))]) rfl (XS.iload X301.here hx rfl (hb hby at_142) rfl (XS.iload X301.here hx rfl (hb hby at_144) rfl k))) ?_
          show G (T301.setTop (mkF m 146 #[.val (.int p0), .val (.int p1), .val (.int p2), .val (.int p3), .val (.int (0 : Int32)), .val (.int (2 : Int32)), .val (.ref b222), .val (.ref b280), .val (.int (0 : Int32))] [(.int (0 : Int32)), (.int (0 : Int32))]))
          refine go _ _ (fun _ k => XS.icmpNo X301.here hx rfl (hb hby at_146) rfl (by decide) k) ?_
          show G (T301.setTop (mkF m 149 #[.val (.int p0), .val (.int p1), .val (.int p2), .val (.int p3), .val (.int (0 : Int32)), .val (.int (2 : Int32)), .val (.ref b222), .val (.ref b280), .val (.int (0 : Int32))] []))
          refine go _ _ (fun _ k => XS.iload X301.here hx rfl (hb hby at_149) rfl (XS.aload X301.here hx rfl (hb hby at_151) rfl rfl k)) ?_
          show G (T301.setTop (mkF m 153 #[.val (.int p0), .val (.int p1), .val (.int p2), .val (.int p3), .val (.int (0 : Int32)), .val (.int (2 : Int32)), .val (.ref b222), .val (.ref b280), .val (.int (0 : Int32))] [(.ref b280), (.int (0 : Int32))]))
          obtain ⟨rv305, T305, L305, X305, q305, st305⟩ := own_vi X301 hx hZ (y := (⟨"com/example/limmat/limmat/analysis/Opacity$Verdict", "observation", "()Ljava/util/List;"⟩ : MethodName)) (z := (⟨"com/example/limmat/limmat/analysis/Opacity$Verdict", "observation", "()Ljava/util/List;"⟩ : MethodName)) hown (ow hw 206 rfl) (ow hw 207 rfl) (ow hw 209 rfl) (ow hw 208 rfl) (Or.inl rfl) (by decide) (own_bkN (W := 1) (rm34 l Z a0 hw z0 O2 P5 dd kd O_dd V_dd mr M_mr el O_el em O_em [] b280 (.ref o_298) T281.heap n0 (Nat.le_trans Z0 Z302) rfl f300) hZ (ow hw 210 rfl) (ow hw 101 rfl) (by decide) (by decide)) e301 f299 (g := (mkF m 153 #[.val (.int p0), .val (.int p1), .val (.int p2), .val (.int p3), .val (.int (0 : Int32)), .val (.int (2 : Int32)), .val (.ref b222), .val (.ref b280), .val (.int (0 : Int32))] [(.ref b280), (.int (0 : Int32))])) rfl (by rw [hml]; rfl) (argsL := []) (rest := [(.int (0 : Int32))]) rfl (lenOf own_pd16 rfl) rfl (by show 2 * 0 + _ ≤ _; exact Nat.le_of_eq rfl) (hb hby at_153) (by decide) (by decide)
          obtain ⟨Nq305, e305, rfl⟩ := q305
          have N305 := Fr.app N301 Nq305
          refine go _ _ (st305) ?_
          show G (T305.setTop (mkF m 156 #[.val (.int p0), .val (.int p1), .val (.int p2), .val (.int p3), .val (.int (0 : Int32)), .val (.int (2 : Int32)), .val (.ref b222), .val (.ref b280), .val (.int (0 : Int32))] [(.ref o_298), (.int (0 : Int32))]))
          refine go _ _ (fun _ k => XS.ifnonnullYes X305.here hx rfl (pc0 := 156) (pc' := 163) rfl (hb hby at_156) rfl (by decide) (by decide) k) ?_
          show G (T305.setTop (mkF m 163 #[.val (.int p0), .val (.int p1), .val (.int p2), .val (.int p3), .val (.int (0 : Int32)), .val (.int (2 : Int32)), .val (.ref b222), .val (.ref b280), .val (.int (0 : Int32))] [(.int (0 : Int32))]))
          refine go _ _ (fun _ k => XS.iconst X305.here hx rfl (hb hby at_163) k) ?_
          show G (T305.setTop (mkF m 164 #[.val (.int p0), .val (.int p1), .val (.int p2), .val (.int p3), .val (.int (0 : Int32)), .val (.int (2 : Int32)), .val (.ref b222), .val (.ref b280), .val (.int (0 : Int32))] [(.int (0 : Int32)), (.int (0 : Int32))]))
          refine go _ _ (fun _ k => XS.icmpNo X305.here hx rfl (hb hby at_164) rfl (by decide) k) ?_
          show G (T305.setTop (mkF m 167 #[.val (.int p0), .val (.int p1), .val (.int p2), .val (.int p3), .val (.int (0 : Int32)), .val (.int (2 : Int32)), .val (.ref b222), .val (.ref b280), .val (.int (0 : Int32))] []))
          refine go _ _ (fun _ k => XS.iconst X305.here hx rfl (hb hby at_167) k) ?_
          show G (T305.setTop (mkF m 168 #[.val (.int p0), .val (.int p1), .val (.int p2), .val (.int p3), .val (.int (0 : Int32)), .val (.int (2 : Int32)), .val (.ref b222), .val (.ref b280), .val (.int (0 : Int32))] [(.int (1 : Int32))]))
          refine go _ _ (fun _ k => XS.goto X305.here hx rfl (pc0 := 168) (pc' := 172) rfl (hb hby at_168) (by decide) (by decide) k) ?_
          show G (T305.setTop (mkF m 172 #[.val (.int p0), .val (.int p1), .val (.int p2), .val (.int p3), .val (.int (0 : Int32)), .val (.int (2 : Int32)), .val (.ref b222), .val (.ref b280), .val (.int (0 : Int32))] [(.int (1 : Int32))]))
          have K306 : Keep h0 T223.heap [] := K224.trans Kp223 (allS (Or.inr (Nat.le_of_eq g222.symm)) all0)
          have K307 : Keep h0 T231.heap [] := K306.trans Kp231 all0
          have K308 : Keep h0 T238.heap [] := K307.trans Kp238 (allS (Or.inr (Nat.le_of_eq g222.symm)) all0)
          have K309 : Keep h0 T256.heap [] := K308.trans Kp256 all0
          have K310 : Keep h0 T263.heap [] := K309.trans Kp263 (allS (Or.inr (Nat.le_of_eq g222.symm)) (allS (Or.inr (Nat.le_trans Z245 z248)) all0))
          have K311 : Keep h0 h280 [] := K310.ext E280
          have K312 : Keep h0 T281.heap [] := K311.trans Kp281 (allS (Or.inr (Nat.le_trans Z296 (Nat.le_of_eq g280.symm))) all0)
          refine fin T305 _ _ _ (some (.int (1 : Int32))) X305 (fun q => nomatch q) (by decide) (by decide) (by rw [e305]; exact ⟨N305, K312, rfl⟩) _ (own_retN X305 hx (z := (1 : Int32)) (t := .boolean) hret (by simp) (hb hby at_172))
      · show G (T280.setTop (mkF m 121 #[.val (.int p0), .val (.int p1), .val (.int p2), .val (.int p3), .val (.int (1 : Int32)), .val (.int (2 : Int32)), .val (.ref b222), .unset, .unset] [(.int (1 : Int32)), (.ref b280), (.ref b280)]))
        refine go _ _ (fun _ k => XS.ifNo X280.here hx rfl (hb hby at_121) rfl (by decide) k) ?_
        show G (T280.setTop (mkF m 124 #[.val (.int p0), .val (.int p1), .val (.int p2), .val (.int p3), .val (.int (1 : Int32)), .val (.int (2 : Int32)), .val (.ref b222), .unset, .unset] [(.ref b280), (.ref b280)]))
        refine go _ _ (fun _ k => XS.aconstNull X280.here hx rfl (hb hby at_124) k) ?_
        show G (T280.setTop (mkF m 125 #[.val (.int p0), .val (.int p1), .val (.int p2), .val (.int p3), .val (.int (1 : Int32)), .val (.int (2 : Int32)), .val (.ref b222), .unset, .unset] [.null, (.ref b280), (.ref b280)]))
        refine go _ _ (fun _ k => XS.goto X280.here hx rfl (pc0 := 125) (pc' := 130) rfl (hb hby at_125) (by decide) (by decide) k) ?_
        show G (T280.setTop (mkF m 130 #[.val (.int p0), .val (.int p1), .val (.int p2), .val (.int p3), .val (.int (1 : Int32)), .val (.int (2 : Int32)), .val (.ref b222), .unset, .unset] [.null, (.ref b280), (.ref b280)]))
        have Z314 : h0.size ≤ T263.heap.size := Nat.le_trans Z273 Kp263.1
        have Z315 : h0.size ≤ h280.size := Nat.le_trans Z314 E280.1
        obtain ⟨rv313, T313, L313, X313, q313, st313⟩ := own_sp X280 hx hZ (y := (⟨"com/example/limmat/limmat/analysis/Opacity$Verdict", "<init>", "(Ljava/util/List;)V"⟩ : MethodName)) rfl hown (ow hw 102 rfl) (ow hw 103 rfl) (ow hw 104 rfl) (by decide) (own_bkN (W := 1) (rmVn l Z a0 hw z0 O2 P5 dd kd O_dd V_dd mr M_mr el O_el em O_em [] b280 h280 n0 (Nat.le_trans Z0 Z315) A280 (D280 (Or.inr (ow hw 200 rfl)) (ty := (.object "java/util/List")) (by decide)) (Nat.le_trans (Nat.le_trans Z0 Z314) (Nat.le_of_eq g280.symm))) hZ (ow hw 104 rfl) (ow hw 101 rfl) (by decide) (by decide)) e280 (g := (mkF m 130 #[.val (.int p0), .val (.int p1), .val (.int p2), .val (.int p3), .val (.int (1 : Int32)), .val (.int (2 : Int32)), .val (.ref b222), .unset, .unset] [.null, (.ref b280), (.ref b280)])) rfl (by rw [hml]; rfl) (a := b280) (argsL := [.null]) (rest := [(.ref b280)]) rfl (lenOf own_pd18 rfl) rfl (by show 2 * 0 + _ ≤ _; exact Nat.le_of_eq rfl) (hb hby at_130) (by decide) (by decide)
        obtain ⟨Nq313, Kp313, ⟨rfl, f316, f317⟩⟩ := q313
        have N313 := Fr.app N263 Nq313
        refine go _ _ (st313) ?_
        show G (T313.setTop (mkF m 133 #[.val (.int p0), .val (.int p1), .val (.int p2), .val (.int p3), .val (.int (1 : Int32)), .val (.int (2 : Int32)), .val (.ref b222), .unset, .unset] [(.ref b280)]))
        refine go _ _ (fun _ k => XS.astore X313.here hx rfl (hb hby at_133) rfl rfl (l' := #[.val (.int p0), .val (.int p1), .val (.int p2), .val (.int p3), .val (.int (1 : Int32)), .val (.int (2 : Int32)), .val (.ref b222), .val (.ref b280), .unset]) rfl (XS.aload X313.here hx rfl (hb hby at_135) rfl rfl k)) ?_
        show G (T313.setTop (mkF m 137 #[.val (.int p0), .val (.int p1), .val (.int p2), .val (.int p3), .val (.int (1 : Int32)), .val (.int (2 : Int32)), .val (.ref b222), .val (.ref b280), .unset] [(.ref b280)]))
        have Z319 : h0.size ≤ T313.heap.size := Nat.le_trans Z315 Kp313.1
        obtain ⟨rv318, T318, L318, X318, q318, st318⟩ := own_vi X313 hx hZ (y := (⟨"com/example/limmat/limmat/analysis/Opacity$Verdict", "holds", "()Z"⟩ : MethodName)) (z := (⟨"com/example/limmat/limmat/analysis/Opacity$Verdict", "holds", "()Z"⟩ : MethodName)) hown (ow hw 201 rfl) (ow hw 202 rfl) (ow hw 204 rfl) (ow hw 203 rfl) (Or.inl rfl) (by decide) (own_bkN (W := 0) (rm33 l Z a0 hw z0 O2 P5 dd kd O_dd V_dd mr M_mr el O_el em O_em [] b280 .null T313.heap n0 (Nat.le_trans Z0 Z319) rfl f317) hZ (ow hw 205 rfl) (ow hw 101 rfl) (by decide) (by decide)) rfl f316 (g := (mkF m 137 #[.val (.int p0), .val (.int p1), .val (.int p2), .val (.int p3), .val (.int (1 : Int32)), .val (.int (2 : Int32)), .val (.ref b222), .val (.ref b280), .unset] [(.ref b280)])) rfl (by rw [hml]; rfl) (argsL := []) (rest := []) rfl (lenOf own_pd15 rfl) rfl (by show 2 * 0 + _ ≤ _; exact Nat.le_of_eq rfl) (hb hby at_137) (by decide) (by decide)
        obtain ⟨Nq318, e318, q318⟩ := q318
        have N318 := Fr.app N313 Nq318
        rcases q318 with ⟨rfl, p320⟩ | ⟨rfl, p321⟩
        · refine go _ _ (st318) ?_
          show G (T318.setTop (mkF m 140 #[.val (.int p0), .val (.int p1), .val (.int p2), .val (.int p3), .val (.int (1 : Int32)), .val (.int (2 : Int32)), .val (.ref b222), .val (.ref b280), .unset] [(.int (1 : Int32))]))
          refine go _ _ (fun _ k => XS.istore X318.here hx rfl (hb hby at_140) rfl (l' := #[.val (.int p0), .val (.int p1), .val (.int p2), .val (.int p3), .val (.int (1 : Int32)), .val (.int (2 : Int32)), .val (.ref b222), .val (.ref b280), .val (.int (1 : Int32))]) rfl (XS.iload X318.here hx rfl (hb hby at_142) rfl (XS.iload X318.here hx rfl (hb hby at_144) rfl k))) ?_
          show G (T318.setTop (mkF m 146 #[.val (.int p0), .val (.int p1), .val (.int p2), .val (.int p3), .val (.int (1 : Int32)), .val (.int (2 : Int32)), .val (.ref b222), .val (.ref b280), .val (.int (1 : Int32))] [(.int (1 : Int32)), (.int (1 : Int32))]))
          refine go _ _ (fun _ k => XS.icmpNo X318.here hx rfl (hb hby at_146) rfl (by decide) k) ?_
          show G (T318.setTop (mkF m 149 #[.val (.int p0), .val (.int p1), .val (.int p2), .val (.int p3), .val (.int (1 : Int32)), .val (.int (2 : Int32)), .val (.ref b222), .val (.ref b280), .val (.int (1 : Int32))] []))
          refine go _ _ (fun _ k => XS.iload X318.here hx rfl (hb hby at_149) rfl (XS.aload X318.here hx rfl (hb hby at_151) rfl rfl k)) ?_
          show G (T318.setTop (mkF m 153 #[.val (.int p0), .val (.int p1), .val (.int p2), .val (.int p3), .val (.int (1 : Int32)), .val (.int (2 : Int32)), .val (.ref b222), .val (.ref b280), .val (.int (1 : Int32))] [(.ref b280), (.int (1 : Int32))]))
          obtain ⟨rv322, T322, L322, X322, q322, st322⟩ := own_vi X318 hx hZ (y := (⟨"com/example/limmat/limmat/analysis/Opacity$Verdict", "observation", "()Ljava/util/List;"⟩ : MethodName)) (z := (⟨"com/example/limmat/limmat/analysis/Opacity$Verdict", "observation", "()Ljava/util/List;"⟩ : MethodName)) hown (ow hw 206 rfl) (ow hw 207 rfl) (ow hw 209 rfl) (ow hw 208 rfl) (Or.inl rfl) (by decide) (own_bkN (W := 1) (rm34 l Z a0 hw z0 O2 P5 dd kd O_dd V_dd mr M_mr el O_el em O_em [] b280 .null T313.heap n0 (Nat.le_trans Z0 Z319) rfl f317) hZ (ow hw 210 rfl) (ow hw 101 rfl) (by decide) (by decide)) e318 f316 (g := (mkF m 153 #[.val (.int p0), .val (.int p1), .val (.int p2), .val (.int p3), .val (.int (1 : Int32)), .val (.int (2 : Int32)), .val (.ref b222), .val (.ref b280), .val (.int (1 : Int32))] [(.ref b280), (.int (1 : Int32))])) rfl (by rw [hml]; rfl) (argsL := []) (rest := [(.int (1 : Int32))]) rfl (lenOf own_pd16 rfl) rfl (by show 2 * 0 + _ ≤ _; exact Nat.le_of_eq rfl) (hb hby at_153) (by decide) (by decide)
          obtain ⟨Nq322, e322, rfl⟩ := q322
          have N322 := Fr.app N318 Nq322
          refine go _ _ (st322) ?_
          show G (T322.setTop (mkF m 156 #[.val (.int p0), .val (.int p1), .val (.int p2), .val (.int p3), .val (.int (1 : Int32)), .val (.int (2 : Int32)), .val (.ref b222), .val (.ref b280), .val (.int (1 : Int32))] [.null, (.int (1 : Int32))]))
          refine go _ _ (fun _ k => XS.ifnonnullNo X322.here hx rfl (hb hby at_156) rfl k) ?_
          show G (T322.setTop (mkF m 159 #[.val (.int p0), .val (.int p1), .val (.int p2), .val (.int p3), .val (.int (1 : Int32)), .val (.int (2 : Int32)), .val (.ref b222), .val (.ref b280), .val (.int (1 : Int32))] [(.int (1 : Int32))]))
          refine go _ _ (fun _ k => XS.iconst X322.here hx rfl (hb hby at_159) k) ?_
          show G (T322.setTop (mkF m 160 #[.val (.int p0), .val (.int p1), .val (.int p2), .val (.int p3), .val (.int (1 : Int32)), .val (.int (2 : Int32)), .val (.ref b222), .val (.ref b280), .val (.int (1 : Int32))] [(.int (1 : Int32)), (.int (1 : Int32))]))
          refine go _ _ (fun _ k => XS.goto X322.here hx rfl (pc0 := 160) (pc' := 164) rfl (hb hby at_160) (by decide) (by decide) k) ?_
          show G (T322.setTop (mkF m 164 #[.val (.int p0), .val (.int p1), .val (.int p2), .val (.int p3), .val (.int (1 : Int32)), .val (.int (2 : Int32)), .val (.ref b222), .val (.ref b280), .val (.int (1 : Int32))] [(.int (1 : Int32)), (.int (1 : Int32))]))
          refine go _ _ (fun _ k => XS.icmpNo X322.here hx rfl (hb hby at_164) rfl (by decide) k) ?_
          show G (T322.setTop (mkF m 167 #[.val (.int p0), .val (.int p1), .val (.int p2), .val (.int p3), .val (.int (1 : Int32)), .val (.int (2 : Int32)), .val (.ref b222), .val (.ref b280), .val (.int (1 : Int32))] []))
          refine go _ _ (fun _ k => XS.iconst X322.here hx rfl (hb hby at_167) k) ?_
          show G (T322.setTop (mkF m 168 #[.val (.int p0), .val (.int p1), .val (.int p2), .val (.int p3), .val (.int (1 : Int32)), .val (.int (2 : Int32)), .val (.ref b222), .val (.ref b280), .val (.int (1 : Int32))] [(.int (1 : Int32))]))
          refine go _ _ (fun _ k => XS.goto X322.here hx rfl (pc0 := 168) (pc' := 172) rfl (hb hby at_168) (by decide) (by decide) k) ?_
          show G (T322.setTop (mkF m 172 #[.val (.int p0), .val (.int p1), .val (.int p2), .val (.int p3), .val (.int (1 : Int32)), .val (.int (2 : Int32)), .val (.ref b222), .val (.ref b280), .val (.int (1 : Int32))] [(.int (1 : Int32))]))
          have K323 : Keep h0 T223.heap [] := K224.trans Kp223 (allS (Or.inr (Nat.le_of_eq g222.symm)) all0)
          have K324 : Keep h0 T231.heap [] := K323.trans Kp231 all0
          have K325 : Keep h0 T238.heap [] := K324.trans Kp238 (allS (Or.inr (Nat.le_of_eq g222.symm)) all0)
          have K326 : Keep h0 T256.heap [] := K325.trans Kp256 all0
          have K327 : Keep h0 T263.heap [] := K326.trans Kp263 (allS (Or.inr (Nat.le_of_eq g222.symm)) (allS (Or.inr (Nat.le_trans Z245 z248)) all0))
          have K328 : Keep h0 h280 [] := K327.ext E280
          have K329 : Keep h0 T313.heap [] := K328.trans Kp313 (allS (Or.inr (Nat.le_trans Z314 (Nat.le_of_eq g280.symm))) all0)
          refine fin T322 _ _ _ (some (.int (1 : Int32))) X322 (fun q => nomatch q) (by decide) (by decide) (by rw [e322]; exact ⟨N322, K329, rfl⟩) _ (own_retN X322 hx (z := (1 : Int32)) (t := .boolean) hret (by simp) (hb hby at_172))
        · exact absurd rfl p321
    · rw [hk102]
      show G (T101.setTop (mkF m 16 #[.val (.int p0), .val (.int p1), .val (.int p2), .val (.int p3), .val (.int z_101), .unset, .unset, .unset, .unset] [(.int (3 : Int32))]))
      refine go _ _ (fun _ k => XS.istore X101.here hx rfl (hb hby at_16) rfl (l' := #[.val (.int p0), .val (.int p1), .val (.int p2), .val (.int p3), .val (.int z_101), .val (.int (3 : Int32)), .unset, .unset, .unset]) rfl k) ?_
      show G (T101.setTop (mkF m 18 #[.val (.int p0), .val (.int p1), .val (.int p2), .val (.int p3), .val (.int z_101), .val (.int (3 : Int32)), .unset, .unset, .unset] []))
      obtain ⟨T330, h330, X330, e330, E330, A330, D330, -, st330⟩ := newO X101 hx hZ hown (ow hw 0 rfl) (ow hw 1 rfl) (ow hw 2 rfl) e101 (g := (mkF m 18 #[.val (.int p0), .val (.int p1), .val (.int p2), .val (.int p3), .val (.int z_101), .val (.int (3 : Int32)), .unset, .unset, .unset] [])) rfl (hb hby at_18) (by decide) (by decide)
      obtain ⟨b330, g330⟩ : ∃ z, z = h0.size := ⟨_, rfl⟩
      rw [← g330] at A330 D330 st330
      refine go _ _ (st330) ?_
      show G (T330.setTop (mkF m 21 #[.val (.int p0), .val (.int p1), .val (.int p2), .val (.int p3), .val (.int z_101), .val (.int (3 : Int32)), .unset, .unset, .unset] [(.ref b330)]))
      refine go _ _ (fun _ k => XS.dup X330.here hx rfl (hb hby at_21) rfl rfl k) ?_
      show G (T330.setTop (mkF m 22 #[.val (.int p0), .val (.int p1), .val (.int p2), .val (.int p3), .val (.int z_101), .val (.int (3 : Int32)), .unset, .unset, .unset] [(.ref b330), (.ref b330)]))
      have K332 : Keep h0 h330 [] := (Keep.refl h0 []).ext E330
      have F333 : Old Z n0 h330 := (Xo.keep K332 all0)
      have Z334 : h0.size ≤ h330.size := E330.1
      obtain ⟨rv331, T331, L331, X331, q331, st331⟩ := own_sp X330 hx hZ (y := (⟨"java/util/ArrayList", "<init>", "()V"⟩ : MethodName)) rfl hown (ow hw 3 rfl) (ow hw 4 rfl) (ow hw 5 rfl) (by decide) (own_bkN (W := 1) (rm0 l Z a0 hw z0 O2 P5 dd kd O_dd V_dd mr M_mr el O_el em O_em [] b330 h330 n0 (Nat.le_trans Z0 Z334) F333 A330 (D330 (Or.inl (ow hw 22 rfl)) (ty := .int) (by decide)) (D330 (Or.inl (ow hw 25 rfl)) (ty := (.array (.object "java/lang/Object"))) (by decide)) (D330 (Or.inl (ow hw 58 rfl)) (ty := .int) (by decide)) (Nat.le_trans Z0 (Nat.le_of_eq g330.symm))) hZ (ow hw 5 rfl) (ow hw 2 rfl) (by decide) (by decide)) e330 (g := (mkF m 22 #[.val (.int p0), .val (.int p1), .val (.int p2), .val (.int p3), .val (.int z_101), .val (.int (3 : Int32)), .unset, .unset, .unset] [(.ref b330), (.ref b330)])) rfl (by rw [hml]; rfl) (a := b330) (argsL := []) (rest := [(.ref b330)]) rfl (lenOf own_pd0 rfl) rfl (by show 2 * 0 + _ ≤ _; exact Nat.le_of_eq rfl) (hb hby at_22) (by decide) (by decide)
      obtain ⟨Nq331, Kp331, ⟨rfl, f335, f336, f337, f338⟩⟩ := q331
      have N331 := Fr.app N101 Nq331
      refine go _ _ (st331) ?_
      show G (T331.setTop (mkF m 25 #[.val (.int p0), .val (.int p1), .val (.int p2), .val (.int p3), .val (.int z_101), .val (.int (3 : Int32)), .unset, .unset, .unset] [(.ref b330)]))
      refine go _ _ (fun _ k => XS.astore X331.here hx rfl (hb hby at_25) rfl rfl (l' := #[.val (.int p0), .val (.int p1), .val (.int p2), .val (.int p3), .val (.int z_101), .val (.int (3 : Int32)), .val (.ref b330), .unset, .unset]) rfl (XS.iload X331.here hx rfl (hb hby at_27) rfl (XS.iconst X331.here hx rfl (hb hby at_29) k))) ?_
      show G (T331.setTop (mkF m 30 #[.val (.int p0), .val (.int p1), .val (.int p2), .val (.int p3), .val (.int z_101), .val (.int (3 : Int32)), .val (.ref b330), .unset, .unset] [(.int (1 : Int32)), (.int (3 : Int32))]))
      refine go _ _ (fun _ k => XS.icmpNo X331.here hx rfl (hb hby at_30) rfl (by decide) k) ?_
      show G (T331.setTop (mkF m 33 #[.val (.int p0), .val (.int p1), .val (.int p2), .val (.int p3), .val (.int z_101), .val (.int (3 : Int32)), .val (.ref b330), .unset, .unset] []))
      refine go _ _ (fun _ k => XS.aload X331.here hx rfl (hb hby at_33) rfl rfl (XS.iloadN X331.here hx rfl (hb hby at_35) rfl (XS.sipush X331.here hx rfl (hb hby at_36) (XS.iand X331.here hx rfl (hb hby at_39) rfl (XS.i2c X331.here hx rfl (hb hby at_40) rfl k))))) ?_
      show G (T331.setTop (mkF m 41 #[.val (.int p0), .val (.int p1), .val (.int p2), .val (.int p3), .val (.int z_101), .val (.int (3 : Int32)), .val (.ref b330), .unset, .unset] [(.int ((p2 &&& (255 : Int32)).toUInt32.toUInt16.toUInt32.toInt32)), (.ref b330)]))
      have K340 : Keep h330 T331.heap [b330] := (Keep.refl h330 [b330]).trans Kp331 (allS (Or.inl (List.mem_of_getElem? (i := 0) rfl)) all0)
      have F341 : Old Z n0 T331.heap := (F333.keep K340 (allS (Nat.le_trans Z0 (Nat.le_of_eq g330.symm)) all0))
      have Z342 : h0.size ≤ T331.heap.size := Nat.le_trans Z334 Kp331.1
      obtain ⟨rv339, T339, L339, X339, q339, st339⟩ := own_st X331 hx hZ (y := (⟨"java/lang/String", "valueOf", "(C)Ljava/lang/String;"⟩ : MethodName)) hown (ow hw 26 rfl) (ow hw 27 rfl) (ow hw 28 rfl) (ow hw 29 rfl) (by decide) (own_bkN (W := 1) (rm4 l Z a0 hw z0 O2 P5 dd kd O_dd V_dd mr M_mr el O_el em O_em [] ((p2 &&& (255 : Int32)).toUInt32.toUInt16.toUInt32.toInt32) T331.heap n0 (Nat.le_trans Z0 Z342) F341 ((own_and255 _).2)) hZ (ow hw 29 rfl) (ow hw 28 rfl) (by decide) (by decide)) rfl (g := (mkF m 41 #[.val (.int p0), .val (.int p1), .val (.int p2), .val (.int p3), .val (.int z_101), .val (.int (3 : Int32)), .val (.ref b330), .unset, .unset] [(.int ((p2 &&& (255 : Int32)).toUInt32.toUInt16.toUInt32.toInt32)), (.ref b330)])) rfl (by rw [hml]; rfl) (argsL := [(.int ((p2 &&& (255 : Int32)).toUInt32.toUInt16.toUInt32.toInt32))]) (rest := [(.ref b330)]) rfl (lenOf own_pd19 rfl) rfl (by show 2 * 0 + _ ≤ _; exact Nat.le_of_eq rfl) (hb hby at_41) (by decide) (by decide)
      obtain ⟨Nq339, Kp339, ⟨b_343, rfl, z344, f345⟩⟩ := q339
      have N339 := Fr.app N331 Nq339
      refine go _ _ (st339) ?_
      show G (T339.setTop (mkF m 44 #[.val (.int p0), .val (.int p1), .val (.int p2), .val (.int p3), .val (.int z_101), .val (.int (3 : Int32)), .val (.ref b330), .unset, .unset] [(.ref b_343), (.ref b330)]))
      have K347 : Keep T331.heap T339.heap [] := (Keep.refl T331.heap []).trans Kp339 all0
      have F348 : Old Z n0 T339.heap := (F341.keep K347 all0)
      have F349 : Exa Z T339.heap b330 "java/util/ArrayList" := (f335.keep K347)
      have F350 : Fld Z T339.heap b330 "java/util/ArrayList" "size" "I" (.int (0 : Int32)) := (f338.keep K347 nin0)
      have F351 : Fld Z T339.heap b330 "java/util/AbstractList" "modCount" "I" (.int (0 : Int32)) := (f336.keep K347 nin0)
      have F352 : Fld Z T339.heap b330 "java/util/ArrayList" "elementData" "[Ljava/lang/Object;" (.ref dd) := (f337.keep K347 nin0)
      have Z353 : h0.size ≤ T339.heap.size := Nat.le_trans Z342 Kp339.1
      obtain ⟨rv346, T346, L346, X346, q346, st346⟩ := own_vi X339 hx hZ (y := (⟨"java/util/ArrayList", "add", "(Ljava/lang/Object;)Z"⟩ : MethodName)) (z := (⟨"java/util/ArrayList", "add", "(Ljava/lang/Object;)Z"⟩ : MethodName)) hown (ow hw 50 rfl) (ow hw 51 rfl) (ow hw 53 rfl) (ow hw 52 rfl) (Or.inl rfl) (by decide) (own_bkN (W := 0) (rmAdd0 l Z a0 hw z0 O2 P5 dd kd O_dd V_dd mr M_mr el O_el em O_em [] b330 b_343 (0 : Int32) T339.heap n0 (Nat.le_trans Z0 Z353) F348 F349 F350 F351 f345 F352 (Nat.le_trans Z0 (Nat.le_of_eq g330.symm))) hZ (ow hw 54 rfl) (ow hw 2 rfl) (by decide) (by decide)) rfl F349 (g := (mkF m 44 #[.val (.int p0), .val (.int p1), .val (.int p2), .val (.int p3), .val (.int z_101), .val (.int (3 : Int32)), .val (.ref b330), .unset, .unset] [(.ref b_343), (.ref b330)])) rfl (by rw [hml]; rfl) (argsL := [(.ref b_343)]) (rest := []) rfl (lenOf own_pd20 rfl) rfl (by show 2 * 0 + _ ≤ _; exact Nat.le_of_eq rfl) (hb hby at_44) (by decide) (by decide)
      obtain ⟨Nq346, Kp346, ⟨b_354, kb_355, rfl, z356, f357, f358, f359, f360, f361, f362, f363⟩⟩ := q346
      have N346 := Fr.app N339 Nq346
      refine go _ _ (st346) ?_
      show G (T346.setTop (mkF m 47 #[.val (.int p0), .val (.int p1), .val (.int p2), .val (.int p3), .val (.int z_101), .val (.int (3 : Int32)), .val (.ref b330), .unset, .unset] [(.int (1 : Int32))]))
      refine go _ _ (fun _ k => XS.pop X346.here hx rfl (hb hby at_47) rfl rfl (XS.iload X346.here hx rfl (hb hby at_48) rfl (XS.iconst X346.here hx rfl (hb hby at_50) k))) ?_
      show G (T346.setTop (mkF m 51 #[.val (.int p0), .val (.int p1), .val (.int p2), .val (.int p3), .val (.int z_101), .val (.int (3 : Int32)), .val (.ref b330), .unset, .unset] [(.int (2 : Int32)), (.int (3 : Int32))]))
      refine go _ _ (fun _ k => XS.icmpNo X346.here hx rfl (hb hby at_51) rfl (by decide) k) ?_
      show G (T346.setTop (mkF m 54 #[.val (.int p0), .val (.int p1), .val (.int p2), .val (.int p3), .val (.int z_101), .val (.int (3 : Int32)), .val (.ref b330), .unset, .unset] []))
      refine go _ _ (fun _ k => XS.aload X346.here hx rfl (hb hby at_54) rfl rfl (XS.iloadN X346.here hx rfl (hb hby at_56) rfl (XS.sipush X346.here hx rfl (hb hby at_57) (XS.iand X346.here hx rfl (hb hby at_60) rfl (XS.i2c X346.here hx rfl (hb hby at_61) rfl k))))) ?_
      show G (T346.setTop (mkF m 62 #[.val (.int p0), .val (.int p1), .val (.int p2), .val (.int p3), .val (.int z_101), .val (.int (3 : Int32)), .val (.ref b330), .unset, .unset] [(.int ((p3 &&& (255 : Int32)).toUInt32.toUInt16.toUInt32.toInt32)), (.ref b330)]))
      have K365 : Keep T339.heap T346.heap [b330] := (Keep.refl T339.heap [b330]).trans Kp346 (allS (Or.inl (List.mem_of_getElem? (i := 0) rfl)) all0)
      have F366 : Old Z n0 T346.heap := (F348.keep K365 (allS (Nat.le_trans Z0 (Nat.le_of_eq g330.symm)) all0))
      have Z367 : h0.size ≤ T346.heap.size := Nat.le_trans Z353 Kp346.1
      obtain ⟨rv364, T364, L364, X364, q364, st364⟩ := own_st X346 hx hZ (y := (⟨"java/lang/String", "valueOf", "(C)Ljava/lang/String;"⟩ : MethodName)) hown (ow hw 26 rfl) (ow hw 27 rfl) (ow hw 28 rfl) (ow hw 29 rfl) (by decide) (own_bkN (W := 1) (rm4 l Z a0 hw z0 O2 P5 dd kd O_dd V_dd mr M_mr el O_el em O_em [] ((p3 &&& (255 : Int32)).toUInt32.toUInt16.toUInt32.toInt32) T346.heap n0 (Nat.le_trans Z0 Z367) F366 ((own_and255 _).2)) hZ (ow hw 29 rfl) (ow hw 28 rfl) (by decide) (by decide)) rfl (g := (mkF m 62 #[.val (.int p0), .val (.int p1), .val (.int p2), .val (.int p3), .val (.int z_101), .val (.int (3 : Int32)), .val (.ref b330), .unset, .unset] [(.int ((p3 &&& (255 : Int32)).toUInt32.toUInt16.toUInt32.toInt32)), (.ref b330)])) rfl (by rw [hml]; rfl) (argsL := [(.int ((p3 &&& (255 : Int32)).toUInt32.toUInt16.toUInt32.toInt32))]) (rest := [(.ref b330)]) rfl (lenOf own_pd19 rfl) rfl (by show 2 * 0 + _ ≤ _; exact Nat.le_of_eq rfl) (hb hby at_62) (by decide) (by decide)
      obtain ⟨Nq364, Kp364, ⟨b_368, rfl, z369, f370⟩⟩ := q364
      have N364 := Fr.app N346 Nq364
      refine go _ _ (st364) ?_
      show G (T364.setTop (mkF m 65 #[.val (.int p0), .val (.int p1), .val (.int p2), .val (.int p3), .val (.int z_101), .val (.int (3 : Int32)), .val (.ref b330), .unset, .unset] [(.ref b_368), (.ref b330)]))
      have K372 : Keep T346.heap T364.heap [] := (Keep.refl T346.heap []).trans Kp364 all0
      have F373 : Old Z n0 T364.heap := (F366.keep K372 all0)
      have F374 : Exa Z T364.heap b330 "java/util/ArrayList" := (f357.keep K372)
      have F375 : Fld Z T364.heap b330 "java/util/ArrayList" "size" "I" (.int (1 : Int32)) := (f359.keep K372 nin0)
      have F376 : Fld Z T364.heap b330 "java/util/AbstractList" "modCount" "I" (.int ((0 : Int32) + (1 : Int32))) := (f360.keep K372 nin0)
      have F377 : Fld Z T364.heap b330 "java/util/ArrayList" "elementData" "[Ljava/lang/Object;" (.ref b_354) := (f358.keep K372 nin0)
      have F378 : Exa Z T364.heap b_354 "[Ljava/lang/Object;" := (f361.keep K372)
      have F379 : Arv Z T364.heap b_354 kb_355 (.object "java/lang/Object") (10 : Int32) [(.ref b_343)] .null := (f362.keep K372 nin0)
      have F380 : Ovr Z kb_355 "java/lang/Object" := f363
      have Z381 : h0.size ≤ T364.heap.size := Nat.le_trans Z367 Kp364.1
      obtain ⟨rv371, T371, L371, X371, q371, st371⟩ := own_vi X364 hx hZ (y := (⟨"java/util/ArrayList", "add", "(Ljava/lang/Object;)Z"⟩ : MethodName)) (z := (⟨"java/util/ArrayList", "add", "(Ljava/lang/Object;)Z"⟩ : MethodName)) hown (ow hw 50 rfl) (ow hw 51 rfl) (ow hw 53 rfl) (ow hw 52 rfl) (Or.inl rfl) (by decide) (own_bkN (W := 0) (rmAdd1 l Z a0 hw z0 O2 P5 dd kd O_dd V_dd mr M_mr el O_el em O_em [] b330 b_368 ((0 : Int32) + (1 : Int32)) kb_355 b_343 b_354 T364.heap n0 (Nat.le_trans Z0 Z381) F373 F374 F375 F376 f370 F377 F378 F379 F380 (Nat.le_trans Z0 (Nat.le_of_eq g330.symm)) (Nat.le_trans (Nat.le_trans Z0 Z353) z356)) hZ (ow hw 54 rfl) (ow hw 2 rfl) (by decide) (by decide)) rfl F374 (g := (mkF m 65 #[.val (.int p0), .val (.int p1), .val (.int p2), .val (.int p3), .val (.int z_101), .val (.int (3 : Int32)), .val (.ref b330), .unset, .unset] [(.ref b_368), (.ref b330)])) rfl (by rw [hml]; rfl) (argsL := [(.ref b_368)]) (rest := []) rfl (lenOf own_pd20 rfl) rfl (by show 2 * 0 + _ ≤ _; exact Nat.le_of_eq rfl) (hb hby at_65) (by decide) (by decide)
      obtain ⟨Nq371, Kp371, ⟨rfl, f382, f383, f384, f385, f386, f387⟩⟩ := q371
      have N371 := Fr.app N364 Nq371
      refine go _ _ (st371) ?_
      show G (T371.setTop (mkF m 68 #[.val (.int p0), .val (.int p1), .val (.int p2), .val (.int p3), .val (.int z_101), .val (.int (3 : Int32)), .val (.ref b330), .unset, .unset] [(.int (1 : Int32))]))
      refine go _ _ (fun _ k => XS.pop X371.here hx rfl (hb hby at_68) rfl rfl (XS.iload X371.here hx rfl (hb hby at_69) rfl (XS.iconst X371.here hx rfl (hb hby at_71) k))) ?_
      show G (T371.setTop (mkF m 72 #[.val (.int p0), .val (.int p1), .val (.int p2), .val (.int p3), .val (.int z_101), .val (.int (3 : Int32)), .val (.ref b330), .unset, .unset] [(.int (3 : Int32)), (.int (3 : Int32))]))
      refine go _ _ (fun _ k => XS.icmpNo X371.here hx rfl (hb hby at_72) rfl (by decide) k) ?_
      show G (T371.setTop (mkF m 75 #[.val (.int p0), .val (.int p1), .val (.int p2), .val (.int p3), .val (.int z_101), .val (.int (3 : Int32)), .val (.ref b330), .unset, .unset] []))
      refine go _ _ (fun _ k => XS.aload X371.here hx rfl (hb hby at_75) rfl rfl k) ?_
      show G (T371.setTop (mkF m 77 #[.val (.int p0), .val (.int p1), .val (.int p2), .val (.int p3), .val (.int z_101), .val (.int (3 : Int32)), .val (.ref b330), .unset, .unset] [(.ref b330)]))
      obtain ⟨T388, h388, X388, e388, E388, A388, D388, -, st388⟩ := newO X371 hx hZ hown (ow hw 81 rfl) (ow hw 36 rfl) (ow hw 28 rfl) rfl (g := (mkF m 77 #[.val (.int p0), .val (.int p1), .val (.int p2), .val (.int p3), .val (.int z_101), .val (.int (3 : Int32)), .val (.ref b330), .unset, .unset] [(.ref b330)])) rfl (hb hby at_77) (by decide) (by decide)
      obtain ⟨b388, g388⟩ : ∃ z, z = T371.heap.size := ⟨_, rfl⟩
      rw [← g388] at A388 D388 st388
      refine go _ _ (st388) ?_
      show G (T388.setTop (mkF m 80 #[.val (.int p0), .val (.int p1), .val (.int p2), .val (.int p3), .val (.int z_101), .val (.int (3 : Int32)), .val (.ref b330), .unset, .unset] [(.ref b388), (.ref b330)]))
      refine go _ _ (fun _ k => XS.dup X388.here hx rfl (hb hby at_80) rfl rfl (XS.iconst X388.here hx rfl (hb hby at_81) k)) ?_
      show G (T388.setTop (mkF m 82 #[.val (.int p0), .val (.int p1), .val (.int p2), .val (.int p3), .val (.int z_101), .val (.int (3 : Int32)), .val (.ref b330), .unset, .unset] [(.int (2 : Int32)), (.ref b388), (.ref b388), (.ref b330)]))
      obtain ⟨T389, h389, k389, X389, e389, E389, A389, st389⟩ := newP X388 hx hZ (ow hw 82 rfl) e388 (g := (mkF m 82 #[.val (.int p0), .val (.int p1), .val (.int p2), .val (.int p3), .val (.int z_101), .val (.int (3 : Int32)), .val (.ref b330), .unset, .unset] [(.int (2 : Int32)), (.ref b388), (.ref b388), (.ref b330)])) rfl (hb hby at_82) rfl (by decide) (cap := 2) (by decide) (by decide) (by decide) (by decide)
      obtain ⟨b389, g389⟩ : ∃ z, z = h388.size := ⟨_, rfl⟩
      rw [← g389] at A389 st389
      have V389 : Arv Z h389 b389 k389 .char (2 : Int32) [(.int (0 : Int32)), (.int (0 : Int32))] (.int (0 : Int32)) := (Arv.new A389 (by decide)).pad (pad_rep [] (.int (0 : Int32)) 2)
      refine go _ _ (st389) ?_
      show G (T389.setTop (mkF m 84 #[.val (.int p0), .val (.int p1), .val (.int p2), .val (.int p3), .val (.int z_101), .val (.int (3 : Int32)), .val (.ref b330), .unset, .unset] [(.ref b389), (.ref b388), (.ref b388), (.ref b330)]))
      refine go _ _ (fun _ k => XS.dup X389.here hx rfl (hb hby at_84) rfl rfl (XS.iconst X389.here hx rfl (hb hby at_85) (XS.iloadN X389.here hx rfl (hb hby at_86) rfl (XS.bipush X389.here hx rfl (hb hby at_87) (XS.iushr X389.here hx rfl (hb hby at_89) rfl (XS.sipush X389.here hx rfl (hb hby at_90) k)))))) ?_
      show G (T389.setTop (mkF m 93 #[.val (.int p0), .val (.int p1), .val (.int p2), .val (.int p3), .val (.int z_101), .val (.int (3 : Int32)), .val (.ref b330), .unset, .unset] [(.int (255 : Int32)), (.int ((p2.toUInt32 >>> ((8 : Int32) &&& 31).toUInt32).toInt32)), (.int (0 : Int32)), (.ref b389), (.ref b389), (.ref b388), (.ref b388), (.ref b330)]))
      refine go _ _ (fun _ k => XS.iand X389.here hx rfl (hb hby at_93) rfl (XS.i2c X389.here hx rfl (hb hby at_94) rfl k)) ?_
      show G (T389.setTop (mkF m 95 #[.val (.int p0), .val (.int p1), .val (.int p2), .val (.int p3), .val (.int z_101), .val (.int (3 : Int32)), .val (.ref b330), .unset, .unset] [(.int ((((p2.toUInt32 >>> ((8 : Int32) &&& 31).toUInt32).toInt32) &&& (255 : Int32)).toUInt32.toUInt16.toUInt32.toInt32)), (.int (0 : Int32)), (.ref b389), (.ref b389), (.ref b388), (.ref b388), (.ref b330)]))
      obtain ⟨cl390, Ar390, q390, S390, M390, H390, U390⟩ := id V389
      obtain ⟨T390, h390, X390, e390, W390, st390⟩ := stC X389 hx hZ e389 Ar390 (j := (0 : Int32)) (inb_of S390 ⟨by decide, by decide⟩) (g := (mkF m 95 #[.val (.int p0), .val (.int p1), .val (.int p2), .val (.int p3), .val (.int z_101), .val (.int (3 : Int32)), .val (.ref b330), .unset, .unset] [(.int ((((p2.toUInt32 >>> ((8 : Int32) &&& 31).toUInt32).toInt32) &&& (255 : Int32)).toUInt32.toUInt16.toUInt32.toInt32)), (.int (0 : Int32)), (.ref b389), (.ref b389), (.ref b388), (.ref b388), (.ref b330)])) rfl rfl (hb hby at_95)
      have V390 : Arv Z h390 b389 k389 .char (2 : Int32) [(.int (nar .char ((((p2.toUInt32 >>> ((8 : Int32) &&& 31).toUInt32).toInt32) &&& (255 : Int32)).toUInt32.toUInt16.toUInt32.toInt32))), (.int (0 : Int32))] (.int (0 : Int32)) := Arv.set Ar390 q390 S390 M390 H390 U390 (fits_nar_char _) W390 0 rfl (Nat.le_of_ble_eq_true rfl)
      rw [(own_i2c (((p2.toUInt32 >>> ((8 : Int32) &&& 31).toUInt32).toInt32) &&& (255 : Int32)))] at V390
      have Z391 : h0.size ≤ T371.heap.size := Nat.le_trans Z381 Kp371.1
      have Z392 : h0.size ≤ h388.size := Nat.le_trans Z391 E388.1
      have N390 := Fr.snoc X390 N371 (Nat.le_trans (Nat.le_trans Z0 Z392) (Nat.le_of_eq g389.symm))
      refine go _ _ (st390) ?_
      show G (T390.setTop (mkF m 96 #[.val (.int p0), .val (.int p1), .val (.int p2), .val (.int p3), .val (.int z_101), .val (.int (3 : Int32)), .val (.ref b330), .unset, .unset] [(.ref b389), (.ref b388), (.ref b388), (.ref b330)]))
      refine go _ _ (fun _ k => XS.dup X390.here hx rfl (hb hby at_96) rfl rfl (XS.iconst X390.here hx rfl (hb hby at_97) (XS.iloadN X390.here hx rfl (hb hby at_98) rfl (XS.bipush X390.here hx rfl (hb hby at_99) (XS.iushr X390.here hx rfl (hb hby at_101) rfl (XS.sipush X390.here hx rfl (hb hby at_102) k)))))) ?_
      show G (T390.setTop (mkF m 105 #[.val (.int p0), .val (.int p1), .val (.int p2), .val (.int p3), .val (.int z_101), .val (.int (3 : Int32)), .val (.ref b330), .unset, .unset] [(.int (255 : Int32)), (.int ((p3.toUInt32 >>> ((8 : Int32) &&& 31).toUInt32).toInt32)), (.int (1 : Int32)), (.ref b389), (.ref b389), (.ref b388), (.ref b388), (.ref b330)]))
      refine go _ _ (fun _ k => XS.iand X390.here hx rfl (hb hby at_105) rfl (XS.i2c X390.here hx rfl (hb hby at_106) rfl k)) ?_
      show G (T390.setTop (mkF m 107 #[.val (.int p0), .val (.int p1), .val (.int p2), .val (.int p3), .val (.int z_101), .val (.int (3 : Int32)), .val (.ref b330), .unset, .unset] [(.int ((((p3.toUInt32 >>> ((8 : Int32) &&& 31).toUInt32).toInt32) &&& (255 : Int32)).toUInt32.toUInt16.toUInt32.toInt32)), (.int (1 : Int32)), (.ref b389), (.ref b389), (.ref b388), (.ref b388), (.ref b330)]))
      obtain ⟨cl393, Ar393, q393, S393, M393, H393, U393⟩ := id V390
      obtain ⟨T393, h393, X393, e393, W393, st393⟩ := stC X390 hx hZ e390 Ar393 (j := (1 : Int32)) (inb_of S393 ⟨by decide, by decide⟩) (g := (mkF m 107 #[.val (.int p0), .val (.int p1), .val (.int p2), .val (.int p3), .val (.int z_101), .val (.int (3 : Int32)), .val (.ref b330), .unset, .unset] [(.int ((((p3.toUInt32 >>> ((8 : Int32) &&& 31).toUInt32).toInt32) &&& (255 : Int32)).toUInt32.toUInt16.toUInt32.toInt32)), (.int (1 : Int32)), (.ref b389), (.ref b389), (.ref b388), (.ref b388), (.ref b330)])) rfl rfl (hb hby at_107)
      have V393 : Arv Z h393 b389 k389 .char (2 : Int32) [(.int ((((p2.toUInt32 >>> ((8 : Int32) &&& 31).toUInt32).toInt32) &&& (255 : Int32)).toUInt32.toUInt16.toUInt32.toInt32)), (.int (nar .char ((((p3.toUInt32 >>> ((8 : Int32) &&& 31).toUInt32).toInt32) &&& (255 : Int32)).toUInt32.toUInt16.toUInt32.toInt32)))] (.int (0 : Int32)) := Arv.set Ar393 q393 S393 M393 H393 U393 (fits_nar_char _) W393 1 rfl (Nat.le_of_ble_eq_true rfl)
      rw [(own_i2c (((p3.toUInt32 >>> ((8 : Int32) &&& 31).toUInt32).toInt32) &&& (255 : Int32)))] at V393
      have N393 := Fr.snoc X393 N390 (Nat.le_trans (Nat.le_trans Z0 Z392) (Nat.le_of_eq g389.symm))
      refine go _ _ (st393) ?_
      show G (T393.setTop (mkF m 108 #[.val (.int p0), .val (.int p1), .val (.int p2), .val (.int p3), .val (.int z_101), .val (.int (3 : Int32)), .val (.ref b330), .unset, .unset] [(.ref b389), (.ref b388), (.ref b388), (.ref b330)]))
      have K395 : Keep h388 h389 [] := (Keep.refl h388 []).ext E389
      have K396 : Keep h388 h390 [] := K395.wr W390 (Or.inr (Nat.le_of_eq g389.symm))
      have K397 : Keep h388 h393 [] := K396.wr W393 (Or.inr (Nat.le_of_eq g389.symm))
      have F398 : Exa Z h393 b388 "java/lang/String" := (A388.keep K397)
      have F399 : Fld Z h393 b388 "java/lang/String" "value" "[B" .null := ((D388 (Or.inr (ow hw 47 rfl)) (ty := (.array .byte)) (by decide)).keep K397 nin0)
      have F400 : Fld Z h393 b388 "java/lang/String" "coder" "B" (.int (0 : Int32)) := ((D388 (Or.inr (ow hw 49 rfl)) (ty := .byte) (by decide)).keep K397 nin0)
      have Z401 : T364.heap.size ≤ T371.heap.size := Kp371.1
      have Z402 : T364.heap.size ≤ h388.size := Nat.le_trans Z401 E388.1
      have K403 : Keep T364.heap T371.heap [b330, b_354] := (Keep.refl T364.heap [b330, b_354]).trans Kp371 (allS (Or.inl (List.mem_of_getElem? (i := 0) rfl)) (allS (Or.inl (List.mem_of_getElem? (i := 1) rfl)) all0))
      have K404 : Keep T364.heap h388 [b330, b_354] := K403.ext E388
      have K405 : Keep T364.heap h389 [b330, b_354] := K404.ext E389
      have K406 : Keep T364.heap h390 [b330, b_354] := K405.wr W390 (Or.inr (Nat.le_trans Z402 (Nat.le_of_eq g389.symm)))
      have K407 : Keep T364.heap h393 [b330, b_354] := K406.wr W393 (Or.inr (Nat.le_trans Z402 (Nat.le_of_eq g389.symm)))
      have F408 : Old Z n0 h393 := (F373.keep K407 (allS (Nat.le_trans Z0 (Nat.le_of_eq g330.symm)) (allS (Nat.le_trans (Nat.le_trans Z0 Z353) z356) all0)))
      have hp394 : ∀ c ∈ ([((((p2.toUInt32 >>> ((8 : Int32) &&& 31).toUInt32).toInt32) &&& (255 : Int32)).toUInt32.toUInt16.toUInt32.toInt32), ((((p3.toUInt32 >>> ((8 : Int32) &&& 31).toUInt32).toInt32) &&& (255 : Int32)).toUInt32.toUInt16.toUInt32.toInt32)] : List Int32), ¬ c < 0 ∧ ¬ (255 : Int32) < c := by
        intro c hc
        simp only [List.mem_cons, List.not_mem_nil, or_false] at hc
        rcases hc with rfl | rfl
        · exact (own_and255 ((p2.toUInt32 >>> ((8 : Int32) &&& 31).toUInt32).toInt32))
        · exact (own_and255 ((p3.toUInt32 >>> ((8 : Int32) &&& 31).toUInt32).toInt32))
      have Z409 : h0.size ≤ h389.size := Nat.le_trans Z392 E389.1
      have Z410 : h0.size ≤ h390.size := Nat.le_trans Z409 (Keep.of_wr W390).1
      have Z411 : h0.size ≤ h393.size := Nat.le_trans Z410 (Keep.of_wr W393).1
      obtain ⟨rv394, T394, L394, X394, q394, st394⟩ := own_sp X393 hx hZ (y := (⟨"java/lang/String", "<init>", "([C)V"⟩ : MethodName)) rfl hown (ow hw 83 rfl) (ow hw 84 rfl) (ow hw 85 rfl) (by decide) (StrChars.Road.backV (W := 2) hZ (own_hws hw) (kI := 4) (ow hw 36 rfl) (cs := ([((((p2.toUInt32 >>> ((8 : Int32) &&& 31).toUInt32).toInt32) &&& (255 : Int32)).toUInt32.toUInt16.toUInt32.toInt32), ((((p3.toUInt32 >>> ((8 : Int32) &&& 31).toUInt32).toInt32) &&& (255 : Int32)).toUInt32.toUInt16.toUInt32.toInt32)] : List Int32)) (bs := ([((((p2.toUInt32 >>> ((8 : Int32) &&& 31).toUInt32).toInt32) &&& (255 : Int32)).toUInt32.toUInt16.toUInt32.toInt32), ((((p3.toUInt32 >>> ((8 : Int32) &&& 31).toUInt32).toInt32) &&& (255 : Int32)).toUInt32.toUInt16.toUInt32.toInt32)] : List Int32).map (fun c => c.toInt8.toInt32)) (n := 2) (Nat.le_trans (Nat.le_trans Z0 Z391) (Nat.le_of_eq g388.symm)) (Nat.le_trans Z0 Z411) F398 F399 F400 V393 (O2.ext F408.2) P5 rfl rfl (by decide) (by decide) hp394 rfl (by decide) (by decide)) e393 (g := (mkF m 108 #[.val (.int p0), .val (.int p1), .val (.int p2), .val (.int p3), .val (.int z_101), .val (.int (3 : Int32)), .val (.ref b330), .unset, .unset] [(.ref b389), (.ref b388), (.ref b388), (.ref b330)])) rfl (by rw [hml]; rfl) (a := b388) (argsL := [(.ref b389)]) (rest := [(.ref b388), (.ref b330)]) rfl (lenOf own_pd21 rfl) rfl (by show 2 * 0 + _ ≤ _; exact Nat.le_of_eq rfl) (hb hby at_108) (by decide) (by decide)
      obtain ⟨rfl, Nq394, Kp394, Es394, Cs394, t394, kb394, u394a, u394b, u394c, Vs394, As394⟩ := q394
      have N394 := Fr.app N393 Nq394
      have Sx394 : own_Str Z T394.heap b388 ([((((p2.toUInt32 >>> ((8 : Int32) &&& 31).toUInt32).toInt32) &&& (255 : Int32)).toUInt32.toUInt16.toUInt32.toInt32), ((((p3.toUInt32 >>> ((8 : Int32) &&& 31).toUInt32).toInt32) &&& (255 : Int32)).toUInt32.toUInt16.toUInt32.toInt32)] : List Int32) := ⟨t394, kb394, Es394, Vs394, Cs394, As394, hp394, (Nat.le_of_ble_eq_true rfl)⟩
      refine go _ _ (st394) ?_
      show G (T394.setTop (mkF m 111 #[.val (.int p0), .val (.int p1), .val (.int p2), .val (.int p3), .val (.int z_101), .val (.int (3 : Int32)), .val (.ref b330), .unset, .unset] [(.ref b388), (.ref b330)]))
      have K413 : Keep h393 T394.heap [b388] := (Keep.refl h393 [b388]).trans Kp394 (allS (Or.inl (List.mem_of_getElem? (i := 0) rfl)) all0)
      have F414 : Old Z n0 T394.heap := (F408.keep K413 (allS (Nat.le_trans (Nat.le_trans Z0 Z391) (Nat.le_of_eq g388.symm)) all0))
      have Z415 : T371.heap.size ≤ h388.size := E388.1
      have K416 : Keep T371.heap h388 [] := (Keep.refl T371.heap []).ext E388
      have K417 : Keep T371.heap h389 [] := K416.ext E389
      have K418 : Keep T371.heap h390 [] := K417.wr W390 (Or.inr (Nat.le_trans Z415 (Nat.le_of_eq g389.symm)))
      have K419 : Keep T371.heap h393 [] := K418.wr W393 (Or.inr (Nat.le_trans Z415 (Nat.le_of_eq g389.symm)))
      have K420 : Keep T371.heap T394.heap [] := K419.trans Kp394 (allS (Or.inr (Nat.le_of_eq g388.symm)) all0)
      have F421 : Exa Z T394.heap b330 "java/util/ArrayList" := (f382.keep K420)
      have F422 : Fld Z T394.heap b330 "java/util/ArrayList" "size" "I" (.int (2 : Int32)) := (f384.keep K420 nin0)
      have F423 : Fld Z T394.heap b330 "java/util/AbstractList" "modCount" "I" (.int (((0 : Int32) + (1 : Int32)) + (1 : Int32))) := (f385.keep K420 nin0)
      have F424 : Fld Z T394.heap b330 "java/util/ArrayList" "elementData" "[Ljava/lang/Object;" (.ref b_354) := (f383.keep K420 nin0)
      have F425 : Exa Z T394.heap b_354 "[Ljava/lang/Object;" := (f386.keep K420)
      have F426 : Arv Z T394.heap b_354 kb_355 (.object "java/lang/Object") (10 : Int32) [(.ref b_343), (.ref b_368)] .null := (f387.keep K420 nin0)
      have K427 : Keep T364.heap T394.heap [b330, b_354] := K407.trans Kp394 (allS (Or.inr (Nat.le_trans Z401 (Nat.le_of_eq g388.symm))) all0)
      have F428 : Ovr Z kb_355 "java/lang/Object" := F380
      have Z429 : h0.size ≤ T394.heap.size := Nat.le_trans Z411 Kp394.1
      obtain ⟨rv412, T412, L412, X412, q412, st412⟩ := own_vi X394 hx hZ (y := (⟨"java/util/ArrayList", "add", "(Ljava/lang/Object;)Z"⟩ : MethodName)) (z := (⟨"java/util/ArrayList", "add", "(Ljava/lang/Object;)Z"⟩ : MethodName)) hown (ow hw 50 rfl) (ow hw 51 rfl) (ow hw 53 rfl) (ow hw 52 rfl) (Or.inl rfl) (by decide) (own_bkN (W := 0) (rmAdd2 l Z a0 hw z0 O2 P5 dd kd O_dd V_dd mr M_mr el O_el em O_em [] b330 b388 (((0 : Int32) + (1 : Int32)) + (1 : Int32)) kb_355 b_343 b_368 b_354 T394.heap n0 (Nat.le_trans Z0 Z429) F414 F421 F422 F423 Es394 F424 F425 F426 F428 (Nat.le_trans Z0 (Nat.le_of_eq g330.symm)) (Nat.le_trans (Nat.le_trans Z0 Z353) z356)) hZ (ow hw 54 rfl) (ow hw 2 rfl) (by decide) (by decide)) rfl F421 (g := (mkF m 111 #[.val (.int p0), .val (.int p1), .val (.int p2), .val (.int p3), .val (.int z_101), .val (.int (3 : Int32)), .val (.ref b330), .unset, .unset] [(.ref b388), (.ref b330)])) rfl (by rw [hml]; rfl) (argsL := [(.ref b388)]) (rest := []) rfl (lenOf own_pd20 rfl) rfl (by show 2 * 0 + _ ≤ _; exact Nat.le_of_eq rfl) (hb hby at_111) (by decide) (by decide)
      obtain ⟨Nq412, Kp412, ⟨rfl, f430, f431, f432, f433, f434, f435⟩⟩ := q412
      have N412 := Fr.app N394 Nq412
      refine go _ _ (st412) ?_
      show G (T412.setTop (mkF m 114 #[.val (.int p0), .val (.int p1), .val (.int p2), .val (.int p3), .val (.int z_101), .val (.int (3 : Int32)), .val (.ref b330), .unset, .unset] [(.int (1 : Int32))]))
      refine go _ _ (fun _ k => XS.pop X412.here hx rfl (hb hby at_114) rfl rfl k) ?_
      show G (T412.setTop (mkF m 115 #[.val (.int p0), .val (.int p1), .val (.int p2), .val (.int p3), .val (.int z_101), .val (.int (3 : Int32)), .val (.ref b330), .unset, .unset] []))
      obtain ⟨T436, h436, X436, e436, E436, A436, D436, -, st436⟩ := newO X412 hx hZ hown (ow hw 99 rfl) (ow hw 100 rfl) (ow hw 101 rfl) rfl (g := (mkF m 115 #[.val (.int p0), .val (.int p1), .val (.int p2), .val (.int p3), .val (.int z_101), .val (.int (3 : Int32)), .val (.ref b330), .unset, .unset] [])) rfl (hb hby at_115) (by decide) (by decide)
      obtain ⟨b436, g436⟩ : ∃ z, z = T412.heap.size := ⟨_, rfl⟩
      rw [← g436] at A436 D436 st436
      refine go _ _ (st436) ?_
      show G (T436.setTop (mkF m 118 #[.val (.int p0), .val (.int p1), .val (.int p2), .val (.int p3), .val (.int z_101), .val (.int (3 : Int32)), .val (.ref b330), .unset, .unset] [(.ref b436)]))
      refine go _ _ (fun _ k => XS.dup X436.here hx rfl (hb hby at_118) rfl rfl (XS.iload X436.here hx rfl (hb hby at_119) rfl k)) ?_
      show G (T436.setTop (mkF m 121 #[.val (.int p0), .val (.int p1), .val (.int p2), .val (.int p3), .val (.int z_101), .val (.int (3 : Int32)), .val (.ref b330), .unset, .unset] [(.int z_101), (.ref b436), (.ref b436)]))
      rcases pj101_z0 with rfl | rfl
      · show G (T436.setTop (mkF m 121 #[.val (.int p0), .val (.int p1), .val (.int p2), .val (.int p3), .val (.int (0 : Int32)), .val (.int (3 : Int32)), .val (.ref b330), .unset, .unset] [(.int (0 : Int32)), (.ref b436), (.ref b436)]))
        refine go _ _ (fun _ k => XS.ifYes X436.here hx rfl (pc0 := 121) (pc' := 128) rfl (hb hby at_121) rfl (by decide) (by decide) (by decide) k) ?_
        show G (T436.setTop (mkF m 128 #[.val (.int p0), .val (.int p1), .val (.int p2), .val (.int p3), .val (.int (0 : Int32)), .val (.int (3 : Int32)), .val (.ref b330), .unset, .unset] [(.ref b436), (.ref b436)]))
        refine go _ _ (fun _ k => XS.aload X436.here hx rfl (hb hby at_128) rfl rfl k) ?_
        show G (T436.setTop (mkF m 130 #[.val (.int p0), .val (.int p1), .val (.int p2), .val (.int p3), .val (.int (0 : Int32)), .val (.int (3 : Int32)), .val (.ref b330), .unset, .unset] [(.ref b330), (.ref b436), (.ref b436)]))
        have K438 : Keep T394.heap T412.heap [b330, b_354] := (Keep.refl T394.heap [b330, b_354]).trans Kp412 (allS (Or.inl (List.mem_of_getElem? (i := 0) rfl)) (allS (Or.inl (List.mem_of_getElem? (i := 1) rfl)) all0))
        have K439 : Keep T394.heap h436 [b330, b_354] := K438.ext E436
        have F440 : Old Z n0 h436 := (F414.keep K439 (allS (Nat.le_trans Z0 (Nat.le_of_eq g330.symm)) (allS (Nat.le_trans (Nat.le_trans Z0 Z353) z356) all0)))
        have K441 : Keep T412.heap h436 [] := (Keep.refl T412.heap []).ext E436
        have F442 : Exa Z h436 b330 "java/util/ArrayList" := (f430.keep K441)
        have F443 : Fld Z h436 b330 "java/util/ArrayList" "elementData" "[Ljava/lang/Object;" (.ref b_354) := (f431.keep K441 nin0)
        have F444 : Fld Z h436 b330 "java/util/ArrayList" "size" "I" (.int (3 : Int32)) := (f432.keep K441 nin0)
        have F445 : Exa Z h436 b_354 "[Ljava/lang/Object;" := (f434.keep K441)
        have F446 : Arv Z h436 b_354 kb_355 (.object "java/lang/Object") (10 : Int32) [(.ref b_343), (.ref b_368), (.ref b388)] .null := (f435.keep K441 nin0)
        have Z447 : T339.heap.size ≤ T346.heap.size := Kp346.1
        have Z448 : T339.heap.size ≤ T364.heap.size := Nat.le_trans Z447 Kp364.1
        have Z449 : T339.heap.size ≤ T371.heap.size := Nat.le_trans Z448 Kp371.1
        have Z450 : T339.heap.size ≤ h388.size := Nat.le_trans Z449 E388.1
        have K451 : Keep T339.heap T364.heap [b330] := K365.trans Kp364 all0
        have K452 : Keep T339.heap T371.heap [b330] := K451.trans Kp371 (allS (Or.inl (List.mem_of_getElem? (i := 0) rfl)) (allS (Or.inr z356) all0))
        have K453 : Keep T339.heap h388 [b330] := K452.ext E388
        have K454 : Keep T339.heap h389 [b330] := K453.ext E389
        have K455 : Keep T339.heap h390 [b330] := K454.wr W390 (Or.inr (Nat.le_trans Z450 (Nat.le_of_eq g389.symm)))
        have K456 : Keep T339.heap h393 [b330] := K455.wr W393 (Or.inr (Nat.le_trans Z450 (Nat.le_of_eq g389.symm)))
        have K457 : Keep T339.heap T394.heap [b330] := K456.trans Kp394 (allS (Or.inr (Nat.le_trans Z449 (Nat.le_of_eq g388.symm))) all0)
        have K458 : Keep T339.heap T412.heap [b330] := K457.trans Kp412 (allS (Or.inl (List.mem_of_getElem? (i := 0) rfl)) (allS (Or.inr z356) all0))
        have K459 : Keep T339.heap h436 [b330] := K458.ext E436
        have F460 : Exa Z h436 b_343 "java/lang/String" := (f345.keep K459)
        have K461 : Keep T364.heap T412.heap [b330, b_354] := K427.trans Kp412 (allS (Or.inl (List.mem_of_getElem? (i := 0) rfl)) (allS (Or.inl (List.mem_of_getElem? (i := 1) rfl)) all0))
        have K462 : Keep T364.heap h436 [b330, b_354] := K461.ext E436
        have F463 : Exa Z h436 b_368 "java/lang/String" := (f370.keep K462)
        have F464 : Exa Z h436 b388 "java/lang/String" := (Es394.keep K439)
        have Z465 : h0.size ≤ T412.heap.size := Nat.le_trans Z429 Kp412.1
        have Z466 : h0.size ≤ h436.size := Nat.le_trans Z465 E436.1
        obtain ⟨rv437, T437, L437, X437, q437, st437⟩ := own_sp X436 hx hZ (y := (⟨"com/example/limmat/limmat/analysis/Opacity$Verdict", "<init>", "(Ljava/util/List;)V"⟩ : MethodName)) rfl hown (ow hw 102 rfl) (ow hw 103 rfl) (ow hw 104 rfl) (by decide) (own_bkN (W := 1) (rmV3 l Z a0 hw z0 O2 P5 dd kd O_dd V_dd mr M_mr el O_el em O_em [] b436 b330 b_354 kb_355 b_343 b_368 b388 h436 n0 (Nat.le_trans Z0 Z466) A436 (D436 (Or.inr (ow hw 200 rfl)) (ty := (.object "java/util/List")) (by decide)) F440 F442 F443 F444 F445 F446 F460 F463 F464 (Nat.le_trans (Nat.le_trans Z0 Z465) (Nat.le_of_eq g436.symm))) hZ (ow hw 104 rfl) (ow hw 101 rfl) (by decide) (by decide)) e436 (g := (mkF m 130 #[.val (.int p0), .val (.int p1), .val (.int p2), .val (.int p3), .val (.int (0 : Int32)), .val (.int (3 : Int32)), .val (.ref b330), .unset, .unset] [(.ref b330), (.ref b436), (.ref b436)])) rfl (by rw [hml]; rfl) (a := b436) (argsL := [(.ref b330)]) (rest := [(.ref b436)]) rfl (lenOf own_pd18 rfl) rfl (by show 2 * 0 + _ ≤ _; exact Nat.le_of_eq rfl) (hb hby at_130) (by decide) (by decide)
        obtain ⟨Nq437, Kp437, ⟨o_467, rfl, f468, f469⟩⟩ := q437
        have N437 := Fr.app N412 Nq437
        refine go _ _ (st437) ?_
        show G (T437.setTop (mkF m 133 #[.val (.int p0), .val (.int p1), .val (.int p2), .val (.int p3), .val (.int (0 : Int32)), .val (.int (3 : Int32)), .val (.ref b330), .unset, .unset] [(.ref b436)]))
        refine go _ _ (fun _ k => XS.astore X437.here hx rfl (hb hby at_133) rfl rfl (l' := #[.val (.int p0), .val (.int p1), .val (.int p2), .val (.int p3), .val (.int (0 : Int32)), .val (.int (3 : Int32)), .val (.ref b330), .val (.ref b436), .unset]) rfl (XS.aload X437.here hx rfl (hb hby at_135) rfl rfl k)) ?_
        show G (T437.setTop (mkF m 137 #[.val (.int p0), .val (.int p1), .val (.int p2), .val (.int p3), .val (.int (0 : Int32)), .val (.int (3 : Int32)), .val (.ref b330), .val (.ref b436), .unset] [(.ref b436)]))
        have Z471 : h0.size ≤ T437.heap.size := Nat.le_trans Z466 Kp437.1
        obtain ⟨rv470, T470, L470, X470, q470, st470⟩ := own_vi X437 hx hZ (y := (⟨"com/example/limmat/limmat/analysis/Opacity$Verdict", "holds", "()Z"⟩ : MethodName)) (z := (⟨"com/example/limmat/limmat/analysis/Opacity$Verdict", "holds", "()Z"⟩ : MethodName)) hown (ow hw 201 rfl) (ow hw 202 rfl) (ow hw 204 rfl) (ow hw 203 rfl) (Or.inl rfl) (by decide) (own_bkN (W := 0) (rm33 l Z a0 hw z0 O2 P5 dd kd O_dd V_dd mr M_mr el O_el em O_em [] b436 (.ref o_467) T437.heap n0 (Nat.le_trans Z0 Z471) rfl f469) hZ (ow hw 205 rfl) (ow hw 101 rfl) (by decide) (by decide)) rfl f468 (g := (mkF m 137 #[.val (.int p0), .val (.int p1), .val (.int p2), .val (.int p3), .val (.int (0 : Int32)), .val (.int (3 : Int32)), .val (.ref b330), .val (.ref b436), .unset] [(.ref b436)])) rfl (by rw [hml]; rfl) (argsL := []) (rest := []) rfl (lenOf own_pd15 rfl) rfl (by show 2 * 0 + _ ≤ _; exact Nat.le_of_eq rfl) (hb hby at_137) (by decide) (by decide)
        obtain ⟨Nq470, e470, q470⟩ := q470
        have N470 := Fr.app N437 Nq470
        rcases q470 with ⟨rfl, p472⟩ | ⟨rfl, p473⟩
        · exact absurd p472 (fun q => nomatch q)
        · refine go _ _ (st470) ?_
          show G (T470.setTop (mkF m 140 #[.val (.int p0), .val (.int p1), .val (.int p2), .val (.int p3), .val (.int (0 : Int32)), .val (.int (3 : Int32)), .val (.ref b330), .val (.ref b436), .unset] [(.int (0 : Int32))]))
          refine go _ _ (fun _ k => XS.istore X470.here hx rfl (hb hby at_140) rfl (l' := #[.val (.int p0), .val (.int p1), .val (.int p2), .val (.int p3), .val (.int (0 : Int32)), .val (.int (3 : Int32)), .val (.ref b330), .val (.ref b436), .val (.int (0 : Int32))]) rfl (XS.iload X470.here hx rfl (hb hby at_142) rfl (XS.iload X470.here hx rfl (hb hby at_144) rfl k))) ?_
          show G (T470.setTop (mkF m 146 #[.val (.int p0), .val (.int p1), .val (.int p2), .val (.int p3), .val (.int (0 : Int32)), .val (.int (3 : Int32)), .val (.ref b330), .val (.ref b436), .val (.int (0 : Int32))] [(.int (0 : Int32)), (.int (0 : Int32))]))
          refine go _ _ (fun _ k => XS.icmpNo X470.here hx rfl (hb hby at_146) rfl (by decide) k) ?_
          show G (T470.setTop (mkF m 149 #[.val (.int p0), .val (.int p1), .val (.int p2), .val (.int p3), .val (.int (0 : Int32)), .val (.int (3 : Int32)), .val (.ref b330), .val (.ref b436), .val (.int (0 : Int32))] []))
          refine go _ _ (fun _ k => XS.iload X470.here hx rfl (hb hby at_149) rfl (XS.aload X470.here hx rfl (hb hby at_151) rfl rfl k)) ?_
          show G (T470.setTop (mkF m 153 #[.val (.int p0), .val (.int p1), .val (.int p2), .val (.int p3), .val (.int (0 : Int32)), .val (.int (3 : Int32)), .val (.ref b330), .val (.ref b436), .val (.int (0 : Int32))] [(.ref b436), (.int (0 : Int32))]))
          obtain ⟨rv474, T474, L474, X474, q474, st474⟩ := own_vi X470 hx hZ (y := (⟨"com/example/limmat/limmat/analysis/Opacity$Verdict", "observation", "()Ljava/util/List;"⟩ : MethodName)) (z := (⟨"com/example/limmat/limmat/analysis/Opacity$Verdict", "observation", "()Ljava/util/List;"⟩ : MethodName)) hown (ow hw 206 rfl) (ow hw 207 rfl) (ow hw 209 rfl) (ow hw 208 rfl) (Or.inl rfl) (by decide) (own_bkN (W := 1) (rm34 l Z a0 hw z0 O2 P5 dd kd O_dd V_dd mr M_mr el O_el em O_em [] b436 (.ref o_467) T437.heap n0 (Nat.le_trans Z0 Z471) rfl f469) hZ (ow hw 210 rfl) (ow hw 101 rfl) (by decide) (by decide)) e470 f468 (g := (mkF m 153 #[.val (.int p0), .val (.int p1), .val (.int p2), .val (.int p3), .val (.int (0 : Int32)), .val (.int (3 : Int32)), .val (.ref b330), .val (.ref b436), .val (.int (0 : Int32))] [(.ref b436), (.int (0 : Int32))])) rfl (by rw [hml]; rfl) (argsL := []) (rest := [(.int (0 : Int32))]) rfl (lenOf own_pd16 rfl) rfl (by show 2 * 0 + _ ≤ _; exact Nat.le_of_eq rfl) (hb hby at_153) (by decide) (by decide)
          obtain ⟨Nq474, e474, rfl⟩ := q474
          have N474 := Fr.app N470 Nq474
          refine go _ _ (st474) ?_
          show G (T474.setTop (mkF m 156 #[.val (.int p0), .val (.int p1), .val (.int p2), .val (.int p3), .val (.int (0 : Int32)), .val (.int (3 : Int32)), .val (.ref b330), .val (.ref b436), .val (.int (0 : Int32))] [(.ref o_467), (.int (0 : Int32))]))
          refine go _ _ (fun _ k => XS.ifnonnullYes X474.here hx rfl (pc0 := 156) (pc' := 163) rfl (hb hby at_156) rfl (by decide) (by decide) k) ?_
          show G (T474.setTop (mkF m 163 #[.val (.int p0), .val (.int p1), .val (.int p2), .val (.int p3), .val (.int (0 : Int32)), .val (.int (3 : Int32)), .val (.ref b330), .val (.ref b436), .val (.int (0 : Int32))] [(.int (0 : Int32))]))
          refine go _ _ (fun _ k => XS.iconst X474.here hx rfl (hb hby at_163) k) ?_
          show G (T474.setTop (mkF m 164 #[.val (.int p0), .val (.int p1), .val (.int p2), .val (.int p3), .val (.int (0 : Int32)), .val (.int (3 : Int32)), .val (.ref b330), .val (.ref b436), .val (.int (0 : Int32))] [(.int (0 : Int32)), (.int (0 : Int32))]))
          refine go _ _ (fun _ k => XS.icmpNo X474.here hx rfl (hb hby at_164) rfl (by decide) k) ?_
          show G (T474.setTop (mkF m 167 #[.val (.int p0), .val (.int p1), .val (.int p2), .val (.int p3), .val (.int (0 : Int32)), .val (.int (3 : Int32)), .val (.ref b330), .val (.ref b436), .val (.int (0 : Int32))] []))
          refine go _ _ (fun _ k => XS.iconst X474.here hx rfl (hb hby at_167) k) ?_
          show G (T474.setTop (mkF m 168 #[.val (.int p0), .val (.int p1), .val (.int p2), .val (.int p3), .val (.int (0 : Int32)), .val (.int (3 : Int32)), .val (.ref b330), .val (.ref b436), .val (.int (0 : Int32))] [(.int (1 : Int32))]))
          refine go _ _ (fun _ k => XS.goto X474.here hx rfl (pc0 := 168) (pc' := 172) rfl (hb hby at_168) (by decide) (by decide) k) ?_
          show G (T474.setTop (mkF m 172 #[.val (.int p0), .val (.int p1), .val (.int p2), .val (.int p3), .val (.int (0 : Int32)), .val (.int (3 : Int32)), .val (.ref b330), .val (.ref b436), .val (.int (0 : Int32))] [(.int (1 : Int32))]))
          have K475 : Keep h0 T331.heap [] := K332.trans Kp331 (allS (Or.inr (Nat.le_of_eq g330.symm)) all0)
          have K476 : Keep h0 T339.heap [] := K475.trans Kp339 all0
          have K477 : Keep h0 T346.heap [] := K476.trans Kp346 (allS (Or.inr (Nat.le_of_eq g330.symm)) all0)
          have K478 : Keep h0 T364.heap [] := K477.trans Kp364 all0
          have K479 : Keep h0 T371.heap [] := K478.trans Kp371 (allS (Or.inr (Nat.le_of_eq g330.symm)) (allS (Or.inr (Nat.le_trans Z353 z356)) all0))
          have K480 : Keep h0 h388 [] := K479.ext E388
          have K481 : Keep h0 h389 [] := K480.ext E389
          have K482 : Keep h0 h390 [] := K481.wr W390 (Or.inr (Nat.le_trans Z392 (Nat.le_of_eq g389.symm)))
          have K483 : Keep h0 h393 [] := K482.wr W393 (Or.inr (Nat.le_trans Z392 (Nat.le_of_eq g389.symm)))
          have K484 : Keep h0 T394.heap [] := K483.trans Kp394 (allS (Or.inr (Nat.le_trans Z391 (Nat.le_of_eq g388.symm))) all0)
          have K485 : Keep h0 T412.heap [] := K484.trans Kp412 (allS (Or.inr (Nat.le_of_eq g330.symm)) (allS (Or.inr (Nat.le_trans Z353 z356)) all0))
          have K486 : Keep h0 h436 [] := K485.ext E436
          have K487 : Keep h0 T437.heap [] := K486.trans Kp437 (allS (Or.inr (Nat.le_trans Z465 (Nat.le_of_eq g436.symm))) all0)
          refine fin T474 _ _ _ (some (.int (1 : Int32))) X474 (fun q => nomatch q) (by decide) (by decide) (by rw [e474]; exact ⟨N474, K487, rfl⟩) _ (own_retN X474 hx (z := (1 : Int32)) (t := .boolean) hret (by simp) (hb hby at_172))
      · show G (T436.setTop (mkF m 121 #[.val (.int p0), .val (.int p1), .val (.int p2), .val (.int p3), .val (.int (1 : Int32)), .val (.int (3 : Int32)), .val (.ref b330), .unset, .unset] [(.int (1 : Int32)), (.ref b436), (.ref b436)]))
        refine go _ _ (fun _ k => XS.ifNo X436.here hx rfl (hb hby at_121) rfl (by decide) k) ?_
        show G (T436.setTop (mkF m 124 #[.val (.int p0), .val (.int p1), .val (.int p2), .val (.int p3), .val (.int (1 : Int32)), .val (.int (3 : Int32)), .val (.ref b330), .unset, .unset] [(.ref b436), (.ref b436)]))
        refine go _ _ (fun _ k => XS.aconstNull X436.here hx rfl (hb hby at_124) k) ?_
        show G (T436.setTop (mkF m 125 #[.val (.int p0), .val (.int p1), .val (.int p2), .val (.int p3), .val (.int (1 : Int32)), .val (.int (3 : Int32)), .val (.ref b330), .unset, .unset] [.null, (.ref b436), (.ref b436)]))
        refine go _ _ (fun _ k => XS.goto X436.here hx rfl (pc0 := 125) (pc' := 130) rfl (hb hby at_125) (by decide) (by decide) k) ?_
        show G (T436.setTop (mkF m 130 #[.val (.int p0), .val (.int p1), .val (.int p2), .val (.int p3), .val (.int (1 : Int32)), .val (.int (3 : Int32)), .val (.ref b330), .unset, .unset] [.null, (.ref b436), (.ref b436)]))
        have Z489 : h0.size ≤ T412.heap.size := Nat.le_trans Z429 Kp412.1
        have Z490 : h0.size ≤ h436.size := Nat.le_trans Z489 E436.1
        obtain ⟨rv488, T488, L488, X488, q488, st488⟩ := own_sp X436 hx hZ (y := (⟨"com/example/limmat/limmat/analysis/Opacity$Verdict", "<init>", "(Ljava/util/List;)V"⟩ : MethodName)) rfl hown (ow hw 102 rfl) (ow hw 103 rfl) (ow hw 104 rfl) (by decide) (own_bkN (W := 1) (rmVn l Z a0 hw z0 O2 P5 dd kd O_dd V_dd mr M_mr el O_el em O_em [] b436 h436 n0 (Nat.le_trans Z0 Z490) A436 (D436 (Or.inr (ow hw 200 rfl)) (ty := (.object "java/util/List")) (by decide)) (Nat.le_trans (Nat.le_trans Z0 Z489) (Nat.le_of_eq g436.symm))) hZ (ow hw 104 rfl) (ow hw 101 rfl) (by decide) (by decide)) e436 (g := (mkF m 130 #[.val (.int p0), .val (.int p1), .val (.int p2), .val (.int p3), .val (.int (1 : Int32)), .val (.int (3 : Int32)), .val (.ref b330), .unset, .unset] [.null, (.ref b436), (.ref b436)])) rfl (by rw [hml]; rfl) (a := b436) (argsL := [.null]) (rest := [(.ref b436)]) rfl (lenOf own_pd18 rfl) rfl (by show 2 * 0 + _ ≤ _; exact Nat.le_of_eq rfl) (hb hby at_130) (by decide) (by decide)
        obtain ⟨Nq488, Kp488, ⟨rfl, f491, f492⟩⟩ := q488
        have N488 := Fr.app N412 Nq488
        refine go _ _ (st488) ?_
        show G (T488.setTop (mkF m 133 #[.val (.int p0), .val (.int p1), .val (.int p2), .val (.int p3), .val (.int (1 : Int32)), .val (.int (3 : Int32)), .val (.ref b330), .unset, .unset] [(.ref b436)]))
        refine go _ _ (fun _ k => XS.astore X488.here hx rfl (hb hby at_133) rfl rfl (l' := #[.val (.int p0), .val (.int p1), .val (.int p2), .val (.int p3), .val (.int (1 : Int32)), .val (.int (3 : Int32)), .val (.ref b330), .val (.ref b436), .unset]) rfl (XS.aload X488.here hx rfl (hb hby at_135) rfl rfl k)) ?_
        show G (T488.setTop (mkF m 137 #[.val (.int p0), .val (.int p1), .val (.int p2), .val (.int p3), .val (.int (1 : Int32)), .val (.int (3 : Int32)), .val (.ref b330), .val (.ref b436), .unset] [(.ref b436)]))
        have Z494 : h0.size ≤ T488.heap.size := Nat.le_trans Z490 Kp488.1
        obtain ⟨rv493, T493, L493, X493, q493, st493⟩ := own_vi X488 hx hZ (y := (⟨"com/example/limmat/limmat/analysis/Opacity$Verdict", "holds", "()Z"⟩ : MethodName)) (z := (⟨"com/example/limmat/limmat/analysis/Opacity$Verdict", "holds", "()Z"⟩ : MethodName)) hown (ow hw 201 rfl) (ow hw 202 rfl) (ow hw 204 rfl) (ow hw 203 rfl) (Or.inl rfl) (by decide) (own_bkN (W := 0) (rm33 l Z a0 hw z0 O2 P5 dd kd O_dd V_dd mr M_mr el O_el em O_em [] b436 .null T488.heap n0 (Nat.le_trans Z0 Z494) rfl f492) hZ (ow hw 205 rfl) (ow hw 101 rfl) (by decide) (by decide)) rfl f491 (g := (mkF m 137 #[.val (.int p0), .val (.int p1), .val (.int p2), .val (.int p3), .val (.int (1 : Int32)), .val (.int (3 : Int32)), .val (.ref b330), .val (.ref b436), .unset] [(.ref b436)])) rfl (by rw [hml]; rfl) (argsL := []) (rest := []) rfl (lenOf own_pd15 rfl) rfl (by show 2 * 0 + _ ≤ _; exact Nat.le_of_eq rfl) (hb hby at_137) (by decide) (by decide)
        obtain ⟨Nq493, e493, q493⟩ := q493
        have N493 := Fr.app N488 Nq493
        rcases q493 with ⟨rfl, p495⟩ | ⟨rfl, p496⟩
        · refine go _ _ (st493) ?_
          show G (T493.setTop (mkF m 140 #[.val (.int p0), .val (.int p1), .val (.int p2), .val (.int p3), .val (.int (1 : Int32)), .val (.int (3 : Int32)), .val (.ref b330), .val (.ref b436), .unset] [(.int (1 : Int32))]))
          refine go _ _ (fun _ k => XS.istore X493.here hx rfl (hb hby at_140) rfl (l' := #[.val (.int p0), .val (.int p1), .val (.int p2), .val (.int p3), .val (.int (1 : Int32)), .val (.int (3 : Int32)), .val (.ref b330), .val (.ref b436), .val (.int (1 : Int32))]) rfl (XS.iload X493.here hx rfl (hb hby at_142) rfl (XS.iload X493.here hx rfl (hb hby at_144) rfl k))) ?_
          show G (T493.setTop (mkF m 146 #[.val (.int p0), .val (.int p1), .val (.int p2), .val (.int p3), .val (.int (1 : Int32)), .val (.int (3 : Int32)), .val (.ref b330), .val (.ref b436), .val (.int (1 : Int32))] [(.int (1 : Int32)), (.int (1 : Int32))]))
          refine go _ _ (fun _ k => XS.icmpNo X493.here hx rfl (hb hby at_146) rfl (by decide) k) ?_
          show G (T493.setTop (mkF m 149 #[.val (.int p0), .val (.int p1), .val (.int p2), .val (.int p3), .val (.int (1 : Int32)), .val (.int (3 : Int32)), .val (.ref b330), .val (.ref b436), .val (.int (1 : Int32))] []))
          refine go _ _ (fun _ k => XS.iload X493.here hx rfl (hb hby at_149) rfl (XS.aload X493.here hx rfl (hb hby at_151) rfl rfl k)) ?_
          show G (T493.setTop (mkF m 153 #[.val (.int p0), .val (.int p1), .val (.int p2), .val (.int p3), .val (.int (1 : Int32)), .val (.int (3 : Int32)), .val (.ref b330), .val (.ref b436), .val (.int (1 : Int32))] [(.ref b436), (.int (1 : Int32))]))
          obtain ⟨rv497, T497, L497, X497, q497, st497⟩ := own_vi X493 hx hZ (y := (⟨"com/example/limmat/limmat/analysis/Opacity$Verdict", "observation", "()Ljava/util/List;"⟩ : MethodName)) (z := (⟨"com/example/limmat/limmat/analysis/Opacity$Verdict", "observation", "()Ljava/util/List;"⟩ : MethodName)) hown (ow hw 206 rfl) (ow hw 207 rfl) (ow hw 209 rfl) (ow hw 208 rfl) (Or.inl rfl) (by decide) (own_bkN (W := 1) (rm34 l Z a0 hw z0 O2 P5 dd kd O_dd V_dd mr M_mr el O_el em O_em [] b436 .null T488.heap n0 (Nat.le_trans Z0 Z494) rfl f492) hZ (ow hw 210 rfl) (ow hw 101 rfl) (by decide) (by decide)) e493 f491 (g := (mkF m 153 #[.val (.int p0), .val (.int p1), .val (.int p2), .val (.int p3), .val (.int (1 : Int32)), .val (.int (3 : Int32)), .val (.ref b330), .val (.ref b436), .val (.int (1 : Int32))] [(.ref b436), (.int (1 : Int32))])) rfl (by rw [hml]; rfl) (argsL := []) (rest := [(.int (1 : Int32))]) rfl (lenOf own_pd16 rfl) rfl (by show 2 * 0 + _ ≤ _; exact Nat.le_of_eq rfl) (hb hby at_153) (by decide) (by decide)
          obtain ⟨Nq497, e497, rfl⟩ := q497
          have N497 := Fr.app N493 Nq497
          refine go _ _ (st497) ?_
          show G (T497.setTop (mkF m 156 #[.val (.int p0), .val (.int p1), .val (.int p2), .val (.int p3), .val (.int (1 : Int32)), .val (.int (3 : Int32)), .val (.ref b330), .val (.ref b436), .val (.int (1 : Int32))] [.null, (.int (1 : Int32))]))
          refine go _ _ (fun _ k => XS.ifnonnullNo X497.here hx rfl (hb hby at_156) rfl k) ?_
          show G (T497.setTop (mkF m 159 #[.val (.int p0), .val (.int p1), .val (.int p2), .val (.int p3), .val (.int (1 : Int32)), .val (.int (3 : Int32)), .val (.ref b330), .val (.ref b436), .val (.int (1 : Int32))] [(.int (1 : Int32))]))
          refine go _ _ (fun _ k => XS.iconst X497.here hx rfl (hb hby at_159) k) ?_
          show G (T497.setTop (mkF m 160 #[.val (.int p0), .val (.int p1), .val (.int p2), .val (.int p3), .val (.int (1 : Int32)), .val (.int (3 : Int32)), .val (.ref b330), .val (.ref b436), .val (.int (1 : Int32))] [(.int (1 : Int32)), (.int (1 : Int32))]))
          refine go _ _ (fun _ k => XS.goto X497.here hx rfl (pc0 := 160) (pc' := 164) rfl (hb hby at_160) (by decide) (by decide) k) ?_
          show G (T497.setTop (mkF m 164 #[.val (.int p0), .val (.int p1), .val (.int p2), .val (.int p3), .val (.int (1 : Int32)), .val (.int (3 : Int32)), .val (.ref b330), .val (.ref b436), .val (.int (1 : Int32))] [(.int (1 : Int32)), (.int (1 : Int32))]))
          refine go _ _ (fun _ k => XS.icmpNo X497.here hx rfl (hb hby at_164) rfl (by decide) k) ?_
          show G (T497.setTop (mkF m 167 #[.val (.int p0), .val (.int p1), .val (.int p2), .val (.int p3), .val (.int (1 : Int32)), .val (.int (3 : Int32)), .val (.ref b330), .val (.ref b436), .val (.int (1 : Int32))] []))
          refine go _ _ (fun _ k => XS.iconst X497.here hx rfl (hb hby at_167) k) ?_
          show G (T497.setTop (mkF m 168 #[.val (.int p0), .val (.int p1), .val (.int p2), .val (.int p3), .val (.int (1 : Int32)), .val (.int (3 : Int32)), .val (.ref b330), .val (.ref b436), .val (.int (1 : Int32))] [(.int (1 : Int32))]))
          refine go _ _ (fun _ k => XS.goto X497.here hx rfl (pc0 := 168) (pc' := 172) rfl (hb hby at_168) (by decide) (by decide) k) ?_
          show G (T497.setTop (mkF m 172 #[.val (.int p0), .val (.int p1), .val (.int p2), .val (.int p3), .val (.int (1 : Int32)), .val (.int (3 : Int32)), .val (.ref b330), .val (.ref b436), .val (.int (1 : Int32))] [(.int (1 : Int32))]))
          have K498 : Keep h0 T331.heap [] := K332.trans Kp331 (allS (Or.inr (Nat.le_of_eq g330.symm)) all0)
          have K499 : Keep h0 T339.heap [] := K498.trans Kp339 all0
          have K500 : Keep h0 T346.heap [] := K499.trans Kp346 (allS (Or.inr (Nat.le_of_eq g330.symm)) all0)
          have K501 : Keep h0 T364.heap [] := K500.trans Kp364 all0
          have K502 : Keep h0 T371.heap [] := K501.trans Kp371 (allS (Or.inr (Nat.le_of_eq g330.symm)) (allS (Or.inr (Nat.le_trans Z353 z356)) all0))
          have K503 : Keep h0 h388 [] := K502.ext E388
          have K504 : Keep h0 h389 [] := K503.ext E389
          have K505 : Keep h0 h390 [] := K504.wr W390 (Or.inr (Nat.le_trans Z392 (Nat.le_of_eq g389.symm)))
          have K506 : Keep h0 h393 [] := K505.wr W393 (Or.inr (Nat.le_trans Z392 (Nat.le_of_eq g389.symm)))
          have K507 : Keep h0 T394.heap [] := K506.trans Kp394 (allS (Or.inr (Nat.le_trans Z391 (Nat.le_of_eq g388.symm))) all0)
          have K508 : Keep h0 T412.heap [] := K507.trans Kp412 (allS (Or.inr (Nat.le_of_eq g330.symm)) (allS (Or.inr (Nat.le_trans Z353 z356)) all0))
          have K509 : Keep h0 h436 [] := K508.ext E436
          have K510 : Keep h0 T488.heap [] := K509.trans Kp488 (allS (Or.inr (Nat.le_trans Z489 (Nat.le_of_eq g436.symm))) all0)
          refine fin T497 _ _ _ (some (.int (1 : Int32))) X497 (fun q => nomatch q) (by decide) (by decide) (by rw [e497]; exact ⟨N497, K510, rfl⟩) _ (own_retN X497 hx (z := (1 : Int32)) (t := .boolean) hret (by simp) (hb hby at_172))
        · exact absurd rfl p496
  by_cases hc3_511 : (p0 &&& (1 : Int32)) = (0 : Int32)
  · refine go _ _ (fun _ k => XS.ifYes X0.here hx rfl (pc0 := 3) (pc' := 10) rfl (hb hby at_3) rfl ((if0 _ _).trans (teq hc3_511).1) (by decide) (by decide) k) ?_
    show G (s₁.setTop (mkF m 10 #[.val (.int p0), .val (.int p1), .val (.int p2), .val (.int p3), .unset, .unset, .unset, .unset, .unset] []))
    refine go _ _ (fun _ k => XS.iconst X0.here hx rfl (hb hby at_10) k) ?_
    show G (s₁.setTop (mkF m 11 #[.val (.int p0), .val (.int p1), .val (.int p2), .val (.int p3), .unset, .unset, .unset, .unset, .unset] [(.int (0 : Int32))]))
    exact J101 _ _ (X0.more (by decide) (by decide)) e0 N0 (0 : Int32) (Or.inl rfl)
  · refine go _ _ (fun _ k => XS.ifNo X0.here hx rfl (hb hby at_3) rfl ((if0 _ _).trans (feq hc3_511).1) k) ?_
    show G (s₁.setTop (mkF m 6 #[.val (.int p0), .val (.int p1), .val (.int p2), .val (.int p3), .unset, .unset, .unset, .unset, .unset] []))
    refine go _ _ (fun _ k => XS.iconst X0.here hx rfl (hb hby at_6) k) ?_
    show G (s₁.setTop (mkF m 7 #[.val (.int p0), .val (.int p1), .val (.int p2), .val (.int p3), .unset, .unset, .unset, .unset, .unset] [(.int (1 : Int32))]))
    refine go _ _ (fun _ k => XS.goto X0.here hx rfl (pc0 := 7) (pc' := 11) rfl (hb hby at_7) (by decide) (by decide) k) ?_
    show G (s₁.setTop (mkF m 11 #[.val (.int p0), .val (.int p1), .val (.int p2), .val (.int p3), .unset, .unset, .unset, .unset, .unset] [(.int (1 : Int32))]))
    exact J101 _ _ (X0.more (by decide) (by decide)) e0 N0 (1 : Int32) (Or.inr rfl)
set_option maxRecDepth 65536 in
set_option maxHeartbeats 40000000 in
theorem comes_1 {Post : Tables → Env → Array Value → State → Outcome → State → Prop} (hpost : ∀ tb e args s v u, (limb_1_1.after args s (.returned v) u = true ∧ limb_1_2.after args s (.returned v) u = true ∧ True) → FrameEnd s (.returned v) u (Jvm.fieldLocs frame_1_writes args s ++ Jvm.arrayLocs frame_1_arrays args s ++ Jvm.staticLocs frame_1_statics s) 40 192 → Post tb e args s (.returned v) u) :
    ArmFor flags0 classFile x code maxLocals ret World_1 tables_1 room_1 Calls_1 rest_1 Pre_1 Post := by
  intro l hfl _ _ p e ha hc hk s m args below hf hA hF happ hP
  obtain ⟨hcalls, hrest, hpre⟩ := hP
  obtain ⟨-, -, -, hnamed, -, -, -, hat⟩ := (Spec.applies_iff hf).mp happ
  obtain ⟨hg, hn⟩ := and_e (Cond.before_iff.mp (show (Jvm.Cond.and given_1 narrow_1).before args s = true from hpre))
  obtain ⟨h1, g0⟩ := and_e hg
  obtain ⟨ga0, g1⟩ := and_e g0
  obtain ⟨ga1, g2⟩ := and_e g1
  obtain ⟨ga2, g3⟩ := and_e g2
  have ga3 := g3
  obtain ⟨w0, w1, w2, w3, rfl⟩ : ∃ w0 w1 w2 w3 : Value, args = #[w0, w1, w2, w3] := by
    have hs : args.size = 4 := by simpa [Cond.value, given_1] using h1
    obtain ⟨L⟩ := args
    match L, hs with
    | [w0, w1, w2, w3], _ => exact ⟨w0, w1, w2, w3, rfl⟩
  have hw := fun d (hd : d ∈ tables_1) => atoms_spec (ws := Jvm.Cond.code x code maxLocals ret :: tables_1) hat d (List.mem_cons_of_mem _ hd)
  obtain ⟨hsets, hown0⟩ := atoms_of _ (rest_1_c_eq ▸ (show rest_1_c.before _ s = true from hrest))
  have hfit : Fit s := fun {y c} hc i hi => by
    obtain ⟨ha, rfl⟩ := Array.getElem?_eq_some_iff.mp hc
    have q := List.all_eq_true.mp ((Array.all_eq_true_iff_forall_mem.mp hF) _ (Array.getElem_mem ha)) i (List.mem_range.mpr hi)
    simpa [Array.getElem?_eq_getElem hi] using q
  obtain ⟨i0, ea0⟩ := is_v ga0
  obtain rfl : w0 = (.int i0) := Option.some.inj ea0
  obtain ⟨i1, ea1⟩ := is_v ga1
  obtain rfl : w1 = (.int i1) := Option.some.inj ea1
  obtain ⟨i2, ea2⟩ := is_v ga2
  obtain rfl : w2 = (.int i2) := Option.some.inj ea2
  obtain ⟨i3, ea3⟩ := is_v ga3
  obtain rfl : w3 = (.int i3) := Option.some.inj ea3
  have n3 := not_v (Cond.before_iff.mp (hsets _ (List.mem_of_getElem? (i := 11) rfl)))
  obtain ⟨iz, ez⟩ := is_v (Cond.before_iff.mp (hsets _ (List.mem_of_getElem? (i := 10) rfl)))
  have S8 : Sta s s.heap "java/lang/String" "COMPACT_STRINGS" "Z" (.int iz) := Sta.start ez (Or.inl (hsets _ (List.mem_of_getElem? (i := 9) rfl)))
  have c13 : ¬ (iz = (0 : Int32)) := gotF (Cond.eq_ints ez (Term.int_eval (0))) n3
  obtain ⟨u_dd, ev_dd⟩ := own_exa_v (Cond.before_iff.mp (hsets _ (List.mem_of_getElem? (i := 7) rfl)))
  have S_dd : Sta s s.heap "java/util/ArrayList" "DEFAULTCAPACITY_EMPTY_ELEMENTDATA" "[Ljava/lang/Object;" (.ref u_dd) := Sta.start ev_dd (Or.inr ⟨(ow hw 2 rfl), hsets _ (List.mem_of_getElem? (i := 2) rfl)⟩)
  obtain ⟨u_el, ev_el⟩ := own_exa_v (Cond.before_iff.mp (hsets _ (List.mem_of_getElem? (i := 26) rfl)))
  have S_el : Sta s s.heap "java/util/ImmutableCollections" "EMPTY_LIST" "Ljava/util/ImmutableCollections$ListN;" (.ref u_el) := Sta.start ev_el (Or.inl (hsets _ (List.mem_of_getElem? (i := 25) rfl)))
  obtain ⟨u_em, ev_em⟩ := own_exa_v (Cond.before_iff.mp (hsets _ (List.mem_of_getElem? (i := 20) rfl)))
  have S_em : Sta s s.heap "java/util/ImmutableCollections" "EMPTY" "Ljava/lang/Object;" (.ref u_em) := Sta.start ev_em (Or.inl (hsets _ (List.mem_of_getElem? (i := 19) rfl)))
  obtain ⟨c_dd, A_dd⟩ := Arr.start ev_dd (Cond.before_iff.mp (hsets _ (List.mem_of_getElem? (i := 6) rfl)))
  have V_dd := own_arv0 (d := .null) hfit ev_dd A_dd (Cond.before_iff.mp (hsets _ (List.mem_of_getElem? (i := 8) rfl)))
  obtain ⟨cm, km, mr, hm1, hm2, hm3⟩ := hcalls.1
  have M_mr : own_Mir s "[Ljava/lang/Object;" mr := ⟨cm, km, hm1, hm2, hm3.1⟩
  obtain ⟨n, o, h1, h2, h3, v, L, rfl, ⟨N, -, q⟩, hq⟩ := rmLaw l s _ hw iz S8 c13 u_dd c_dd.cls S_dd V_dd mr M_mr u_el S_el u_em S_em tables_1 i0 i1 i2 i3 s.heap s.heap.size (Nat.le_refl _) (Old.start s) p e ha hc hk s m _ below hf ((Spec.applies_iff_loose hf).mp happ).1 ⟨rfl, State.Warmed39.refl s, rfl⟩ trivial
  subst q
  refine ⟨n, _, h1, h2, h3, hpost _ _ _ _ _ _ ⟨Cond.after_iff.mpr rfl, Cond.after_iff.mpr (eq_i res_at (Term.int_eval (1)) rfl), trivial⟩ ⟨hq.1, hq.2.1, (hq.2.2.sift fun y hy => Or.inr (N y hy)).mono (by decide) (by decide)⟩⟩
theorem main_1_1 : Claimed_1_1 := comes_1 fun _ _ _ _ _ _ h hF => ⟨h.1, hF⟩
theorem main_1_2 : Claimed_1_2 := comes_1 fun _ _ _ _ _ _ h hF => ⟨h.2.1, hF⟩
end Jvm.Pilot.@@N@@
namespace Jvm.Pilot.@@N@@
open Jvm Jvm.ClassFile Sem Op Lib Jvm.Free Jvm.Stand Jvm.Pilot.@@N@@.Jvm.D
/-! MADE BY PROGRAM (witnessworld.py) out of the Statement's table words and the real class files: 40 classes; the members and pool entries that the words name. The judged class is class 1, her method 1. -/
namespace start1
open Jvm.ClassFile
def u (s : String) : CpInfo := .utf8 (stringToUtf16 s)
/-- a pool by its gaps: so many unusable entries, then the entry; so many at the end -/
def gap : Nat → List CpInfo → List CpInfo
  | 0, r => r
  | n + 1, r => .unusable :: gap n r
def poolList (es : List (Nat × CpInfo)) (last : Nat) : List CpInfo := es.foldr (fun e r => gap e.1 (e.2 :: r)) (gap last [])
def pool (es : List (Nat × CpInfo)) (last : Nat) : Array CpInfo := ⟨poolList es last⟩
def fileOf (pool : Array CpInfo) (this : Nat) (attrs : Array Attribute := #[]) (ms : Array MethodInfo := #[]) (fl : Nat := 33) (sup : Nat := 0) (ifs : Array Nat := #[]) (fds : Array FieldInfo := #[]) : ClassFile where
  minorVersion := 0
  majorVersion := 65
  constantPool := pool
  accessFlags := fl
  thisClass := this
  superClass := sup
  interfaces := ifs
  fields := fds
  methods := ms
  attributes := attrs
def plain (name : String) (sup : Option ClassId) : Class where
  name := name
  kind := .ordinary
  loader := none
  accessFlags := 33
  super := sup
  interfaces := #[]
  cf := none
  fields := #[]
  methods := #[]
  instanceTypes := #[]
  staticTypes := #[]
  resolved := #[]
  callSites := []
  init := .initialized
  statics := none
  mirror := none

def pool0 : Array CpInfo := pool [(5, u "<init>"), (0, u "()V"), (1, .class_ 10), (1, u "java/lang/Object"), (0, u "getClass"), (0, u "()Ljava/lang/Class;")] 111

def k0c0 : Code := { maxStack := 0, maxLocals := 1, code := object_method_1_code, exceptionTable := #[], attributes := #[] }
def k0m0 : Method := { name := "<init>", desc := "()V", sig := { parameters := [], returnType := none }, accessFlags := 1, code := some k0c0 }
def k0m1 : Method := { name := "getClass", desc := "()Ljava/lang/Class;", sig := { parameters := [], returnType := some (.object "java/lang/Class") }, accessFlags := 273, code := none }
/-- java/lang/Object -/
def k0 : Class := { plain "java/lang/Object" none with
  accessFlags := 33
  interfaces := #[]
  cf := some (fileOf pool0 8 #[] #[{ accessFlags := 1, nameIndex := 5, descriptorIndex := 6, attributes := #[] }, { accessFlags := 273, nameIndex := 11, descriptorIndex := 12, attributes := #[] }] 33 0 #[] #[])
  fields := #[]
  methods := #[k0m0, k0m1]
  instanceTypes := #[]
  staticTypes := #[]
  resolved := Array.replicate 124 none
  statics := none }

def pool1 : Array CpInfo := pool [(2, .class_ 4), (0, .nameAndType 5 6), (0, u "java/lang/Object"), (0, u "<init>"), (0, u "()V"), (0, .class_ 8), (0, u "java/util/ArrayList"), (0, .methodref 7 3), (0, .methodref 11 12), (0, .class_ 13), (0, .nameAndType 14 15), (0, u "java/lang/String"), (0, u "valueOf"), (0, u "(C)Ljava/lang/String;"), (0, .methodref 7 17), (0, .nameAndType 18 19), (0, u "add"), (0, u "(Ljava/lang/Object;)Z"), (0, .methodref 11 21), (0, .nameAndType 5 22), (0, u "([C)V"), (0, .class_ 24), (0, u "com/example/limmat/limmat/analysis/Opacity$Verdict"), (0, .methodref 23 26), (0, .nameAndType 5 27), (0, u "(Ljava/util/List;)V"), (0, .methodref 23 29), (0, .nameAndType 30 31), (0, u "holds"), (0, u "()Z"), (0, .methodref 23 33), (0, .nameAndType 34 35), (0, u "observation"), (0, u "()Ljava/util/List;"), (0, .class_ 37), (0, u "com/example/limmat/limmat/analysis/VerdictHoldsPinLaw"), (2, u "law"), (0, u "(IIII)Z")] 9

def k1m0 : Method := { name := "<init>", desc := "()V", sig := { parameters := [], returnType := none }, accessFlags := 1, code := none }
def k1c1 : Code := { maxStack := 8, maxLocals := 9, code := code, exceptionTable := #[], attributes := #[] }
def k1m1 : Method := { name := "law", desc := "(IIII)Z", sig := { parameters := [.int, .int, .int, .int], returnType := some .boolean }, accessFlags := 9, code := some k1c1 }
/-- com/example/limmat/limmat/analysis/VerdictHoldsPinLaw -/
def k1 : Class := { plain "com/example/limmat/limmat/analysis/VerdictHoldsPinLaw" (some 0) with
  accessFlags := 49
  interfaces := #[]
  cf := some (fileOf pool1 36 #[] #[{ accessFlags := 1, nameIndex := 5, descriptorIndex := 6, attributes := #[] }, { accessFlags := 9, nameIndex := 40, descriptorIndex := 41, attributes := #[] }] 49 2 #[] #[])
  fields := #[]
  methods := #[k1m0, k1m1]
  instanceTypes := #[]
  staticTypes := #[]
  resolved := Array.replicate 51 none
  statics := none }

def pool2 : Array CpInfo := pool [(8, .class_ 10), (1, u "java/lang/Iterable"), (24, .class_ 36), (0, u "java/lang/Object")] 25

/-- java/lang/Iterable -/
def k2 : Class := { plain "java/lang/Iterable" (some 0) with
  accessFlags := 1537
  interfaces := #[]
  cf := some (fileOf pool2 8 #[] #[] 1537 35 #[] #[])
  fields := #[]
  methods := #[]
  instanceTypes := #[]
  staticTypes := #[]
  resolved := Array.replicate 62 none
  statics := none }

def pool3 : Array CpInfo := pool [(10, .class_ 12), (1, u "java/util/Collection"), (0, u "toArray"), (16, u "()Z"), (29, .class_ 61), (0, u "java/lang/Object"), (0, .class_ 63), (0, u "java/lang/Iterable"), (2, u "isEmpty"), (3, u "()[Ljava/lang/Object;")] 44

def k3m0 : Method := { name := "isEmpty", desc := "()Z", sig := { parameters := [], returnType := some .boolean }, accessFlags := 1025, code := none }
def k3m1 : Method := { name := "toArray", desc := "()[Ljava/lang/Object;", sig := { parameters := [], returnType := some (.array (.object "java/lang/Object")) }, accessFlags := 1025, code := none }
/-- java/util/Collection -/
def k3 : Class := { plain "java/util/Collection" (some 0) with
  accessFlags := 1537
  interfaces := #[2]
  cf := some (fileOf pool3 10 #[] #[{ accessFlags := 1025, nameIndex := 66, descriptorIndex := 30, attributes := #[] }, { accessFlags := 1025, nameIndex := 13, descriptorIndex := 70, attributes := #[] }] 1537 60 #[62] #[])
  fields := #[]
  methods := #[k3m0, k3m1]
  instanceTypes := #[]
  staticTypes := #[]
  resolved := Array.replicate 115 none
  statics := none }

def pool4 : Array CpInfo := pool [(1, .methodref 2 3), (0, .class_ 4), (0, .nameAndType 5 6), (0, u "java/lang/Object"), (0, u "<init>"), (0, u "()V"), (1, .class_ 10), (1, u "java/util/AbstractCollection"), (66, .class_ 78), (0, u "java/util/Collection")] 81

def k4c0 : Code := { maxStack := 1, maxLocals := 1, code := jdk_22_method_1_code, exceptionTable := #[], attributes := #[] }
def k4m0 : Method := { name := "<init>", desc := "()V", sig := { parameters := [], returnType := none }, accessFlags := 4, code := some k4c0 }
/-- java/util/AbstractCollection -/
def k4 : Class := { plain "java/util/AbstractCollection" (some 0) with
  accessFlags := 1057
  interfaces := #[3]
  cf := some (fileOf pool4 8 #[] #[{ accessFlags := 4, nameIndex := 5, descriptorIndex := 6, attributes := #[] }] 1057 2 #[77] #[])
  fields := #[]
  methods := #[k4m0]
  instanceTypes := #[]
  staticTypes := #[]
  resolved := Array.replicate 160 none
  statics := none }

def pool5 : Array CpInfo := pool [(8, .class_ 10), (1, u "java/util/SequencedCollection"), (15, .class_ 27), (0, u "java/lang/Object"), (0, .class_ 29), (0, u "java/util/Collection")] 27

/-- java/util/SequencedCollection -/
def k5 : Class := { plain "java/util/SequencedCollection" (some 0) with
  accessFlags := 1537
  interfaces := #[3]
  cf := some (fileOf pool5 8 #[] #[] 1537 26 #[28] #[])
  fields := #[]
  methods := #[]
  instanceTypes := #[]
  staticTypes := #[]
  resolved := Array.replicate 57 none
  statics := none }

def pool6 : Array CpInfo := pool [(8, .class_ 10), (1, u "java/util/List"), (20, u "(Ljava/lang/Object;)V"), (16, u "<init>"), (39, u "of"), (1, .fieldref 91 92), (0, .class_ 93), (0, .nameAndType 94 95), (0, u "java/util/ImmutableCollections"), (0, u "EMPTY_LIST"), (0, u "Ljava/util/ImmutableCollections$ListN;"), (0, .class_ 97), (0, u "java/util/ImmutableCollections$List12"), (0, .methodref 96 99), (0, .nameAndType 48 31), (0, .methodref 96 101), (0, .nameAndType 48 102), (0, u "(Ljava/lang/Object;Ljava/lang/Object;)V"), (0, .class_ 104), (0, u "java/lang/Object"), (3, u "([Ljava/lang/Object;)Ljava/util/List;"), (0, .methodref 91 110), (0, .nameAndType 111 108), (0, u "listFromArray"), (0, .methodref 91 113), (0, .nameAndType 114 115), (0, u "listCopy"), (0, u "(Ljava/util/Collection;)Ljava/util/List;"), (3, u "()Ljava/util/List;"), (0, .class_ 121), (0, u "java/util/SequencedCollection"), (112, u "copyOf")] 16

def k6c0 : Code := { maxStack := 1, maxLocals := 0, code := jdk_40_method_36_code, exceptionTable := #[], attributes := #[] }
def k6m0 : Method := { name := "of", desc := "()Ljava/util/List;", sig := { parameters := [], returnType := some (.object "java/util/List") }, accessFlags := 9, code := some k6c0 }
def k6c1 : Code := { maxStack := 5, maxLocals := 2, code := jdk_40_method_47_code, exceptionTable := #[], attributes := #[] }
def k6m1 : Method := { name := "of", desc := "([Ljava/lang/Object;)Ljava/util/List;", sig := { parameters := [(.array (.object "java/lang/Object"))], returnType := some (.object "java/util/List") }, accessFlags := 137, code := some k6c1 }
def k6c2 : Code := { maxStack := 1, maxLocals := 1, code := jdk_40_method_48_code, exceptionTable := #[], attributes := #[] }
def k6m2 : Method := { name := "copyOf", desc := "(Ljava/util/Collection;)Ljava/util/List;", sig := { parameters := [(.object "java/util/Collection")], returnType := some (.object "java/util/List") }, accessFlags := 9, code := some k6c2 }
/-- java/util/List -/
def k6 : Class := { plain "java/util/List" (some 0) with
  accessFlags := 1537
  interfaces := #[5]
  cf := some (fileOf pool6 8 #[] #[{ accessFlags := 9, nameIndex := 88, descriptorIndex := 119, attributes := #[] }, { accessFlags := 137, nameIndex := 88, descriptorIndex := 108, attributes := #[] }, { accessFlags := 9, nameIndex := 234, descriptorIndex := 115, attributes := #[] }] 1537 103 #[120] #[])
  fields := #[]
  methods := #[k6m0, k6m1, k6m2]
  instanceTypes := #[]
  staticTypes := #[]
  resolved := Array.replicate 251 none
  statics := none }

def pool7 : Array CpInfo := pool [(1, .methodref 2 3), (0, .class_ 4), (0, .nameAndType 5 6), (0, u "java/util/AbstractCollection"), (0, u "<init>"), (0, u "()V"), (0, .fieldref 8 9), (0, .class_ 10), (0, .nameAndType 11 12), (0, u "java/util/AbstractList"), (0, u "modCount"), (0, u "I"), (64, .class_ 78), (0, u "java/util/AbstractList$Itr"), (3, .class_ 83), (0, u "java/util/AbstractList$ListItr"), (9, .class_ 94), (0, u "java/util/AbstractList$RandomAccessSubList"), (3, .class_ 99), (0, u "java/util/AbstractList$SubList"), (33, .class_ 134), (0, u "java/util/List"), (73, .class_ 209), (0, u "java/util/AbstractList$SubList$1"), (0, .class_ 211), (0, u "java/util/AbstractList$RandomAccessSpliterator")] 6

def k7c0 : Code := { maxStack := 2, maxLocals := 1, code := jdk_39_method_1_code, exceptionTable := #[], attributes := #[] }
def k7m0 : Method := { name := "<init>", desc := "()V", sig := { parameters := [], returnType := none }, accessFlags := 4, code := some k7c0 }
/-- java/util/AbstractList -/
def k7 : Class := { plain "java/util/AbstractList" (some 4) with
  accessFlags := 1057
  interfaces := #[6]
  cf := some (fileOf pool7 8 #[.nestMembers #[93, 98, 208, 210, 82, 77]] #[{ accessFlags := 4, nameIndex := 5, descriptorIndex := 6, attributes := #[] }] 1057 2 #[133] #[{ accessFlags := 132, nameIndex := 11, descriptorIndex := 12, attributes := #[] }])
  fields := #[{ name := "modCount", type := .int, accessFlags := 132, slot := 0, constantValue := 0 }]
  methods := #[k7m0]
  instanceTypes := #[.int]
  staticTypes := #[]
  resolved := Array.replicate 218 none
  statics := none }

def pool8 : Array CpInfo := pool [(1, .class_ 2), (0, u "java/util/RandomAccess"), (0, .class_ 4), (0, u "java/lang/Object")] 2

/-- java/util/RandomAccess -/
def k8 : Class := { plain "java/util/RandomAccess" (some 0) with
  accessFlags := 1537
  interfaces := #[]
  cf := some (fileOf pool8 1 #[] #[] 1537 3 #[] #[])
  fields := #[]
  methods := #[]
  instanceTypes := #[]
  staticTypes := #[]
  resolved := Array.replicate 7 none
  statics := none }

def pool9 : Array CpInfo := pool [(1, .class_ 2), (0, u "java/lang/Cloneable"), (0, .class_ 4), (0, u "java/lang/Object")] 2

/-- java/lang/Cloneable -/
def k9 : Class := { plain "java/lang/Cloneable" (some 0) with
  accessFlags := 1537
  interfaces := #[]
  cf := some (fileOf pool9 1 #[] #[] 1537 3 #[] #[])
  fields := #[]
  methods := #[]
  instanceTypes := #[]
  staticTypes := #[]
  resolved := Array.replicate 7 none
  statics := none }

def pool10 : Array CpInfo := pool [(1, .class_ 2), (0, u "java/io/Serializable"), (0, .class_ 4), (0, u "java/lang/Object")] 2

/-- java/io/Serializable -/
def k10 : Class := { plain "java/io/Serializable" (some 0) with
  accessFlags := 1537
  interfaces := #[]
  cf := some (fileOf pool10 1 #[] #[] 1537 3 #[] #[])
  fields := #[]
  methods := #[]
  instanceTypes := #[]
  staticTypes := #[]
  resolved := Array.replicate 7 none
  statics := none }

def pool11 : Array CpInfo := pool [(1, .methodref 2 3), (0, .class_ 4), (0, .nameAndType 5 6), (0, u "java/util/AbstractList"), (0, u "<init>"), (0, u "()V"), (0, .class_ 8), (0, u "java/lang/Object"), (0, .fieldref 10 11), (0, .class_ 12), (0, .nameAndType 13 14), (0, u "java/util/ArrayList"), (0, u "elementData"), (0, u "[Ljava/lang/Object;"), (2, u "EMPTY_ELEMENTDATA"), (21, .fieldref 10 40), (0, .nameAndType 41 14), (0, u "DEFAULTCAPACITY_EMPTY_ELEMENTDATA"), (4, u "toArray"), (0, u "()[Ljava/lang/Object;"), (0, .fieldref 10 49), (0, .nameAndType 50 51), (0, u "size"), (0, u "I"), (6, .class_ 60), (1, u "java/util/Arrays"), (0, u "copyOf"), (1, .fieldref 10 64), (0, .nameAndType 65 51), (0, u "modCount"), (0, .methodref 58 67), (0, .nameAndType 61 68), (0, u "([Ljava/lang/Object;I)[Ljava/lang/Object;"), (0, .methodref 10 70), (0, .nameAndType 71 72), (0, u "grow"), (0, u "(I)[Ljava/lang/Object;"), (6, .methodref 80 81), (0, .class_ 82), (0, .nameAndType 83 84), (0, u "java/lang/Math"), (0, u "max"), (0, u "(II)I"), (11, u "(Ljava/lang/Object;)Z"), (32, .methodref 10 130), (0, .nameAndType 71 47), (0, .methodref 10 132), (0, .nameAndType 133 134), (0, u "add"), (0, u "(Ljava/lang/Object;[Ljava/lang/Object;I)V"), (13, .class_ 149), (0, u "java/util/List"), (23, u "()Z"), (88, .class_ 263), (0, u "java/util/ArrayList$ListItr"), (3, .class_ 268), (0, u "java/util/ArrayList$Itr"), (7, .class_ 277), (0, u "java/util/ArrayList$SubList"), (12, .class_ 291), (0, u "java/util/ArrayList$ArrayListSpliterator"), (37, .class_ 330), (0, u "java/util/RandomAccess"), (0, .class_ 332), (0, u "java/lang/Cloneable"), (0, .class_ 334), (0, u "java/io/Serializable"), (0, u "serialVersionUID"), (0, u "J"), (3, u "DEFAULT_CAPACITY"), (22, u "isEmpty"), (136, .class_ 501), (0, u "java/util/ArrayList$SubList$2"), (0, .class_ 503), (0, u "java/util/ArrayList$SubList$1")] 5

def k11c0 : Code := { maxStack := 2, maxLocals := 1, code := jdk_38_method_2_code, exceptionTable := #[], attributes := #[] }
def k11m0 : Method := { name := "<init>", desc := "()V", sig := { parameters := [], returnType := none }, accessFlags := 1, code := some k11c0 }
def k11c1 : Code := { maxStack := 4, maxLocals := 4, code := jdk_38_method_6_code, exceptionTable := #[], attributes := #[] }
def k11m1 : Method := { name := "grow", desc := "(I)[Ljava/lang/Object;", sig := { parameters := [.int], returnType := some (.array (.object "java/lang/Object")) }, accessFlags := 2, code := some k11c1 }
def k11c2 : Code := { maxStack := 3, maxLocals := 1, code := jdk_38_method_7_code, exceptionTable := #[], attributes := #[] }
def k11m2 : Method := { name := "grow", desc := "()[Ljava/lang/Object;", sig := { parameters := [], returnType := some (.array (.object "java/lang/Object")) }, accessFlags := 2, code := some k11c2 }
def k11c3 : Code := { maxStack := 1, maxLocals := 1, code := jdk_38_method_9_code, exceptionTable := #[], attributes := #[] }
def k11m3 : Method := { name := "isEmpty", desc := "()Z", sig := { parameters := [], returnType := some .boolean }, accessFlags := 1, code := some k11c3 }
def k11c4 : Code := { maxStack := 2, maxLocals := 1, code := jdk_38_method_16_code, exceptionTable := #[], attributes := #[] }
def k11m4 : Method := { name := "toArray", desc := "()[Ljava/lang/Object;", sig := { parameters := [], returnType := some (.array (.object "java/lang/Object")) }, accessFlags := 1, code := some k11c4 }
def k11c5 : Code := { maxStack := 3, maxLocals := 4, code := jdk_38_method_24_code, exceptionTable := #[], attributes := #[] }
def k11m5 : Method := { name := "add", desc := "(Ljava/lang/Object;[Ljava/lang/Object;I)V", sig := { parameters := [(.object "java/lang/Object"), (.array (.object "java/lang/Object")), .int], returnType := none }, accessFlags := 2, code := some k11c5 }
def k11c6 : Code := { maxStack := 4, maxLocals := 2, code := jdk_38_method_25_code, exceptionTable := #[], attributes := #[] }
def k11m6 : Method := { name := "add", desc := "(Ljava/lang/Object;)Z", sig := { parameters := [(.object "java/lang/Object")], returnType := some .boolean }, accessFlags := 1, code := some k11c6 }
/-- java/util/ArrayList -/
def k11 : Class := { plain "java/util/ArrayList" (some 7) with
  accessFlags := 33
  interfaces := #[6, 8, 9, 10]
  cf := some (fileOf pool11 10 #[.nestMembers #[290, 276, 500, 502, 262, 267]] #[{ accessFlags := 1, nameIndex := 5, descriptorIndex := 6, attributes := #[] }, { accessFlags := 2, nameIndex := 71, descriptorIndex := 72, attributes := #[] }, { accessFlags := 2, nameIndex := 71, descriptorIndex := 47, attributes := #[] }, { accessFlags := 1, nameIndex := 363, descriptorIndex := 173, attributes := #[] }, { accessFlags := 1, nameIndex := 46, descriptorIndex := 47, attributes := #[] }, { accessFlags := 2, nameIndex := 133, descriptorIndex := 134, attributes := #[] }, { accessFlags := 1, nameIndex := 133, descriptorIndex := 96, attributes := #[] }] 33 2 #[148, 329, 331, 333] #[{ accessFlags := 26, nameIndex := 335, descriptorIndex := 336, attributes := #[] }, { accessFlags := 26, nameIndex := 340, descriptorIndex := 51, attributes := #[] }, { accessFlags := 26, nameIndex := 17, descriptorIndex := 14, attributes := #[] }, { accessFlags := 26, nameIndex := 41, descriptorIndex := 14, attributes := #[] }, { accessFlags := 128, nameIndex := 13, descriptorIndex := 14, attributes := #[] }, { accessFlags := 2, nameIndex := 50, descriptorIndex := 51, attributes := #[] }])
  fields := #[{ name := "serialVersionUID", type := .long, accessFlags := 26, slot := 0, constantValue := 0 }, { name := "DEFAULT_CAPACITY", type := .int, accessFlags := 26, slot := 1, constantValue := 0 }, { name := "EMPTY_ELEMENTDATA", type := (.array (.object "java/lang/Object")), accessFlags := 26, slot := 2, constantValue := 0 }, { name := "DEFAULTCAPACITY_EMPTY_ELEMENTDATA", type := (.array (.object "java/lang/Object")), accessFlags := 26, slot := 3, constantValue := 0 }, { name := "elementData", type := (.array (.object "java/lang/Object")), accessFlags := 128, slot := 1, constantValue := 0 }, { name := "size", type := .int, accessFlags := 2, slot := 2, constantValue := 0 }]
  methods := #[k11m0, k11m1, k11m2, k11m3, k11m4, k11m5, k11m6]
  instanceTypes := #[.int, (.array (.object "java/lang/Object")), .int]
  staticTypes := #[.long, .int, (.array (.object "java/lang/Object")), (.array (.object "java/lang/Object"))]
  resolved := Array.replicate 509 none
  statics := some 0 }

def pool12 : Array CpInfo := pool [(1, .class_ 2), (0, u "java/lang/Comparable"), (0, .class_ 4), (0, u "java/lang/Object")] 7

/-- java/lang/Comparable -/
def k12 : Class := { plain "java/lang/Comparable" (some 0) with
  accessFlags := 1537
  interfaces := #[]
  cf := some (fileOf pool12 1 #[] #[] 1537 3 #[] #[])
  fields := #[]
  methods := #[]
  instanceTypes := #[]
  staticTypes := #[]
  resolved := Array.replicate 12 none
  statics := none }

def pool13 : Array CpInfo := pool [(2, .class_ 4), (1, u "java/lang/CharSequence"), (42, .class_ 48), (0, u "java/lang/CharSequence$1CodePointIterator"), (10, .class_ 60), (0, u "java/lang/CharSequence$1CharIterator"), (5, .class_ 67), (0, u "java/lang/Object")] 63

/-- java/lang/CharSequence -/
def k13 : Class := { plain "java/lang/CharSequence" (some 0) with
  accessFlags := 1537
  interfaces := #[]
  cf := some (fileOf pool13 2 #[.nestMembers #[47, 59]] #[] 1537 66 #[] #[])
  fields := #[]
  methods := #[]
  instanceTypes := #[]
  staticTypes := #[]
  resolved := Array.replicate 131 none
  statics := none }

def pool14 : Array CpInfo := pool [(1, .class_ 2), (0, u "java/lang/constant/Constable"), (0, .class_ 4), (0, u "java/lang/Object")] 6

/-- java/lang/constant/Constable -/
def k14 : Class := { plain "java/lang/constant/Constable" (some 0) with
  accessFlags := 1537
  interfaces := #[]
  cf := some (fileOf pool14 1 #[] #[] 1537 3 #[] #[])
  fields := #[]
  methods := #[]
  instanceTypes := #[]
  staticTypes := #[]
  resolved := Array.replicate 11 none
  statics := none }

def pool15 : Array CpInfo := pool [(1, .class_ 2), (0, u "java/lang/constant/ConstantDesc"), (0, .class_ 4), (0, u "java/lang/Object")] 32

/-- java/lang/constant/ConstantDesc -/
def k15 : Class := { plain "java/lang/constant/ConstantDesc" (some 0) with
  accessFlags := 1537
  interfaces := #[]
  cf := some (fileOf pool15 1 #[] #[] 1537 3 #[] #[])
  fields := #[]
  methods := #[]
  instanceTypes := #[]
  staticTypes := #[]
  resolved := Array.replicate 37 none
  statics := none }

def pool16 : Array CpInfo := pool [(1, .methodref 2 3), (0, .class_ 4), (0, .nameAndType 5 6), (0, u "java/lang/Object"), (0, u "<init>"), (0, u "()V"), (2, .fieldref 10 11), (0, .class_ 12), (0, .nameAndType 13 14), (0, u "java/lang/String"), (0, u "value"), (0, u "[B"), (0, .fieldref 10 16), (0, .nameAndType 17 18), (0, u "coder"), (0, u "B"), (2, u "hash"), (0, u "I"), (2, u "hashIsZero"), (0, u "Z"), (0, .methodref 10 28), (0, .nameAndType 5 29), (0, u "([CIILjava/lang/Void;)V"), (8, .fieldref 10 39), (0, .nameAndType 40 26), (0, u "COMPACT_STRINGS"), (1, .class_ 44), (1, u "java/lang/StringUTF16"), (0, u "compress"), (1, .methodref 42 48), (0, .nameAndType 49 50), (0, u "coderFromArrayLen"), (0, u "([BI)B"), (2, u "toBytes"), (53, .class_ 109), (1, u "java/lang/StringLatin1"), (67, .methodref 42 178), (0, .nameAndType 45 179), (0, u "([CII)[B"), (29, .methodref 10 210), (0, .nameAndType 5 211), (0, u "([BB)V"), (157, u "(C)Z"), (205, .class_ 576), (0, u "java/lang/CharSequence"), (22, u "CASE_INSENSITIVE_ORDER"), (0, u "Ljava/util/Comparator;"), (181, u "valueOf"), (0, u "(C)Ljava/lang/String;"), (226, u "([C)V"), (4, .methodref 107 1016), (0, .nameAndType 1017 369), (0, u "canEncode"), (0, .methodref 107 1019), (0, .nameAndType 53 1020), (0, u "(C)[B"), (80, u "serialPersistentFields"), (0, u "[Ljava/io/ObjectStreamField;"), (0, .class_ 1104), (0, u "java/lang/String$CaseInsensitiveComparator"), (1, .class_ 1107), (0, u "java/io/Serializable"), (0, .class_ 1109), (0, u "java/lang/Comparable"), (0, .class_ 1111), (0, u "java/lang/constant/Constable"), (0, .class_ 1113), (0, u "java/lang/constant/ConstantDesc"), (2, u "serialVersionUID"), (0, u "J"), (3, u "REPL"), (0, u "C"), (2, u "LATIN1"), (1, u "UTF16")] 323

def k16m0 : Method := { name := "<init>", desc := "()V", sig := { parameters := [], returnType := none }, accessFlags := 1, code := none }
def k16c1 : Code := { maxStack := 5, maxLocals := 2, code := jdk_42_method_3_code, exceptionTable := #[], attributes := #[] }
def k16m1 : Method := { name := "<init>", desc := "([C)V", sig := { parameters := [(.array .char)], returnType := none }, accessFlags := 1, code := some k16c1 }
def k16c2 : Code := { maxStack := 4, maxLocals := 1, code := jdk_42_method_139_code, exceptionTable := #[], attributes := #[] }
def k16m2 : Method := { name := "valueOf", desc := "(C)Ljava/lang/String;", sig := { parameters := [.char], returnType := some (.object "java/lang/String") }, accessFlags := 9, code := some k16c2 }
def k16c3 : Code := { maxStack := 4, maxLocals := 6, code := jdk_42_method_149_code, exceptionTable := #[], attributes := #[] }
def k16m3 : Method := { name := "<init>", desc := "([CIILjava/lang/Void;)V", sig := { parameters := [(.array .char), .int, .int, (.object "java/lang/Void")], returnType := none }, accessFlags := 2, code := some k16c3 }
def k16c4 : Code := { maxStack := 2, maxLocals := 3, code := jdk_42_method_151_code, exceptionTable := #[], attributes := #[] }
def k16m4 : Method := { name := "<init>", desc := "([BB)V", sig := { parameters := [(.array .byte), .byte], returnType := none }, accessFlags := 0, code := some k16c4 }
/-- java/lang/String -/
def k16 : Class := { plain "java/lang/String" (some 0) with
  accessFlags := 49
  interfaces := #[10, 12, 13, 14, 15]
  cf := some (fileOf pool16 10 #[.nestMembers #[1103]] #[{ accessFlags := 1, nameIndex := 5, descriptorIndex := 6, attributes := #[] }, { accessFlags := 1, nameIndex := 5, descriptorIndex := 1010, attributes := #[] }, { accessFlags := 9, nameIndex := 782, descriptorIndex := 783, attributes := #[] }, { accessFlags := 2, nameIndex := 5, descriptorIndex := 29, attributes := #[] }, { accessFlags := 0, nameIndex := 5, descriptorIndex := 211, attributes := #[] }] 49 2 #[1106, 1108, 575, 1110, 1112] #[{ accessFlags := 18, nameIndex := 13, descriptorIndex := 14, attributes := #[] }, { accessFlags := 18, nameIndex := 17, descriptorIndex := 18, attributes := #[] }, { accessFlags := 2, nameIndex := 21, descriptorIndex := 22, attributes := #[] }, { accessFlags := 2, nameIndex := 25, descriptorIndex := 26, attributes := #[] }, { accessFlags := 26, nameIndex := 1116, descriptorIndex := 1117, attributes := #[] }, { accessFlags := 24, nameIndex := 40, descriptorIndex := 26, attributes := #[] }, { accessFlags := 26, nameIndex := 1101, descriptorIndex := 1102, attributes := #[] }, { accessFlags := 26, nameIndex := 1121, descriptorIndex := 1122, attributes := #[] }, { accessFlags := 25, nameIndex := 599, descriptorIndex := 600, attributes := #[] }, { accessFlags := 24, nameIndex := 1125, descriptorIndex := 18, attributes := #[] }, { accessFlags := 24, nameIndex := 1127, descriptorIndex := 18, attributes := #[] }])
  fields := #[{ name := "value", type := (.array .byte), accessFlags := 18, slot := 0, constantValue := 0 }, { name := "coder", type := .byte, accessFlags := 18, slot := 1, constantValue := 0 }, { name := "hash", type := .int, accessFlags := 2, slot := 2, constantValue := 0 }, { name := "hashIsZero", type := .boolean, accessFlags := 2, slot := 3, constantValue := 0 }, { name := "serialVersionUID", type := .long, accessFlags := 26, slot := 0, constantValue := 0 }, { name := "COMPACT_STRINGS", type := .boolean, accessFlags := 24, slot := 1, constantValue := 0 }, { name := "serialPersistentFields", type := (.array (.object "java/io/ObjectStreamField")), accessFlags := 26, slot := 2, constantValue := 0 }, { name := "REPL", type := .char, accessFlags := 26, slot := 3, constantValue := 0 }, { name := "CASE_INSENSITIVE_ORDER", type := (.object "java/util/Comparator"), accessFlags := 25, slot := 4, constantValue := 0 }, { name := "LATIN1", type := .byte, accessFlags := 24, slot := 5, constantValue := 0 }, { name := "UTF16", type := .byte, accessFlags := 24, slot := 6, constantValue := 0 }]
  methods := #[k16m0, k16m1, k16m2, k16m3, k16m4]
  instanceTypes := #[(.array .byte), .byte, .int, .boolean]
  staticTypes := #[.long, .boolean, (.array (.object "java/io/ObjectStreamField")), .char, (.object "java/util/Comparator"), .byte, .byte]
  resolved := Array.replicate 1451 none
  statics := some 1 }

def pool17 : Array CpInfo := pool [(4, .class_ 6), (1, u "java/lang/Object"), (0, u "<init>"), (0, u "()V"), (5, .class_ 16), (1, u "java/lang/StringLatin1"), (73, u "canEncode"), (14, u "(C)Z"), (15, u "$assertionsDisabled"), (0, u "Z"), (98, .class_ 223), (1, u "java/lang/StringLatin1$LinesSpliterator"), (156, u "toBytes"), (1, u "(C)[B"), (7, .class_ 391), (0, u "java/lang/StringLatin1$CharsSpliterator")] 3

def k17m0 : Method := { name := "<init>", desc := "()V", sig := { parameters := [], returnType := none }, accessFlags := 0, code := none }
def k17c1 : Code := { maxStack := 2, maxLocals := 1, code := jdk_43_method_3_code, exceptionTable := #[], attributes := #[] }
def k17m1 : Method := { name := "canEncode", desc := "(C)Z", sig := { parameters := [.char], returnType := some .boolean }, accessFlags := 9, code := some k17c1 }
def k17c2 : Code := { maxStack := 4, maxLocals := 1, code := jdk_43_method_46_code, exceptionTable := #[], attributes := #[] }
def k17m2 : Method := { name := "toBytes", desc := "(C)[B", sig := { parameters := [.char], returnType := some (.array .byte) }, accessFlags := 9, code := some k17c2 }
/-- java/lang/StringLatin1 -/
def k17 : Class := { plain "java/lang/StringLatin1" (some 0) with
  accessFlags := 48
  interfaces := #[]
  cf := some (fileOf pool17 14 #[.nestMembers #[390, 221]] #[{ accessFlags := 0, nameIndex := 7, descriptorIndex := 8, attributes := #[] }, { accessFlags := 9, nameIndex := 90, descriptorIndex := 105, attributes := #[] }, { accessFlags := 9, nameIndex := 380, descriptorIndex := 382, attributes := #[] }] 48 4 #[] #[{ accessFlags := 4120, nameIndex := 121, descriptorIndex := 122, attributes := #[] }])
  fields := #[{ name := "$assertionsDisabled", type := .boolean, accessFlags := 4120, slot := 0, constantValue := 0 }]
  methods := #[k17m0, k17m1, k17m2]
  instanceTypes := #[]
  staticTypes := #[.boolean]
  resolved := Array.replicate 395 none
  statics := none }

def pool18 : Array CpInfo := pool [(1, .class_ 2), (0, u "java/lang/Math"), (1, .class_ 6), (1, u "java/lang/Object"), (0, u "<init>"), (0, u "()V"), (89, .class_ 100), (1, u "java/lang/Math$RandomNumberGeneratorHolder"), (71, u "negativeZeroFloatBits"), (0, u "J"), (2, u "negativeZeroDoubleBits"), (21, u "max"), (2, u "min"), (43, u "$assertionsDisabled"), (0, u "Z"), (88, u "(II)I"), (2, u "twoToTheDoubleScaleDown"), (0, u "D"), (4, u "twoToTheDoubleScaleUp"), (9, u "E"), (3, u "PI"), (2, u "TAU"), (2, u "DEGREES_TO_RADIANS"), (0, u "RADIANS_TO_DEGREES")] 94

def k18m0 : Method := { name := "<init>", desc := "()V", sig := { parameters := [], returnType := none }, accessFlags := 2, code := none }
def k18c1 : Code := { maxStack := 2, maxLocals := 2, code := jdk_29_method_65_code, exceptionTable := #[], attributes := #[] }
def k18m1 : Method := { name := "max", desc := "(II)I", sig := { parameters := [.int, .int], returnType := some .int }, accessFlags := 9, code := some k18c1 }
def k18c2 : Code := { maxStack := 2, maxLocals := 2, code := jdk_29_method_69_code, exceptionTable := #[], attributes := #[] }
def k18m2 : Method := { name := "min", desc := "(II)I", sig := { parameters := [.int, .int], returnType := some .int }, accessFlags := 9, code := some k18c2 }
/-- java/lang/Math -/
def k18 : Class := { plain "java/lang/Math" (some 0) with
  accessFlags := 49
  interfaces := #[]
  cf := some (fileOf pool18 1 #[.nestMembers #[98]] #[{ accessFlags := 2, nameIndex := 7, descriptorIndex := 8, attributes := #[] }, { accessFlags := 9, nameIndex := 198, descriptorIndex := 335, attributes := #[] }, { accessFlags := 9, nameIndex := 201, descriptorIndex := 335, attributes := #[] }] 49 4 #[] #[{ accessFlags := 25, nameIndex := 354, descriptorIndex := 339, attributes := #[] }, { accessFlags := 25, nameIndex := 358, descriptorIndex := 339, attributes := #[] }, { accessFlags := 25, nameIndex := 361, descriptorIndex := 339, attributes := #[] }, { accessFlags := 26, nameIndex := 364, descriptorIndex := 339, attributes := #[] }, { accessFlags := 26, nameIndex := 365, descriptorIndex := 339, attributes := #[] }, { accessFlags := 26, nameIndex := 172, descriptorIndex := 173, attributes := #[] }, { accessFlags := 26, nameIndex := 176, descriptorIndex := 173, attributes := #[] }, { accessFlags := 8, nameIndex := 344, descriptorIndex := 339, attributes := #[] }, { accessFlags := 8, nameIndex := 338, descriptorIndex := 339, attributes := #[] }, { accessFlags := 4120, nameIndex := 245, descriptorIndex := 246, attributes := #[] }])
  fields := #[{ name := "E", type := .double, accessFlags := 25, slot := 0, constantValue := 0 }, { name := "PI", type := .double, accessFlags := 25, slot := 1, constantValue := 0 }, { name := "TAU", type := .double, accessFlags := 25, slot := 2, constantValue := 0 }, { name := "DEGREES_TO_RADIANS", type := .double, accessFlags := 26, slot := 3, constantValue := 0 }, { name := "RADIANS_TO_DEGREES", type := .double, accessFlags := 26, slot := 4, constantValue := 0 }, { name := "negativeZeroFloatBits", type := .long, accessFlags := 26, slot := 5, constantValue := 0 }, { name := "negativeZeroDoubleBits", type := .long, accessFlags := 26, slot := 6, constantValue := 0 }, { name := "twoToTheDoubleScaleUp", type := .double, accessFlags := 8, slot := 7, constantValue := 0 }, { name := "twoToTheDoubleScaleDown", type := .double, accessFlags := 8, slot := 8, constantValue := 0 }, { name := "$assertionsDisabled", type := .boolean, accessFlags := 4120, slot := 9, constantValue := 0 }]
  methods := #[k18m0, k18m1, k18m2]
  instanceTypes := #[]
  staticTypes := #[.double, .double, .double, .double, .double, .long, .long, .double, .double, .boolean]
  resolved := Array.replicate 460 none
  statics := none }

def pool19 : Array CpInfo := pool [(6, .class_ 8), (1, u "java/lang/Object"), (0, u "<init>"), (0, u "()V"), (1, .class_ 14), (1, u "java/lang/StringUTF16"), (31, u "$assertionsDisabled"), (0, u "Z"), (13, u "HI_BYTE_SHIFT"), (0, u "I"), (2, u "LO_BYTE_SHIFT"), (49, .methodref 12 116), (0, .nameAndType 117 118), (0, u "compress"), (0, u "([CI[BII)I"), (3, u "([CII)[B"), (138, u "coderFromArrayLen"), (0, u "([BI)B"), (106, .class_ 371), (1, u "java/lang/StringUTF16$LinesSpliterator"), (58, u "MAX_LENGTH"), (196, .class_ 628), (0, u "java/lang/StringUTF16$CodePointsSpliterator"), (0, .class_ 630), (0, u "java/lang/StringUTF16$CharsSpliterator")] 4

def k19m0 : Method := { name := "<init>", desc := "()V", sig := { parameters := [], returnType := none }, accessFlags := 0, code := none }
def k19c1 : Code := { maxStack := 2, maxLocals := 2, code := jdk_52_method_15_code, exceptionTable := #[], attributes := #[] }
def k19m1 : Method := { name := "coderFromArrayLen", desc := "([BI)B", sig := { parameters := [(.array .byte), .int], returnType := some .byte }, accessFlags := 8, code := some k19c1 }
def k19c2 : Code := { maxStack := 5, maxLocals := 6, code := jdk_52_method_16_code, exceptionTable := #[], attributes := #[] }
def k19m2 : Method := { name := "compress", desc := "([CII)[B", sig := { parameters := [(.array .char), .int, .int], returnType := some (.array .byte) }, accessFlags := 9, code := some k19c2 }
def k19c3 : Code := { maxStack := 3, maxLocals := 7, code := jdk_52_method_21_code, exceptionTable := #[], attributes := #[] }
def k19m3 : Method := { name := "compress", desc := "([CI[BII)I", sig := { parameters := [(.array .char), .int, (.array .byte), .int, .int], returnType := some .int }, accessFlags := 9, code := some k19c3 }
/-- java/lang/StringUTF16 -/
def k19 : Class := { plain "java/lang/StringUTF16" (some 0) with
  accessFlags := 48
  interfaces := #[]
  cf := some (fileOf pool19 12 #[.nestMembers #[627, 629, 369]] #[{ accessFlags := 0, nameIndex := 9, descriptorIndex := 10, attributes := #[] }, { accessFlags := 8, nameIndex := 261, descriptorIndex := 262, attributes := #[] }, { accessFlags := 9, nameIndex := 117, descriptorIndex := 122, attributes := #[] }, { accessFlags := 9, nameIndex := 117, descriptorIndex := 118, attributes := #[] }] 48 6 #[] #[{ accessFlags := 26, nameIndex := 61, descriptorIndex := 62, attributes := #[] }, { accessFlags := 26, nameIndex := 65, descriptorIndex := 62, attributes := #[] }, { accessFlags := 24, nameIndex := 430, descriptorIndex := 62, attributes := #[] }, { accessFlags := 4120, nameIndex := 46, descriptorIndex := 47, attributes := #[] }])
  fields := #[{ name := "HI_BYTE_SHIFT", type := .int, accessFlags := 26, slot := 0, constantValue := 0 }, { name := "LO_BYTE_SHIFT", type := .int, accessFlags := 26, slot := 1, constantValue := 0 }, { name := "MAX_LENGTH", type := .int, accessFlags := 24, slot := 2, constantValue := 0 }, { name := "$assertionsDisabled", type := .boolean, accessFlags := 4120, slot := 3, constantValue := 0 }]
  methods := #[k19m0, k19m1, k19m2, k19m3]
  instanceTypes := #[]
  staticTypes := #[.int, .int, .int, .boolean]
  resolved := Array.replicate 635 none
  statics := none }

def pool20 : Array CpInfo := pool [(1, .methodref 2 3), (0, .class_ 4), (0, .nameAndType 5 6), (0, u "java/lang/Object"), (0, u "<init>"), (0, u "()V"), (0, .class_ 8), (0, u "java/lang/Record")] 13

def k20c0 : Code := { maxStack := 1, maxLocals := 1, code := jdk_30_method_1_code, exceptionTable := #[], attributes := #[] }
def k20m0 : Method := { name := "<init>", desc := "()V", sig := { parameters := [], returnType := none }, accessFlags := 4, code := some k20c0 }
/-- java/lang/Record -/
def k20 : Class := { plain "java/lang/Record" (some 0) with
  accessFlags := 1057
  interfaces := #[]
  cf := some (fileOf pool20 7 #[] #[{ accessFlags := 4, nameIndex := 5, descriptorIndex := 6, attributes := #[] }] 1057 2 #[] #[])
  fields := #[]
  methods := #[k20m0]
  instanceTypes := #[]
  staticTypes := #[]
  resolved := Array.replicate 22 none
  statics := none }

def pool21 : Array CpInfo := pool [(1, .methodref 2 3), (0, .class_ 4), (0, .nameAndType 5 6), (0, u "java/lang/Record"), (0, u "<init>"), (0, u "()V"), (0, .interfaceMethodref 8 9), (0, .class_ 10), (0, .nameAndType 11 12), (0, u "java/util/List"), (0, u "copyOf"), (0, u "(Ljava/util/Collection;)Ljava/util/List;"), (0, .fieldref 14 15), (0, .class_ 16), (0, .nameAndType 17 18), (0, u "com/example/limmat/limmat/analysis/Opacity$Verdict"), (0, u "observation"), (0, u "Ljava/util/List;"), (14, u "(Ljava/util/List;)V"), (5, u "holds"), (0, u "()Z"), (3, u "()Ljava/util/List;"), (4, .class_ 50), (0, u "com/example/limmat/limmat/analysis/Opacity")] 18

def k21c0 : Code := { maxStack := 2, maxLocals := 2, code := prog_12_method_1_code, exceptionTable := #[], attributes := #[] }
def k21m0 : Method := { name := "<init>", desc := "(Ljava/util/List;)V", sig := { parameters := [(.object "java/util/List")], returnType := none }, accessFlags := 1, code := some k21c0 }
def k21c1 : Code := { maxStack := 1, maxLocals := 1, code := prog_12_method_2_code, exceptionTable := #[], attributes := #[] }
def k21m1 : Method := { name := "holds", desc := "()Z", sig := { parameters := [], returnType := some .boolean }, accessFlags := 1, code := some k21c1 }
def k21c2 : Code := { maxStack := 1, maxLocals := 1, code := prog_12_method_6_code, exceptionTable := #[], attributes := #[] }
def k21m2 : Method := { name := "observation", desc := "()Ljava/util/List;", sig := { parameters := [], returnType := some (.object "java/util/List") }, accessFlags := 1, code := some k21c2 }
/-- com/example/limmat/limmat/analysis/Opacity$Verdict -/
def k21 : Class := { plain "com/example/limmat/limmat/analysis/Opacity$Verdict" (some 20) with
  accessFlags := 49
  interfaces := #[]
  cf := some (fileOf pool21 14 #[.nestHost 49] #[{ accessFlags := 1, nameIndex := 5, descriptorIndex := 33, attributes := #[] }, { accessFlags := 1, nameIndex := 39, descriptorIndex := 40, attributes := #[] }, { accessFlags := 1, nameIndex := 17, descriptorIndex := 44, attributes := #[] }] 49 2 #[] #[{ accessFlags := 18, nameIndex := 17, descriptorIndex := 18, attributes := #[] }])
  fields := #[{ name := "observation", type := (.object "java/util/List"), accessFlags := 18, slot := 0, constantValue := 0 }]
  methods := #[k21m0, k21m1, k21m2]
  instanceTypes := #[(.object "java/util/List")]
  staticTypes := #[]
  resolved := Array.replicate 69 none
  statics := none }

def pool22 : Array CpInfo := pool [(2, .class_ 4), (1, u "java/lang/Object"), (0, u "<init>"), (0, u "()V"), (3, .class_ 11), (0, u "java/util/ImmutableCollections$List12"), (0, .class_ 13), (0, u "java/util/ImmutableCollections$ListN"), (3, u "Z"), (0, .class_ 19), (0, u "java/util/List"), (0, .interfaceMethodref 21 22), (0, .class_ 23), (0, .nameAndType 24 25), (0, u "java/util/Collection"), (0, u "isEmpty"), (0, u "()Z"), (0, .interfaceMethodref 18 27), (0, .nameAndType 28 29), (0, u "of"), (0, u "()Ljava/util/List;"), (0, .interfaceMethodref 21 31), (0, .nameAndType 32 33), (0, u "toArray"), (0, u "()[Ljava/lang/Object;"), (0, .interfaceMethodref 18 35), (0, .nameAndType 28 36), (0, u "([Ljava/lang/Object;)Ljava/util/List;"), (0, .methodref 38 39), (0, .class_ 40), (0, .nameAndType 41 42), (0, u "java/util/Objects"), (0, u "requireNonNull"), (0, u "(Ljava/lang/Object;)Ljava/lang/Object;"), (0, .methodref 12 44), (0, .nameAndType 5 45), (0, u "([Ljava/lang/Object;Z)V"), (1, .class_ 49), (1, u "java/util/ImmutableCollections"), (0, u "$assertionsDisabled"), (5, u "[Ljava/lang/Object;"), (5, u "EMPTY_LIST"), (0, u "Ljava/util/ImmutableCollections$ListN;"), (8, u "EMPTY_LIST_NULLS"), (22, u "SALT32L"), (0, u "J"), (2, u "REVERSE"), (6, u "archivedObjects"), (2, u "EMPTY"), (0, u "Ljava/lang/Object;"), (0, .class_ 112), (0, u "java/util/ImmutableCollections$SetN"), (5, u "EMPTY_SET"), (0, u "Ljava/util/ImmutableCollections$SetN;"), (0, .class_ 121), (0, u "java/util/ImmutableCollections$MapN"), (3, u "EMPTY_MAP"), (0, u "Ljava/util/ImmutableCollections$MapN;"), (4, u "EXPAND_FACTOR"), (0, u "I"), (9, u "listCopy"), (0, u "(Ljava/util/Collection;)Ljava/util/List;"), (7, u "listFromArray"), (17, .class_ 170), (0, u "java/util/ImmutableCollections$MapN$MapNIterator"), (0, .class_ 172), (0, u "java/util/ImmutableCollections$MapN$1"), (0, .class_ 174), (0, u "java/util/ImmutableCollections$Map1"), (0, .class_ 176), (0, u "java/util/ImmutableCollections$AbstractImmutableMap"), (0, .class_ 178), (0, u "java/util/ImmutableCollections$SetN$SetNIterator"), (0, .class_ 180), (0, u "java/util/ImmutableCollections$Set12"), (0, .class_ 182), (0, u "java/util/ImmutableCollections$Set12$1"), (0, .class_ 184), (0, u "java/util/ImmutableCollections$AbstractImmutableSet"), (0, .class_ 186), (0, u "java/util/ImmutableCollections$SubList"), (0, .class_ 188), (0, u "java/util/ImmutableCollections$ListItr"), (0, .class_ 190), (0, u "java/util/ImmutableCollections$AbstractImmutableList"), (0, .class_ 192), (0, u "java/util/ImmutableCollections$AbstractImmutableCollection"), (0, .class_ 194), (0, u "java/util/ImmutableCollections$Access"), (0, .class_ 196), (0, u "java/util/ImmutableCollections$Access$1")] 16

def k22m0 : Method := { name := "<init>", desc := "()V", sig := { parameters := [], returnType := none }, accessFlags := 2, code := none }
def k22c1 : Code := { maxStack := 1, maxLocals := 2, code := jdk_56_method_3_code, exceptionTable := #[], attributes := #[] }
def k22m1 : Method := { name := "listCopy", desc := "(Ljava/util/Collection;)Ljava/util/List;", sig := { parameters := [(.object "java/util/Collection")], returnType := some (.object "java/util/List") }, accessFlags := 8, code := some k22c1 }
def k22c2 : Code := { maxStack := 4, maxLocals := 3, code := jdk_56_method_4_code, exceptionTable := #[], attributes := #[] }
def k22m2 : Method := { name := "listFromArray", desc := "([Ljava/lang/Object;)Ljava/util/List;", sig := { parameters := [(.array (.object "java/lang/Object"))], returnType := some (.object "java/util/List") }, accessFlags := 136, code := some k22c2 }
/-- java/util/ImmutableCollections -/
def k22 : Class := { plain "java/util/ImmutableCollections" (some 0) with
  accessFlags := 32
  interfaces := #[]
  cf := some (fileOf pool22 47 #[.nestMembers #[120, 169, 171, 173, 175, 111, 177, 179, 181, 183, 12, 10, 185, 187, 189, 191, 193, 195]] #[{ accessFlags := 2, nameIndex := 5, descriptorIndex := 6, attributes := #[] }, { accessFlags := 8, nameIndex := 142, descriptorIndex := 143, attributes := #[] }, { accessFlags := 136, nameIndex := 151, descriptorIndex := 36, attributes := #[] }] 32 2 #[] #[{ accessFlags := 26, nameIndex := 95, descriptorIndex := 96, attributes := #[] }, { accessFlags := 26, nameIndex := 99, descriptorIndex := 17, attributes := #[] }, { accessFlags := 10, nameIndex := 106, descriptorIndex := 56, attributes := #[] }, { accessFlags := 26, nameIndex := 109, descriptorIndex := 110, attributes := #[] }, { accessFlags := 24, nameIndex := 62, descriptorIndex := 63, attributes := #[] }, { accessFlags := 24, nameIndex := 72, descriptorIndex := 63, attributes := #[] }, { accessFlags := 24, nameIndex := 118, descriptorIndex := 119, attributes := #[] }, { accessFlags := 24, nameIndex := 125, descriptorIndex := 126, attributes := #[] }, { accessFlags := 24, nameIndex := 131, descriptorIndex := 132, attributes := #[] }, { accessFlags := 4120, nameIndex := 50, descriptorIndex := 17, attributes := #[] }])
  fields := #[{ name := "SALT32L", type := .long, accessFlags := 26, slot := 0, constantValue := 0 }, { name := "REVERSE", type := .boolean, accessFlags := 26, slot := 1, constantValue := 0 }, { name := "archivedObjects", type := (.array (.object "java/lang/Object")), accessFlags := 10, slot := 2, constantValue := 0 }, { name := "EMPTY", type := (.object "java/lang/Object"), accessFlags := 26, slot := 3, constantValue := 0 }, { name := "EMPTY_LIST", type := (.object "java/util/ImmutableCollections$ListN"), accessFlags := 24, slot := 4, constantValue := 0 }, { name := "EMPTY_LIST_NULLS", type := (.object "java/util/ImmutableCollections$ListN"), accessFlags := 24, slot := 5, constantValue := 0 }, { name := "EMPTY_SET", type := (.object "java/util/ImmutableCollections$SetN"), accessFlags := 24, slot := 6, constantValue := 0 }, { name := "EMPTY_MAP", type := (.object "java/util/ImmutableCollections$MapN"), accessFlags := 24, slot := 7, constantValue := 0 }, { name := "EXPAND_FACTOR", type := .int, accessFlags := 24, slot := 8, constantValue := 0 }, { name := "$assertionsDisabled", type := .boolean, accessFlags := 4120, slot := 9, constantValue := 0 }]
  methods := #[k22m0, k22m1, k22m2]
  instanceTypes := #[]
  staticTypes := #[.long, .boolean, (.array (.object "java/lang/Object")), (.object "java/lang/Object"), (.object "java/util/ImmutableCollections$ListN"), (.object "java/util/ImmutableCollections$ListN"), (.object "java/util/ImmutableCollections$SetN"), (.object "java/util/ImmutableCollections$MapN"), .int, .boolean]
  resolved := Array.replicate 213 none
  statics := some 2 }

def pool23 : Array CpInfo := pool [(1, .methodref 2 3), (0, .class_ 4), (0, .nameAndType 5 6), (0, u "java/util/AbstractCollection"), (0, u "<init>"), (0, u "()V"), (1, .class_ 10), (1, u "java/util/ImmutableCollections"), (2, .class_ 14), (0, u "java/util/ImmutableCollections$AbstractImmutableCollection")] 41

def k23c0 : Code := { maxStack := 1, maxLocals := 1, code := jdk_47_method_1_code, exceptionTable := #[], attributes := #[] }
def k23m0 : Method := { name := "<init>", desc := "()V", sig := { parameters := [], returnType := none }, accessFlags := 0, code := some k23c0 }
/-- java/util/ImmutableCollections$AbstractImmutableCollection -/
def k23 : Class := { plain "java/util/ImmutableCollections$AbstractImmutableCollection" (some 4) with
  accessFlags := 1056
  interfaces := #[]
  cf := some (fileOf pool23 13 #[.nestHost 8] #[{ accessFlags := 0, nameIndex := 5, descriptorIndex := 6, attributes := #[] }] 1056 2 #[] #[])
  fields := #[]
  methods := #[k23m0]
  instanceTypes := #[]
  staticTypes := #[]
  resolved := Array.replicate 56 none
  statics := none }

def pool24 : Array CpInfo := pool [(1, .methodref 2 3), (0, .class_ 4), (0, .nameAndType 5 6), (0, u "java/util/ImmutableCollections$AbstractImmutableCollection"), (0, u "<init>"), (0, u "()V"), (1, .class_ 10), (1, u "java/util/ImmutableCollections"), (3, .class_ 16), (1, u "java/util/ImmutableCollections$AbstractImmutableList"), (60, .class_ 78), (0, u "java/util/List"), (45, .class_ 125), (0, u "java/util/RandomAccess")] 70

def k24c0 : Code := { maxStack := 1, maxLocals := 1, code := jdk_46_method_1_code, exceptionTable := #[], attributes := #[] }
def k24m0 : Method := { name := "<init>", desc := "()V", sig := { parameters := [], returnType := none }, accessFlags := 0, code := some k24c0 }
/-- java/util/ImmutableCollections$AbstractImmutableList -/
def k24 : Class := { plain "java/util/ImmutableCollections$AbstractImmutableList" (some 23) with
  accessFlags := 1056
  interfaces := #[6, 8]
  cf := some (fileOf pool24 14 #[.nestHost 8] #[{ accessFlags := 0, nameIndex := 5, descriptorIndex := 6, attributes := #[] }] 1056 2 #[77, 124] #[])
  fields := #[]
  methods := #[k24m0]
  instanceTypes := #[]
  staticTypes := #[]
  resolved := Array.replicate 196 none
  statics := none }

def pool25 : Array CpInfo := pool [(1, .methodref 2 3), (0, .class_ 4), (0, .nameAndType 5 6), (0, u "java/util/ImmutableCollections$AbstractImmutableList"), (0, u "<init>"), (0, u "()V"), (0, .methodref 8 9), (0, .class_ 10), (0, .nameAndType 11 12), (0, u "java/util/Objects"), (0, u "requireNonNull"), (0, u "(Ljava/lang/Object;)Ljava/lang/Object;"), (0, .fieldref 14 15), (0, .class_ 16), (0, .nameAndType 17 18), (0, u "java/util/ImmutableCollections$List12"), (0, u "e0"), (0, u "Ljava/lang/Object;"), (0, .fieldref 20 21), (0, .class_ 22), (0, .nameAndType 23 18), (0, u "java/util/ImmutableCollections"), (0, u "EMPTY"), (0, .fieldref 14 25), (0, .nameAndType 26 18), (0, u "e1"), (43, .class_ 71), (0, u "java/io/Serializable"), (4, u "(Ljava/lang/Object;)V"), (8, u "(Ljava/lang/Object;Ljava/lang/Object;)V")] 39

def k25c0 : Code := { maxStack := 2, maxLocals := 2, code := jdk_44_method_1_code, exceptionTable := #[], attributes := #[] }
def k25m0 : Method := { name := "<init>", desc := "(Ljava/lang/Object;)V", sig := { parameters := [(.object "java/lang/Object")], returnType := none }, accessFlags := 0, code := some k25c0 }
def k25c1 : Code := { maxStack := 2, maxLocals := 3, code := jdk_44_method_2_code, exceptionTable := #[], attributes := #[] }
def k25m1 : Method := { name := "<init>", desc := "(Ljava/lang/Object;Ljava/lang/Object;)V", sig := { parameters := [(.object "java/lang/Object"), (.object "java/lang/Object")], returnType := none }, accessFlags := 0, code := some k25c1 }
/-- java/util/ImmutableCollections$List12 -/
def k25 : Class := { plain "java/util/ImmutableCollections$List12" (some 24) with
  accessFlags := 48
  interfaces := #[10]
  cf := some (fileOf pool25 14 #[.nestHost 20] #[{ accessFlags := 0, nameIndex := 5, descriptorIndex := 76, attributes := #[] }, { accessFlags := 0, nameIndex := 5, descriptorIndex := 85, attributes := #[] }] 48 2 #[70] #[{ accessFlags := 18, nameIndex := 17, descriptorIndex := 18, attributes := #[] }, { accessFlags := 18, nameIndex := 26, descriptorIndex := 18, attributes := #[] }])
  fields := #[{ name := "e0", type := (.object "java/lang/Object"), accessFlags := 18, slot := 0, constantValue := 0 }, { name := "e1", type := (.object "java/lang/Object"), accessFlags := 18, slot := 1, constantValue := 0 }]
  methods := #[k25m0, k25m1]
  instanceTypes := #[(.object "java/lang/Object"), (.object "java/lang/Object")]
  staticTypes := #[]
  resolved := Array.replicate 125 none
  statics := none }

def pool26 : Array CpInfo := pool [(1, .methodref 2 3), (0, .class_ 4), (0, .nameAndType 5 6), (0, u "java/util/ImmutableCollections$AbstractImmutableList"), (0, u "<init>"), (0, u "()V"), (0, .fieldref 8 9), (0, .class_ 10), (0, .nameAndType 11 12), (0, u "java/util/ImmutableCollections$ListN"), (0, u "elements"), (0, u "[Ljava/lang/Object;"), (0, .fieldref 8 14), (0, .nameAndType 15 16), (0, u "allowNulls"), (0, u "Z"), (42, .class_ 60), (0, u "java/io/Serializable"), (4, u "([Ljava/lang/Object;Z)V"), (48, .class_ 115), (0, u "java/util/ImmutableCollections")] 3

def k26c0 : Code := { maxStack := 2, maxLocals := 3, code := jdk_45_method_1_code, exceptionTable := #[], attributes := #[] }
def k26m0 : Method := { name := "<init>", desc := "([Ljava/lang/Object;Z)V", sig := { parameters := [(.array (.object "java/lang/Object")), .boolean], returnType := none }, accessFlags := 2, code := some k26c0 }
/-- java/util/ImmutableCollections$ListN -/
def k26 : Class := { plain "java/util/ImmutableCollections$ListN" (some 24) with
  accessFlags := 48
  interfaces := #[10]
  cf := some (fileOf pool26 8 #[.nestHost 114] #[{ accessFlags := 2, nameIndex := 5, descriptorIndex := 65, attributes := #[] }] 48 2 #[59] #[{ accessFlags := 18, nameIndex := 11, descriptorIndex := 12, attributes := #[] }, { accessFlags := 18, nameIndex := 15, descriptorIndex := 16, attributes := #[] }])
  fields := #[{ name := "elements", type := (.array (.object "java/lang/Object")), accessFlags := 18, slot := 0, constantValue := 0 }, { name := "allowNulls", type := .boolean, accessFlags := 18, slot := 1, constantValue := 0 }]
  methods := #[k26m0]
  instanceTypes := #[(.array (.object "java/lang/Object")), .boolean]
  staticTypes := #[]
  resolved := Array.replicate 119 none
  statics := none }

def pool27 : Array CpInfo := pool [(2, .class_ 4), (1, u "java/lang/Object"), (0, u "<init>"), (0, u "()V"), (7, .class_ 16), (1, u "java/util/Arrays"), (57, .class_ 76), (1, u "java/util/Arrays$NaturalOrder"), (9, .methodref 2 87), (0, .nameAndType 88 89), (0, u "getClass"), (0, u "()Ljava/lang/Class;"), (20, .class_ 111), (0, u "[Ljava/lang/Object;"), (1, .class_ 115), (1, u "java/util/Arrays$LegacyMergeSort"), (1, u "Z"), (32, .methodref 151 152), (0, .class_ 153), (0, .nameAndType 154 155), (0, u "java/lang/System"), (0, u "arraycopy"), (0, u "(Ljava/lang/Object;ILjava/lang/Object;II)V"), (144, .methodref 14 301), (0, .nameAndType 302 303), (0, u "copyOf"), (0, u "([Ljava/lang/Object;ILjava/lang/Class;)[Ljava/lang/Object;"), (0, .methodref 305 306), (0, .class_ 307), (0, .nameAndType 308 309), (0, u "java/lang/Math"), (0, u "min"), (0, u "(II)I"), (65, .class_ 376), (0, u "java/util/Arrays$ArrayList"), (68, u "$assertionsDisabled"), (269, u "MIN_ARRAY_SORT_GRAN"), (0, u "I"), (2, u "INSERTIONSORT_THRESHOLD"), (140, u "([Ljava/lang/Object;I)[Ljava/lang/Object;"), (114, .class_ 976), (0, u "java/util/Arrays$ArrayItr")] 52

def k27m0 : Method := { name := "<init>", desc := "()V", sig := { parameters := [], returnType := none }, accessFlags := 2, code := none }
def k27c1 : Code := { maxStack := 3, maxLocals := 2, code := jdk_65_method_119_code, exceptionTable := #[], attributes := #[] }
def k27m1 : Method := { name := "copyOf", desc := "([Ljava/lang/Object;I)[Ljava/lang/Object;", sig := { parameters := [(.array (.object "java/lang/Object")), .int], returnType := some (.array (.object "java/lang/Object")) }, accessFlags := 9, code := some k27c1 }
def k27c2 : Code := { maxStack := 6, maxLocals := 4, code := jdk_65_method_120_code, exceptionTable := #[], attributes := #[] }
def k27m2 : Method := { name := "copyOf", desc := "([Ljava/lang/Object;ILjava/lang/Class;)[Ljava/lang/Object;", sig := { parameters := [(.array (.object "java/lang/Object")), .int, (.object "java/lang/Class")], returnType := some (.array (.object "java/lang/Object")) }, accessFlags := 9, code := some k27c2 }
/-- java/util/Arrays -/
def k27 : Class := { plain "java/util/Arrays" (some 0) with
  accessFlags := 49
  interfaces := #[]
  cf := some (fileOf pool27 14 #[.nestMembers #[975, 375, 113, 74]] #[{ accessFlags := 2, nameIndex := 5, descriptorIndex := 6, attributes := #[] }, { accessFlags := 9, nameIndex := 302, descriptorIndex := 860, attributes := #[] }, { accessFlags := 9, nameIndex := 302, descriptorIndex := 303, attributes := #[] }] 49 2 #[] #[{ accessFlags := 26, nameIndex := 715, descriptorIndex := 716, attributes := #[] }, { accessFlags := 26, nameIndex := 719, descriptorIndex := 716, attributes := #[] }, { accessFlags := 4120, nameIndex := 445, descriptorIndex := 117, attributes := #[] }])
  fields := #[{ name := "MIN_ARRAY_SORT_GRAN", type := .int, accessFlags := 26, slot := 0, constantValue := 0 }, { name := "INSERTIONSORT_THRESHOLD", type := .int, accessFlags := 26, slot := 1, constantValue := 0 }, { name := "$assertionsDisabled", type := .boolean, accessFlags := 4120, slot := 2, constantValue := 0 }]
  methods := #[k27m0, k27m1, k27m2]
  instanceTypes := #[]
  staticTypes := #[.int, .int, .boolean]
  resolved := Array.replicate 1029 none
  statics := none }

def pool28 : Array CpInfo := pool [(2, .class_ 4), (1, u "java/lang/Object"), (0, u "<init>"), (0, u "()V"), (1, .class_ 10), (1, u "java/lang/System"), (0, u "allowSecurityManager"), (0, u "I"), (16, u "cons"), (0, u "Ljava/io/Console;"), (77, .class_ 110), (1, u "java/lang/System$CallersHolder"), (43, u "initialErrStream"), (0, u "Ljava/io/PrintStream;"), (19, u "security"), (0, u "Ljava/lang/SecurityManager;"), (31, .class_ 209), (0, u "java/lang/System$1"), (7, u "props"), (0, u "Ljava/util/Properties;"), (2, u "lineSeparator"), (0, u "Ljava/lang/String;"), (96, .class_ 321), (1, u "java/lang/System$LoggerFinder"), (5, .class_ 328), (0, u "java/lang/System$Logger"), (67, u "err"), (2, u "out"), (91, u "notSupportedJnuEncoding"), (15, u "in"), (17, u "initialIn"), (0, u "Ljava/io/InputStream;"), (35, u "bootLayer"), (0, u "Ljava/lang/ModuleLayer;"), (99, .class_ 664), (0, u "java/lang/System$2"), (9, u "NEVER"), (2, u "MAYBE"), (49, u "arraycopy"), (0, u "(Ljava/lang/Object;ILjava/lang/Object;II)V"), (72, .class_ 802), (0, u "java/lang/System$Logger$Level")] 31

def k28m0 : Method := { name := "<init>", desc := "()V", sig := { parameters := [], returnType := none }, accessFlags := 2, code := none }
def k28m1 : Method := { name := "arraycopy", desc := "(Ljava/lang/Object;ILjava/lang/Object;II)V", sig := { parameters := [(.object "java/lang/Object"), .int, (.object "java/lang/Object"), .int, .int], returnType := none }, accessFlags := 265, code := none }
/-- java/lang/System -/
def k28 : Class := { plain "java/lang/System" (some 0) with
  accessFlags := 49
  interfaces := #[]
  cf := some (fileOf pool28 8 #[.nestMembers #[319, 327, 801, 108, 663, 208]] #[{ accessFlags := 2, nameIndex := 5, descriptorIndex := 6, attributes := #[] }, { accessFlags := 265, nameIndex := 727, descriptorIndex := 728, attributes := #[] }] 49 2 #[] #[{ accessFlags := 25, nameIndex := 507, descriptorIndex := 526, attributes := #[] }, { accessFlags := 25, nameIndex := 399, descriptorIndex := 155, attributes := #[] }, { accessFlags := 25, nameIndex := 396, descriptorIndex := 155, attributes := #[] }, { accessFlags := 10, nameIndex := 525, descriptorIndex := 526, attributes := #[] }, { accessFlags := 26, nameIndex := 674, descriptorIndex := 12, attributes := #[] }, { accessFlags := 26, nameIndex := 677, descriptorIndex := 12, attributes := #[] }, { accessFlags := 10, nameIndex := 11, descriptorIndex := 12, attributes := #[] }, { accessFlags := 74, nameIndex := 175, descriptorIndex := 176, attributes := #[] }, { accessFlags := 10, nameIndex := 491, descriptorIndex := 222, attributes := #[] }, { accessFlags := 74, nameIndex := 29, descriptorIndex := 30, attributes := #[] }, { accessFlags := 74, nameIndex := 154, descriptorIndex := 155, attributes := #[] }, { accessFlags := 10, nameIndex := 217, descriptorIndex := 218, attributes := #[] }, { accessFlags := 10, nameIndex := 221, descriptorIndex := 222, attributes := #[] }, { accessFlags := 8, nameIndex := 562, descriptorIndex := 563, attributes := #[] }])
  fields := #[{ name := "in", type := (.object "java/io/InputStream"), accessFlags := 25, slot := 0, constantValue := 0 }, { name := "out", type := (.object "java/io/PrintStream"), accessFlags := 25, slot := 1, constantValue := 0 }, { name := "err", type := (.object "java/io/PrintStream"), accessFlags := 25, slot := 2, constantValue := 0 }, { name := "initialIn", type := (.object "java/io/InputStream"), accessFlags := 10, slot := 3, constantValue := 0 }, { name := "NEVER", type := .int, accessFlags := 26, slot := 4, constantValue := 0 }, { name := "MAYBE", type := .int, accessFlags := 26, slot := 5, constantValue := 0 }, { name := "allowSecurityManager", type := .int, accessFlags := 10, slot := 6, constantValue := 0 }, { name := "security", type := (.object "java/lang/SecurityManager"), accessFlags := 74, slot := 7, constantValue := 0 }, { name := "notSupportedJnuEncoding", type := (.object "java/lang/String"), accessFlags := 10, slot := 8, constantValue := 0 }, { name := "cons", type := (.object "java/io/Console"), accessFlags := 74, slot := 9, constantValue := 0 }, { name := "initialErrStream", type := (.object "java/io/PrintStream"), accessFlags := 74, slot := 10, constantValue := 0 }, { name := "props", type := (.object "java/util/Properties"), accessFlags := 10, slot := 11, constantValue := 0 }, { name := "lineSeparator", type := (.object "java/lang/String"), accessFlags := 10, slot := 12, constantValue := 0 }, { name := "bootLayer", type := (.object "java/lang/ModuleLayer"), accessFlags := 8, slot := 13, constantValue := 0 }]
  methods := #[k28m0, k28m1]
  instanceTypes := #[]
  staticTypes := #[(.object "java/io/InputStream"), (.object "java/io/PrintStream"), (.object "java/io/PrintStream"), (.object "java/io/InputStream"), .int, .int, .int, (.object "java/lang/SecurityManager"), (.object "java/lang/String"), (.object "java/io/Console"), (.object "java/io/PrintStream"), (.object "java/util/Properties"), (.object "java/lang/String"), (.object "java/lang/ModuleLayer")]
  resolved := Array.replicate 834 none
  statics := none }

def pool29 : Array CpInfo := pool [(2, .class_ 4), (1, u "java/lang/Object"), (0, u "<init>"), (0, u "()V"), (35, .class_ 44), (1, u "java/util/Objects"), (0, u "requireNonNull"), (0, u "(Ljava/lang/Object;)Ljava/lang/Object;")] 137

def k29m0 : Method := { name := "<init>", desc := "()V", sig := { parameters := [], returnType := none }, accessFlags := 2, code := none }
def k29c1 : Code := { maxStack := 2, maxLocals := 1, code := jdk_31_method_10_code, exceptionTable := #[], attributes := #[] }
def k29m1 : Method := { name := "requireNonNull", desc := "(Ljava/lang/Object;)Ljava/lang/Object;", sig := { parameters := [(.object "java/lang/Object")], returnType := some (.object "java/lang/Object") }, accessFlags := 9, code := some k29c1 }
/-- java/util/Objects -/
def k29 : Class := { plain "java/util/Objects" (some 0) with
  accessFlags := 49
  interfaces := #[]
  cf := some (fileOf pool29 42 #[] #[{ accessFlags := 2, nameIndex := 5, descriptorIndex := 6, attributes := #[] }, { accessFlags := 9, nameIndex := 45, descriptorIndex := 46, attributes := #[] }] 49 2 #[] #[])
  fields := #[]
  methods := #[k29m0, k29m1]
  instanceTypes := #[]
  staticTypes := #[]
  resolved := Array.replicate 184 none
  statics := none }

def pool30 : Array CpInfo := pool [(2, .class_ 4), (1, u "java/lang/Object"), (0, u "<init>"), (0, u "()V"), (17, .class_ 26), (1, u "jdk/internal/util/Preconditions"), (28, .class_ 56), (0, u "jdk/internal/util/Preconditions$4"), (57, .class_ 115), (0, u "jdk/internal/util/Preconditions$1"), (7, u "SIOOBE_FORMATTER"), (0, u "Ljava/util/function/BiFunction;"), (0, .class_ 126), (0, u "jdk/internal/util/Preconditions$2"), (3, u "AIOOBE_FORMATTER"), (0, .class_ 132), (0, u "jdk/internal/util/Preconditions$3"), (3, u "IOOBE_FORMATTER")] 57

def k30m0 : Method := { name := "<init>", desc := "()V", sig := { parameters := [], returnType := none }, accessFlags := 1, code := none }
/-- jdk/internal/util/Preconditions -/
def k30 : Class := { plain "jdk/internal/util/Preconditions" (some 0) with
  accessFlags := 33
  interfaces := #[]
  cf := some (fileOf pool30 24 #[.nestMembers #[55, 131, 125, 114]] #[{ accessFlags := 1, nameIndex := 5, descriptorIndex := 6, attributes := #[] }] 33 2 #[] #[{ accessFlags := 25, nameIndex := 123, descriptorIndex := 124, attributes := #[] }, { accessFlags := 25, nameIndex := 130, descriptorIndex := 124, attributes := #[] }, { accessFlags := 25, nameIndex := 136, descriptorIndex := 124, attributes := #[] }])
  fields := #[{ name := "SIOOBE_FORMATTER", type := (.object "java/util/function/BiFunction"), accessFlags := 25, slot := 0, constantValue := 0 }, { name := "AIOOBE_FORMATTER", type := (.object "java/util/function/BiFunction"), accessFlags := 25, slot := 1, constantValue := 0 }, { name := "IOOBE_FORMATTER", type := (.object "java/util/function/BiFunction"), accessFlags := 25, slot := 2, constantValue := 0 }]
  methods := #[k30m0]
  instanceTypes := #[]
  staticTypes := #[(.object "java/util/function/BiFunction"), (.object "java/util/function/BiFunction"), (.object "java/util/function/BiFunction")]
  resolved := Array.replicate 194 none
  statics := some 3 }

def pool31 : Array CpInfo := pool [(9, u "<init>"), (6, .class_ 18), (1, u "java/lang/Object"), (0, u "()V"), (1, .class_ 23), (1, u "jdk/internal/util/ArraysSupport"), (0, u "LOG2_ARRAY_LONG_INDEX_SCALE"), (0, u "I"), (2, u "U"), (0, u "Ljdk/internal/misc/Unsafe;"), (8, u "BIG_ENDIAN"), (0, u "Z"), (8, u "LOG2_BYTE_BIT_SIZE"), (4, u "LOG2_ARRAY_INT_INDEX_SCALE"), (54, u "JLA"), (0, u "Ljdk/internal/access/JavaLangAccess;"), (11, u "LOG2_ARRAY_BOOLEAN_INDEX_SCALE"), (9, u "LOG2_ARRAY_BYTE_INDEX_SCALE"), (5, u "LOG2_ARRAY_CHAR_INDEX_SCALE"), (5, u "LOG2_ARRAY_SHORT_INDEX_SCALE"), (18, u "LOG2_ARRAY_FLOAT_INDEX_SCALE"), (24, u "LOG2_ARRAY_DOUBLE_INDEX_SCALE"), (89, u "T_BOOLEAN"), (2, u "T_CHAR"), (1, u "T_FLOAT"), (1, u "T_DOUBLE"), (1, u "T_BYTE"), (1, u "T_SHORT"), (1, u "T_INT"), (1, u "T_LONG"), (1, u "SOFT_MAX_ARRAY_LENGTH")] 83

def k31m0 : Method := { name := "<init>", desc := "()V", sig := { parameters := [], returnType := none }, accessFlags := 2, code := none }
/-- jdk/internal/util/ArraysSupport -/
def k31 : Class := { plain "jdk/internal/util/ArraysSupport" (some 0) with
  accessFlags := 33
  interfaces := #[]
  cf := some (fileOf pool31 21 #[] #[{ accessFlags := 2, nameIndex := 9, descriptorIndex := 19, attributes := #[] }] 33 16 #[] #[{ accessFlags := 24, nameIndex := 28, descriptorIndex := 29, attributes := #[] }, { accessFlags := 26, nameIndex := 38, descriptorIndex := 39, attributes := #[] }, { accessFlags := 25, nameIndex := 121, descriptorIndex := 25, attributes := #[] }, { accessFlags := 25, nameIndex := 131, descriptorIndex := 25, attributes := #[] }, { accessFlags := 25, nameIndex := 137, descriptorIndex := 25, attributes := #[] }, { accessFlags := 25, nameIndex := 143, descriptorIndex := 25, attributes := #[] }, { accessFlags := 25, nameIndex := 53, descriptorIndex := 25, attributes := #[] }, { accessFlags := 25, nameIndex := 24, descriptorIndex := 25, attributes := #[] }, { accessFlags := 25, nameIndex := 162, descriptorIndex := 25, attributes := #[] }, { accessFlags := 25, nameIndex := 187, descriptorIndex := 25, attributes := #[] }, { accessFlags := 26, nameIndex := 48, descriptorIndex := 25, attributes := #[] }, { accessFlags := 25, nameIndex := 277, descriptorIndex := 25, attributes := #[] }, { accessFlags := 25, nameIndex := 280, descriptorIndex := 25, attributes := #[] }, { accessFlags := 25, nameIndex := 282, descriptorIndex := 25, attributes := #[] }, { accessFlags := 25, nameIndex := 284, descriptorIndex := 25, attributes := #[] }, { accessFlags := 25, nameIndex := 286, descriptorIndex := 25, attributes := #[] }, { accessFlags := 25, nameIndex := 288, descriptorIndex := 25, attributes := #[] }, { accessFlags := 25, nameIndex := 290, descriptorIndex := 25, attributes := #[] }, { accessFlags := 25, nameIndex := 292, descriptorIndex := 25, attributes := #[] }, { accessFlags := 26, nameIndex := 108, descriptorIndex := 109, attributes := #[] }, { accessFlags := 25, nameIndex := 294, descriptorIndex := 25, attributes := #[] }])
  fields := #[{ name := "U", type := (.object "jdk/internal/misc/Unsafe"), accessFlags := 24, slot := 0, constantValue := 0 }, { name := "BIG_ENDIAN", type := .boolean, accessFlags := 26, slot := 1, constantValue := 0 }, { name := "LOG2_ARRAY_BOOLEAN_INDEX_SCALE", type := .int, accessFlags := 25, slot := 2, constantValue := 0 }, { name := "LOG2_ARRAY_BYTE_INDEX_SCALE", type := .int, accessFlags := 25, slot := 3, constantValue := 0 }, { name := "LOG2_ARRAY_CHAR_INDEX_SCALE", type := .int, accessFlags := 25, slot := 4, constantValue := 0 }, { name := "LOG2_ARRAY_SHORT_INDEX_SCALE", type := .int, accessFlags := 25, slot := 5, constantValue := 0 }, { name := "LOG2_ARRAY_INT_INDEX_SCALE", type := .int, accessFlags := 25, slot := 6, constantValue := 0 }, { name := "LOG2_ARRAY_LONG_INDEX_SCALE", type := .int, accessFlags := 25, slot := 7, constantValue := 0 }, { name := "LOG2_ARRAY_FLOAT_INDEX_SCALE", type := .int, accessFlags := 25, slot := 8, constantValue := 0 }, { name := "LOG2_ARRAY_DOUBLE_INDEX_SCALE", type := .int, accessFlags := 25, slot := 9, constantValue := 0 }, { name := "LOG2_BYTE_BIT_SIZE", type := .int, accessFlags := 26, slot := 10, constantValue := 0 }, { name := "T_BOOLEAN", type := .int, accessFlags := 25, slot := 11, constantValue := 0 }, { name := "T_CHAR", type := .int, accessFlags := 25, slot := 12, constantValue := 0 }, { name := "T_FLOAT", type := .int, accessFlags := 25, slot := 13, constantValue := 0 }, { name := "T_DOUBLE", type := .int, accessFlags := 25, slot := 14, constantValue := 0 }, { name := "T_BYTE", type := .int, accessFlags := 25, slot := 15, constantValue := 0 }, { name := "T_SHORT", type := .int, accessFlags := 25, slot := 16, constantValue := 0 }, { name := "T_INT", type := .int, accessFlags := 25, slot := 17, constantValue := 0 }, { name := "T_LONG", type := .int, accessFlags := 25, slot := 18, constantValue := 0 }, { name := "JLA", type := (.object "jdk/internal/access/JavaLangAccess"), accessFlags := 26, slot := 19, constantValue := 0 }, { name := "SOFT_MAX_ARRAY_LENGTH", type := .int, accessFlags := 25, slot := 20, constantValue := 0 }]
  methods := #[k31m0]
  instanceTypes := #[]
  staticTypes := #[(.object "jdk/internal/misc/Unsafe"), .boolean, .int, .int, .int, .int, .int, .int, .int, .int, .int, .int, .int, .int, .int, .int, .int, .int, .int, (.object "jdk/internal/access/JavaLangAccess"), .int]
  resolved := Array.replicate 378 none
  statics := none }

def pool32 : Array CpInfo := pool [(1, u "java/lang/Class"), (0, .class_ 1), (0, u "java/lang/Object"), (0, .class_ 3)] 3

/-- java/lang/Class -/
def k32 : Class := { plain "java/lang/Class" (some 0) with
  accessFlags := 49
  interfaces := #[]
  cf := some (fileOf pool32 2 #[] #[] 49 4 #[] #[])
  fields := #[]
  methods := #[]
  instanceTypes := #[]
  staticTypes := #[]
  resolved := Array.replicate 8 none
  statics := none }

/-- the primitive byte -/
def k33 : Class := { plain "byte" none with kind := .primitive 'B', accessFlags := 0x411 }
/-- [B -/
def k34 : Class := { plain "[B" (some 0) with kind := .array 33 .byte, interfaces := #[9, 10], accessFlags := 1041 }

/-- the primitive char -/
def k35 : Class := { plain "char" none with kind := .primitive 'C', accessFlags := 0x411 }
/-- [C -/
def k36 : Class := { plain "[C" (some 0) with kind := .array 35 .char, interfaces := #[9, 10], accessFlags := 1041 }

/-- the primitive int -/
def k37 : Class := { plain "int" none with kind := .primitive 'I', accessFlags := 0x411 }
/-- [I -/
def k38 : Class := { plain "[I" (some 0) with kind := .array 37 .int, interfaces := #[9, 10], accessFlags := 1041 }

/-- [Ljava/lang/Object; -/
def k39 : Class := { plain "[Ljava/lang/Object;" (some 0) with
  kind := .array 0 (.object "java/lang/Object")
  mirror := some 4
  interfaces := #[9, 10]
  accessFlags := 1041 }

def heap : Heap := #[{ cls := 11, slots := #[.long 0, .int 0, .ref 7, .ref 8], vm := .statics 11 },
  { cls := 16, slots := #[.long 0, .int 1, .null, .int 0, .null, .int 0, .int 0], vm := .statics 16 },
  { cls := 22, slots := #[.long 0, .int 0, .null, .ref 9, .ref 6, .null, .null, .null, .int 0, .int 1], vm := .statics 22 },
  { cls := 30, slots := #[.null, .null, .null], vm := .statics 30 },
  { cls := 32, slots := #[], vm := .mirror 39 },
  { cls := 39, slots := #[], vm := .none },
  { cls := 26, slots := #[.ref 5, .int 0], vm := .none },
  { cls := 39, slots := #[], vm := .none },
  { cls := 39, slots := #[], vm := .none },
  { cls := 0, slots := #[], vm := .none }]
def classes : Array Class := #[k0, k1, k2, k3, k4, k5, k6, k7, k8, k9, k10, k11, k12, k13, k14, k15, k16, k17, k18, k19, k20, k21, k22, k23, k24, k25, k26, k27, k28, k29, k30, k31, k32, k33, k34, k35, k36, k37, k38, k39]
def interned : List (Array UInt16 × Addr) := []
def slotsUsed : Nat := 26
def theMethod : MethodId := ⟨1, 1⟩
def args0 : Array Value := #[.int 5, .int 5, .int 5, .int 5]
def aboutOver (below : List Frame) : State where
  vm := { classes := classes, interned := interned.toArray }
  heap := heap
  slotsUsed := slotsUsed
  threads := #[{ frames := .invoking theMethod args0 :: below }]
def below0 : List Frame := [.native { method := ⟨0, 0⟩, args := #[] }]
def about1 : State := aboutOver below0
def p0 : Program := .bare "" "" ""
def e0 : Env := launch0.env 0 0 0
theorem w_frames : about1.frames = Frame.invoking theMethod args0 :: below0 := rfl
set_option maxRecDepth 65536 in
theorem w_args : argsFit about1.vm theMethod args0 = true := by decide +kernel
set_option maxRecDepth 65536 in
theorem w_heap : heapFits about1 = true := by decide +kernel
set_option maxRecDepth 65536 in
theorem w_runnable : about1.curStatus? = some .runnable := by decide +kernel
set_option maxRecDepth 65536 in
theorem w_alone : about1.alone = true := by decide +kernel
set_option maxRecDepth 65536 in
theorem w_named : about1.methodNamed? x = some theMethod := by decide +kernel
set_option maxRecDepth 65536 in
theorem w_hears : about1.hears theMethod below0 = true := by decide +kernel
set_option maxRecDepth 65536 in
theorem w_ripe : about1.ripe theMethod args0 below0 = true := by decide +kernel
theorem w_running : about1.status = .running := rfl
set_option maxRecDepth 65536 in
theorem w_room : about1.hasRoom e0.platform room_1 = true :=
  launch0.hasRoom_least _ room_1 (by decide +kernel) (by decide +kernel) (by decide +kernel) (by decide +kernel) (by decide +kernel) (by decide +kernel)
theorem allAtoms_all (ts : List Jvm.Cond) (a : Array Jvm.Value) (st : Jvm.State) : (allAtoms ts).before a st = ts.all (fun c => c.before a st) := by
  induction ts with
  | nil => rfl
  | cons c t ih =>
    show (Jvm.Cond.and c (allAtoms t)).before a st = _
    rw [Jvm.Cond.before_and, ih, List.all_cons]
def words1 : List Jvm.Cond := Jvm.Cond.code x code maxLocals ret :: tables_1
/-- a 'code' word, met by the world's own term for the bytes: nothing is compared byte by byte -/
theorem code_word {y : MethodName} {bytes : ByteArray} {mx : Nat} {rt : Option FieldType} {a : Array Value} {s : State} {m : MethodId} {meth : Method} {c : Code} (h1 : s.methodNamed? y = some m) (h2 : s.vm.method? m = some meth) (h3 : meth.code = some c) (h4 : c.code = bytes)
    (h5 : (c.maxLocals == mx && c.exceptionTable.isEmpty && decide (c.maxStack ≤ mostOperands) && decide (meth.sig.returnType = rt) && !meth.locks && decide (parseMethodDescriptor y.desc = some meth.sig)) = true) : (Jvm.Cond.code y bytes mx rt).before a s = true := by
  simp only [Bool.and_eq_true, beq_iff_eq, Bool.not_eq_true', decide_eq_true_eq] at h5
  obtain ⟨⟨⟨⟨⟨g1, g2⟩, g3⟩, g4⟩, g5⟩, g6⟩ := h5
  simp [Cond.before, Cond.holds, Cond.value, h1, h2, h3, h4, g1, g2, g3, g4, g5, g6]
def isCode : Jvm.Cond → Bool
  | .code _ _ _ _ => true
  | _ => false
theorem all_split {L : List Jvm.Cond} {P : Jvm.Cond → Bool} (h1 : L.all (fun c => isCode c || P c) = true) (h2 : ∀ c ∈ L.filter isCode, P c = true) : L.all P = true := by
  refine List.all_eq_true.mpr fun c hc => ?_
  have h := List.all_eq_true.mp h1 c hc
  rcases Bool.eq_false_or_eq_true (isCode c) with hi | hi
  · exact h2 c (List.mem_filter.mpr ⟨hc, hi⟩)
  · simpa [hi] using h
set_option maxRecDepth 65536 in
theorem w_c0 : (Jvm.Cond.code x code maxLocals ret).before args0 about1 = true := code_word (m := ⟨1, 1⟩) (meth := k1m1) (c := k1c1) (by decide +kernel) rfl rfl rfl (by decide +kernel)
set_option maxRecDepth 65536 in
theorem w_c1 : (Jvm.Cond.code ({ cls := "java/util/ArrayList", name := "<init>", desc := "()V" } : Jvm.MethodName) jdk_38_method_2_code (1 : Nat) (Option.none : Option Jvm.ClassFile.FieldType)).before args0 about1 = true := code_word (m := ⟨11, 0⟩) (meth := k11m0) (c := k11c0) (by decide +kernel) rfl rfl rfl (by decide +kernel)
set_option maxRecDepth 65536 in
theorem w_c2 : (Jvm.Cond.code ({ cls := "java/util/AbstractList", name := "<init>", desc := "()V" } : Jvm.MethodName) jdk_39_method_1_code (1 : Nat) (Option.none : Option Jvm.ClassFile.FieldType)).before args0 about1 = true := code_word (m := ⟨7, 0⟩) (meth := k7m0) (c := k7c0) (by decide +kernel) rfl rfl rfl (by decide +kernel)
set_option maxRecDepth 65536 in
theorem w_c3 : (Jvm.Cond.code ({ cls := "java/util/AbstractCollection", name := "<init>", desc := "()V" } : Jvm.MethodName) jdk_22_method_1_code (1 : Nat) (Option.none : Option Jvm.ClassFile.FieldType)).before args0 about1 = true := code_word (m := ⟨4, 0⟩) (meth := k4m0) (c := k4c0) (by decide +kernel) rfl rfl rfl (by decide +kernel)
set_option maxRecDepth 65536 in
theorem w_c4 : (Jvm.Cond.code ({ cls := "java/lang/Object", name := "<init>", desc := "()V" } : Jvm.MethodName) object_method_1_code (1 : Nat) (Option.none : Option Jvm.ClassFile.FieldType)).before args0 about1 = true := code_word (m := ⟨0, 0⟩) (meth := k0m0) (c := k0c0) (by decide +kernel) rfl rfl rfl (by decide +kernel)
set_option maxRecDepth 65536 in
theorem w_c5 : (Jvm.Cond.code ({ cls := "java/lang/String", name := "valueOf", desc := "(C)Ljava/lang/String;" } : Jvm.MethodName) jdk_42_method_139_code (1 : Nat) (Option.some (Jvm.ClassFile.FieldType.object "java/lang/String"))).before args0 about1 = true := code_word (m := ⟨16, 2⟩) (meth := k16m2) (c := k16c2) (by decide +kernel) rfl rfl rfl (by decide +kernel)
set_option maxRecDepth 65536 in
theorem w_c6 : (Jvm.Cond.code ({ cls := "java/lang/StringLatin1", name := "canEncode", desc := "(C)Z" } : Jvm.MethodName) jdk_43_method_3_code (1 : Nat) (Option.some Jvm.ClassFile.FieldType.boolean)).before args0 about1 = true := code_word (m := ⟨17, 1⟩) (meth := k17m1) (c := k17c1) (by decide +kernel) rfl rfl rfl (by decide +kernel)
set_option maxRecDepth 65536 in
theorem w_c7 : (Jvm.Cond.code ({ cls := "java/lang/StringLatin1", name := "toBytes", desc := "(C)[B" } : Jvm.MethodName) jdk_43_method_46_code (1 : Nat) (Option.some (Jvm.ClassFile.FieldType.array Jvm.ClassFile.FieldType.byte))).before args0 about1 = true := code_word (m := ⟨17, 2⟩) (meth := k17m2) (c := k17c2) (by decide +kernel) rfl rfl rfl (by decide +kernel)
set_option maxRecDepth 65536 in
theorem w_c8 : (Jvm.Cond.code ({ cls := "java/lang/String", name := "<init>", desc := "([BB)V" } : Jvm.MethodName) jdk_42_method_151_code (3 : Nat) (Option.none : Option Jvm.ClassFile.FieldType)).before args0 about1 = true := code_word (m := ⟨16, 4⟩) (meth := k16m4) (c := k16c4) (by decide +kernel) rfl rfl rfl (by decide +kernel)
set_option maxRecDepth 65536 in
theorem w_c9 : (Jvm.Cond.code ({ cls := "java/util/ArrayList", name := "add", desc := "(Ljava/lang/Object;)Z" } : Jvm.MethodName) jdk_38_method_25_code (2 : Nat) (Option.some Jvm.ClassFile.FieldType.boolean)).before args0 about1 = true := code_word (m := ⟨11, 6⟩) (meth := k11m6) (c := k11c6) (by decide +kernel) rfl rfl rfl (by decide +kernel)
set_option maxRecDepth 65536 in
theorem w_c10 : (Jvm.Cond.code ({ cls := "java/util/ArrayList", name := "add", desc := "(Ljava/lang/Object;[Ljava/lang/Object;I)V" } : Jvm.MethodName) jdk_38_method_24_code (4 : Nat) (Option.none : Option Jvm.ClassFile.FieldType)).before args0 about1 = true := code_word (m := ⟨11, 5⟩) (meth := k11m5) (c := k11c5) (by decide +kernel) rfl rfl rfl (by decide +kernel)
set_option maxRecDepth 65536 in
theorem w_c11 : (Jvm.Cond.code ({ cls := "java/util/ArrayList", name := "grow", desc := "()[Ljava/lang/Object;" } : Jvm.MethodName) jdk_38_method_7_code (1 : Nat) (Option.some (Jvm.ClassFile.FieldType.array (Jvm.ClassFile.FieldType.object "java/lang/Object")))).before args0 about1 = true := code_word (m := ⟨11, 2⟩) (meth := k11m2) (c := k11c2) (by decide +kernel) rfl rfl rfl (by decide +kernel)
set_option maxRecDepth 65536 in
theorem w_c12 : (Jvm.Cond.code ({ cls := "java/util/ArrayList", name := "grow", desc := "(I)[Ljava/lang/Object;" } : Jvm.MethodName) jdk_38_method_6_code (4 : Nat) (Option.some (Jvm.ClassFile.FieldType.array (Jvm.ClassFile.FieldType.object "java/lang/Object")))).before args0 about1 = true := code_word (m := ⟨11, 1⟩) (meth := k11m1) (c := k11c1) (by decide +kernel) rfl rfl rfl (by decide +kernel)
set_option maxRecDepth 65536 in
theorem w_c13 : (Jvm.Cond.code ({ cls := "java/lang/Math", name := "max", desc := "(II)I" } : Jvm.MethodName) jdk_29_method_65_code (2 : Nat) (Option.some Jvm.ClassFile.FieldType.int)).before args0 about1 = true := code_word (m := ⟨18, 1⟩) (meth := k18m1) (c := k18c1) (by decide +kernel) rfl rfl rfl (by decide +kernel)
set_option maxRecDepth 65536 in
theorem w_c14 : (Jvm.Cond.code ({ cls := "java/lang/String", name := "<init>", desc := "([C)V" } : Jvm.MethodName) jdk_42_method_3_code (2 : Nat) (Option.none : Option Jvm.ClassFile.FieldType)).before args0 about1 = true := code_word (m := ⟨16, 1⟩) (meth := k16m1) (c := k16c1) (by decide +kernel) rfl rfl rfl (by decide +kernel)
set_option maxRecDepth 65536 in
theorem w_c15 : (Jvm.Cond.code ({ cls := "java/lang/String", name := "<init>", desc := "([CIILjava/lang/Void;)V" } : Jvm.MethodName) jdk_42_method_149_code (6 : Nat) (Option.none : Option Jvm.ClassFile.FieldType)).before args0 about1 = true := code_word (m := ⟨16, 3⟩) (meth := k16m3) (c := k16c3) (by decide +kernel) rfl rfl rfl (by decide +kernel)
set_option maxRecDepth 65536 in
theorem w_c16 : (Jvm.Cond.code ({ cls := "java/lang/StringUTF16", name := "compress", desc := "([CII)[B" } : Jvm.MethodName) jdk_52_method_16_code (6 : Nat) (Option.some (Jvm.ClassFile.FieldType.array Jvm.ClassFile.FieldType.byte))).before args0 about1 = true := code_word (m := ⟨19, 2⟩) (meth := k19m2) (c := k19c2) (by decide +kernel) rfl rfl rfl (by decide +kernel)
set_option maxRecDepth 65536 in
theorem w_c17 : (Jvm.Cond.code ({ cls := "java/lang/StringUTF16", name := "compress", desc := "([CI[BII)I" } : Jvm.MethodName) jdk_52_method_21_code (7 : Nat) (Option.some Jvm.ClassFile.FieldType.int)).before args0 about1 = true := code_word (m := ⟨19, 3⟩) (meth := k19m3) (c := k19c3) (by decide +kernel) rfl rfl rfl (by decide +kernel)
set_option maxRecDepth 65536 in
theorem w_c18 : (Jvm.Cond.code ({ cls := "java/lang/StringUTF16", name := "coderFromArrayLen", desc := "([BI)B" } : Jvm.MethodName) jdk_52_method_15_code (2 : Nat) (Option.some Jvm.ClassFile.FieldType.byte)).before args0 about1 = true := code_word (m := ⟨19, 1⟩) (meth := k19m1) (c := k19c1) (by decide +kernel) rfl rfl rfl (by decide +kernel)
set_option maxRecDepth 65536 in
theorem w_c19 : (Jvm.Cond.code ({ cls := "com/example/limmat/limmat/analysis/Opacity$Verdict", name := "<init>", desc := "(Ljava/util/List;)V" } : Jvm.MethodName) prog_12_method_1_code (2 : Nat) (Option.none : Option Jvm.ClassFile.FieldType)).before args0 about1 = true := code_word (m := ⟨21, 0⟩) (meth := k21m0) (c := k21c0) (by decide +kernel) rfl rfl rfl (by decide +kernel)
set_option maxRecDepth 65536 in
theorem w_c20 : (Jvm.Cond.code ({ cls := "java/lang/Record", name := "<init>", desc := "()V" } : Jvm.MethodName) jdk_30_method_1_code (1 : Nat) (Option.none : Option Jvm.ClassFile.FieldType)).before args0 about1 = true := code_word (m := ⟨20, 0⟩) (meth := k20m0) (c := k20c0) (by decide +kernel) rfl rfl rfl (by decide +kernel)
set_option maxRecDepth 65536 in
theorem w_c21 : (Jvm.Cond.code ({ cls := "java/util/List", name := "copyOf", desc := "(Ljava/util/Collection;)Ljava/util/List;" } : Jvm.MethodName) jdk_40_method_48_code (1 : Nat) (Option.some (Jvm.ClassFile.FieldType.object "java/util/List"))).before args0 about1 = true := code_word (m := ⟨6, 2⟩) (meth := k6m2) (c := k6c2) (by decide +kernel) rfl rfl rfl (by decide +kernel)
set_option maxRecDepth 65536 in
theorem w_c22 : (Jvm.Cond.code ({ cls := "java/util/ImmutableCollections", name := "listCopy", desc := "(Ljava/util/Collection;)Ljava/util/List;" } : Jvm.MethodName) jdk_56_method_3_code (2 : Nat) (Option.some (Jvm.ClassFile.FieldType.object "java/util/List"))).before args0 about1 = true := code_word (m := ⟨22, 1⟩) (meth := k22m1) (c := k22c1) (by decide +kernel) rfl rfl rfl (by decide +kernel)
set_option maxRecDepth 65536 in
theorem w_c23 : (Jvm.Cond.code ({ cls := "java/util/ArrayList", name := "isEmpty", desc := "()Z" } : Jvm.MethodName) jdk_38_method_9_code (1 : Nat) (Option.some Jvm.ClassFile.FieldType.boolean)).before args0 about1 = true := code_word (m := ⟨11, 3⟩) (meth := k11m3) (c := k11c3) (by decide +kernel) rfl rfl rfl (by decide +kernel)
set_option maxRecDepth 65536 in
theorem w_c24 : (Jvm.Cond.code ({ cls := "java/util/ArrayList", name := "toArray", desc := "()[Ljava/lang/Object;" } : Jvm.MethodName) jdk_38_method_16_code (1 : Nat) (Option.some (Jvm.ClassFile.FieldType.array (Jvm.ClassFile.FieldType.object "java/lang/Object")))).before args0 about1 = true := code_word (m := ⟨11, 4⟩) (meth := k11m4) (c := k11c4) (by decide +kernel) rfl rfl rfl (by decide +kernel)
set_option maxRecDepth 65536 in
theorem w_c25 : (Jvm.Cond.code ({ cls := "java/util/Arrays", name := "copyOf", desc := "([Ljava/lang/Object;I)[Ljava/lang/Object;" } : Jvm.MethodName) jdk_65_method_119_code (2 : Nat) (Option.some (Jvm.ClassFile.FieldType.array (Jvm.ClassFile.FieldType.object "java/lang/Object")))).before args0 about1 = true := code_word (m := ⟨27, 1⟩) (meth := k27m1) (c := k27c1) (by decide +kernel) rfl rfl rfl (by decide +kernel)
set_option maxRecDepth 65536 in
theorem w_c26 : (Jvm.Cond.code ({ cls := "java/util/Arrays", name := "copyOf", desc := "([Ljava/lang/Object;ILjava/lang/Class;)[Ljava/lang/Object;" } : Jvm.MethodName) jdk_65_method_120_code (4 : Nat) (Option.some (Jvm.ClassFile.FieldType.array (Jvm.ClassFile.FieldType.object "java/lang/Object")))).before args0 about1 = true := code_word (m := ⟨27, 2⟩) (meth := k27m2) (c := k27c2) (by decide +kernel) rfl rfl rfl (by decide +kernel)
set_option maxRecDepth 65536 in
theorem w_c27 : (Jvm.Cond.code ({ cls := "java/lang/Math", name := "min", desc := "(II)I" } : Jvm.MethodName) jdk_29_method_69_code (2 : Nat) (Option.some Jvm.ClassFile.FieldType.int)).before args0 about1 = true := code_word (m := ⟨18, 2⟩) (meth := k18m2) (c := k18c2) (by decide +kernel) rfl rfl rfl (by decide +kernel)
set_option maxRecDepth 65536 in
theorem w_c28 : (Jvm.Cond.code ({ cls := "java/util/List", name := "of", desc := "([Ljava/lang/Object;)Ljava/util/List;" } : Jvm.MethodName) jdk_40_method_47_code (2 : Nat) (Option.some (Jvm.ClassFile.FieldType.object "java/util/List"))).before args0 about1 = true := code_word (m := ⟨6, 1⟩) (meth := k6m1) (c := k6c1) (by decide +kernel) rfl rfl rfl (by decide +kernel)
set_option maxRecDepth 65536 in
theorem w_c29 : (Jvm.Cond.code ({ cls := "java/util/ImmutableCollections", name := "listFromArray", desc := "([Ljava/lang/Object;)Ljava/util/List;" } : Jvm.MethodName) jdk_56_method_4_code (3 : Nat) (Option.some (Jvm.ClassFile.FieldType.object "java/util/List"))).before args0 about1 = true := code_word (m := ⟨22, 2⟩) (meth := k22m2) (c := k22c2) (by decide +kernel) rfl rfl rfl (by decide +kernel)
set_option maxRecDepth 65536 in
theorem w_c30 : (Jvm.Cond.code ({ cls := "java/util/Objects", name := "requireNonNull", desc := "(Ljava/lang/Object;)Ljava/lang/Object;" } : Jvm.MethodName) jdk_31_method_10_code (1 : Nat) (Option.some (Jvm.ClassFile.FieldType.object "java/lang/Object"))).before args0 about1 = true := code_word (m := ⟨29, 1⟩) (meth := k29m1) (c := k29c1) (by decide +kernel) rfl rfl rfl (by decide +kernel)
set_option maxRecDepth 65536 in
theorem w_c31 : (Jvm.Cond.code ({ cls := "java/util/ImmutableCollections$ListN", name := "<init>", desc := "([Ljava/lang/Object;Z)V" } : Jvm.MethodName) jdk_45_method_1_code (3 : Nat) (Option.none : Option Jvm.ClassFile.FieldType)).before args0 about1 = true := code_word (m := ⟨26, 0⟩) (meth := k26m0) (c := k26c0) (by decide +kernel) rfl rfl rfl (by decide +kernel)
set_option maxRecDepth 65536 in
theorem w_c32 : (Jvm.Cond.code ({ cls := "java/util/ImmutableCollections$AbstractImmutableList", name := "<init>", desc := "()V" } : Jvm.MethodName) jdk_46_method_1_code (1 : Nat) (Option.none : Option Jvm.ClassFile.FieldType)).before args0 about1 = true := code_word (m := ⟨24, 0⟩) (meth := k24m0) (c := k24c0) (by decide +kernel) rfl rfl rfl (by decide +kernel)
set_option maxRecDepth 65536 in
theorem w_c33 : (Jvm.Cond.code ({ cls := "java/util/ImmutableCollections$AbstractImmutableCollection", name := "<init>", desc := "()V" } : Jvm.MethodName) jdk_47_method_1_code (1 : Nat) (Option.none : Option Jvm.ClassFile.FieldType)).before args0 about1 = true := code_word (m := ⟨23, 0⟩) (meth := k23m0) (c := k23c0) (by decide +kernel) rfl rfl rfl (by decide +kernel)
set_option maxRecDepth 65536 in
theorem w_c34 : (Jvm.Cond.code ({ cls := "com/example/limmat/limmat/analysis/Opacity$Verdict", name := "holds", desc := "()Z" } : Jvm.MethodName) prog_12_method_2_code (1 : Nat) (Option.some Jvm.ClassFile.FieldType.boolean)).before args0 about1 = true := code_word (m := ⟨21, 1⟩) (meth := k21m1) (c := k21c1) (by decide +kernel) rfl rfl rfl (by decide +kernel)
set_option maxRecDepth 65536 in
theorem w_c35 : (Jvm.Cond.code ({ cls := "com/example/limmat/limmat/analysis/Opacity$Verdict", name := "observation", desc := "()Ljava/util/List;" } : Jvm.MethodName) prog_12_method_6_code (1 : Nat) (Option.some (Jvm.ClassFile.FieldType.object "java/util/List"))).before args0 about1 = true := code_word (m := ⟨21, 2⟩) (meth := k21m2) (c := k21c2) (by decide +kernel) rfl rfl rfl (by decide +kernel)
set_option maxRecDepth 65536 in
theorem w_c36 : (Jvm.Cond.code ({ cls := "java/util/ImmutableCollections$List12", name := "<init>", desc := "(Ljava/lang/Object;Ljava/lang/Object;)V" } : Jvm.MethodName) jdk_44_method_2_code (3 : Nat) (Option.none : Option Jvm.ClassFile.FieldType)).before args0 about1 = true := code_word (m := ⟨25, 1⟩) (meth := k25m1) (c := k25c1) (by decide +kernel) rfl rfl rfl (by decide +kernel)
set_option maxRecDepth 65536 in
theorem w_c37 : (Jvm.Cond.code ({ cls := "java/util/ImmutableCollections$List12", name := "<init>", desc := "(Ljava/lang/Object;)V" } : Jvm.MethodName) jdk_44_method_1_code (2 : Nat) (Option.none : Option Jvm.ClassFile.FieldType)).before args0 about1 = true := code_word (m := ⟨25, 0⟩) (meth := k25m0) (c := k25c0) (by decide +kernel) rfl rfl rfl (by decide +kernel)
set_option maxRecDepth 65536 in
theorem w_c38 : (Jvm.Cond.code ({ cls := "java/util/List", name := "of", desc := "()Ljava/util/List;" } : Jvm.MethodName) jdk_40_method_36_code (0 : Nat) (Option.some (Jvm.ClassFile.FieldType.object "java/util/List"))).before args0 about1 = true := code_word (m := ⟨6, 0⟩) (meth := k6m0) (c := k6c0) (by decide +kernel) rfl rfl rfl (by decide +kernel)
def codes1 : List Jvm.Cond := [Jvm.Cond.code x code maxLocals ret, Jvm.Cond.code ({ cls := "java/util/ArrayList", name := "<init>", desc := "()V" } : Jvm.MethodName) jdk_38_method_2_code (1 : Nat) (Option.none : Option Jvm.ClassFile.FieldType), Jvm.Cond.code ({ cls := "java/util/AbstractList", name := "<init>", desc := "()V" } : Jvm.MethodName) jdk_39_method_1_code (1 : Nat) (Option.none : Option Jvm.ClassFile.FieldType), Jvm.Cond.code ({ cls := "java/util/AbstractCollection", name := "<init>", desc := "()V" } : Jvm.MethodName) jdk_22_method_1_code (1 : Nat) (Option.none : Option Jvm.ClassFile.FieldType), Jvm.Cond.code ({ cls := "java/lang/Object", name := "<init>", desc := "()V" } : Jvm.MethodName) object_method_1_code (1 : Nat) (Option.none : Option Jvm.ClassFile.FieldType), Jvm.Cond.code ({ cls := "java/lang/String", name := "valueOf", desc := "(C)Ljava/lang/String;" } : Jvm.MethodName) jdk_42_method_139_code (1 : Nat) (Option.some (Jvm.ClassFile.FieldType.object "java/lang/String")), Jvm.Cond.code ({ cls := "java/lang/StringLatin1", name := "canEncode", desc := "(C)Z" } : Jvm.MethodName) jdk_43_method_3_code (1 : Nat) (Option.some Jvm.ClassFile.FieldType.boolean), Jvm.Cond.code ({ cls := "java/lang/StringLatin1", name := "toBytes", desc := "(C)[B" } : Jvm.MethodName) jdk_43_method_46_code (1 : Nat) (Option.some (Jvm.ClassFile.FieldType.array Jvm.ClassFile.FieldType.byte)), Jvm.Cond.code ({ cls := "java/lang/String", name := "<init>", desc := "([BB)V" } : Jvm.MethodName) jdk_42_method_151_code (3 : Nat) (Option.none : Option Jvm.ClassFile.FieldType), Jvm.Cond.code ({ cls := "java/util/ArrayList", name := "add", desc := "(Ljava/lang/Object;)Z" } : Jvm.MethodName) jdk_38_method_25_code (2 : Nat) (Option.some Jvm.ClassFile.FieldType.boolean), Jvm.Cond.code ({ cls := "java/util/ArrayList", name := "add", desc := "(Ljava/lang/Object;[Ljava/lang/Object;I)V" } : Jvm.MethodName) jdk_38_method_24_code (4 : Nat) (Option.none : Option Jvm.ClassFile.FieldType), Jvm.Cond.code ({ cls := "java/util/ArrayList", name := "grow", desc := "()[Ljava/lang/Object;" } : Jvm.MethodName) jdk_38_method_7_code (1 : Nat) (Option.some (Jvm.ClassFile.FieldType.array (Jvm.ClassFile.FieldType.object "java/lang/Object"))), Jvm.Cond.code ({ cls := "java/util/ArrayList", name := "grow", desc := "(I)[Ljava/lang/Object;" } : Jvm.MethodName) jdk_38_method_6_code (4 : Nat) (Option.some (Jvm.ClassFile.FieldType.array (Jvm.ClassFile.FieldType.object "java/lang/Object"))), Jvm.Cond.code ({ cls := "java/lang/Math", name := "max", desc := "(II)I" } : Jvm.MethodName) jdk_29_method_65_code (2 : Nat) (Option.some Jvm.ClassFile.FieldType.int), Jvm.Cond.code ({ cls := "java/lang/String", name := "<init>", desc := "([C)V" } : Jvm.MethodName) jdk_42_method_3_code (2 : Nat) (Option.none : Option Jvm.ClassFile.FieldType), Jvm.Cond.code ({ cls := "java/lang/String", name := "<init>", desc := "([CIILjava/lang/Void;)V" } : Jvm.MethodName) jdk_42_method_149_code (6 : Nat) (Option.none : Option Jvm.ClassFile.FieldType), Jvm.Cond.code ({ cls := "java/lang/StringUTF16", name := "compress", desc := "([CII)[B" } : Jvm.MethodName) jdk_52_method_16_code (6 : Nat) (Option.some (Jvm.ClassFile.FieldType.array Jvm.ClassFile.FieldType.byte)), Jvm.Cond.code ({ cls := "java/lang/StringUTF16", name := "compress", desc := "([CI[BII)I" } : Jvm.MethodName) jdk_52_method_21_code (7 : Nat) (Option.some Jvm.ClassFile.FieldType.int), Jvm.Cond.code ({ cls := "java/lang/StringUTF16", name := "coderFromArrayLen", desc := "([BI)B" } : Jvm.MethodName) jdk_52_method_15_code (2 : Nat) (Option.some Jvm.ClassFile.FieldType.byte), Jvm.Cond.code ({ cls := "com/example/limmat/limmat/analysis/Opacity$Verdict", name := "<init>", desc := "(Ljava/util/List;)V" } : Jvm.MethodName) prog_12_method_1_code (2 : Nat) (Option.none : Option Jvm.ClassFile.FieldType), Jvm.Cond.code ({ cls := "java/lang/Record", name := "<init>", desc := "()V" } : Jvm.MethodName) jdk_30_method_1_code (1 : Nat) (Option.none : Option Jvm.ClassFile.FieldType), Jvm.Cond.code ({ cls := "java/util/List", name := "copyOf", desc := "(Ljava/util/Collection;)Ljava/util/List;" } : Jvm.MethodName) jdk_40_method_48_code (1 : Nat) (Option.some (Jvm.ClassFile.FieldType.object "java/util/List")), Jvm.Cond.code ({ cls := "java/util/ImmutableCollections", name := "listCopy", desc := "(Ljava/util/Collection;)Ljava/util/List;" } : Jvm.MethodName) jdk_56_method_3_code (2 : Nat) (Option.some (Jvm.ClassFile.FieldType.object "java/util/List")), Jvm.Cond.code ({ cls := "java/util/ArrayList", name := "isEmpty", desc := "()Z" } : Jvm.MethodName) jdk_38_method_9_code (1 : Nat) (Option.some Jvm.ClassFile.FieldType.boolean), Jvm.Cond.code ({ cls := "java/util/ArrayList", name := "toArray", desc := "()[Ljava/lang/Object;" } : Jvm.MethodName) jdk_38_method_16_code (1 : Nat) (Option.some (Jvm.ClassFile.FieldType.array (Jvm.ClassFile.FieldType.object "java/lang/Object"))), Jvm.Cond.code ({ cls := "java/util/Arrays", name := "copyOf", desc := "([Ljava/lang/Object;I)[Ljava/lang/Object;" } : Jvm.MethodName) jdk_65_method_119_code (2 : Nat) (Option.some (Jvm.ClassFile.FieldType.array (Jvm.ClassFile.FieldType.object "java/lang/Object"))), Jvm.Cond.code ({ cls := "java/util/Arrays", name := "copyOf", desc := "([Ljava/lang/Object;ILjava/lang/Class;)[Ljava/lang/Object;" } : Jvm.MethodName) jdk_65_method_120_code (4 : Nat) (Option.some (Jvm.ClassFile.FieldType.array (Jvm.ClassFile.FieldType.object "java/lang/Object"))), Jvm.Cond.code ({ cls := "java/lang/Math", name := "min", desc := "(II)I" } : Jvm.MethodName) jdk_29_method_69_code (2 : Nat) (Option.some Jvm.ClassFile.FieldType.int), Jvm.Cond.code ({ cls := "java/util/List", name := "of", desc := "([Ljava/lang/Object;)Ljava/util/List;" } : Jvm.MethodName) jdk_40_method_47_code (2 : Nat) (Option.some (Jvm.ClassFile.FieldType.object "java/util/List")), Jvm.Cond.code ({ cls := "java/util/ImmutableCollections", name := "listFromArray", desc := "([Ljava/lang/Object;)Ljava/util/List;" } : Jvm.MethodName) jdk_56_method_4_code (3 : Nat) (Option.some (Jvm.ClassFile.FieldType.object "java/util/List")), Jvm.Cond.code ({ cls := "java/util/Objects", name := "requireNonNull", desc := "(Ljava/lang/Object;)Ljava/lang/Object;" } : Jvm.MethodName) jdk_31_method_10_code (1 : Nat) (Option.some (Jvm.ClassFile.FieldType.object "java/lang/Object")), Jvm.Cond.code ({ cls := "java/util/ImmutableCollections$ListN", name := "<init>", desc := "([Ljava/lang/Object;Z)V" } : Jvm.MethodName) jdk_45_method_1_code (3 : Nat) (Option.none : Option Jvm.ClassFile.FieldType), Jvm.Cond.code ({ cls := "java/util/ImmutableCollections$AbstractImmutableList", name := "<init>", desc := "()V" } : Jvm.MethodName) jdk_46_method_1_code (1 : Nat) (Option.none : Option Jvm.ClassFile.FieldType), Jvm.Cond.code ({ cls := "java/util/ImmutableCollections$AbstractImmutableCollection", name := "<init>", desc := "()V" } : Jvm.MethodName) jdk_47_method_1_code (1 : Nat) (Option.none : Option Jvm.ClassFile.FieldType), Jvm.Cond.code ({ cls := "com/example/limmat/limmat/analysis/Opacity$Verdict", name := "holds", desc := "()Z" } : Jvm.MethodName) prog_12_method_2_code (1 : Nat) (Option.some Jvm.ClassFile.FieldType.boolean), Jvm.Cond.code ({ cls := "com/example/limmat/limmat/analysis/Opacity$Verdict", name := "observation", desc := "()Ljava/util/List;" } : Jvm.MethodName) prog_12_method_6_code (1 : Nat) (Option.some (Jvm.ClassFile.FieldType.object "java/util/List")), Jvm.Cond.code ({ cls := "java/util/ImmutableCollections$List12", name := "<init>", desc := "(Ljava/lang/Object;Ljava/lang/Object;)V" } : Jvm.MethodName) jdk_44_method_2_code (3 : Nat) (Option.none : Option Jvm.ClassFile.FieldType), Jvm.Cond.code ({ cls := "java/util/ImmutableCollections$List12", name := "<init>", desc := "(Ljava/lang/Object;)V" } : Jvm.MethodName) jdk_44_method_1_code (2 : Nat) (Option.none : Option Jvm.ClassFile.FieldType), Jvm.Cond.code ({ cls := "java/util/List", name := "of", desc := "()Ljava/util/List;" } : Jvm.MethodName) jdk_40_method_36_code (0 : Nat) (Option.some (Jvm.ClassFile.FieldType.object "java/util/List"))]
set_option maxRecDepth 65536 in
theorem codes_eq : words1.filter isCode = codes1 := rfl
theorem w_codes : ∀ c ∈ words1.filter isCode, c.before args0 about1 = true := by
  rw [codes_eq]
  intro c hc
  simp only [codes1, List.mem_cons, List.not_mem_nil, or_false] at hc
  rcases hc with rfl | rfl | rfl | rfl | rfl | rfl | rfl | rfl | rfl | rfl | rfl | rfl | rfl | rfl | rfl | rfl | rfl | rfl | rfl | rfl | rfl | rfl | rfl | rfl | rfl | rfl | rfl | rfl | rfl | rfl | rfl | rfl | rfl | rfl | rfl | rfl | rfl | rfl | rfl
  · exact w_c0
  · exact w_c1
  · exact w_c2
  · exact w_c3
  · exact w_c4
  · exact w_c5
  · exact w_c6
  · exact w_c7
  · exact w_c8
  · exact w_c9
  · exact w_c10
  · exact w_c11
  · exact w_c12
  · exact w_c13
  · exact w_c14
  · exact w_c15
  · exact w_c16
  · exact w_c17
  · exact w_c18
  · exact w_c19
  · exact w_c20
  · exact w_c21
  · exact w_c22
  · exact w_c23
  · exact w_c24
  · exact w_c25
  · exact w_c26
  · exact w_c27
  · exact w_c28
  · exact w_c29
  · exact w_c30
  · exact w_c31
  · exact w_c32
  · exact w_c33
  · exact w_c34
  · exact w_c35
  · exact w_c36
  · exact w_c37
  · exact w_c38
set_option maxRecDepth 65536 in
theorem w_t1 : (words1.take 24).all (fun c => isCode c || c.before args0 about1) = true := by decide +kernel
set_option maxRecDepth 65536 in
theorem w_t2 : ((words1.drop 24).take 24).all (fun c => isCode c || c.before args0 about1) = true := by decide +kernel
set_option maxRecDepth 65536 in
theorem w_t3 : (((words1.drop 24).drop 24).take 24).all (fun c => isCode c || c.before args0 about1) = true := by decide +kernel
set_option maxRecDepth 65536 in
theorem w_t4 : ((((words1.drop 24).drop 24).drop 24).take 24).all (fun c => isCode c || c.before args0 about1) = true := by decide +kernel
set_option maxRecDepth 65536 in
theorem w_t5 : (((((words1.drop 24).drop 24).drop 24).drop 24).take 24).all (fun c => isCode c || c.before args0 about1) = true := by decide +kernel
set_option maxRecDepth 65536 in
theorem w_t6 : ((((((words1.drop 24).drop 24).drop 24).drop 24).drop 24).take 24).all (fun c => isCode c || c.before args0 about1) = true := by decide +kernel
set_option maxRecDepth 65536 in
theorem w_t7 : (((((((words1.drop 24).drop 24).drop 24).drop 24).drop 24).drop 24).take 24).all (fun c => isCode c || c.before args0 about1) = true := by decide +kernel
set_option maxRecDepth 65536 in
theorem w_t8 : ((((((((words1.drop 24).drop 24).drop 24).drop 24).drop 24).drop 24).drop 24).take 24).all (fun c => isCode c || c.before args0 about1) = true := by decide +kernel
set_option maxRecDepth 65536 in
theorem w_t9 : (((((((((words1.drop 24).drop 24).drop 24).drop 24).drop 24).drop 24).drop 24).drop 24).take 24).all (fun c => isCode c || c.before args0 about1) = true := by decide +kernel
set_option maxRecDepth 65536 in
theorem w_t10 : (((((((((words1.drop 24).drop 24).drop 24).drop 24).drop 24).drop 24).drop 24).drop 24).drop 24).all (fun c => isCode c || c.before args0 about1) = true := by decide +kernel
theorem w_tables : (allAtoms (Jvm.Cond.code x code maxLocals ret :: tables_1)).before args0 about1 = true := by
  rw [allAtoms_all]
  show words1.all (fun c => c.before args0 about1) = true
  refine all_split ?_ w_codes
  rw [← List.take_append_drop 24 words1, List.all_append, w_t1, ← List.take_append_drop 24 (words1.drop 24), List.all_append, w_t2, ← List.take_append_drop 24 ((words1.drop 24).drop 24), List.all_append, w_t3, ← List.take_append_drop 24 (((words1.drop 24).drop 24).drop 24), List.all_append, w_t4, ← List.take_append_drop 24 ((((words1.drop 24).drop 24).drop 24).drop 24), List.all_append, w_t5, ← List.take_append_drop 24 (((((words1.drop 24).drop 24).drop 24).drop 24).drop 24), List.all_append, w_t6, ← List.take_append_drop 24 ((((((words1.drop 24).drop 24).drop 24).drop 24).drop 24).drop 24), List.all_append, w_t7, ← List.take_append_drop 24 (((((((words1.drop 24).drop 24).drop 24).drop 24).drop 24).drop 24).drop 24), List.all_append, w_t8, ← List.take_append_drop 24 ((((((((words1.drop 24).drop 24).drop 24).drop 24).drop 24).drop 24).drop 24).drop 24), List.all_append, w_t9, w_t10]
  rfl
set_option maxRecDepth 65536 in
theorem w_rest : rest_1_c.before args0 about1 = true := by decide +kernel
set_option maxRecDepth 65536 in
theorem w_case : (Jvm.Cond.and given_1 narrow_1).before args0 about1 = true := by decide +kernel
theorem w_applies : (headSpec (Jvm.Cond.code x code maxLocals ret :: tables_1) room_1).applies x e0.platform about1 = true :=
  (Spec.applies_iff w_frames).mpr ⟨w_running, w_runnable, w_alone, w_named, w_hears, w_ripe, w_room, w_tables⟩
theorem atStart : AtStart classFile x code maxLocals ret World_1 tables_1 room_1 Calls_1 rest_1 Pre_1 launch0 p0 e0 about1 theMethod args0 below0 :=
  ⟨lists_1, trivial, launch0.admits_env _ _ _, launch0.least_env, fairChoices_fair.cas, fairChoices_fair.clock, w_frames, w_args, w_heap, w_applies, ⟨⟨39, k39, 4, by decide +kernel, rfl, rfl, _, rfl, rfl⟩, trivial⟩, w_rest, w_case⟩
end start1
theorem witness_1 : WitnessClaimed_1 := ⟨start1.p0, start1.e0, start1.about1, start1.theMethod, start1.args0, start1.below0, start1.atStart⟩
end Jvm.Pilot.@@N@@
