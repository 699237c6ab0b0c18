import JvmDerived
import JvmDerived.Pilot.@@N@@Statement
import JvmDerived.Pilot.@@N@@Code
set_option linter.unusedVariables false
set_option linter.unusedSimpArgs false
/- laws to paste: Road.backV (cut by pick.py; bodies as the Statement names them) -/
namespace Jvm.Pilot.@@N@@
namespace StrChars
open Jvm Sem ClassFile Op Lib Jvm.Stand Jvm.Free.XT Jvm.Free.ALB Jvm.Free.JM Jvm.Free
open Jvm.Lib.Cold (StaticIs)
/-- a char array whose places are chars -/
def Ch (a : Addr) (A : Cell) (U : State) : Prop := Arr .char a A U ∧ Typed .char A
theorem Ch.mv {a : Addr} {A : Cell} {U U' : State} (h : Ch a A U) (hal : U.vm.Alike U'.vm) (hh : U'.heap = U.heap) : Ch a A U' := ⟨h.1.mv hal hh, h.2⟩
theorem Ch.keep {a : Addr} {A : Cell} {U U' : State} (h : Ch a A U) (hal : U.vm.Alike U'.vm) (hk : U'.heap[a]? = some A) : Ch a A U' := ⟨h.1.keep hal hk, h.2⟩
/-- what place i of a char[]'s cell holds -/
def cv (A : Cell) (i : Nat) : Int32 := match A.slots[i]? with | some (.int x) => x | _ => 0
theorem Ch.get {a : Addr} {A : Cell} {U : State} (h : Ch a A U) {i : Nat} (hi : i < A.slots.size) : A.slots[i]? = some (.int (cv A i)) := by
  have e := Array.getElem?_eq_getElem hi
  have f := h.2 i _ e
  unfold cv; rw [e]
  generalize A.slots[i] = v at f
  cases v <;> simp [fits] at f ⊢
/-- the byte that i2b leaves of a char -/
def lo8 (x : Int32) : Int32 := x.toInt8.toInt32
theorem fits_lo8 (y : Int32) : fits .byte (.int (lo8 y)) = true := by
  have h1 := y.toInt8.le_toInt
  have h2 := y.toInt8.toInt_lt
  simp only [lo8, fits, Bool.and_eq_true, decide_eq_true_eq, Int32.le_iff_toInt_le, Int8.toInt_toInt32, show (-128 : Int32).toInt = -128 from by decide, show (127 : Int32).toInt = 127 from by decide]
  omega
/-- A' is A but that each place j of lo .. hi - 1 holds f j -/
def Laid (A A' : Cell) (lo hi : Nat) (f : Nat → Value) : Prop := A'.cls = A.cls ∧ A'.vm = A.vm ∧ A'.slots.size = A.slots.size ∧ ∀ i, A'.slots[i]? = if lo ≤ i ∧ i < hi then some (f i) else A.slots[i]?
theorem Laid.zero (A : Cell) (lo : Nat) (f : Nat → Value) : Laid A A lo (lo + 0) f := ⟨rfl, rfl, rfl, fun i => by rw [if_neg (by omega)]⟩
theorem Laid.step {A Ak : Cell} {lo k : Nat} {f : Nat → Value} {v : Value} (h : Laid A Ak lo k f) (hlo : lo ≤ k) (hk : k < Ak.slots.size) (hv : v = f k) : Laid A (Ak.setSlot k v) lo (k + 1) f := by
  refine ⟨h.1, h.2.1, by simpa [Cell.setSlot] using h.2.2.1, fun i => ?_⟩
  by_cases e : k = i
  · subst e; rw [Cell.slots_setSlot_self v hk, if_pos (by omega), hv]
  · rw [Cell.slots_setSlot_ne v e, h.2.2.2 i]
    by_cases q : lo ≤ i ∧ i < k
    · rw [if_pos q, if_pos (by omega)]
    · rw [if_neg q, if_neg (by omega)]
def U16 : String := "java/lang/StringUTF16"
namespace Cmp5
def yN : MethodName := ⟨"java/lang/StringUTF16", "compress", "([CI[BII)I"⟩
abbrev yB : ByteArray := jdk_52_method_21_code
theorem d0 : decode yB 0 = .ok (.iconst 0, 1) := by decide +kernel
theorem d1 : decode yB 1 = .ok (.istore 5, 2) := by decide +kernel
theorem d3 : decode yB 3 = .ok (.iload 5, 2) := by decide +kernel
theorem d5 : decode yB 5 = .ok (.iload 4, 2) := by decide +kernel
theorem d7 : decode yB 7 = .ok (.if_icmp (.ge) 37, 3) := by decide +kernel
theorem d10 : decode yB 10 = .ok (.aload_n 0, 1) := by decide +kernel
theorem d11 : decode yB 11 = .ok (.iload_n 1, 1) := by decide +kernel
theorem d12 : decode yB 12 = .ok (.caload, 1) := by decide +kernel
theorem d13 : decode yB 13 = .ok (.istore 6, 2) := by decide +kernel
theorem d15 : decode yB 15 = .ok (.iload 6, 2) := by decide +kernel
theorem d17 : decode yB 17 = .ok (.sipush 255, 3) := by decide +kernel
theorem d20 : decode yB 20 = .ok (.if_icmp (.le) 6, 3) := by decide +kernel
theorem d26 : decode yB 26 = .ok (.aload_n 2, 1) := by decide +kernel
theorem d27 : decode yB 27 = .ok (.iload_n 3, 1) := by decide +kernel
theorem d28 : decode yB 28 = .ok (.iload 6, 2) := by decide +kernel
theorem d30 : decode yB 30 = .ok (.i2b, 1) := by decide +kernel
theorem d31 : decode yB 31 = .ok (.bastore, 1) := by decide +kernel
theorem d32 : decode yB 32 = .ok (.iinc 1 1, 3) := by decide +kernel
theorem d35 : decode yB 35 = .ok (.iinc 3 1, 3) := by decide +kernel
theorem d38 : decode yB 38 = .ok (.iinc 5 1, 3) := by decide +kernel
theorem d41 : decode yB 41 = .ok (.goto (-38), 3) := by decide +kernel
theorem d44 : decode yB 44 = .ok (.iload 4, 2) := by decide +kernel
theorem d46 : decode yB 46 = .ok (.ireturn, 1) := by decide +kernel
def site : List Cond := []
def tab : Cond := tabOf yN yB 7 (some .int) site
def P (b : Addr) (A : Cell) (d : Addr) (B : Cell) (o q len : Nat) (args : Array Value) (s : State) : Prop := args = #[.ref b, .int (Int32.ofNat o), .ref d, .int (Int32.ofNat q), .int (Int32.ofNat len)] ∧ Ch b A s ∧ Arr .byte d B s ∧ b ≠ d ∧ o + len ≤ A.slots.size ∧ q + len ≤ B.slots.size ∧ ∀ i, i < len → ¬ 255 < cv A (o + i)
def E (b : Addr) (A : Cell) (d : Addr) (B : Cell) (o q len : Nat) (r : Option Value) (s u : State) : Prop := r = some (.int (Int32.ofNat len)) ∧ ∃ B', Put d B' s u ∧ Laid B B' q (q + len) (fun j => Value.int (lo8 (cv A (o + (j - q)))))
/-- no char of the range above 255: len; the places written hold each char's low byte -/
theorem law (l : Launch) (b : Addr) (A : Cell) (d : Addr) (B : Cell) (o q len : Nat) : Law l yN 5 5 0 0 yB 7 (some .int) site (P b A d B o q len) (E b A d B o q len) (copyLocs d q len) 0 0 := by
  refine Law.of_walk (plainFor_of_name (by decide +kernel)) (by decide +kernel) (by decide +kernel) (by decide) (fun _ _ h => by rw [h.1]; rfl) (fun _ U U' hal hh h => ⟨h.1, h.2.1.mv hal hh, h.2.2.1.mv hal hh, h.2.2.2⟩) (fun r U U' V V' h1 hal h2 h => ⟨h.1, h.2.elim fun B' q => ⟨B', q.1.mv h1 h2, q.2⟩⟩) ?_
  intro p e s m args below meth c s₁ X0 hexec hbytes hml hret hlk hnm hown hh0 W hP
  obtain ⟨rfl, hA, hB, hne, l1, l2, hp⟩ := hP
  have c1 : Steps p.tables e below (s₁.setTop (entryFrame m #[.ref b, .int (Int32.ofNat o), .ref d, .int (Int32.ofNat q), .int (Int32.ofNat len)] 7)) (s₁.setTop (mkF m 0 #[.val (.ref b), .val (.int (Int32.ofNat o)), .val (.ref d), .val (.int (Int32.ofNat q)), .val (.int (Int32.ofNat len)), .unset, .unset] [])) := entry rfl
  have hA0 := hA.1.mv X0.warmed.alike hh0
  have hB0 := hB.mv X0.warmed.alike hh0
  have a31 := hA.1.2.2.2
  have c2 : Steps p.tables e below (s₁.setTop (entryFrame m #[.ref b, .int (Int32.ofNat o), .ref d, .int (Int32.ofNat q), .int (Int32.ofNat len)] 7)) (s₁.setTop (mkF m 3 #[.val (.ref b), .val (.int (Int32.ofNat o)), .val (.ref d), .val (.int (Int32.ofNat q)), .val (.int (Int32.ofNat len)), .val (.int 0), .unset] [])) := c1.trans (by
    refine iconstV X0.here hexec rfl 0 (hb hbytes d0) (by decide) ?_
    refine XS.istore X0.here hexec rfl (hb hbytes d1) rfl rfl ?_
    exact Steps.refl _)
  have loop : ∀ (r i : Nat), i + r = len → ∀ (z : Slot), (z = .unset ∨ ∃ w, z = .val w ∧ w.category = 1) → ∀ (Tl : State) (Bk : Cell), Stand p l e { frames := 0, locals := 0, cells := 0, slots := 0 } s m #[.ref b, .int (Int32.ofNat o), .ref d, .int (Int32.ofNat q), .int (Int32.ofNat len)] below meth c Tl ([] ++ copyLocs d q i) 0 0 → Put d Bk s₁ Tl → Laid B Bk q (q + i) (fun j => Value.int (lo8 (cv A (o + (j - q))))) →
      Steps p.tables e below (s₁.setTop (entryFrame m #[.ref b, .int (Int32.ofNat o), .ref d, .int (Int32.ofNat q), .int (Int32.ofNat len)] 7)) (Tl.setTop (mkF m 3 #[.val (.ref b), .val (.int (Int32.ofNat (o + i))), .val (.ref d), .val (.int (Int32.ofNat (q + i))), .val (.int (Int32.ofNat len)), .val (.int (Int32.ofNat i)), z] [])) → ∃ (T' : State) (B' : Cell) (z' : Slot), Stand p l e { frames := 0, locals := 0, cells := 0, slots := 0 } s m #[.ref b, .int (Int32.ofNat o), .ref d, .int (Int32.ofNat q), .int (Int32.ofNat len)] below meth c T' ([] ++ copyLocs d q len) 0 0 ∧ Put d B' s₁ T' ∧ Laid B B' q (q + len) (fun j => Value.int (lo8 (cv A (o + (j - q))))) ∧
      Steps p.tables e below (s₁.setTop (entryFrame m #[.ref b, .int (Int32.ofNat o), .ref d, .int (Int32.ofNat q), .int (Int32.ofNat len)] 7)) (T'.setTop (mkF m 3 #[.val (.ref b), .val (.int (Int32.ofNat (o + len))), .val (.ref d), .val (.int (Int32.ofNat (q + len))), .val (.int (Int32.ofNat len)), .val (.int (Int32.ofNat len)), z'] [])) := by
    intro r
    induction r with
    | zero =>
      intro i hi z hz Tl Bk Xl pl fl cl
      have hil : i = len := by omega
      rw [hil] at Xl fl cl
      exact ⟨Tl, Bk, z, Xl, pl, fl, cl⟩
    | succ r ih =>
      intro i hi z hz Tl Bk Xl pl fl cl
      have all := X0.warmed.alike.symm.trans Xl.warmed.alike
      have hAl := hA0.keep all (pl.other hne hA0.1)
      have hBk := hB0.like all pl.1 fl.1 fl.2.1 fl.2.2.1
      have hlt : q + i < Bk.slots.size := by rw [fl.2.2.1]; omega
      have c3 : Steps p.tables e below (s₁.setTop (entryFrame m #[.ref b, .int (Int32.ofNat o), .ref d, .int (Int32.ofNat q), .int (Int32.ofNat len)] 7)) (Tl.setTop (mkF m 12 #[.val (.ref b), .val (.int (Int32.ofNat (o + i))), .val (.ref d), .val (.int (Int32.ofNat (q + i))), .val (.int (Int32.ofNat len)), .val (.int (Int32.ofNat i)), z] [.int (Int32.ofNat (o + i)), .ref b])) := cl.trans (by
        refine XS.iload Xl.here hexec rfl (hb hbytes d3) rfl ?_
        refine XS.iload Xl.here hexec rfl (hb hbytes d5) rfl ?_
        refine XS.icmpNo Xl.here hexec rfl (hb hbytes d7) rfl (ii_ge_f (lt32 (by omega) (by omega))) ?_
        refine XS.aloadN Xl.here hexec rfl (hb hbytes d10) rfl rfl ?_
        refine XS.iloadN Xl.here hexec rfl (hb hbytes d11) rfl ?_
        exact Steps.refl _)
      have c4 : Steps p.tables e below (s₁.setTop (entryFrame m #[.ref b, .int (Int32.ofNat o), .ref d, .int (Int32.ofNat q), .int (Int32.ofNat len)] 7)) (Tl.setTop (mkF m 13 #[.val (.ref b), .val (.int (Int32.ofNat (o + i))), .val (.ref d), .val (.int (Int32.ofNat (q + i))), .val (.int (Int32.ofNat len)), .val (.int (Int32.ofNat i)), z] [.int (cv A (o + i))])) := c3.trans (by
        refine Xl.aget hexec hAl rfl (hA.get (i := o + i) (by omega)) rfl rfl (hb hbytes d12) ?_
        exact Steps.refl _)
      have c5 : Steps p.tables e below (s₁.setTop (entryFrame m #[.ref b, .int (Int32.ofNat o), .ref d, .int (Int32.ofNat q), .int (Int32.ofNat len)] 7)) (Tl.setTop (mkF m 15 #[.val (.ref b), .val (.int (Int32.ofNat (o + i))), .val (.ref d), .val (.int (Int32.ofNat (q + i))), .val (.int (Int32.ofNat len)), .val (.int (Int32.ofNat i)), .val (.int (cv A (o + i)))] [])) := c4.trans (by
        refine XS.istoreS Xl.here hexec rfl (hb hbytes d13) rfl rfl hz ?_
        exact Steps.refl _)
      have c6 : Steps p.tables e below (s₁.setTop (entryFrame m #[.ref b, .int (Int32.ofNat o), .ref d, .int (Int32.ofNat q), .int (Int32.ofNat len)] 7)) (Tl.setTop (mkF m 31 #[.val (.ref b), .val (.int (Int32.ofNat (o + i))), .val (.ref d), .val (.int (Int32.ofNat (q + i))), .val (.int (Int32.ofNat len)), .val (.int (Int32.ofNat i)), .val (.int (cv A (o + i)))] [.int (lo8 (cv A (o + i))), .int (Int32.ofNat (q + i)), .ref d])) := c5.trans (by
        refine XS.iload Xl.here hexec rfl (hb hbytes d15) rfl ?_
        refine sipushV Xl.here hexec rfl 255 (hb hbytes d17) (by decide) ?_
        refine XS.icmpYes Xl.here hexec rfl (pc0 := 20) rfl (hb hbytes d20) rfl (ii_le_t (hp i (by omega))) (by decide) rfl ?_
        refine XS.aloadN Xl.here hexec rfl (hb hbytes d26) rfl rfl ?_
        refine XS.iloadN Xl.here hexec rfl (hb hbytes d27) rfl ?_
        refine XS.iload Xl.here hexec rfl (hb hbytes d28) rfl ?_
        refine i2b Xl.here hexec rfl (hb hbytes d30) rfl ?_
        exact Steps.refl _)
      obtain ⟨T7, X7, p7, st7⟩ := Xl.aput hexec hBk rfl hlt rfl (fits_lo8 (cv A (o + i))) (g := (mkF m 31 #[.val (.ref b), .val (.int (Int32.ofNat (o + i))), .val (.ref d), .val (.int (Int32.ofNat (q + i))), .val (.int (Int32.ofNat len)), .val (.int (Int32.ofNat i)), .val (.int (cv A (o + i)))] [.int (lo8 (cv A (o + i))), .int (Int32.ofNat (q + i)), .ref d])) rfl (rest := []) rfl (hb hbytes d31)
      have c8 : Steps p.tables e below (s₁.setTop (entryFrame m #[.ref b, .int (Int32.ofNat o), .ref d, .int (Int32.ofNat q), .int (Int32.ofNat len)] 7)) (T7.setTop (mkF m 32 #[.val (.ref b), .val (.int (Int32.ofNat (o + i))), .val (.ref d), .val (.int (Int32.ofNat (q + i))), .val (.int (Int32.ofNat len)), .val (.int (Int32.ofNat i)), .val (.int (cv A (o + i)))] [])) := c6.trans (st7 _ (Steps.refl _))
      have c9 : Steps p.tables e below (s₁.setTop (entryFrame m #[.ref b, .int (Int32.ofNat o), .ref d, .int (Int32.ofNat q), .int (Int32.ofNat len)] 7)) (T7.setTop (mkF m 3 #[.val (.ref b), .val (.int (Int32.ofNat (o + i) + 1)), .val (.ref d), .val (.int (Int32.ofNat (q + i) + 1)), .val (.int (Int32.ofNat len)), .val (.int (Int32.ofNat i + 1)), .val (.int (cv A (o + i)))] [])) := c8.trans (by
        refine iincV X7.here hexec rfl 1 (hb hbytes d32) (by decide) rfl rfl ?_
        refine iincV X7.here hexec rfl 1 (hb hbytes d35) (by decide) rfl rfl ?_
        refine iincV X7.here hexec rfl 1 (hb hbytes d38) (by decide) rfl rfl ?_
        refine XS.goto X7.here hexec rfl (pc0 := 41) rfl (hb hbytes d41) (by decide) rfl ?_
        exact Steps.refl _)
      have c10 : Steps p.tables e below (s₁.setTop (entryFrame m #[.ref b, .int (Int32.ofNat o), .ref d, .int (Int32.ofNat q), .int (Int32.ofNat len)] 7)) (T7.setTop (mkF m 3 #[.val (.ref b), .val (.int (Int32.ofNat (o + (i + 1)))), .val (.ref d), .val (.int (Int32.ofNat (q + (i + 1)))), .val (.int (Int32.ofNat len)), .val (.int (Int32.ofNat (i + 1))), .val (.int (cv A (o + i)))] [])) := by
        have := c9
        rw [succ32, succ32, succ32] at this
        exact this
      exact ih (i + 1) (by omega) _ (Or.inr ⟨_, rfl, rfl⟩) T7 _ (by rw [copyLocs_step, ← List.append_assoc]; exact X7) (pl.trans p7) (fl.step (by omega) hlt (by simp)) c10
  obtain ⟨T9, B9, z9, X9, p9, f9, g9⟩ := loop len 0 (by omega) .unset (Or.inl rfl) s₁ B (by simpa [copyLocs] using X0) ⟨hB0.1, fun _ _ => rfl, rfl⟩ (Laid.zero _ _ _) c2
  have c11 : Steps p.tables e below (s₁.setTop (entryFrame m #[.ref b, .int (Int32.ofNat o), .ref d, .int (Int32.ofNat q), .int (Int32.ofNat len)] 7)) (T9.setTop (mkF m 46 #[.val (.ref b), .val (.int (Int32.ofNat (o + len))), .val (.ref d), .val (.int (Int32.ofNat (q + len))), .val (.int (Int32.ofNat len)), .val (.int (Int32.ofNat len)), z9] [.int (Int32.ofNat len)])) := g9.trans (by
    refine XS.iload X9.here hexec rfl (hb hbytes d3) rfl ?_
    refine XS.iload X9.here hexec rfl (hb hbytes d5) rfl ?_
    refine XS.icmpYes X9.here hexec rfl (pc0 := 7) rfl (hb hbytes d7) rfl (ii_ge_t (nlt32 (by omega) (Nat.le_refl _))) (by decide) rfl ?_
    refine XS.iload X9.here hexec rfl (hb hbytes d44) rfl ?_
    exact Steps.refl _)
  exact ⟨T9, some (.int (Int32.ofNat len)), _, _, _, X9, by simp, rfl, rfl, (fun h => by cases h), ⟨rfl, B9, p9.from hh0, f9⟩, fun fs hl => c11.trans (X9.ireturnOut hexec hret rfl (Or.inl rfl) (hb hbytes d46) hl)⟩
end Cmp5
namespace Cmp3
def yN : MethodName := ⟨"java/lang/StringUTF16", "compress", "([CII)[B"⟩
abbrev yB : ByteArray := jdk_52_method_16_code
theorem d0 : decode yB 0 = .ok (.iload_n 2, 1) := by decide +kernel
theorem d1 : decode yB 1 = .ok (.newarray .byte, 2) := by decide +kernel
theorem d3 : decode yB 3 = .ok (.astore_n 3, 1) := by decide +kernel
theorem d4 : decode yB 4 = .ok (.aload_n 0, 1) := by decide +kernel
theorem d5 : decode yB 5 = .ok (.iload_n 1, 1) := by decide +kernel
theorem d6 : decode yB 6 = .ok (.aload_n 3, 1) := by decide +kernel
theorem d7 : decode yB 7 = .ok (.iconst 0, 1) := by decide +kernel
theorem d8 : decode yB 8 = .ok (.iload_n 2, 1) := by decide +kernel
theorem d9 : decode yB 9 = .ok (.invokestatic 115, 3) := by decide +kernel
theorem d12 : decode yB 12 = .ok (.istore 4, 2) := by decide +kernel
theorem d14 : decode yB 14 = .ok (.iload 4, 2) := by decide +kernel
theorem d16 : decode yB 16 = .ok (.iload_n 2, 1) := by decide +kernel
theorem d17 : decode yB 17 = .ok (.if_icmp (.eq) 40, 3) := by decide +kernel
theorem d57 : decode yB 57 = .ok (.aload_n 3, 1) := by decide +kernel
theorem d58 : decode yB 58 = .ok (.areturn, 1) := by decide +kernel
def site : List Cond := [.arrayClass .byte, Cmp5.tab] ++ staticW U16 115 Cmp5.yN
def tab : Cond := tabOf yN yB 6 (some (.array .byte)) site
def P (b : Addr) (A : Cell) (o len : Nat) (args : Array Value) (s : State) : Prop := args = #[.ref b, .int (Int32.ofNat o), .int (Int32.ofNat len)] ∧ Ch b A s ∧ o + len ≤ A.slots.size ∧ len ≤ 536870912 ∧ ∀ i, i < len → ¬ 255 < cv A (o + i)
def E (b : Addr) (A : Cell) (o len : Nat) (r : Option Value) (s u : State) : Prop := NewArr .byte "[B" len (fun j => .int (lo8 (cv A (o + j)))) r s u ∧ u.heap.size = s.heap.size + 1
/-- no char of the range above 255: a new byte[] of their low bytes -/
theorem law (l : Launch) (b : Addr) (A : Cell) (o len : Nat) : Law l yN 3 3 1 18 yB 6 (some (.array .byte)) site (P b A o len) (E b A o len) [] 1 len := by
  refine Law.of_walk (plainFor_of_name (by decide +kernel)) (by decide +kernel) (by decide +kernel) (by decide) (fun _ _ h => by rw [h.1]; rfl) (fun _ U U' hal hh h => ⟨h.1, h.2.1.mv hal hh, h.2.2⟩) (fun r U U' V V' h1 hal h2 h => ⟨NewArr.mv r U U' V V' h1 hal h2 h.1, by rw [h1, h2]; exact h.2⟩) ?_
  intro p e s m args below meth c s₁ X0 hexec hbytes hml hret hlk hnm hown hh0 W hP
  obtain ⟨rfl, hA, l1, l2, hp⟩ := hP
  have a31 := hA.1.2.2.2
  have c1 : Steps p.tables e below (s₁.setTop (entryFrame m #[.ref b, .int (Int32.ofNat o), .int (Int32.ofNat len)] 6)) (s₁.setTop (mkF m 0 #[.val (.ref b), .val (.int (Int32.ofNat o)), .val (.int (Int32.ofNat len)), .unset, .unset, .unset] [])) := entry rfl
  have c2 : Steps p.tables e below (s₁.setTop (entryFrame m #[.ref b, .int (Int32.ofNat o), .int (Int32.ofNat len)] 6)) (s₁.setTop (mkF m 1 #[.val (.ref b), .val (.int (Int32.ofNat o)), .val (.int (Int32.ofNat len)), .unset, .unset, .unset] [.int (Int32.ofNat len)])) := c1.trans (by
    refine XS.iloadN X0.here hexec rfl (hb hbytes d0) rfl ?_
    exact Steps.refl _)
  obtain ⟨T3, B3, X3, ba3, bs3, bv3, bh3, bf3, st3⟩ := X0.anew hexec (atype := .byte) (wk W (.arrayClass .byte)) rfl (by show len * 1 ≤ _; omega) (by omega) (g := (mkF m 1 #[.val (.ref b), .val (.int (Int32.ofNat o)), .val (.int (Int32.ofNat len)), .unset, .unset, .unset] [.int (Int32.ofNat len)])) rfl (hb hbytes d1) (rest := []) rfl (Nat.le_refl _) (by show 0 + len ≤ len; omega)
  rw [hh0] at ba3 st3
  have kp3 : XT.Kept s T3 := (XT.Kept.of_eq hh0).push bh3
  have hA3 := hA.keep X3.warmed.alike (kp3 _ _ hA.1.1)
  have hne : b ≠ s.heap.size := hA.1.ne
  have c4 : Steps p.tables e below (s₁.setTop (entryFrame m #[.ref b, .int (Int32.ofNat o), .int (Int32.ofNat len)] 6)) (T3.setTop (mkF m 3 #[.val (.ref b), .val (.int (Int32.ofNat o)), .val (.int (Int32.ofNat len)), .unset, .unset, .unset] [.ref s.heap.size])) := c2.trans (st3 _ (Steps.refl _))
  have c5 : Steps p.tables e below (s₁.setTop (entryFrame m #[.ref b, .int (Int32.ofNat o), .int (Int32.ofNat len)] 6)) (T3.setTop (mkF m 9 #[.val (.ref b), .val (.int (Int32.ofNat o)), .val (.int (Int32.ofNat len)), .val (.ref s.heap.size), .unset, .unset] [.int (Int32.ofNat len), .int 0, .ref s.heap.size, .int (Int32.ofNat o), .ref b])) := c4.trans (by
    refine XS.astoreN X3.here hexec rfl (hb hbytes d3) rfl rfl rfl ?_
    refine XS.aloadN X3.here hexec rfl (hb hbytes d4) rfl rfl ?_
    refine XS.iloadN X3.here hexec rfl (hb hbytes d5) rfl ?_
    refine XS.aloadN X3.here hexec rfl (hb hbytes d6) rfl rfl ?_
    refine iconstV X3.here hexec rfl 0 (hb hbytes d7) (by decide) ?_
    refine XS.iloadN X3.here hexec rfl (hb hbytes d8) rfl ?_
    exact Steps.refl _)
  obtain ⟨v6, T6, X6, E6, g6⟩ := X3.callS hexec (Cmp5.law l b A s.heap.size B3 o 0 len) hown (wks W (staticW U16 115 Cmp5.yN)) (wk W Cmp5.tab) (W := 0) (Nat.le_of_ble_eq_true rfl) (Nat.le_of_ble_eq_true rfl) (Nat.le_refl _) (by show 0 + len + 0 ≤ len; omega) (g := (mkF m 9 #[.val (.ref b), .val (.int (Int32.ofNat o)), .val (.int (Int32.ofNat len)), .val (.ref s.heap.size), .unset, .unset] [.int (Int32.ofNat len), .int (Int32.ofNat 0), .ref s.heap.size, .int (Int32.ofNat o), .ref b])) rfl (by rw [hml]; rfl) c5 (argsL := [.ref b, .int (Int32.ofNat o), .ref s.heap.size, .int (Int32.ofNat 0), .int (Int32.ofNat len)]) (rest := []) rfl rfl (by show 2 * 0 + 0 ≤ _; decide) (hb hbytes d9) (⟨rfl, hA3, ba3, hne, l1, by rw [bs3]; simp, hp⟩)
  obtain ⟨rfl, B6, p6, f6⟩ := E6
  have c7 : Steps p.tables e below (s₁.setTop (entryFrame m #[.ref b, .int (Int32.ofNat o), .int (Int32.ofNat len)] 6)) (T6.setTop (mkF m 12 #[.val (.ref b), .val (.int (Int32.ofNat o)), .val (.int (Int32.ofNat len)), .val (.ref s.heap.size), .unset, .unset] [.int (Int32.ofNat len)])) := g6
  have c8 : Steps p.tables e below (s₁.setTop (entryFrame m #[.ref b, .int (Int32.ofNat o), .int (Int32.ofNat len)] 6)) (T6.setTop (mkF m 58 #[.val (.ref b), .val (.int (Int32.ofNat o)), .val (.int (Int32.ofNat len)), .val (.ref s.heap.size), .val (.int (Int32.ofNat len)), .unset] [.ref s.heap.size])) := c7.trans (by
    refine XS.istore X6.here hexec rfl (hb hbytes d12) rfl rfl ?_
    refine XS.iload X6.here hexec rfl (hb hbytes d14) rfl ?_
    refine XS.iloadN X6.here hexec rfl (hb hbytes d16) rfl ?_
    refine XS.icmpYes X6.here hexec rfl (pc0 := 17) rfl (hb hbytes d17) rfl (ii_eq_t rfl) (by decide) rfl ?_
    refine XS.aloadN X6.here hexec rfl (hb hbytes d57) rfl rfl ?_
    exact Steps.refl _)
  have X8 := X6.wide (L' := []) (cells' := 1) (slots' := len) (fun x hx hlt => by
    simp only [List.nil_append, copyLocs, List.mem_map, List.mem_range] at hx
    obtain ⟨i, -, rfl⟩ := hx
    exact absurd hlt (Nat.lt_irrefl _)) (Nat.le_refl _) (by omega)
  exact ⟨T6, some (.ref s.heap.size), _, _, _, X8, rfl, rfl, rfl, (fun h => by cases h), ⟨⟨rfl, B6, ba3.like (X3.warmed.alike.symm.trans X6.warmed.alike) p6.1 f6.1 f6.2.1 f6.2.2.1, f6.2.1.trans bv3, by rw [X6.warmed.alike.findClass, f6.1]; exact bf3, by rw [f6.2.2.1, bs3]; simp, fun j hj => by rw [f6.2.2.2 j, if_pos (by omega)]; rfl, kp3.put p6 (Nat.le_refl _)⟩, by rw [p6.2.2, bh3, hh0]; simp⟩, fun fs hl => c8.trans (X8.areturnOut hexec rfl hret rfl (hb hbytes d58) hl)⟩
end Cmp3
namespace CodL
def yN : MethodName := ⟨"java/lang/StringUTF16", "coderFromArrayLen", "([BI)B"⟩
abbrev yB : ByteArray := jdk_52_method_15_code
theorem d0 : decode yB 0 = .ok (.iload_n 1, 1) := by decide +kernel
theorem d1 : decode yB 1 = .ok (.aload_n 0, 1) := by decide +kernel
theorem d2 : decode yB 2 = .ok (.arraylength, 1) := by decide +kernel
theorem d3 : decode yB 3 = .ok (.isub, 1) := by decide +kernel
theorem d4 : decode yB 4 = .ok (.bipush 31, 2) := by decide +kernel
theorem d6 : decode yB 6 = .ok (.iushr, 1) := by decide +kernel
theorem d7 : decode yB 7 = .ok (.i2b, 1) := by decide +kernel
theorem d8 : decode yB 8 = .ok (.ireturn, 1) := by decide +kernel
def site : List Cond := []
def tab : Cond := tabOf yN yB 2 (some .byte) site
def P (d : Addr) (B : Cell) (args : Array Value) (s : State) : Prop := args = #[.ref d, .int (Int32.ofNat B.slots.size)] ∧ Arr .byte d B s
def E (r : Option Value) (s u : State) : Prop := XT.PureE (some (.int 0)) r s u
/-- an array as long as the number of chars: LATIN1 -/
theorem law (l : Launch) (d : Addr) (B : Cell) : Law l yN 2 2 0 0 yB 2 (some .byte) site (P d B) E [] 0 0 := by
  refine Law.of_walk (plainFor_of_name (by decide +kernel)) (by decide +kernel) (by decide +kernel) (by decide) (fun _ _ h => by rw [h.1]; rfl) (fun _ U U' hal hh h => ⟨h.1, h.2.mv hal hh⟩) (fun r U U' V V' h1 hal h2 h => XT.PureE.mv r U U' V V' h1 hal h2 h) ?_
  intro p e s m args below meth c s₁ X0 hexec hbytes hml hret hlk hnm hown hh0 W hP
  obtain ⟨rfl, hB⟩ := hP
  have hB0 := hB.mv X0.warmed.alike hh0
  have c1 : Steps p.tables e below (s₁.setTop (entryFrame m #[.ref d, .int (Int32.ofNat B.slots.size)] 2)) (s₁.setTop (mkF m 0 #[.val (.ref d), .val (.int (Int32.ofNat B.slots.size))] [])) := entry rfl
  have c2 : Steps p.tables e below (s₁.setTop (entryFrame m #[.ref d, .int (Int32.ofNat B.slots.size)] 2)) (s₁.setTop (mkF m 2 #[.val (.ref d), .val (.int (Int32.ofNat B.slots.size))] [.ref d, .int (Int32.ofNat B.slots.size)])) := c1.trans (by
    refine XS.iloadN X0.here hexec rfl (hb hbytes d0) rfl ?_
    refine XS.aloadN X0.here hexec rfl (hb hbytes d1) rfl rfl ?_
    exact Steps.refl _)
  have c3 : Steps p.tables e below (s₁.setTop (entryFrame m #[.ref d, .int (Int32.ofNat B.slots.size)] 2)) (s₁.setTop (mkF m 8 #[.val (.ref d), .val (.int (Int32.ofNat B.slots.size))] [.int (lo8 (ushr (Int32.ofNat B.slots.size - Int32.ofNat B.slots.size) 31))])) := c2.trans (by
    refine X0.alen hexec hB0 rfl rfl (hb hbytes d2) ?_
    refine XS.isub X0.here hexec rfl (hb hbytes d3) rfl ?_
    refine bipushV X0.here hexec rfl 31 (hb hbytes d4) (by decide) ?_
    refine iushr X0.here hexec rfl (hb hbytes d6) rfl ?_
    refine i2b X0.here hexec rfl (hb hbytes d7) rfl ?_
    exact Steps.refl _)
  have e0 : lo8 (ushr (Int32.ofNat B.slots.size - Int32.ofNat B.slots.size) 31) = 0 := by rw [Int32.sub_self]; decide
  rw [e0] at c3
  exact ⟨s₁, some (.int 0), _, _, _, X0, rfl, rfl, rfl, (fun h => by cases h), ⟨rfl, hh0⟩, fun fs hl => c3.trans (X0.ireturnOut hexec hret rfl (Or.inr (Or.inr (Or.inl rfl))) (hb hbytes d8) hl)⟩
end CodL
/-- the String at a is Latin-1 over a new byte[] (the heap's one new cell): the low bytes of the len chars of A from o on; every cell but a is kept -/
def Got (a : Addr) (D : Cell) (fV fC : Field) (A : Cell) (o len : Nat) (r : Option Value) (s u : State) : Prop := r = none ∧ ∃ D' V : Cell, Blank "java/lang/String" a D' u ∧ Same D D' [fV.slot, fC.slot] ∧ D'.slots[fV.slot]? = some (.ref s.heap.size) ∧ D'.slots[fC.slot]? = some (.int 0) ∧ Arr .byte s.heap.size V u ∧ V.vm = .none ∧ u.vm.findClass "[B" = some V.cls ∧ V.slots.size = len ∧ (∀ j, j < len → V.slots[j]? = some (.int (lo8 (cv A (o + j))))) ∧ (∀ (y : Addr) (c : Cell), y ≠ a → s.heap[y]? = some c → u.heap[y]? = some c) ∧ u.heap.size = s.heap.size + 1
theorem Got.mv {a : Addr} {D A : Cell} {fV fC : Field} {o len : Nat} : ∀ r (U U' V V' : State), U'.heap = U.heap → V.vm.Alike V'.vm → V'.heap = V.heap → Got a D fV fC A o len r U V → Got a D fV fC A o len r U' V' :=
  fun r U U' V V' h1 hal h2 ⟨e0, D', X, a1, a2, a3, a4, a5, a6, a7, a8, a9, a10, a11⟩ => ⟨e0, D', X, a1.mv hal h2, a2, by rw [h1]; exact a3, a4, by rw [h1]; exact a5.mv hal h2, a6, by rw [hal.findClass]; exact a7, a8, a9, by rw [h1, h2]; exact a10, by rw [h1, h2]; exact a11⟩
namespace New4
def yN : MethodName := ⟨"java/lang/String", "<init>", "([CIILjava/lang/Void;)V"⟩
abbrev yB : ByteArray := jdk_42_method_149_code
theorem d0 : decode yB 0 = .ok (.aload_n 0, 1) := by decide +kernel
theorem d1 : decode yB 1 = .ok (.invokespecial 1, 3) := by decide +kernel
theorem d4 : decode yB 4 = .ok (.iload_n 3, 1) := by decide +kernel
theorem d5 : decode yB 5 = .ok (.ifCond (.ne) 22, 3) := by decide +kernel
theorem d27 : decode yB 27 = .ok (.getstatic 38, 3) := by decide +kernel
theorem d30 : decode yB 30 = .ok (.ifCond (.eq) 28, 3) := by decide +kernel
theorem d33 : decode yB 33 = .ok (.aload_n 1, 1) := by decide +kernel
theorem d34 : decode yB 34 = .ok (.iload_n 2, 1) := by decide +kernel
theorem d35 : decode yB 35 = .ok (.iload_n 3, 1) := by decide +kernel
theorem d36 : decode yB 36 = .ok (.invokestatic 177, 3) := by decide +kernel
theorem d39 : decode yB 39 = .ok (.astore 5, 2) := by decide +kernel
theorem d41 : decode yB 41 = .ok (.aload_n 0, 1) := by decide +kernel
theorem d42 : decode yB 42 = .ok (.aload 5, 2) := by decide +kernel
theorem d44 : decode yB 44 = .ok (.iload_n 3, 1) := by decide +kernel
theorem d45 : decode yB 45 = .ok (.invokestatic 47, 3) := by decide +kernel
theorem d48 : decode yB 48 = .ok (.putfield 15, 3) := by decide +kernel
theorem d51 : decode yB 51 = .ok (.aload_n 0, 1) := by decide +kernel
theorem d52 : decode yB 52 = .ok (.aload 5, 2) := by decide +kernel
theorem d54 : decode yB 54 = .ok (.putfield 9, 3) := by decide +kernel
theorem d57 : decode yB 57 = .ok (.return_, 1) := by decide +kernel
def site : List Cond := [.fieldLink "java/lang/String" 38 "java/lang/String" "COMPACT_STRINGS" "Z", Cmp3.tab, CodL.tab, .laysFinal "java/lang/String" "java/lang/String" "value" "[B", .fieldLink "java/lang/String" 9 "java/lang/String" "value" "[B", .laysFinal "java/lang/String" "java/lang/String" "coder" "B", .fieldLink "java/lang/String" 15 "java/lang/String" "coder" "B"] ++ objW "java/lang/String" 1 ++ staticW "java/lang/String" 177 Cmp3.yN ++ staticW "java/lang/String" 47 CodL.yN
def tab : Cond := tabOf yN yB 6 none site
def P (a : Addr) (D : Cell) (fV fC : Field) (b : Addr) (A : Cell) (z : Int32) (o len : Nat) (args : Array Value) (s : State) : Prop := args = #[.ref a, .ref b, .int (Int32.ofNat o), .int (Int32.ofNat len), .null] ∧ Blank "java/lang/String" a D s ∧ Found "java/lang/String" "value" "[B" fV s ∧ Found "java/lang/String" "coder" "B" fC s ∧ Ch b A s ∧ StaticIs s "java/lang/String" "COMPACT_STRINGS" "Z" (.int z) ∧ ¬ z = 0 ∧ 0 < len ∧ o + len ≤ A.slots.size ∧ len ≤ 536870912 ∧ ∀ i, i < len → ¬ 255 < cv A (o + i)
def E (a : Addr) (D : Cell) (fV fC : Field) (A : Cell) (o len : Nat) (r : Option Value) (s u : State) : Prop := Got a D fV fC A o len r s u
/-- len > 0, no char of the range above 255: a Latin-1 String of their low bytes -/
theorem law (l : Launch) (a : Addr) (D : Cell) (fV fC : Field) (b : Addr) (A : Cell) (z : Int32) (o len : Nat) : Law l yN 5 4 2 35 yB 6 none site (P a D fV fC b A z o len) (E a D fV fC A o len) [⟨a, fC.slot⟩, ⟨a, fV.slot⟩] 1 len := by
  refine Law.of_walk (plainFor_of_name (by decide +kernel)) (by decide +kernel) (by decide +kernel) (by decide) (fun _ _ h => by rw [h.1]; rfl) (fun _ U U' hal hh h => ⟨h.1, h.2.1.mv hal hh, h.2.2.1.al hal, h.2.2.2.1.al hal, h.2.2.2.2.1.mv hal hh, h.2.2.2.2.2.1.there hal hh, h.2.2.2.2.2.2⟩) (fun r U U' V V' h1 hal h2 h => Got.mv r U U' V V' h1 hal h2 h) ?_
  intro p e s m args below meth c s₁ X0 hexec hbytes hml hret hlk hnm hown hh0 W hP
  obtain ⟨rfl, hB, f1, f2, hA, s1, hz, l0, l1, l2, hp⟩ := hP
  have a31 := hA.1.2.2.2
  have c1 : Steps p.tables e below (s₁.setTop (entryFrame m #[.ref a, .ref b, .int (Int32.ofNat o), .int (Int32.ofNat len), .null] 6)) (s₁.setTop (mkF m 0 #[.val (.ref a), .val (.ref b), .val (.int (Int32.ofNat o)), .val (.int (Int32.ofNat len)), .val .null, .unset] [])) := entry rfl
  have c2 : Steps p.tables e below (s₁.setTop (entryFrame m #[.ref a, .ref b, .int (Int32.ofNat o), .int (Int32.ofNat len), .null] 6)) (s₁.setTop (mkF m 1 #[.val (.ref a), .val (.ref b), .val (.int (Int32.ofNat o)), .val (.int (Int32.ofNat len)), .val .null, .unset] [.ref a])) := c1.trans (by
    refine XS.aloadN X0.here hexec rfl (hb hbytes d0) rfl rfl ?_
    exact Steps.refl _)
  obtain ⟨T3, X3, q3, st3⟩ := X0.oinit hexec hown (wks W (objW "java/lang/String" 1)) (g := (mkF m 1 #[.val (.ref a), .val (.ref b), .val (.int (Int32.ofNat o)), .val (.int (Int32.ofNat len)), .val .null, .unset] [.ref a])) rfl (by rw [hml]; rfl) (rest := []) rfl (hb hbytes d1) (W := 0) (by show 2 * 0 + 0 ≤ _; decide) (Nat.le_of_ble_eq_true rfl) (Nat.le_of_ble_eq_true rfl)
  have hh3 := q3.trans hh0
  have c4 : Steps p.tables e below (s₁.setTop (entryFrame m #[.ref a, .ref b, .int (Int32.ofNat o), .int (Int32.ofNat len), .null] 6)) (T3.setTop (mkF m 27 #[.val (.ref a), .val (.ref b), .val (.int (Int32.ofNat o)), .val (.int (Int32.ofNat len)), .val .null, .unset] [])) := (c2.trans (st3 _ (Steps.refl _))).trans (by
    refine XS.iloadN X3.here hexec rfl (hb hbytes d4) rfl ?_
    refine XS.ifYes X3.here hexec rfl (pc0 := 5) rfl (hb hbytes d5) rfl (i0_ne_t (nz32 (by omega) l0)) (by decide) rfl ?_
    exact Steps.refl _)
  obtain ⟨T5, X5, q5, st5⟩ := X3.sget hexec hown (wk W (.fieldLink "java/lang/String" 38 "java/lang/String" "COMPACT_STRINGS" "Z")) s1 (fun _ _ h => by rw [hh3]; exact h) (g := (mkF m 27 #[.val (.ref a), .val (.ref b), .val (.int (Int32.ofNat o)), .val (.int (Int32.ofNat len)), .val .null, .unset] [])) rfl (hb hbytes d27)
  have hh5 := q5.trans hh3
  have c6 : Steps p.tables e below (s₁.setTop (entryFrame m #[.ref a, .ref b, .int (Int32.ofNat o), .int (Int32.ofNat len), .null] 6)) (T5.setTop (mkF m 30 #[.val (.ref a), .val (.ref b), .val (.int (Int32.ofNat o)), .val (.int (Int32.ofNat len)), .val .null, .unset] [.int z])) := c4.trans (st5 _ (Steps.refl _))
  have c7 : Steps p.tables e below (s₁.setTop (entryFrame m #[.ref a, .ref b, .int (Int32.ofNat o), .int (Int32.ofNat len), .null] 6)) (T5.setTop (mkF m 36 #[.val (.ref a), .val (.ref b), .val (.int (Int32.ofNat o)), .val (.int (Int32.ofNat len)), .val .null, .unset] [.int (Int32.ofNat len), .int (Int32.ofNat o), .ref b])) := c6.trans (by
    refine XS.ifNo X5.here hexec rfl (hb hbytes d30) rfl (i0_eq_f hz) ?_
    refine XS.aloadN X5.here hexec rfl (hb hbytes d33) rfl rfl ?_
    refine XS.iloadN X5.here hexec rfl (hb hbytes d34) rfl ?_
    refine XS.iloadN X5.here hexec rfl (hb hbytes d35) rfl ?_
    exact Steps.refl _)
  obtain ⟨v8, T8, X8, E8, g8⟩ := X5.callS hexec (Cmp3.law l b A o len) hown (wks W (staticW "java/lang/String" 177 Cmp3.yN)) (wk W Cmp3.tab) (W := 0) (Nat.le_of_ble_eq_true rfl) (Nat.le_of_ble_eq_true rfl) (Nat.le_refl _) (by show 0 + len ≤ len; omega) (g := (mkF m 36 #[.val (.ref a), .val (.ref b), .val (.int (Int32.ofNat o)), .val (.int (Int32.ofNat len)), .val .null, .unset] [.int (Int32.ofNat len), .int (Int32.ofNat o), .ref b])) rfl (by rw [hml]; rfl) c7 (argsL := [.ref b, .int (Int32.ofNat o), .int (Int32.ofNat len)]) (rest := []) rfl rfl (by show 2 * 0 + 0 ≤ _; decide) (hb hbytes d36) (⟨rfl, hA.mv X5.warmed.alike hh5, l1, l2, hp⟩)
  obtain ⟨e8, z8⟩ := E8
  obtain ⟨rfl, N, n1, n2, n3, n4, n5, n6⟩ := NewArr.mv _ T5 s _ _ hh5.symm (Vm.Alike.refl _) rfl e8
  rw [hh5] at z8
  have hB1 := hB.keep X8.warmed.alike (n6 _ _ hB.1)
  have hne : s.heap.size ≠ a := (Nat.ne_of_lt (Array.getElem?_eq_some_iff.mp hB.1).1).symm
  have c9 : Steps p.tables e below (s₁.setTop (entryFrame m #[.ref a, .ref b, .int (Int32.ofNat o), .int (Int32.ofNat len), .null] 6)) (T8.setTop (mkF m 39 #[.val (.ref a), .val (.ref b), .val (.int (Int32.ofNat o)), .val (.int (Int32.ofNat len)), .val .null, .unset] [.ref s.heap.size])) := g8
  have c10 : Steps p.tables e below (s₁.setTop (entryFrame m #[.ref a, .ref b, .int (Int32.ofNat o), .int (Int32.ofNat len), .null] 6)) (T8.setTop (mkF m 45 #[.val (.ref a), .val (.ref b), .val (.int (Int32.ofNat o)), .val (.int (Int32.ofNat len)), .val .null, .val (.ref s.heap.size)] [.int (Int32.ofNat N.slots.size), .ref s.heap.size, .ref a])) := by
    have hc : Steps p.tables e below (s₁.setTop (entryFrame m #[.ref a, .ref b, .int (Int32.ofNat o), .int (Int32.ofNat len), .null] 6)) (T8.setTop (mkF m 45 #[.val (.ref a), .val (.ref b), .val (.int (Int32.ofNat o)), .val (.int (Int32.ofNat len)), .val .null, .val (.ref s.heap.size)] [.int (Int32.ofNat len), .ref s.heap.size, .ref a])) := c9.trans (by
      refine XS.astore X8.here hexec rfl (hb hbytes d39) rfl rfl rfl ?_
      refine XS.aloadN X8.here hexec rfl (hb hbytes d41) rfl rfl ?_
      refine XS.aload X8.here hexec rfl (hb hbytes d42) rfl rfl ?_
      refine XS.iloadN X8.here hexec rfl (hb hbytes d44) rfl ?_
      exact Steps.refl _)
    rw [n4]; exact hc
  obtain ⟨v11, T11, X11, E11, g11⟩ := X8.callS hexec (CodL.law l s.heap.size N) hown (wks W (staticW "java/lang/String" 47 CodL.yN)) (wk W CodL.tab) (W := 1) (Nat.le_of_ble_eq_true rfl) (Nat.le_of_ble_eq_true rfl) (Nat.le_refl _) (by show 0 + len + 0 ≤ len; omega) (g := (mkF m 45 #[.val (.ref a), .val (.ref b), .val (.int (Int32.ofNat o)), .val (.int (Int32.ofNat len)), .val .null, .val (.ref s.heap.size)] [.int (Int32.ofNat N.slots.size), .ref s.heap.size, .ref a])) rfl (by rw [hml]; rfl) c10 (argsL := [.ref s.heap.size, .int (Int32.ofNat N.slots.size)]) (rest := [.ref a]) rfl rfl (by show 2 * 0 + (1 + 0) ≤ _; decide) (hb hbytes d45) (⟨rfl, n1⟩)
  obtain ⟨rfl, q11⟩ := E11
  have hB11 := hB1.mv (X8.warmed.alike.symm.trans X11.warmed.alike) q11
  have c12 : Steps p.tables e below (s₁.setTop (entryFrame m #[.ref a, .ref b, .int (Int32.ofNat o), .int (Int32.ofNat len), .null] 6)) (T11.setTop (mkF m 48 #[.val (.ref a), .val (.ref b), .val (.int (Int32.ofNat o)), .val (.int (Int32.ofNat len)), .val .null, .val (.ref s.heap.size)] [.int 0, .ref a])) := g11
  obtain ⟨T13, X13, p13, bl13, sl13, st13⟩ := X11.finit hexec hown (wk W (.fieldLink "java/lang/String" 15 "java/lang/String" "coder" "B")) (Or.inr ⟨_, (wk W (.laysFinal "java/lang/String" "java/lang/String" "coder" "B"))⟩) (Or.inl ⟨rfl, hnm⟩) f2 (Or.inl rfl) hB11 (t := .byte) (by decide +kernel) rfl (g := (mkF m 48 #[.val (.ref a), .val (.ref b), .val (.int (Int32.ofNat o)), .val (.int (Int32.ofNat len)), .val .null, .val (.ref s.heap.size)] [.int 0, .ref a])) rfl (rest := []) rfl (hb hbytes d48)
  have c14 : Steps p.tables e below (s₁.setTop (entryFrame m #[.ref a, .ref b, .int (Int32.ofNat o), .int (Int32.ofNat len), .null] 6)) (T13.setTop (mkF m 54 #[.val (.ref a), .val (.ref b), .val (.int (Int32.ofNat o)), .val (.int (Int32.ofNat len)), .val .null, .val (.ref s.heap.size)] [.ref s.heap.size, .ref a])) := (c12.trans (st13 _ (Steps.refl _))).trans (by
    refine XS.aloadN X13.here hexec rfl (hb hbytes d51) rfl rfl ?_
    refine XS.aload X13.here hexec rfl (hb hbytes d52) rfl rfl ?_
    exact Steps.refl _)
  obtain ⟨T15, X15, p15, bl15, sl15, st15⟩ := X13.finit hexec hown (wk W (.fieldLink "java/lang/String" 9 "java/lang/String" "value" "[B")) (Or.inr ⟨_, (wk W (.laysFinal "java/lang/String" "java/lang/String" "value" "[B"))⟩) (Or.inl ⟨rfl, hnm⟩) f1 (Or.inl rfl) bl13 (t := (.array .byte)) (by decide +kernel) rfl (g := (mkF m 54 #[.val (.ref a), .val (.ref b), .val (.int (Int32.ofNat o)), .val (.int (Int32.ofNat len)), .val .null, .val (.ref s.heap.size)] [.ref s.heap.size, .ref a])) rfl (rest := []) rfl (hb hbytes d54)
  have c16 : Steps p.tables e below (s₁.setTop (entryFrame m #[.ref a, .ref b, .int (Int32.ofNat o), .int (Int32.ofNat len), .null] 6)) (T15.setTop (mkF m 57 #[.val (.ref a), .val (.ref b), .val (.int (Int32.ofNat o)), .val (.int (Int32.ofNat len)), .val .null, .val (.ref s.heap.size)] [])) := c14.trans (st15 _ (Steps.refl _))
  have ap := apart (Or.inr ⟨_, (wk W (.laysFinal "java/lang/String" "java/lang/String" "value" "[B"))⟩) (Or.inr ⟨_, (wk W (.laysFinal "java/lang/String" "java/lang/String" "coder" "B"))⟩) f1 f2 (t₁ := .array .byte) (t₂ := .byte) (by decide +kernel) (by decide +kernel) (by decide)
  have al := X8.warmed.alike.symm.trans X15.warmed.alike
  have n7 : T11.heap[s.heap.size]? = some N := by rw [q11]; exact n1.1
  exact ⟨T15, none, _, _, _, X15, by simp, rfl, by omega, (fun _ => rfl), ⟨rfl, _, N, bl15, ((Same.refl D _).set _ (by simp)).set _ (by simp), sl15, (Cell.slots_setSlot_ne _ ap).trans sl13, n1.keep al (p15.other hne (p13.other hne n7)), n2, by rw [al.findClass]; exact n3, n4, n5, fun y c h1 h2 => p15.other h1 (p13.other h1 (by rw [q11]; exact n6 y c h2)), by rw [p15.2.2, p13.2.2, q11]; exact z8⟩, fun fs hl => c16.trans (X15.returnOut hexec hret (hb hbytes d57) hl)⟩
end New4
namespace New1
def yN : MethodName := ⟨"java/lang/String", "<init>", "([C)V"⟩
abbrev yB : ByteArray := jdk_42_method_3_code
theorem d0 : decode yB 0 = .ok (.aload_n 0, 1) := by decide +kernel
theorem d1 : decode yB 1 = .ok (.aload_n 1, 1) := by decide +kernel
theorem d2 : decode yB 2 = .ok (.iconst 0, 1) := by decide +kernel
theorem d3 : decode yB 3 = .ok (.aload_n 1, 1) := by decide +kernel
theorem d4 : decode yB 4 = .ok (.arraylength, 1) := by decide +kernel
theorem d5 : decode yB 5 = .ok (.aconst_null, 1) := by decide +kernel
theorem d6 : decode yB 6 = .ok (.invokespecial 27, 3) := by decide +kernel
theorem d9 : decode yB 9 = .ok (.return_, 1) := by decide +kernel
def site : List Cond := [New4.tab] ++ initW "java/lang/String" 27 New4.yN
def tab : Cond := tabOf yN yB 2 none site
def P (a : Addr) (D : Cell) (fV fC : Field) (b : Addr) (A : Cell) (z : Int32) (args : Array Value) (s : State) : Prop := args = #[.ref a, .ref b] ∧ Blank "java/lang/String" a D s ∧ Found "java/lang/String" "value" "[B" fV s ∧ Found "java/lang/String" "coder" "B" fC s ∧ Ch b A s ∧ StaticIs s "java/lang/String" "COMPACT_STRINGS" "Z" (.int z) ∧ ¬ z = 0 ∧ 0 < A.slots.size ∧ A.slots.size ≤ 536870912 ∧ ∀ i, i < A.slots.size → ¬ 255 < cv A i
def E (a : Addr) (D : Cell) (fV fC : Field) (A : Cell) (r : Option Value) (s u : State) : Prop := Got a D fV fC A 0 A.slots.size r s u
/-- new String(chars), not empty, no char above 255: a Latin-1 String of their low bytes -/
theorem law (l : Launch) (a : Addr) (D : Cell) (fV fC : Field) (b : Addr) (A : Cell) (z : Int32) : Law l yN 2 1 3 52 yB 2 none site (P a D fV fC b A z) (E a D fV fC A) [⟨a, fC.slot⟩, ⟨a, fV.slot⟩] 1 A.slots.size := by
  refine Law.of_walk (plainFor_of_name (by decide +kernel)) (by decide +kernel) (by decide +kernel) (by decide) (fun _ _ h => by rw [h.1]; rfl) (fun _ U U' hal hh h => ⟨h.1, h.2.1.mv hal hh, h.2.2.1.al hal, h.2.2.2.1.al hal, h.2.2.2.2.1.mv hal hh, h.2.2.2.2.2.1.there hal hh, h.2.2.2.2.2.2⟩) (fun r U U' V V' h1 hal h2 h => Got.mv r U U' V V' h1 hal h2 h) ?_
  intro p e s m args below meth c s₁ X0 hexec hbytes hml hret hlk hnm hown hh0 W hP
  obtain ⟨rfl, hB, f1, f2, hA, s1, hz, l0, l2, hp⟩ := hP
  have c1 : Steps p.tables e below (s₁.setTop (entryFrame m #[.ref a, .ref b] 2)) (s₁.setTop (mkF m 0 #[.val (.ref a), .val (.ref b)] [])) := entry rfl
  have c2 : Steps p.tables e below (s₁.setTop (entryFrame m #[.ref a, .ref b] 2)) (s₁.setTop (mkF m 6 #[.val (.ref a), .val (.ref b)] [.null, .int (Int32.ofNat A.slots.size), .int 0, .ref b, .ref a])) := c1.trans (by
    refine XS.aloadN X0.here hexec rfl (hb hbytes d0) rfl rfl ?_
    refine XS.aloadN X0.here hexec rfl (hb hbytes d1) rfl rfl ?_
    refine iconstV X0.here hexec rfl 0 (hb hbytes d2) (by decide) ?_
    refine XS.aloadN X0.here hexec rfl (hb hbytes d3) rfl rfl ?_
    refine X0.alen hexec (hA.1.mv X0.warmed.alike hh0) rfl rfl (hb hbytes d4) ?_
    refine XS.aconstNull X0.here hexec rfl (hb hbytes d5) ?_
    exact Steps.refl _)
  obtain ⟨v3, T3, X3, E3, g3⟩ := X0.callN hexec (New4.law l a D fV fC b A z 0 A.slots.size) rfl hown (wks W (initW "java/lang/String" 27 New4.yN)) (W New4.tab (by simp only [site, List.mem_cons, List.mem_append, true_or, or_true])) (W := 0) (Nat.le_of_ble_eq_true rfl) (Nat.le_of_ble_eq_true rfl) (Nat.le_refl _) (by show 0 + A.slots.size ≤ A.slots.size; omega) (g := (mkF m 6 #[.val (.ref a), .val (.ref b)] [.null, .int (Int32.ofNat A.slots.size), .int (Int32.ofNat 0), .ref b, .ref a])) rfl (by rw [hml]; rfl) c2 (argsL := [.ref b, .int (Int32.ofNat 0), .int (Int32.ofNat A.slots.size), .null]) (rest := []) rfl rfl (by show 2 * 0 + 0 ≤ _; decide) (hb hbytes d6) (⟨rfl, hB.mv X0.warmed.alike hh0, f1.al X0.warmed.alike, f2.al X0.warmed.alike, hA.mv X0.warmed.alike hh0, s1.there X0.warmed.alike hh0, hz, l0, by omega, l2, fun i hi => by rw [Nat.zero_add]; exact hp i hi⟩)
  have e0 := Got.mv _ s₁ s _ _ hh0.symm (Vm.Alike.refl _) rfl E3
  obtain rfl := e0.1
  have c4 : Steps p.tables e below (s₁.setTop (entryFrame m #[.ref a, .ref b] 2)) (T3.setTop (mkF m 9 #[.val (.ref a), .val (.ref b)] [])) := g3
  exact ⟨T3, none, _, _, _, X3, by simp, rfl, by omega, (fun _ => rfl), e0, fun fs hl => c4.trans (X3.returnOut hexec hret (hb hbytes d9) hl)⟩
theorem pays {l : Launch} {R : Room} {p : Program} {e : Env} {below : List Frame} {s : State} {sargs : Array Value} {len W : Nat} (a : Addr) (D : Cell) (fV fC : Field) (b : Addr) (A : Cell) (z : Int32) (htab : tab.before sargs s = true) (hfr : 4 ≤ R.frames) (hlo : W + 65 ≤ R.locals) :
    Back l R p e below s sargs yN len W (fun A₁ a₁ => A₁.cells + 1 ≤ R.cells ∧ A₁.slots + A.slots.size ≤ R.slots ∧ P a D fV fC b A z a₁ A₁.U) (fun A₁ _ v₁ B₁ => E a D fV fC A v₁ A₁.U B₁.U ∧ B₁.locs = A₁.locs ++ [⟨a, fC.slot⟩, ⟨a, fV.slot⟩] ∧ B₁.cells = A₁.cells + 1 ∧ B₁.slots = A₁.slots + A.slots.size) :=
  (law l a D fV fC b A z).pays htab hfr (by omega)
end New1
end StrChars
namespace StrChars.Road
open Jvm Sem ClassFile Op Lib Jvm.Stand Jvm.Free Jvm.Free.XT
open Jvm.Lib.Cold (StaticIs)
abbrev ST : String := "java/lang/String"
/-- every table word that New1's law asks, flat -/
abbrev words : List Jvm.Cond := [.code New1.yN New1.yB 2 none, .initialized ST, .methodLink ST 27 New4.yN, .instanceMethod New4.yN,
  .code New4.yN New4.yB 6 none, .fieldLink ST 38 ST "COMPACT_STRINGS" "Z", .laysFinal ST ST "value" "[B", .fieldLink ST 9 ST "value" "[B", .laysFinal ST ST "coder" "B", .fieldLink ST 15 ST "coder" "B",
  .methodLink ST 1 Lib.objectInit, .instanceMethod Lib.objectInit, .code Lib.objectInit ⟨#[0xb1]⟩ 1 none, .methodLink ST 177 Cmp3.yN, .static Cmp3.yN, .methodLink ST 47 CodL.yN, .static CodL.yN,
  .code Cmp3.yN Cmp3.yB 6 (some (.array .byte)), .initialized U16, .arrayClass .byte, .methodLink U16 115 Cmp5.yN, .static Cmp5.yN, .code Cmp5.yN Cmp5.yB 7 (some .int), .code CodL.yN CodL.yB 2 (some .byte)]
theorem tab_of {a : Array Value} {s : State} (h : ∀ w ∈ words, w.before a s = true) : New1.tab.before a s = true := by
  have h5 : Cmp5.tab.before a s = true := unparts (wk h (.code Cmp5.yN Cmp5.yB 7 (some .int))) (wks h (.initialized Cmp5.yN.cls :: Cmp5.site))
  have hc : CodL.tab.before a s = true := unparts (wk h (.code CodL.yN CodL.yB 2 (some .byte))) (wks h (.initialized CodL.yN.cls :: CodL.site))
  have q5 : ∀ w ∈ Cmp5.tab :: words, w.before a s = true := fun w hw => (List.mem_cons.mp hw).elim (fun e => e ▸ h5) (h w)
  have h3 : Cmp3.tab.before a s = true := unparts (wk q5 (.code Cmp3.yN Cmp3.yB 6 (some (.array .byte)))) (wks q5 (.initialized Cmp3.yN.cls :: Cmp3.site))
  have q3 : ∀ w ∈ Cmp3.tab :: CodL.tab :: words, w.before a s = true := fun w hw => (List.mem_cons.mp hw).elim (fun e => e ▸ h3) fun hw => (List.mem_cons.mp hw).elim (fun e => e ▸ hc) (h w)
  have h4 : New4.tab.before a s = true := unparts (wk q3 (.code New4.yN New4.yB 6 none)) (wks q3 (.initialized New4.yN.cls :: New4.site))
  have q4 : ∀ w ∈ New4.tab :: words, w.before a s = true := fun w hw => (List.mem_cons.mp hw).elim (fun e => e ▸ h4) (h w)
  exact unparts (wk q4 (.code New1.yN New1.yB 2 none)) (wks q4 (.initialized New1.yN.cls :: New1.site))
/-- the words ride from the start Z to the walk's own state -/
theorem moved {Z s : State} {a0 args : Array Value} (hZ : Z.Warmed39 s.vm) (hw : ∀ d ∈ words, d.before a0 Z = true) : ∀ d ∈ words, d.before args s = true := fun d hd => by
  have q := hw d hd
  have t : ∀ d ∈ words, d = .arrayClass .byte ∨ (d.onTables && d.keepsFace) = true := by decide +kernel
  rcases t d hd with rfl | t
  · exact RoadKit.mvA hZ q
  · exact RoadKit.mv hZ q t
/-- WHAT COMES BACK, over the tables of the start Z: h the heap at the call, h' behind it -/
def Q (Z : State) (x : Addr) (A : Cell) (h : Heap) (v : Option Value) (h' : Heap) (L : List Loc) : Prop := v = none ∧ (∀ y ∈ L, y.base = x) ∧ RoadKit.Keep h h' [x] ∧ h'.size = h.size + 1 ∧ RoadKit.Exa Z h' x ST ∧ RoadKit.Fld Z h' x ST "value" "[B" (.ref h.size) ∧ RoadKit.Fld Z h' x ST "coder" "B" (.int 0) ∧
  (∃ V : Cell, RoadKit.Arr Z h' h.size V .byte ∧ V.vm = .none ∧ Z.vm.findClass "[B" = some V.cls ∧ V.slots.size = A.slots.size ∧ ∀ j, j < A.slots.size → V.slots[j]? = some (.int (lo8 (cv A j)))) ∧
  ∀ (O n d : String) (w : Value), RoadKit.Fld Z h x O n d w → RoadKit.slotOf Z O n d ≠ RoadKit.slotOf Z ST "value" "[B" → RoadKit.slotOf Z O n d ≠ RoadKit.slotOf Z ST "coder" "B" → RoadKit.Fld Z h' x O n d w
/-- **new String(chars) AT A CALL, IN THE ROAD'S FORM**: for specialBack behind newO: x the fresh String, b the char[] with the cell A -/
theorem back {p : Program} {l : Launch} {e : Env} {R : Room} {s : State} {args : Array Value} {below : List Frame} {len W : Nat} {Z : State} {a0 : Array Value} {h : Heap} (hZ : Z.Warmed39 s.vm) (hw : ∀ d ∈ words, d.before a0 Z = true) {kI : Nat} (wi : (Jvm.Cond.instantiable ST kI).before a0 Z = true)
    {x b : Addr} {A : Cell} {z : Int32} {v0 c0 : Value} (E : RoadKit.Exa Z h x ST) (V : RoadKit.Fld Z h x ST "value" "[B" v0) (C : RoadKit.Fld Z h x ST "coder" "B" c0) (K : RoadKit.Arr Z h b A .char) (hty : Typed .char A) (S : RoadKit.Sta Z h ST "COMPACT_STRINGS" "Z" (.int z)) (hz : ¬ z = 0)
    (l0 : 0 < A.slots.size) (l2 : A.slots.size ≤ 536870912) (hp : ∀ i, i < A.slots.size → ¬ 255 < cv A i) (hfr : 4 ≤ R.frames) (hlo : W + 65 ≤ R.locals) :
    Back l R p e below s args New1.yN len W (fun P a => a = #[.ref x, .ref b] ∧ P.U.heap = h ∧ P.cells + 1 ≤ R.cells ∧ P.slots + A.slots.size ≤ R.slots)
      (fun P _ v B => ∃ L, Q Z x A h v B.U.heap L ∧ B.locs = P.locs ++ L ∧ B.cells = P.cells + 1 ∧ B.slots = P.slots + A.slots.size) := by
  intro m meth c P g ig mk a X hg hsize hdg hW hn hp'
  obtain ⟨rfl, rfl, r1, r2⟩ := hp'
  have al : Z.vm.Alike P.U.vm := hZ.alike.trans X.warmed.alike
  obtain ⟨D, cfV, kV, iV, fV, hD, gV, stV, knV, obV, asV, slV⟩ := id V
  obtain ⟨D', cfC, kC, iC, fC, hD', gC, stC, -, -, asC, slC⟩ := id C
  cases hD.symm.trans hD'
  obtain ⟨D2, kD, e1, e2, e3, e4, e5⟩ := id E
  cases hD.symm.trans e1
  obtain ⟨c2, k2, i1, i2, i3, -⟩ := Cond.instantiable_spec wi
  cases e2.symm.trans i1
  cases e3.symm.trans i2
  obtain ⟨kU, u1, u2⟩ := al.2.2 _ _ e3
  have hB : Blank ST x D P.U := ⟨hD, ⟨knV, fun q hq => by rw [hq] at obV; cases obV⟩, by rw [al.findClass]; exact e2, kU, u1, by rw [u2]; exact i3, by rw [u2]; exact e5 i3⟩
  have F1 : Found ST "value" "[B" fV P.U := ⟨SBG.found_only al ⟨cfV, kV, iV, gV⟩, stV⟩
  have F2 : Found ST "coder" "B" fC P.U := ⟨SBG.found_only al ⟨cfC, kC, iC, gC⟩, stC⟩
  have hA : Ch b A P.U := ⟨⟨K.1, State.isArrayOf_alike al K.2.1, K.2.2, by omega⟩, hty⟩
  have hS : StaticIs P.U ST "COMPACT_STRINGS" "Z" (.int z) := by
    obtain ⟨cfS, iS, kS, fS, st, cS, t1, t2, t3, t4, t5, t6, t7⟩ := S
    exact StaticIs.there (s := { Z with heap := P.U.heap }) ⟨cfS, iS, kS, fS, st, cS, t1, t2, t3, t4, t5, (fun q => by rw [q] at t6; cases t6), t7⟩ al rfl
  obtain ⟨v, B, X', ⟨⟨hv, E', V', q1, q2, q3, q4, q5, q6, q7, q8, q9, q10, q11⟩, hl, hc, hs⟩, st⟩ := New1.pays x D fV fC b A z (tab_of (moved hZ hw)) hfr hlo m meth c P g ig mk _ X hg hsize hdg hW hn ⟨r1, r2, rfl, hB, F1, F2, hA, hS, hz, l0, l2, hp⟩
  have al' : Z.vm.Alike B.U.vm := hZ.alike.trans X'.warmed.alike
  have hsz : E'.slots.size = D.slots.size := by
    obtain ⟨-, -, -, kB, w1, w2, w3⟩ := q1
    obtain ⟨kB', y1, y2⟩ := al'.2.2 _ _ e3
    rw [q2.2.1] at w1
    cases w1.symm.trans y1
    rw [w3, e5 i3, y2]
  refine ⟨v, B, X', ⟨_, ⟨hv, ?_, ⟨by omega, fun y cy hy hn' => q10 y cy (by simpa using hn') hy, fun y cy hy => ?_⟩, q11, ⟨E', _, q1.1, by rw [q2.2.1]; exact e2, by rw [q2.2.1]; exact e3, by rw [q2.1]; exact obV, fun _ => by rw [hsz]; exact e5 i3⟩,
    ⟨E', cfV, kV, iV, fV, q1.1, gV, stV, by rw [q2.1]; exact knV, by rw [q2.1]; exact obV, by rw [q2.2.1]; exact asV, q3⟩, ⟨E', cfC, kC, iC, fC, q1.1, gC, stC, by rw [q2.1]; exact knV, by rw [q2.1]; exact obV, by rw [q2.2.1]; exact asC, q4⟩,
    ⟨V', ⟨q5.1, State.isArrayOf_alike al'.symm q5.2.1, q5.2.2.1⟩, q6, by rw [← al'.findClass]; exact q7, q8, fun j hj => by have := q9 j hj; rwa [Nat.zero_add] at this⟩, fun O n d w F n1 n2 => ?_⟩, hl, hc, hs⟩, st⟩
  · intro y hy
    simp only [List.mem_cons, List.not_mem_nil, or_false] at hy
    rcases hy with rfl | rfl <;> rfl
  · by_cases q : y = x
    · subst q
      cases hD.symm.trans hy
      exact ⟨E', q1.1, q2.2.1, q2.1, hsz⟩
    · exact ⟨cy, q10 y cy q hy, rfl, rfl, rfl⟩
  · obtain ⟨D3, cf, k, i, f, g1, g2, g3, g4, g5, g6, g7⟩ := F
    cases hD.symm.trans g1
    simp only [RoadKit.slotOf, g2, gV, gC, Option.map_some, Option.getD_some] at n1 n2
    exact ⟨E', cf, k, i, f, q1.1, g2, g3, by rw [q2.1]; exact g4, by rw [q2.1]; exact g5, by rw [q2.2.1]; exact g6, by rw [q2.2.2 f.slot (by simp [n1, n2])]; exact g7⟩
end StrChars.Road
namespace StrChars.Road
open Jvm Sem ClassFile Op Lib Jvm.Stand Jvm.Free Jvm.Free.XT
/-- WHAT COMES BACK, the byte[] as a list of values -/
def QA (Z : State) (x : Addr) (zn : Int32) (cs : List Int32) (h : Heap) (v : Option Value) (h' : Heap) (L : List Loc) : Prop := v = none ∧ (∀ y ∈ L, y.base = x) ∧ RoadKit.Keep h h' [x] ∧ h'.size = h.size + 1 ∧ RoadKit.Exa Z h' x ST ∧ RoadKit.Fld Z h' x ST "value" "[B" (.ref h.size) ∧ RoadKit.Fld Z h' x ST "coder" "B" (.int 0) ∧
  (∃ kb, Z.vm.findClass "[B" = some kb ∧ RoadKit.Arv Z h' h.size kb .byte zn (cs.map fun c => .int (lo8 c)) (.int 0)) ∧
  ∀ (O n d : String) (w : Value), RoadKit.Fld Z h x O n d w → RoadKit.slotOf Z O n d ≠ RoadKit.slotOf Z ST "value" "[B" → RoadKit.slotOf Z O n d ≠ RoadKit.slotOf Z ST "coder" "B" → RoadKit.Fld Z h' x O n d w
/-- **new String(chars) AT A CALL, THE ARRAYS AS LISTS**: the char[] at b holds cs, not empty, no char above 255 -/
theorem backArv {p : Program} {l : Launch} {e : Env} {R : Room} {s : State} {args : Array Value} {below : List Frame} {len W : Nat} {Z : State} {a0 : Array Value} {h : Heap} (hZ : Z.Warmed39 s.vm) (hw : ∀ d ∈ words, d.before a0 Z = true) {kI : Nat} (wi : (Jvm.Cond.instantiable ST kI).before a0 Z = true)
    {x b : Addr} {k : ClassId} {zn z : Int32} {cs : List Int32} {dv v0 c0 : Value} (E : RoadKit.Exa Z h x ST) (V : RoadKit.Fld Z h x ST "value" "[B" v0) (C : RoadKit.Fld Z h x ST "coder" "B" c0) (K : RoadKit.Arv Z h b k .char zn (cs.map Value.int) dv) (S : RoadKit.Sta Z h ST "COMPACT_STRINGS" "Z" (.int z)) (hz : ¬ z = 0)
    (hlen : zn.toNatClampNeg = cs.length) (h0 : 0 < cs.length) (hbig : cs.length ≤ 536870912) (hall : ∀ c ∈ cs, ¬ 255 < c) (hfr : 4 ≤ R.frames) (hlo : W + 65 ≤ R.locals) :
    Back l R p e below s args New1.yN len W (fun P a => a = #[.ref x, .ref b] ∧ P.U.heap = h ∧ P.cells + 1 ≤ R.cells ∧ P.slots + cs.length ≤ R.slots)
      (fun P _ v B => ∃ L, QA Z x zn cs h v B.U.heap L ∧ B.locs = P.locs ++ L ∧ B.cells = P.cells + 1 ∧ B.slots = P.slots + cs.length) := by
  obtain ⟨A, K1, K2, K3, K4, K5, K6⟩ := K
  have e : A.slots.size = cs.length := K3.trans hlen
  have hat : ∀ (i : Nat) (hi : i < cs.length), A.slots[i]? = some (.int cs[i]) := fun i hi => by rw [K5 i (by omega)]; simp [List.getD_eq_getElem?_getD, hi]
  have hcv : ∀ (i : Nat) (hi : i < cs.length), cv A i = cs[i] := fun i hi => by unfold cv; rw [hat i hi]
  have hty : Typed .char A := fun i v hv => by
    have hi : i < A.slots.size := (Array.getElem?_eq_some_iff.mp hv).1
    have q := K5 i hi
    rw [hv] at q
    rw [Option.some.inj q]
    exact K6 i hi
  refine Back.mono (back hZ hw wi E V C K1 hty S hz (by omega) (by omega) (fun i hi => by rw [hcv i (by omega)]; exact hall _ (List.getElem_mem _)) hfr hlo) (fun P a hp => ⟨hp.1, hp.2.1, hp.2.2.1, by rw [e]; exact hp.2.2.2⟩) (fun P a v B hp hq => ?_)
  obtain ⟨L, ⟨q1, q2, q3, q4, q5, q6, q7, ⟨V', v1, v2, v3, v4, v5⟩, q9⟩, hl, hc, hs⟩ := hq
  refine ⟨L, ⟨q1, q2, q3, q4, q5, q6, q7, ⟨V'.cls, v3, V', v1, rfl, by rw [v4, e, hlen], K4, fun i hi => ?_, fun i hi => ?_⟩, q9⟩, hl, hc, by rw [hs, e]⟩
  · have hi' : i < cs.length := by omega
    rw [v5 i (by omega), hcv i hi']; simp [List.getD_eq_getElem?_getD, hi']
  · have hi' : i < cs.length := by omega
    simp only [List.getD_eq_getElem?_getD, List.getElem?_map, List.getElem?_eq_getElem hi', Option.map_some, Option.getD_some]
    exact fits_lo8 _
end StrChars.Road
namespace StrChars.Road
open Jvm Sem ClassFile Op Lib Jvm.Stand Jvm.Free Jvm.Free.XT
/-- WHAT COMES BACK, in the writer's own shape -/
def QV (Z : State) (x : Addr) (N : Int32) (bs : List Int32) (h : Heap) (n0 : Nat) (v : Option Value) (h' : Heap) (L : List Loc) : Prop := v = none ∧ RoadKit.Fr n0 L ∧ RoadKit.Keep h h' [x] ∧ RoadKit.Exa Z h' x ST ∧ RoadKit.Fld Z h' x ST "coder" "B" (.int 0) ∧
  ∃ (t : Addr) (kb : ClassId), n0 ≤ t ∧ h.size ≤ t ∧ ¬ t = x ∧ RoadKit.Fld Z h' x ST "value" "[B" (.ref t) ∧ RoadKit.Arv Z h' t kb .byte N (bs.map Value.int) (.int 0)
/-- **new String(chars) AT A CALL, FOR THE WRITER**: a char[] of n known ints, each 0 to 255 -/
theorem backV {p : Program} {l : Launch} {e : Env} {R : Room} {s : State} {args : Array Value} {below : List Frame} {len W : Nat} {Z : State} {a0 : Array Value} {h : Heap} (hZ : Z.Warmed39 s.vm) (hw : ∀ d ∈ words, d.before a0 Z = true) {kI : Nat} (wi : (Jvm.Cond.instantiable ST kI).before a0 Z = true)
    {x b : Addr} {kC : ClassId} {cs bs : List Int32} {d v0 c0 : Value} {z N : Int32} {n n0 : Nat} (hx0 : n0 ≤ x) (hh0 : n0 ≤ h.size) (E : RoadKit.Exa Z h x ST) (V : RoadKit.Fld Z h x ST "value" "[B" v0) (C : RoadKit.Fld Z h x ST "coder" "B" c0) (K : RoadKit.Arv Z h b kC .char N (cs.map Value.int) d) (S : RoadKit.Sta Z h ST "COMPACT_STRINGS" "Z" (.int z)) (hz : ¬ z = 0)
    (hn : cs.length = n) (hN : N = Int32.ofNat n) (l0 : 0 < n) (l2 : n ≤ 4000) (hp : ∀ c ∈ cs, ¬ c < 0 ∧ ¬ (255 : Int32) < c) (hb : bs = cs.map (fun c => c.toInt8.toInt32)) (hfr : 4 ≤ R.frames) (hlo : W + 65 ≤ R.locals) :
    Back l R p e below s args (⟨"java/lang/String", "<init>", "([C)V"⟩ : MethodName) len W (fun P a => a = #[.ref x, .ref b] ∧ P.U.heap = h ∧ P.cells + 1 ≤ R.cells ∧ P.slots + n ≤ R.slots)
      (fun P _ v B => ∃ L, QV Z x N bs h n0 v B.U.heap L ∧ B.locs = P.locs ++ L ∧ B.cells = P.cells + 1 ∧ B.slots = P.slots + n) := by
  subst hn hN hb
  refine Back.mono (backArv hZ hw wi E V C K S hz (n32 (by omega)) l0 (by omega) (fun c hc => (hp c hc).2) hfr hlo) (fun P a hp => hp) (fun P a v B hp hq => ?_)
  obtain ⟨L, ⟨q1, q2, q3, q4, q5, q6, q7, ⟨kb, v1, v2⟩, q9⟩, hl, hc, hs⟩ := hq
  exact ⟨L, ⟨q1, fun y hy => by rw [q2 y hy]; exact hx0, q3, q5, q7, h.size, kb, hh0, Nat.le_refl _, Nat.ne_of_gt E.lt, q6, by rw [List.map_map]; exact v2⟩, hl, hc, hs⟩
end StrChars.Road
end Jvm.Pilot.@@N@@

namespace Jvm.Pilot.@@N@@
open Jvm Jvm.ClassFile Sem Op Lib Jvm.Free Jvm.Stand Jvm.LawKit Jvm.RoadKit Bundle Jvm.Pilot.@@N@@.Jvm.D
theorem ow {Z : State} {a0 : Array Value} (hw : ∀ d ∈ tables_1, d.before a0 Z = true) (i : Nat) {d : Jvm.Cond} (h : tables_1[i]? = some d) : d.before a0 Z = true := hw _ (List.mem_of_getElem? h)
theorem own_irr {x : Int32} : ¬ x < x := fun h => Int.lt_irrefl _ (Int32.lt_iff_toInt_lt.mp h)
theorem own_neA {Z : State} {h : Heap} {a b : Addr} {k k' : ClassId} {ty ty' : FieldType} {z z' : Int32} {vs vs' : List Value} {d d' : Value} (A : Arv Z h a k ty z vs d) (B : Arv Z h b k' ty' z' vs' d') (hn : ty ≠ ty') : a ≠ b := fun q => by
  subst q
  obtain ⟨c1, ⟨e1, hA, -⟩, -⟩ := A
  obtain ⟨c2, ⟨e2, hB, -⟩, -⟩ := B
  cases e1.symm.trans e2
  obtain ⟨-, k1, g1, comp, hk⟩ := hA
  obtain ⟨-, k2, g2, comp', hk'⟩ := hB
  cases g1.symm.trans g2
  rw [hk] at hk'
  injection hk' with h1 h2
  exact hn h2
section Own
variable {p : Program} {l : Launch} {e : Env} {R : Room} {s : State} {m : MethodId} {args : Array Value} {below : List Frame} {meth : Method} {c : Code} {T : State} {locs : List Loc} {cells slots : Nat} {Z : State} {a0 : Array Value} {h : Heap} {vm0 : Vm} {EL : List (String × Nat)}
/-! own layer: contracts in CPS form. G is the goal at a state; go takes steps backwards, fin ends the walk. -/
def own_MetN (l : Launch) (Z : State) (y : MethodName) (bytes : ByteArray) (maxL : Nat) (ret : Option FieldType) (ws : List Jvm.Cond) (rm : Room) (as' : Array Value) (h0 : Heap) (Q : Option Value → Heap → List Loc → Prop) : Prop :=
  MetFree l y (head1 (Jvm.Cond.code y bytes maxL ret :: ws) rm) (fun a U => a = as' ∧ Z.Warmed39 U.vm ∧ U.heap = h0) (fun _ _ _ _ _ => True) (fun _ U o U' => ∃ v L, o = .returned v ∧ Q v U'.heap L ∧ FrameEnd U o U' L rm.cells rm.slots)
def own_MetH (l : Launch) (Z : State) (EL : List (String × Nat)) (y : MethodName) (bytes : ByteArray) (maxL : Nat) (ret : Option FieldType) (ws : List Jvm.Cond) (rm : Room) (as' : Array Value) (h0 : Heap) (Q : Option Value → Heap → List Loc → Prop) : Prop :=
  MetFree l y (head1 (Jvm.Cond.code y bytes maxL ret :: ws) rm) (fun a U => a = as' ∧ Z.Warmed39 U.vm ∧ U.heap = h0 ∧ CHv Z EL U.vm h0) (fun _ _ _ _ _ => True) (fun _ U o U' => ∃ v L, o = .returned v ∧ Q v U'.heap L ∧ CHr Z EL U.vm U.heap U'.vm U'.heap ∧ ReturnedEndW U o U' L rm.cells rm.slots)
def own_Go (p : Program) (e : Env) (below : List Frame) (G : State → Prop) : Prop := ∀ A B, (∀ t, Steps p.tables e below B t → Steps p.tables e below A t) → G B → G A
def own_Ret (p : Program) (e : Env) (below : List Frame) (m : MethodId) (T : State) (v : Option Value) (g : JFrame) : Prop :=
  ∀ fs, (∀ (f : JFrame) (acts : List Action), f.method = m → f.locked = none → f.entered = [] → (doReturn e (T.setTop f) acts v).1 = T.setFrames fs) → Steps p.tables e below (T.setTop g) (T.setFrames fs)
theorem own_metN {y : MethodName} {bytes : ByteArray} {maxL : Nat} {ret : Option FieldType} {ws : List Jvm.Cond} {rm : Room} {as' : Array Value} {h0 : Heap} {Q : Option Value → Heap → List Loc → Prop} (pn : plainName y.cls = true)
    (K : ∀ (p : Program) (e : Env) (s : State) (m : MethodId) (below : List Frame) (meth : Method) (c : Code) (s₁ : State) (G : State → Prop), p.tables.exec = Jvm.exec → c.code = bytes → c.maxLocals = maxL → Z.Warmed39 s.vm → s.vm.findClass y.cls = some m.cls → meth.name = y.name → meth.sig.returnType = ret →
      Stand p l e rm s m as' below meth c s₁ [] 0 0 → s₁.heap = h0 → own_Go p e below G →
      (∀ (T : State) (L : List Loc) (cells slots : Nat) (v : Option Value), Stand p l e rm s m as' below meth c T L cells slots → (ret = none → v = none) → cells ≤ rm.cells → slots ≤ rm.slots → Q v T.heap L → ∀ g : JFrame, own_Ret p e below m T v g → G (T.setTop g)) →
      G (s₁.setTop (entryFrame m as' maxL))) :
    own_MetN l Z y bytes maxL ret ws rm as' h0 Q := by
  refine MetFree.of_bodySF (plainFor_of_name pn) hisR ?_
  intro p e s m args below meth c s₁ Bd hml0 hP hK
  obtain ⟨rfl, hZ, hh⟩ := hP
  refine K p e s m below meth c s₁ (fun A => ∃ s₂ o, Steps p.tables e below A s₂ ∧ s₂.status = .running ∧ Ended s₂ below o ∧ ∃ v L, o = .returned v ∧ Q v s₂.heap L ∧ FrameEnd s o s₂ L rm.cells rm.slots) Bd.exec Bd.bytes hml0 hZ (findClass_of_methodNamed Bd.named) (name_of_methodNamed Bd.named Bd.method).1 Bd.returns (Stand.of_body Bd) (by rw [← hh, Bd.state]; rfl) ?_ ?_
  · rintro A B st ⟨s₂, o, h1, h2⟩; exact ⟨s₂, o, st _ h1, h2⟩
  · intro T L cells slots v X hv hc hs hq g hg
    obtain ⟨fs, hr, hrun, hended, hW, hsame⟩ := X.leave (v := v) (fun q => hv (Bd.returns.symm.trans q))
    exact ⟨_, _, hg fs hr, hrun, hended, _, _, rfl, hq, ⟨_, rfl⟩, hW, hsame.mono hc hs⟩
theorem own_metH {y : MethodName} {bytes : ByteArray} {maxL : Nat} {ret : Option FieldType} {ws : List Jvm.Cond} {rm : Room} {as' : Array Value} {h0 : Heap} {Q : Option Value → Heap → List Loc → Prop} (pn : plainName y.cls = true) (hEL : EW Z a0 EL)
    (K : ∀ (p : Program) (e : Env) (s : State) (m : MethodId) (below : List Frame) (meth : Method) (c : Code) (s₁ : State) (G : State → Prop), p.tables.exec = Jvm.exec → c.code = bytes → c.maxLocals = maxL → Z.Warmed39 s.vm → s.vm.findClass y.cls = some m.cls → meth.name = y.name → meth.sig.returnType = ret →
      Stand p l e rm (s.setVm s.vm) m as' below meth c s₁ [] 0 0 → s₁.heap = h0 → s.Since s.vm h0.size → CHr Z EL s.vm h0 s.vm h0 → own_Go p e below G →
      (∀ (T : State) (L : List Loc) (cells slots : Nat) (v : Option Value) (vm0 : Vm) (k0 : Nat), Stand p l e rm (s.setVm vm0) m as' below meth c T L cells slots → Z.Warmed39 vm0 → s.Since vm0 k0 → k0 ≤ T.heap.size → CHr Z EL s.vm h0 vm0 T.heap → (ret = none → v = none) → cells ≤ rm.cells → slots ≤ rm.slots → Q v T.heap L → ∀ g : JFrame, own_Ret p e below m T v g → G (T.setTop g)) →
      G (s₁.setTop (entryFrame m as' maxL))) :
    own_MetH l Z EL y bytes maxL ret ws rm as' h0 Q := by
  refine MetFree.of_bodySF (plainFor_of_name pn) hisR ?_
  intro p e s m args below meth c s₁ Bd hml0 hP hK
  obtain ⟨rfl, hZ, hh, hC⟩ := hP
  refine K p e s m below meth c s₁ (fun A => ∃ s₂ o, Steps p.tables e below A s₂ ∧ s₂.status = .running ∧ Ended s₂ below o ∧ ∃ v L, o = .returned v ∧ Q v s₂.heap L ∧ CHr Z EL s.vm s.heap s₂.vm s₂.heap ∧ ReturnedEndW s o s₂ L rm.cells rm.slots) Bd.exec Bd.bytes hml0 hZ (findClass_of_methodNamed Bd.named) (name_of_methodNamed Bd.named Bd.method).1 Bd.returns (Stand.of_body Bd) (by rw [← hh, Bd.state]; rfl) ((State.WarmedH.refl s).since _) (CHr.refl hC) ?_ ?_
  · rintro A B st ⟨s₂, o, h1, h2⟩; exact ⟨s₂, o, st _ h1, h2⟩
  · intro T L cells slots v vm0 k0 X hZ0 hS hk hR hv hc hs hq g hg
    obtain ⟨fs, hr, hrun, hended, e1, e2, e3, e4⟩ := X.leaveW (v := v) hS hk (fun q => hv (Bd.returns.symm.trans q))
    refine ⟨_, _, hg fs hr, hrun, hended, _, _, rfl, hq, ?_, e1, e2, e3, e4.mono hc hs⟩
    rw [hh]
    show CHr Z EL s.vm h0 T.vm T.heap
    exact hR.trans (CHv.at X hZ0 hEL hR.1)
theorem own_nfS {y y' z' : MethodName} {C' : String} {as' : Array Value} (hc : z'.cls = y.cls) (ws : (Jvm.Cond.selects C' y' z').before as' s = true) : NotFace s y := fun r0 h0 => by
  obtain ⟨c2, r2, m2, -, -, q3, -, kP, hkP, hkPi⟩ := Cond.selects_spec ws
  have f1 := findClass_of_methodNamed h0
  have f2 := findClass_of_methodNamed q3
  rw [hc] at f2
  have e : m2.cls = r0.cls := Option.some.inj (f2.symm.trans f1)
  rw [e] at hkP
  exact ⟨kP, hkP, hkPi⟩
/-! calls: the callee's law in backOf's shape pays -/
theorem own_bkN {y : MethodName} {bytes : ByteArray} {maxL : Nat} {ret : Option FieldType} {rm : Room} {len W : Nat} {as' : Array Value} {Q : Option Value → Heap → List Loc → Prop} (hM : own_MetN l Z y bytes maxL ret [] rm as' h Q)
    (hZ : Z.Warmed39 s.vm) (wc : (Jvm.Cond.code y bytes maxL ret).before a0 Z = true) (wz : (Jvm.Cond.initialized y.cls).before a0 Z = true) (hf : rm.frames + 1 ≤ R.frames) (hl : W + (maxL + 11) + rm.locals ≤ R.locals) :
    Back l R p e below s args y len W (fun A a => a = as' ∧ A.U.heap = h ∧ A.cells + rm.cells ≤ R.cells ∧ A.slots + rm.slots ≤ R.slots) (fun A _ v B => ∃ L, Q v B.U.heap L ∧ B.locs = A.locs ++ L ∧ B.cells = A.cells + rm.cells ∧ B.slots = A.slots + rm.slots) :=
  backOf (Q := Q) hM hZ wc wz hf hl
theorem own_bkH {y : MethodName} {bytes : ByteArray} {maxL : Nat} {ret : Option FieldType} {rm : Room} {len W : Nat} {as' : Array Value} {Q : Option Value → Heap → List Loc → Prop} (hM : own_MetH l Z EL y bytes maxL ret [] rm as' h Q)
    (hZ : Z.Warmed39 vm0) (wc : (Jvm.Cond.code y bytes maxL ret).before a0 Z = true) (wz : (Jvm.Cond.initialized y.cls).before a0 Z = true) (hf : rm.frames + 1 ≤ R.frames) (hl : W + (maxL + 11) + rm.locals ≤ R.locals) (hEL : EW Z a0 EL) (H : CHv Z EL vm0 h) :
    BackS l R p e below (s.setVm vm0) args y len W (fun A a => a = as' ∧ A.U.heap = h ∧ A.cells + rm.cells ≤ R.cells ∧ A.slots + rm.slots ≤ R.slots) (fun A _ v B => ∃ L, Q v B.U.heap L ∧ B.locs = A.locs ++ L ∧ B.cells = A.cells + rm.cells ∧ B.slots = A.slots + rm.slots ∧ CHr Z EL vm0 h B.U.vm B.U.heap) :=
  backOfSH (Q := Q) hM hZ wc wz hf hl hEL H
theorem own_st (X : Stand p l e R s m args below meth c T locs cells slots) (hx : p.tables.exec = Jvm.exec) (hZ : Z.Warmed39 s.vm) {own : String} {index : Nat} {y : MethodName} {bytes : ByteArray} {maxL : Nat} {ret : Option FieldType}
    (hown : s.vm.findClass own = some m.cls) (w1 : (Jvm.Cond.methodLink own index y).before a0 Z = true) (w2 : (Jvm.Cond.static y).before a0 Z = true) (w3 : (Jvm.Cond.initialized y.cls).before a0 Z = true) (w4 : (Jvm.Cond.code y bytes maxL ret).before a0 Z = true)
    (hy : y.cls ≠ "java/lang/invoke/MethodHandle" ∧ y.cls ≠ "java/lang/invoke/VarHandle") {W kc ks : Nat} {as' : Array Value} {Q : Option Value → Heap → List Loc → Prop}
    (hK : Back l R p e below s args y 3 W (fun A a => a = as' ∧ A.U.heap = h ∧ A.cells + kc ≤ R.cells ∧ A.slots + ks ≤ R.slots) (fun A _ v B => ∃ L, Q v B.U.heap L ∧ B.locs = A.locs ++ L ∧ B.cells = A.cells + kc ∧ B.slots = A.slots + ks))
    (eT : T.heap = h) {g : JFrame} (hg : g.method = m) (hsize : g.locals.size = c.maxLocals) {argsL rest : List Value} (ha : argsL.toArray = as') (hlen : ∀ sig, parseMethodDescriptor y.desc = some sig → argsL.length = sig.parameters.length)
    (hstack : g.stack = argsL.reverse ++ rest) (hW : 2 * g.monitorRoom + (rest.map fun v => v.category).sum ≤ W) (hdg : decode c.code g.pc = .ok (.invokestatic index, 3)) (hc : cells + kc ≤ R.cells) (hs : slots + ks ≤ R.slots) :
    ∃ (v : Option Value) (T' : State) (L : List Loc), Stand p l e R s m args below meth c T' (locs ++ L) (cells + kc) (slots + ks) ∧ Q v T'.heap L ∧ ∀ t, Steps p.tables e below (T'.setTop { g with pc := g.pc + 3, stack := v.toList ++ rest }) t → Steps p.tables e below (T.setTop g) t := by
  obtain ⟨v, vm₁, ⟨T', L', k', n'⟩, -, X', ⟨L, hq, hl, hk, hn⟩, st⟩ := Jvm.LawKit.callS X hx hown (mvT hZ w1) (mvT hZ w2) (mvT hZ w3) (mvT hZ w4) hy hK hg hsize hlen hstack hW hdg (fun _ _ => ⟨ha, eT, hc, hs⟩)
  dsimp only [Pt.U, Pt.locs, Pt.cells, Pt.slots] at X' hq hl hk hn st
  subst hl hk hn
  exact ⟨v, T', L, X', hq, st⟩
theorem own_sp (X : Stand p l e R s m args below meth c T locs cells slots) (hx : p.tables.exec = Jvm.exec) (hZ : Z.Warmed39 s.vm) {own : String} {index : Nat} {y : MethodName} {bytes : ByteArray} {maxL : Nat} (hy1 : y.name = "<init>")
    (hown : s.vm.findClass own = some m.cls) (w1 : (Jvm.Cond.methodLink own index y).before a0 Z = true) (w2 : (Jvm.Cond.instanceMethod y).before a0 Z = true) (w4 : (Jvm.Cond.code y bytes maxL none).before a0 Z = true)
    (hy : y.cls ≠ "java/lang/invoke/MethodHandle" ∧ y.cls ≠ "java/lang/invoke/VarHandle") {W kc ks : Nat} {as' : Array Value} {Q : Option Value → Heap → List Loc → Prop}
    (hK : Back l R p e below s args y 3 W (fun A a => a = as' ∧ A.U.heap = h ∧ A.cells + kc ≤ R.cells ∧ A.slots + ks ≤ R.slots) (fun A _ v B => ∃ L, Q v B.U.heap L ∧ B.locs = A.locs ++ L ∧ B.cells = A.cells + kc ∧ B.slots = A.slots + ks))
    (eT : T.heap = h) {g : JFrame} (hg : g.method = m) (hsize : g.locals.size = c.maxLocals) {a : Addr} {argsL rest : List Value} (ha : (.ref a :: argsL).toArray = as') (hlen : ∀ sig, parseMethodDescriptor y.desc = some sig → argsL.length = sig.parameters.length)
    (hstack : g.stack = argsL.reverse ++ .ref a :: rest) (hW : 2 * g.monitorRoom + (rest.map fun v => v.category).sum ≤ W) (hdg : decode c.code g.pc = .ok (.invokespecial index, 3)) (hc : cells + kc ≤ R.cells) (hs : slots + ks ≤ R.slots) :
    ∃ (v : Option Value) (T' : State) (L : List Loc), Stand p l e R s m args below meth c T' (locs ++ L) (cells + kc) (slots + ks) ∧ Q v T'.heap L ∧ ∀ t, Steps p.tables e below (T'.setTop { g with pc := g.pc + 3, stack := v.toList ++ rest }) t → Steps p.tables e below (T.setTop g) t := by
  obtain ⟨v, vm₁, ⟨T', L', k', n'⟩, -, X', ⟨L, hq, hl, hk, hn⟩, st⟩ := X.specialBack hx hy1 hown (mvT hZ w1) (mvT hZ w2) (mvT hZ w4) hy hK hg hsize (Steps.refl _) hlen hstack hW hdg (fun _ _ => ⟨ha, eT, hc, hs⟩)
  dsimp only [Pt.U, Pt.locs, Pt.cells, Pt.slots] at X' hq hl hk hn st
  subst hl hk hn
  exact ⟨v, T', L, X', hq, fun _ k => st.trans k⟩
theorem own_vi (X : Stand p l e R s m args below meth c T locs cells slots) (hx : p.tables.exec = Jvm.exec) (hZ : Z.Warmed39 s.vm) {own C : String} {index : Nat} {y z : MethodName}
    (hown : s.vm.findClass own = some m.cls) (w1 : (Jvm.Cond.methodLink own index y).before a0 Z = true) (w2 : (Jvm.Cond.declares y).before a0 Z = true) (w3 : (Jvm.Cond.selects C y z).before a0 Z = true) (w4 : (Jvm.Cond.instanceMethod z).before a0 Z = true) (hn : z = y ∨ (∃ S, (Jvm.Cond.superclass y.cls S).before a0 Z = true) ∨ (Jvm.Cond.noSuperclass y.cls).before a0 Z = true ∨ ∃ C' y' z', z'.cls = y.cls ∧ (Jvm.Cond.selects C' y' z').before a0 Z = true)
    (hy : y.cls ≠ "java/lang/invoke/MethodHandle" ∧ y.cls ≠ "java/lang/invoke/VarHandle") {W kc ks : Nat} {as' : Array Value} {Q : Option Value → Heap → List Loc → Prop}
    (hK : Back l R p e below s args z 3 W (fun A a => a = as' ∧ A.U.heap = h ∧ A.cells + kc ≤ R.cells ∧ A.slots + ks ≤ R.slots) (fun A _ v B => ∃ L, Q v B.U.heap L ∧ B.locs = A.locs ++ L ∧ B.cells = A.cells + kc ∧ B.slots = A.slots + ks))
    (eT : T.heap = h) {b : Addr} (E : Exa Z h b C) {g : JFrame} (hg : g.method = m) (hsize : g.locals.size = c.maxLocals) {argsL rest : List Value} (ha : (.ref b :: argsL).toArray = as') (hlen : ∀ sig, parseMethodDescriptor y.desc = some sig → argsL.length = sig.parameters.length)
    (hstack : g.stack = argsL.reverse ++ .ref b :: rest) (hW : 2 * g.monitorRoom + (rest.map fun v => v.category).sum ≤ W) (hdg : decode c.code g.pc = .ok (.invokevirtual index, 3)) (hc : cells + kc ≤ R.cells) (hs : slots + ks ≤ R.slots) :
    ∃ (v : Option Value) (T' : State) (L : List Loc), Stand p l e R s m args below meth c T' (locs ++ L) (cells + kc) (slots + ks) ∧ Q v T'.heap L ∧ ∀ t, Steps p.tables e below (T'.setTop { g with pc := g.pc + 3, stack := v.toList ++ rest }) t → Steps p.tables e below (T.setTop g) t := by
  have hnf : NotFace s y := by
    rcases hn with rfl | ⟨S, w⟩ | w | ⟨C', y', z', hc, w⟩
    · exact notFace_of_selects (args := #[]) (mvT hZ w3)
    · exact nf_super (args := #[]) (mvT hZ w)
    · exact nf_top (args := #[]) (mvT hZ w)
    · exact own_nfS hc (mvT (args := #[]) hZ w)
  obtain ⟨cq, kq, qa, qb, qc⟩ := isOf hZ eT E
  obtain ⟨v, vm₁, ⟨T', L', k', n'⟩, -, X', ⟨L, hq, hl, hk, hn⟩, st⟩ := X.virtualBack hx (y := y) (z := z) hown (mvT hZ w1) (mvT hZ w2) hnf (mvT hZ w3) (mvT hZ w4) hy hK qa qc hg hsize (Steps.refl _) hlen hstack hW hdg (fun _ _ => ⟨ha, eT, hc, hs⟩)
  dsimp only [Pt.U, Pt.locs, Pt.cells, Pt.slots] at X' hq hl hk hn st
  subst hl hk hn
  exact ⟨v, T', L, X', hq, fun _ k => st.trans k⟩
/-! .. of a callee that may load String constants: the walk goes on over the tables at hand -/
theorem own_stW (X : Stand p l e R (s.setVm vm0) m args below meth c T locs cells slots) (hx : p.tables.exec = Jvm.exec) (hZ : Z.Warmed39 vm0) {own : String} {index : Nat} {y : MethodName} {bytes : ByteArray} {maxL : Nat} {ret : Option FieldType}
    (hown : vm0.findClass own = some m.cls) (w1 : (Jvm.Cond.methodLink own index y).before a0 Z = true) (w2 : (Jvm.Cond.static y).before a0 Z = true) (w3 : (Jvm.Cond.initialized y.cls).before a0 Z = true) (w4 : (Jvm.Cond.code y bytes maxL ret).before a0 Z = true)
    (hy : y.cls ≠ "java/lang/invoke/MethodHandle" ∧ y.cls ≠ "java/lang/invoke/VarHandle") {W kc ks : Nat} {as' : Array Value} {Q : Option Value → Heap → List Loc → Prop}
    (hK : BackS l R p e below (s.setVm vm0) args y 3 W (fun A a => a = as' ∧ A.U.heap = h ∧ A.cells + kc ≤ R.cells ∧ A.slots + ks ≤ R.slots) (fun A _ v B => ∃ L, Q v B.U.heap L ∧ B.locs = A.locs ++ L ∧ B.cells = A.cells + kc ∧ B.slots = A.slots + ks ∧ CHr Z EL vm0 h B.U.vm B.U.heap))
    (eT : T.heap = h) {k0 : Nat} (hS : s.Since vm0 k0) (hk0 : k0 ≤ h.size) {g : JFrame} (hg : g.method = m) (hsize : g.locals.size = c.maxLocals) {argsL rest : List Value} (ha : argsL.toArray = as') (hlen : ∀ sig, parseMethodDescriptor y.desc = some sig → argsL.length = sig.parameters.length)
    (hstack : g.stack = argsL.reverse ++ rest) (hW : 2 * g.monitorRoom + (rest.map fun v => v.category).sum ≤ W) (hdg : decode c.code g.pc = .ok (.invokestatic index, 3)) (hc : cells + kc ≤ R.cells) (hs : slots + ks ≤ R.slots) :
    ∃ (v : Option Value) (T' : State) (L : List Loc), Stand p l e R (s.setVm T'.vm) m args below meth c T' (locs ++ L) (cells + kc) (slots + ks) ∧ Q v T'.heap L ∧ Z.Warmed39 T'.vm ∧ T'.vm.findClass own = some m.cls ∧ s.Since T'.vm T'.heap.size ∧ CHr Z EL vm0 h T'.vm T'.heap ∧ ∀ t, Steps p.tables e below (T'.setTop { g with pc := g.pc + 3, stack := v.toList ++ rest }) t → Steps p.tables e below (T.setTop g) t := by
  have hZ' : Z.Warmed39 (s.setVm vm0).vm := hZ
  obtain ⟨v, vm₁, ⟨T', L', k', n'⟩, -, X', hS', hg', ⟨L, hq, hl, hk, hn, hC⟩, st⟩ := callSS X hx (own := own) (index := index) hown (mvT hZ' w1) (mvT hZ' w2) (mvT hZ' w3) (mvT hZ' w4) hy hK hg hsize hlen hstack hW hdg (fun _ _ => ⟨ha, eT, hc, hs⟩)
  dsimp only [Pt.U, Pt.locs, Pt.cells, Pt.slots] at X' hS' hg' hq hl hk hn hC st
  subst hl hk hn eT
  obtain ⟨Y, hS2, hZ2, hown2⟩ := rebS hS hk0 X' hS' hg' hZ' hown
  exact ⟨v, T', L, Y, hq, hZ2, hown2, hS2, hC, fun _ k => st.trans k⟩
theorem own_spW (X : Stand p l e R (s.setVm vm0) m args below meth c T locs cells slots) (hx : p.tables.exec = Jvm.exec) (hZ : Z.Warmed39 vm0) {own : String} {index : Nat} {y : MethodName} {bytes : ByteArray} {maxL : Nat} (hy1 : y.name = "<init>")
    (hown : vm0.findClass own = some m.cls) (w1 : (Jvm.Cond.methodLink own index y).before a0 Z = true) (w2 : (Jvm.Cond.instanceMethod y).before a0 Z = true) (w4 : (Jvm.Cond.code y bytes maxL none).before a0 Z = true)
    (hy : y.cls ≠ "java/lang/invoke/MethodHandle" ∧ y.cls ≠ "java/lang/invoke/VarHandle") {W kc ks : Nat} {as' : Array Value} {Q : Option Value → Heap → List Loc → Prop}
    (hK : BackS l R p e below (s.setVm vm0) args y 3 W (fun A a => a = as' ∧ A.U.heap = h ∧ A.cells + kc ≤ R.cells ∧ A.slots + ks ≤ R.slots) (fun A _ v B => ∃ L, Q v B.U.heap L ∧ B.locs = A.locs ++ L ∧ B.cells = A.cells + kc ∧ B.slots = A.slots + ks ∧ CHr Z EL vm0 h B.U.vm B.U.heap))
    (eT : T.heap = h) {k0 : Nat} (hS : s.Since vm0 k0) (hk0 : k0 ≤ h.size) {g : JFrame} (hg : g.method = m) (hsize : g.locals.size = c.maxLocals) {a : Addr} {argsL rest : List Value} (ha : (.ref a :: argsL).toArray = as') (hlen : ∀ sig, parseMethodDescriptor y.desc = some sig → argsL.length = sig.parameters.length)
    (hstack : g.stack = argsL.reverse ++ .ref a :: rest) (hW : 2 * g.monitorRoom + (rest.map fun v => v.category).sum ≤ W) (hdg : decode c.code g.pc = .ok (.invokespecial index, 3)) (hc : cells + kc ≤ R.cells) (hs : slots + ks ≤ R.slots) :
    ∃ (v : Option Value) (T' : State) (L : List Loc), Stand p l e R (s.setVm T'.vm) m args below meth c T' (locs ++ L) (cells + kc) (slots + ks) ∧ Q v T'.heap L ∧ Z.Warmed39 T'.vm ∧ T'.vm.findClass own = some m.cls ∧ s.Since T'.vm T'.heap.size ∧ CHr Z EL vm0 h T'.vm T'.heap ∧ ∀ t, Steps p.tables e below (T'.setTop { g with pc := g.pc + 3, stack := v.toList ++ rest }) t → Steps p.tables e below (T.setTop g) t := by
  have hZ' : Z.Warmed39 (s.setVm vm0).vm := hZ
  obtain ⟨v, vm₁, ⟨T', L', k', n'⟩, -, X', hS', hg', ⟨L, hq, hl, hk, hn, hC⟩, st⟩ := X.specialBackS hx hy1 (own := own) (index := index) hown (mvT hZ' w1) (mvT hZ' w2) (mvT hZ' w4) hy hK hg hsize (Steps.refl _) hlen hstack hW hdg (fun _ _ => ⟨ha, eT, hc, hs⟩)
  dsimp only [Pt.U, Pt.locs, Pt.cells, Pt.slots] at X' hS' hg' hq hl hk hn hC st
  subst hl hk hn eT
  obtain ⟨Y, hS2, hZ2, hown2⟩ := rebS hS hk0 X' hS' hg' hZ' hown
  exact ⟨v, T', L, Y, hq, hZ2, hown2, hS2, hC, fun _ k => st.trans k⟩
theorem own_viW (X : Stand p l e R (s.setVm vm0) m args below meth c T locs cells slots) (hx : p.tables.exec = Jvm.exec) (hZ : Z.Warmed39 vm0) {own C : String} {index : Nat} {y z : MethodName}
    (hown : vm0.findClass own = some m.cls) (w1 : (Jvm.Cond.methodLink own index y).before a0 Z = true) (w2 : (Jvm.Cond.declares y).before a0 Z = true) (w3 : (Jvm.Cond.selects C y z).before a0 Z = true) (w4 : (Jvm.Cond.instanceMethod z).before a0 Z = true) (hn : z = y ∨ (∃ S, (Jvm.Cond.superclass y.cls S).before a0 Z = true) ∨ (Jvm.Cond.noSuperclass y.cls).before a0 Z = true ∨ ∃ C' y' z', z'.cls = y.cls ∧ (Jvm.Cond.selects C' y' z').before a0 Z = true)
    (hy : y.cls ≠ "java/lang/invoke/MethodHandle" ∧ y.cls ≠ "java/lang/invoke/VarHandle") {W kc ks : Nat} {as' : Array Value} {Q : Option Value → Heap → List Loc → Prop}
    (hK : BackS l R p e below (s.setVm vm0) args z 3 W (fun A a => a = as' ∧ A.U.heap = h ∧ A.cells + kc ≤ R.cells ∧ A.slots + ks ≤ R.slots) (fun A _ v B => ∃ L, Q v B.U.heap L ∧ B.locs = A.locs ++ L ∧ B.cells = A.cells + kc ∧ B.slots = A.slots + ks ∧ CHr Z EL vm0 h B.U.vm B.U.heap))
    (eT : T.heap = h) {k0 : Nat} (hS : s.Since vm0 k0) (hk0 : k0 ≤ h.size) {b : Addr} (E : Exa Z h b C) {g : JFrame} (hg : g.method = m) (hsize : g.locals.size = c.maxLocals) {argsL rest : List Value} (ha : (.ref b :: argsL).toArray = as') (hlen : ∀ sig, parseMethodDescriptor y.desc = some sig → argsL.length = sig.parameters.length)
    (hstack : g.stack = argsL.reverse ++ .ref b :: rest) (hW : 2 * g.monitorRoom + (rest.map fun v => v.category).sum ≤ W) (hdg : decode c.code g.pc = .ok (.invokevirtual index, 3)) (hc : cells + kc ≤ R.cells) (hs : slots + ks ≤ R.slots) :
    ∃ (v : Option Value) (T' : State) (L : List Loc), Stand p l e R (s.setVm T'.vm) m args below meth c T' (locs ++ L) (cells + kc) (slots + ks) ∧ Q v T'.heap L ∧ Z.Warmed39 T'.vm ∧ T'.vm.findClass own = some m.cls ∧ s.Since T'.vm T'.heap.size ∧ CHr Z EL vm0 h T'.vm T'.heap ∧ ∀ t, Steps p.tables e below (T'.setTop { g with pc := g.pc + 3, stack := v.toList ++ rest }) t → Steps p.tables e below (T.setTop g) t := by
  have hZ' : Z.Warmed39 (s.setVm vm0).vm := hZ
  have hnf : NotFace (s.setVm vm0) y := by
    rcases hn with rfl | ⟨S, w⟩ | w | ⟨C', y', z', hc, w⟩
    · exact notFace_of_selects (args := #[]) (mvT hZ' w3)
    · exact nf_super (args := #[]) (mvT hZ' w)
    · exact nf_top (args := #[]) (mvT hZ' w)
    · exact own_nfS hc (mvT (args := #[]) hZ' w)
  obtain ⟨cq, kq, qa, qb, qc⟩ := isOf hZ' eT E
  obtain ⟨v, vm₁, ⟨T', L', k', n'⟩, -, X', hS', hg', ⟨L, hq, hl, hk, hn, hC⟩, st⟩ := X.virtualBackS hx (y := y) (z := z) (own := own) (index := index) hown (mvT hZ' w1) (mvT hZ' w2) hnf (mvT hZ' w3) (mvT hZ' w4) hy hK qa qc hg hsize (Steps.refl _) hlen hstack hW hdg (fun _ _ => ⟨ha, eT, hc, hs⟩)
  dsimp only [Pt.U, Pt.locs, Pt.cells, Pt.slots] at X' hS' hg' hq hl hk hn hC st
  subst hl hk hn eT
  obtain ⟨Y, hS2, hZ2, hown2⟩ := rebS hS hk0 X' hS' hg' hZ' hown
  exact ⟨v, T', L, Y, hq, hZ2, hown2, hS2, hC, fun _ k => st.trans k⟩
theorem own_catR {a : Addr} : (Value.ref a).category = 1 := rfl
theorem own_catI {a : Int32} : (Value.int a).category = 1 := rfl
theorem own_catJ {a : Int64} : (Value.long a).category = 2 := rfl
theorem own_cat {v : Value} (hv : v.isRef = true) : v.category = 1 := by rcases ref_cases hv with rfl | ⟨a, rfl⟩ <;> rfl
theorem own_narR {v : Value} {C : String} : narrow (.object C) v = v := by cases v <;> rfl
theorem own_fitR {v : Value} {C : String} (hv : v.isRef = true) : fits (.object C) v = true := by rcases ref_cases hv with rfl | ⟨a, rfl⟩ <;> rfl
theorem own_retA (X : Stand p l e R s m args below meth c T locs cells slots) (hx : p.tables.exec = Jvm.exec) {pc : Nat} {Ls : Array Slot} {w : Value} {t : FieldType} {rest : List Value} (hret : meth.sig.returnType = some t) (ht : t.isReference = true) (hw : w.isRef = true) (hn : narrow t w = w) (hd : decode c.code pc = .ok (.areturn, 1)) :
    own_Ret p e below m T (some w) (mkF m pc Ls (w :: rest)) := fun _ hl => retOut X hx hret hn (Or.inr (Or.inr (Or.inr (Or.inr ⟨rfl, ht, hw⟩)))) hd hl
theorem own_retI (X : Stand p l e R s m args below meth c T locs cells slots) (hx : p.tables.exec = Jvm.exec) {pc : Nat} {Ls : Array Slot} {z : Int32} {rest : List Value} (hret : meth.sig.returnType = some .int) (hd : decode c.code pc = .ok (.ireturn, 1)) :
    own_Ret p e below m T (some (.int z)) (mkF m pc Ls (.int z :: rest)) := fun _ hl => retOut X hx hret rfl (Or.inl ⟨rfl, Or.inl rfl, z, rfl⟩) hd hl
theorem own_retN (X : Stand p l e R s m args below meth c T locs cells slots) (hx : p.tables.exec = Jvm.exec) {pc : Nat} {Ls : Array Slot} {z : Int32} {t : FieldType} {rest : List Value} (hret : meth.sig.returnType = some t) (ht : t = .boolean ∨ t = .byte ∨ t = .char ∨ t = .short) (hd : decode c.code pc = .ok (.ireturn, 1)) :
    own_Ret p e below m T (some (.int (nar t z))) (mkF m pc Ls (.int z :: rest)) := fun _ hl => retN X hx hret ht hd hl
theorem own_retV (X : Stand p l e R s m args below meth c T locs cells slots) (hx : p.tables.exec = Jvm.exec) {pc : Nat} {Ls : Array Slot} (hret : meth.sig.returnType = none) (hd : decode c.code pc = .ok (.return_, 1)) :
    own_Ret p e below m T none (mkF m pc Ls []) := fun _ hl => X.returnOut hx hret hd hl
theorem own_in (X : Stand p l e R s m args below meth c T locs cells slots) (hx : p.tables.exec = Jvm.exec) (hZ : Z.Warmed39 s.vm) {own C : String} {index count : Nat} {xi y : MethodName}
    (hown : s.vm.findClass own = some m.cls) (w1 : (Jvm.Cond.methodLink own index xi).before a0 Z = true) (w2 : (Jvm.Cond.declares xi).before a0 Z = true) (w3 : (Jvm.Cond.interfaceMethod xi.cls xi.cls xi.name xi.desc).before a0 Z = true) (w4 : (Jvm.Cond.selects C xi y).before a0 Z = true) (w5 : (Jvm.Cond.instanceMethod y).before a0 Z = true)
    (w6 : (Jvm.Cond.publicMethod y).before a0 Z = true) (w7 : (Jvm.Cond.unhidden C xi.name xi.desc).before a0 Z = true) (w8 : (Jvm.Cond.castable C xi.cls).before a0 Z = true)
    (hy : xi.cls ≠ "java/lang/invoke/MethodHandle" ∧ xi.cls ≠ "java/lang/invoke/VarHandle") {W kc ks : Nat} {as' : Array Value} {Q : Option Value → Heap → List Loc → Prop}
    (hK : Back l R p e below s args y 5 W (fun A a => a = as' ∧ A.U.heap = h ∧ A.cells + kc ≤ R.cells ∧ A.slots + ks ≤ R.slots) (fun A _ v B => ∃ L, Q v B.U.heap L ∧ B.locs = A.locs ++ L ∧ B.cells = A.cells + kc ∧ B.slots = A.slots + ks))
    (eT : T.heap = h) {b : Addr} (E : Exa Z h b C) {g : JFrame} (hg : g.method = m) (hsize : g.locals.size = c.maxLocals) {argsL rest : List Value} (ha : (.ref b :: argsL).toArray = as') (hlen : ∀ sig, parseMethodDescriptor xi.desc = some sig → argsL.length = sig.parameters.length)
    (hstack : g.stack = argsL.reverse ++ .ref b :: rest) (hW : 2 * g.monitorRoom + (rest.map fun v => v.category).sum ≤ W) (hdg : decode c.code g.pc = .ok (.invokeinterface index count, 5)) (hc : cells + kc ≤ R.cells) (hs : slots + ks ≤ R.slots) :
    ∃ (v : Option Value) (T' : State) (L : List Loc), Stand p l e R s m args below meth c T' (locs ++ L) (cells + kc) (slots + ks) ∧ Q v T'.heap L ∧ ∀ t, Steps p.tables e below (T'.setTop { g with pc := g.pc + 5, stack := v.toList ++ rest }) t → Steps p.tables e below (T.setTop g) t := by
  obtain ⟨cq, kq, qa, qb, qc⟩ := isOf hZ eT E
  obtain ⟨v, vm₁, ⟨T', L', k', n'⟩, -, X', ⟨L, hq, hl, hk, hn⟩, st⟩ := X.interfaceBack hx (xi := xi) (y := y) hown (mvT hZ w1) (mvT hZ w2) (mvT hZ w3 (by simp [Cond.onTables, Cond.keepsFace, Cond.keeps, Cond.steady, Cond.faceAtom, hy.1, hy.2])) (mvT hZ w4) (mvT hZ w5) (mvT hZ w6) (mvT hZ w7) (mvT hZ w8) hy hK qa qb qc hg hsize (Steps.refl _) hlen hstack hW hdg (fun _ _ => ⟨ha, eT, hc, hs⟩)
  dsimp only [Pt.U, Pt.locs, Pt.cells, Pt.slots] at X' hq hl hk hn st
  subst hl hk hn
  exact ⟨v, T', L, X', hq, fun _ k => st.trans k⟩
/-- instanceof, whatever it says -/
theorem own_inst (X : Stand p l e R s m args below meth c T locs cells slots) (hx : p.tables.exec = Jvm.exec) (hZ : Z.Warmed39 s.vm) {own K C : String} {index : Nat} (hown : s.vm.findClass own = some m.cls) (w : (Jvm.Cond.classLink own index K).before a0 Z = true) (eT : T.heap = h) {a : Addr} (E : Exa Z h a C)
    {g : JFrame} (hg : g.method = m) {rest : List Value} (hs : g.stack = .ref a :: rest) (hd : decode c.code g.pc = .ok (.instanceof index, 3)) :
    ∃ (z : Int32) (T' : State), (z = 0 ∨ z = 1) ∧ Stand p l e R s m args below meth c T' locs cells slots ∧ T'.heap = h ∧ ∀ t, Steps p.tables e below (T'.setTop { g with pc := g.pc + 3, stack := .int z :: rest }) t → Steps p.tables e below (T.setTop g) t := by
  obtain ⟨cell, k, e1, e2, e3, e4, e5⟩ := E
  have w' : (Jvm.Cond.classLink own index K).before args s = true := mv hZ w
  have hpl : e.platform.magicAccessors = ({} : Platform).magicAccessors := by rw [X.admits.platform]
  obtain ⟨cT, hcT, -⟩ := Cond.classLink_spec hown w' e.platform hpl
  obtain ⟨k', q, -⟩ := hZ.alike.2.2 _ _ e3
  cases hb : s.vm.assignable cell.cls cT with
  | true =>
    obtain ⟨vm', X', st⟩ := X.instanceofYes hx hown w' (by rw [eT]; exact e1) e4 hcT hb hg hs hd
    exact ⟨1, _, Or.inr rfl, X', eT, st⟩
  | false =>
    obtain ⟨T', X', e', st⟩ := instNo X hx hZ hown w eT (C := C) ⟨cell, k, e1, e2, e3, e4, e5⟩ ⟨cell.cls, cT, e2, by rw [← hZ.alike.findClass]; exact hcT, by rw [← hZ.alike.assignable]; exact hb⟩ hg hs hd
    exact ⟨0, _, Or.inl rfl, X', e', st⟩
/-- a class that isn't among the superclasses and is no interface (the word instantiable says so) -/
theorem own_NSroot {O K : String} {n : Nat} (w : (Jvm.Cond.noSuperclass O).before a0 Z = true) (wk : (Jvm.Cond.instantiable K n).before a0 Z = true) (hn : O ≠ K) : NS Z O K := by
  obtain ⟨c, k, h1, h2, h3, -, -⟩ := Cond.noSuperclass_spec w
  obtain ⟨t, kt, g1, -⟩ := Cond.instantiable_spec wk
  have ne := ids_ne h1 g1 hn
  refine ⟨c, t, h1, g1, fun fuel => ?_⟩
  cases fuel with
  | zero => rfl
  | succ f => simp [Vm.isSubclassAux, ne, h2, h3]
theorem own_NSno {C S K : String} {n : Nat} (w : (Jvm.Cond.superclass C S).before a0 Z = true) (wk : (Jvm.Cond.instantiable K n).before a0 Z = true) (q : NS Z C K) (hn : C ≠ K) : ∃ c t, Z.vm.findClass C = some c ∧ Z.vm.findClass K = some t ∧ Z.vm.assignable c t = false := by
  obtain ⟨c, t, h0, g0, n3⟩ := q
  obtain ⟨p, k, kp, h1, h2, h3, h4, h5, -, h7⟩ := Cond.superclass_spec h0 w
  obtain ⟨t', kt, g1, g2, g3, g4, -⟩ := Cond.instantiable_spec wk
  cases g0.symm.trans g1
  have g5 : kt.isInterface = false := by simp only [Bool.or_eq_false_iff] at g4; exact g4.1
  have ne := ids_ne h0 g0 hn
  refine ⟨c, t, h0, g0, ?_⟩
  show Z.vm.assignableAux (255 + 1) c t = false
  simp [Vm.assignableAux, ne, h2, g2, h5, g3, g5, Vm.isSubclass, n3]
theorem own_pr (X : Stand p l e R s m args below meth c T locs cells slots) (hx : p.tables.exec = Jvm.exec) (hZ : Z.Warmed39 s.vm) {own C : String} {index : Nat} {y : MethodName} {bytes : ByteArray} {maxL : Nat} {ret : Option FieldType}
    (hown : s.vm.findClass own = some m.cls) (w1 : (Jvm.Cond.methodLink own index y).before a0 Z = true) (w2 : (Jvm.Cond.instanceMethod y).before a0 Z = true) (w3 : (Jvm.Cond.selects C y y).before a0 Z = true) (w4 : (Jvm.Cond.privateMethod y).before a0 Z = true) (w5 : (Jvm.Cond.code y bytes maxL ret).before a0 Z = true)
    (hy : y.cls ≠ "java/lang/invoke/MethodHandle" ∧ y.cls ≠ "java/lang/invoke/VarHandle") {W kc ks : Nat} {as' : Array Value} {Q : Option Value → Heap → List Loc → Prop}
    (hK : Back l R p e below s args y 3 W (fun A a => a = as' ∧ A.U.heap = h ∧ A.cells + kc ≤ R.cells ∧ A.slots + ks ≤ R.slots) (fun A _ v B => ∃ L, Q v B.U.heap L ∧ B.locs = A.locs ++ L ∧ B.cells = A.cells + kc ∧ B.slots = A.slots + ks))
    (eT : T.heap = h) {b : Addr} {C' : String} (E : Exa Z h b C') {g : JFrame} (hg : g.method = m) (hsize : g.locals.size = c.maxLocals) {argsL rest : List Value} (ha : (.ref b :: argsL).toArray = as') (hlen : ∀ sig, parseMethodDescriptor y.desc = some sig → argsL.length = sig.parameters.length)
    (hstack : g.stack = argsL.reverse ++ .ref b :: rest) (hW : 2 * g.monitorRoom + (rest.map fun v => v.category).sum ≤ W) (hdg : decode c.code g.pc = .ok (.invokevirtual index, 3)) (hc : cells + kc ≤ R.cells) (hs : slots + ks ≤ R.slots) :
    ∃ (v : Option Value) (T' : State) (L : List Loc), Stand p l e R s m args below meth c T' (locs ++ L) (cells + kc) (slots + ks) ∧ Q v T'.heap L ∧ ∀ t, Steps p.tables e below (T'.setTop { g with pc := g.pc + 3, stack := v.toList ++ rest }) t → Steps p.tables e below (T.setTop g) t := by
  obtain ⟨cq, q, q'⟩ := E.cell
  have hpriv : s.PrivateAt y := Cond.privateMethod_at (mvP hZ w4 (args := #[]))
  obtain ⟨mk, methM, hnamed, hmethM, hstM, habM⟩ := Cond.instanceMethod_spec (mvT (args := args) hZ w2)
  obtain ⟨methM', cM, hmethM', -, -, -, -, -, -, hsigM⟩ := Cond.code_spec hnamed (mvT (args := args) hZ w5)
  cases hmethM.symm.trans hmethM'
  obtain ⟨c2, r2, m2, -, -, q3, -, kP, hkP, hkPi⟩ := Cond.selects_spec (mvT (args := args) hZ w3)
  cases hnamed.symm.trans q3
  have hselP : selectMethod e.platform s.vm cq.cls mk = .method mk := selectMethod_private hmethM (hpriv mk methM hnamed hmethM)
  obtain ⟨vm₁, X₁, hstep₁⟩ := X.invokevirtual hx hown (mvT hZ w1) hnamed hmethM hstM hkP hkPi hy (a := b) (cell := cq) (by rw [eT]; exact q) q' hselP hmethM habM hkP hkPi (g := g) hg (argsL := argsL) (rest := rest) (hlen _ hsigM) hstack hdg
  obtain ⟨v, ⟨T', L', k', n'⟩, X', ⟨L, hq, hl, hk, hn⟩, hsteps⟩ := hK m meth c ⟨T.setVm vm₁, locs, cells, slots⟩ { g with stack := rest } (.invokevirtual index) mk (.ref b :: argsL).toArray X₁ hg hsize hdg hW (X₁.named hnamed) ⟨ha, eT, hc, hs⟩
  dsimp only [Pt.U, Pt.locs, Pt.cells, Pt.slots] at X' hq hl hk hn hsteps
  subst hl hk hn
  exact ⟨v, T', L, X', hq, fun _ k => (hstep₁ _ fun acts => by rw [doInvoke_state]; exact Steps.refl _).trans (hsteps.trans k)⟩
theorem own_selfp {y : MethodName} {n : Nat} (w3 : (Jvm.Cond.privateMethod y).before a0 Z = true) (wi : (Jvm.Cond.instanceMethod y).before a0 Z = true) (wk : (Jvm.Cond.instantiable y.cls n).before a0 Z = true) (hy : y.cls ≠ "java/lang/invoke/MethodHandle" ∧ y.cls ≠ "java/lang/invoke/VarHandle") : (Jvm.Cond.selects y.cls y y).before a0 Z = true := by
  obtain ⟨t, kt, g1, g2, g3, g4, -⟩ := Cond.instantiable_spec wk
  have g5 : kt.isInterface = false := by simp only [Bool.or_eq_false_iff] at g4; exact g4.1
  exact selects_self_of_private g1 g2 g5 (Cond.privateMethod_at w3) wi hy
/-- the entry's class has the method itself, and it is no interface: a 'selects' word of another method of that class says so -/
theorem own_same {y y' z : MethodName} {C : String} (hy : y.cls ≠ "java/lang/invoke/MethodHandle" ∧ y.cls ≠ "java/lang/invoke/VarHandle") (hc : z.cls = y.cls) (ws : (Jvm.Cond.selects C y' z).before a0 Z = true) (wi : (Jvm.Cond.instanceMethod y).before a0 Z = true) : (Jvm.Cond.sameMethod y.cls y.cls y.name y.desc).before a0 Z = true := by
  obtain ⟨mk, methM, hnamed, -⟩ := Cond.instanceMethod_spec wi
  obtain ⟨c2, r2, m2, -, -, q3, -, kP, hkP, hkPi⟩ := Cond.selects_spec ws
  have f1 := findClass_of_methodNamed hnamed
  have f2 := findClass_of_methodNamed q3
  rw [hc] at f2
  have e : m2.cls = mk.cls := Option.some.inj (f2.symm.trans f1)
  have f3 : Z.methodFound? y.cls y.name y.desc = some mk := State.methodFound?_of_named hnamed hy
  have f4 : Z.methodNamed? (⟨y.cls, y.name, y.desc⟩ : MethodName) = some mk := hnamed
  rw [e] at hkP
  simp [Cond.before, Cond.holds, Cond.value, f1, f3, f4, hkP, hkPi]
theorem own_su (X : Stand p l e R s m args below meth c T locs cells slots) (hx : p.tables.exec = Jvm.exec) (hZ : Z.Warmed39 s.vm) {own C : String} {index : Nat} {y : MethodName} {bytes : ByteArray} {maxL : Nat} {ret : Option FieldType}
    (hown : s.vm.findClass own = some m.cls) (w1 : (Jvm.Cond.methodLink own index y).before a0 Z = true) (w2 : (Jvm.Cond.sameMethod y.cls y.cls y.name y.desc).before a0 Z = true) (w3 : (Jvm.Cond.instanceMethod y).before a0 Z = true) (w4 : (Jvm.Cond.superclass own y.cls).before a0 Z = true) (hn : y.name ≠ "<init>") (w5 : (Jvm.Cond.code y bytes maxL ret).before a0 Z = true)
    {W kc ks : Nat} {as' : Array Value} {Q : Option Value → Heap → List Loc → Prop}
    (hK : Back l R p e below s args y 3 W (fun A a => a = as' ∧ A.U.heap = h ∧ A.cells + kc ≤ R.cells ∧ A.slots + ks ≤ R.slots) (fun A _ v B => ∃ L, Q v B.U.heap L ∧ B.locs = A.locs ++ L ∧ B.cells = A.cells + kc ∧ B.slots = A.slots + ks))
    (eT : T.heap = h) {b : Addr} (E : Exa Z h b C) {g : JFrame} (hg : g.method = m) (hsize : g.locals.size = c.maxLocals) {argsL rest : List Value} (ha : (.ref b :: argsL).toArray = as') (hlen : ∀ sig, parseMethodDescriptor y.desc = some sig → argsL.length = sig.parameters.length)
    (hstack : g.stack = argsL.reverse ++ .ref b :: rest) (hW : 2 * g.monitorRoom + (rest.map fun v => v.category).sum ≤ W) (hdg : decode c.code g.pc = .ok (.invokespecial index, 3)) (hc : cells + kc ≤ R.cells) (hs : slots + ks ≤ R.slots) :
    ∃ (v : Option Value) (T' : State) (L : List Loc), Stand p l e R s m args below meth c T' (locs ++ L) (cells + kc) (slots + ks) ∧ Q v T'.heap L ∧ ∀ t, Steps p.tables e below (T'.setTop { g with pc := g.pc + 3, stack := v.toList ++ rest }) t → Steps p.tables e below (T.setTop g) t := by
  obtain ⟨v, vm₁, ⟨T', L', k', n'⟩, -, X', ⟨L, hq, hl, hk, hn'⟩, st⟩ := superBack X hx hZ hown w1 w2 w3 w4 hn hK eT (Ins.self E) hg hsize w5 hlen hstack hW hdg (fun _ _ => ⟨ha, eT, hc, hs⟩)
  dsimp only [Pt.U, Pt.locs, Pt.cells, Pt.slots] at X' hq hl hk hn' st
  subst hl hk hn'
  exact ⟨v, T', L, X', hq, fun _ k => st.trans k⟩
end Own

theorem own_i2c (x : Int32) : nar .char (x.toUInt32.toUInt16.toUInt32.toInt32) = x.toUInt32.toUInt16.toUInt32.toInt32 := by
  have a := c_i2c x
  have b := c_i2c (x.toUInt32.toUInt16.toUInt32.toInt32)
  apply Int32.toInt_inj.mp
  show ((x.toUInt32.toUInt16.toUInt32.toInt32).toUInt32.toUInt16.toUInt32.toInt32).toInt = _
  omega
theorem own_i2b (x : Int32) : nar .byte (x.toInt8.toInt32) = x.toInt8.toInt32 := by
  simp [nar]
theorem own_c255 (x : Int32) : ¬ (x &&& (255 : Int32)) < 0 ∧ ¬ (255 : Int32) < (x &&& (255 : Int32)) := by
  have a := c_and x 255 (by decide)
  have e : (255 : Int32).toInt = 255 := rfl
  have z : (0 : Int32).toInt = 0 := rfl
  rw [Int32.lt_iff_toInt_lt, Int32.lt_iff_toInt_lt]
  omega
theorem own_and255 (x : Int32) : ¬ ((x &&& (255 : Int32)).toUInt32.toUInt16.toUInt32.toInt32) < 0 ∧ ¬ (255 : Int32) < ((x &&& (255 : Int32)).toUInt32.toUInt16.toUInt32.toInt32) := by
  rw [i2c_mask]; exact own_c255 x
theorem own_narc {x : Int32} (h1 : ¬ x < (0 : Int32)) (h2 : ¬ (255 : Int32) < x) : nar .char x = x := by
  have a := c_i2c x
  have e : (255 : Int32).toInt = 255 := rfl
  have z : (0 : Int32).toInt = 0 := rfl
  rw [Int32.lt_iff_toInt_lt] at h1 h2
  apply Int32.toInt_inj.mp
  show x.toUInt32.toUInt16.toUInt32.toInt32.toInt = x.toInt
  omega
theorem own_one {x : Int32} (h1 : ¬ x < (0 : Int32)) (h2 : ¬ (255 : Int32) < x) : ∀ c ∈ ([x] : List Int32), ¬ c < 0 ∧ ¬ (255 : Int32) < c := fun c hc => by rw [List.mem_singleton.mp hc]; exact ⟨h1, h2⟩
/-- the String at a spells cs (Latin-1) -/
def own_Str (Z : State) (h : Heap) (a : Addr) (cs : List Int32) : Prop := ∃ (t : Addr) (kb : ClassId), Exa Z h a "java/lang/String" ∧ Fld Z h a "java/lang/String" "value" "[B" (.ref t) ∧ Fld Z h a "java/lang/String" "coder" "B" (.int 0) ∧ Arv Z h t kb .byte (Int32.ofNat cs.length) ((cs.map fun c => c.toInt8.toInt32).map Value.int) (.int 0) ∧ (∀ c ∈ cs, ¬ c < 0 ∧ ¬ (255 : Int32) < c) ∧ cs.length ≤ 4000
theorem own_Str_keep {Z : State} {h h' : Heap} {a : Addr} {cs : List Int32} (F : own_Str Z h a cs) (K : Keep h h' []) : own_Str Z h' a cs := by
  obtain ⟨t, kb, E, V, C, A, r⟩ := F
  exact ⟨t, kb, E.keep K, V.keep K nin0, C.keep K nin0, A.keep K nin0, r⟩
theorem own_up {cs : List Int32} (h : ∀ c ∈ cs, ¬ c < 0 ∧ ¬ (255 : Int32) < c) : ∀ c ∈ cs, ¬ c < 0 ∧ ¬ (65535 : Int32) < c := fun c hc => ⟨(h c hc).1, fun q => (h c hc).2 (by rw [Int32.lt_iff_toInt_lt] at q ⊢; have e1 : (65535 : Int32).toInt = 65535 := rfl; have e2 : (255 : Int32).toInt = 255 := rfl; omega)⟩
set_option maxRecDepth 65536 in
theorem own_hws_in : ∀ d ∈ StrChars.Road.words, d ∈ tables_1 := by decide +kernel
theorem own_hws {Z : State} {a0 : Array Value} (hw : ∀ d ∈ tables_1, d.before a0 Z = true) : ∀ d ∈ StrChars.Road.words, d.before a0 Z = true := fun d hd => hw d (own_hws_in d hd)
theorem own_sel (k : Int32) (h : ¬ (k &&& (2147483647 : Int32)) % (6 : Int32) = (1 : Int32) ∧ ¬ (k &&& (2147483647 : Int32)) % (6 : Int32) = (2 : Int32) ∧ ¬ (k &&& (2147483647 : Int32)) % (6 : Int32) = (3 : Int32) ∧ ¬ (k &&& (2147483647 : Int32)) % (6 : Int32) = (4 : Int32) ∧ ¬ (k &&& (2147483647 : Int32)) % (6 : Int32) = (5 : Int32)) : (k &&& (2147483647 : Int32)) % (6 : Int32) = (0 : Int32) := by
  have a := c_and k 2147483647 (by decide)
  have b := c_iremV (k &&& 2147483647) 6
  have c6 : (6 : Int32).toInt = 6 := rfl
  have c := b.1 a.1 (by rw [c6]; decide)
  rw [c6] at c
  generalize (k &&& (2147483647 : Int32)) % (6 : Int32) = z at h c ⊢
  have e : ∀ n : Int32, ¬ z = n → ¬ z.toInt = n.toInt := fun n q r => q (Int32.toInt_inj.mp r)
  have e1 := e 1 h.1; have e2 := e 2 h.2.1; have e3 := e 3 h.2.2.1; have e4 := e 4 h.2.2.2.1; have e5 := e 5 h.2.2.2.2
  have t1 : (1 : Int32).toInt = 1 := rfl
  have t2 : (2 : Int32).toInt = 2 := rfl
  have t3 : (3 : Int32).toInt = 3 := rfl
  have t4 : (4 : Int32).toInt = 4 := rfl
  have t5 : (5 : Int32).toInt = 5 := rfl
  have t0 : (0 : Int32).toInt = 0 := rfl
  apply Int32.toInt_inj.mp
  rw [t0]; omega
theorem own_sel0 {z : Int32} (h : z = (0 : Int32)) : ¬ z = (1 : Int32) ∧ ¬ z = (2 : Int32) ∧ ¬ z = (3 : Int32) ∧ ¬ z = (4 : Int32) ∧ ¬ z = (5 : Int32) := by subst h; decide
theorem own_exa_v {s : State} {args : Array Value} {t : Term} {C : String} (h : (Jvm.Cond.exactly t C).value args s none s [] = some true) : ∃ a, t.eval args s none [] s = some (.ref a) := by
  obtain ⟨a', c', cell, k, e1, -⟩ := Cond.exactly_spec (Cond.before_iff.mpr h)
  exact ⟨a', e1⟩

theorem own_d10_0 : decode jdk_30_method_1_code 0 = .ok (.aload_n 0, 1) := by decide +kernel
theorem own_d10_1 : decode jdk_30_method_1_code 1 = .ok (.invokespecial 1, 3) := by decide +kernel
theorem own_d10_4 : decode jdk_30_method_1_code 4 = .ok (.return_, 1) := by decide +kernel
theorem own_pn0 : plainName "java/lang/Record" = true := by first | (simp [plainName, overriddenIn]; done) | decide +kernel
set_option maxHeartbeats 4000000 in
theorem own_ef_rm10 (m : MethodId) (x0 : Addr) : entryFrame m #[(.ref x0)] 1 = mkF m 0 #[.val (.ref x0)] [] := by rfl
set_option maxRecDepth 65536 in
set_option maxHeartbeats 40000000 in
theorem rm10 (l : Launch) (Z : State) (a0 : Array Value) (hw : ∀ d ∈ tables_1, d.before a0 Z = true) (z0 : Int32) (O2 : Sta Z Z.heap "java/lang/String" "COMPACT_STRINGS" "Z" (.int z0)) (P5 : ¬ z0 = (0 : Int32)) (u0 : Addr) (O_BADNAME : Sta Z Z.heap "com/example/claimwright/claimwright/vendorfile/Rejection" "BADNAME" "Lcom/example/claimwright/claimwright/vendorfile/Rejection;" (.ref u0)) (u1 : Addr) (O_DUPLICATE : Sta Z Z.heap "com/example/claimwright/claimwright/vendorfile/Rejection" "DUPLICATE" "Lcom/example/claimwright/claimwright/vendorfile/Rejection;" (.ref u1)) (u2 : Addr) (O_HEADER : Sta Z Z.heap "com/example/claimwright/claimwright/vendorfile/Rejection" "HEADER" "Lcom/example/claimwright/claimwright/vendorfile/Rejection;" (.ref u2)) (u3 : Addr) (O_TRAILER : Sta Z Z.heap "com/example/claimwright/claimwright/vendorfile/Rejection" "TRAILER" "Lcom/example/claimwright/claimwright/vendorfile/Rejection;" (.ref u3)) (u4 : Addr) (O_EMPTY : Sta Z Z.heap "com/example/claimwright/claimwright/vendorfile/Rejection" "EMPTY" "Lcom/example/claimwright/claimwright/vendorfile/Rejection;" (.ref u4)) (em : Addr) (O_em : Sta Z Z.heap "java/util/ImmutableCollections" "EMPTY_MAP" "Ljava/util/ImmutableCollections$MapN;" (.ref em)) (ws : List Jvm.Cond) (a : Addr) (h0 : Heap) (n0 : Nat) (Z0 : n0 ≤ h0.size) :
    own_MetN l Z (⟨"java/lang/Record", "<init>", "()V"⟩ : MethodName) jdk_30_method_1_code 1 none ws ({ frames := 1, cells := 0, slots := 0, locals := 12 } : Room) #[(.ref a)] h0 (fun v h L => Fr n0 L ∧ h = h0 ∧ (((v = none)))) := by
  refine own_metN own_pn0 ?_
  intro p e s m below meth c s₁ G hx hby hml hZ hown hnm hret X0 e0 go fin
  have N0 := Fr.nil n0
  refine go _ _ (fun _ k => castTop (own_ef_rm10 m a) k) ?_
  show G (s₁.setTop (mkF m 0 #[.val (.ref a)] []))
  refine go _ _ (fun _ k => XS.aloadN X0.here hx rfl (hb hby own_d10_0) rfl rfl k) ?_
  show G (s₁.setTop (mkF m 1 #[.val (.ref a)] [(.ref a)]))
  obtain ⟨T101, X101, e101, st101⟩ := initO X0 hx hZ hown (ow hw 62 rfl) (ow hw 17 rfl) (ow hw 18 rfl) e0 (g := (mkF m 1 #[.val (.ref a)] [(.ref a)])) rfl (by rw [hml]; rfl) rfl (hb hby own_d10_1) (by decide) (W := 0) (by show 2 * 0 + _ ≤ _; exact Nat.le_of_eq rfl) (by decide)
  refine go _ _ (st101) ?_
  show G (T101.setTop (mkF m 4 #[.val (.ref a)] []))
  refine fin T101 _ _ _ none X101 (fun _ => rfl) (by decide) (by decide) (by rw [e101]; exact ⟨N0, rfl, rfl⟩) _ (own_retV X101 hx hret (hb hby own_d10_4))
theorem own_d8_0 : decode jdk_71_method_1_code 0 = .ok (.aload_n 0, 1) := by decide +kernel
theorem own_d8_1 : decode jdk_71_method_1_code 1 = .ok (.invokespecial 1, 3) := by decide +kernel
theorem own_d8_4 : decode jdk_71_method_1_code 4 = .ok (.return_, 1) := by decide +kernel
theorem own_pn1 : plainName "java/util/AbstractMap" = true := by first | (simp [plainName, overriddenIn]; done) | decide +kernel
set_option maxHeartbeats 4000000 in
theorem own_ef_rm8 (m : MethodId) (x0 : Addr) : entryFrame m #[(.ref x0)] 1 = mkF m 0 #[.val (.ref x0)] [] := by rfl
set_option maxRecDepth 65536 in
set_option maxHeartbeats 40000000 in
theorem rm8 (l : Launch) (Z : State) (a0 : Array Value) (hw : ∀ d ∈ tables_1, d.before a0 Z = true) (z0 : Int32) (O2 : Sta Z Z.heap "java/lang/String" "COMPACT_STRINGS" "Z" (.int z0)) (P5 : ¬ z0 = (0 : Int32)) (u0 : Addr) (O_BADNAME : Sta Z Z.heap "com/example/claimwright/claimwright/vendorfile/Rejection" "BADNAME" "Lcom/example/claimwright/claimwright/vendorfile/Rejection;" (.ref u0)) (u1 : Addr) (O_DUPLICATE : Sta Z Z.heap "com/example/claimwright/claimwright/vendorfile/Rejection" "DUPLICATE" "Lcom/example/claimwright/claimwright/vendorfile/Rejection;" (.ref u1)) (u2 : Addr) (O_HEADER : Sta Z Z.heap "com/example/claimwright/claimwright/vendorfile/Rejection" "HEADER" "Lcom/example/claimwright/claimwright/vendorfile/Rejection;" (.ref u2)) (u3 : Addr) (O_TRAILER : Sta Z Z.heap "com/example/claimwright/claimwright/vendorfile/Rejection" "TRAILER" "Lcom/example/claimwright/claimwright/vendorfile/Rejection;" (.ref u3)) (u4 : Addr) (O_EMPTY : Sta Z Z.heap "com/example/claimwright/claimwright/vendorfile/Rejection" "EMPTY" "Lcom/example/claimwright/claimwright/vendorfile/Rejection;" (.ref u4)) (em : Addr) (O_em : Sta Z Z.heap "java/util/ImmutableCollections" "EMPTY_MAP" "Ljava/util/ImmutableCollections$MapN;" (.ref em)) (ws : List Jvm.Cond) (a : Addr) (h0 : Heap) (n0 : Nat) (Z0 : n0 ≤ h0.size) :
    own_MetN l Z (⟨"java/util/AbstractMap", "<init>", "()V"⟩ : MethodName) jdk_71_method_1_code 1 none ws ({ frames := 1, cells := 0, slots := 0, locals := 12 } : Room) #[(.ref a)] h0 (fun v h L => Fr n0 L ∧ h = h0 ∧ (((v = none)))) := by
  refine own_metN own_pn1 ?_
  intro p e s m below meth c s₁ G hx hby hml hZ hown hnm hret X0 e0 go fin
  have N0 := Fr.nil n0
  refine go _ _ (fun _ k => castTop (own_ef_rm8 m a) k) ?_
  show G (s₁.setTop (mkF m 0 #[.val (.ref a)] []))
  refine go _ _ (fun _ k => XS.aloadN X0.here hx rfl (hb hby own_d8_0) rfl rfl k) ?_
  show G (s₁.setTop (mkF m 1 #[.val (.ref a)] [(.ref a)]))
  obtain ⟨T101, X101, e101, st101⟩ := initO X0 hx hZ hown (ow hw 47 rfl) (ow hw 17 rfl) (ow hw 18 rfl) e0 (g := (mkF m 1 #[.val (.ref a)] [(.ref a)])) rfl (by rw [hml]; rfl) rfl (hb hby own_d8_1) (by decide) (W := 0) (by show 2 * 0 + _ ≤ _; exact Nat.le_of_eq rfl) (by decide)
  refine go _ _ (st101) ?_
  show G (T101.setTop (mkF m 4 #[.val (.ref a)] []))
  refine fin T101 _ _ _ none X101 (fun _ => rfl) (by decide) (by decide) (by rw [e101]; exact ⟨N0, rfl, rfl⟩) _ (own_retV X101 hx hret (hb hby own_d8_4))
theorem own_d7_0 : decode jdk_69_method_7_code 0 = .ok (.aload_n 0, 1) := by decide +kernel
theorem own_d7_1 : decode jdk_69_method_7_code 1 = .ok (.invokespecial 43, 3) := by decide +kernel
theorem own_d7_4 : decode jdk_69_method_7_code 4 = .ok (.aload_n 0, 1) := by decide +kernel
theorem own_d7_5 : decode jdk_69_method_7_code 5 = .ok (.ldc 92, 2) := by decide +kernel
theorem own_d7_7 : decode jdk_69_method_7_code 7 = .ok (.putfield 81, 3) := by decide +kernel
theorem own_d7_10 : decode jdk_69_method_7_code 10 = .ok (.return_, 1) := by decide +kernel
theorem own_pn2 : plainName "java/util/HashMap" = true := by first | (simp [plainName, overriddenIn]; done) | decide +kernel
theorem own_pd0 : parseMethodDescriptor "()V" = some ⟨[], none⟩ := by decide +kernel
set_option maxHeartbeats 4000000 in
theorem own_ef_rm7 (m : MethodId) (x0 : Addr) : entryFrame m #[(.ref x0)] 1 = mkF m 0 #[.val (.ref x0)] [] := by rfl
set_option maxRecDepth 65536 in
set_option maxHeartbeats 40000000 in
theorem rm7 (l : Launch) (Z : State) (a0 : Array Value) (hw : ∀ d ∈ tables_1, d.before a0 Z = true) (z0 : Int32) (O2 : Sta Z Z.heap "java/lang/String" "COMPACT_STRINGS" "Z" (.int z0)) (P5 : ¬ z0 = (0 : Int32)) (u0 : Addr) (O_BADNAME : Sta Z Z.heap "com/example/claimwright/claimwright/vendorfile/Rejection" "BADNAME" "Lcom/example/claimwright/claimwright/vendorfile/Rejection;" (.ref u0)) (u1 : Addr) (O_DUPLICATE : Sta Z Z.heap "com/example/claimwright/claimwright/vendorfile/Rejection" "DUPLICATE" "Lcom/example/claimwright/claimwright/vendorfile/Rejection;" (.ref u1)) (u2 : Addr) (O_HEADER : Sta Z Z.heap "com/example/claimwright/claimwright/vendorfile/Rejection" "HEADER" "Lcom/example/claimwright/claimwright/vendorfile/Rejection;" (.ref u2)) (u3 : Addr) (O_TRAILER : Sta Z Z.heap "com/example/claimwright/claimwright/vendorfile/Rejection" "TRAILER" "Lcom/example/claimwright/claimwright/vendorfile/Rejection;" (.ref u3)) (u4 : Addr) (O_EMPTY : Sta Z Z.heap "com/example/claimwright/claimwright/vendorfile/Rejection" "EMPTY" "Lcom/example/claimwright/claimwright/vendorfile/Rejection;" (.ref u4)) (em : Addr) (O_em : Sta Z Z.heap "java/util/ImmutableCollections" "EMPTY_MAP" "Ljava/util/ImmutableCollections$MapN;" (.ref em)) (ws : List Jvm.Cond) (a : Addr) (h0 : Heap) (n0 : Nat) (Z0 : n0 ≤ h0.size) (Ea : Exa Z h0 a "java/util/HashMap") (Fl : Fld Z h0 a "java/util/HashMap" "loadFactor" "F" (.float (0 : UInt32))) (Fs : Fld Z h0 a "java/util/HashMap" "size" "I" (.int (0 : Int32))) (gz_a : n0 ≤ a) :
    own_MetN l Z (⟨"java/util/HashMap", "<init>", "()V"⟩ : MethodName) jdk_69_method_7_code 1 none ws ({ frames := 2, cells := 0, slots := 0, locals := 24 } : Room) #[(.ref a)] h0 (fun v h L => Fr n0 L ∧ Keep h0 h [a] ∧ (((v = none) ∧ (Exa Z h a "java/util/HashMap") ∧ (Fld Z h a "java/util/HashMap" "size" "I" (.int (0 : Int32)))))) := by
  refine own_metN own_pn2 ?_
  intro p e s m below meth c s₁ G hx hby hml hZ hown hnm hret X0 e0 go fin
  have N0 := Fr.nil n0
  refine go _ _ (fun _ k => castTop (own_ef_rm7 m a) k) ?_
  show G (s₁.setTop (mkF m 0 #[.val (.ref a)] []))
  refine go _ _ (fun _ k => XS.aloadN X0.here hx rfl (hb hby own_d7_0) rfl rfl k) ?_
  show G (s₁.setTop (mkF m 1 #[.val (.ref a)] [(.ref a)]))
  obtain ⟨rv101, T101, L101, X101, q101, st101⟩ := own_sp X0 hx hZ (y := (⟨"java/util/AbstractMap", "<init>", "()V"⟩ : MethodName)) rfl hown (ow hw 41 rfl) (ow hw 42 rfl) (ow hw 46 rfl) (by decide) (own_bkN (W := 0) (rm8 l Z a0 hw z0 O2 P5 u0 O_BADNAME u1 O_DUPLICATE u2 O_HEADER u3 O_TRAILER u4 O_EMPTY em O_em [] a h0 n0 Z0) hZ (ow hw 46 rfl) (ow hw 45 rfl) (by decide) (by decide)) e0 (g := (mkF m 1 #[.val (.ref a)] [(.ref a)])) rfl (by rw [hml]; rfl) (a := a) (argsL := []) (rest := []) rfl (lenOf own_pd0 rfl) rfl (by show 2 * 0 + _ ≤ _; exact Nat.le_of_eq rfl) (hb hby own_d7_1) (by decide) (by decide)
  obtain ⟨Nq101, e101, rfl⟩ := q101
  have N101 := Fr.app N0 Nq101
  refine go _ _ (st101) ?_
  show G (T101.setTop (mkF m 4 #[.val (.ref a)] []))
  refine go _ _ (fun _ k => XS.aloadN X101.here hx rfl (hb hby own_d7_4) rfl rfl k) ?_
  show G (T101.setTop (mkF m 5 #[.val (.ref a)] [(.ref a)]))
  refine go _ _ (fun _ k => Stand.ldcFloatC X101 hx hown (mv hZ (ow hw 48 rfl)) (g := (mkF m 5 #[.val (.ref a)] [(.ref a)])) rfl (hb hby own_d7_5) _ k) ?_
  show G (T101.setTop (mkF m 7 #[.val (.ref a)] [(.float (1061158912 : UInt32)), (.ref a)]))
  obtain ⟨T103, h103, X103, e103, W103, st103⟩ := putF X101 hx hZ hown (host := "") (Or.inl (ow hw 49 rfl)) Via.refl e101 Fl Ea (Or.inr ⟨(ow hw 50 rfl), rfl, hnm⟩) (ow hw 36 rfl) (ty := .float) (by decide) rfl rfl (g := (mkF m 7 #[.val (.ref a)] [(.float (1061158912 : UInt32)), (.ref a)])) rfl rfl (hb hby own_d7_7)
  have N103 := Fr.snoc X103 N101 gz_a
  refine go _ _ (st103) ?_
  show G (T103.setTop (mkF m 10 #[.val (.ref a)] []))
  have K104 : Keep h0 h103 [a] := (Keep.refl h0 [a]).wr W103 (Or.inl (List.mem_of_getElem? (i := 0) rfl))
  refine fin T103 _ _ _ none X103 (fun _ => rfl) (by decide) (by decide) (by rw [e103]; exact ⟨N103, K104, ⟨rfl, (Ea.wr W103), (Fs.other W103 (Or.inr (RoadKit.slot_ne (t := .int) (t' := .float) (Or.inl (ow hw 81 rfl)) (Or.inr (ow hw 50 rfl)) (by decide) (by decide) (by decide))))⟩⟩) _ (own_retV X103 hx hret (hb hby own_d7_10))
theorem own_d12_0 : decode jdk_69_method_11_code 0 = .ok (.aload_n 0, 1) := by decide +kernel
theorem own_d12_1 : decode jdk_69_method_11_code 1 = .ok (.getfield 156, 3) := by decide +kernel
theorem own_d12_4 : decode jdk_69_method_11_code 4 = .ok (.ifCond .ne 7, 3) := by decide +kernel
theorem own_d12_7 : decode jdk_69_method_11_code 7 = .ok (.iconst 1, 1) := by decide +kernel
theorem own_d12_8 : decode jdk_69_method_11_code 8 = .ok (.goto 4, 3) := by decide +kernel
theorem own_d12_11 : decode jdk_69_method_11_code 11 = .ok (.iconst 0, 1) := by decide +kernel
theorem own_d12_12 : decode jdk_69_method_11_code 12 = .ok (.ireturn, 1) := by decide +kernel
set_option maxHeartbeats 4000000 in
theorem own_ef_rm12 (m : MethodId) (x0 : Addr) : entryFrame m #[(.ref x0)] 1 = mkF m 0 #[.val (.ref x0)] [] := by rfl
set_option maxRecDepth 65536 in
set_option maxHeartbeats 40000000 in
theorem rm12 (l : Launch) (Z : State) (a0 : Array Value) (hw : ∀ d ∈ tables_1, d.before a0 Z = true) (z0 : Int32) (O2 : Sta Z Z.heap "java/lang/String" "COMPACT_STRINGS" "Z" (.int z0)) (P5 : ¬ z0 = (0 : Int32)) (u0 : Addr) (O_BADNAME : Sta Z Z.heap "com/example/claimwright/claimwright/vendorfile/Rejection" "BADNAME" "Lcom/example/claimwright/claimwright/vendorfile/Rejection;" (.ref u0)) (u1 : Addr) (O_DUPLICATE : Sta Z Z.heap "com/example/claimwright/claimwright/vendorfile/Rejection" "DUPLICATE" "Lcom/example/claimwright/claimwright/vendorfile/Rejection;" (.ref u1)) (u2 : Addr) (O_HEADER : Sta Z Z.heap "com/example/claimwright/claimwright/vendorfile/Rejection" "HEADER" "Lcom/example/claimwright/claimwright/vendorfile/Rejection;" (.ref u2)) (u3 : Addr) (O_TRAILER : Sta Z Z.heap "com/example/claimwright/claimwright/vendorfile/Rejection" "TRAILER" "Lcom/example/claimwright/claimwright/vendorfile/Rejection;" (.ref u3)) (u4 : Addr) (O_EMPTY : Sta Z Z.heap "com/example/claimwright/claimwright/vendorfile/Rejection" "EMPTY" "Lcom/example/claimwright/claimwright/vendorfile/Rejection;" (.ref u4)) (em : Addr) (O_em : Sta Z Z.heap "java/util/ImmutableCollections" "EMPTY_MAP" "Ljava/util/ImmutableCollections$MapN;" (.ref em)) (ws : List Jvm.Cond) (a : Addr) (h0 : Heap) (n0 : Nat) (Z0 : n0 ≤ h0.size) (Fs : Fld Z h0 a "java/util/HashMap" "size" "I" (.int (0 : Int32))) :
    own_MetN l Z (⟨"java/util/HashMap", "isEmpty", "()Z"⟩ : MethodName) jdk_69_method_11_code 1 (some .boolean) ws ({ frames := 0, cells := 0, slots := 0, locals := 0 } : Room) #[(.ref a)] h0 (fun v h L => Fr n0 L ∧ h = h0 ∧ (((v = some (.int (1 : Int32)))))) := by
  refine own_metN own_pn2 ?_
  intro p e s m below meth c s₁ G hx hby hml hZ hown hnm hret X0 e0 go fin
  have N0 := Fr.nil n0
  refine go _ _ (fun _ k => castTop (own_ef_rm12 m a) k) ?_
  show G (s₁.setTop (mkF m 0 #[.val (.ref a)] []))
  refine go _ _ (fun _ k => XS.aloadN X0.here hx rfl (hb hby own_d12_0) rfl rfl k) ?_
  show G (s₁.setTop (mkF m 1 #[.val (.ref a)] [(.ref a)]))
  obtain ⟨T101, X101, e101, st101⟩ := getF X0 hx hZ hown (host := "") (Or.inl (ow hw 80 rfl)) Via.refl e0 Fs (g := (mkF m 1 #[.val (.ref a)] [(.ref a)])) rfl rfl (hb hby own_d12_1)
  refine go _ _ (st101) ?_
  show G (T101.setTop (mkF m 4 #[.val (.ref a)] [(.int (0 : Int32))]))
  refine go _ _ (fun _ k => XS.ifNo X101.here hx rfl (hb hby own_d12_4) rfl (by decide) k) ?_
  show G (T101.setTop (mkF m 7 #[.val (.ref a)] []))
  refine go _ _ (fun _ k => XS.iconst X101.here hx rfl (hb hby own_d12_7) k) ?_
  show G (T101.setTop (mkF m 8 #[.val (.ref a)] [(.int (1 : Int32))]))
  refine go _ _ (fun _ k => XS.goto X101.here hx rfl (pc0 := 8) (pc' := 12) rfl (hb hby own_d12_8) (by decide) (by decide) k) ?_
  show G (T101.setTop (mkF m 12 #[.val (.ref a)] [(.int (1 : Int32))]))
  refine fin T101 _ _ _ (some (.int (1 : Int32))) X101 (fun q => nomatch q) (by decide) (by decide) (by rw [e101]; exact ⟨N0, rfl, rfl⟩) _ (own_retN X101 hx (z := (1 : Int32)) (t := .boolean) hret (by simp) (hb hby own_d12_12))
theorem own_d13_0 : decode jdk_72_method_26_code 0 = .ok (.getstatic 81, 3) := by decide +kernel
theorem own_d13_3 : decode jdk_72_method_26_code 3 = .ok (.areturn, 1) := by decide +kernel
theorem own_pn3 : plainName "java/util/Map" = true := by first | (simp [plainName, overriddenIn]; done) | decide +kernel
set_option maxHeartbeats 4000000 in
theorem own_ef_rm13 (m : MethodId) : entryFrame m #[] 0 = mkF m 0 #[] [] := by rfl
set_option maxRecDepth 65536 in
set_option maxHeartbeats 40000000 in
theorem rm13 (l : Launch) (Z : State) (a0 : Array Value) (hw : ∀ d ∈ tables_1, d.before a0 Z = true) (z0 : Int32) (O2 : Sta Z Z.heap "java/lang/String" "COMPACT_STRINGS" "Z" (.int z0)) (P5 : ¬ z0 = (0 : Int32)) (u0 : Addr) (O_BADNAME : Sta Z Z.heap "com/example/claimwright/claimwright/vendorfile/Rejection" "BADNAME" "Lcom/example/claimwright/claimwright/vendorfile/Rejection;" (.ref u0)) (u1 : Addr) (O_DUPLICATE : Sta Z Z.heap "com/example/claimwright/claimwright/vendorfile/Rejection" "DUPLICATE" "Lcom/example/claimwright/claimwright/vendorfile/Rejection;" (.ref u1)) (u2 : Addr) (O_HEADER : Sta Z Z.heap "com/example/claimwright/claimwright/vendorfile/Rejection" "HEADER" "Lcom/example/claimwright/claimwright/vendorfile/Rejection;" (.ref u2)) (u3 : Addr) (O_TRAILER : Sta Z Z.heap "com/example/claimwright/claimwright/vendorfile/Rejection" "TRAILER" "Lcom/example/claimwright/claimwright/vendorfile/Rejection;" (.ref u3)) (u4 : Addr) (O_EMPTY : Sta Z Z.heap "com/example/claimwright/claimwright/vendorfile/Rejection" "EMPTY" "Lcom/example/claimwright/claimwright/vendorfile/Rejection;" (.ref u4)) (em : Addr) (O_em : Sta Z Z.heap "java/util/ImmutableCollections" "EMPTY_MAP" "Ljava/util/ImmutableCollections$MapN;" (.ref em)) (ws : List Jvm.Cond) (h0 : Heap) (n0 : Nat) (Z0 : n0 ≤ h0.size) (Xo : Old Z n0 h0) :
    own_MetN l Z (⟨"java/util/Map", "of", "()Ljava/util/Map;"⟩ : MethodName) jdk_72_method_26_code 0 (some (.object "java/util/Map")) ws ({ frames := 0, cells := 0, slots := 0, locals := 0 } : Room) #[] h0 (fun v h L => Fr n0 L ∧ h = h0 ∧ ((∃ (w : Value), (v = some w) ∧ (w.isRef = true)))) := by
  refine own_metN own_pn3 ?_
  intro p e s m below meth c s₁ G hx hby hml hZ hown hnm hret X0 e0 go fin
  have N0 := Fr.nil n0
  refine go _ _ (fun _ k => castTop (own_ef_rm13 m) k) ?_
  show G (s₁.setTop (mkF m 0 #[] []))
  obtain ⟨T101, X101, e101, st101⟩ := getS2 X0 hx hZ (host := "") hown (Or.inl (ow hw 85 rfl)) Via.refl e0 (O_em.ext Xo.2) (g := (mkF m 0 #[] [])) rfl (hb hby own_d13_0)
  refine go _ _ (st101) ?_
  show G (T101.setTop (mkF m 3 #[] [(.ref em)]))
  refine fin T101 _ _ _ (some (.ref em)) X101 (fun q => nomatch q) (by decide) (by decide) (by rw [e101]; exact ⟨N0, rfl, ⟨(.ref em), rfl, rfl⟩⟩) _ (own_retA X101 hx hret rfl rfl rfl (hb hby own_d13_3))
theorem own_d11_0 : decode jdk_72_method_39_code 0 = .ok (.aload_n 0, 1) := by decide +kernel
theorem own_d11_1 : decode jdk_72_method_39_code 1 = .ok (.instanceof 101, 3) := by decide +kernel
theorem own_d11_4 : decode jdk_72_method_39_code 4 = .ok (.ifCond .eq 5, 3) := by decide +kernel
theorem own_d11_7 : decode jdk_72_method_39_code 7 = .ok (.aload_n 0, 1) := by decide +kernel
theorem own_d11_8 : decode jdk_72_method_39_code 8 = .ok (.areturn, 1) := by decide +kernel
theorem own_d11_9 : decode jdk_72_method_39_code 9 = .ok (.aload_n 0, 1) := by decide +kernel
theorem own_d11_10 : decode jdk_72_method_39_code 10 = .ok (.invokeinterface 103 1, 5) := by decide +kernel
theorem own_d11_15 : decode jdk_72_method_39_code 15 = .ok (.ifCond .eq 7, 3) := by decide +kernel
theorem own_d11_18 : decode jdk_72_method_39_code 18 = .ok (.invokestatic 106, 3) := by decide +kernel
theorem own_d11_21 : decode jdk_72_method_39_code 21 = .ok (.areturn, 1) := by decide +kernel
theorem own_d11_22 : decode jdk_72_method_39_code 22 = .ok (.aload_n 0, 1) := by decide +kernel
theorem own_d11_23 : decode jdk_72_method_39_code 23 = .ok (.invokeinterface 16 1, 5) := by decide +kernel
theorem own_d11_28 : decode jdk_72_method_39_code 28 = .ok (.iconst 0, 1) := by decide +kernel
theorem own_d11_29 : decode jdk_72_method_39_code 29 = .ok (.anewarray 36, 3) := by decide +kernel
theorem own_d11_32 : decode jdk_72_method_39_code 32 = .ok (.invokeinterface 110 2, 5) := by decide +kernel
theorem own_d11_37 : decode jdk_72_method_39_code 37 = .ok (.checkcast 114, 3) := by decide +kernel
theorem own_d11_40 : decode jdk_72_method_39_code 40 = .ok (.invokestatic 116, 3) := by decide +kernel
theorem own_d11_43 : decode jdk_72_method_39_code 43 = .ok (.areturn, 1) := by decide +kernel
theorem own_pd1 : parseMethodDescriptor "()Z" = some ⟨[], some .boolean⟩ := by decide +kernel
theorem own_pd2 : parseMethodDescriptor "()Ljava/util/Map;" = some ⟨[], some (.object "java/util/Map")⟩ := by decide +kernel
set_option maxHeartbeats 4000000 in
theorem own_ef_rm11 (m : MethodId) (x0 : Addr) : entryFrame m #[(.ref x0)] 1 = mkF m 0 #[.val (.ref x0)] [] := by rfl
set_option maxRecDepth 65536 in
set_option maxHeartbeats 40000000 in
theorem rm11 (l : Launch) (Z : State) (a0 : Array Value) (hw : ∀ d ∈ tables_1, d.before a0 Z = true) (z0 : Int32) (O2 : Sta Z Z.heap "java/lang/String" "COMPACT_STRINGS" "Z" (.int z0)) (P5 : ¬ z0 = (0 : Int32)) (u0 : Addr) (O_BADNAME : Sta Z Z.heap "com/example/claimwright/claimwright/vendorfile/Rejection" "BADNAME" "Lcom/example/claimwright/claimwright/vendorfile/Rejection;" (.ref u0)) (u1 : Addr) (O_DUPLICATE : Sta Z Z.heap "com/example/claimwright/claimwright/vendorfile/Rejection" "DUPLICATE" "Lcom/example/claimwright/claimwright/vendorfile/Rejection;" (.ref u1)) (u2 : Addr) (O_HEADER : Sta Z Z.heap "com/example/claimwright/claimwright/vendorfile/Rejection" "HEADER" "Lcom/example/claimwright/claimwright/vendorfile/Rejection;" (.ref u2)) (u3 : Addr) (O_TRAILER : Sta Z Z.heap "com/example/claimwright/claimwright/vendorfile/Rejection" "TRAILER" "Lcom/example/claimwright/claimwright/vendorfile/Rejection;" (.ref u3)) (u4 : Addr) (O_EMPTY : Sta Z Z.heap "com/example/claimwright/claimwright/vendorfile/Rejection" "EMPTY" "Lcom/example/claimwright/claimwright/vendorfile/Rejection;" (.ref u4)) (em : Addr) (O_em : Sta Z Z.heap "java/util/ImmutableCollections" "EMPTY_MAP" "Ljava/util/ImmutableCollections$MapN;" (.ref em)) (ws : List Jvm.Cond) (a : Addr) (h0 : Heap) (n0 : Nat) (Z0 : n0 ≤ h0.size) (Xo : Old Z n0 h0) (Ea : Exa Z h0 a "java/util/HashMap") (Fs : Fld Z h0 a "java/util/HashMap" "size" "I" (.int (0 : Int32))) :
    own_MetN l Z (⟨"java/util/Map", "copyOf", "(Ljava/util/Map;)Ljava/util/Map;"⟩ : MethodName) jdk_72_method_39_code 1 (some (.object "java/util/Map")) ws ({ frames := 1, cells := 0, slots := 0, locals := 12 } : Room) #[(.ref a)] h0 (fun v h L => Fr n0 L ∧ h = h0 ∧ ((∃ (w : Value), (v = some w) ∧ (w.isRef = true)))) := by
  refine own_metN own_pn3 ?_
  intro p e s m below meth c s₁ G hx hby hml hZ hown hnm hret X0 e0 go fin
  have N0 := Fr.nil n0
  refine go _ _ (fun _ k => castTop (own_ef_rm11 m a) k) ?_
  show G (s₁.setTop (mkF m 0 #[.val (.ref a)] []))
  refine go _ _ (fun _ k => XS.aloadN X0.here hx rfl (hb hby own_d11_0) rfl rfl k) ?_
  show G (s₁.setTop (mkF m 1 #[.val (.ref a)] [(.ref a)]))
  obtain ⟨z101, T101, hz101, X101, e101, st101⟩ := own_inst X0 hx hZ hown (ow hw 67 rfl) e0 Ea (g := (mkF m 1 #[.val (.ref a)] [(.ref a)])) rfl rfl (hb hby own_d11_1)
  rcases hz101 with rfl | rfl
  · refine go _ _ (st101) ?_
    show G (T101.setTop (mkF m 4 #[.val (.ref a)] [(.int (0 : Int32))]))
    refine go _ _ (fun _ k => XS.ifYes X101.here hx rfl (pc0 := 4) (pc' := 9) rfl (hb hby own_d11_4) rfl (by decide) (by decide) (by decide) k) ?_
    show G (T101.setTop (mkF m 9 #[.val (.ref a)] []))
    refine go _ _ (fun _ k => XS.aloadN X101.here hx rfl (hb hby own_d11_9) rfl rfl k) ?_
    show G (T101.setTop (mkF m 10 #[.val (.ref a)] [(.ref a)]))
    obtain ⟨rv102, T102, L102, X102, q102, st102⟩ := own_in X101 hx hZ (xi := (⟨"java/util/Map", "isEmpty", "()Z"⟩ : MethodName)) (y := (⟨"java/util/HashMap", "isEmpty", "()Z"⟩ : MethodName)) hown (ow hw 71 rfl) (ow hw 72 rfl) (ow hw 73 rfl) (ow hw 74 rfl) (ow hw 75 rfl) (ow hw 76 rfl) (ow hw 77 rfl) (ow hw 78 rfl) (by decide) (own_bkN (W := 0) (rm12 l Z a0 hw z0 O2 P5 u0 O_BADNAME u1 O_DUPLICATE u2 O_HEADER u3 O_TRAILER u4 O_EMPTY em O_em [] a h0 n0 Z0 Fs) hZ (ow hw 79 rfl) (ow hw 37 rfl) (by decide) (by decide)) e101 Ea (g := (mkF m 10 #[.val (.ref a)] [(.ref a)])) rfl (by rw [hml]; rfl) (argsL := []) (rest := []) rfl (lenOf own_pd1 rfl) rfl (by show 2 * 0 + _ ≤ _; exact Nat.le_of_eq rfl) (hb hby own_d11_10) (by decide) (by decide)
    obtain ⟨Nq102, e102, rfl⟩ := q102
    have N102 := Fr.app N0 Nq102
    refine go _ _ (st102) ?_
    show G (T102.setTop (mkF m 15 #[.val (.ref a)] [(.int (1 : Int32))]))
    refine go _ _ (fun _ k => XS.ifNo X102.here hx rfl (hb hby own_d11_15) rfl (by decide) k) ?_
    show G (T102.setTop (mkF m 18 #[.val (.ref a)] []))
    obtain ⟨rv103, T103, L103, X103, q103, st103⟩ := own_st X102 hx hZ (y := (⟨"java/util/Map", "of", "()Ljava/util/Map;"⟩ : MethodName)) hown (ow hw 82 rfl) (ow hw 83 rfl) (ow hw 65 rfl) (ow hw 84 rfl) (by decide) (own_bkN (W := 0) (rm13 l Z a0 hw z0 O2 P5 u0 O_BADNAME u1 O_DUPLICATE u2 O_HEADER u3 O_TRAILER u4 O_EMPTY em O_em [] h0 n0 Z0 Xo) hZ (ow hw 84 rfl) (ow hw 65 rfl) (by decide) (by decide)) e102 (g := (mkF m 18 #[.val (.ref a)] [])) rfl (by rw [hml]; rfl) (argsL := []) (rest := []) rfl (lenOf own_pd2 rfl) rfl (by show 2 * 0 + _ ≤ _; exact Nat.le_of_eq rfl) (hb hby own_d11_18) (by decide) (by decide)
    obtain ⟨Nq103, e103, ⟨w_104, rfl, p105⟩⟩ := q103
    have N103 := Fr.app N102 Nq103
    refine go _ _ (st103) ?_
    show G (T103.setTop (mkF m 21 #[.val (.ref a)] [w_104]))
    refine fin T103 _ _ _ (some w_104) X103 (fun q => nomatch q) (by decide) (by decide) (by rw [e103]; exact ⟨N103, rfl, ⟨w_104, rfl, p105⟩⟩) _ (own_retA X103 hx hret rfl p105 own_narR (hb hby own_d11_21))
  · refine go _ _ (st101) ?_
    show G (T101.setTop (mkF m 4 #[.val (.ref a)] [(.int (1 : Int32))]))
    refine go _ _ (fun _ k => XS.ifNo X101.here hx rfl (hb hby own_d11_4) rfl (by decide) k) ?_
    show G (T101.setTop (mkF m 7 #[.val (.ref a)] []))
    refine go _ _ (fun _ k => XS.aloadN X101.here hx rfl (hb hby own_d11_7) rfl rfl k) ?_
    show G (T101.setTop (mkF m 8 #[.val (.ref a)] [(.ref a)]))
    refine fin T101 _ _ _ (some (.ref a)) X101 (fun q => nomatch q) (by decide) (by decide) (by rw [e101]; exact ⟨N0, rfl, ⟨(.ref a), rfl, rfl⟩⟩) _ (own_retA X101 hx hret rfl rfl rfl (hb hby own_d11_8))
theorem own_d9_0 : decode prog_25_method_1_code 0 = .ok (.aload_n 0, 1) := by decide +kernel
theorem own_d9_1 : decode prog_25_method_1_code 1 = .ok (.invokespecial 1, 3) := by decide +kernel
theorem own_d9_4 : decode prog_25_method_1_code 4 = .ok (.aload 5, 2) := by decide +kernel
theorem own_d9_6 : decode prog_25_method_1_code 6 = .ok (.invokestatic 7, 3) := by decide +kernel
theorem own_d9_9 : decode prog_25_method_1_code 9 = .ok (.astore 5, 2) := by decide +kernel
theorem own_d9_11 : decode prog_25_method_1_code 11 = .ok (.aload_n 0, 1) := by decide +kernel
theorem own_d9_12 : decode prog_25_method_1_code 12 = .ok (.aload_n 1, 1) := by decide +kernel
theorem own_d9_13 : decode prog_25_method_1_code 13 = .ok (.putfield 13, 3) := by decide +kernel
theorem own_d9_16 : decode prog_25_method_1_code 16 = .ok (.aload_n 0, 1) := by decide +kernel
theorem own_d9_17 : decode prog_25_method_1_code 17 = .ok (.aload_n 2, 1) := by decide +kernel
theorem own_d9_18 : decode prog_25_method_1_code 18 = .ok (.putfield 19, 3) := by decide +kernel
theorem own_d9_21 : decode prog_25_method_1_code 21 = .ok (.aload_n 0, 1) := by decide +kernel
theorem own_d9_22 : decode prog_25_method_1_code 22 = .ok (.iload_n 3, 1) := by decide +kernel
theorem own_d9_23 : decode prog_25_method_1_code 23 = .ok (.putfield 23, 3) := by decide +kernel
theorem own_d9_26 : decode prog_25_method_1_code 26 = .ok (.aload_n 0, 1) := by decide +kernel
theorem own_d9_27 : decode prog_25_method_1_code 27 = .ok (.iload 4, 2) := by decide +kernel
theorem own_d9_29 : decode prog_25_method_1_code 29 = .ok (.putfield 27, 3) := by decide +kernel
theorem own_d9_32 : decode prog_25_method_1_code 32 = .ok (.aload_n 0, 1) := by decide +kernel
theorem own_d9_33 : decode prog_25_method_1_code 33 = .ok (.aload 5, 2) := by decide +kernel
theorem own_d9_35 : decode prog_25_method_1_code 35 = .ok (.putfield 30, 3) := by decide +kernel
theorem own_d9_38 : decode prog_25_method_1_code 38 = .ok (.return_, 1) := by decide +kernel
theorem own_pn4 : plainName "com/example/claimwright/claimwright/vendorfile/Ingested" = true := by first | (simp [plainName, overriddenIn]; done) | decide +kernel
theorem own_pd3 : parseMethodDescriptor "(Ljava/util/Map;)Ljava/util/Map;" = some ⟨[(.object "java/util/Map")], some (.object "java/util/Map")⟩ := by decide +kernel
set_option maxHeartbeats 4000000 in
theorem own_ef_rm9 (m : MethodId) (x0 : Addr) (x1 : Value) (q1 : x1.isRef = true) (x2 : Value) (q2 : x2.isRef = true) (x3 : Int32) (x4 : Int32) (x5 : Addr) : entryFrame m #[(.ref x0), x1, x2, (.int x3), (.int x4), (.ref x5)] 6 = mkF m 0 #[.val (.ref x0), .val x1, .val x2, .val (.int x3), .val (.int x4), .val (.ref x5)] [] := by simp [entryFrame, mkF, argsToLocals, own_catR, own_catI, own_catJ, own_cat q1, own_cat q2]
set_option maxRecDepth 65536 in
set_option maxHeartbeats 40000000 in
theorem rm9 (l : Launch) (Z : State) (a0 : Array Value) (hw : ∀ d ∈ tables_1, d.before a0 Z = true) (z0 : Int32) (O2 : Sta Z Z.heap "java/lang/String" "COMPACT_STRINGS" "Z" (.int z0)) (P5 : ¬ z0 = (0 : Int32)) (u0 : Addr) (O_BADNAME : Sta Z Z.heap "com/example/claimwright/claimwright/vendorfile/Rejection" "BADNAME" "Lcom/example/claimwright/claimwright/vendorfile/Rejection;" (.ref u0)) (u1 : Addr) (O_DUPLICATE : Sta Z Z.heap "com/example/claimwright/claimwright/vendorfile/Rejection" "DUPLICATE" "Lcom/example/claimwright/claimwright/vendorfile/Rejection;" (.ref u1)) (u2 : Addr) (O_HEADER : Sta Z Z.heap "com/example/claimwright/claimwright/vendorfile/Rejection" "HEADER" "Lcom/example/claimwright/claimwright/vendorfile/Rejection;" (.ref u2)) (u3 : Addr) (O_TRAILER : Sta Z Z.heap "com/example/claimwright/claimwright/vendorfile/Rejection" "TRAILER" "Lcom/example/claimwright/claimwright/vendorfile/Rejection;" (.ref u3)) (u4 : Addr) (O_EMPTY : Sta Z Z.heap "com/example/claimwright/claimwright/vendorfile/Rejection" "EMPTY" "Lcom/example/claimwright/claimwright/vendorfile/Rejection;" (.ref u4)) (em : Addr) (O_em : Sta Z Z.heap "java/util/ImmutableCollections" "EMPTY_MAP" "Ljava/util/ImmutableCollections$MapN;" (.ref em)) (ws : List Jvm.Cond) (a : Addr) (v1 : Value) (v2 : Value) (n1 : Int32) (n2 : Int32) (mp : Addr) (h0 : Heap) (n0 : Nat) (Z0 : n0 ≤ h0.size) (r1 : v1.isRef = true) (r2 : v2.isRef = true) (Xo : Old Z n0 h0) (Ea : Exa Z h0 a "com/example/claimwright/claimwright/vendorfile/Ingested") (Em : Exa Z h0 mp "java/util/HashMap") (Fs : Fld Z h0 mp "java/util/HashMap" "size" "I" (.int (0 : Int32))) (FfileName : Fld Z h0 a "com/example/claimwright/claimwright/vendorfile/Ingested" "fileName" "Ljava/lang/String;" .null) (Frejection : Fld Z h0 a "com/example/claimwright/claimwright/vendorfile/Ingested" "rejection" "Lcom/example/claimwright/claimwright/vendorfile/Rejection;" .null) (FdetailLines : Fld Z h0 a "com/example/claimwright/claimwright/vendorfile/Ingested" "detailLines" "I" (.int (0 : Int32))) (Fclaims : Fld Z h0 a "com/example/claimwright/claimwright/vendorfile/Ingested" "claims" "I" (.int (0 : Int32))) (Ftransactions : Fld Z h0 a "com/example/claimwright/claimwright/vendorfile/Ingested" "transactions" "Ljava/util/Map;" .null) (gz_a : n0 ≤ a) :
    own_MetN l Z (⟨"com/example/claimwright/claimwright/vendorfile/Ingested", "<init>", "(Ljava/lang/String;Lcom/example/claimwright/claimwright/vendorfile/Rejection;IILjava/util/Map;)V"⟩ : MethodName) prog_25_method_1_code 6 none ws ({ frames := 2, cells := 0, slots := 0, locals := 24 } : Room) #[(.ref a), v1, v2, (.int n1), (.int n2), (.ref mp)] h0 (fun v h L => Fr n0 L ∧ Keep h0 h [a] ∧ (((v = none) ∧ (Exa Z h a "com/example/claimwright/claimwright/vendorfile/Ingested") ∧ (Fld Z h a "com/example/claimwright/claimwright/vendorfile/Ingested" "rejection" "Lcom/example/claimwright/claimwright/vendorfile/Rejection;" v2)))) := by
  refine own_metN own_pn4 ?_
  intro p e s m below meth c s₁ G hx hby hml hZ hown hnm hret X0 e0 go fin
  have N0 := Fr.nil n0
  refine go _ _ (fun _ k => castTop (own_ef_rm9 m a v1 r1 v2 r2 n1 n2 mp) k) ?_
  show G (s₁.setTop (mkF m 0 #[.val (.ref a), .val v1, .val v2, .val (.int n1), .val (.int n2), .val (.ref mp)] []))
  refine go _ _ (fun _ k => XS.aloadN X0.here hx rfl (hb hby own_d9_0) rfl rfl k) ?_
  show G (s₁.setTop (mkF m 1 #[.val (.ref a), .val v1, .val v2, .val (.int n1), .val (.int n2), .val (.ref mp)] [(.ref a)]))
  obtain ⟨rv101, T101, L101, X101, q101, st101⟩ := own_sp X0 hx hZ (y := (⟨"java/lang/Record", "<init>", "()V"⟩ : MethodName)) rfl hown (ow hw 57 rfl) (ow hw 58 rfl) (ow hw 61 rfl) (by decide) (own_bkN (W := 0) (rm10 l Z a0 hw z0 O2 P5 u0 O_BADNAME u1 O_DUPLICATE u2 O_HEADER u3 O_TRAILER u4 O_EMPTY em O_em [] a h0 n0 Z0) hZ (ow hw 61 rfl) (ow hw 60 rfl) (by decide) (by decide)) e0 (g := (mkF m 1 #[.val (.ref a), .val v1, .val v2, .val (.int n1), .val (.int n2), .val (.ref mp)] [(.ref a)])) rfl (by rw [hml]; rfl) (a := a) (argsL := []) (rest := []) rfl (lenOf own_pd0 rfl) rfl (by show 2 * 0 + _ ≤ _; exact Nat.le_of_eq rfl) (hb hby own_d9_1) (by decide) (by decide)
  obtain ⟨Nq101, e101, rfl⟩ := q101
  have N101 := Fr.app N0 Nq101
  refine go _ _ (st101) ?_
  show G (T101.setTop (mkF m 4 #[.val (.ref a), .val v1, .val v2, .val (.int n1), .val (.int n2), .val (.ref mp)] []))
  refine go _ _ (fun _ k => XS.aload X101.here hx rfl (hb hby own_d9_4) rfl rfl k) ?_
  show G (T101.setTop (mkF m 6 #[.val (.ref a), .val v1, .val v2, .val (.int n1), .val (.int n2), .val (.ref mp)] [(.ref mp)]))
  obtain ⟨rv102, T102, L102, X102, q102, st102⟩ := own_st X101 hx hZ (y := (⟨"java/util/Map", "copyOf", "(Ljava/util/Map;)Ljava/util/Map;"⟩ : MethodName)) hown (ow hw 63 rfl) (ow hw 64 rfl) (ow hw 65 rfl) (ow hw 66 rfl) (by decide) (own_bkN (W := 0) (rm11 l Z a0 hw z0 O2 P5 u0 O_BADNAME u1 O_DUPLICATE u2 O_HEADER u3 O_TRAILER u4 O_EMPTY em O_em [] mp h0 n0 Z0 Xo Em Fs) hZ (ow hw 66 rfl) (ow hw 65 rfl) (by decide) (by decide)) e101 (g := (mkF m 6 #[.val (.ref a), .val v1, .val v2, .val (.int n1), .val (.int n2), .val (.ref mp)] [(.ref mp)])) rfl (by rw [hml]; rfl) (argsL := [(.ref mp)]) (rest := []) rfl (lenOf own_pd3 rfl) rfl (by show 2 * 0 + _ ≤ _; exact Nat.le_of_eq rfl) (hb hby own_d9_6) (by decide) (by decide)
  obtain ⟨Nq102, e102, ⟨w_103, rfl, p104⟩⟩ := q102
  have N102 := Fr.app N101 Nq102
  refine go _ _ (st102) ?_
  show G (T102.setTop (mkF m 9 #[.val (.ref a), .val v1, .val v2, .val (.int n1), .val (.int n2), .val (.ref mp)] [w_103]))
  refine go _ _ (fun _ k => XS.astore X102.here hx rfl (hb hby own_d9_9) rfl p104 (l' := #[.val (.ref a), .val v1, .val v2, .val (.int n1), .val (.int n2), .val w_103]) (XS.store1 rfl (Or.inr ⟨_, rfl, rfl⟩) (own_cat p104)) (XS.aloadN X102.here hx rfl (hb hby own_d9_11) rfl rfl (XS.aloadN X102.here hx rfl (hb hby own_d9_12) rfl r1 k))) ?_
  show G (T102.setTop (mkF m 13 #[.val (.ref a), .val v1, .val v2, .val (.int n1), .val (.int n2), .val w_103] [v1, (.ref a)]))
  obtain ⟨T105, h105, X105, e105, W105, st105⟩ := putF X102 hx hZ hown (host := "") (Or.inl (ow hw 87 rfl)) Via.refl e102 FfileName Ea (Or.inr ⟨(ow hw 88 rfl), rfl, hnm⟩) (ow hw 52 rfl) (ty := (.object "java/lang/String")) (by decide) own_narR (own_fitR r1) (g := (mkF m 13 #[.val (.ref a), .val v1, .val v2, .val (.int n1), .val (.int n2), .val w_103] [v1, (.ref a)])) rfl rfl (hb hby own_d9_13)
  have N105 := Fr.snoc X105 N102 gz_a
  refine go _ _ (st105) ?_
  show G (T105.setTop (mkF m 16 #[.val (.ref a), .val v1, .val v2, .val (.int n1), .val (.int n2), .val w_103] []))
  refine go _ _ (fun _ k => XS.aloadN X105.here hx rfl (hb hby own_d9_16) rfl rfl (XS.aloadN X105.here hx rfl (hb hby own_d9_17) rfl r2 k)) ?_
  show G (T105.setTop (mkF m 18 #[.val (.ref a), .val v1, .val v2, .val (.int n1), .val (.int n2), .val w_103] [v2, (.ref a)]))
  obtain ⟨T106, h106, X106, e106, W106, st106⟩ := putF X105 hx hZ hown (host := "") (Or.inl (ow hw 89 rfl)) Via.refl e105 (Frejection.other W105 (Or.inr (RoadKit.slot_ne (t := (.object "com/example/claimwright/claimwright/vendorfile/Rejection")) (t' := (.object "java/lang/String")) (Or.inr (ow hw 90 rfl)) (Or.inr (ow hw 88 rfl)) (by decide) (by decide) (by decide)))) (Ea.wr W105) (Or.inr ⟨(ow hw 90 rfl), rfl, hnm⟩) (ow hw 52 rfl) (ty := (.object "com/example/claimwright/claimwright/vendorfile/Rejection")) (by decide) own_narR (own_fitR r2) (g := (mkF m 18 #[.val (.ref a), .val v1, .val v2, .val (.int n1), .val (.int n2), .val w_103] [v2, (.ref a)])) rfl rfl (hb hby own_d9_18)
  have N106 := Fr.snoc X106 N105 gz_a
  refine go _ _ (st106) ?_
  show G (T106.setTop (mkF m 21 #[.val (.ref a), .val v1, .val v2, .val (.int n1), .val (.int n2), .val w_103] []))
  refine go _ _ (fun _ k => XS.aloadN X106.here hx rfl (hb hby own_d9_21) rfl rfl (XS.iloadN X106.here hx rfl (hb hby own_d9_22) rfl k)) ?_
  show G (T106.setTop (mkF m 23 #[.val (.ref a), .val v1, .val v2, .val (.int n1), .val (.int n2), .val w_103] [(.int n1), (.ref a)]))
  obtain ⟨T107, h107, X107, e107, W107, st107⟩ := putF X106 hx hZ hown (host := "") (Or.inl (ow hw 91 rfl)) Via.refl e106 ((FdetailLines.other W105 (Or.inr (RoadKit.slot_ne (t := .int) (t' := (.object "java/lang/String")) (Or.inr (ow hw 92 rfl)) (Or.inr (ow hw 88 rfl)) (by decide) (by decide) (by decide)))).other W106 (Or.inr (RoadKit.slot_ne (t := .int) (t' := (.object "com/example/claimwright/claimwright/vendorfile/Rejection")) (Or.inr (ow hw 92 rfl)) (Or.inr (ow hw 90 rfl)) (by decide) (by decide) (by decide)))) ((Ea.wr W105).wr W106) (Or.inr ⟨(ow hw 92 rfl), rfl, hnm⟩) (ow hw 52 rfl) (ty := .int) (by decide) rfl rfl (g := (mkF m 23 #[.val (.ref a), .val v1, .val v2, .val (.int n1), .val (.int n2), .val w_103] [(.int n1), (.ref a)])) rfl rfl (hb hby own_d9_23)
  have N107 := Fr.snoc X107 N106 gz_a
  refine go _ _ (st107) ?_
  show G (T107.setTop (mkF m 26 #[.val (.ref a), .val v1, .val v2, .val (.int n1), .val (.int n2), .val w_103] []))
  refine go _ _ (fun _ k => XS.aloadN X107.here hx rfl (hb hby own_d9_26) rfl rfl (XS.iload X107.here hx rfl (hb hby own_d9_27) rfl k)) ?_
  show G (T107.setTop (mkF m 29 #[.val (.ref a), .val v1, .val v2, .val (.int n1), .val (.int n2), .val w_103] [(.int n2), (.ref a)]))
  obtain ⟨T108, h108, X108, e108, W108, st108⟩ := putF X107 hx hZ hown (host := "") (Or.inl (ow hw 93 rfl)) Via.refl e107 (((Fclaims.other W105 (Or.inr (RoadKit.slot_ne (t := .int) (t' := (.object "java/lang/String")) (Or.inr (ow hw 94 rfl)) (Or.inr (ow hw 88 rfl)) (by decide) (by decide) (by decide)))).other W106 (Or.inr (RoadKit.slot_ne (t := .int) (t' := (.object "com/example/claimwright/claimwright/vendorfile/Rejection")) (Or.inr (ow hw 94 rfl)) (Or.inr (ow hw 90 rfl)) (by decide) (by decide) (by decide)))).other W107 (Or.inr (RoadKit.slot_ne (t := .int) (t' := .int) (Or.inr (ow hw 94 rfl)) (Or.inr (ow hw 92 rfl)) (by decide) (by decide) (by decide)))) (((Ea.wr W105).wr W106).wr W107) (Or.inr ⟨(ow hw 94 rfl), rfl, hnm⟩) (ow hw 52 rfl) (ty := .int) (by decide) rfl rfl (g := (mkF m 29 #[.val (.ref a), .val v1, .val v2, .val (.int n1), .val (.int n2), .val w_103] [(.int n2), (.ref a)])) rfl rfl (hb hby own_d9_29)
  have N108 := Fr.snoc X108 N107 gz_a
  refine go _ _ (st108) ?_
  show G (T108.setTop (mkF m 32 #[.val (.ref a), .val v1, .val v2, .val (.int n1), .val (.int n2), .val w_103] []))
  refine go _ _ (fun _ k => XS.aloadN X108.here hx rfl (hb hby own_d9_32) rfl rfl (XS.aload X108.here hx rfl (hb hby own_d9_33) rfl p104 k)) ?_
  show G (T108.setTop (mkF m 35 #[.val (.ref a), .val v1, .val v2, .val (.int n1), .val (.int n2), .val w_103] [w_103, (.ref a)]))
  obtain ⟨T109, h109, X109, e109, W109, st109⟩ := putF X108 hx hZ hown (host := "") (Or.inl (ow hw 95 rfl)) Via.refl e108 ((((Ftransactions.other W105 (Or.inr (RoadKit.slot_ne (t := (.object "java/util/Map")) (t' := (.object "java/lang/String")) (Or.inr (ow hw 96 rfl)) (Or.inr (ow hw 88 rfl)) (by decide) (by decide) (by decide)))).other W106 (Or.inr (RoadKit.slot_ne (t := (.object "java/util/Map")) (t' := (.object "com/example/claimwright/claimwright/vendorfile/Rejection")) (Or.inr (ow hw 96 rfl)) (Or.inr (ow hw 90 rfl)) (by decide) (by decide) (by decide)))).other W107 (Or.inr (RoadKit.slot_ne (t := (.object "java/util/Map")) (t' := .int) (Or.inr (ow hw 96 rfl)) (Or.inr (ow hw 92 rfl)) (by decide) (by decide) (by decide)))).other W108 (Or.inr (RoadKit.slot_ne (t := (.object "java/util/Map")) (t' := .int) (Or.inr (ow hw 96 rfl)) (Or.inr (ow hw 94 rfl)) (by decide) (by decide) (by decide)))) ((((Ea.wr W105).wr W106).wr W107).wr W108) (Or.inr ⟨(ow hw 96 rfl), rfl, hnm⟩) (ow hw 52 rfl) (ty := (.object "java/util/Map")) (by decide) own_narR (own_fitR p104) (g := (mkF m 35 #[.val (.ref a), .val v1, .val v2, .val (.int n1), .val (.int n2), .val w_103] [w_103, (.ref a)])) rfl rfl (hb hby own_d9_35)
  have N109 := Fr.snoc X109 N108 gz_a
  refine go _ _ (st109) ?_
  show G (T109.setTop (mkF m 38 #[.val (.ref a), .val v1, .val v2, .val (.int n1), .val (.int n2), .val w_103] []))
  have K110 : Keep h0 h105 [a] := (Keep.refl h0 [a]).wr W105 (Or.inl (List.mem_of_getElem? (i := 0) rfl))
  have K111 : Keep h0 h106 [a] := K110.wr W106 (Or.inl (List.mem_of_getElem? (i := 0) rfl))
  have K112 : Keep h0 h107 [a] := K111.wr W107 (Or.inl (List.mem_of_getElem? (i := 0) rfl))
  have K113 : Keep h0 h108 [a] := K112.wr W108 (Or.inl (List.mem_of_getElem? (i := 0) rfl))
  have K114 : Keep h0 h109 [a] := K113.wr W109 (Or.inl (List.mem_of_getElem? (i := 0) rfl))
  refine fin T109 _ _ _ none X109 (fun _ => rfl) (by decide) (by decide) (by rw [e109]; exact ⟨N109, K114, ⟨rfl, (((((Ea.wr W105).wr W106).wr W107).wr W108).wr W109), (((((Frejection.other W105 (Or.inr (RoadKit.slot_ne (t := (.object "com/example/claimwright/claimwright/vendorfile/Rejection")) (t' := (.object "java/lang/String")) (Or.inr (ow hw 90 rfl)) (Or.inr (ow hw 88 rfl)) (by decide) (by decide) (by decide)))).same W106).other W107 (Or.inr (RoadKit.slot_ne (t := (.object "com/example/claimwright/claimwright/vendorfile/Rejection")) (t' := .int) (Or.inr (ow hw 90 rfl)) (Or.inr (ow hw 92 rfl)) (by decide) (by decide) (by decide)))).other W108 (Or.inr (RoadKit.slot_ne (t := (.object "com/example/claimwright/claimwright/vendorfile/Rejection")) (t' := .int) (Or.inr (ow hw 90 rfl)) (Or.inr (ow hw 94 rfl)) (by decide) (by decide) (by decide)))).other W109 (Or.inr (RoadKit.slot_ne (t := (.object "com/example/claimwright/claimwright/vendorfile/Rejection")) (t' := (.object "java/util/Map")) (Or.inr (ow hw 90 rfl)) (Or.inr (ow hw 96 rfl)) (by decide) (by decide) (by decide))))⟩⟩) _ (own_retV X109 hx hret (hb hby own_d9_38))
theorem own_d14_0 : decode prog_25_method_2_code 0 = .ok (.aload_n 0, 1) := by decide +kernel
theorem own_d14_1 : decode prog_25_method_2_code 1 = .ok (.getfield 19, 3) := by decide +kernel
theorem own_d14_4 : decode prog_25_method_2_code 4 = .ok (.ifnull 7, 3) := by decide +kernel
theorem own_d14_7 : decode prog_25_method_2_code 7 = .ok (.iconst 1, 1) := by decide +kernel
theorem own_d14_8 : decode prog_25_method_2_code 8 = .ok (.goto 4, 3) := by decide +kernel
theorem own_d14_11 : decode prog_25_method_2_code 11 = .ok (.iconst 0, 1) := by decide +kernel
theorem own_d14_12 : decode prog_25_method_2_code 12 = .ok (.ireturn, 1) := by decide +kernel
set_option maxHeartbeats 4000000 in
theorem own_ef_rm14 (m : MethodId) (x0 : Addr) : entryFrame m #[(.ref x0)] 1 = mkF m 0 #[.val (.ref x0)] [] := by rfl
set_option maxRecDepth 65536 in
set_option maxHeartbeats 40000000 in
theorem rm14 (l : Launch) (Z : State) (a0 : Array Value) (hw : ∀ d ∈ tables_1, d.before a0 Z = true) (z0 : Int32) (O2 : Sta Z Z.heap "java/lang/String" "COMPACT_STRINGS" "Z" (.int z0)) (P5 : ¬ z0 = (0 : Int32)) (u0 : Addr) (O_BADNAME : Sta Z Z.heap "com/example/claimwright/claimwright/vendorfile/Rejection" "BADNAME" "Lcom/example/claimwright/claimwright/vendorfile/Rejection;" (.ref u0)) (u1 : Addr) (O_DUPLICATE : Sta Z Z.heap "com/example/claimwright/claimwright/vendorfile/Rejection" "DUPLICATE" "Lcom/example/claimwright/claimwright/vendorfile/Rejection;" (.ref u1)) (u2 : Addr) (O_HEADER : Sta Z Z.heap "com/example/claimwright/claimwright/vendorfile/Rejection" "HEADER" "Lcom/example/claimwright/claimwright/vendorfile/Rejection;" (.ref u2)) (u3 : Addr) (O_TRAILER : Sta Z Z.heap "com/example/claimwright/claimwright/vendorfile/Rejection" "TRAILER" "Lcom/example/claimwright/claimwright/vendorfile/Rejection;" (.ref u3)) (u4 : Addr) (O_EMPTY : Sta Z Z.heap "com/example/claimwright/claimwright/vendorfile/Rejection" "EMPTY" "Lcom/example/claimwright/claimwright/vendorfile/Rejection;" (.ref u4)) (em : Addr) (O_em : Sta Z Z.heap "java/util/ImmutableCollections" "EMPTY_MAP" "Ljava/util/ImmutableCollections$MapN;" (.ref em)) (ws : List Jvm.Cond) (a : Addr) (v2 : Value) (h0 : Heap) (n0 : Nat) (Z0 : n0 ≤ h0.size) (r2 : v2.isRef = true) (Frj : Fld Z h0 a "com/example/claimwright/claimwright/vendorfile/Ingested" "rejection" "Lcom/example/claimwright/claimwright/vendorfile/Rejection;" v2) :
    own_MetN l Z (⟨"com/example/claimwright/claimwright/vendorfile/Ingested", "isRejected", "()Z"⟩ : MethodName) prog_25_method_2_code 1 (some .boolean) ws ({ frames := 0, cells := 0, slots := 0, locals := 0 } : Room) #[(.ref a)] h0 (fun v h L => Fr n0 L ∧ h = h0 ∧ (((v = some (.int (0 : Int32))) ∧ (v2 = .null)) ∨ ((v = some (.int (1 : Int32))) ∧ (¬ v2 = .null)))) := by
  refine own_metN own_pn4 ?_
  intro p e s m below meth c s₁ G hx hby hml hZ hown hnm hret X0 e0 go fin
  have N0 := Fr.nil n0
  refine go _ _ (fun _ k => castTop (own_ef_rm14 m a) k) ?_
  show G (s₁.setTop (mkF m 0 #[.val (.ref a)] []))
  refine go _ _ (fun _ k => XS.aloadN X0.here hx rfl (hb hby own_d14_0) rfl rfl k) ?_
  show G (s₁.setTop (mkF m 1 #[.val (.ref a)] [(.ref a)]))
  obtain ⟨T101, X101, e101, st101⟩ := getF X0 hx hZ hown (host := "") (Or.inl (ow hw 89 rfl)) Via.refl e0 Frj (g := (mkF m 1 #[.val (.ref a)] [(.ref a)])) rfl rfl (hb hby own_d14_1)
  refine go _ _ (st101) ?_
  show G (T101.setTop (mkF m 4 #[.val (.ref a)] [v2]))
  rcases ref_cases r2 with rfl | ⟨b102, rfl⟩
  · refine go _ _ (fun _ k => XS.ifnullYes X101.here hx rfl (pc0 := 4) (pc' := 11) rfl (hb hby own_d14_4) rfl (by decide) (by decide) k) ?_
    show G (T101.setTop (mkF m 11 #[.val (.ref a)] []))
    refine go _ _ (fun _ k => XS.iconst X101.here hx rfl (hb hby own_d14_11) k) ?_
    show G (T101.setTop (mkF m 12 #[.val (.ref a)] [(.int (0 : Int32))]))
    refine fin T101 _ _ _ (some (.int (0 : Int32))) X101 (fun q => nomatch q) (by decide) (by decide) (by rw [e101]; exact ⟨N0, rfl, (Or.inl ⟨rfl, rfl⟩)⟩) _ (own_retN X101 hx (z := (0 : Int32)) (t := .boolean) hret (by simp) (hb hby own_d14_12))
  · refine go _ _ (fun _ k => XS.ifnullNo X101.here hx rfl (hb hby own_d14_4) rfl k) ?_
    show G (T101.setTop (mkF m 7 #[.val (.ref a)] []))
    refine go _ _ (fun _ k => XS.iconst X101.here hx rfl (hb hby own_d14_7) k) ?_
    show G (T101.setTop (mkF m 8 #[.val (.ref a)] [(.int (1 : Int32))]))
    refine go _ _ (fun _ k => XS.goto X101.here hx rfl (pc0 := 8) (pc' := 12) rfl (hb hby own_d14_8) (by decide) (by decide) k) ?_
    show G (T101.setTop (mkF m 12 #[.val (.ref a)] [(.int (1 : Int32))]))
    refine fin T101 _ _ _ (some (.int (1 : Int32))) X101 (fun q => nomatch q) (by decide) (by decide) (by rw [e101]; exact ⟨N0, rfl, (Or.inr ⟨rfl, (fun q => nomatch q)⟩)⟩) _ (own_retN X101 hx (z := (1 : Int32)) (t := .boolean) hret (by simp) (hb hby own_d14_12))
theorem own_d15_0 : decode prog_25_method_10_code 0 = .ok (.aload_n 0, 1) := by decide +kernel
theorem own_d15_1 : decode prog_25_method_10_code 1 = .ok (.getfield 19, 3) := by decide +kernel
theorem own_d15_4 : decode prog_25_method_10_code 4 = .ok (.areturn, 1) := by decide +kernel
set_option maxHeartbeats 4000000 in
theorem own_ef_rm15 (m : MethodId) (x0 : Addr) : entryFrame m #[(.ref x0)] 1 = mkF m 0 #[.val (.ref x0)] [] := by rfl
set_option maxRecDepth 65536 in
set_option maxHeartbeats 40000000 in
theorem rm15 (l : Launch) (Z : State) (a0 : Array Value) (hw : ∀ d ∈ tables_1, d.before a0 Z = true) (z0 : Int32) (O2 : Sta Z Z.heap "java/lang/String" "COMPACT_STRINGS" "Z" (.int z0)) (P5 : ¬ z0 = (0 : Int32)) (u0 : Addr) (O_BADNAME : Sta Z Z.heap "com/example/claimwright/claimwright/vendorfile/Rejection" "BADNAME" "Lcom/example/claimwright/claimwright/vendorfile/Rejection;" (.ref u0)) (u1 : Addr) (O_DUPLICATE : Sta Z Z.heap "com/example/claimwright/claimwright/vendorfile/Rejection" "DUPLICATE" "Lcom/example/claimwright/claimwright/vendorfile/Rejection;" (.ref u1)) (u2 : Addr) (O_HEADER : Sta Z Z.heap "com/example/claimwright/claimwright/vendorfile/Rejection" "HEADER" "Lcom/example/claimwright/claimwright/vendorfile/Rejection;" (.ref u2)) (u3 : Addr) (O_TRAILER : Sta Z Z.heap "com/example/claimwright/claimwright/vendorfile/Rejection" "TRAILER" "Lcom/example/claimwright/claimwright/vendorfile/Rejection;" (.ref u3)) (u4 : Addr) (O_EMPTY : Sta Z Z.heap "com/example/claimwright/claimwright/vendorfile/Rejection" "EMPTY" "Lcom/example/claimwright/claimwright/vendorfile/Rejection;" (.ref u4)) (em : Addr) (O_em : Sta Z Z.heap "java/util/ImmutableCollections" "EMPTY_MAP" "Ljava/util/ImmutableCollections$MapN;" (.ref em)) (ws : List Jvm.Cond) (a : Addr) (v2 : Value) (h0 : Heap) (n0 : Nat) (Z0 : n0 ≤ h0.size) (r2 : v2.isRef = true) (Frj : Fld Z h0 a "com/example/claimwright/claimwright/vendorfile/Ingested" "rejection" "Lcom/example/claimwright/claimwright/vendorfile/Rejection;" v2) :
    own_MetN l Z (⟨"com/example/claimwright/claimwright/vendorfile/Ingested", "rejection", "()Lcom/example/claimwright/claimwright/vendorfile/Rejection;"⟩ : MethodName) prog_25_method_10_code 1 (some (.object "com/example/claimwright/claimwright/vendorfile/Rejection")) ws ({ frames := 0, cells := 0, slots := 0, locals := 0 } : Room) #[(.ref a)] h0 (fun v h L => Fr n0 L ∧ h = h0 ∧ (((v = some v2)))) := by
  refine own_metN own_pn4 ?_
  intro p e s m below meth c s₁ G hx hby hml hZ hown hnm hret X0 e0 go fin
  have N0 := Fr.nil n0
  refine go _ _ (fun _ k => castTop (own_ef_rm15 m a) k) ?_
  show G (s₁.setTop (mkF m 0 #[.val (.ref a)] []))
  refine go _ _ (fun _ k => XS.aloadN X0.here hx rfl (hb hby own_d15_0) rfl rfl k) ?_
  show G (s₁.setTop (mkF m 1 #[.val (.ref a)] [(.ref a)]))
  obtain ⟨T101, X101, e101, st101⟩ := getF X0 hx hZ hown (host := "") (Or.inl (ow hw 89 rfl)) Via.refl e0 Frj (g := (mkF m 1 #[.val (.ref a)] [(.ref a)])) rfl rfl (hb hby own_d15_1)
  refine go _ _ (st101) ?_
  show G (T101.setTop (mkF m 4 #[.val (.ref a)] [v2]))
  refine fin T101 _ _ _ (some v2) X101 (fun q => nomatch q) (by decide) (by decide) (by rw [e101]; exact ⟨N0, rfl, rfl⟩) _ (own_retA X101 hx hret rfl r2 own_narR (hb hby own_d15_4))
theorem own_d0_0 : decode method_3_code 0 = .ok (.iload_n 0, 1) := by decide +kernel
theorem own_d0_1 : decode method_3_code 1 = .ok (.iconst 1, 1) := by decide +kernel
theorem own_d0_2 : decode method_3_code 2 = .ok (.if_icmp .ne 7, 3) := by decide +kernel
theorem own_d0_5 : decode method_3_code 5 = .ok (.getstatic 35, 3) := by decide +kernel
theorem own_d0_8 : decode method_3_code 8 = .ok (.areturn, 1) := by decide +kernel
theorem own_d0_9 : decode method_3_code 9 = .ok (.iload_n 0, 1) := by decide +kernel
theorem own_d0_10 : decode method_3_code 10 = .ok (.iconst 2, 1) := by decide +kernel
theorem own_d0_11 : decode method_3_code 11 = .ok (.if_icmp .ne 7, 3) := by decide +kernel
theorem own_d0_14 : decode method_3_code 14 = .ok (.getstatic 41, 3) := by decide +kernel
theorem own_d0_17 : decode method_3_code 17 = .ok (.areturn, 1) := by decide +kernel
theorem own_d0_18 : decode method_3_code 18 = .ok (.iload_n 0, 1) := by decide +kernel
theorem own_d0_19 : decode method_3_code 19 = .ok (.iconst 3, 1) := by decide +kernel
theorem own_d0_20 : decode method_3_code 20 = .ok (.if_icmp .ne 7, 3) := by decide +kernel
theorem own_d0_23 : decode method_3_code 23 = .ok (.getstatic 44, 3) := by decide +kernel
theorem own_d0_26 : decode method_3_code 26 = .ok (.areturn, 1) := by decide +kernel
theorem own_d0_27 : decode method_3_code 27 = .ok (.iload_n 0, 1) := by decide +kernel
theorem own_d0_28 : decode method_3_code 28 = .ok (.iconst 4, 1) := by decide +kernel
theorem own_d0_29 : decode method_3_code 29 = .ok (.if_icmp .ne 7, 3) := by decide +kernel
theorem own_d0_32 : decode method_3_code 32 = .ok (.getstatic 47, 3) := by decide +kernel
theorem own_d0_35 : decode method_3_code 35 = .ok (.areturn, 1) := by decide +kernel
theorem own_d0_36 : decode method_3_code 36 = .ok (.iload_n 0, 1) := by decide +kernel
theorem own_d0_37 : decode method_3_code 37 = .ok (.iconst 5, 1) := by decide +kernel
theorem own_d0_38 : decode method_3_code 38 = .ok (.if_icmp .ne 7, 3) := by decide +kernel
theorem own_d0_41 : decode method_3_code 41 = .ok (.getstatic 50, 3) := by decide +kernel
theorem own_d0_44 : decode method_3_code 44 = .ok (.areturn, 1) := by decide +kernel
theorem own_d0_45 : decode method_3_code 45 = .ok (.aconst_null, 1) := by decide +kernel
theorem own_d0_46 : decode method_3_code 46 = .ok (.areturn, 1) := by decide +kernel
theorem own_pn5 : plainName "com/example/claimwright/claimwright/vendorfile/IngestedIsRejectedPinLaw" = true := by first | (simp [plainName, overriddenIn]; done) | decide +kernel
set_option maxHeartbeats 4000000 in
theorem own_ef_rm0 (m : MethodId) (x0 : Int32) : entryFrame m #[(.int x0)] 1 = mkF m 0 #[.val (.int x0)] [] := by rfl
set_option maxRecDepth 65536 in
set_option maxHeartbeats 40000000 in
theorem rm0 (l : Launch) (Z : State) (a0 : Array Value) (hw : ∀ d ∈ tables_1, d.before a0 Z = true) (z0 : Int32) (O2 : Sta Z Z.heap "java/lang/String" "COMPACT_STRINGS" "Z" (.int z0)) (P5 : ¬ z0 = (0 : Int32)) (u0 : Addr) (O_BADNAME : Sta Z Z.heap "com/example/claimwright/claimwright/vendorfile/Rejection" "BADNAME" "Lcom/example/claimwright/claimwright/vendorfile/Rejection;" (.ref u0)) (u1 : Addr) (O_DUPLICATE : Sta Z Z.heap "com/example/claimwright/claimwright/vendorfile/Rejection" "DUPLICATE" "Lcom/example/claimwright/claimwright/vendorfile/Rejection;" (.ref u1)) (u2 : Addr) (O_HEADER : Sta Z Z.heap "com/example/claimwright/claimwright/vendorfile/Rejection" "HEADER" "Lcom/example/claimwright/claimwright/vendorfile/Rejection;" (.ref u2)) (u3 : Addr) (O_TRAILER : Sta Z Z.heap "com/example/claimwright/claimwright/vendorfile/Rejection" "TRAILER" "Lcom/example/claimwright/claimwright/vendorfile/Rejection;" (.ref u3)) (u4 : Addr) (O_EMPTY : Sta Z Z.heap "com/example/claimwright/claimwright/vendorfile/Rejection" "EMPTY" "Lcom/example/claimwright/claimwright/vendorfile/Rejection;" (.ref u4)) (em : Addr) (O_em : Sta Z Z.heap "java/util/ImmutableCollections" "EMPTY_MAP" "Ljava/util/ImmutableCollections$MapN;" (.ref em)) (ws : List Jvm.Cond) (sel : Int32) (h0 : Heap) (n0 : Nat) (Z0 : n0 ≤ h0.size) (Xo : Old Z n0 h0) :
    own_MetN l Z (⟨"com/example/claimwright/claimwright/vendorfile/IngestedIsRejectedPinLaw", "pick", "(I)Lcom/example/claimwright/claimwright/vendorfile/Rejection;"⟩ : MethodName) method_3_code 1 (some (.object "com/example/claimwright/claimwright/vendorfile/Rejection")) ws ({ frames := 0, cells := 0, slots := 0, locals := 0 } : Room) #[(.int sel)] h0 (fun v h L => Fr n0 L ∧ h = h0 ∧ ((∃ (w : Value), (v = some w) ∧ (w.isRef = true) ∧ ((w = .null ↔ (¬ sel = (1 : Int32) ∧ ¬ sel = (2 : Int32) ∧ ¬ sel = (3 : Int32) ∧ ¬ sel = (4 : Int32) ∧ ¬ sel = (5 : Int32))))))) := by
  refine own_metN own_pn5 ?_
  intro p e s m below meth c s₁ G hx hby hml hZ hown hnm hret X0 e0 go fin
  have N0 := Fr.nil n0
  refine go _ _ (fun _ k => castTop (own_ef_rm0 m sel) k) ?_
  show G (s₁.setTop (mkF m 0 #[.val (.int sel)] []))
  refine go _ _ (fun _ k => XS.iloadN X0.here hx rfl (hb hby own_d0_0) rfl (XS.iconst X0.here hx rfl (hb hby own_d0_1) k)) ?_
  show G (s₁.setTop (mkF m 2 #[.val (.int sel)] [(.int (1 : Int32)), (.int sel)]))
  by_cases hc2_101 : sel = (1 : Int32)
  · refine go _ _ (fun _ k => XS.icmpNo X0.here hx rfl (hb hby own_d0_2) rfl (teq hc2_101).2 k) ?_
    show G (s₁.setTop (mkF m 5 #[.val (.int sel)] []))
    obtain ⟨T102, X102, e102, st102⟩ := getS2 X0 hx hZ (host := "") hown (Or.inl (ow hw 107 rfl)) Via.refl e0 (O_BADNAME.ext Xo.2) (g := (mkF m 5 #[.val (.int sel)] [])) rfl (hb hby own_d0_5)
    refine go _ _ (st102) ?_
    show G (T102.setTop (mkF m 8 #[.val (.int sel)] [(.ref u0)]))
    refine fin T102 _ _ _ (some (.ref u0)) X102 (fun q => nomatch q) (by decide) (by decide) (by rw [e102]; exact ⟨N0, rfl, ⟨(.ref u0), rfl, rfl, ⟨(fun q => nomatch q), fun q => absurd hc2_101 q.1⟩⟩⟩) _ (own_retA X102 hx hret rfl rfl rfl (hb hby own_d0_8))
  · refine go _ _ (fun _ k => XS.icmpYes X0.here hx rfl (pc0 := 2) (pc' := 9) rfl (hb hby own_d0_2) rfl (feq hc2_101).2 (by decide) (by decide) k) ?_
    show G (s₁.setTop (mkF m 9 #[.val (.int sel)] []))
    refine go _ _ (fun _ k => XS.iloadN X0.here hx rfl (hb hby own_d0_9) rfl (XS.iconst X0.here hx rfl (hb hby own_d0_10) k)) ?_
    show G (s₁.setTop (mkF m 11 #[.val (.int sel)] [(.int (2 : Int32)), (.int sel)]))
    by_cases hc11_103 : sel = (2 : Int32)
    · refine go _ _ (fun _ k => XS.icmpNo X0.here hx rfl (hb hby own_d0_11) rfl (teq hc11_103).2 k) ?_
      show G (s₁.setTop (mkF m 14 #[.val (.int sel)] []))
      obtain ⟨T104, X104, e104, st104⟩ := getS2 X0 hx hZ (host := "") hown (Or.inl (ow hw 116 rfl)) Via.refl e0 (O_DUPLICATE.ext Xo.2) (g := (mkF m 14 #[.val (.int sel)] [])) rfl (hb hby own_d0_14)
      refine go _ _ (st104) ?_
      show G (T104.setTop (mkF m 17 #[.val (.int sel)] [(.ref u1)]))
      refine fin T104 _ _ _ (some (.ref u1)) X104 (fun q => nomatch q) (by decide) (by decide) (by rw [e104]; exact ⟨N0, rfl, ⟨(.ref u1), rfl, rfl, ⟨(fun q => nomatch q), fun q => absurd hc11_103 q.2.1⟩⟩⟩) _ (own_retA X104 hx hret rfl rfl rfl (hb hby own_d0_17))
    · refine go _ _ (fun _ k => XS.icmpYes X0.here hx rfl (pc0 := 11) (pc' := 18) rfl (hb hby own_d0_11) rfl (feq hc11_103).2 (by decide) (by decide) k) ?_
      show G (s₁.setTop (mkF m 18 #[.val (.int sel)] []))
      refine go _ _ (fun _ k => XS.iloadN X0.here hx rfl (hb hby own_d0_18) rfl (XS.iconst X0.here hx rfl (hb hby own_d0_19) k)) ?_
      show G (s₁.setTop (mkF m 20 #[.val (.int sel)] [(.int (3 : Int32)), (.int sel)]))
      by_cases hc20_105 : sel = (3 : Int32)
      · refine go _ _ (fun _ k => XS.icmpNo X0.here hx rfl (hb hby own_d0_20) rfl (teq hc20_105).2 k) ?_
        show G (s₁.setTop (mkF m 23 #[.val (.int sel)] []))
        obtain ⟨T106, X106, e106, st106⟩ := getS2 X0 hx hZ (host := "") hown (Or.inl (ow hw 112 rfl)) Via.refl e0 (O_HEADER.ext Xo.2) (g := (mkF m 23 #[.val (.int sel)] [])) rfl (hb hby own_d0_23)
        refine go _ _ (st106) ?_
        show G (T106.setTop (mkF m 26 #[.val (.int sel)] [(.ref u2)]))
        refine fin T106 _ _ _ (some (.ref u2)) X106 (fun q => nomatch q) (by decide) (by decide) (by rw [e106]; exact ⟨N0, rfl, ⟨(.ref u2), rfl, rfl, ⟨(fun q => nomatch q), fun q => absurd hc20_105 q.2.2.1⟩⟩⟩) _ (own_retA X106 hx hret rfl rfl rfl (hb hby own_d0_26))
      · refine go _ _ (fun _ k => XS.icmpYes X0.here hx rfl (pc0 := 20) (pc' := 27) rfl (hb hby own_d0_20) rfl (feq hc20_105).2 (by decide) (by decide) k) ?_
        show G (s₁.setTop (mkF m 27 #[.val (.int sel)] []))
        refine go _ _ (fun _ k => XS.iloadN X0.here hx rfl (hb hby own_d0_27) rfl (XS.iconst X0.here hx rfl (hb hby own_d0_28) k)) ?_
        show G (s₁.setTop (mkF m 29 #[.val (.int sel)] [(.int (4 : Int32)), (.int sel)]))
        by_cases hc29_107 : sel = (4 : Int32)
        · refine go _ _ (fun _ k => XS.icmpNo X0.here hx rfl (hb hby own_d0_29) rfl (teq hc29_107).2 k) ?_
          show G (s₁.setTop (mkF m 32 #[.val (.int sel)] []))
          obtain ⟨T108, X108, e108, st108⟩ := getS2 X0 hx hZ (host := "") hown (Or.inl (ow hw 110 rfl)) Via.refl e0 (O_TRAILER.ext Xo.2) (g := (mkF m 32 #[.val (.int sel)] [])) rfl (hb hby own_d0_32)
          refine go _ _ (st108) ?_
          show G (T108.setTop (mkF m 35 #[.val (.int sel)] [(.ref u3)]))
          refine fin T108 _ _ _ (some (.ref u3)) X108 (fun q => nomatch q) (by decide) (by decide) (by rw [e108]; exact ⟨N0, rfl, ⟨(.ref u3), rfl, rfl, ⟨(fun q => nomatch q), fun q => absurd hc29_107 q.2.2.2.1⟩⟩⟩) _ (own_retA X108 hx hret rfl rfl rfl (hb hby own_d0_35))
        · refine go _ _ (fun _ k => XS.icmpYes X0.here hx rfl (pc0 := 29) (pc' := 36) rfl (hb hby own_d0_29) rfl (feq hc29_107).2 (by decide) (by decide) k) ?_
          show G (s₁.setTop (mkF m 36 #[.val (.int sel)] []))
          refine go _ _ (fun _ k => XS.iloadN X0.here hx rfl (hb hby own_d0_36) rfl (XS.iconst X0.here hx rfl (hb hby own_d0_37) k)) ?_
          show G (s₁.setTop (mkF m 38 #[.val (.int sel)] [(.int (5 : Int32)), (.int sel)]))
          by_cases hc38_109 : sel = (5 : Int32)
          · refine go _ _ (fun _ k => XS.icmpNo X0.here hx rfl (hb hby own_d0_38) rfl (teq hc38_109).2 k) ?_
            show G (s₁.setTop (mkF m 41 #[.val (.int sel)] []))
            obtain ⟨T110, X110, e110, st110⟩ := getS2 X0 hx hZ (host := "") hown (Or.inl (ow hw 114 rfl)) Via.refl e0 (O_EMPTY.ext Xo.2) (g := (mkF m 41 #[.val (.int sel)] [])) rfl (hb hby own_d0_41)
            refine go _ _ (st110) ?_
            show G (T110.setTop (mkF m 44 #[.val (.int sel)] [(.ref u4)]))
            refine fin T110 _ _ _ (some (.ref u4)) X110 (fun q => nomatch q) (by decide) (by decide) (by rw [e110]; exact ⟨N0, rfl, ⟨(.ref u4), rfl, rfl, ⟨(fun q => nomatch q), fun q => absurd hc38_109 q.2.2.2.2⟩⟩⟩) _ (own_retA X110 hx hret rfl rfl rfl (hb hby own_d0_44))
          · refine go _ _ (fun _ k => XS.icmpYes X0.here hx rfl (pc0 := 38) (pc' := 45) rfl (hb hby own_d0_38) rfl (feq hc38_109).2 (by decide) (by decide) k) ?_
            show G (s₁.setTop (mkF m 45 #[.val (.int sel)] []))
            refine go _ _ (fun _ k => XS.aconstNull X0.here hx rfl (hb hby own_d0_45) k) ?_
            show G (s₁.setTop (mkF m 46 #[.val (.int sel)] [.null]))
            refine fin s₁ _ _ _ (some .null) X0 (fun q => nomatch q) (by decide) (by decide) (by rw [e0]; exact ⟨N0, rfl, ⟨.null, rfl, rfl, ⟨fun _ => ⟨hc2_101, hc11_103, hc20_105, hc29_107, hc38_109⟩, fun _ => rfl⟩⟩⟩) _ (own_retA X0 hx hret rfl rfl rfl (hb hby own_d0_46))
theorem own_pd4 : parseMethodDescriptor "(I)Lcom/example/claimwright/claimwright/vendorfile/Rejection;" = some ⟨[.int], some (.object "com/example/claimwright/claimwright/vendorfile/Rejection")⟩ := by decide +kernel
theorem own_pd5 : parseMethodDescriptor "([C)V" = some ⟨[(.array .char)], none⟩ := by decide +kernel
theorem own_pd6 : parseMethodDescriptor "(Ljava/lang/String;Lcom/example/claimwright/claimwright/vendorfile/Rejection;IILjava/util/Map;)V" = some ⟨[(.object "java/lang/String"), (.object "com/example/claimwright/claimwright/vendorfile/Rejection"), .int, .int, (.object "java/util/Map")], none⟩ := by decide +kernel
theorem own_pd7 : parseMethodDescriptor "()Lcom/example/claimwright/claimwright/vendorfile/Rejection;" = some ⟨[], some (.object "com/example/claimwright/claimwright/vendorfile/Rejection")⟩ := by decide +kernel
set_option maxHeartbeats 4000000 in
theorem own_ef_rmLaw (m : MethodId) (x0 : Int32) (x1 : Int32) (x2 : Int32) (x3 : Int32) : entryFrame m #[(.int x0), (.int x1), (.int x2), (.int x3)] maxLocals = mkF m 0 #[.val (.int x0), .val (.int x1), .val (.int x2), .val (.int x3), .unset, .unset, .unset, .unset, .unset, .unset, .unset] [] := by rfl
set_option maxRecDepth 65536 in
set_option maxHeartbeats 40000000 in
theorem rmLaw (l : Launch) (Z : State) (a0 : Array Value) (hw : ∀ d ∈ tables_1, d.before a0 Z = true) (z0 : Int32) (O2 : Sta Z Z.heap "java/lang/String" "COMPACT_STRINGS" "Z" (.int z0)) (P5 : ¬ z0 = (0 : Int32)) (u0 : Addr) (O_BADNAME : Sta Z Z.heap "com/example/claimwright/claimwright/vendorfile/Rejection" "BADNAME" "Lcom/example/claimwright/claimwright/vendorfile/Rejection;" (.ref u0)) (u1 : Addr) (O_DUPLICATE : Sta Z Z.heap "com/example/claimwright/claimwright/vendorfile/Rejection" "DUPLICATE" "Lcom/example/claimwright/claimwright/vendorfile/Rejection;" (.ref u1)) (u2 : Addr) (O_HEADER : Sta Z Z.heap "com/example/claimwright/claimwright/vendorfile/Rejection" "HEADER" "Lcom/example/claimwright/claimwright/vendorfile/Rejection;" (.ref u2)) (u3 : Addr) (O_TRAILER : Sta Z Z.heap "com/example/claimwright/claimwright/vendorfile/Rejection" "TRAILER" "Lcom/example/claimwright/claimwright/vendorfile/Rejection;" (.ref u3)) (u4 : Addr) (O_EMPTY : Sta Z Z.heap "com/example/claimwright/claimwright/vendorfile/Rejection" "EMPTY" "Lcom/example/claimwright/claimwright/vendorfile/Rejection;" (.ref u4)) (em : Addr) (O_em : Sta Z Z.heap "java/util/ImmutableCollections" "EMPTY_MAP" "Ljava/util/ImmutableCollections$MapN;" (.ref em)) (ws : List Jvm.Cond) (p0 : Int32) (p1 : Int32) (p2 : Int32) (p3 : Int32) (h0 : Heap) (n0 : Nat) (Z0 : n0 ≤ h0.size) (Xo : Old Z n0 h0) :
    own_MetN l Z x code maxLocals ret ws room_1 #[(.int p0), (.int p1), (.int p2), (.int p3)] h0 (fun v h L => Fr n0 L ∧ Keep h0 h [] ∧ (((v = some (.int (1 : Int32)))))) := by
  refine own_metN own_pn5 ?_
  intro p e s m below meth c s₁ G hx hby hml hZ hown hnm hret X0 e0 go fin
  have N0 := Fr.nil n0
  refine go _ _ (fun _ k => castTop (own_ef_rmLaw m p0 p1 p2 p3) k) ?_
  show G (s₁.setTop (mkF m 0 #[.val (.int p0), .val (.int p1), .val (.int p2), .val (.int p3), .unset, .unset, .unset, .unset, .unset, .unset, .unset] []))
  refine go _ _ (fun _ k => XS.iloadN X0.here hx rfl (hb hby at_0) rfl k) ?_
  show G (s₁.setTop (mkF m 1 #[.val (.int p0), .val (.int p1), .val (.int p2), .val (.int p3), .unset, .unset, .unset, .unset, .unset, .unset, .unset] [(.int p0)]))
  refine go _ _ (fun _ k => Stand.ldcInt X0 hx hown (mv hZ (ow hw 0 rfl)) (g := (mkF m 1 #[.val (.int p0), .val (.int p1), .val (.int p2), .val (.int p3), .unset, .unset, .unset, .unset, .unset, .unset, .unset] [(.int p0)])) rfl (hb hby at_1) _ k) ?_
  show G (s₁.setTop (mkF m 3 #[.val (.int p0), .val (.int p1), .val (.int p2), .val (.int p3), .unset, .unset, .unset, .unset, .unset, .unset, .unset] [(.int (2147483647 : Int32)), (.int p0)]))
  refine go _ _ (fun _ k => XS.iand X0.here hx rfl (hb hby at_3) rfl (XS.bipush X0.here hx rfl (hb hby at_4) k)) ?_
  show G (s₁.setTop (mkF m 6 #[.val (.int p0), .val (.int p1), .val (.int p2), .val (.int p3), .unset, .unset, .unset, .unset, .unset, .unset, .unset] [(.int (6 : Int32)), (.int (p0 &&& (2147483647 : Int32)))]))
  refine go _ _ (fun _ k => iremM X0 hx rfl (hb hby at_6) rfl (by decide) k) ?_
  show G (s₁.setTop (mkF m 7 #[.val (.int p0), .val (.int p1), .val (.int p2), .val (.int p3), .unset, .unset, .unset, .unset, .unset, .unset, .unset] [(.int ((p0 &&& (2147483647 : Int32)) % (6 : Int32)))]))
  refine go _ _ (fun _ k => XS.istore X0.here hx rfl (hb hby at_7) rfl (l' := #[.val (.int p0), .val (.int p1), .val (.int p2), .val (.int p3), .val (.int ((p0 &&& (2147483647 : Int32)) % (6 : Int32))), .unset, .unset, .unset, .unset, .unset, .unset]) rfl (XS.iload X0.here hx rfl (hb hby at_9) rfl k)) ?_
  show G (s₁.setTop (mkF m 11 #[.val (.int p0), .val (.int p1), .val (.int p2), .val (.int p3), .val (.int ((p0 &&& (2147483647 : Int32)) % (6 : Int32))), .unset, .unset, .unset, .unset, .unset, .unset] [(.int ((p0 &&& (2147483647 : Int32)) % (6 : Int32)))]))
  obtain ⟨rv102, T102, L102, X102, q102, st102⟩ := own_st X0 hx hZ (y := (⟨"com/example/claimwright/claimwright/vendorfile/IngestedIsRejectedPinLaw", "pick", "(I)Lcom/example/claimwright/claimwright/vendorfile/Rejection;"⟩ : MethodName)) hown (ow hw 1 rfl) (ow hw 2 rfl) (ow hw 3 rfl) (ow hw 4 rfl) (by decide) (own_bkN (W := 0) (rm0 l Z a0 hw z0 O2 P5 u0 O_BADNAME u1 O_DUPLICATE u2 O_HEADER u3 O_TRAILER u4 O_EMPTY em O_em [] ((p0 &&& (2147483647 : Int32)) % (6 : Int32)) h0 n0 Z0 Xo) hZ (ow hw 4 rfl) (ow hw 3 rfl) (by decide) (by decide)) e0 (g := (mkF m 11 #[.val (.int p0), .val (.int p1), .val (.int p2), .val (.int p3), .val (.int ((p0 &&& (2147483647 : Int32)) % (6 : Int32))), .unset, .unset, .unset, .unset, .unset, .unset] [(.int ((p0 &&& (2147483647 : Int32)) % (6 : Int32)))])) rfl (by rw [hml]; rfl) (argsL := [(.int ((p0 &&& (2147483647 : Int32)) % (6 : Int32)))]) (rest := []) rfl (lenOf own_pd4 rfl) rfl (by show 2 * 0 + _ ≤ _; exact Nat.le_of_eq rfl) (hb hby at_11) (by decide) (by decide)
  obtain ⟨Nq102, e102, ⟨w_103, rfl, p104, p105⟩⟩ := q102
  have N102 := Fr.app N0 Nq102
  refine go _ _ (st102) ?_
  show G (T102.setTop (mkF m 14 #[.val (.int p0), .val (.int p1), .val (.int p2), .val (.int p3), .val (.int ((p0 &&& (2147483647 : Int32)) % (6 : Int32))), .unset, .unset, .unset, .unset, .unset, .unset] [w_103]))
  refine go _ _ (fun _ k => XS.astore X102.here hx rfl (hb hby at_14) rfl p104 (l' := #[.val (.int p0), .val (.int p1), .val (.int p2), .val (.int p3), .val (.int ((p0 &&& (2147483647 : Int32)) % (6 : Int32))), .val w_103, .unset, .unset, .unset, .unset, .unset]) (XS.store1 rfl (Or.inl rfl) (own_cat p104)) (XS.iconst X102.here hx rfl (hb hby at_16) k)) ?_
  show G (T102.setTop (mkF m 17 #[.val (.int p0), .val (.int p1), .val (.int p2), .val (.int p3), .val (.int ((p0 &&& (2147483647 : Int32)) % (6 : Int32))), .val w_103, .unset, .unset, .unset, .unset, .unset] [(.int (1 : Int32))]))
  obtain ⟨T106, h106, k106, X106, e106, E106, A106, st106⟩ := newP X102 hx hZ (ow hw 5 rfl) e102 (g := (mkF m 17 #[.val (.int p0), .val (.int p1), .val (.int p2), .val (.int p3), .val (.int ((p0 &&& (2147483647 : Int32)) % (6 : Int32))), .val w_103, .unset, .unset, .unset, .unset, .unset] [(.int (1 : Int32))])) rfl (hb hby at_17) rfl (by decide) (cap := 1) (by decide) (by decide) (by decide) (by decide)
  obtain ⟨b106, g106⟩ : ∃ z, z = h0.size := ⟨_, rfl⟩
  rw [← g106] at A106 st106
  have V106 : Arv Z h106 b106 k106 .char (1 : Int32) [(.int (0 : Int32))] (.int (0 : Int32)) := (Arv.new A106 (by decide)).pad (pad_rep [] (.int (0 : Int32)) 1)
  refine go _ _ (st106) ?_
  show G (T106.setTop (mkF m 19 #[.val (.int p0), .val (.int p1), .val (.int p2), .val (.int p3), .val (.int ((p0 &&& (2147483647 : Int32)) % (6 : Int32))), .val w_103, .unset, .unset, .unset, .unset, .unset] [(.ref b106)]))
  refine go _ _ (fun _ k => XS.astore X106.here hx rfl (hb hby at_19) rfl rfl (l' := #[.val (.int p0), .val (.int p1), .val (.int p2), .val (.int p3), .val (.int ((p0 &&& (2147483647 : Int32)) % (6 : Int32))), .val w_103, .val (.ref b106), .unset, .unset, .unset, .unset]) rfl (XS.aload X106.here hx rfl (hb hby at_21) rfl rfl (XS.iconst X106.here hx rfl (hb hby at_23) (XS.iloadN X106.here hx rfl (hb hby at_24) rfl (XS.sipush X106.here hx rfl (hb hby at_25) (XS.iand X106.here hx rfl (hb hby at_28) rfl k)))))) ?_
  show G (T106.setTop (mkF m 29 #[.val (.int p0), .val (.int p1), .val (.int p2), .val (.int p3), .val (.int ((p0 &&& (2147483647 : Int32)) % (6 : Int32))), .val w_103, .val (.ref b106), .unset, .unset, .unset, .unset] [(.int (p3 &&& (255 : Int32))), (.int (0 : Int32)), (.ref b106)]))
  refine go _ _ (fun _ k => XS.i2c X106.here hx rfl (hb hby at_29) rfl k) ?_
  show G (T106.setTop (mkF m 30 #[.val (.int p0), .val (.int p1), .val (.int p2), .val (.int p3), .val (.int ((p0 &&& (2147483647 : Int32)) % (6 : Int32))), .val w_103, .val (.ref b106), .unset, .unset, .unset, .unset] [(.int ((p3 &&& (255 : Int32)).toUInt32.toUInt16.toUInt32.toInt32)), (.int (0 : Int32)), (.ref b106)]))
  obtain ⟨cl107, Ar107, q107, S107, M107, H107, U107⟩ := id V106
  obtain ⟨T107, h107, X107, e107, W107, st107⟩ := stC X106 hx hZ e106 Ar107 (j := (0 : Int32)) (inb_of S107 ⟨by decide, by decide⟩) (g := (mkF m 30 #[.val (.int p0), .val (.int p1), .val (.int p2), .val (.int p3), .val (.int ((p0 &&& (2147483647 : Int32)) % (6 : Int32))), .val w_103, .val (.ref b106), .unset, .unset, .unset, .unset] [(.int ((p3 &&& (255 : Int32)).toUInt32.toUInt16.toUInt32.toInt32)), (.int (0 : Int32)), (.ref b106)])) rfl rfl (hb hby at_30)
  have V107 : Arv Z h107 b106 k106 .char (1 : Int32) [(.int (nar .char ((p3 &&& (255 : Int32)).toUInt32.toUInt16.toUInt32.toInt32)))] (.int (0 : Int32)) := Arv.set Ar107 q107 S107 M107 H107 U107 (fits_nar_char _) W107 0 rfl (Nat.le_of_ble_eq_true rfl)
  rw [(own_i2c (p3 &&& (255 : Int32)))] at V107
  have N107 := Fr.snoc X107 N102 (Nat.le_trans Z0 (Nat.le_of_eq g106.symm))
  refine go _ _ (st107) ?_
  show G (T107.setTop (mkF m 31 #[.val (.int p0), .val (.int p1), .val (.int p2), .val (.int p3), .val (.int ((p0 &&& (2147483647 : Int32)) % (6 : Int32))), .val w_103, .val (.ref b106), .unset, .unset, .unset, .unset] []))
  obtain ⟨T108, h108, X108, e108, E108, A108, D108, -, st108⟩ := newO X107 hx hZ hown (ow hw 6 rfl) (ow hw 7 rfl) (ow hw 8 rfl) e107 (g := (mkF m 31 #[.val (.int p0), .val (.int p1), .val (.int p2), .val (.int p3), .val (.int ((p0 &&& (2147483647 : Int32)) % (6 : Int32))), .val w_103, .val (.ref b106), .unset, .unset, .unset, .unset] [])) rfl (hb hby at_31) (by decide) (by decide)
  obtain ⟨b108, g108⟩ : ∃ z, z = h107.size := ⟨_, rfl⟩
  rw [← g108] at A108 D108 st108
  refine go _ _ (st108) ?_
  show G (T108.setTop (mkF m 34 #[.val (.int p0), .val (.int p1), .val (.int p2), .val (.int p3), .val (.int ((p0 &&& (2147483647 : Int32)) % (6 : Int32))), .val w_103, .val (.ref b106), .unset, .unset, .unset, .unset] [(.ref b108)]))
  refine go _ _ (fun _ k => XS.dup X108.here hx rfl (hb hby at_34) rfl rfl (XS.aload X108.here hx rfl (hb hby at_35) rfl rfl k)) ?_
  show G (T108.setTop (mkF m 37 #[.val (.int p0), .val (.int p1), .val (.int p2), .val (.int p3), .val (.int ((p0 &&& (2147483647 : Int32)) % (6 : Int32))), .val w_103, .val (.ref b106), .unset, .unset, .unset, .unset] [(.ref b106), (.ref b108), (.ref b108)]))
  have K110 : Keep h107 h108 [] := (Keep.refl h107 []).ext E108
  have F111 : Arv Z h108 b106 k106 .char (1 : Int32) [(.int ((p3 &&& (255 : Int32)).toUInt32.toUInt16.toUInt32.toInt32))] (.int (0 : Int32)) := (V107.keep K110 nin0)
  have K112 : Keep h0 h106 [] := (Keep.refl h0 []).ext E106
  have K113 : Keep h0 h107 [] := K112.wr W107 (Or.inr (Nat.le_of_eq g106.symm))
  have K114 : Keep h0 h108 [] := K113.ext E108
  have F115 : Old Z n0 h108 := (Xo.keep K114 all0)
  have hp109 : ∀ c ∈ ([((p3 &&& (255 : Int32)).toUInt32.toUInt16.toUInt32.toInt32)] : List Int32), ¬ c < 0 ∧ ¬ (255 : Int32) < c := by
    intro c hc
    simp only [List.mem_cons, List.not_mem_nil, or_false] at hc
    rcases hc with rfl
    · exact (own_and255 p3)
  have Z116 : h0.size ≤ h106.size := E106.1
  have Z117 : h0.size ≤ h107.size := Nat.le_trans Z116 (Keep.of_wr W107).1
  have Z118 : h0.size ≤ h108.size := Nat.le_trans Z117 E108.1
  obtain ⟨rv109, T109, L109, X109, q109, st109⟩ := own_sp X108 hx hZ (y := (⟨"java/lang/String", "<init>", "([C)V"⟩ : MethodName)) rfl hown (ow hw 9 rfl) (ow hw 10 rfl) (ow hw 11 rfl) (by decide) (StrChars.Road.backV (W := 1) hZ (own_hws hw) (kI := 4) (ow hw 7 rfl) (cs := ([((p3 &&& (255 : Int32)).toUInt32.toUInt16.toUInt32.toInt32)] : List Int32)) (bs := ([((p3 &&& (255 : Int32)).toUInt32.toUInt16.toUInt32.toInt32)] : List Int32).map (fun c => c.toInt8.toInt32)) (n := 1) (Nat.le_trans (Nat.le_trans Z0 Z117) (Nat.le_of_eq g108.symm)) (Nat.le_trans Z0 Z118) A108 (D108 (Or.inr (ow hw 34 rfl)) (ty := (.array .byte)) (by decide)) (D108 (Or.inr (ow hw 32 rfl)) (ty := .byte) (by decide)) F111 (O2.ext F115.2) P5 rfl rfl (by decide) (by decide) hp109 rfl (by decide) (by decide)) e108 (g := (mkF m 37 #[.val (.int p0), .val (.int p1), .val (.int p2), .val (.int p3), .val (.int ((p0 &&& (2147483647 : Int32)) % (6 : Int32))), .val w_103, .val (.ref b106), .unset, .unset, .unset, .unset] [(.ref b106), (.ref b108), (.ref b108)])) rfl (by rw [hml]; rfl) (a := b108) (argsL := [(.ref b106)]) (rest := [(.ref b108)]) rfl (lenOf own_pd5 rfl) rfl (by show 2 * 0 + _ ≤ _; exact Nat.le_of_eq rfl) (hb hby at_37) (by decide) (by decide)
  obtain ⟨rfl, Nq109, Kp109, Es109, Cs109, t109, kb109, u109a, u109b, u109c, Vs109, As109⟩ := q109
  have N109 := Fr.app N107 Nq109
  have Sx109 : own_Str Z T109.heap b108 ([((p3 &&& (255 : Int32)).toUInt32.toUInt16.toUInt32.toInt32)] : List Int32) := ⟨t109, kb109, Es109, Vs109, Cs109, As109, hp109, (Nat.le_of_ble_eq_true rfl)⟩
  refine go _ _ (st109) ?_
  show G (T109.setTop (mkF m 40 #[.val (.int p0), .val (.int p1), .val (.int p2), .val (.int p3), .val (.int ((p0 &&& (2147483647 : Int32)) % (6 : Int32))), .val w_103, .val (.ref b106), .unset, .unset, .unset, .unset] [(.ref b108)]))
  refine go _ _ (fun _ k => XS.astore X109.here hx rfl (hb hby at_40) rfl rfl (l' := #[.val (.int p0), .val (.int p1), .val (.int p2), .val (.int p3), .val (.int ((p0 &&& (2147483647 : Int32)) % (6 : Int32))), .val w_103, .val (.ref b106), .val (.ref b108), .unset, .unset, .unset]) rfl k) ?_
  show G (T109.setTop (mkF m 42 #[.val (.int p0), .val (.int p1), .val (.int p2), .val (.int p3), .val (.int ((p0 &&& (2147483647 : Int32)) % (6 : Int32))), .val w_103, .val (.ref b106), .val (.ref b108), .unset, .unset, .unset] []))
  obtain ⟨T119, h119, X119, e119, E119, A119, D119, -, st119⟩ := newO X109 hx hZ hown (ow hw 35 rfl) (ow hw 36 rfl) (ow hw 37 rfl) rfl (g := (mkF m 42 #[.val (.int p0), .val (.int p1), .val (.int p2), .val (.int p3), .val (.int ((p0 &&& (2147483647 : Int32)) % (6 : Int32))), .val w_103, .val (.ref b106), .val (.ref b108), .unset, .unset, .unset] [])) rfl (hb hby at_42) (by decide) (by decide)
  obtain ⟨b119, g119⟩ : ∃ z, z = T109.heap.size := ⟨_, rfl⟩
  rw [← g119] at A119 D119 st119
  refine go _ _ (st119) ?_
  show G (T119.setTop (mkF m 45 #[.val (.int p0), .val (.int p1), .val (.int p2), .val (.int p3), .val (.int ((p0 &&& (2147483647 : Int32)) % (6 : Int32))), .val w_103, .val (.ref b106), .val (.ref b108), .unset, .unset, .unset] [(.ref b119)]))
  refine go _ _ (fun _ k => XS.dup X119.here hx rfl (hb hby at_45) rfl rfl k) ?_
  show G (T119.setTop (mkF m 46 #[.val (.int p0), .val (.int p1), .val (.int p2), .val (.int p3), .val (.int ((p0 &&& (2147483647 : Int32)) % (6 : Int32))), .val w_103, .val (.ref b106), .val (.ref b108), .unset, .unset, .unset] [(.ref b119), (.ref b119)]))
  have Z121 : h0.size ≤ T109.heap.size := Nat.le_trans Z118 Kp109.1
  have Z122 : h0.size ≤ h119.size := Nat.le_trans Z121 E119.1
  obtain ⟨rv120, T120, L120, X120, q120, st120⟩ := own_sp X119 hx hZ (y := (⟨"java/util/HashMap", "<init>", "()V"⟩ : MethodName)) rfl hown (ow hw 38 rfl) (ow hw 39 rfl) (ow hw 40 rfl) (by decide) (own_bkN (W := 1) (rm7 l Z a0 hw z0 O2 P5 u0 O_BADNAME u1 O_DUPLICATE u2 O_HEADER u3 O_TRAILER u4 O_EMPTY em O_em [] b119 h119 n0 (Nat.le_trans Z0 Z122) A119 (D119 (Or.inr (ow hw 50 rfl)) (ty := .float) (by decide)) (D119 (Or.inl (ow hw 81 rfl)) (ty := .int) (by decide)) (Nat.le_trans (Nat.le_trans Z0 Z121) (Nat.le_of_eq g119.symm))) hZ (ow hw 40 rfl) (ow hw 37 rfl) (by decide) (by decide)) e119 (g := (mkF m 46 #[.val (.int p0), .val (.int p1), .val (.int p2), .val (.int p3), .val (.int ((p0 &&& (2147483647 : Int32)) % (6 : Int32))), .val w_103, .val (.ref b106), .val (.ref b108), .unset, .unset, .unset] [(.ref b119), (.ref b119)])) rfl (by rw [hml]; rfl) (a := b119) (argsL := []) (rest := [(.ref b119)]) rfl (lenOf own_pd0 rfl) rfl (by show 2 * 0 + _ ≤ _; exact Nat.le_of_eq rfl) (hb hby at_46) (by decide) (by decide)
  obtain ⟨Nq120, Kp120, ⟨rfl, f123, f124⟩⟩ := q120
  have N120 := Fr.app N109 Nq120
  refine go _ _ (st120) ?_
  show G (T120.setTop (mkF m 49 #[.val (.int p0), .val (.int p1), .val (.int p2), .val (.int p3), .val (.int ((p0 &&& (2147483647 : Int32)) % (6 : Int32))), .val w_103, .val (.ref b106), .val (.ref b108), .unset, .unset, .unset] [(.ref b119)]))
  refine go _ _ (fun _ k => XS.astore X120.here hx rfl (hb hby at_49) rfl rfl (l' := #[.val (.int p0), .val (.int p1), .val (.int p2), .val (.int p3), .val (.int ((p0 &&& (2147483647 : Int32)) % (6 : Int32))), .val w_103, .val (.ref b106), .val (.ref b108), .val (.ref b119), .unset, .unset]) rfl k) ?_
  show G (T120.setTop (mkF m 51 #[.val (.int p0), .val (.int p1), .val (.int p2), .val (.int p3), .val (.int ((p0 &&& (2147483647 : Int32)) % (6 : Int32))), .val w_103, .val (.ref b106), .val (.ref b108), .val (.ref b119), .unset, .unset] []))
  obtain ⟨T125, h125, X125, e125, E125, A125, D125, -, st125⟩ := newO X120 hx hZ hown (ow hw 51 rfl) (ow hw 52 rfl) (ow hw 53 rfl) rfl (g := (mkF m 51 #[.val (.int p0), .val (.int p1), .val (.int p2), .val (.int p3), .val (.int ((p0 &&& (2147483647 : Int32)) % (6 : Int32))), .val w_103, .val (.ref b106), .val (.ref b108), .val (.ref b119), .unset, .unset] [])) rfl (hb hby at_51) (by decide) (by decide)
  obtain ⟨b125, g125⟩ : ∃ z, z = T120.heap.size := ⟨_, rfl⟩
  rw [← g125] at A125 D125 st125
  refine go _ _ (st125) ?_
  show G (T125.setTop (mkF m 54 #[.val (.int p0), .val (.int p1), .val (.int p2), .val (.int p3), .val (.int ((p0 &&& (2147483647 : Int32)) % (6 : Int32))), .val w_103, .val (.ref b106), .val (.ref b108), .val (.ref b119), .unset, .unset] [(.ref b125)]))
  refine go _ _ (fun _ k => XS.dup X125.here hx rfl (hb hby at_54) rfl rfl (XS.aload X125.here hx rfl (hb hby at_55) rfl rfl (XS.aload X125.here hx rfl (hb hby at_57) rfl p104 (XS.iloadN X125.here hx rfl (hb hby at_59) rfl (XS.iloadN X125.here hx rfl (hb hby at_60) rfl (XS.aload X125.here hx rfl (hb hby at_61) rfl rfl k)))))) ?_
  show G (T125.setTop (mkF m 63 #[.val (.int p0), .val (.int p1), .val (.int p2), .val (.int p3), .val (.int ((p0 &&& (2147483647 : Int32)) % (6 : Int32))), .val w_103, .val (.ref b106), .val (.ref b108), .val (.ref b119), .unset, .unset] [(.ref b119), (.int p2), (.int p1), w_103, (.ref b108), (.ref b125), (.ref b125)]))
  have Z127 : h108.size ≤ T109.heap.size := Kp109.1
  have K128 : Keep h108 T109.heap [b108] := (Keep.refl h108 [b108]).trans Kp109 (allS (Or.inl (List.mem_of_getElem? (i := 0) rfl)) all0)
  have K129 : Keep h108 h119 [b108] := K128.ext E119
  have K130 : Keep h108 T120.heap [b108] := K129.trans Kp120 (allS (Or.inr (Nat.le_trans Z127 (Nat.le_of_eq g119.symm))) all0)
  have K131 : Keep h108 h125 [b108] := K130.ext E125
  have F132 : Old Z n0 h125 := (F115.keep K131 (allS (Nat.le_trans (Nat.le_trans Z0 Z117) (Nat.le_of_eq g108.symm)) all0))
  have K133 : Keep T120.heap h125 [] := (Keep.refl T120.heap []).ext E125
  have F134 : Exa Z h125 b119 "java/util/HashMap" := (f123.keep K133)
  have F135 : Fld Z h125 b119 "java/util/HashMap" "size" "I" (.int (0 : Int32)) := (f124.keep K133 nin0)
  have Z136 : h0.size ≤ T120.heap.size := Nat.le_trans Z122 Kp120.1
  have Z137 : h0.size ≤ h125.size := Nat.le_trans Z136 E125.1
  obtain ⟨rv126, T126, L126, X126, q126, st126⟩ := own_sp X125 hx hZ (y := (⟨"com/example/claimwright/claimwright/vendorfile/Ingested", "<init>", "(Ljava/lang/String;Lcom/example/claimwright/claimwright/vendorfile/Rejection;IILjava/util/Map;)V"⟩ : MethodName)) rfl hown (ow hw 54 rfl) (ow hw 55 rfl) (ow hw 56 rfl) (by decide) (own_bkN (W := 1) (rm9 l Z a0 hw z0 O2 P5 u0 O_BADNAME u1 O_DUPLICATE u2 O_HEADER u3 O_TRAILER u4 O_EMPTY em O_em [] b125 (.ref b108) w_103 p1 p2 b119 h125 n0 (Nat.le_trans Z0 Z137) rfl p104 F132 A125 F134 F135 (D125 (Or.inr (ow hw 88 rfl)) (ty := (.object "java/lang/String")) (by decide)) (D125 (Or.inr (ow hw 90 rfl)) (ty := (.object "com/example/claimwright/claimwright/vendorfile/Rejection")) (by decide)) (D125 (Or.inr (ow hw 92 rfl)) (ty := .int) (by decide)) (D125 (Or.inr (ow hw 94 rfl)) (ty := .int) (by decide)) (D125 (Or.inr (ow hw 96 rfl)) (ty := (.object "java/util/Map")) (by decide)) (Nat.le_trans (Nat.le_trans Z0 Z136) (Nat.le_of_eq g125.symm))) hZ (ow hw 56 rfl) (ow hw 53 rfl) (by decide) (by decide)) e125 (g := (mkF m 63 #[.val (.int p0), .val (.int p1), .val (.int p2), .val (.int p3), .val (.int ((p0 &&& (2147483647 : Int32)) % (6 : Int32))), .val w_103, .val (.ref b106), .val (.ref b108), .val (.ref b119), .unset, .unset] [(.ref b119), (.int p2), (.int p1), w_103, (.ref b108), (.ref b125), (.ref b125)])) rfl (by rw [hml]; rfl) (a := b125) (argsL := [(.ref b108), w_103, (.int p1), (.int p2), (.ref b119)]) (rest := [(.ref b125)]) rfl (lenOf own_pd6 rfl) rfl (by show 2 * 0 + _ ≤ _; exact Nat.le_of_eq rfl) (hb hby at_63) (by decide) (by decide)
  obtain ⟨Nq126, Kp126, ⟨rfl, f138, f139⟩⟩ := q126
  have N126 := Fr.app N120 Nq126
  refine go _ _ (st126) ?_
  show G (T126.setTop (mkF m 66 #[.val (.int p0), .val (.int p1), .val (.int p2), .val (.int p3), .val (.int ((p0 &&& (2147483647 : Int32)) % (6 : Int32))), .val w_103, .val (.ref b106), .val (.ref b108), .val (.ref b119), .unset, .unset] [(.ref b125)]))
  refine go _ _ (fun _ k => XS.astore X126.here hx rfl (hb hby at_66) rfl rfl (l' := #[.val (.int p0), .val (.int p1), .val (.int p2), .val (.int p3), .val (.int ((p0 &&& (2147483647 : Int32)) % (6 : Int32))), .val w_103, .val (.ref b106), .val (.ref b108), .val (.ref b119), .val (.ref b125), .unset]) rfl (XS.iload X126.here hx rfl (hb hby at_68) rfl k)) ?_
  show G (T126.setTop (mkF m 70 #[.val (.int p0), .val (.int p1), .val (.int p2), .val (.int p3), .val (.int ((p0 &&& (2147483647 : Int32)) % (6 : Int32))), .val w_103, .val (.ref b106), .val (.ref b108), .val (.ref b119), .val (.ref b125), .unset] [(.int ((p0 &&& (2147483647 : Int32)) % (6 : Int32)))]))
  by_cases hc70_140 : ((p0 &&& (2147483647 : Int32)) % (6 : Int32)) = (0 : Int32)
  · refine go _ _ (fun _ k => XS.ifYes X126.here hx rfl (pc0 := 70) (pc' := 77) rfl (hb hby at_70) rfl ((if0 _ _).trans (teq hc70_140).1) (by decide) (by decide) k) ?_
    show G (T126.setTop (mkF m 77 #[.val (.int p0), .val (.int p1), .val (.int p2), .val (.int p3), .val (.int ((p0 &&& (2147483647 : Int32)) % (6 : Int32))), .val w_103, .val (.ref b106), .val (.ref b108), .val (.ref b119), .val (.ref b125), .unset] []))
    refine go _ _ (fun _ k => XS.iconst X126.here hx rfl (hb hby at_77) (XS.istore X126.here hx rfl (hb hby at_78) rfl (l' := #[.val (.int p0), .val (.int p1), .val (.int p2), .val (.int p3), .val (.int ((p0 &&& (2147483647 : Int32)) % (6 : Int32))), .val w_103, .val (.ref b106), .val (.ref b108), .val (.ref b119), .val (.ref b125), .val (.int (0 : Int32))]) rfl (XS.aload X126.here hx rfl (hb hby at_80) rfl rfl k))) ?_
    show G (T126.setTop (mkF m 82 #[.val (.int p0), .val (.int p1), .val (.int p2), .val (.int p3), .val (.int ((p0 &&& (2147483647 : Int32)) % (6 : Int32))), .val w_103, .val (.ref b106), .val (.ref b108), .val (.ref b119), .val (.ref b125), .val (.int (0 : Int32))] [(.ref b125)]))
    have Z142 : h0.size ≤ T126.heap.size := Nat.le_trans Z137 Kp126.1
    obtain ⟨rv141, T141, L141, X141, q141, st141⟩ := own_vi X126 hx hZ (y := (⟨"com/example/claimwright/claimwright/vendorfile/Ingested", "isRejected", "()Z"⟩ : MethodName)) (z := (⟨"com/example/claimwright/claimwright/vendorfile/Ingested", "isRejected", "()Z"⟩ : MethodName)) hown (ow hw 97 rfl) (ow hw 98 rfl) (ow hw 100 rfl) (ow hw 99 rfl) (Or.inl rfl) (by decide) (own_bkN (W := 0) (rm14 l Z a0 hw z0 O2 P5 u0 O_BADNAME u1 O_DUPLICATE u2 O_HEADER u3 O_TRAILER u4 O_EMPTY em O_em [] b125 w_103 T126.heap n0 (Nat.le_trans Z0 Z142) p104 f139) hZ (ow hw 101 rfl) (ow hw 53 rfl) (by decide) (by decide)) rfl f138 (g := (mkF m 82 #[.val (.int p0), .val (.int p1), .val (.int p2), .val (.int p3), .val (.int ((p0 &&& (2147483647 : Int32)) % (6 : Int32))), .val w_103, .val (.ref b106), .val (.ref b108), .val (.ref b119), .val (.ref b125), .val (.int (0 : Int32))] [(.ref b125)])) rfl (by rw [hml]; rfl) (argsL := []) (rest := []) rfl (lenOf own_pd1 rfl) rfl (by show 2 * 0 + _ ≤ _; exact Nat.le_of_eq rfl) (hb hby at_82) (by decide) (by decide)
    obtain ⟨Nq141, e141, q141⟩ := q141
    have N141 := Fr.app N126 Nq141
    rcases q141 with ⟨rfl, p143⟩ | ⟨rfl, p144⟩
    · refine go _ _ (st141) ?_
      show G (T141.setTop (mkF m 85 #[.val (.int p0), .val (.int p1), .val (.int p2), .val (.int p3), .val (.int ((p0 &&& (2147483647 : Int32)) % (6 : Int32))), .val w_103, .val (.ref b106), .val (.ref b108), .val (.ref b119), .val (.ref b125), .val (.int (0 : Int32))] [(.int (0 : Int32))]))
      refine go _ _ (fun _ k => XS.iload X141.here hx rfl (hb hby at_85) rfl k) ?_
      show G (T141.setTop (mkF m 87 #[.val (.int p0), .val (.int p1), .val (.int p2), .val (.int p3), .val (.int ((p0 &&& (2147483647 : Int32)) % (6 : Int32))), .val w_103, .val (.ref b106), .val (.ref b108), .val (.ref b119), .val (.ref b125), .val (.int (0 : Int32))] [(.int (0 : Int32)), (.int (0 : Int32))]))
      refine go _ _ (fun _ k => XS.icmpNo X141.here hx rfl (hb hby at_87) rfl (by decide) k) ?_
      show G (T141.setTop (mkF m 90 #[.val (.int p0), .val (.int p1), .val (.int p2), .val (.int p3), .val (.int ((p0 &&& (2147483647 : Int32)) % (6 : Int32))), .val w_103, .val (.ref b106), .val (.ref b108), .val (.ref b119), .val (.ref b125), .val (.int (0 : Int32))] []))
      refine go _ _ (fun _ k => XS.aload X141.here hx rfl (hb hby at_90) rfl rfl k) ?_
      show G (T141.setTop (mkF m 92 #[.val (.int p0), .val (.int p1), .val (.int p2), .val (.int p3), .val (.int ((p0 &&& (2147483647 : Int32)) % (6 : Int32))), .val w_103, .val (.ref b106), .val (.ref b108), .val (.ref b119), .val (.ref b125), .val (.int (0 : Int32))] [(.ref b125)]))
      obtain ⟨rv145, T145, L145, X145, q145, st145⟩ := own_vi X141 hx hZ (y := (⟨"com/example/claimwright/claimwright/vendorfile/Ingested", "rejection", "()Lcom/example/claimwright/claimwright/vendorfile/Rejection;"⟩ : MethodName)) (z := (⟨"com/example/claimwright/claimwright/vendorfile/Ingested", "rejection", "()Lcom/example/claimwright/claimwright/vendorfile/Rejection;"⟩ : MethodName)) hown (ow hw 102 rfl) (ow hw 103 rfl) (ow hw 105 rfl) (ow hw 104 rfl) (Or.inl rfl) (by decide) (own_bkN (W := 0) (rm15 l Z a0 hw z0 O2 P5 u0 O_BADNAME u1 O_DUPLICATE u2 O_HEADER u3 O_TRAILER u4 O_EMPTY em O_em [] b125 w_103 T126.heap n0 (Nat.le_trans Z0 Z142) p104 f139) hZ (ow hw 106 rfl) (ow hw 53 rfl) (by decide) (by decide)) e141 f138 (g := (mkF m 92 #[.val (.int p0), .val (.int p1), .val (.int p2), .val (.int p3), .val (.int ((p0 &&& (2147483647 : Int32)) % (6 : Int32))), .val w_103, .val (.ref b106), .val (.ref b108), .val (.ref b119), .val (.ref b125), .val (.int (0 : Int32))] [(.ref b125)])) rfl (by rw [hml]; rfl) (argsL := []) (rest := []) rfl (lenOf own_pd7 rfl) rfl (by show 2 * 0 + _ ≤ _; exact Nat.le_of_eq rfl) (hb hby at_92) (by decide) (by decide)
      obtain ⟨Nq145, e145, rfl⟩ := q145
      have N145 := Fr.app N141 Nq145
      refine go _ _ (st145) ?_
      show G (T145.setTop (mkF m 95 #[.val (.int p0), .val (.int p1), .val (.int p2), .val (.int p3), .val (.int ((p0 &&& (2147483647 : Int32)) % (6 : Int32))), .val w_103, .val (.ref b106), .val (.ref b108), .val (.ref b119), .val (.ref b125), .val (.int (0 : Int32))] [w_103]))
      refine go _ _ (fun _ k => XS.aload X145.here hx rfl (hb hby at_95) rfl p104 k) ?_
      show G (T145.setTop (mkF m 97 #[.val (.int p0), .val (.int p1), .val (.int p2), .val (.int p3), .val (.int ((p0 &&& (2147483647 : Int32)) % (6 : Int32))), .val w_103, .val (.ref b106), .val (.ref b108), .val (.ref b119), .val (.ref b125), .val (.int (0 : Int32))] [w_103, w_103]))
      refine go _ _ (fun _ k => acmp X145 hx rfl p104 p104 (pc0 := 97) (pc' := 100) (same := true) rfl (hb hby at_97) rfl (decide_eq_true rfl) (by decide) (by decide) k) ?_
      show G (T145.setTop (mkF m 100 #[.val (.int p0), .val (.int p1), .val (.int p2), .val (.int p3), .val (.int ((p0 &&& (2147483647 : Int32)) % (6 : Int32))), .val w_103, .val (.ref b106), .val (.ref b108), .val (.ref b119), .val (.ref b125), .val (.int (0 : Int32))] []))
      refine go _ _ (fun _ k => XS.iconst X145.here hx rfl (hb hby at_100) k) ?_
      show G (T145.setTop (mkF m 101 #[.val (.int p0), .val (.int p1), .val (.int p2), .val (.int p3), .val (.int ((p0 &&& (2147483647 : Int32)) % (6 : Int32))), .val w_103, .val (.ref b106), .val (.ref b108), .val (.ref b119), .val (.ref b125), .val (.int (0 : Int32))] [(.int (1 : Int32))]))
      refine go _ _ (fun _ k => XS.goto X145.here hx rfl (pc0 := 101) (pc' := 105) rfl (hb hby at_101) (by decide) (by decide) k) ?_
      show G (T145.setTop (mkF m 105 #[.val (.int p0), .val (.int p1), .val (.int p2), .val (.int p3), .val (.int ((p0 &&& (2147483647 : Int32)) % (6 : Int32))), .val w_103, .val (.ref b106), .val (.ref b108), .val (.ref b119), .val (.ref b125), .val (.int (0 : Int32))] [(.int (1 : Int32))]))
      have K146 : Keep h0 T109.heap [] := K114.trans Kp109 (allS (Or.inr (Nat.le_trans Z117 (Nat.le_of_eq g108.symm))) all0)
      have K147 : Keep h0 h119 [] := K146.ext E119
      have K148 : Keep h0 T120.heap [] := K147.trans Kp120 (allS (Or.inr (Nat.le_trans Z121 (Nat.le_of_eq g119.symm))) all0)
      have K149 : Keep h0 h125 [] := K148.ext E125
      have K150 : Keep h0 T126.heap [] := K149.trans Kp126 (allS (Or.inr (Nat.le_trans Z136 (Nat.le_of_eq g125.symm))) all0)
      refine fin T145 _ _ _ (some (.int (1 : Int32))) X145 (fun q => nomatch q) (by decide) (by decide) (by rw [e145]; exact ⟨N145, K150, rfl⟩) _ (own_retN X145 hx (z := (1 : Int32)) (t := .boolean) hret (by simp) (hb hby at_105))
    · refine go _ _ (st141) ?_
      show G (T141.setTop (mkF m 85 #[.val (.int p0), .val (.int p1), .val (.int p2), .val (.int p3), .val (.int ((p0 &&& (2147483647 : Int32)) % (6 : Int32))), .val w_103, .val (.ref b106), .val (.ref b108), .val (.ref b119), .val (.ref b125), .val (.int (0 : Int32))] [(.int (1 : Int32))]))
      refine go _ _ (fun _ k => XS.iload X141.here hx rfl (hb hby at_85) rfl k) ?_
      show G (T141.setTop (mkF m 87 #[.val (.int p0), .val (.int p1), .val (.int p2), .val (.int p3), .val (.int ((p0 &&& (2147483647 : Int32)) % (6 : Int32))), .val w_103, .val (.ref b106), .val (.ref b108), .val (.ref b119), .val (.ref b125), .val (.int (0 : Int32))] [(.int (0 : Int32)), (.int (1 : Int32))]))
      exact absurd (p105.mpr (own_sel0 hc70_140)) p144
  · refine go _ _ (fun _ k => XS.ifNo X126.here hx rfl (hb hby at_70) rfl ((if0 _ _).trans (feq hc70_140).1) k) ?_
    show G (T126.setTop (mkF m 73 #[.val (.int p0), .val (.int p1), .val (.int p2), .val (.int p3), .val (.int ((p0 &&& (2147483647 : Int32)) % (6 : Int32))), .val w_103, .val (.ref b106), .val (.ref b108), .val (.ref b119), .val (.ref b125), .unset] []))
    refine go _ _ (fun _ k => XS.iconst X126.here hx rfl (hb hby at_73) k) ?_
    show G (T126.setTop (mkF m 74 #[.val (.int p0), .val (.int p1), .val (.int p2), .val (.int p3), .val (.int ((p0 &&& (2147483647 : Int32)) % (6 : Int32))), .val w_103, .val (.ref b106), .val (.ref b108), .val (.ref b119), .val (.ref b125), .unset] [(.int (1 : Int32))]))
    refine go _ _ (fun _ k => XS.goto X126.here hx rfl (pc0 := 74) (pc' := 78) rfl (hb hby at_74) (by decide) (by decide) k) ?_
    show G (T126.setTop (mkF m 78 #[.val (.int p0), .val (.int p1), .val (.int p2), .val (.int p3), .val (.int ((p0 &&& (2147483647 : Int32)) % (6 : Int32))), .val w_103, .val (.ref b106), .val (.ref b108), .val (.ref b119), .val (.ref b125), .unset] [(.int (1 : Int32))]))
    refine go _ _ (fun _ k => XS.istore X126.here hx rfl (hb hby at_78) rfl (l' := #[.val (.int p0), .val (.int p1), .val (.int p2), .val (.int p3), .val (.int ((p0 &&& (2147483647 : Int32)) % (6 : Int32))), .val w_103, .val (.ref b106), .val (.ref b108), .val (.ref b119), .val (.ref b125), .val (.int (1 : Int32))]) rfl (XS.aload X126.here hx rfl (hb hby at_80) rfl rfl k)) ?_
    show G (T126.setTop (mkF m 82 #[.val (.int p0), .val (.int p1), .val (.int p2), .val (.int p3), .val (.int ((p0 &&& (2147483647 : Int32)) % (6 : Int32))), .val w_103, .val (.ref b106), .val (.ref b108), .val (.ref b119), .val (.ref b125), .val (.int (1 : Int32))] [(.ref b125)]))
    have Z152 : h0.size ≤ T126.heap.size := Nat.le_trans Z137 Kp126.1
    obtain ⟨rv151, T151, L151, X151, q151, st151⟩ := own_vi X126 hx hZ (y := (⟨"com/example/claimwright/claimwright/vendorfile/Ingested", "isRejected", "()Z"⟩ : MethodName)) (z := (⟨"com/example/claimwright/claimwright/vendorfile/Ingested", "isRejected", "()Z"⟩ : MethodName)) hown (ow hw 97 rfl) (ow hw 98 rfl) (ow hw 100 rfl) (ow hw 99 rfl) (Or.inl rfl) (by decide) (own_bkN (W := 0) (rm14 l Z a0 hw z0 O2 P5 u0 O_BADNAME u1 O_DUPLICATE u2 O_HEADER u3 O_TRAILER u4 O_EMPTY em O_em [] b125 w_103 T126.heap n0 (Nat.le_trans Z0 Z152) p104 f139) hZ (ow hw 101 rfl) (ow hw 53 rfl) (by decide) (by decide)) rfl f138 (g := (mkF m 82 #[.val (.int p0), .val (.int p1), .val (.int p2), .val (.int p3), .val (.int ((p0 &&& (2147483647 : Int32)) % (6 : Int32))), .val w_103, .val (.ref b106), .val (.ref b108), .val (.ref b119), .val (.ref b125), .val (.int (1 : Int32))] [(.ref b125)])) rfl (by rw [hml]; rfl) (argsL := []) (rest := []) rfl (lenOf own_pd1 rfl) rfl (by show 2 * 0 + _ ≤ _; exact Nat.le_of_eq rfl) (hb hby at_82) (by decide) (by decide)
    obtain ⟨Nq151, e151, q151⟩ := q151
    have N151 := Fr.app N126 Nq151
    rcases q151 with ⟨rfl, p153⟩ | ⟨rfl, p154⟩
    · refine go _ _ (st151) ?_
      show G (T151.setTop (mkF m 85 #[.val (.int p0), .val (.int p1), .val (.int p2), .val (.int p3), .val (.int ((p0 &&& (2147483647 : Int32)) % (6 : Int32))), .val w_103, .val (.ref b106), .val (.ref b108), .val (.ref b119), .val (.ref b125), .val (.int (1 : Int32))] [(.int (0 : Int32))]))
      refine go _ _ (fun _ k => XS.iload X151.here hx rfl (hb hby at_85) rfl k) ?_
      show G (T151.setTop (mkF m 87 #[.val (.int p0), .val (.int p1), .val (.int p2), .val (.int p3), .val (.int ((p0 &&& (2147483647 : Int32)) % (6 : Int32))), .val w_103, .val (.ref b106), .val (.ref b108), .val (.ref b119), .val (.ref b125), .val (.int (1 : Int32))] [(.int (1 : Int32)), (.int (0 : Int32))]))
      exact absurd (own_sel _ (p105.mp p153)) hc70_140
    · refine go _ _ (st151) ?_
      show G (T151.setTop (mkF m 85 #[.val (.int p0), .val (.int p1), .val (.int p2), .val (.int p3), .val (.int ((p0 &&& (2147483647 : Int32)) % (6 : Int32))), .val w_103, .val (.ref b106), .val (.ref b108), .val (.ref b119), .val (.ref b125), .val (.int (1 : Int32))] [(.int (1 : Int32))]))
      refine go _ _ (fun _ k => XS.iload X151.here hx rfl (hb hby at_85) rfl k) ?_
      show G (T151.setTop (mkF m 87 #[.val (.int p0), .val (.int p1), .val (.int p2), .val (.int p3), .val (.int ((p0 &&& (2147483647 : Int32)) % (6 : Int32))), .val w_103, .val (.ref b106), .val (.ref b108), .val (.ref b119), .val (.ref b125), .val (.int (1 : Int32))] [(.int (1 : Int32)), (.int (1 : Int32))]))
      refine go _ _ (fun _ k => XS.icmpNo X151.here hx rfl (hb hby at_87) rfl (by decide) k) ?_
      show G (T151.setTop (mkF m 90 #[.val (.int p0), .val (.int p1), .val (.int p2), .val (.int p3), .val (.int ((p0 &&& (2147483647 : Int32)) % (6 : Int32))), .val w_103, .val (.ref b106), .val (.ref b108), .val (.ref b119), .val (.ref b125), .val (.int (1 : Int32))] []))
      refine go _ _ (fun _ k => XS.aload X151.here hx rfl (hb hby at_90) rfl rfl k) ?_
      show G (T151.setTop (mkF m 92 #[.val (.int p0), .val (.int p1), .val (.int p2), .val (.int p3), .val (.int ((p0 &&& (2147483647 : Int32)) % (6 : Int32))), .val w_103, .val (.ref b106), .val (.ref b108), .val (.ref b119), .val (.ref b125), .val (.int (1 : Int32))] [(.ref b125)]))
      obtain ⟨rv155, T155, L155, X155, q155, st155⟩ := own_vi X151 hx hZ (y := (⟨"com/example/claimwright/claimwright/vendorfile/Ingested", "rejection", "()Lcom/example/claimwright/claimwright/vendorfile/Rejection;"⟩ : MethodName)) (z := (⟨"com/example/claimwright/claimwright/vendorfile/Ingested", "rejection", "()Lcom/example/claimwright/claimwright/vendorfile/Rejection;"⟩ : MethodName)) hown (ow hw 102 rfl) (ow hw 103 rfl) (ow hw 105 rfl) (ow hw 104 rfl) (Or.inl rfl) (by decide) (own_bkN (W := 0) (rm15 l Z a0 hw z0 O2 P5 u0 O_BADNAME u1 O_DUPLICATE u2 O_HEADER u3 O_TRAILER u4 O_EMPTY em O_em [] b125 w_103 T126.heap n0 (Nat.le_trans Z0 Z152) p104 f139) hZ (ow hw 106 rfl) (ow hw 53 rfl) (by decide) (by decide)) e151 f138 (g := (mkF m 92 #[.val (.int p0), .val (.int p1), .val (.int p2), .val (.int p3), .val (.int ((p0 &&& (2147483647 : Int32)) % (6 : Int32))), .val w_103, .val (.ref b106), .val (.ref b108), .val (.ref b119), .val (.ref b125), .val (.int (1 : Int32))] [(.ref b125)])) rfl (by rw [hml]; rfl) (argsL := []) (rest := []) rfl (lenOf own_pd7 rfl) rfl (by show 2 * 0 + _ ≤ _; exact Nat.le_of_eq rfl) (hb hby at_92) (by decide) (by decide)
      obtain ⟨Nq155, e155, rfl⟩ := q155
      have N155 := Fr.app N151 Nq155
      refine go _ _ (st155) ?_
      show G (T155.setTop (mkF m 95 #[.val (.int p0), .val (.int p1), .val (.int p2), .val (.int p3), .val (.int ((p0 &&& (2147483647 : Int32)) % (6 : Int32))), .val w_103, .val (.ref b106), .val (.ref b108), .val (.ref b119), .val (.ref b125), .val (.int (1 : Int32))] [w_103]))
      refine go _ _ (fun _ k => XS.aload X155.here hx rfl (hb hby at_95) rfl p104 k) ?_
      show G (T155.setTop (mkF m 97 #[.val (.int p0), .val (.int p1), .val (.int p2), .val (.int p3), .val (.int ((p0 &&& (2147483647 : Int32)) % (6 : Int32))), .val w_103, .val (.ref b106), .val (.ref b108), .val (.ref b119), .val (.ref b125), .val (.int (1 : Int32))] [w_103, w_103]))
      refine go _ _ (fun _ k => acmp X155 hx rfl p104 p104 (pc0 := 97) (pc' := 100) (same := true) rfl (hb hby at_97) rfl (decide_eq_true rfl) (by decide) (by decide) k) ?_
      show G (T155.setTop (mkF m 100 #[.val (.int p0), .val (.int p1), .val (.int p2), .val (.int p3), .val (.int ((p0 &&& (2147483647 : Int32)) % (6 : Int32))), .val w_103, .val (.ref b106), .val (.ref b108), .val (.ref b119), .val (.ref b125), .val (.int (1 : Int32))] []))
      refine go _ _ (fun _ k => XS.iconst X155.here hx rfl (hb hby at_100) k) ?_
      show G (T155.setTop (mkF m 101 #[.val (.int p0), .val (.int p1), .val (.int p2), .val (.int p3), .val (.int ((p0 &&& (2147483647 : Int32)) % (6 : Int32))), .val w_103, .val (.ref b106), .val (.ref b108), .val (.ref b119), .val (.ref b125), .val (.int (1 : Int32))] [(.int (1 : Int32))]))
      refine go _ _ (fun _ k => XS.goto X155.here hx rfl (pc0 := 101) (pc' := 105) rfl (hb hby at_101) (by decide) (by decide) k) ?_
      show G (T155.setTop (mkF m 105 #[.val (.int p0), .val (.int p1), .val (.int p2), .val (.int p3), .val (.int ((p0 &&& (2147483647 : Int32)) % (6 : Int32))), .val w_103, .val (.ref b106), .val (.ref b108), .val (.ref b119), .val (.ref b125), .val (.int (1 : Int32))] [(.int (1 : Int32))]))
      have K156 : Keep h0 T109.heap [] := K114.trans Kp109 (allS (Or.inr (Nat.le_trans Z117 (Nat.le_of_eq g108.symm))) all0)
      have K157 : Keep h0 h119 [] := K156.ext E119
      have K158 : Keep h0 T120.heap [] := K157.trans Kp120 (allS (Or.inr (Nat.le_trans Z121 (Nat.le_of_eq g119.symm))) all0)
      have K159 : Keep h0 h125 [] := K158.ext E125
      have K160 : Keep h0 T126.heap [] := K159.trans Kp126 (allS (Or.inr (Nat.le_trans Z136 (Nat.le_of_eq g125.symm))) all0)
      refine fin T155 _ _ _ (some (.int (1 : Int32))) X155 (fun q => nomatch q) (by decide) (by decide) (by rw [e155]; exact ⟨N155, K160, rfl⟩) _ (own_retN X155 hx (z := (1 : Int32)) (t := .boolean) hret (by simp) (hb hby at_105))
set_option maxRecDepth 65536 in
set_option maxHeartbeats 40000000 in
theorem comes_1 {Post : Tables → Env → Array Value → State → Outcome → State → Prop} (hpost : ∀ tb e args s v u, (limb_1_1.after args s (.returned v) u = true ∧ limb_1_2.after args s (.returned v) u = true ∧ True) → FrameEnd s (.returned v) u (Jvm.fieldLocs frame_1_writes args s ++ Jvm.arrayLocs frame_1_arrays args s ++ Jvm.staticLocs frame_1_statics s) 24 128 → Post tb e args s (.returned v) u) :
    ArmFor flags0 classFile x code maxLocals ret World_1 tables_1 room_1 Calls_1 rest_1 Pre_1 Post := by
  intro l hfl _ _ p e ha hc hk s m args below hf hA hF happ hP
  obtain ⟨hcalls, hrest, hpre⟩ := hP
  obtain ⟨-, -, -, hnamed, -, -, -, hat⟩ := (Spec.applies_iff hf).mp happ
  obtain ⟨hg, hn⟩ := and_e (Cond.before_iff.mp (show (Jvm.Cond.and given_1 narrow_1).before args s = true from hpre))
  obtain ⟨h1, g0⟩ := and_e hg
  obtain ⟨ga0, g1⟩ := and_e g0
  obtain ⟨ga1, g2⟩ := and_e g1
  obtain ⟨ga2, g3⟩ := and_e g2
  have ga3 := g3
  obtain ⟨w0, w1, w2, w3, rfl⟩ : ∃ w0 w1 w2 w3 : Value, args = #[w0, w1, w2, w3] := by
    have hs : args.size = 4 := by simpa [Cond.value, given_1] using h1
    obtain ⟨L⟩ := args
    match L, hs with
    | [w0, w1, w2, w3], _ => exact ⟨w0, w1, w2, w3, rfl⟩
  have hw := fun d (hd : d ∈ tables_1) => atoms_spec (ws := Jvm.Cond.code x code maxLocals ret :: tables_1) hat d (List.mem_cons_of_mem _ hd)
  obtain ⟨hsets, hown0⟩ := atoms_of _ (rest_1_c_eq ▸ (show rest_1_c.before _ s = true from hrest))
  have hfit : Fit s := fun {y c} hc i hi => by
    obtain ⟨ha, rfl⟩ := Array.getElem?_eq_some_iff.mp hc
    have q := List.all_eq_true.mp ((Array.all_eq_true_iff_forall_mem.mp hF) _ (Array.getElem_mem ha)) i (List.mem_range.mpr hi)
    simpa [Array.getElem?_eq_getElem hi] using q
  obtain ⟨i0, ea0⟩ := is_v ga0
  obtain rfl : w0 = (.int i0) := Option.some.inj ea0
  obtain ⟨i1, ea1⟩ := is_v ga1
  obtain rfl : w1 = (.int i1) := Option.some.inj ea1
  obtain ⟨i2, ea2⟩ := is_v ga2
  obtain rfl : w2 = (.int i2) := Option.some.inj ea2
  obtain ⟨i3, ea3⟩ := is_v ga3
  obtain rfl : w3 = (.int i3) := Option.some.inj ea3
  have n3 := not_v (Cond.before_iff.mp (hsets _ (List.mem_of_getElem? (i := 2) rfl)))
  obtain ⟨iz, ez⟩ := is_v (Cond.before_iff.mp (hsets _ (List.mem_of_getElem? (i := 1) rfl)))
  have S8 : Sta s s.heap "java/lang/String" "COMPACT_STRINGS" "Z" (.int iz) := Sta.start ez (Or.inl (hsets _ (List.mem_of_getElem? (i := 0) rfl)))
  have c13 : ¬ (iz = (0 : Int32)) := gotF (Cond.eq_ints ez (Term.int_eval (0))) n3
  obtain ⟨hn0, hm0⟩ := and_e hn
  obtain ⟨hn1, hm1⟩ := and_e hm0
  obtain ⟨hn2, hm2⟩ := and_e hm1
  obtain ⟨hn3, hm3⟩ := and_e hm2
  have hn4 := hm3
  obtain ⟨u_BADNAME, ev_BADNAME⟩ := own_exa_v hn0
  have S_BADNAME : Sta s s.heap "com/example/claimwright/claimwright/vendorfile/Rejection" "BADNAME" "Lcom/example/claimwright/claimwright/vendorfile/Rejection;" (.ref u_BADNAME) := Sta.start ev_BADNAME (Or.inr ⟨(ow hw 108 rfl), (ow hw 109 rfl)⟩)
  obtain ⟨u_TRAILER, ev_TRAILER⟩ := own_exa_v hn1
  have S_TRAILER : Sta s s.heap "com/example/claimwright/claimwright/vendorfile/Rejection" "TRAILER" "Lcom/example/claimwright/claimwright/vendorfile/Rejection;" (.ref u_TRAILER) := Sta.start ev_TRAILER (Or.inr ⟨(ow hw 108 rfl), (ow hw 111 rfl)⟩)
  obtain ⟨u_HEADER, ev_HEADER⟩ := own_exa_v hn2
  have S_HEADER : Sta s s.heap "com/example/claimwright/claimwright/vendorfile/Rejection" "HEADER" "Lcom/example/claimwright/claimwright/vendorfile/Rejection;" (.ref u_HEADER) := Sta.start ev_HEADER (Or.inr ⟨(ow hw 108 rfl), (ow hw 113 rfl)⟩)
  obtain ⟨u_EMPTY, ev_EMPTY⟩ := own_exa_v hn3
  have S_EMPTY : Sta s s.heap "com/example/claimwright/claimwright/vendorfile/Rejection" "EMPTY" "Lcom/example/claimwright/claimwright/vendorfile/Rejection;" (.ref u_EMPTY) := Sta.start ev_EMPTY (Or.inr ⟨(ow hw 108 rfl), (ow hw 115 rfl)⟩)
  obtain ⟨u_DUPLICATE, ev_DUPLICATE⟩ := own_exa_v hn4
  have S_DUPLICATE : Sta s s.heap "com/example/claimwright/claimwright/vendorfile/Rejection" "DUPLICATE" "Lcom/example/claimwright/claimwright/vendorfile/Rejection;" (.ref u_DUPLICATE) := Sta.start ev_DUPLICATE (Or.inr ⟨(ow hw 108 rfl), (ow hw 117 rfl)⟩)
  obtain ⟨u_em, ev_em⟩ := own_exa_v (Cond.before_iff.mp (hsets _ (List.mem_of_getElem? (i := 11) rfl)))
  have S_em : Sta s s.heap "java/util/ImmutableCollections" "EMPTY_MAP" "Ljava/util/ImmutableCollections$MapN;" (.ref u_em) := Sta.start ev_em (Or.inl (hsets _ (List.mem_of_getElem? (i := 10) rfl)))
  obtain ⟨n, o, h1, h2, h3, v, L, rfl, ⟨N, -, q⟩, hq⟩ := rmLaw l s _ hw iz S8 c13 u_BADNAME S_BADNAME u_DUPLICATE S_DUPLICATE u_HEADER S_HEADER u_TRAILER S_TRAILER u_EMPTY S_EMPTY u_em S_em tables_1 i0 i1 i2 i3 s.heap s.heap.size (Nat.le_refl _) (Old.start s) p e ha hc hk s m _ below hf ((Spec.applies_iff_loose hf).mp happ).1 ⟨rfl, State.Warmed39.refl s, rfl⟩ trivial
  subst q
  refine ⟨n, _, h1, h2, h3, hpost _ _ _ _ _ _ ⟨Cond.after_iff.mpr rfl, Cond.after_iff.mpr (eq_i res_at (Term.int_eval (1)) rfl), trivial⟩ ⟨hq.1, hq.2.1, (hq.2.2.sift fun y hy => Or.inr (N y hy)).mono (by decide) (by decide)⟩⟩
theorem main_1_1 : Claimed_1_1 := comes_1 fun _ _ _ _ _ _ h hF => ⟨h.1, hF⟩
theorem main_1_2 : Claimed_1_2 := comes_1 fun _ _ _ _ _ _ h hF => ⟨h.2.1, hF⟩
end Jvm.Pilot.@@N@@
namespace Jvm.Pilot.@@N@@
open Jvm Jvm.ClassFile Sem Op Lib Jvm.Free Jvm.Stand Jvm.Pilot.@@N@@.Jvm.D
/-! MADE BY PROGRAM (witnessworld.py) out of the Statement's table words and the real class files: 30 classes; the members and pool entries that the words name. The judged class is class 1, her method 1. -/
namespace start1
open Jvm.ClassFile
def u (s : String) : CpInfo := .utf8 (stringToUtf16 s)
/-- a pool by its gaps: so many unusable entries, then the entry; so many at the end -/
def gap : Nat → List CpInfo → List CpInfo
  | 0, r => r
  | n + 1, r => .unusable :: gap n r
def poolList (es : List (Nat × CpInfo)) (last : Nat) : List CpInfo := es.foldr (fun e r => gap e.1 (e.2 :: r)) (gap last [])
def pool (es : List (Nat × CpInfo)) (last : Nat) : Array CpInfo := ⟨poolList es last⟩
def fileOf (pool : Array CpInfo) (this : Nat) (attrs : Array Attribute := #[]) (ms : Array MethodInfo := #[]) (fl : Nat := 33) (sup : Nat := 0) (ifs : Array Nat := #[]) (fds : Array FieldInfo := #[]) : ClassFile where
  minorVersion := 0
  majorVersion := 65
  constantPool := pool
  accessFlags := fl
  thisClass := this
  superClass := sup
  interfaces := ifs
  fields := fds
  methods := ms
  attributes := attrs
def plain (name : String) (sup : Option ClassId) : Class where
  name := name
  kind := .ordinary
  loader := none
  accessFlags := 33
  super := sup
  interfaces := #[]
  cf := none
  fields := #[]
  methods := #[]
  instanceTypes := #[]
  staticTypes := #[]
  resolved := #[]
  callSites := []
  init := .initialized
  statics := none
  mirror := none

def pool0 : Array CpInfo := pool [(5, u "<init>"), (0, u "()V"), (1, .class_ 10), (1, u "java/lang/Object")] 113

def k0c0 : Code := { maxStack := 0, maxLocals := 1, code := object_method_1_code, exceptionTable := #[], attributes := #[] }
def k0m0 : Method := { name := "<init>", desc := "()V", sig := { parameters := [], returnType := none }, accessFlags := 1, code := some k0c0 }
/-- java/lang/Object -/
def k0 : Class := { plain "java/lang/Object" none with
  accessFlags := 33
  interfaces := #[]
  cf := some (fileOf pool0 8 #[] #[{ accessFlags := 1, nameIndex := 5, descriptorIndex := 6, attributes := #[] }] 33 0 #[] #[])
  fields := #[]
  methods := #[k0m0]
  instanceTypes := #[]
  staticTypes := #[]
  resolved := Array.replicate 124 none
  statics := none }

def pool1 : Array CpInfo := pool [(2, .class_ 4), (0, .nameAndType 5 6), (0, u "java/lang/Object"), (0, u "<init>"), (0, u "()V"), (0, .integer 2147483647), (0, .methodref 9 10), (0, .class_ 11), (0, .nameAndType 12 13), (0, u "com/example/claimwright/claimwright/vendorfile/IngestedIsRejectedPinLaw"), (0, u "pick"), (0, u "(I)Lcom/example/claimwright/claimwright/vendorfile/Rejection;"), (0, .class_ 15), (0, u "java/lang/String"), (0, .methodref 14 17), (0, .nameAndType 5 18), (0, u "([C)V"), (0, .class_ 20), (0, u "java/util/HashMap"), (0, .methodref 19 3), (0, .class_ 23), (0, u "com/example/claimwright/claimwright/vendorfile/Ingested"), (0, .methodref 22 25), (0, .nameAndType 5 26), (0, u "(Ljava/lang/String;Lcom/example/claimwright/claimwright/vendorfile/Rejection;IILjava/util/Map;)V"), (0, .methodref 22 28), (0, .nameAndType 29 30), (0, u "isRejected"), (0, u "()Z"), (0, .methodref 22 32), (0, .nameAndType 33 34), (0, u "rejection"), (0, u "()Lcom/example/claimwright/claimwright/vendorfile/Rejection;"), (0, .fieldref 36 37), (0, .class_ 38), (0, .nameAndType 39 40), (0, u "com/example/claimwright/claimwright/vendorfile/Rejection"), (0, u "BADNAME"), (0, u "Lcom/example/claimwright/claimwright/vendorfile/Rejection;"), (0, .fieldref 36 42), (0, .nameAndType 43 40), (0, u "DUPLICATE"), (0, .fieldref 36 45), (0, .nameAndType 46 40), (0, u "HEADER"), (0, .fieldref 36 48), (0, .nameAndType 49 40), (0, u "TRAILER"), (0, .fieldref 36 51), (0, .nameAndType 52 40), (0, u "EMPTY"), (2, u "law"), (0, u "(IIII)Z")] 7

def k1m0 : Method := { name := "<init>", desc := "()V", sig := { parameters := [], returnType := none }, accessFlags := 1, code := none }
def k1c1 : Code := { maxStack := 7, maxLocals := 11, code := code, exceptionTable := #[], attributes := #[] }
def k1m1 : Method := { name := "law", desc := "(IIII)Z", sig := { parameters := [.int, .int, .int, .int], returnType := some .boolean }, accessFlags := 9, code := some k1c1 }
def k1c2 : Code := { maxStack := 2, maxLocals := 1, code := method_3_code, exceptionTable := #[], attributes := #[] }
def k1m2 : Method := { name := "pick", desc := "(I)Lcom/example/claimwright/claimwright/vendorfile/Rejection;", sig := { parameters := [.int], returnType := some (.object "com/example/claimwright/claimwright/vendorfile/Rejection") }, accessFlags := 10, code := some k1c2 }
/-- com/example/claimwright/claimwright/vendorfile/IngestedIsRejectedPinLaw -/
def k1 : Class := { plain "com/example/claimwright/claimwright/vendorfile/IngestedIsRejectedPinLaw" (some 0) with
  accessFlags := 49
  interfaces := #[]
  cf := some (fileOf pool1 9 #[] #[{ accessFlags := 1, nameIndex := 5, descriptorIndex := 6, attributes := #[] }, { accessFlags := 9, nameIndex := 55, descriptorIndex := 56, attributes := #[] }, { accessFlags := 10, nameIndex := 12, descriptorIndex := 13, attributes := #[] }] 49 2 #[] #[])
  fields := #[]
  methods := #[k1m0, k1m1, k1m2]
  instanceTypes := #[]
  staticTypes := #[]
  resolved := Array.replicate 64 none
  statics := none }

def pool2 : Array CpInfo := pool [(1, .class_ 2), (0, u "java/io/Serializable"), (0, .class_ 4), (0, u "java/lang/Object")] 2

/-- java/io/Serializable -/
def k2 : Class := { plain "java/io/Serializable" (some 0) with
  accessFlags := 1537
  interfaces := #[]
  cf := some (fileOf pool2 1 #[] #[] 1537 3 #[] #[])
  fields := #[]
  methods := #[]
  instanceTypes := #[]
  staticTypes := #[]
  resolved := Array.replicate 7 none
  statics := none }

def pool3 : Array CpInfo := pool [(1, .class_ 2), (0, u "java/lang/Comparable"), (0, .class_ 4), (0, u "java/lang/Object")] 7

/-- java/lang/Comparable -/
def k3 : Class := { plain "java/lang/Comparable" (some 0) with
  accessFlags := 1537
  interfaces := #[]
  cf := some (fileOf pool3 1 #[] #[] 1537 3 #[] #[])
  fields := #[]
  methods := #[]
  instanceTypes := #[]
  staticTypes := #[]
  resolved := Array.replicate 12 none
  statics := none }

def pool4 : Array CpInfo := pool [(2, .class_ 4), (1, u "java/lang/CharSequence"), (42, .class_ 48), (0, u "java/lang/CharSequence$1CodePointIterator"), (10, .class_ 60), (0, u "java/lang/CharSequence$1CharIterator"), (5, .class_ 67), (0, u "java/lang/Object")] 63

/-- java/lang/CharSequence -/
def k4 : Class := { plain "java/lang/CharSequence" (some 0) with
  accessFlags := 1537
  interfaces := #[]
  cf := some (fileOf pool4 2 #[.nestMembers #[47, 59]] #[] 1537 66 #[] #[])
  fields := #[]
  methods := #[]
  instanceTypes := #[]
  staticTypes := #[]
  resolved := Array.replicate 131 none
  statics := none }

def pool5 : Array CpInfo := pool [(1, .class_ 2), (0, u "java/lang/constant/Constable"), (0, .class_ 4), (0, u "java/lang/Object")] 6

/-- java/lang/constant/Constable -/
def k5 : Class := { plain "java/lang/constant/Constable" (some 0) with
  accessFlags := 1537
  interfaces := #[]
  cf := some (fileOf pool5 1 #[] #[] 1537 3 #[] #[])
  fields := #[]
  methods := #[]
  instanceTypes := #[]
  staticTypes := #[]
  resolved := Array.replicate 11 none
  statics := none }

def pool6 : Array CpInfo := pool [(1, .class_ 2), (0, u "java/lang/constant/ConstantDesc"), (0, .class_ 4), (0, u "java/lang/Object")] 32

/-- java/lang/constant/ConstantDesc -/
def k6 : Class := { plain "java/lang/constant/ConstantDesc" (some 0) with
  accessFlags := 1537
  interfaces := #[]
  cf := some (fileOf pool6 1 #[] #[] 1537 3 #[] #[])
  fields := #[]
  methods := #[]
  instanceTypes := #[]
  staticTypes := #[]
  resolved := Array.replicate 37 none
  statics := none }

def pool7 : Array CpInfo := pool [(1, .methodref 2 3), (0, .class_ 4), (0, .nameAndType 5 6), (0, u "java/lang/Object"), (0, u "<init>"), (0, u "()V"), (2, .fieldref 10 11), (0, .class_ 12), (0, .nameAndType 13 14), (0, u "java/lang/String"), (0, u "value"), (0, u "[B"), (0, .fieldref 10 16), (0, .nameAndType 17 18), (0, u "coder"), (0, u "B"), (2, u "hash"), (0, u "I"), (2, u "hashIsZero"), (0, u "Z"), (0, .methodref 10 28), (0, .nameAndType 5 29), (0, u "([CIILjava/lang/Void;)V"), (8, .fieldref 10 39), (0, .nameAndType 40 26), (0, u "COMPACT_STRINGS"), (1, .class_ 44), (1, u "java/lang/StringUTF16"), (0, u "compress"), (1, .methodref 42 48), (0, .nameAndType 49 50), (0, u "coderFromArrayLen"), (0, u "([BI)B"), (126, .methodref 42 178), (0, .nameAndType 45 179), (0, u "([CII)[B"), (395, .class_ 576), (0, u "java/lang/CharSequence"), (22, u "CASE_INSENSITIVE_ORDER"), (0, u "Ljava/util/Comparator;"), (409, u "([C)V"), (90, u "serialPersistentFields"), (0, u "[Ljava/io/ObjectStreamField;"), (0, .class_ 1104), (0, u "java/lang/String$CaseInsensitiveComparator"), (1, .class_ 1107), (0, u "java/io/Serializable"), (0, .class_ 1109), (0, u "java/lang/Comparable"), (0, .class_ 1111), (0, u "java/lang/constant/Constable"), (0, .class_ 1113), (0, u "java/lang/constant/ConstantDesc"), (2, u "serialVersionUID"), (0, u "J"), (3, u "REPL"), (0, u "C"), (2, u "LATIN1"), (1, u "UTF16")] 323

def k7m0 : Method := { name := "<init>", desc := "()V", sig := { parameters := [], returnType := none }, accessFlags := 1, code := none }
def k7c1 : Code := { maxStack := 5, maxLocals := 2, code := jdk_42_method_3_code, exceptionTable := #[], attributes := #[] }
def k7m1 : Method := { name := "<init>", desc := "([C)V", sig := { parameters := [(.array .char)], returnType := none }, accessFlags := 1, code := some k7c1 }
def k7c2 : Code := { maxStack := 4, maxLocals := 6, code := jdk_42_method_149_code, exceptionTable := #[], attributes := #[] }
def k7m2 : Method := { name := "<init>", desc := "([CIILjava/lang/Void;)V", sig := { parameters := [(.array .char), .int, .int, (.object "java/lang/Void")], returnType := none }, accessFlags := 2, code := some k7c2 }
/-- java/lang/String -/
def k7 : Class := { plain "java/lang/String" (some 0) with
  accessFlags := 49
  interfaces := #[2, 3, 4, 5, 6]
  cf := some (fileOf pool7 10 #[.nestMembers #[1103]] #[{ accessFlags := 1, nameIndex := 5, descriptorIndex := 6, attributes := #[] }, { accessFlags := 1, nameIndex := 5, descriptorIndex := 1010, attributes := #[] }, { accessFlags := 2, nameIndex := 5, descriptorIndex := 29, attributes := #[] }] 49 2 #[1106, 1108, 575, 1110, 1112] #[{ accessFlags := 18, nameIndex := 13, descriptorIndex := 14, attributes := #[] }, { accessFlags := 18, nameIndex := 17, descriptorIndex := 18, attributes := #[] }, { accessFlags := 2, nameIndex := 21, descriptorIndex := 22, attributes := #[] }, { accessFlags := 2, nameIndex := 25, descriptorIndex := 26, attributes := #[] }, { accessFlags := 26, nameIndex := 1116, descriptorIndex := 1117, attributes := #[] }, { accessFlags := 24, nameIndex := 40, descriptorIndex := 26, attributes := #[] }, { accessFlags := 26, nameIndex := 1101, descriptorIndex := 1102, attributes := #[] }, { accessFlags := 26, nameIndex := 1121, descriptorIndex := 1122, attributes := #[] }, { accessFlags := 25, nameIndex := 599, descriptorIndex := 600, attributes := #[] }, { accessFlags := 24, nameIndex := 1125, descriptorIndex := 18, attributes := #[] }, { accessFlags := 24, nameIndex := 1127, descriptorIndex := 18, attributes := #[] }])
  fields := #[{ name := "value", type := (.array .byte), accessFlags := 18, slot := 0, constantValue := 0 }, { name := "coder", type := .byte, accessFlags := 18, slot := 1, constantValue := 0 }, { name := "hash", type := .int, accessFlags := 2, slot := 2, constantValue := 0 }, { name := "hashIsZero", type := .boolean, accessFlags := 2, slot := 3, constantValue := 0 }, { name := "serialVersionUID", type := .long, accessFlags := 26, slot := 0, constantValue := 0 }, { name := "COMPACT_STRINGS", type := .boolean, accessFlags := 24, slot := 1, constantValue := 0 }, { name := "serialPersistentFields", type := (.array (.object "java/io/ObjectStreamField")), accessFlags := 26, slot := 2, constantValue := 0 }, { name := "REPL", type := .char, accessFlags := 26, slot := 3, constantValue := 0 }, { name := "CASE_INSENSITIVE_ORDER", type := (.object "java/util/Comparator"), accessFlags := 25, slot := 4, constantValue := 0 }, { name := "LATIN1", type := .byte, accessFlags := 24, slot := 5, constantValue := 0 }, { name := "UTF16", type := .byte, accessFlags := 24, slot := 6, constantValue := 0 }]
  methods := #[k7m0, k7m1, k7m2]
  instanceTypes := #[(.array .byte), .byte, .int, .boolean]
  staticTypes := #[.long, .boolean, (.array (.object "java/io/ObjectStreamField")), .char, (.object "java/util/Comparator"), .byte, .byte]
  resolved := Array.replicate 1451 none
  statics := some 0 }

def pool8 : Array CpInfo := pool [(6, .class_ 8), (1, u "java/lang/Object"), (0, u "<init>"), (0, u "()V"), (1, .class_ 14), (1, u "java/lang/StringUTF16"), (31, u "$assertionsDisabled"), (0, u "Z"), (13, u "HI_BYTE_SHIFT"), (0, u "I"), (2, u "LO_BYTE_SHIFT"), (49, .methodref 12 116), (0, .nameAndType 117 118), (0, u "compress"), (0, u "([CI[BII)I"), (3, u "([CII)[B"), (138, u "coderFromArrayLen"), (0, u "([BI)B"), (106, .class_ 371), (1, u "java/lang/StringUTF16$LinesSpliterator"), (58, u "MAX_LENGTH"), (196, .class_ 628), (0, u "java/lang/StringUTF16$CodePointsSpliterator"), (0, .class_ 630), (0, u "java/lang/StringUTF16$CharsSpliterator")] 4

def k8m0 : Method := { name := "<init>", desc := "()V", sig := { parameters := [], returnType := none }, accessFlags := 0, code := none }
def k8c1 : Code := { maxStack := 2, maxLocals := 2, code := jdk_52_method_15_code, exceptionTable := #[], attributes := #[] }
def k8m1 : Method := { name := "coderFromArrayLen", desc := "([BI)B", sig := { parameters := [(.array .byte), .int], returnType := some .byte }, accessFlags := 8, code := some k8c1 }
def k8c2 : Code := { maxStack := 5, maxLocals := 6, code := jdk_52_method_16_code, exceptionTable := #[], attributes := #[] }
def k8m2 : Method := { name := "compress", desc := "([CII)[B", sig := { parameters := [(.array .char), .int, .int], returnType := some (.array .byte) }, accessFlags := 9, code := some k8c2 }
def k8c3 : Code := { maxStack := 3, maxLocals := 7, code := jdk_52_method_21_code, exceptionTable := #[], attributes := #[] }
def k8m3 : Method := { name := "compress", desc := "([CI[BII)I", sig := { parameters := [(.array .char), .int, (.array .byte), .int, .int], returnType := some .int }, accessFlags := 9, code := some k8c3 }
/-- java/lang/StringUTF16 -/
def k8 : Class := { plain "java/lang/StringUTF16" (some 0) with
  accessFlags := 48
  interfaces := #[]
  cf := some (fileOf pool8 12 #[.nestMembers #[627, 629, 369]] #[{ accessFlags := 0, nameIndex := 9, descriptorIndex := 10, attributes := #[] }, { accessFlags := 8, nameIndex := 261, descriptorIndex := 262, attributes := #[] }, { accessFlags := 9, nameIndex := 117, descriptorIndex := 122, attributes := #[] }, { accessFlags := 9, nameIndex := 117, descriptorIndex := 118, attributes := #[] }] 48 6 #[] #[{ accessFlags := 26, nameIndex := 61, descriptorIndex := 62, attributes := #[] }, { accessFlags := 26, nameIndex := 65, descriptorIndex := 62, attributes := #[] }, { accessFlags := 24, nameIndex := 430, descriptorIndex := 62, attributes := #[] }, { accessFlags := 4120, nameIndex := 46, descriptorIndex := 47, attributes := #[] }])
  fields := #[{ name := "HI_BYTE_SHIFT", type := .int, accessFlags := 26, slot := 0, constantValue := 0 }, { name := "LO_BYTE_SHIFT", type := .int, accessFlags := 26, slot := 1, constantValue := 0 }, { name := "MAX_LENGTH", type := .int, accessFlags := 24, slot := 2, constantValue := 0 }, { name := "$assertionsDisabled", type := .boolean, accessFlags := 4120, slot := 3, constantValue := 0 }]
  methods := #[k8m0, k8m1, k8m2, k8m3]
  instanceTypes := #[]
  staticTypes := #[.int, .int, .int, .boolean]
  resolved := Array.replicate 635 none
  statics := none }

def pool9 : Array CpInfo := pool [(2, .class_ 4), (1, u "java/util/Map"), (26, u "()Z"), (4, .class_ 37), (0, u "java/util/Map$Entry"), (43, .fieldref 82 83), (0, .class_ 84), (0, .nameAndType 85 86), (0, u "java/util/ImmutableCollections"), (0, u "EMPTY_MAP"), (0, u "Ljava/util/ImmutableCollections$MapN;"), (6, .class_ 94), (0, u "java/lang/Object"), (6, .class_ 102), (0, u "java/util/ImmutableCollections$AbstractImmutableMap"), (0, .interfaceMethodref 2 104), (0, .nameAndType 105 31), (0, u "isEmpty"), (0, .interfaceMethodref 2 107), (0, .nameAndType 108 109), (0, u "of"), (0, u "()Ljava/util/Map;"), (140, u "copyOf"), (0, u "(Ljava/util/Map;)Ljava/util/Map;")] 11

def k9m0 : Method := { name := "isEmpty", desc := "()Z", sig := { parameters := [], returnType := some .boolean }, accessFlags := 1025, code := none }
def k9c1 : Code := { maxStack := 1, maxLocals := 0, code := jdk_72_method_26_code, exceptionTable := #[], attributes := #[] }
def k9m1 : Method := { name := "of", desc := "()Ljava/util/Map;", sig := { parameters := [], returnType := some (.object "java/util/Map") }, accessFlags := 9, code := some k9c1 }
def k9c2 : Code := { maxStack := 2, maxLocals := 1, code := jdk_72_method_39_code, exceptionTable := #[], attributes := #[] }
def k9m2 : Method := { name := "copyOf", desc := "(Ljava/util/Map;)Ljava/util/Map;", sig := { parameters := [(.object "java/util/Map")], returnType := some (.object "java/util/Map") }, accessFlags := 9, code := some k9c2 }
/-- java/util/Map -/
def k9 : Class := { plain "java/util/Map" (some 0) with
  accessFlags := 1537
  interfaces := #[]
  cf := some (fileOf pool9 2 #[.nestMembers #[36]] #[{ accessFlags := 1025, nameIndex := 105, descriptorIndex := 31, attributes := #[] }, { accessFlags := 9, nameIndex := 108, descriptorIndex := 109, attributes := #[] }, { accessFlags := 9, nameIndex := 250, descriptorIndex := 251, attributes := #[] }] 1537 93 #[] #[])
  fields := #[]
  methods := #[k9m0, k9m1, k9m2]
  instanceTypes := #[]
  staticTypes := #[]
  resolved := Array.replicate 263 none
  statics := none }

def pool10 : Array CpInfo := pool [(1, .methodref 2 3), (0, .class_ 4), (0, .nameAndType 5 6), (0, u "java/lang/Object"), (0, u "<init>"), (0, u "()V"), (1, .class_ 10), (1, u "java/util/AbstractMap"), (42, .class_ 54), (0, u "java/util/Map"), (9, u "keySet"), (0, u "Ljava/util/Set;"), (0, .class_ 67), (0, u "java/util/AbstractMap$1"), (5, u "values"), (0, u "Ljava/util/Collection;"), (0, .class_ 76), (0, u "java/util/AbstractMap$2"), (104, .class_ 182), (0, u "java/util/AbstractMap$ViewCollection"), (0, .class_ 184), (0, u "java/util/AbstractMap$SimpleImmutableEntry"), (0, .class_ 186), (0, u "java/util/AbstractMap$SimpleEntry"), (0, .class_ 188), (0, u "java/util/AbstractMap$2$1"), (0, .class_ 190), (0, u "java/util/AbstractMap$1$1")] 5

def k10c0 : Code := { maxStack := 1, maxLocals := 1, code := jdk_71_method_1_code, exceptionTable := #[], attributes := #[] }
def k10m0 : Method := { name := "<init>", desc := "()V", sig := { parameters := [], returnType := none }, accessFlags := 4, code := some k10c0 }
/-- java/util/AbstractMap -/
def k10 : Class := { plain "java/util/AbstractMap" (some 0) with
  accessFlags := 1057
  interfaces := #[9]
  cf := some (fileOf pool10 8 #[.nestMembers #[181, 183, 185, 75, 187, 66, 189]] #[{ accessFlags := 4, nameIndex := 5, descriptorIndex := 6, attributes := #[] }] 1057 2 #[53] #[{ accessFlags := 128, nameIndex := 64, descriptorIndex := 65, attributes := #[] }, { accessFlags := 128, nameIndex := 73, descriptorIndex := 74, attributes := #[] }])
  fields := #[{ name := "keySet", type := (.object "java/util/Set"), accessFlags := 128, slot := 0, constantValue := 0 }, { name := "values", type := (.object "java/util/Collection"), accessFlags := 128, slot := 1, constantValue := 0 }]
  methods := #[k10m0]
  instanceTypes := #[(.object "java/util/Set"), (.object "java/util/Collection")]
  staticTypes := #[]
  resolved := Array.replicate 196 none
  statics := none }

def pool11 : Array CpInfo := pool [(1, .class_ 2), (0, u "java/lang/Cloneable"), (0, .class_ 4), (0, u "java/lang/Object")] 2

/-- java/lang/Cloneable -/
def k11 : Class := { plain "java/lang/Cloneable" (some 0) with
  accessFlags := 1537
  interfaces := #[]
  cf := some (fileOf pool11 1 #[] #[] 1537 3 #[] #[])
  fields := #[]
  methods := #[]
  instanceTypes := #[]
  staticTypes := #[]
  resolved := Array.replicate 7 none
  statics := none }

def pool12 : Array CpInfo := pool [(40, .class_ 41), (0, u "java/util/HashMap"), (1, .methodref 44 45), (0, .class_ 46), (0, .nameAndType 47 48), (0, u "java/util/AbstractMap"), (0, u "<init>"), (0, u "()V"), (32, .fieldref 40 82), (0, .nameAndType 83 84), (0, u "loadFactor"), (0, u "F"), (5, u "threshold"), (0, u "I"), (0, .float 1061158912), (8, .class_ 103), (1, u "java/util/Map"), (0, u "size"), (2, u "table"), (0, u "[Ljava/util/HashMap$Node;"), (14, u "entrySet"), (12, u "()Z"), (19, .fieldref 40 157), (0, .nameAndType 104 91), (5, .class_ 165), (1, u "java/util/HashMap$Node"), (14, .class_ 181), (0, u "java/util/HashMap$TreeNode"), (22, u "modCount"), (37, u "Ljava/util/Set;"), (0, .class_ 244), (0, u "java/util/HashMap$KeySet"), (18, .class_ 264), (0, u "java/util/HashMap$Values"), (3, .class_ 269), (0, u "java/util/HashMap$EntrySet"), (76, .class_ 348), (1, u "java/util/HashMap$UnsafeHolder"), (43, .class_ 393), (0, u "java/lang/Cloneable"), (0, .class_ 395), (0, u "java/io/Serializable"), (0, u "serialVersionUID"), (0, u "J"), (3, u "DEFAULT_INITIAL_CAPACITY"), (1, u "MAXIMUM_CAPACITY"), (0, u "DEFAULT_LOAD_FACTOR"), (0, u "TREEIFY_THRESHOLD"), (1, u "UNTREEIFY_THRESHOLD"), (1, u "MIN_TREEIFY_CAPACITY"), (52, u "isEmpty"), (133, .class_ 597), (0, u "java/util/HashMap$EntrySpliterator"), (0, .class_ 599), (0, u "java/util/HashMap$ValueSpliterator"), (0, .class_ 601), (0, u "java/util/HashMap$KeySpliterator"), (0, .class_ 603), (0, u "java/util/HashMap$HashMapSpliterator"), (0, .class_ 605), (0, u "java/util/HashMap$EntryIterator"), (0, .class_ 607), (0, u "java/util/HashMap$ValueIterator"), (0, .class_ 609), (0, u "java/util/HashMap$KeyIterator"), (0, .class_ 611), (0, u "java/util/HashMap$HashIterator")] 17

def k12c0 : Code := { maxStack := 2, maxLocals := 1, code := jdk_69_method_7_code, exceptionTable := #[], attributes := #[] }
def k12m0 : Method := { name := "<init>", desc := "()V", sig := { parameters := [], returnType := none }, accessFlags := 1, code := some k12c0 }
def k12c1 : Code := { maxStack := 1, maxLocals := 1, code := jdk_69_method_11_code, exceptionTable := #[], attributes := #[] }
def k12m1 : Method := { name := "isEmpty", desc := "()Z", sig := { parameters := [], returnType := some .boolean }, accessFlags := 1, code := some k12c1 }
/-- java/util/HashMap -/
def k12 : Class := { plain "java/util/HashMap" (some 10) with
  accessFlags := 33
  interfaces := #[9, 11, 2]
  cf := some (fileOf pool12 40 #[.nestMembers #[180, 596, 598, 600, 602, 604, 606, 608, 610, 346, 268, 263, 243, 163]] #[{ accessFlags := 1, nameIndex := 47, descriptorIndex := 48, attributes := #[] }, { accessFlags := 1, nameIndex := 462, descriptorIndex := 136, attributes := #[] }] 33 44 #[101, 392, 394] #[{ accessFlags := 26, nameIndex := 396, descriptorIndex := 397, attributes := #[] }, { accessFlags := 24, nameIndex := 401, descriptorIndex := 91, attributes := #[] }, { accessFlags := 24, nameIndex := 403, descriptorIndex := 91, attributes := #[] }, { accessFlags := 24, nameIndex := 404, descriptorIndex := 84, attributes := #[] }, { accessFlags := 24, nameIndex := 405, descriptorIndex := 91, attributes := #[] }, { accessFlags := 24, nameIndex := 407, descriptorIndex := 91, attributes := #[] }, { accessFlags := 24, nameIndex := 409, descriptorIndex := 91, attributes := #[] }, { accessFlags := 128, nameIndex := 107, descriptorIndex := 108, attributes := #[] }, { accessFlags := 128, nameIndex := 123, descriptorIndex := 242, attributes := #[] }, { accessFlags := 128, nameIndex := 104, descriptorIndex := 91, attributes := #[] }, { accessFlags := 128, nameIndex := 204, descriptorIndex := 91, attributes := #[] }, { accessFlags := 0, nameIndex := 90, descriptorIndex := 91, attributes := #[] }, { accessFlags := 16, nameIndex := 83, descriptorIndex := 84, attributes := #[] }])
  fields := #[{ name := "serialVersionUID", type := .long, accessFlags := 26, slot := 0, constantValue := 0 }, { name := "DEFAULT_INITIAL_CAPACITY", type := .int, accessFlags := 24, slot := 1, constantValue := 0 }, { name := "MAXIMUM_CAPACITY", type := .int, accessFlags := 24, slot := 2, constantValue := 0 }, { name := "DEFAULT_LOAD_FACTOR", type := .float, accessFlags := 24, slot := 3, constantValue := 0 }, { name := "TREEIFY_THRESHOLD", type := .int, accessFlags := 24, slot := 4, constantValue := 0 }, { name := "UNTREEIFY_THRESHOLD", type := .int, accessFlags := 24, slot := 5, constantValue := 0 }, { name := "MIN_TREEIFY_CAPACITY", type := .int, accessFlags := 24, slot := 6, constantValue := 0 }, { name := "table", type := (.array (.object "java/util/HashMap$Node")), accessFlags := 128, slot := 2, constantValue := 0 }, { name := "entrySet", type := (.object "java/util/Set"), accessFlags := 128, slot := 3, constantValue := 0 }, { name := "size", type := .int, accessFlags := 128, slot := 4, constantValue := 0 }, { name := "modCount", type := .int, accessFlags := 128, slot := 5, constantValue := 0 }, { name := "threshold", type := .int, accessFlags := 0, slot := 6, constantValue := 0 }, { name := "loadFactor", type := .float, accessFlags := 16, slot := 7, constantValue := 0 }]
  methods := #[k12m0, k12m1]
  instanceTypes := #[(.object "java/util/Set"), (.object "java/util/Collection"), (.array (.object "java/util/HashMap$Node")), (.object "java/util/Set"), .int, .int, .int, .float]
  staticTypes := #[.long, .int, .int, .float, .int, .int, .int]
  resolved := Array.replicate 629 none
  statics := none }

def pool13 : Array CpInfo := pool [(1, .methodref 2 3), (0, .class_ 4), (0, .nameAndType 5 6), (0, u "java/lang/Object"), (0, u "<init>"), (0, u "()V"), (0, .class_ 8), (0, u "java/lang/Record")] 13

def k13c0 : Code := { maxStack := 1, maxLocals := 1, code := jdk_30_method_1_code, exceptionTable := #[], attributes := #[] }
def k13m0 : Method := { name := "<init>", desc := "()V", sig := { parameters := [], returnType := none }, accessFlags := 4, code := some k13c0 }
/-- java/lang/Record -/
def k13 : Class := { plain "java/lang/Record" (some 0) with
  accessFlags := 1057
  interfaces := #[]
  cf := some (fileOf pool13 7 #[] #[{ accessFlags := 4, nameIndex := 5, descriptorIndex := 6, attributes := #[] }] 1057 2 #[] #[])
  fields := #[]
  methods := #[k13m0]
  instanceTypes := #[]
  staticTypes := #[]
  resolved := Array.replicate 22 none
  statics := none }

def pool14 : Array CpInfo := pool [(1, .methodref 2 3), (0, .class_ 4), (0, .nameAndType 5 6), (0, u "java/lang/Record"), (0, u "<init>"), (0, u "()V"), (0, .interfaceMethodref 8 9), (0, .class_ 10), (0, .nameAndType 11 12), (0, u "java/util/Map"), (0, u "copyOf"), (0, u "(Ljava/util/Map;)Ljava/util/Map;"), (0, .fieldref 14 15), (0, .class_ 16), (0, .nameAndType 17 18), (0, u "com/example/claimwright/claimwright/vendorfile/Ingested"), (0, u "fileName"), (0, u "Ljava/lang/String;"), (0, .fieldref 14 20), (0, .nameAndType 21 22), (0, u "rejection"), (0, u "Lcom/example/claimwright/claimwright/vendorfile/Rejection;"), (0, .fieldref 14 24), (0, .nameAndType 25 26), (0, u "detailLines"), (0, u "I"), (0, .fieldref 14 28), (0, .nameAndType 29 26), (0, u "claims"), (0, .fieldref 14 31), (0, .nameAndType 32 33), (0, u "transactions"), (0, u "Ljava/util/Map;"), (2, u "isRejected"), (0, u "()Z"), (68, u "(Ljava/lang/String;Lcom/example/claimwright/claimwright/vendorfile/Rejection;IILjava/util/Map;)V"), (7, u "()Lcom/example/claimwright/claimwright/vendorfile/Rejection;")] 36

def k14c0 : Code := { maxStack := 2, maxLocals := 6, code := prog_25_method_1_code, exceptionTable := #[], attributes := #[] }
def k14m0 : Method := { name := "<init>", desc := "(Ljava/lang/String;Lcom/example/claimwright/claimwright/vendorfile/Rejection;IILjava/util/Map;)V", sig := { parameters := [(.object "java/lang/String"), (.object "com/example/claimwright/claimwright/vendorfile/Rejection"), .int, .int, (.object "java/util/Map")], returnType := none }, accessFlags := 1, code := some k14c0 }
def k14c1 : Code := { maxStack := 1, maxLocals := 1, code := prog_25_method_2_code, exceptionTable := #[], attributes := #[] }
def k14m1 : Method := { name := "isRejected", desc := "()Z", sig := { parameters := [], returnType := some .boolean }, accessFlags := 1, code := some k14c1 }
def k14c2 : Code := { maxStack := 1, maxLocals := 1, code := prog_25_method_10_code, exceptionTable := #[], attributes := #[] }
def k14m2 : Method := { name := "rejection", desc := "()Lcom/example/claimwright/claimwright/vendorfile/Rejection;", sig := { parameters := [], returnType := some (.object "com/example/claimwright/claimwright/vendorfile/Rejection") }, accessFlags := 1, code := some k14c2 }
/-- com/example/claimwright/claimwright/vendorfile/Ingested -/
def k14 : Class := { plain "com/example/claimwright/claimwright/vendorfile/Ingested" (some 13) with
  accessFlags := 49
  interfaces := #[]
  cf := some (fileOf pool14 14 #[] #[{ accessFlags := 1, nameIndex := 5, descriptorIndex := 106, attributes := #[] }, { accessFlags := 1, nameIndex := 36, descriptorIndex := 37, attributes := #[] }, { accessFlags := 1, nameIndex := 21, descriptorIndex := 114, attributes := #[] }] 49 2 #[] #[{ accessFlags := 18, nameIndex := 17, descriptorIndex := 18, attributes := #[] }, { accessFlags := 18, nameIndex := 21, descriptorIndex := 22, attributes := #[] }, { accessFlags := 18, nameIndex := 25, descriptorIndex := 26, attributes := #[] }, { accessFlags := 18, nameIndex := 29, descriptorIndex := 26, attributes := #[] }, { accessFlags := 18, nameIndex := 32, descriptorIndex := 33, attributes := #[] }])
  fields := #[{ name := "fileName", type := (.object "java/lang/String"), accessFlags := 18, slot := 0, constantValue := 0 }, { name := "rejection", type := (.object "com/example/claimwright/claimwright/vendorfile/Rejection"), accessFlags := 18, slot := 1, constantValue := 0 }, { name := "detailLines", type := .int, accessFlags := 18, slot := 2, constantValue := 0 }, { name := "claims", type := .int, accessFlags := 18, slot := 3, constantValue := 0 }, { name := "transactions", type := (.object "java/util/Map"), accessFlags := 18, slot := 4, constantValue := 0 }]
  methods := #[k14m0, k14m1, k14m2]
  instanceTypes := #[(.object "java/lang/String"), (.object "com/example/claimwright/claimwright/vendorfile/Rejection"), .int, .int, (.object "java/util/Map")]
  staticTypes := #[]
  resolved := Array.replicate 151 none
  statics := none }

def pool15 : Array CpInfo := pool [(2, .class_ 4), (1, u "java/util/AbstractMap"), (0, u "<init>"), (0, u "()V"), (1, .class_ 10), (1, u "java/util/ImmutableCollections"), (3, .class_ 16), (1, u "java/util/ImmutableCollections$AbstractImmutableMap"), (2, .class_ 20), (0, u "java/io/Serializable")] 66

def k15m0 : Method := { name := "<init>", desc := "()V", sig := { parameters := [], returnType := none }, accessFlags := 0, code := none }
/-- java/util/ImmutableCollections$AbstractImmutableMap -/
def k15 : Class := { plain "java/util/ImmutableCollections$AbstractImmutableMap" (some 10) with
  accessFlags := 1056
  interfaces := #[2]
  cf := some (fileOf pool15 14 #[.nestHost 8] #[{ accessFlags := 0, nameIndex := 5, descriptorIndex := 6, attributes := #[] }] 1056 2 #[19] #[])
  fields := #[]
  methods := #[k15m0]
  instanceTypes := #[(.object "java/util/Set"), (.object "java/util/Collection")]
  staticTypes := #[]
  resolved := Array.replicate 87 none
  statics := none }

def pool16 : Array CpInfo := pool [(2, .class_ 4), (1, u "java/lang/Object"), (0, u "<init>"), (0, u "()V"), (3, .class_ 11), (0, u "java/util/ImmutableCollections$List12"), (0, .class_ 13), (0, u "java/util/ImmutableCollections$ListN"), (3, u "Z"), (29, .class_ 49), (1, u "java/util/ImmutableCollections"), (0, u "$assertionsDisabled"), (5, u "[Ljava/lang/Object;"), (5, u "EMPTY_LIST"), (0, u "Ljava/util/ImmutableCollections$ListN;"), (8, u "EMPTY_LIST_NULLS"), (22, u "SALT32L"), (0, u "J"), (2, u "REVERSE"), (6, u "archivedObjects"), (2, u "EMPTY"), (0, u "Ljava/lang/Object;"), (0, .class_ 112), (0, u "java/util/ImmutableCollections$SetN"), (5, u "EMPTY_SET"), (0, u "Ljava/util/ImmutableCollections$SetN;"), (0, .class_ 121), (0, u "java/util/ImmutableCollections$MapN"), (3, u "EMPTY_MAP"), (0, u "Ljava/util/ImmutableCollections$MapN;"), (4, u "EXPAND_FACTOR"), (0, u "I"), (36, .class_ 170), (0, u "java/util/ImmutableCollections$MapN$MapNIterator"), (0, .class_ 172), (0, u "java/util/ImmutableCollections$MapN$1"), (0, .class_ 174), (0, u "java/util/ImmutableCollections$Map1"), (0, .class_ 176), (0, u "java/util/ImmutableCollections$AbstractImmutableMap"), (0, .class_ 178), (0, u "java/util/ImmutableCollections$SetN$SetNIterator"), (0, .class_ 180), (0, u "java/util/ImmutableCollections$Set12"), (0, .class_ 182), (0, u "java/util/ImmutableCollections$Set12$1"), (0, .class_ 184), (0, u "java/util/ImmutableCollections$AbstractImmutableSet"), (0, .class_ 186), (0, u "java/util/ImmutableCollections$SubList"), (0, .class_ 188), (0, u "java/util/ImmutableCollections$ListItr"), (0, .class_ 190), (0, u "java/util/ImmutableCollections$AbstractImmutableList"), (0, .class_ 192), (0, u "java/util/ImmutableCollections$AbstractImmutableCollection"), (0, .class_ 194), (0, u "java/util/ImmutableCollections$Access"), (0, .class_ 196), (0, u "java/util/ImmutableCollections$Access$1")] 16

def k16m0 : Method := { name := "<init>", desc := "()V", sig := { parameters := [], returnType := none }, accessFlags := 2, code := none }
/-- java/util/ImmutableCollections -/
def k16 : Class := { plain "java/util/ImmutableCollections" (some 0) with
  accessFlags := 32
  interfaces := #[]
  cf := some (fileOf pool16 47 #[.nestMembers #[120, 169, 171, 173, 175, 111, 177, 179, 181, 183, 12, 10, 185, 187, 189, 191, 193, 195]] #[{ accessFlags := 2, nameIndex := 5, descriptorIndex := 6, attributes := #[] }] 32 2 #[] #[{ accessFlags := 26, nameIndex := 95, descriptorIndex := 96, attributes := #[] }, { accessFlags := 26, nameIndex := 99, descriptorIndex := 17, attributes := #[] }, { accessFlags := 10, nameIndex := 106, descriptorIndex := 56, attributes := #[] }, { accessFlags := 26, nameIndex := 109, descriptorIndex := 110, attributes := #[] }, { accessFlags := 24, nameIndex := 62, descriptorIndex := 63, attributes := #[] }, { accessFlags := 24, nameIndex := 72, descriptorIndex := 63, attributes := #[] }, { accessFlags := 24, nameIndex := 118, descriptorIndex := 119, attributes := #[] }, { accessFlags := 24, nameIndex := 125, descriptorIndex := 126, attributes := #[] }, { accessFlags := 24, nameIndex := 131, descriptorIndex := 132, attributes := #[] }, { accessFlags := 4120, nameIndex := 50, descriptorIndex := 17, attributes := #[] }])
  fields := #[{ name := "SALT32L", type := .long, accessFlags := 26, slot := 0, constantValue := 0 }, { name := "REVERSE", type := .boolean, accessFlags := 26, slot := 1, constantValue := 0 }, { name := "archivedObjects", type := (.array (.object "java/lang/Object")), accessFlags := 10, slot := 2, constantValue := 0 }, { name := "EMPTY", type := (.object "java/lang/Object"), accessFlags := 26, slot := 3, constantValue := 0 }, { name := "EMPTY_LIST", type := (.object "java/util/ImmutableCollections$ListN"), accessFlags := 24, slot := 4, constantValue := 0 }, { name := "EMPTY_LIST_NULLS", type := (.object "java/util/ImmutableCollections$ListN"), accessFlags := 24, slot := 5, constantValue := 0 }, { name := "EMPTY_SET", type := (.object "java/util/ImmutableCollections$SetN"), accessFlags := 24, slot := 6, constantValue := 0 }, { name := "EMPTY_MAP", type := (.object "java/util/ImmutableCollections$MapN"), accessFlags := 24, slot := 7, constantValue := 0 }, { name := "EXPAND_FACTOR", type := .int, accessFlags := 24, slot := 8, constantValue := 0 }, { name := "$assertionsDisabled", type := .boolean, accessFlags := 4120, slot := 9, constantValue := 0 }]
  methods := #[k16m0]
  instanceTypes := #[]
  staticTypes := #[.long, .boolean, (.array (.object "java/lang/Object")), (.object "java/lang/Object"), (.object "java/util/ImmutableCollections$ListN"), (.object "java/util/ImmutableCollections$ListN"), (.object "java/util/ImmutableCollections$SetN"), (.object "java/util/ImmutableCollections$MapN"), .int, .boolean]
  resolved := Array.replicate 213 none
  statics := some 1 }

def pool17 : Array CpInfo := pool [(2, .class_ 4), (1, u "java/lang/Enum"), (0, u "name"), (0, u "Ljava/lang/String;"), (2, u "ordinal"), (0, u "I"), (1, .class_ 14), (1, u "java/lang/Object"), (4, u "hash"), (86, .class_ 108), (1, u "java/lang/Enum$EnumDesc"), (2, .class_ 112), (0, u "java/lang/constant/Constable"), (0, .class_ 114), (0, u "java/lang/Comparable"), (0, .class_ 116), (0, u "java/io/Serializable")] 87

/-- java/lang/Enum -/
def k17 : Class := { plain "java/lang/Enum" (some 0) with
  accessFlags := 1057
  interfaces := #[5, 3, 2]
  cf := some (fileOf pool17 2 #[.nestMembers #[106]] #[] 1057 12 #[111, 113, 115] #[{ accessFlags := 18, nameIndex := 5, descriptorIndex := 6, attributes := #[] }, { accessFlags := 18, nameIndex := 9, descriptorIndex := 10, attributes := #[] }, { accessFlags := 2, nameIndex := 19, descriptorIndex := 10, attributes := #[] }])
  fields := #[{ name := "name", type := (.object "java/lang/String"), accessFlags := 18, slot := 0, constantValue := 0 }, { name := "ordinal", type := .int, accessFlags := 18, slot := 1, constantValue := 0 }, { name := "hash", type := .int, accessFlags := 2, slot := 2, constantValue := 0 }]
  methods := #[]
  instanceTypes := #[(.object "java/lang/String"), .int, .int]
  staticTypes := #[]
  resolved := Array.replicate 204 none
  statics := none }

def pool18 : Array CpInfo := pool [(1, .class_ 2), (0, u "com/example/claimwright/claimwright/vendorfile/Rejection"), (2, u "BADNAME"), (0, u "Lcom/example/claimwright/claimwright/vendorfile/Rejection;"), (2, u "DUPLICATE"), (2, u "HEADER"), (2, u "TRAILER"), (2, u "EMPTY"), (2, u "$VALUES"), (0, u "[Lcom/example/claimwright/claimwright/vendorfile/Rejection;"), (6, .class_ 31), (1, u "java/lang/Enum")] 27

/-- com/example/claimwright/claimwright/vendorfile/Rejection -/
def k18 : Class := { plain "com/example/claimwright/claimwright/vendorfile/Rejection" (some 17) with
  accessFlags := 16433
  interfaces := #[]
  cf := some (fileOf pool18 1 #[] #[] 16433 29 #[] #[{ accessFlags := 16409, nameIndex := 5, descriptorIndex := 6, attributes := #[] }, { accessFlags := 16409, nameIndex := 9, descriptorIndex := 6, attributes := #[] }, { accessFlags := 16409, nameIndex := 12, descriptorIndex := 6, attributes := #[] }, { accessFlags := 16409, nameIndex := 15, descriptorIndex := 6, attributes := #[] }, { accessFlags := 16409, nameIndex := 18, descriptorIndex := 6, attributes := #[] }, { accessFlags := 4122, nameIndex := 21, descriptorIndex := 22, attributes := #[] }])
  fields := #[{ name := "BADNAME", type := (.object "com/example/claimwright/claimwright/vendorfile/Rejection"), accessFlags := 16409, slot := 0, constantValue := 0 }, { name := "DUPLICATE", type := (.object "com/example/claimwright/claimwright/vendorfile/Rejection"), accessFlags := 16409, slot := 1, constantValue := 0 }, { name := "HEADER", type := (.object "com/example/claimwright/claimwright/vendorfile/Rejection"), accessFlags := 16409, slot := 2, constantValue := 0 }, { name := "TRAILER", type := (.object "com/example/claimwright/claimwright/vendorfile/Rejection"), accessFlags := 16409, slot := 3, constantValue := 0 }, { name := "EMPTY", type := (.object "com/example/claimwright/claimwright/vendorfile/Rejection"), accessFlags := 16409, slot := 4, constantValue := 0 }, { name := "$VALUES", type := (.array (.object "com/example/claimwright/claimwright/vendorfile/Rejection")), accessFlags := 4122, slot := 5, constantValue := 0 }]
  methods := #[]
  instanceTypes := #[(.object "java/lang/String"), .int, .int]
  staticTypes := #[(.object "com/example/claimwright/claimwright/vendorfile/Rejection"), (.object "com/example/claimwright/claimwright/vendorfile/Rejection"), (.object "com/example/claimwright/claimwright/vendorfile/Rejection"), (.object "com/example/claimwright/claimwright/vendorfile/Rejection"), (.object "com/example/claimwright/claimwright/vendorfile/Rejection"), (.array (.object "com/example/claimwright/claimwright/vendorfile/Rejection"))]
  resolved := Array.replicate 59 none
  statics := some 2 }

def pool19 : Array CpInfo := pool [(4, .class_ 6), (1, u "java/lang/Object"), (0, u "<init>"), (0, u "()V"), (5, .class_ 16), (1, u "java/lang/StringLatin1"), (104, u "$assertionsDisabled"), (0, u "Z"), (98, .class_ 223), (1, u "java/lang/StringLatin1$LinesSpliterator"), (166, .class_ 391), (0, u "java/lang/StringLatin1$CharsSpliterator")] 3

def k19m0 : Method := { name := "<init>", desc := "()V", sig := { parameters := [], returnType := none }, accessFlags := 0, code := none }
/-- java/lang/StringLatin1 -/
def k19 : Class := { plain "java/lang/StringLatin1" (some 0) with
  accessFlags := 48
  interfaces := #[]
  cf := some (fileOf pool19 14 #[.nestMembers #[390, 221]] #[{ accessFlags := 0, nameIndex := 7, descriptorIndex := 8, attributes := #[] }] 48 4 #[] #[{ accessFlags := 4120, nameIndex := 121, descriptorIndex := 122, attributes := #[] }])
  fields := #[{ name := "$assertionsDisabled", type := .boolean, accessFlags := 4120, slot := 0, constantValue := 0 }]
  methods := #[k19m0]
  instanceTypes := #[]
  staticTypes := #[.boolean]
  resolved := Array.replicate 395 none
  statics := none }

def pool20 : Array CpInfo := pool [(2, .class_ 4), (1, u "java/lang/Object"), (0, u "<init>"), (0, u "()V"), (17, .class_ 26), (1, u "jdk/internal/util/Preconditions"), (28, .class_ 56), (0, u "jdk/internal/util/Preconditions$4"), (57, .class_ 115), (0, u "jdk/internal/util/Preconditions$1"), (7, u "SIOOBE_FORMATTER"), (0, u "Ljava/util/function/BiFunction;"), (0, .class_ 126), (0, u "jdk/internal/util/Preconditions$2"), (3, u "AIOOBE_FORMATTER"), (0, .class_ 132), (0, u "jdk/internal/util/Preconditions$3"), (3, u "IOOBE_FORMATTER")] 57

def k20m0 : Method := { name := "<init>", desc := "()V", sig := { parameters := [], returnType := none }, accessFlags := 1, code := none }
/-- jdk/internal/util/Preconditions -/
def k20 : Class := { plain "jdk/internal/util/Preconditions" (some 0) with
  accessFlags := 33
  interfaces := #[]
  cf := some (fileOf pool20 24 #[.nestMembers #[55, 131, 125, 114]] #[{ accessFlags := 1, nameIndex := 5, descriptorIndex := 6, attributes := #[] }] 33 2 #[] #[{ accessFlags := 25, nameIndex := 123, descriptorIndex := 124, attributes := #[] }, { accessFlags := 25, nameIndex := 130, descriptorIndex := 124, attributes := #[] }, { accessFlags := 25, nameIndex := 136, descriptorIndex := 124, attributes := #[] }])
  fields := #[{ name := "SIOOBE_FORMATTER", type := (.object "java/util/function/BiFunction"), accessFlags := 25, slot := 0, constantValue := 0 }, { name := "AIOOBE_FORMATTER", type := (.object "java/util/function/BiFunction"), accessFlags := 25, slot := 1, constantValue := 0 }, { name := "IOOBE_FORMATTER", type := (.object "java/util/function/BiFunction"), accessFlags := 25, slot := 2, constantValue := 0 }]
  methods := #[k20m0]
  instanceTypes := #[]
  staticTypes := #[(.object "java/util/function/BiFunction"), (.object "java/util/function/BiFunction"), (.object "java/util/function/BiFunction")]
  resolved := Array.replicate 194 none
  statics := some 3 }

def pool21 : Array CpInfo := pool [(9, u "<init>"), (6, .class_ 18), (1, u "java/lang/Object"), (0, u "()V"), (1, .class_ 23), (1, u "jdk/internal/util/ArraysSupport"), (0, u "LOG2_ARRAY_LONG_INDEX_SCALE"), (0, u "I"), (2, u "U"), (0, u "Ljdk/internal/misc/Unsafe;"), (8, u "BIG_ENDIAN"), (0, u "Z"), (8, u "LOG2_BYTE_BIT_SIZE"), (4, u "LOG2_ARRAY_INT_INDEX_SCALE"), (54, u "JLA"), (0, u "Ljdk/internal/access/JavaLangAccess;"), (11, u "LOG2_ARRAY_BOOLEAN_INDEX_SCALE"), (9, u "LOG2_ARRAY_BYTE_INDEX_SCALE"), (5, u "LOG2_ARRAY_CHAR_INDEX_SCALE"), (5, u "LOG2_ARRAY_SHORT_INDEX_SCALE"), (18, u "LOG2_ARRAY_FLOAT_INDEX_SCALE"), (24, u "LOG2_ARRAY_DOUBLE_INDEX_SCALE"), (89, u "T_BOOLEAN"), (2, u "T_CHAR"), (1, u "T_FLOAT"), (1, u "T_DOUBLE"), (1, u "T_BYTE"), (1, u "T_SHORT"), (1, u "T_INT"), (1, u "T_LONG"), (1, u "SOFT_MAX_ARRAY_LENGTH")] 83

def k21m0 : Method := { name := "<init>", desc := "()V", sig := { parameters := [], returnType := none }, accessFlags := 2, code := none }
/-- jdk/internal/util/ArraysSupport -/
def k21 : Class := { plain "jdk/internal/util/ArraysSupport" (some 0) with
  accessFlags := 33
  interfaces := #[]
  cf := some (fileOf pool21 21 #[] #[{ accessFlags := 2, nameIndex := 9, descriptorIndex := 19, attributes := #[] }] 33 16 #[] #[{ accessFlags := 24, nameIndex := 28, descriptorIndex := 29, attributes := #[] }, { accessFlags := 26, nameIndex := 38, descriptorIndex := 39, attributes := #[] }, { accessFlags := 25, nameIndex := 121, descriptorIndex := 25, attributes := #[] }, { accessFlags := 25, nameIndex := 131, descriptorIndex := 25, attributes := #[] }, { accessFlags := 25, nameIndex := 137, descriptorIndex := 25, attributes := #[] }, { accessFlags := 25, nameIndex := 143, descriptorIndex := 25, attributes := #[] }, { accessFlags := 25, nameIndex := 53, descriptorIndex := 25, attributes := #[] }, { accessFlags := 25, nameIndex := 24, descriptorIndex := 25, attributes := #[] }, { accessFlags := 25, nameIndex := 162, descriptorIndex := 25, attributes := #[] }, { accessFlags := 25, nameIndex := 187, descriptorIndex := 25, attributes := #[] }, { accessFlags := 26, nameIndex := 48, descriptorIndex := 25, attributes := #[] }, { accessFlags := 25, nameIndex := 277, descriptorIndex := 25, attributes := #[] }, { accessFlags := 25, nameIndex := 280, descriptorIndex := 25, attributes := #[] }, { accessFlags := 25, nameIndex := 282, descriptorIndex := 25, attributes := #[] }, { accessFlags := 25, nameIndex := 284, descriptorIndex := 25, attributes := #[] }, { accessFlags := 25, nameIndex := 286, descriptorIndex := 25, attributes := #[] }, { accessFlags := 25, nameIndex := 288, descriptorIndex := 25, attributes := #[] }, { accessFlags := 25, nameIndex := 290, descriptorIndex := 25, attributes := #[] }, { accessFlags := 25, nameIndex := 292, descriptorIndex := 25, attributes := #[] }, { accessFlags := 26, nameIndex := 108, descriptorIndex := 109, attributes := #[] }, { accessFlags := 25, nameIndex := 294, descriptorIndex := 25, attributes := #[] }])
  fields := #[{ name := "U", type := (.object "jdk/internal/misc/Unsafe"), accessFlags := 24, slot := 0, constantValue := 0 }, { name := "BIG_ENDIAN", type := .boolean, accessFlags := 26, slot := 1, constantValue := 0 }, { name := "LOG2_ARRAY_BOOLEAN_INDEX_SCALE", type := .int, accessFlags := 25, slot := 2, constantValue := 0 }, { name := "LOG2_ARRAY_BYTE_INDEX_SCALE", type := .int, accessFlags := 25, slot := 3, constantValue := 0 }, { name := "LOG2_ARRAY_CHAR_INDEX_SCALE", type := .int, accessFlags := 25, slot := 4, constantValue := 0 }, { name := "LOG2_ARRAY_SHORT_INDEX_SCALE", type := .int, accessFlags := 25, slot := 5, constantValue := 0 }, { name := "LOG2_ARRAY_INT_INDEX_SCALE", type := .int, accessFlags := 25, slot := 6, constantValue := 0 }, { name := "LOG2_ARRAY_LONG_INDEX_SCALE", type := .int, accessFlags := 25, slot := 7, constantValue := 0 }, { name := "LOG2_ARRAY_FLOAT_INDEX_SCALE", type := .int, accessFlags := 25, slot := 8, constantValue := 0 }, { name := "LOG2_ARRAY_DOUBLE_INDEX_SCALE", type := .int, accessFlags := 25, slot := 9, constantValue := 0 }, { name := "LOG2_BYTE_BIT_SIZE", type := .int, accessFlags := 26, slot := 10, constantValue := 0 }, { name := "T_BOOLEAN", type := .int, accessFlags := 25, slot := 11, constantValue := 0 }, { name := "T_CHAR", type := .int, accessFlags := 25, slot := 12, constantValue := 0 }, { name := "T_FLOAT", type := .int, accessFlags := 25, slot := 13, constantValue := 0 }, { name := "T_DOUBLE", type := .int, accessFlags := 25, slot := 14, constantValue := 0 }, { name := "T_BYTE", type := .int, accessFlags := 25, slot := 15, constantValue := 0 }, { name := "T_SHORT", type := .int, accessFlags := 25, slot := 16, constantValue := 0 }, { name := "T_INT", type := .int, accessFlags := 25, slot := 17, constantValue := 0 }, { name := "T_LONG", type := .int, accessFlags := 25, slot := 18, constantValue := 0 }, { name := "JLA", type := (.object "jdk/internal/access/JavaLangAccess"), accessFlags := 26, slot := 19, constantValue := 0 }, { name := "SOFT_MAX_ARRAY_LENGTH", type := .int, accessFlags := 25, slot := 20, constantValue := 0 }]
  methods := #[k21m0]
  instanceTypes := #[]
  staticTypes := #[(.object "jdk/internal/misc/Unsafe"), .boolean, .int, .int, .int, .int, .int, .int, .int, .int, .int, .int, .int, .int, .int, .int, .int, .int, .int, (.object "jdk/internal/access/JavaLangAccess"), .int]
  resolved := Array.replicate 378 none
  statics := none }

def pool22 : Array CpInfo := pool [(1, .class_ 2), (0, u "java/util/ImmutableCollections"), (1, .class_ 6), (1, u "java/util/ImmutableCollections$AbstractImmutableMap"), (10, .class_ 19), (1, u "java/util/ImmutableCollections$MapN"), (0, u "size"), (0, u "I"), (4, u "table"), (0, u "[Ljava/lang/Object;")] 121

/-- java/util/ImmutableCollections$MapN -/
def k22 : Class := { plain "java/util/ImmutableCollections$MapN" (some 15) with
  accessFlags := 48
  interfaces := #[]
  cf := some (fileOf pool22 17 #[.nestHost 1] #[] 48 4 #[] #[{ accessFlags := 16, nameIndex := 26, descriptorIndex := 27, attributes := #[] }, { accessFlags := 16, nameIndex := 20, descriptorIndex := 21, attributes := #[] }])
  fields := #[{ name := "table", type := (.array (.object "java/lang/Object")), accessFlags := 16, slot := 2, constantValue := 0 }, { name := "size", type := .int, accessFlags := 16, slot := 3, constantValue := 0 }]
  methods := #[]
  instanceTypes := #[(.object "java/util/Set"), (.object "java/util/Collection"), (.array (.object "java/lang/Object")), .int]
  staticTypes := #[]
  resolved := Array.replicate 149 none
  statics := none }

/-- the primitive byte -/
def k23 : Class := { plain "byte" none with kind := .primitive 'B', accessFlags := 0x411 }
/-- [B -/
def k24 : Class := { plain "[B" (some 0) with kind := .array 23 .byte, interfaces := #[11, 2], accessFlags := 1041 }

/-- the primitive char -/
def k25 : Class := { plain "char" none with kind := .primitive 'C', accessFlags := 0x411 }
/-- [C -/
def k26 : Class := { plain "[C" (some 0) with kind := .array 25 .char, interfaces := #[11, 2], accessFlags := 1041 }

/-- the primitive int -/
def k27 : Class := { plain "int" none with kind := .primitive 'I', accessFlags := 0x411 }
/-- [I -/
def k28 : Class := { plain "[I" (some 0) with kind := .array 27 .int, interfaces := #[11, 2], accessFlags := 1041 }

/-- [Ljava/lang/Object; -/
def k29 : Class := { plain "[Ljava/lang/Object;" (some 0) with kind := .array 0 (.object "java/lang/Object"), interfaces := #[11, 2], accessFlags := 1041 }

def heap : Heap := #[{ cls := 7, slots := #[.long 0, .int 1, .null, .int 0, .null, .int 0, .int 0], vm := .statics 7 },
  { cls := 16, slots := #[.long 0, .int 0, .null, .null, .null, .null, .null, .ref 6, .int 0, .int 0], vm := .statics 16 },
  { cls := 18, slots := #[.ref 5, .ref 5, .ref 5, .ref 5, .ref 5, .null], vm := .statics 18 },
  { cls := 20, slots := #[.null, .null, .null], vm := .statics 20 },
  { cls := 29, slots := #[], vm := .none },
  { cls := 18, slots := #[.null, .int 0, .int 0], vm := .none },
  { cls := 22, slots := #[.null, .null, .ref 4, .int 0], vm := .none }]
def classes : Array Class := #[k0, k1, k2, k3, k4, k5, k6, k7, k8, k9, k10, k11, k12, k13, k14, k15, k16, k17, k18, k19, k20, k21, k22, k23, k24, k25, k26, k27, k28, k29]
def interned : List (Array UInt16 × Addr) := []
def slotsUsed : Nat := 33
def theMethod : MethodId := ⟨1, 1⟩
def args0 : Array Value := #[.int 5, .int 5, .int 5, .int 5]
def aboutOver (below : List Frame) : State where
  vm := { classes := classes, interned := interned.toArray }
  heap := heap
  slotsUsed := slotsUsed
  threads := #[{ frames := .invoking theMethod args0 :: below }]
def below0 : List Frame := [.native { method := ⟨0, 0⟩, args := #[] }]
def about1 : State := aboutOver below0
def p0 : Program := .bare "" "" ""
def e0 : Env := launch0.env 0 0 0
theorem w_frames : about1.frames = Frame.invoking theMethod args0 :: below0 := rfl
set_option maxRecDepth 65536 in
theorem w_args : argsFit about1.vm theMethod args0 = true := by decide +kernel
set_option maxRecDepth 65536 in
theorem w_heap : heapFits about1 = true := by decide +kernel
set_option maxRecDepth 65536 in
theorem w_runnable : about1.curStatus? = some .runnable := by decide +kernel
set_option maxRecDepth 65536 in
theorem w_alone : about1.alone = true := by decide +kernel
set_option maxRecDepth 65536 in
theorem w_named : about1.methodNamed? x = some theMethod := by decide +kernel
set_option maxRecDepth 65536 in
theorem w_hears : about1.hears theMethod below0 = true := by decide +kernel
set_option maxRecDepth 65536 in
theorem w_ripe : about1.ripe theMethod args0 below0 = true := by decide +kernel
theorem w_running : about1.status = .running := rfl
set_option maxRecDepth 65536 in
theorem w_room : about1.hasRoom e0.platform room_1 = true :=
  launch0.hasRoom_least _ room_1 (by decide +kernel) (by decide +kernel) (by decide +kernel) (by decide +kernel) (by decide +kernel) (by decide +kernel)
theorem allAtoms_all (ts : List Jvm.Cond) (a : Array Jvm.Value) (st : Jvm.State) : (allAtoms ts).before a st = ts.all (fun c => c.before a st) := by
  induction ts with
  | nil => rfl
  | cons c t ih =>
    show (Jvm.Cond.and c (allAtoms t)).before a st = _
    rw [Jvm.Cond.before_and, ih, List.all_cons]
def words1 : List Jvm.Cond := Jvm.Cond.code x code maxLocals ret :: tables_1
/-- a 'code' word, met by the world's own term for the bytes: nothing is compared byte by byte -/
theorem code_word {y : MethodName} {bytes : ByteArray} {mx : Nat} {rt : Option FieldType} {a : Array Value} {s : State} {m : MethodId} {meth : Method} {c : Code} (h1 : s.methodNamed? y = some m) (h2 : s.vm.method? m = some meth) (h3 : meth.code = some c) (h4 : c.code = bytes)
    (h5 : (c.maxLocals == mx && c.exceptionTable.isEmpty && decide (c.maxStack ≤ mostOperands) && decide (meth.sig.returnType = rt) && !meth.locks && decide (parseMethodDescriptor y.desc = some meth.sig)) = true) : (Jvm.Cond.code y bytes mx rt).before a s = true := by
  simp only [Bool.and_eq_true, beq_iff_eq, Bool.not_eq_true', decide_eq_true_eq] at h5
  obtain ⟨⟨⟨⟨⟨g1, g2⟩, g3⟩, g4⟩, g5⟩, g6⟩ := h5
  simp [Cond.before, Cond.holds, Cond.value, h1, h2, h3, h4, g1, g2, g3, g4, g5, g6]
def isCode : Jvm.Cond → Bool
  | .code _ _ _ _ => true
  | _ => false
theorem all_split {L : List Jvm.Cond} {P : Jvm.Cond → Bool} (h1 : L.all (fun c => isCode c || P c) = true) (h2 : ∀ c ∈ L.filter isCode, P c = true) : L.all P = true := by
  refine List.all_eq_true.mpr fun c hc => ?_
  have h := List.all_eq_true.mp h1 c hc
  rcases Bool.eq_false_or_eq_true (isCode c) with hi | hi
  · exact h2 c (List.mem_filter.mpr ⟨hc, hi⟩)
  · simpa [hi] using h
set_option maxRecDepth 65536 in
theorem w_c0 : (Jvm.Cond.code x code maxLocals ret).before args0 about1 = true := code_word (m := ⟨1, 1⟩) (meth := k1m1) (c := k1c1) (by decide +kernel) rfl rfl rfl (by decide +kernel)
set_option maxRecDepth 65536 in
theorem w_c1 : (Jvm.Cond.code ({ cls := "com/example/claimwright/claimwright/vendorfile/IngestedIsRejectedPinLaw", name := "pick", desc := "(I)Lcom/example/claimwright/claimwright/vendorfile/Rejection;" } : Jvm.MethodName) method_3_code (1 : Nat) (Option.some (Jvm.ClassFile.FieldType.object "com/example/claimwright/claimwright/vendorfile/Rejection"))).before args0 about1 = true := code_word (m := ⟨1, 2⟩) (meth := k1m2) (c := k1c2) (by decide +kernel) rfl rfl rfl (by decide +kernel)
set_option maxRecDepth 65536 in
theorem w_c2 : (Jvm.Cond.code ({ cls := "java/lang/String", name := "<init>", desc := "([C)V" } : Jvm.MethodName) jdk_42_method_3_code (2 : Nat) (Option.none : Option Jvm.ClassFile.FieldType)).before args0 about1 = true := code_word (m := ⟨7, 1⟩) (meth := k7m1) (c := k7c1) (by decide +kernel) rfl rfl rfl (by decide +kernel)
set_option maxRecDepth 65536 in
theorem w_c3 : (Jvm.Cond.code ({ cls := "java/lang/String", name := "<init>", desc := "([CIILjava/lang/Void;)V" } : Jvm.MethodName) jdk_42_method_149_code (6 : Nat) (Option.none : Option Jvm.ClassFile.FieldType)).before args0 about1 = true := code_word (m := ⟨7, 2⟩) (meth := k7m2) (c := k7c2) (by decide +kernel) rfl rfl rfl (by decide +kernel)
set_option maxRecDepth 65536 in
theorem w_c4 : (Jvm.Cond.code ({ cls := "java/lang/Object", name := "<init>", desc := "()V" } : Jvm.MethodName) object_method_1_code (1 : Nat) (Option.none : Option Jvm.ClassFile.FieldType)).before args0 about1 = true := code_word (m := ⟨0, 0⟩) (meth := k0m0) (c := k0c0) (by decide +kernel) rfl rfl rfl (by decide +kernel)
set_option maxRecDepth 65536 in
theorem w_c5 : (Jvm.Cond.code ({ cls := "java/lang/StringUTF16", name := "compress", desc := "([CII)[B" } : Jvm.MethodName) jdk_52_method_16_code (6 : Nat) (Option.some (Jvm.ClassFile.FieldType.array Jvm.ClassFile.FieldType.byte))).before args0 about1 = true := code_word (m := ⟨8, 2⟩) (meth := k8m2) (c := k8c2) (by decide +kernel) rfl rfl rfl (by decide +kernel)
set_option maxRecDepth 65536 in
theorem w_c6 : (Jvm.Cond.code ({ cls := "java/lang/StringUTF16", name := "compress", desc := "([CI[BII)I" } : Jvm.MethodName) jdk_52_method_21_code (7 : Nat) (Option.some Jvm.ClassFile.FieldType.int)).before args0 about1 = true := code_word (m := ⟨8, 3⟩) (meth := k8m3) (c := k8c3) (by decide +kernel) rfl rfl rfl (by decide +kernel)
set_option maxRecDepth 65536 in
theorem w_c7 : (Jvm.Cond.code ({ cls := "java/lang/StringUTF16", name := "coderFromArrayLen", desc := "([BI)B" } : Jvm.MethodName) jdk_52_method_15_code (2 : Nat) (Option.some Jvm.ClassFile.FieldType.byte)).before args0 about1 = true := code_word (m := ⟨8, 1⟩) (meth := k8m1) (c := k8c1) (by decide +kernel) rfl rfl rfl (by decide +kernel)
set_option maxRecDepth 65536 in
theorem w_c8 : (Jvm.Cond.code ({ cls := "java/util/HashMap", name := "<init>", desc := "()V" } : Jvm.MethodName) jdk_69_method_7_code (1 : Nat) (Option.none : Option Jvm.ClassFile.FieldType)).before args0 about1 = true := code_word (m := ⟨12, 0⟩) (meth := k12m0) (c := k12c0) (by decide +kernel) rfl rfl rfl (by decide +kernel)
set_option maxRecDepth 65536 in
theorem w_c9 : (Jvm.Cond.code ({ cls := "java/util/AbstractMap", name := "<init>", desc := "()V" } : Jvm.MethodName) jdk_71_method_1_code (1 : Nat) (Option.none : Option Jvm.ClassFile.FieldType)).before args0 about1 = true := code_word (m := ⟨10, 0⟩) (meth := k10m0) (c := k10c0) (by decide +kernel) rfl rfl rfl (by decide +kernel)
set_option maxRecDepth 65536 in
theorem w_c10 : (Jvm.Cond.code ({ cls := "com/example/claimwright/claimwright/vendorfile/Ingested", name := "<init>", desc := "(Ljava/lang/String;Lcom/example/claimwright/claimwright/vendorfile/Rejection;IILjava/util/Map;)V" } : Jvm.MethodName) prog_25_method_1_code (6 : Nat) (Option.none : Option Jvm.ClassFile.FieldType)).before args0 about1 = true := code_word (m := ⟨14, 0⟩) (meth := k14m0) (c := k14c0) (by decide +kernel) rfl rfl rfl (by decide +kernel)
set_option maxRecDepth 65536 in
theorem w_c11 : (Jvm.Cond.code ({ cls := "java/lang/Record", name := "<init>", desc := "()V" } : Jvm.MethodName) jdk_30_method_1_code (1 : Nat) (Option.none : Option Jvm.ClassFile.FieldType)).before args0 about1 = true := code_word (m := ⟨13, 0⟩) (meth := k13m0) (c := k13c0) (by decide +kernel) rfl rfl rfl (by decide +kernel)
set_option maxRecDepth 65536 in
theorem w_c12 : (Jvm.Cond.code ({ cls := "java/util/Map", name := "copyOf", desc := "(Ljava/util/Map;)Ljava/util/Map;" } : Jvm.MethodName) jdk_72_method_39_code (1 : Nat) (Option.some (Jvm.ClassFile.FieldType.object "java/util/Map"))).before args0 about1 = true := code_word (m := ⟨9, 2⟩) (meth := k9m2) (c := k9c2) (by decide +kernel) rfl rfl rfl (by decide +kernel)
set_option maxRecDepth 65536 in
theorem w_c13 : (Jvm.Cond.code ({ cls := "java/util/HashMap", name := "isEmpty", desc := "()Z" } : Jvm.MethodName) jdk_69_method_11_code (1 : Nat) (Option.some Jvm.ClassFile.FieldType.boolean)).before args0 about1 = true := code_word (m := ⟨12, 1⟩) (meth := k12m1) (c := k12c1) (by decide +kernel) rfl rfl rfl (by decide +kernel)
set_option maxRecDepth 65536 in
theorem w_c14 : (Jvm.Cond.code ({ cls := "java/util/Map", name := "of", desc := "()Ljava/util/Map;" } : Jvm.MethodName) jdk_72_method_26_code (0 : Nat) (Option.some (Jvm.ClassFile.FieldType.object "java/util/Map"))).before args0 about1 = true := code_word (m := ⟨9, 1⟩) (meth := k9m1) (c := k9c1) (by decide +kernel) rfl rfl rfl (by decide +kernel)
set_option maxRecDepth 65536 in
theorem w_c15 : (Jvm.Cond.code ({ cls := "com/example/claimwright/claimwright/vendorfile/Ingested", name := "isRejected", desc := "()Z" } : Jvm.MethodName) prog_25_method_2_code (1 : Nat) (Option.some Jvm.ClassFile.FieldType.boolean)).before args0 about1 = true := code_word (m := ⟨14, 1⟩) (meth := k14m1) (c := k14c1) (by decide +kernel) rfl rfl rfl (by decide +kernel)
set_option maxRecDepth 65536 in
theorem w_c16 : (Jvm.Cond.code ({ cls := "com/example/claimwright/claimwright/vendorfile/Ingested", name := "rejection", desc := "()Lcom/example/claimwright/claimwright/vendorfile/Rejection;" } : Jvm.MethodName) prog_25_method_10_code (1 : Nat) (Option.some (Jvm.ClassFile.FieldType.object "com/example/claimwright/claimwright/vendorfile/Rejection"))).before args0 about1 = true := code_word (m := ⟨14, 2⟩) (meth := k14m2) (c := k14c2) (by decide +kernel) rfl rfl rfl (by decide +kernel)
def codes1 : List Jvm.Cond := [Jvm.Cond.code x code maxLocals ret, Jvm.Cond.code ({ cls := "com/example/claimwright/claimwright/vendorfile/IngestedIsRejectedPinLaw", name := "pick", desc := "(I)Lcom/example/claimwright/claimwright/vendorfile/Rejection;" } : Jvm.MethodName) method_3_code (1 : Nat) (Option.some (Jvm.ClassFile.FieldType.object "com/example/claimwright/claimwright/vendorfile/Rejection")), Jvm.Cond.code ({ cls := "java/lang/String", name := "<init>", desc := "([C)V" } : Jvm.MethodName) jdk_42_method_3_code (2 : Nat) (Option.none : Option Jvm.ClassFile.FieldType), Jvm.Cond.code ({ cls := "java/lang/String", name := "<init>", desc := "([CIILjava/lang/Void;)V" } : Jvm.MethodName) jdk_42_method_149_code (6 : Nat) (Option.none : Option Jvm.ClassFile.FieldType), Jvm.Cond.code ({ cls := "java/lang/Object", name := "<init>", desc := "()V" } : Jvm.MethodName) object_method_1_code (1 : Nat) (Option.none : Option Jvm.ClassFile.FieldType), Jvm.Cond.code ({ cls := "java/lang/StringUTF16", name := "compress", desc := "([CII)[B" } : Jvm.MethodName) jdk_52_method_16_code (6 : Nat) (Option.some (Jvm.ClassFile.FieldType.array Jvm.ClassFile.FieldType.byte)), Jvm.Cond.code ({ cls := "java/lang/StringUTF16", name := "compress", desc := "([CI[BII)I" } : Jvm.MethodName) jdk_52_method_21_code (7 : Nat) (Option.some Jvm.ClassFile.FieldType.int), Jvm.Cond.code ({ cls := "java/lang/StringUTF16", name := "coderFromArrayLen", desc := "([BI)B" } : Jvm.MethodName) jdk_52_method_15_code (2 : Nat) (Option.some Jvm.ClassFile.FieldType.byte), Jvm.Cond.code ({ cls := "java/util/HashMap", name := "<init>", desc := "()V" } : Jvm.MethodName) jdk_69_method_7_code (1 : Nat) (Option.none : Option Jvm.ClassFile.FieldType), Jvm.Cond.code ({ cls := "java/util/AbstractMap", name := "<init>", desc := "()V" } : Jvm.MethodName) jdk_71_method_1_code (1 : Nat) (Option.none : Option Jvm.ClassFile.FieldType), Jvm.Cond.code ({ cls := "com/example/claimwright/claimwright/vendorfile/Ingested", name := "<init>", desc := "(Ljava/lang/String;Lcom/example/claimwright/claimwright/vendorfile/Rejection;IILjava/util/Map;)V" } : Jvm.MethodName) prog_25_method_1_code (6 : Nat) (Option.none : Option Jvm.ClassFile.FieldType), Jvm.Cond.code ({ cls := "java/lang/Record", name := "<init>", desc := "()V" } : Jvm.MethodName) jdk_30_method_1_code (1 : Nat) (Option.none : Option Jvm.ClassFile.FieldType), Jvm.Cond.code ({ cls := "java/util/Map", name := "copyOf", desc := "(Ljava/util/Map;)Ljava/util/Map;" } : Jvm.MethodName) jdk_72_method_39_code (1 : Nat) (Option.some (Jvm.ClassFile.FieldType.object "java/util/Map")), Jvm.Cond.code ({ cls := "java/util/HashMap", name := "isEmpty", desc := "()Z" } : Jvm.MethodName) jdk_69_method_11_code (1 : Nat) (Option.some Jvm.ClassFile.FieldType.boolean), Jvm.Cond.code ({ cls := "java/util/Map", name := "of", desc := "()Ljava/util/Map;" } : Jvm.MethodName) jdk_72_method_26_code (0 : Nat) (Option.some (Jvm.ClassFile.FieldType.object "java/util/Map")), Jvm.Cond.code ({ cls := "com/example/claimwright/claimwright/vendorfile/Ingested", name := "isRejected", desc := "()Z" } : Jvm.MethodName) prog_25_method_2_code (1 : Nat) (Option.some Jvm.ClassFile.FieldType.boolean), Jvm.Cond.code ({ cls := "com/example/claimwright/claimwright/vendorfile/Ingested", name := "rejection", desc := "()Lcom/example/claimwright/claimwright/vendorfile/Rejection;" } : Jvm.MethodName) prog_25_method_10_code (1 : Nat) (Option.some (Jvm.ClassFile.FieldType.object "com/example/claimwright/claimwright/vendorfile/Rejection"))]
set_option maxRecDepth 65536 in
theorem codes_eq : words1.filter isCode = codes1 := rfl
theorem w_codes : ∀ c ∈ words1.filter isCode, c.before args0 about1 = true := by
  rw [codes_eq]
  intro c hc
  simp only [codes1, List.mem_cons, List.not_mem_nil, or_false] at hc
  rcases hc with rfl | rfl | rfl | rfl | rfl | rfl | rfl | rfl | rfl | rfl | rfl | rfl | rfl | rfl | rfl | rfl | rfl
  · exact w_c0
  · exact w_c1
  · exact w_c2
  · exact w_c3
  · exact w_c4
  · exact w_c5
  · exact w_c6
  · exact w_c7
  · exact w_c8
  · exact w_c9
  · exact w_c10
  · exact w_c11
  · exact w_c12
  · exact w_c13
  · exact w_c14
  · exact w_c15
  · exact w_c16
set_option maxRecDepth 65536 in
theorem w_t1 : (words1.take 24).all (fun c => isCode c || c.before args0 about1) = true := by decide +kernel
set_option maxRecDepth 65536 in
theorem w_t2 : ((words1.drop 24).take 24).all (fun c => isCode c || c.before args0 about1) = true := by decide +kernel
set_option maxRecDepth 65536 in
theorem w_t3 : (((words1.drop 24).drop 24).take 24).all (fun c => isCode c || c.before args0 about1) = true := by decide +kernel
set_option maxRecDepth 65536 in
theorem w_t4 : ((((words1.drop 24).drop 24).drop 24).take 24).all (fun c => isCode c || c.before args0 about1) = true := by decide +kernel
set_option maxRecDepth 65536 in
theorem w_t5 : ((((words1.drop 24).drop 24).drop 24).drop 24).all (fun c => isCode c || c.before args0 about1) = true := by decide +kernel
theorem w_tables : (allAtoms (Jvm.Cond.code x code maxLocals ret :: tables_1)).before args0 about1 = true := by
  rw [allAtoms_all]
  show words1.all (fun c => c.before args0 about1) = true
  refine all_split ?_ w_codes
  rw [← List.take_append_drop 24 words1, List.all_append, w_t1, ← List.take_append_drop 24 (words1.drop 24), List.all_append, w_t2, ← List.take_append_drop 24 ((words1.drop 24).drop 24), List.all_append, w_t3, ← List.take_append_drop 24 (((words1.drop 24).drop 24).drop 24), List.all_append, w_t4, w_t5]
  rfl
set_option maxRecDepth 65536 in
theorem w_rest : rest_1_c.before args0 about1 = true := by decide +kernel
set_option maxRecDepth 65536 in
theorem w_case : (Jvm.Cond.and given_1 narrow_1).before args0 about1 = true := by decide +kernel
theorem w_applies : (headSpec (Jvm.Cond.code x code maxLocals ret :: tables_1) room_1).applies x e0.platform about1 = true :=
  (Spec.applies_iff w_frames).mpr ⟨w_running, w_runnable, w_alone, w_named, w_hears, w_ripe, w_room, w_tables⟩
theorem atStart : AtStart classFile x code maxLocals ret World_1 tables_1 room_1 Calls_1 rest_1 Pre_1 launch0 p0 e0 about1 theMethod args0 below0 :=
  ⟨lists_1, trivial, launch0.admits_env _ _ _, launch0.least_env, fairChoices_fair.cas, fairChoices_fair.clock, w_frames, w_args, w_heap, w_applies, trivial, w_rest, w_case⟩
end start1
theorem witness_1 : WitnessClaimed_1 := ⟨start1.p0, start1.e0, start1.about1, start1.theMethod, start1.args0, start1.below0, start1.atStart⟩
end Jvm.Pilot.@@N@@
