import JvmDerived
import JvmDerived.Pilot.@@N@@Statement
import JvmDerived.Pilot.@@N@@Code
set_option linter.unusedVariables false
set_option linter.unusedSimpArgs false
/- laws to paste: Road.backV, Road.lenW, Road.chN, Road.codOf (cut by pick.py; bodies as the Statement names them) -/
namespace Jvm.Pilot.@@N@@
namespace StrChars
open Jvm Sem ClassFile Op Lib Jvm.Stand Jvm.Free.XT Jvm.Free.ALB Jvm.Free.JM Jvm.Free
open Jvm.Lib.Cold (StaticIs)
/-- a char array whose places are chars -/
def Ch (a : Addr) (A : Cell) (U : State) : Prop := Arr .char a A U ∧ Typed .char A
theorem Ch.mv {a : Addr} {A : Cell} {U U' : State} (h : Ch a A U) (hal : U.vm.Alike U'.vm) (hh : U'.heap = U.heap) : Ch a A U' := ⟨h.1.mv hal hh, h.2⟩
theorem Ch.keep {a : Addr} {A : Cell} {U U' : State} (h : Ch a A U) (hal : U.vm.Alike U'.vm) (hk : U'.heap[a]? = some A) : Ch a A U' := ⟨h.1.keep hal hk, h.2⟩
/-- what place i of a char[]'s cell holds -/
def cv (A : Cell) (i : Nat) : Int32 := match A.slots[i]? with | some (.int x) => x | _ => 0
theorem Ch.get {a : Addr} {A : Cell} {U : State} (h : Ch a A U) {i : Nat} (hi : i < A.slots.size) : A.slots[i]? = some (.int (cv A i)) := by
  have e := Array.getElem?_eq_getElem hi
  have f := h.2 i _ e
  unfold cv; rw [e]
  generalize A.slots[i] = v at f
  cases v <;> simp [fits] at f ⊢
/-- the byte that i2b leaves of a char -/
def lo8 (x : Int32) : Int32 := x.toInt8.toInt32
theorem fits_lo8 (y : Int32) : fits .byte (.int (lo8 y)) = true := by
  have h1 := y.toInt8.le_toInt
  have h2 := y.toInt8.toInt_lt
  simp only [lo8, fits, Bool.and_eq_true, decide_eq_true_eq, Int32.le_iff_toInt_le, Int8.toInt_toInt32, show (-128 : Int32).toInt = -128 from by decide, show (127 : Int32).toInt = 127 from by decide]
  omega
/-- A' is A but that each place j of lo .. hi - 1 holds f j -/
def Laid (A A' : Cell) (lo hi : Nat) (f : Nat → Value) : Prop := A'.cls = A.cls ∧ A'.vm = A.vm ∧ A'.slots.size = A.slots.size ∧ ∀ i, A'.slots[i]? = if lo ≤ i ∧ i < hi then some (f i) else A.slots[i]?
theorem Laid.zero (A : Cell) (lo : Nat) (f : Nat → Value) : Laid A A lo (lo + 0) f := ⟨rfl, rfl, rfl, fun i => by rw [if_neg (by omega)]⟩
theorem Laid.step {A Ak : Cell} {lo k : Nat} {f : Nat → Value} {v : Value} (h : Laid A Ak lo k f) (hlo : lo ≤ k) (hk : k < Ak.slots.size) (hv : v = f k) : Laid A (Ak.setSlot k v) lo (k + 1) f := by
  refine ⟨h.1, h.2.1, by simpa [Cell.setSlot] using h.2.2.1, fun i => ?_⟩
  by_cases e : k = i
  · subst e; rw [Cell.slots_setSlot_self v hk, if_pos (by omega), hv]
  · rw [Cell.slots_setSlot_ne v e, h.2.2.2 i]
    by_cases q : lo ≤ i ∧ i < k
    · rw [if_pos q, if_pos (by omega)]
    · rw [if_neg q, if_neg (by omega)]
def U16 : String := "java/lang/StringUTF16"
namespace Cmp5
def yN : MethodName := ⟨"java/lang/StringUTF16", "compress", "([CI[BII)I"⟩
abbrev yB : ByteArray := jdk_52_method_21_code
theorem d0 : decode yB 0 = .ok (.iconst 0, 1) := by decide +kernel
theorem d1 : decode yB 1 = .ok (.istore 5, 2) := by decide +kernel
theorem d3 : decode yB 3 = .ok (.iload 5, 2) := by decide +kernel
theorem d5 : decode yB 5 = .ok (.iload 4, 2) := by decide +kernel
theorem d7 : decode yB 7 = .ok (.if_icmp (.ge) 37, 3) := by decide +kernel
theorem d10 : decode yB 10 = .ok (.aload_n 0, 1) := by decide +kernel
theorem d11 : decode yB 11 = .ok (.iload_n 1, 1) := by decide +kernel
theorem d12 : decode yB 12 = .ok (.caload, 1) := by decide +kernel
theorem d13 : decode yB 13 = .ok (.istore 6, 2) := by decide +kernel
theorem d15 : decode yB 15 = .ok (.iload 6, 2) := by decide +kernel
theorem d17 : decode yB 17 = .ok (.sipush 255, 3) := by decide +kernel
theorem d20 : decode yB 20 = .ok (.if_icmp (.le) 6, 3) := by decide +kernel
theorem d26 : decode yB 26 = .ok (.aload_n 2, 1) := by decide +kernel
theorem d27 : decode yB 27 = .ok (.iload_n 3, 1) := by decide +kernel
theorem d28 : decode yB 28 = .ok (.iload 6, 2) := by decide +kernel
theorem d30 : decode yB 30 = .ok (.i2b, 1) := by decide +kernel
theorem d31 : decode yB 31 = .ok (.bastore, 1) := by decide +kernel
theorem d32 : decode yB 32 = .ok (.iinc 1 1, 3) := by decide +kernel
theorem d35 : decode yB 35 = .ok (.iinc 3 1, 3) := by decide +kernel
theorem d38 : decode yB 38 = .ok (.iinc 5 1, 3) := by decide +kernel
theorem d41 : decode yB 41 = .ok (.goto (-38), 3) := by decide +kernel
theorem d44 : decode yB 44 = .ok (.iload 4, 2) := by decide +kernel
theorem d46 : decode yB 46 = .ok (.ireturn, 1) := by decide +kernel
def site : List Cond := []
def tab : Cond := tabOf yN yB 7 (some .int) site
def P (b : Addr) (A : Cell) (d : Addr) (B : Cell) (o q len : Nat) (args : Array Value) (s : State) : Prop := args = #[.ref b, .int (Int32.ofNat o), .ref d, .int (Int32.ofNat q), .int (Int32.ofNat len)] ∧ Ch b A s ∧ Arr .byte d B s ∧ b ≠ d ∧ o + len ≤ A.slots.size ∧ q + len ≤ B.slots.size ∧ ∀ i, i < len → ¬ 255 < cv A (o + i)
def E (b : Addr) (A : Cell) (d : Addr) (B : Cell) (o q len : Nat) (r : Option Value) (s u : State) : Prop := r = some (.int (Int32.ofNat len)) ∧ ∃ B', Put d B' s u ∧ Laid B B' q (q + len) (fun j => Value.int (lo8 (cv A (o + (j - q)))))
/-- no char of the range above 255: len; the places written hold each char's low byte -/
theorem law (l : Launch) (b : Addr) (A : Cell) (d : Addr) (B : Cell) (o q len : Nat) : Law l yN 5 5 0 0 yB 7 (some .int) site (P b A d B o q len) (E b A d B o q len) (copyLocs d q len) 0 0 := by
  refine Law.of_walk (plainFor_of_name (by decide +kernel)) (by decide +kernel) (by decide +kernel) (by decide) (fun _ _ h => by rw [h.1]; rfl) (fun _ U U' hal hh h => ⟨h.1, h.2.1.mv hal hh, h.2.2.1.mv hal hh, h.2.2.2⟩) (fun r U U' V V' h1 hal h2 h => ⟨h.1, h.2.elim fun B' q => ⟨B', q.1.mv h1 h2, q.2⟩⟩) ?_
  intro p e s m args below meth c s₁ X0 hexec hbytes hml hret hlk hnm hown hh0 W hP
  obtain ⟨rfl, hA, hB, hne, l1, l2, hp⟩ := hP
  have c1 : Steps p.tables e below (s₁.setTop (entryFrame m #[.ref b, .int (Int32.ofNat o), .ref d, .int (Int32.ofNat q), .int (Int32.ofNat len)] 7)) (s₁.setTop (mkF m 0 #[.val (.ref b), .val (.int (Int32.ofNat o)), .val (.ref d), .val (.int (Int32.ofNat q)), .val (.int (Int32.ofNat len)), .unset, .unset] [])) := entry rfl
  have hA0 := hA.1.mv X0.warmed.alike hh0
  have hB0 := hB.mv X0.warmed.alike hh0
  have a31 := hA.1.2.2.2
  have c2 : Steps p.tables e below (s₁.setTop (entryFrame m #[.ref b, .int (Int32.ofNat o), .ref d, .int (Int32.ofNat q), .int (Int32.ofNat len)] 7)) (s₁.setTop (mkF m 3 #[.val (.ref b), .val (.int (Int32.ofNat o)), .val (.ref d), .val (.int (Int32.ofNat q)), .val (.int (Int32.ofNat len)), .val (.int 0), .unset] [])) := c1.trans (by
    refine iconstV X0.here hexec rfl 0 (hb hbytes d0) (by decide) ?_
    refine XS.istore X0.here hexec rfl (hb hbytes d1) rfl rfl ?_
    exact Steps.refl _)
  have loop : ∀ (r i : Nat), i + r = len → ∀ (z : Slot), (z = .unset ∨ ∃ w, z = .val w ∧ w.category = 1) → ∀ (Tl : State) (Bk : Cell), Stand p l e { frames := 0, locals := 0, cells := 0, slots := 0 } s m #[.ref b, .int (Int32.ofNat o), .ref d, .int (Int32.ofNat q), .int (Int32.ofNat len)] below meth c Tl ([] ++ copyLocs d q i) 0 0 → Put d Bk s₁ Tl → Laid B Bk q (q + i) (fun j => Value.int (lo8 (cv A (o + (j - q))))) →
      Steps p.tables e below (s₁.setTop (entryFrame m #[.ref b, .int (Int32.ofNat o), .ref d, .int (Int32.ofNat q), .int (Int32.ofNat len)] 7)) (Tl.setTop (mkF m 3 #[.val (.ref b), .val (.int (Int32.ofNat (o + i))), .val (.ref d), .val (.int (Int32.ofNat (q + i))), .val (.int (Int32.ofNat len)), .val (.int (Int32.ofNat i)), z] [])) → ∃ (T' : State) (B' : Cell) (z' : Slot), Stand p l e { frames := 0, locals := 0, cells := 0, slots := 0 } s m #[.ref b, .int (Int32.ofNat o), .ref d, .int (Int32.ofNat q), .int (Int32.ofNat len)] below meth c T' ([] ++ copyLocs d q len) 0 0 ∧ Put d B' s₁ T' ∧ Laid B B' q (q + len) (fun j => Value.int (lo8 (cv A (o + (j - q))))) ∧
      Steps p.tables e below (s₁.setTop (entryFrame m #[.ref b, .int (Int32.ofNat o), .ref d, .int (Int32.ofNat q), .int (Int32.ofNat len)] 7)) (T'.setTop (mkF m 3 #[.val (.ref b), .val (.int (Int32.ofNat (o + len))), .val (.ref d), .val (.int (Int32.ofNat (q + len))), .val (.int (Int32.ofNat len)), .val (.int (Int32.ofNat len)), z'] [])) := by
    intro r
    induction r with
    | zero =>
      intro i hi z hz Tl Bk Xl pl fl cl
      have hil : i = len := by omega
      rw [hil] at Xl fl cl
      exact ⟨Tl, Bk, z, Xl, pl, fl, cl⟩
    | succ r ih =>
      intro i hi z hz Tl Bk Xl pl fl cl
      have all := X0.warmed.alike.symm.trans Xl.warmed.alike
      have hAl := hA0.keep all (pl.other hne hA0.1)
      have hBk := hB0.like all pl.1 fl.1 fl.2.1 fl.2.2.1
      have hlt : q + i < Bk.slots.size := by rw [fl.2.2.1]; omega
      have c3 : Steps p.tables e below (s₁.setTop (entryFrame m #[.ref b, .int (Int32.ofNat o), .ref d, .int (Int32.ofNat q), .int (Int32.ofNat len)] 7)) (Tl.setTop (mkF m 12 #[.val (.ref b), .val (.int (Int32.ofNat (o + i))), .val (.ref d), .val (.int (Int32.ofNat (q + i))), .val (.int (Int32.ofNat len)), .val (.int (Int32.ofNat i)), z] [.int (Int32.ofNat (o + i)), .ref b])) := cl.trans (by
        refine XS.iload Xl.here hexec rfl (hb hbytes d3) rfl ?_
        refine XS.iload Xl.here hexec rfl (hb hbytes d5) rfl ?_
        refine XS.icmpNo Xl.here hexec rfl (hb hbytes d7) rfl (ii_ge_f (lt32 (by omega) (by omega))) ?_
        refine XS.aloadN Xl.here hexec rfl (hb hbytes d10) rfl rfl ?_
        refine XS.iloadN Xl.here hexec rfl (hb hbytes d11) rfl ?_
        exact Steps.refl _)
      have c4 : Steps p.tables e below (s₁.setTop (entryFrame m #[.ref b, .int (Int32.ofNat o), .ref d, .int (Int32.ofNat q), .int (Int32.ofNat len)] 7)) (Tl.setTop (mkF m 13 #[.val (.ref b), .val (.int (Int32.ofNat (o + i))), .val (.ref d), .val (.int (Int32.ofNat (q + i))), .val (.int (Int32.ofNat len)), .val (.int (Int32.ofNat i)), z] [.int (cv A (o + i))])) := c3.trans (by
        refine Xl.aget hexec hAl rfl (hA.get (i := o + i) (by omega)) rfl rfl (hb hbytes d12) ?_
        exact Steps.refl _)
      have c5 : Steps p.tables e below (s₁.setTop (entryFrame m #[.ref b, .int (Int32.ofNat o), .ref d, .int (Int32.ofNat q), .int (Int32.ofNat len)] 7)) (Tl.setTop (mkF m 15 #[.val (.ref b), .val (.int (Int32.ofNat (o + i))), .val (.ref d), .val (.int (Int32.ofNat (q + i))), .val (.int (Int32.ofNat len)), .val (.int (Int32.ofNat i)), .val (.int (cv A (o + i)))] [])) := c4.trans (by
        refine XS.istoreS Xl.here hexec rfl (hb hbytes d13) rfl rfl hz ?_
        exact Steps.refl _)
      have c6 : Steps p.tables e below (s₁.setTop (entryFrame m #[.ref b, .int (Int32.ofNat o), .ref d, .int (Int32.ofNat q), .int (Int32.ofNat len)] 7)) (Tl.setTop (mkF m 31 #[.val (.ref b), .val (.int (Int32.ofNat (o + i))), .val (.ref d), .val (.int (Int32.ofNat (q + i))), .val (.int (Int32.ofNat len)), .val (.int (Int32.ofNat i)), .val (.int (cv A (o + i)))] [.int (lo8 (cv A (o + i))), .int (Int32.ofNat (q + i)), .ref d])) := c5.trans (by
        refine XS.iload Xl.here hexec rfl (hb hbytes d15) rfl ?_
        refine sipushV Xl.here hexec rfl 255 (hb hbytes d17) (by decide) ?_
        refine XS.icmpYes Xl.here hexec rfl (pc0 := 20) rfl (hb hbytes d20) rfl (ii_le_t (hp i (by omega))) (by decide) rfl ?_
        refine XS.aloadN Xl.here hexec rfl (hb hbytes d26) rfl rfl ?_
        refine XS.iloadN Xl.here hexec rfl (hb hbytes d27) rfl ?_
        refine XS.iload Xl.here hexec rfl (hb hbytes d28) rfl ?_
        refine i2b Xl.here hexec rfl (hb hbytes d30) rfl ?_
        exact Steps.refl _)
      obtain ⟨T7, X7, p7, st7⟩ := Xl.aput hexec hBk rfl hlt rfl (fits_lo8 (cv A (o + i))) (g := (mkF m 31 #[.val (.ref b), .val (.int (Int32.ofNat (o + i))), .val (.ref d), .val (.int (Int32.ofNat (q + i))), .val (.int (Int32.ofNat len)), .val (.int (Int32.ofNat i)), .val (.int (cv A (o + i)))] [.int (lo8 (cv A (o + i))), .int (Int32.ofNat (q + i)), .ref d])) rfl (rest := []) rfl (hb hbytes d31)
      have c8 : Steps p.tables e below (s₁.setTop (entryFrame m #[.ref b, .int (Int32.ofNat o), .ref d, .int (Int32.ofNat q), .int (Int32.ofNat len)] 7)) (T7.setTop (mkF m 32 #[.val (.ref b), .val (.int (Int32.ofNat (o + i))), .val (.ref d), .val (.int (Int32.ofNat (q + i))), .val (.int (Int32.ofNat len)), .val (.int (Int32.ofNat i)), .val (.int (cv A (o + i)))] [])) := c6.trans (st7 _ (Steps.refl _))
      have c9 : Steps p.tables e below (s₁.setTop (entryFrame m #[.ref b, .int (Int32.ofNat o), .ref d, .int (Int32.ofNat q), .int (Int32.ofNat len)] 7)) (T7.setTop (mkF m 3 #[.val (.ref b), .val (.int (Int32.ofNat (o + i) + 1)), .val (.ref d), .val (.int (Int32.ofNat (q + i) + 1)), .val (.int (Int32.ofNat len)), .val (.int (Int32.ofNat i + 1)), .val (.int (cv A (o + i)))] [])) := c8.trans (by
        refine iincV X7.here hexec rfl 1 (hb hbytes d32) (by decide) rfl rfl ?_
        refine iincV X7.here hexec rfl 1 (hb hbytes d35) (by decide) rfl rfl ?_
        refine iincV X7.here hexec rfl 1 (hb hbytes d38) (by decide) rfl rfl ?_
        refine XS.goto X7.here hexec rfl (pc0 := 41) rfl (hb hbytes d41) (by decide) rfl ?_
        exact Steps.refl _)
      have c10 : Steps p.tables e below (s₁.setTop (entryFrame m #[.ref b, .int (Int32.ofNat o), .ref d, .int (Int32.ofNat q), .int (Int32.ofNat len)] 7)) (T7.setTop (mkF m 3 #[.val (.ref b), .val (.int (Int32.ofNat (o + (i + 1)))), .val (.ref d), .val (.int (Int32.ofNat (q + (i + 1)))), .val (.int (Int32.ofNat len)), .val (.int (Int32.ofNat (i + 1))), .val (.int (cv A (o + i)))] [])) := by
        have := c9
        rw [succ32, succ32, succ32] at this
        exact this
      exact ih (i + 1) (by omega) _ (Or.inr ⟨_, rfl, rfl⟩) T7 _ (by rw [copyLocs_step, ← List.append_assoc]; exact X7) (pl.trans p7) (fl.step (by omega) hlt (by simp)) c10
  obtain ⟨T9, B9, z9, X9, p9, f9, g9⟩ := loop len 0 (by omega) .unset (Or.inl rfl) s₁ B (by simpa [copyLocs] using X0) ⟨hB0.1, fun _ _ => rfl, rfl⟩ (Laid.zero _ _ _) c2
  have c11 : Steps p.tables e below (s₁.setTop (entryFrame m #[.ref b, .int (Int32.ofNat o), .ref d, .int (Int32.ofNat q), .int (Int32.ofNat len)] 7)) (T9.setTop (mkF m 46 #[.val (.ref b), .val (.int (Int32.ofNat (o + len))), .val (.ref d), .val (.int (Int32.ofNat (q + len))), .val (.int (Int32.ofNat len)), .val (.int (Int32.ofNat len)), z9] [.int (Int32.ofNat len)])) := g9.trans (by
    refine XS.iload X9.here hexec rfl (hb hbytes d3) rfl ?_
    refine XS.iload X9.here hexec rfl (hb hbytes d5) rfl ?_
    refine XS.icmpYes X9.here hexec rfl (pc0 := 7) rfl (hb hbytes d7) rfl (ii_ge_t (nlt32 (by omega) (Nat.le_refl _))) (by decide) rfl ?_
    refine XS.iload X9.here hexec rfl (hb hbytes d44) rfl ?_
    exact Steps.refl _)
  exact ⟨T9, some (.int (Int32.ofNat len)), _, _, _, X9, by simp, rfl, rfl, (fun h => by cases h), ⟨rfl, B9, p9.from hh0, f9⟩, fun fs hl => c11.trans (X9.ireturnOut hexec hret rfl (Or.inl rfl) (hb hbytes d46) hl)⟩
end Cmp5
namespace Cmp3
def yN : MethodName := ⟨"java/lang/StringUTF16", "compress", "([CII)[B"⟩
abbrev yB : ByteArray := jdk_52_method_16_code
theorem d0 : decode yB 0 = .ok (.iload_n 2, 1) := by decide +kernel
theorem d1 : decode yB 1 = .ok (.newarray .byte, 2) := by decide +kernel
theorem d3 : decode yB 3 = .ok (.astore_n 3, 1) := by decide +kernel
theorem d4 : decode yB 4 = .ok (.aload_n 0, 1) := by decide +kernel
theorem d5 : decode yB 5 = .ok (.iload_n 1, 1) := by decide +kernel
theorem d6 : decode yB 6 = .ok (.aload_n 3, 1) := by decide +kernel
theorem d7 : decode yB 7 = .ok (.iconst 0, 1) := by decide +kernel
theorem d8 : decode yB 8 = .ok (.iload_n 2, 1) := by decide +kernel
theorem d9 : decode yB 9 = .ok (.invokestatic 115, 3) := by decide +kernel
theorem d12 : decode yB 12 = .ok (.istore 4, 2) := by decide +kernel
theorem d14 : decode yB 14 = .ok (.iload 4, 2) := by decide +kernel
theorem d16 : decode yB 16 = .ok (.iload_n 2, 1) := by decide +kernel
theorem d17 : decode yB 17 = .ok (.if_icmp (.eq) 40, 3) := by decide +kernel
theorem d57 : decode yB 57 = .ok (.aload_n 3, 1) := by decide +kernel
theorem d58 : decode yB 58 = .ok (.areturn, 1) := by decide +kernel
def site : List Cond := [.arrayClass .byte, Cmp5.tab] ++ staticW U16 115 Cmp5.yN
def tab : Cond := tabOf yN yB 6 (some (.array .byte)) site
def P (b : Addr) (A : Cell) (o len : Nat) (args : Array Value) (s : State) : Prop := args = #[.ref b, .int (Int32.ofNat o), .int (Int32.ofNat len)] ∧ Ch b A s ∧ o + len ≤ A.slots.size ∧ len ≤ 536870912 ∧ ∀ i, i < len → ¬ 255 < cv A (o + i)
def E (b : Addr) (A : Cell) (o len : Nat) (r : Option Value) (s u : State) : Prop := NewArr .byte "[B" len (fun j => .int (lo8 (cv A (o + j)))) r s u ∧ u.heap.size = s.heap.size + 1
/-- no char of the range above 255: a new byte[] of their low bytes -/
theorem law (l : Launch) (b : Addr) (A : Cell) (o len : Nat) : Law l yN 3 3 1 18 yB 6 (some (.array .byte)) site (P b A o len) (E b A o len) [] 1 len := by
  refine Law.of_walk (plainFor_of_name (by decide +kernel)) (by decide +kernel) (by decide +kernel) (by decide) (fun _ _ h => by rw [h.1]; rfl) (fun _ U U' hal hh h => ⟨h.1, h.2.1.mv hal hh, h.2.2⟩) (fun r U U' V V' h1 hal h2 h => ⟨NewArr.mv r U U' V V' h1 hal h2 h.1, by rw [h1, h2]; exact h.2⟩) ?_
  intro p e s m args below meth c s₁ X0 hexec hbytes hml hret hlk hnm hown hh0 W hP
  obtain ⟨rfl, hA, l1, l2, hp⟩ := hP
  have a31 := hA.1.2.2.2
  have c1 : Steps p.tables e below (s₁.setTop (entryFrame m #[.ref b, .int (Int32.ofNat o), .int (Int32.ofNat len)] 6)) (s₁.setTop (mkF m 0 #[.val (.ref b), .val (.int (Int32.ofNat o)), .val (.int (Int32.ofNat len)), .unset, .unset, .unset] [])) := entry rfl
  have c2 : Steps p.tables e below (s₁.setTop (entryFrame m #[.ref b, .int (Int32.ofNat o), .int (Int32.ofNat len)] 6)) (s₁.setTop (mkF m 1 #[.val (.ref b), .val (.int (Int32.ofNat o)), .val (.int (Int32.ofNat len)), .unset, .unset, .unset] [.int (Int32.ofNat len)])) := c1.trans (by
    refine XS.iloadN X0.here hexec rfl (hb hbytes d0) rfl ?_
    exact Steps.refl _)
  obtain ⟨T3, B3, X3, ba3, bs3, bv3, bh3, bf3, st3⟩ := X0.anew hexec (atype := .byte) (wk W (.arrayClass .byte)) rfl (by show len * 1 ≤ _; omega) (by omega) (g := (mkF m 1 #[.val (.ref b), .val (.int (Int32.ofNat o)), .val (.int (Int32.ofNat len)), .unset, .unset, .unset] [.int (Int32.ofNat len)])) rfl (hb hbytes d1) (rest := []) rfl (Nat.le_refl _) (by show 0 + len ≤ len; omega)
  rw [hh0] at ba3 st3
  have kp3 : XT.Kept s T3 := (XT.Kept.of_eq hh0).push bh3
  have hA3 := hA.keep X3.warmed.alike (kp3 _ _ hA.1.1)
  have hne : b ≠ s.heap.size := hA.1.ne
  have c4 : Steps p.tables e below (s₁.setTop (entryFrame m #[.ref b, .int (Int32.ofNat o), .int (Int32.ofNat len)] 6)) (T3.setTop (mkF m 3 #[.val (.ref b), .val (.int (Int32.ofNat o)), .val (.int (Int32.ofNat len)), .unset, .unset, .unset] [.ref s.heap.size])) := c2.trans (st3 _ (Steps.refl _))
  have c5 : Steps p.tables e below (s₁.setTop (entryFrame m #[.ref b, .int (Int32.ofNat o), .int (Int32.ofNat len)] 6)) (T3.setTop (mkF m 9 #[.val (.ref b), .val (.int (Int32.ofNat o)), .val (.int (Int32.ofNat len)), .val (.ref s.heap.size), .unset, .unset] [.int (Int32.ofNat len), .int 0, .ref s.heap.size, .int (Int32.ofNat o), .ref b])) := c4.trans (by
    refine XS.astoreN X3.here hexec rfl (hb hbytes d3) rfl rfl rfl ?_
    refine XS.aloadN X3.here hexec rfl (hb hbytes d4) rfl rfl ?_
    refine XS.iloadN X3.here hexec rfl (hb hbytes d5) rfl ?_
    refine XS.aloadN X3.here hexec rfl (hb hbytes d6) rfl rfl ?_
    refine iconstV X3.here hexec rfl 0 (hb hbytes d7) (by decide) ?_
    refine XS.iloadN X3.here hexec rfl (hb hbytes d8) rfl ?_
    exact Steps.refl _)
  obtain ⟨v6, T6, X6, E6, g6⟩ := X3.callS hexec (Cmp5.law l b A s.heap.size B3 o 0 len) hown (wks W (staticW U16 115 Cmp5.yN)) (wk W Cmp5.tab) (W := 0) (Nat.le_of_ble_eq_true rfl) (Nat.le_of_ble_eq_true rfl) (Nat.le_refl _) (by show 0 + len + 0 ≤ len; omega) (g := (mkF m 9 #[.val (.ref b), .val (.int (Int32.ofNat o)), .val (.int (Int32.ofNat len)), .val (.ref s.heap.size), .unset, .unset] [.int (Int32.ofNat len), .int (Int32.ofNat 0), .ref s.heap.size, .int (Int32.ofNat o), .ref b])) rfl (by rw [hml]; rfl) c5 (argsL := [.ref b, .int (Int32.ofNat o), .ref s.heap.size, .int (Int32.ofNat 0), .int (Int32.ofNat len)]) (rest := []) rfl rfl (by show 2 * 0 + 0 ≤ _; decide) (hb hbytes d9) (⟨rfl, hA3, ba3, hne, l1, by rw [bs3]; simp, hp⟩)
  obtain ⟨rfl, B6, p6, f6⟩ := E6
  have c7 : Steps p.tables e below (s₁.setTop (entryFrame m #[.ref b, .int (Int32.ofNat o), .int (Int32.ofNat len)] 6)) (T6.setTop (mkF m 12 #[.val (.ref b), .val (.int (Int32.ofNat o)), .val (.int (Int32.ofNat len)), .val (.ref s.heap.size), .unset, .unset] [.int (Int32.ofNat len)])) := g6
  have c8 : Steps p.tables e below (s₁.setTop (entryFrame m #[.ref b, .int (Int32.ofNat o), .int (Int32.ofNat len)] 6)) (T6.setTop (mkF m 58 #[.val (.ref b), .val (.int (Int32.ofNat o)), .val (.int (Int32.ofNat len)), .val (.ref s.heap.size), .val (.int (Int32.ofNat len)), .unset] [.ref s.heap.size])) := c7.trans (by
    refine XS.istore X6.here hexec rfl (hb hbytes d12) rfl rfl ?_
    refine XS.iload X6.here hexec rfl (hb hbytes d14) rfl ?_
    refine XS.iloadN X6.here hexec rfl (hb hbytes d16) rfl ?_
    refine XS.icmpYes X6.here hexec rfl (pc0 := 17) rfl (hb hbytes d17) rfl (ii_eq_t rfl) (by decide) rfl ?_
    refine XS.aloadN X6.here hexec rfl (hb hbytes d57) rfl rfl ?_
    exact Steps.refl _)
  have X8 := X6.wide (L' := []) (cells' := 1) (slots' := len) (fun x hx hlt => by
    simp only [List.nil_append, copyLocs, List.mem_map, List.mem_range] at hx
    obtain ⟨i, -, rfl⟩ := hx
    exact absurd hlt (Nat.lt_irrefl _)) (Nat.le_refl _) (by omega)
  exact ⟨T6, some (.ref s.heap.size), _, _, _, X8, rfl, rfl, rfl, (fun h => by cases h), ⟨⟨rfl, B6, ba3.like (X3.warmed.alike.symm.trans X6.warmed.alike) p6.1 f6.1 f6.2.1 f6.2.2.1, f6.2.1.trans bv3, by rw [X6.warmed.alike.findClass, f6.1]; exact bf3, by rw [f6.2.2.1, bs3]; simp, fun j hj => by rw [f6.2.2.2 j, if_pos (by omega)]; rfl, kp3.put p6 (Nat.le_refl _)⟩, by rw [p6.2.2, bh3, hh0]; simp⟩, fun fs hl => c8.trans (X8.areturnOut hexec rfl hret rfl (hb hbytes d58) hl)⟩
end Cmp3
namespace CodL
def yN : MethodName := ⟨"java/lang/StringUTF16", "coderFromArrayLen", "([BI)B"⟩
abbrev yB : ByteArray := jdk_52_method_15_code
theorem d0 : decode yB 0 = .ok (.iload_n 1, 1) := by decide +kernel
theorem d1 : decode yB 1 = .ok (.aload_n 0, 1) := by decide +kernel
theorem d2 : decode yB 2 = .ok (.arraylength, 1) := by decide +kernel
theorem d3 : decode yB 3 = .ok (.isub, 1) := by decide +kernel
theorem d4 : decode yB 4 = .ok (.bipush 31, 2) := by decide +kernel
theorem d6 : decode yB 6 = .ok (.iushr, 1) := by decide +kernel
theorem d7 : decode yB 7 = .ok (.i2b, 1) := by decide +kernel
theorem d8 : decode yB 8 = .ok (.ireturn, 1) := by decide +kernel
def site : List Cond := []
def tab : Cond := tabOf yN yB 2 (some .byte) site
def P (d : Addr) (B : Cell) (args : Array Value) (s : State) : Prop := args = #[.ref d, .int (Int32.ofNat B.slots.size)] ∧ Arr .byte d B s
def E (r : Option Value) (s u : State) : Prop := XT.PureE (some (.int 0)) r s u
/-- an array as long as the number of chars: LATIN1 -/
theorem law (l : Launch) (d : Addr) (B : Cell) : Law l yN 2 2 0 0 yB 2 (some .byte) site (P d B) E [] 0 0 := by
  refine Law.of_walk (plainFor_of_name (by decide +kernel)) (by decide +kernel) (by decide +kernel) (by decide) (fun _ _ h => by rw [h.1]; rfl) (fun _ U U' hal hh h => ⟨h.1, h.2.mv hal hh⟩) (fun r U U' V V' h1 hal h2 h => XT.PureE.mv r U U' V V' h1 hal h2 h) ?_
  intro p e s m args below meth c s₁ X0 hexec hbytes hml hret hlk hnm hown hh0 W hP
  obtain ⟨rfl, hB⟩ := hP
  have hB0 := hB.mv X0.warmed.alike hh0
  have c1 : Steps p.tables e below (s₁.setTop (entryFrame m #[.ref d, .int (Int32.ofNat B.slots.size)] 2)) (s₁.setTop (mkF m 0 #[.val (.ref d), .val (.int (Int32.ofNat B.slots.size))] [])) := entry rfl
  have c2 : Steps p.tables e below (s₁.setTop (entryFrame m #[.ref d, .int (Int32.ofNat B.slots.size)] 2)) (s₁.setTop (mkF m 2 #[.val (.ref d), .val (.int (Int32.ofNat B.slots.size))] [.ref d, .int (Int32.ofNat B.slots.size)])) := c1.trans (by
    refine XS.iloadN X0.here hexec rfl (hb hbytes d0) rfl ?_
    refine XS.aloadN X0.here hexec rfl (hb hbytes d1) rfl rfl ?_
    exact Steps.refl _)
  have c3 : Steps p.tables e below (s₁.setTop (entryFrame m #[.ref d, .int (Int32.ofNat B.slots.size)] 2)) (s₁.setTop (mkF m 8 #[.val (.ref d), .val (.int (Int32.ofNat B.slots.size))] [.int (lo8 (ushr (Int32.ofNat B.slots.size - Int32.ofNat B.slots.size) 31))])) := c2.trans (by
    refine X0.alen hexec hB0 rfl rfl (hb hbytes d2) ?_
    refine XS.isub X0.here hexec rfl (hb hbytes d3) rfl ?_
    refine bipushV X0.here hexec rfl 31 (hb hbytes d4) (by decide) ?_
    refine iushr X0.here hexec rfl (hb hbytes d6) rfl ?_
    refine i2b X0.here hexec rfl (hb hbytes d7) rfl ?_
    exact Steps.refl _)
  have e0 : lo8 (ushr (Int32.ofNat B.slots.size - Int32.ofNat B.slots.size) 31) = 0 := by rw [Int32.sub_self]; decide
  rw [e0] at c3
  exact ⟨s₁, some (.int 0), _, _, _, X0, rfl, rfl, rfl, (fun h => by cases h), ⟨rfl, hh0⟩, fun fs hl => c3.trans (X0.ireturnOut hexec hret rfl (Or.inr (Or.inr (Or.inl rfl))) (hb hbytes d8) hl)⟩
end CodL
/-- the String at a is Latin-1 over a new byte[] (the heap's one new cell): the low bytes of the len chars of A from o on; every cell but a is kept -/
def Got (a : Addr) (D : Cell) (fV fC : Field) (A : Cell) (o len : Nat) (r : Option Value) (s u : State) : Prop := r = none ∧ ∃ D' V : Cell, Blank "java/lang/String" a D' u ∧ Same D D' [fV.slot, fC.slot] ∧ D'.slots[fV.slot]? = some (.ref s.heap.size) ∧ D'.slots[fC.slot]? = some (.int 0) ∧ Arr .byte s.heap.size V u ∧ V.vm = .none ∧ u.vm.findClass "[B" = some V.cls ∧ V.slots.size = len ∧ (∀ j, j < len → V.slots[j]? = some (.int (lo8 (cv A (o + j))))) ∧ (∀ (y : Addr) (c : Cell), y ≠ a → s.heap[y]? = some c → u.heap[y]? = some c) ∧ u.heap.size = s.heap.size + 1
theorem Got.mv {a : Addr} {D A : Cell} {fV fC : Field} {o len : Nat} : ∀ r (U U' V V' : State), U'.heap = U.heap → V.vm.Alike V'.vm → V'.heap = V.heap → Got a D fV fC A o len r U V → Got a D fV fC A o len r U' V' :=
  fun r U U' V V' h1 hal h2 ⟨e0, D', X, a1, a2, a3, a4, a5, a6, a7, a8, a9, a10, a11⟩ => ⟨e0, D', X, a1.mv hal h2, a2, by rw [h1]; exact a3, a4, by rw [h1]; exact a5.mv hal h2, a6, by rw [hal.findClass]; exact a7, a8, a9, by rw [h1, h2]; exact a10, by rw [h1, h2]; exact a11⟩
namespace New4
def yN : MethodName := ⟨"java/lang/String", "<init>", "([CIILjava/lang/Void;)V"⟩
abbrev yB : ByteArray := jdk_42_method_149_code
theorem d0 : decode yB 0 = .ok (.aload_n 0, 1) := by decide +kernel
theorem d1 : decode yB 1 = .ok (.invokespecial 1, 3) := by decide +kernel
theorem d4 : decode yB 4 = .ok (.iload_n 3, 1) := by decide +kernel
theorem d5 : decode yB 5 = .ok (.ifCond (.ne) 22, 3) := by decide +kernel
theorem d27 : decode yB 27 = .ok (.getstatic 38, 3) := by decide +kernel
theorem d30 : decode yB 30 = .ok (.ifCond (.eq) 28, 3) := by decide +kernel
theorem d33 : decode yB 33 = .ok (.aload_n 1, 1) := by decide +kernel
theorem d34 : decode yB 34 = .ok (.iload_n 2, 1) := by decide +kernel
theorem d35 : decode yB 35 = .ok (.iload_n 3, 1) := by decide +kernel
theorem d36 : decode yB 36 = .ok (.invokestatic 177, 3) := by decide +kernel
theorem d39 : decode yB 39 = .ok (.astore 5, 2) := by decide +kernel
theorem d41 : decode yB 41 = .ok (.aload_n 0, 1) := by decide +kernel
theorem d42 : decode yB 42 = .ok (.aload 5, 2) := by decide +kernel
theorem d44 : decode yB 44 = .ok (.iload_n 3, 1) := by decide +kernel
theorem d45 : decode yB 45 = .ok (.invokestatic 47, 3) := by decide +kernel
theorem d48 : decode yB 48 = .ok (.putfield 15, 3) := by decide +kernel
theorem d51 : decode yB 51 = .ok (.aload_n 0, 1) := by decide +kernel
theorem d52 : decode yB 52 = .ok (.aload 5, 2) := by decide +kernel
theorem d54 : decode yB 54 = .ok (.putfield 9, 3) := by decide +kernel
theorem d57 : decode yB 57 = .ok (.return_, 1) := by decide +kernel
def site : List Cond := [.fieldLink "java/lang/String" 38 "java/lang/String" "COMPACT_STRINGS" "Z", Cmp3.tab, CodL.tab, .laysFinal "java/lang/String" "java/lang/String" "value" "[B", .fieldLink "java/lang/String" 9 "java/lang/String" "value" "[B", .laysFinal "java/lang/String" "java/lang/String" "coder" "B", .fieldLink "java/lang/String" 15 "java/lang/String" "coder" "B"] ++ objW "java/lang/String" 1 ++ staticW "java/lang/String" 177 Cmp3.yN ++ staticW "java/lang/String" 47 CodL.yN
def tab : Cond := tabOf yN yB 6 none site
def P (a : Addr) (D : Cell) (fV fC : Field) (b : Addr) (A : Cell) (z : Int32) (o len : Nat) (args : Array Value) (s : State) : Prop := args = #[.ref a, .ref b, .int (Int32.ofNat o), .int (Int32.ofNat len), .null] ∧ Blank "java/lang/String" a D s ∧ Found "java/lang/String" "value" "[B" fV s ∧ Found "java/lang/String" "coder" "B" fC s ∧ Ch b A s ∧ StaticIs s "java/lang/String" "COMPACT_STRINGS" "Z" (.int z) ∧ ¬ z = 0 ∧ 0 < len ∧ o + len ≤ A.slots.size ∧ len ≤ 536870912 ∧ ∀ i, i < len → ¬ 255 < cv A (o + i)
def E (a : Addr) (D : Cell) (fV fC : Field) (A : Cell) (o len : Nat) (r : Option Value) (s u : State) : Prop := Got a D fV fC A o len r s u
/-- len > 0, no char of the range above 255: a Latin-1 String of their low bytes -/
theorem law (l : Launch) (a : Addr) (D : Cell) (fV fC : Field) (b : Addr) (A : Cell) (z : Int32) (o len : Nat) : Law l yN 5 4 2 35 yB 6 none site (P a D fV fC b A z o len) (E a D fV fC A o len) [⟨a, fC.slot⟩, ⟨a, fV.slot⟩] 1 len := by
  refine Law.of_walk (plainFor_of_name (by decide +kernel)) (by decide +kernel) (by decide +kernel) (by decide) (fun _ _ h => by rw [h.1]; rfl) (fun _ U U' hal hh h => ⟨h.1, h.2.1.mv hal hh, h.2.2.1.al hal, h.2.2.2.1.al hal, h.2.2.2.2.1.mv hal hh, h.2.2.2.2.2.1.there hal hh, h.2.2.2.2.2.2⟩) (fun r U U' V V' h1 hal h2 h => Got.mv r U U' V V' h1 hal h2 h) ?_
  intro p e s m args below meth c s₁ X0 hexec hbytes hml hret hlk hnm hown hh0 W hP
  obtain ⟨rfl, hB, f1, f2, hA, s1, hz, l0, l1, l2, hp⟩ := hP
  have a31 := hA.1.2.2.2
  have c1 : Steps p.tables e below (s₁.setTop (entryFrame m #[.ref a, .ref b, .int (Int32.ofNat o), .int (Int32.ofNat len), .null] 6)) (s₁.setTop (mkF m 0 #[.val (.ref a), .val (.ref b), .val (.int (Int32.ofNat o)), .val (.int (Int32.ofNat len)), .val .null, .unset] [])) := entry rfl
  have c2 : Steps p.tables e below (s₁.setTop (entryFrame m #[.ref a, .ref b, .int (Int32.ofNat o), .int (Int32.ofNat len), .null] 6)) (s₁.setTop (mkF m 1 #[.val (.ref a), .val (.ref b), .val (.int (Int32.ofNat o)), .val (.int (Int32.ofNat len)), .val .null, .unset] [.ref a])) := c1.trans (by
    refine XS.aloadN X0.here hexec rfl (hb hbytes d0) rfl rfl ?_
    exact Steps.refl _)
  obtain ⟨T3, X3, q3, st3⟩ := X0.oinit hexec hown (wks W (objW "java/lang/String" 1)) (g := (mkF m 1 #[.val (.ref a), .val (.ref b), .val (.int (Int32.ofNat o)), .val (.int (Int32.ofNat len)), .val .null, .unset] [.ref a])) rfl (by rw [hml]; rfl) (rest := []) rfl (hb hbytes d1) (W := 0) (by show 2 * 0 + 0 ≤ _; decide) (Nat.le_of_ble_eq_true rfl) (Nat.le_of_ble_eq_true rfl)
  have hh3 := q3.trans hh0
  have c4 : Steps p.tables e below (s₁.setTop (entryFrame m #[.ref a, .ref b, .int (Int32.ofNat o), .int (Int32.ofNat len), .null] 6)) (T3.setTop (mkF m 27 #[.val (.ref a), .val (.ref b), .val (.int (Int32.ofNat o)), .val (.int (Int32.ofNat len)), .val .null, .unset] [])) := (c2.trans (st3 _ (Steps.refl _))).trans (by
    refine XS.iloadN X3.here hexec rfl (hb hbytes d4) rfl ?_
    refine XS.ifYes X3.here hexec rfl (pc0 := 5) rfl (hb hbytes d5) rfl (i0_ne_t (nz32 (by omega) l0)) (by decide) rfl ?_
    exact Steps.refl _)
  obtain ⟨T5, X5, q5, st5⟩ := X3.sget hexec hown (wk W (.fieldLink "java/lang/String" 38 "java/lang/String" "COMPACT_STRINGS" "Z")) s1 (fun _ _ h => by rw [hh3]; exact h) (g := (mkF m 27 #[.val (.ref a), .val (.ref b), .val (.int (Int32.ofNat o)), .val (.int (Int32.ofNat len)), .val .null, .unset] [])) rfl (hb hbytes d27)
  have hh5 := q5.trans hh3
  have c6 : Steps p.tables e below (s₁.setTop (entryFrame m #[.ref a, .ref b, .int (Int32.ofNat o), .int (Int32.ofNat len), .null] 6)) (T5.setTop (mkF m 30 #[.val (.ref a), .val (.ref b), .val (.int (Int32.ofNat o)), .val (.int (Int32.ofNat len)), .val .null, .unset] [.int z])) := c4.trans (st5 _ (Steps.refl _))
  have c7 : Steps p.tables e below (s₁.setTop (entryFrame m #[.ref a, .ref b, .int (Int32.ofNat o), .int (Int32.ofNat len), .null] 6)) (T5.setTop (mkF m 36 #[.val (.ref a), .val (.ref b), .val (.int (Int32.ofNat o)), .val (.int (Int32.ofNat len)), .val .null, .unset] [.int (Int32.ofNat len), .int (Int32.ofNat o), .ref b])) := c6.trans (by
    refine XS.ifNo X5.here hexec rfl (hb hbytes d30) rfl (i0_eq_f hz) ?_
    refine XS.aloadN X5.here hexec rfl (hb hbytes d33) rfl rfl ?_
    refine XS.iloadN X5.here hexec rfl (hb hbytes d34) rfl ?_
    refine XS.iloadN X5.here hexec rfl (hb hbytes d35) rfl ?_
    exact Steps.refl _)
  obtain ⟨v8, T8, X8, E8, g8⟩ := X5.callS hexec (Cmp3.law l b A o len) hown (wks W (staticW "java/lang/String" 177 Cmp3.yN)) (wk W Cmp3.tab) (W := 0) (Nat.le_of_ble_eq_true rfl) (Nat.le_of_ble_eq_true rfl) (Nat.le_refl _) (by show 0 + len ≤ len; omega) (g := (mkF m 36 #[.val (.ref a), .val (.ref b), .val (.int (Int32.ofNat o)), .val (.int (Int32.ofNat len)), .val .null, .unset] [.int (Int32.ofNat len), .int (Int32.ofNat o), .ref b])) rfl (by rw [hml]; rfl) c7 (argsL := [.ref b, .int (Int32.ofNat o), .int (Int32.ofNat len)]) (rest := []) rfl rfl (by show 2 * 0 + 0 ≤ _; decide) (hb hbytes d36) (⟨rfl, hA.mv X5.warmed.alike hh5, l1, l2, hp⟩)
  obtain ⟨e8, z8⟩ := E8
  obtain ⟨rfl, N, n1, n2, n3, n4, n5, n6⟩ := NewArr.mv _ T5 s _ _ hh5.symm (Vm.Alike.refl _) rfl e8
  rw [hh5] at z8
  have hB1 := hB.keep X8.warmed.alike (n6 _ _ hB.1)
  have hne : s.heap.size ≠ a := (Nat.ne_of_lt (Array.getElem?_eq_some_iff.mp hB.1).1).symm
  have c9 : Steps p.tables e below (s₁.setTop (entryFrame m #[.ref a, .ref b, .int (Int32.ofNat o), .int (Int32.ofNat len), .null] 6)) (T8.setTop (mkF m 39 #[.val (.ref a), .val (.ref b), .val (.int (Int32.ofNat o)), .val (.int (Int32.ofNat len)), .val .null, .unset] [.ref s.heap.size])) := g8
  have c10 : Steps p.tables e below (s₁.setTop (entryFrame m #[.ref a, .ref b, .int (Int32.ofNat o), .int (Int32.ofNat len), .null] 6)) (T8.setTop (mkF m 45 #[.val (.ref a), .val (.ref b), .val (.int (Int32.ofNat o)), .val (.int (Int32.ofNat len)), .val .null, .val (.ref s.heap.size)] [.int (Int32.ofNat N.slots.size), .ref s.heap.size, .ref a])) := by
    have hc : Steps p.tables e below (s₁.setTop (entryFrame m #[.ref a, .ref b, .int (Int32.ofNat o), .int (Int32.ofNat len), .null] 6)) (T8.setTop (mkF m 45 #[.val (.ref a), .val (.ref b), .val (.int (Int32.ofNat o)), .val (.int (Int32.ofNat len)), .val .null, .val (.ref s.heap.size)] [.int (Int32.ofNat len), .ref s.heap.size, .ref a])) := c9.trans (by
      refine XS.astore X8.here hexec rfl (hb hbytes d39) rfl rfl rfl ?_
      refine XS.aloadN X8.here hexec rfl (hb hbytes d41) rfl rfl ?_
      refine XS.aload X8.here hexec rfl (hb hbytes d42) rfl rfl ?_
      refine XS.iloadN X8.here hexec rfl (hb hbytes d44) rfl ?_
      exact Steps.refl _)
    rw [n4]; exact hc
  obtain ⟨v11, T11, X11, E11, g11⟩ := X8.callS hexec (CodL.law l s.heap.size N) hown (wks W (staticW "java/lang/String" 47 CodL.yN)) (wk W CodL.tab) (W := 1) (Nat.le_of_ble_eq_true rfl) (Nat.le_of_ble_eq_true rfl) (Nat.le_refl _) (by show 0 + len + 0 ≤ len; omega) (g := (mkF m 45 #[.val (.ref a), .val (.ref b), .val (.int (Int32.ofNat o)), .val (.int (Int32.ofNat len)), .val .null, .val (.ref s.heap.size)] [.int (Int32.ofNat N.slots.size), .ref s.heap.size, .ref a])) rfl (by rw [hml]; rfl) c10 (argsL := [.ref s.heap.size, .int (Int32.ofNat N.slots.size)]) (rest := [.ref a]) rfl rfl (by show 2 * 0 + (1 + 0) ≤ _; decide) (hb hbytes d45) (⟨rfl, n1⟩)
  obtain ⟨rfl, q11⟩ := E11
  have hB11 := hB1.mv (X8.warmed.alike.symm.trans X11.warmed.alike) q11
  have c12 : Steps p.tables e below (s₁.setTop (entryFrame m #[.ref a, .ref b, .int (Int32.ofNat o), .int (Int32.ofNat len), .null] 6)) (T11.setTop (mkF m 48 #[.val (.ref a), .val (.ref b), .val (.int (Int32.ofNat o)), .val (.int (Int32.ofNat len)), .val .null, .val (.ref s.heap.size)] [.int 0, .ref a])) := g11
  obtain ⟨T13, X13, p13, bl13, sl13, st13⟩ := X11.finit hexec hown (wk W (.fieldLink "java/lang/String" 15 "java/lang/String" "coder" "B")) (Or.inr ⟨_, (wk W (.laysFinal "java/lang/String" "java/lang/String" "coder" "B"))⟩) (Or.inl ⟨rfl, hnm⟩) f2 (Or.inl rfl) hB11 (t := .byte) (by decide +kernel) rfl (g := (mkF m 48 #[.val (.ref a), .val (.ref b), .val (.int (Int32.ofNat o)), .val (.int (Int32.ofNat len)), .val .null, .val (.ref s.heap.size)] [.int 0, .ref a])) rfl (rest := []) rfl (hb hbytes d48)
  have c14 : Steps p.tables e below (s₁.setTop (entryFrame m #[.ref a, .ref b, .int (Int32.ofNat o), .int (Int32.ofNat len), .null] 6)) (T13.setTop (mkF m 54 #[.val (.ref a), .val (.ref b), .val (.int (Int32.ofNat o)), .val (.int (Int32.ofNat len)), .val .null, .val (.ref s.heap.size)] [.ref s.heap.size, .ref a])) := (c12.trans (st13 _ (Steps.refl _))).trans (by
    refine XS.aloadN X13.here hexec rfl (hb hbytes d51) rfl rfl ?_
    refine XS.aload X13.here hexec rfl (hb hbytes d52) rfl rfl ?_
    exact Steps.refl _)
  obtain ⟨T15, X15, p15, bl15, sl15, st15⟩ := X13.finit hexec hown (wk W (.fieldLink "java/lang/String" 9 "java/lang/String" "value" "[B")) (Or.inr ⟨_, (wk W (.laysFinal "java/lang/String" "java/lang/String" "value" "[B"))⟩) (Or.inl ⟨rfl, hnm⟩) f1 (Or.inl rfl) bl13 (t := (.array .byte)) (by decide +kernel) rfl (g := (mkF m 54 #[.val (.ref a), .val (.ref b), .val (.int (Int32.ofNat o)), .val (.int (Int32.ofNat len)), .val .null, .val (.ref s.heap.size)] [.ref s.heap.size, .ref a])) rfl (rest := []) rfl (hb hbytes d54)
  have c16 : Steps p.tables e below (s₁.setTop (entryFrame m #[.ref a, .ref b, .int (Int32.ofNat o), .int (Int32.ofNat len), .null] 6)) (T15.setTop (mkF m 57 #[.val (.ref a), .val (.ref b), .val (.int (Int32.ofNat o)), .val (.int (Int32.ofNat len)), .val .null, .val (.ref s.heap.size)] [])) := c14.trans (st15 _ (Steps.refl _))
  have ap := apart (Or.inr ⟨_, (wk W (.laysFinal "java/lang/String" "java/lang/String" "value" "[B"))⟩) (Or.inr ⟨_, (wk W (.laysFinal "java/lang/String" "java/lang/String" "coder" "B"))⟩) f1 f2 (t₁ := .array .byte) (t₂ := .byte) (by decide +kernel) (by decide +kernel) (by decide)
  have al := X8.warmed.alike.symm.trans X15.warmed.alike
  have n7 : T11.heap[s.heap.size]? = some N := by rw [q11]; exact n1.1
  exact ⟨T15, none, _, _, _, X15, by simp, rfl, by omega, (fun _ => rfl), ⟨rfl, _, N, bl15, ((Same.refl D _).set _ (by simp)).set _ (by simp), sl15, (Cell.slots_setSlot_ne _ ap).trans sl13, n1.keep al (p15.other hne (p13.other hne n7)), n2, by rw [al.findClass]; exact n3, n4, n5, fun y c h1 h2 => p15.other h1 (p13.other h1 (by rw [q11]; exact n6 y c h2)), by rw [p15.2.2, p13.2.2, q11]; exact z8⟩, fun fs hl => c16.trans (X15.returnOut hexec hret (hb hbytes d57) hl)⟩
end New4
namespace New1
def yN : MethodName := ⟨"java/lang/String", "<init>", "([C)V"⟩
abbrev yB : ByteArray := jdk_42_method_3_code
theorem d0 : decode yB 0 = .ok (.aload_n 0, 1) := by decide +kernel
theorem d1 : decode yB 1 = .ok (.aload_n 1, 1) := by decide +kernel
theorem d2 : decode yB 2 = .ok (.iconst 0, 1) := by decide +kernel
theorem d3 : decode yB 3 = .ok (.aload_n 1, 1) := by decide +kernel
theorem d4 : decode yB 4 = .ok (.arraylength, 1) := by decide +kernel
theorem d5 : decode yB 5 = .ok (.aconst_null, 1) := by decide +kernel
theorem d6 : decode yB 6 = .ok (.invokespecial 27, 3) := by decide +kernel
theorem d9 : decode yB 9 = .ok (.return_, 1) := by decide +kernel
def site : List Cond := [New4.tab] ++ initW "java/lang/String" 27 New4.yN
def tab : Cond := tabOf yN yB 2 none site
def P (a : Addr) (D : Cell) (fV fC : Field) (b : Addr) (A : Cell) (z : Int32) (args : Array Value) (s : State) : Prop := args = #[.ref a, .ref b] ∧ Blank "java/lang/String" a D s ∧ Found "java/lang/String" "value" "[B" fV s ∧ Found "java/lang/String" "coder" "B" fC s ∧ Ch b A s ∧ StaticIs s "java/lang/String" "COMPACT_STRINGS" "Z" (.int z) ∧ ¬ z = 0 ∧ 0 < A.slots.size ∧ A.slots.size ≤ 536870912 ∧ ∀ i, i < A.slots.size → ¬ 255 < cv A i
def E (a : Addr) (D : Cell) (fV fC : Field) (A : Cell) (r : Option Value) (s u : State) : Prop := Got a D fV fC A 0 A.slots.size r s u
/-- new String(chars), not empty, no char above 255: a Latin-1 String of their low bytes -/
theorem law (l : Launch) (a : Addr) (D : Cell) (fV fC : Field) (b : Addr) (A : Cell) (z : Int32) : Law l yN 2 1 3 52 yB 2 none site (P a D fV fC b A z) (E a D fV fC A) [⟨a, fC.slot⟩, ⟨a, fV.slot⟩] 1 A.slots.size := by
  refine Law.of_walk (plainFor_of_name (by decide +kernel)) (by decide +kernel) (by decide +kernel) (by decide) (fun _ _ h => by rw [h.1]; rfl) (fun _ U U' hal hh h => ⟨h.1, h.2.1.mv hal hh, h.2.2.1.al hal, h.2.2.2.1.al hal, h.2.2.2.2.1.mv hal hh, h.2.2.2.2.2.1.there hal hh, h.2.2.2.2.2.2⟩) (fun r U U' V V' h1 hal h2 h => Got.mv r U U' V V' h1 hal h2 h) ?_
  intro p e s m args below meth c s₁ X0 hexec hbytes hml hret hlk hnm hown hh0 W hP
  obtain ⟨rfl, hB, f1, f2, hA, s1, hz, l0, l2, hp⟩ := hP
  have c1 : Steps p.tables e below (s₁.setTop (entryFrame m #[.ref a, .ref b] 2)) (s₁.setTop (mkF m 0 #[.val (.ref a), .val (.ref b)] [])) := entry rfl
  have c2 : Steps p.tables e below (s₁.setTop (entryFrame m #[.ref a, .ref b] 2)) (s₁.setTop (mkF m 6 #[.val (.ref a), .val (.ref b)] [.null, .int (Int32.ofNat A.slots.size), .int 0, .ref b, .ref a])) := c1.trans (by
    refine XS.aloadN X0.here hexec rfl (hb hbytes d0) rfl rfl ?_
    refine XS.aloadN X0.here hexec rfl (hb hbytes d1) rfl rfl ?_
    refine iconstV X0.here hexec rfl 0 (hb hbytes d2) (by decide) ?_
    refine XS.aloadN X0.here hexec rfl (hb hbytes d3) rfl rfl ?_
    refine X0.alen hexec (hA.1.mv X0.warmed.alike hh0) rfl rfl (hb hbytes d4) ?_
    refine XS.aconstNull X0.here hexec rfl (hb hbytes d5) ?_
    exact Steps.refl _)
  obtain ⟨v3, T3, X3, E3, g3⟩ := X0.callN hexec (New4.law l a D fV fC b A z 0 A.slots.size) rfl hown (wks W (initW "java/lang/String" 27 New4.yN)) (W New4.tab (by simp only [site, List.mem_cons, List.mem_append, true_or, or_true])) (W := 0) (Nat.le_of_ble_eq_true rfl) (Nat.le_of_ble_eq_true rfl) (Nat.le_refl _) (by show 0 + A.slots.size ≤ A.slots.size; omega) (g := (mkF m 6 #[.val (.ref a), .val (.ref b)] [.null, .int (Int32.ofNat A.slots.size), .int (Int32.ofNat 0), .ref b, .ref a])) rfl (by rw [hml]; rfl) c2 (argsL := [.ref b, .int (Int32.ofNat 0), .int (Int32.ofNat A.slots.size), .null]) (rest := []) rfl rfl (by show 2 * 0 + 0 ≤ _; decide) (hb hbytes d6) (⟨rfl, hB.mv X0.warmed.alike hh0, f1.al X0.warmed.alike, f2.al X0.warmed.alike, hA.mv X0.warmed.alike hh0, s1.there X0.warmed.alike hh0, hz, l0, by omega, l2, fun i hi => by rw [Nat.zero_add]; exact hp i hi⟩)
  have e0 := Got.mv _ s₁ s _ _ hh0.symm (Vm.Alike.refl _) rfl E3
  obtain rfl := e0.1
  have c4 : Steps p.tables e below (s₁.setTop (entryFrame m #[.ref a, .ref b] 2)) (T3.setTop (mkF m 9 #[.val (.ref a), .val (.ref b)] [])) := g3
  exact ⟨T3, none, _, _, _, X3, by simp, rfl, by omega, (fun _ => rfl), e0, fun fs hl => c4.trans (X3.returnOut hexec hret (hb hbytes d9) hl)⟩
theorem pays {l : Launch} {R : Room} {p : Program} {e : Env} {below : List Frame} {s : State} {sargs : Array Value} {len W : Nat} (a : Addr) (D : Cell) (fV fC : Field) (b : Addr) (A : Cell) (z : Int32) (htab : tab.before sargs s = true) (hfr : 4 ≤ R.frames) (hlo : W + 65 ≤ R.locals) :
    Back l R p e below s sargs yN len W (fun A₁ a₁ => A₁.cells + 1 ≤ R.cells ∧ A₁.slots + A.slots.size ≤ R.slots ∧ P a D fV fC b A z a₁ A₁.U) (fun A₁ _ v₁ B₁ => E a D fV fC A v₁ A₁.U B₁.U ∧ B₁.locs = A₁.locs ++ [⟨a, fC.slot⟩, ⟨a, fV.slot⟩] ∧ B₁.cells = A₁.cells + 1 ∧ B₁.slots = A₁.slots + A.slots.size) :=
  (law l a D fV fC b A z).pays htab hfr (by omega)
end New1
/-- the byte, read back as charAt reads it, is the char -/
theorem lo8_mask {x : Int32} (h0 : ¬ x < 0) (h1 : ¬ 255 < x) : lo8 x &&& 255 = x := by
  have t : ∀ k : Fin 256, lo8 (Int32.ofNat k.val) &&& 255 = Int32.ofNat k.val := by decide +kernel
  rw [Int32.lt_iff_toInt_lt] at h0 h1
  have e0 : (0 : Int32).toInt = 0 := rfl
  have e1 : (255 : Int32).toInt = 255 := rfl
  obtain ⟨k, hk⟩ : ∃ k : Nat, x.toInt = k := ⟨x.toInt.toNat, by omega⟩
  have hx : x = Int32.ofNat k := Int32.toInt_inj.mp (by rw [hk, Int32.toInt_ofNat_small (by omega)])
  rw [hx]
  exact t ⟨k, by omega⟩
end StrChars
namespace StrChars.Road
open Jvm Sem ClassFile Op Lib Jvm.Stand Jvm.Free Jvm.Free.XT
open Jvm.Lib.Cold (StaticIs)
abbrev ST : String := "java/lang/String"
/-- every table word that New1's law asks, flat -/
abbrev words : List Jvm.Cond := [.code New1.yN New1.yB 2 none, .initialized ST, .methodLink ST 27 New4.yN, .instanceMethod New4.yN,
  .code New4.yN New4.yB 6 none, .fieldLink ST 38 ST "COMPACT_STRINGS" "Z", .laysFinal ST ST "value" "[B", .fieldLink ST 9 ST "value" "[B", .laysFinal ST ST "coder" "B", .fieldLink ST 15 ST "coder" "B",
  .methodLink ST 1 Lib.objectInit, .instanceMethod Lib.objectInit, .code Lib.objectInit ⟨#[0xb1]⟩ 1 none, .methodLink ST 177 Cmp3.yN, .static Cmp3.yN, .methodLink ST 47 CodL.yN, .static CodL.yN,
  .code Cmp3.yN Cmp3.yB 6 (some (.array .byte)), .initialized U16, .arrayClass .byte, .methodLink U16 115 Cmp5.yN, .static Cmp5.yN, .code Cmp5.yN Cmp5.yB 7 (some .int), .code CodL.yN CodL.yB 2 (some .byte)]
theorem tab_of {a : Array Value} {s : State} (h : ∀ w ∈ words, w.before a s = true) : New1.tab.before a s = true := by
  have h5 : Cmp5.tab.before a s = true := unparts (wk h (.code Cmp5.yN Cmp5.yB 7 (some .int))) (wks h (.initialized Cmp5.yN.cls :: Cmp5.site))
  have hc : CodL.tab.before a s = true := unparts (wk h (.code CodL.yN CodL.yB 2 (some .byte))) (wks h (.initialized CodL.yN.cls :: CodL.site))
  have q5 : ∀ w ∈ Cmp5.tab :: words, w.before a s = true := fun w hw => (List.mem_cons.mp hw).elim (fun e => e ▸ h5) (h w)
  have h3 : Cmp3.tab.before a s = true := unparts (wk q5 (.code Cmp3.yN Cmp3.yB 6 (some (.array .byte)))) (wks q5 (.initialized Cmp3.yN.cls :: Cmp3.site))
  have q3 : ∀ w ∈ Cmp3.tab :: CodL.tab :: words, w.before a s = true := fun w hw => (List.mem_cons.mp hw).elim (fun e => e ▸ h3) fun hw => (List.mem_cons.mp hw).elim (fun e => e ▸ hc) (h w)
  have h4 : New4.tab.before a s = true := unparts (wk q3 (.code New4.yN New4.yB 6 none)) (wks q3 (.initialized New4.yN.cls :: New4.site))
  have q4 : ∀ w ∈ New4.tab :: words, w.before a s = true := fun w hw => (List.mem_cons.mp hw).elim (fun e => e ▸ h4) (h w)
  exact unparts (wk q4 (.code New1.yN New1.yB 2 none)) (wks q4 (.initialized New1.yN.cls :: New1.site))
/-- the words ride from the start Z to the walk's own state -/
theorem moved {Z s : State} {a0 args : Array Value} (hZ : Z.Warmed39 s.vm) (hw : ∀ d ∈ words, d.before a0 Z = true) : ∀ d ∈ words, d.before args s = true := fun d hd => by
  have q := hw d hd
  have t : ∀ d ∈ words, d = .arrayClass .byte ∨ (d.onTables && d.keepsFace) = true := by decide +kernel
  rcases t d hd with rfl | t
  · exact RoadKit.mvA hZ q
  · exact RoadKit.mv hZ q t
/-- WHAT COMES BACK, over the tables of the start Z: h the heap at the call, h' behind it -/
def Q (Z : State) (x : Addr) (A : Cell) (h : Heap) (v : Option Value) (h' : Heap) (L : List Loc) : Prop := v = none ∧ (∀ y ∈ L, y.base = x) ∧ RoadKit.Keep h h' [x] ∧ h'.size = h.size + 1 ∧ RoadKit.Exa Z h' x ST ∧ RoadKit.Fld Z h' x ST "value" "[B" (.ref h.size) ∧ RoadKit.Fld Z h' x ST "coder" "B" (.int 0) ∧
  (∃ V : Cell, RoadKit.Arr Z h' h.size V .byte ∧ V.vm = .none ∧ Z.vm.findClass "[B" = some V.cls ∧ V.slots.size = A.slots.size ∧ ∀ j, j < A.slots.size → V.slots[j]? = some (.int (lo8 (cv A j)))) ∧
  ∀ (O n d : String) (w : Value), RoadKit.Fld Z h x O n d w → RoadKit.slotOf Z O n d ≠ RoadKit.slotOf Z ST "value" "[B" → RoadKit.slotOf Z O n d ≠ RoadKit.slotOf Z ST "coder" "B" → RoadKit.Fld Z h' x O n d w
/-- **new String(chars) AT A CALL, IN THE ROAD'S FORM**: for specialBack behind newO: x the fresh String, b the char[] with the cell A -/
theorem back {p : Program} {l : Launch} {e : Env} {R : Room} {s : State} {args : Array Value} {below : List Frame} {len W : Nat} {Z : State} {a0 : Array Value} {h : Heap} (hZ : Z.Warmed39 s.vm) (hw : ∀ d ∈ words, d.before a0 Z = true) {kI : Nat} (wi : (Jvm.Cond.instantiable ST kI).before a0 Z = true)
    {x b : Addr} {A : Cell} {z : Int32} {v0 c0 : Value} (E : RoadKit.Exa Z h x ST) (V : RoadKit.Fld Z h x ST "value" "[B" v0) (C : RoadKit.Fld Z h x ST "coder" "B" c0) (K : RoadKit.Arr Z h b A .char) (hty : Typed .char A) (S : RoadKit.Sta Z h ST "COMPACT_STRINGS" "Z" (.int z)) (hz : ¬ z = 0)
    (l0 : 0 < A.slots.size) (l2 : A.slots.size ≤ 536870912) (hp : ∀ i, i < A.slots.size → ¬ 255 < cv A i) (hfr : 4 ≤ R.frames) (hlo : W + 65 ≤ R.locals) :
    Back l R p e below s args New1.yN len W (fun P a => a = #[.ref x, .ref b] ∧ P.U.heap = h ∧ P.cells + 1 ≤ R.cells ∧ P.slots + A.slots.size ≤ R.slots)
      (fun P _ v B => ∃ L, Q Z x A h v B.U.heap L ∧ B.locs = P.locs ++ L ∧ B.cells = P.cells + 1 ∧ B.slots = P.slots + A.slots.size) := by
  intro m meth c P g ig mk a X hg hsize hdg hW hn hp'
  obtain ⟨rfl, rfl, r1, r2⟩ := hp'
  have al : Z.vm.Alike P.U.vm := hZ.alike.trans X.warmed.alike
  obtain ⟨D, cfV, kV, iV, fV, hD, gV, stV, knV, obV, asV, slV⟩ := id V
  obtain ⟨D', cfC, kC, iC, fC, hD', gC, stC, -, -, asC, slC⟩ := id C
  cases hD.symm.trans hD'
  obtain ⟨D2, kD, e1, e2, e3, e4, e5⟩ := id E
  cases hD.symm.trans e1
  obtain ⟨c2, k2, i1, i2, i3, -⟩ := Cond.instantiable_spec wi
  cases e2.symm.trans i1
  cases e3.symm.trans i2
  obtain ⟨kU, u1, u2⟩ := al.2.2 _ _ e3
  have hB : Blank ST x D P.U := ⟨hD, ⟨knV, fun q hq => by rw [hq] at obV; cases obV⟩, by rw [al.findClass]; exact e2, kU, u1, by rw [u2]; exact i3, by rw [u2]; exact e5 i3⟩
  have F1 : Found ST "value" "[B" fV P.U := ⟨SBG.found_only al ⟨cfV, kV, iV, gV⟩, stV⟩
  have F2 : Found ST "coder" "B" fC P.U := ⟨SBG.found_only al ⟨cfC, kC, iC, gC⟩, stC⟩
  have hA : Ch b A P.U := ⟨⟨K.1, State.isArrayOf_alike al K.2.1, K.2.2, by omega⟩, hty⟩
  have hS : StaticIs P.U ST "COMPACT_STRINGS" "Z" (.int z) := by
    obtain ⟨cfS, iS, kS, fS, st, cS, t1, t2, t3, t4, t5, t6, t7⟩ := S
    exact StaticIs.there (s := { Z with heap := P.U.heap }) ⟨cfS, iS, kS, fS, st, cS, t1, t2, t3, t4, t5, (fun q => by rw [q] at t6; cases t6), t7⟩ al rfl
  obtain ⟨v, B, X', ⟨⟨hv, E', V', q1, q2, q3, q4, q5, q6, q7, q8, q9, q10, q11⟩, hl, hc, hs⟩, st⟩ := New1.pays x D fV fC b A z (tab_of (moved hZ hw)) hfr hlo m meth c P g ig mk _ X hg hsize hdg hW hn ⟨r1, r2, rfl, hB, F1, F2, hA, hS, hz, l0, l2, hp⟩
  have al' : Z.vm.Alike B.U.vm := hZ.alike.trans X'.warmed.alike
  have hsz : E'.slots.size = D.slots.size := by
    obtain ⟨-, -, -, kB, w1, w2, w3⟩ := q1
    obtain ⟨kB', y1, y2⟩ := al'.2.2 _ _ e3
    rw [q2.2.1] at w1
    cases w1.symm.trans y1
    rw [w3, e5 i3, y2]
  refine ⟨v, B, X', ⟨_, ⟨hv, ?_, ⟨by omega, fun y cy hy hn' => q10 y cy (by simpa using hn') hy, fun y cy hy => ?_⟩, q11, ⟨E', _, q1.1, by rw [q2.2.1]; exact e2, by rw [q2.2.1]; exact e3, by rw [q2.1]; exact obV, fun _ => by rw [hsz]; exact e5 i3⟩,
    ⟨E', cfV, kV, iV, fV, q1.1, gV, stV, by rw [q2.1]; exact knV, by rw [q2.1]; exact obV, by rw [q2.2.1]; exact asV, q3⟩, ⟨E', cfC, kC, iC, fC, q1.1, gC, stC, by rw [q2.1]; exact knV, by rw [q2.1]; exact obV, by rw [q2.2.1]; exact asC, q4⟩,
    ⟨V', ⟨q5.1, State.isArrayOf_alike al'.symm q5.2.1, q5.2.2.1⟩, q6, by rw [← al'.findClass]; exact q7, q8, fun j hj => by have := q9 j hj; rwa [Nat.zero_add] at this⟩, fun O n d w F n1 n2 => ?_⟩, hl, hc, hs⟩, st⟩
  · intro y hy
    simp only [List.mem_cons, List.not_mem_nil, or_false] at hy
    rcases hy with rfl | rfl <;> rfl
  · by_cases q : y = x
    · subst q
      cases hD.symm.trans hy
      exact ⟨E', q1.1, q2.2.1, q2.1, hsz⟩
    · exact ⟨cy, q10 y cy q hy, rfl, rfl, rfl⟩
  · obtain ⟨D3, cf, k, i, f, g1, g2, g3, g4, g5, g6, g7⟩ := F
    cases hD.symm.trans g1
    simp only [RoadKit.slotOf, g2, gV, gC, Option.map_some, Option.getD_some] at n1 n2
    exact ⟨E', cf, k, i, f, q1.1, g2, g3, by rw [q2.1]; exact g4, by rw [q2.1]; exact g5, by rw [q2.2.1]; exact g6, by rw [q2.2.2 f.slot (by simp [n1, n2])]; exact g7⟩
end StrChars.Road
namespace StrChars.Road
open Jvm Sem ClassFile Op Lib Jvm.Stand Jvm.Free Jvm.Free.XT
/-- WHAT COMES BACK, the byte[] as a list of values -/
def QA (Z : State) (x : Addr) (zn : Int32) (cs : List Int32) (h : Heap) (v : Option Value) (h' : Heap) (L : List Loc) : Prop := v = none ∧ (∀ y ∈ L, y.base = x) ∧ RoadKit.Keep h h' [x] ∧ h'.size = h.size + 1 ∧ RoadKit.Exa Z h' x ST ∧ RoadKit.Fld Z h' x ST "value" "[B" (.ref h.size) ∧ RoadKit.Fld Z h' x ST "coder" "B" (.int 0) ∧
  (∃ kb, Z.vm.findClass "[B" = some kb ∧ RoadKit.Arv Z h' h.size kb .byte zn (cs.map fun c => .int (lo8 c)) (.int 0)) ∧
  ∀ (O n d : String) (w : Value), RoadKit.Fld Z h x O n d w → RoadKit.slotOf Z O n d ≠ RoadKit.slotOf Z ST "value" "[B" → RoadKit.slotOf Z O n d ≠ RoadKit.slotOf Z ST "coder" "B" → RoadKit.Fld Z h' x O n d w
/-- **new String(chars) AT A CALL, THE ARRAYS AS LISTS**: the char[] at b holds cs, not empty, no char above 255 -/
theorem backArv {p : Program} {l : Launch} {e : Env} {R : Room} {s : State} {args : Array Value} {below : List Frame} {len W : Nat} {Z : State} {a0 : Array Value} {h : Heap} (hZ : Z.Warmed39 s.vm) (hw : ∀ d ∈ words, d.before a0 Z = true) {kI : Nat} (wi : (Jvm.Cond.instantiable ST kI).before a0 Z = true)
    {x b : Addr} {k : ClassId} {zn z : Int32} {cs : List Int32} {dv v0 c0 : Value} (E : RoadKit.Exa Z h x ST) (V : RoadKit.Fld Z h x ST "value" "[B" v0) (C : RoadKit.Fld Z h x ST "coder" "B" c0) (K : RoadKit.Arv Z h b k .char zn (cs.map Value.int) dv) (S : RoadKit.Sta Z h ST "COMPACT_STRINGS" "Z" (.int z)) (hz : ¬ z = 0)
    (hlen : zn.toNatClampNeg = cs.length) (h0 : 0 < cs.length) (hbig : cs.length ≤ 536870912) (hall : ∀ c ∈ cs, ¬ 255 < c) (hfr : 4 ≤ R.frames) (hlo : W + 65 ≤ R.locals) :
    Back l R p e below s args New1.yN len W (fun P a => a = #[.ref x, .ref b] ∧ P.U.heap = h ∧ P.cells + 1 ≤ R.cells ∧ P.slots + cs.length ≤ R.slots)
      (fun P _ v B => ∃ L, QA Z x zn cs h v B.U.heap L ∧ B.locs = P.locs ++ L ∧ B.cells = P.cells + 1 ∧ B.slots = P.slots + cs.length) := by
  obtain ⟨A, K1, K2, K3, K4, K5, K6⟩ := K
  have e : A.slots.size = cs.length := K3.trans hlen
  have hat : ∀ (i : Nat) (hi : i < cs.length), A.slots[i]? = some (.int cs[i]) := fun i hi => by rw [K5 i (by omega)]; simp [List.getD_eq_getElem?_getD, hi]
  have hcv : ∀ (i : Nat) (hi : i < cs.length), cv A i = cs[i] := fun i hi => by unfold cv; rw [hat i hi]
  have hty : Typed .char A := fun i v hv => by
    have hi : i < A.slots.size := (Array.getElem?_eq_some_iff.mp hv).1
    have q := K5 i hi
    rw [hv] at q
    rw [Option.some.inj q]
    exact K6 i hi
  refine Back.mono (back hZ hw wi E V C K1 hty S hz (by omega) (by omega) (fun i hi => by rw [hcv i (by omega)]; exact hall _ (List.getElem_mem _)) hfr hlo) (fun P a hp => ⟨hp.1, hp.2.1, hp.2.2.1, by rw [e]; exact hp.2.2.2⟩) (fun P a v B hp hq => ?_)
  obtain ⟨L, ⟨q1, q2, q3, q4, q5, q6, q7, ⟨V', v1, v2, v3, v4, v5⟩, q9⟩, hl, hc, hs⟩ := hq
  refine ⟨L, ⟨q1, q2, q3, q4, q5, q6, q7, ⟨V'.cls, v3, V', v1, rfl, by rw [v4, e, hlen], K4, fun i hi => ?_, fun i hi => ?_⟩, q9⟩, hl, hc, by rw [hs, e]⟩
  · have hi' : i < cs.length := by omega
    rw [v5 i (by omega), hcv i hi']; simp [List.getD_eq_getElem?_getD, hi']
  · have hi' : i < cs.length := by omega
    simp only [List.getD_eq_getElem?_getD, List.getElem?_map, List.getElem?_eq_getElem hi', Option.map_some, Option.getD_some]
    exact fits_lo8 _
end StrChars.Road
namespace StrChars.Road
open Jvm Sem ClassFile Op Lib Jvm.Stand Jvm.Free Jvm.Free.XT
/-- WHAT COMES BACK, in the writer's own shape -/
def QV (Z : State) (x : Addr) (N : Int32) (bs : List Int32) (h : Heap) (n0 : Nat) (v : Option Value) (h' : Heap) (L : List Loc) : Prop := v = none ∧ RoadKit.Fr n0 L ∧ RoadKit.Keep h h' [x] ∧ RoadKit.Exa Z h' x ST ∧ RoadKit.Fld Z h' x ST "coder" "B" (.int 0) ∧
  ∃ (t : Addr) (kb : ClassId), n0 ≤ t ∧ h.size ≤ t ∧ ¬ t = x ∧ RoadKit.Fld Z h' x ST "value" "[B" (.ref t) ∧ RoadKit.Arv Z h' t kb .byte N (bs.map Value.int) (.int 0)
/-- **new String(chars) AT A CALL, FOR THE WRITER**: a char[] of n known ints, each 0 to 255 -/
theorem backV {p : Program} {l : Launch} {e : Env} {R : Room} {s : State} {args : Array Value} {below : List Frame} {len W : Nat} {Z : State} {a0 : Array Value} {h : Heap} (hZ : Z.Warmed39 s.vm) (hw : ∀ d ∈ words, d.before a0 Z = true) {kI : Nat} (wi : (Jvm.Cond.instantiable ST kI).before a0 Z = true)
    {x b : Addr} {kC : ClassId} {cs bs : List Int32} {d v0 c0 : Value} {z N : Int32} {n n0 : Nat} (hx0 : n0 ≤ x) (hh0 : n0 ≤ h.size) (E : RoadKit.Exa Z h x ST) (V : RoadKit.Fld Z h x ST "value" "[B" v0) (C : RoadKit.Fld Z h x ST "coder" "B" c0) (K : RoadKit.Arv Z h b kC .char N (cs.map Value.int) d) (S : RoadKit.Sta Z h ST "COMPACT_STRINGS" "Z" (.int z)) (hz : ¬ z = 0)
    (hn : cs.length = n) (hN : N = Int32.ofNat n) (l0 : 0 < n) (l2 : n ≤ 4000) (hp : ∀ c ∈ cs, ¬ c < 0 ∧ ¬ (255 : Int32) < c) (hb : bs = cs.map (fun c => c.toInt8.toInt32)) (hfr : 4 ≤ R.frames) (hlo : W + 65 ≤ R.locals) :
    Back l R p e below s args (⟨"java/lang/String", "<init>", "([C)V"⟩ : MethodName) len W (fun P a => a = #[.ref x, .ref b] ∧ P.U.heap = h ∧ P.cells + 1 ≤ R.cells ∧ P.slots + n ≤ R.slots)
      (fun P _ v B => ∃ L, QV Z x N bs h n0 v B.U.heap L ∧ B.locs = P.locs ++ L ∧ B.cells = P.cells + 1 ∧ B.slots = P.slots + n) := by
  subst hn hN hb
  refine Back.mono (backArv hZ hw wi E V C K S hz (n32 (by omega)) l0 (by omega) (fun c hc => (hp c hc).2) hfr hlo) (fun P a hp => hp) (fun P a v B hp hq => ?_)
  obtain ⟨L, ⟨q1, q2, q3, q4, q5, q6, q7, ⟨kb, v1, v2⟩, q9⟩, hl, hc, hs⟩ := hq
  exact ⟨L, ⟨q1, fun y hy => by rw [q2 y hy]; exact hx0, q3, q5, q7, h.size, kb, hh0, Nat.le_refl _, Nat.ne_of_gt E.lt, q6, by rw [List.map_map]; exact v2⟩, hl, hc, hs⟩
end StrChars.Road
namespace StrChars
open Jvm Sem ClassFile Op Lib Jvm.Stand Jvm.Free.XT Jvm.Free.ALB Jvm.Free.JM Jvm.Free
open Jvm.Lib.Cold (StaticIs)
def hi8 (x : Int32) : Int32 := lo8 (x >>> ((8 : Int32) &&& 31))
/-- what StringUTF16.getChar makes of two bytes -/
def pairCh (u v : Int32) : Int32 := (((u &&& 255) <<< ((0 : Int32) &&& 31)) ||| ((v &&& 255) <<< ((8 : Int32) &&& 31))).toUInt32.toUInt16.toUInt32.toInt32
theorem shr0 (c : Int32) : c >>> ((0 : Int32) &&& 31) = c := by
  have e : ((0 : Int32) &&& 31) = 0 := by decide
  rw [e]
  apply Int32.toBitVec_inj.mp
  rw [Int32.toBitVec_shiftRight]
  have e1 : ((0 : Int32).toBitVec.smod 32) = 0#32 := by decide
  rw [e1, BitVec.sshiftRight_eq']
  exact BitVec.sshiftRight_zero
theorem lo8_and (x : Int32) : (lo8 x &&& 255).toBitVec.toNat = x.toBitVec.toNat % 256 := by
  have h : (lo8 x).toBitVec = (x.toBitVec.signExtend 8).signExtend 32 := by rw [lo8, Int8.toBitVec_toInt32, Int32.toBitVec_toInt8]
  rw [Int32.toBitVec_and, BitVec.toNat_and, h]
  have e : ((x.toBitVec.signExtend 8).signExtend 32).toNat % 256 = x.toBitVec.toNat % 256 := by
    rw [BitVec.toNat_signExtend]
    have hlt := x.toBitVec.isLt
    simp only [BitVec.toNat_setWidth, BitVec.toNat_signExtend]
    split <;> split <;> omega
  rw [← e]
  exact Nat.and_two_pow_sub_one_eq_mod _ 8
theorem pair_says {c : Int32} (h0 : ¬ c < 0) (h1 : ¬ 65535 < c) : pairCh (lo8 c) (hi8 c) = c := by
  rw [Int32.lt_iff_toInt_lt] at h0 h1
  have e0 : (0 : Int32).toInt = 0 := rfl
  have e1 : (65535 : Int32).toInt = 65535 := rfl
  have hc : c.toInt = c.toBitVec.toNat := by
    have := c.toBitVec.isLt
    have e : c.toInt = c.toBitVec.toInt := rfl
    rw [e] at h0 h1
    rw [e]
    rw [BitVec.toInt_eq_toNat_cond] at h0 h1 ⊢
    split at h0 <;> split <;> omega
  have hn : c.toBitVec.toNat < 65536 := by omega
  have a1 := lo8_and c
  have a2 : (hi8 c &&& 255).toBitVec.toNat = c.toBitVec.toNat / 256 := by
    rw [hi8, lo8_and]
    have e : ((8 : Int32) &&& 31) = 8 := by decide
    rw [e, Int32.toBitVec_shiftRight]
    have e2 : ((8 : Int32).toBitVec.smod 32) = 8#32 := by decide
    rw [e2, BitVec.sshiftRight_eq', BitVec.toNat_sshiftRight_of_msb_false (by rw [BitVec.msb_eq_false_iff_two_mul_lt]; omega)]
    show c.toBitVec.toNat >>> 8 % 256 = _
    rw [Nat.shiftRight_eq_div_pow]
    omega
  unfold pairCh
  apply Int32.toBitVec_inj.mp
  apply BitVec.eq_of_toNat_eq
  have f0 : ((0 : Int32) &&& 31) = 0 := by decide
  have f8 : ((8 : Int32) &&& 31) = 8 := by decide
  rw [f0, f8]
  have g : (((lo8 c &&& 255) <<< (0 : Int32)) ||| ((hi8 c &&& 255) <<< (8 : Int32))).toBitVec.toNat = c.toBitVec.toNat := by
    rw [Int32.toBitVec_or, Int32.toBitVec_shiftLeft, Int32.toBitVec_shiftLeft]
    have s0 : ((0 : Int32).toBitVec.smod 32) = 0#32 := by decide
    have s8 : ((8 : Int32).toBitVec.smod 32) = 8#32 := by decide
    rw [s0, s8, BitVec.toNat_or]
    simp only [BitVec.shiftLeft_eq', BitVec.toNat_shiftLeft, a1, a2]
    show (c.toBitVec.toNat % 256) <<< 0 % 2 ^ 32 ||| (c.toBitVec.toNat / 256) <<< 8 % 2 ^ 32 = _
    rw [Nat.shiftLeft_zero, Nat.mod_eq_of_lt (show c.toBitVec.toNat % 256 < 2 ^ 32 by omega), Nat.mod_eq_of_lt (show (c.toBitVec.toNat / 256) <<< 8 < 2 ^ 32 by rw [Nat.shiftLeft_eq]; omega), Nat.or_comm, ← Nat.shiftLeft_add_eq_or_of_lt (by omega), Nat.shiftLeft_eq]
    omega
  show BitVec.toNat (((((lo8 c &&& 255) <<< (0 : Int32)) ||| ((hi8 c &&& 255) <<< (8 : Int32))).toBitVec.setWidth 16).setWidth 32) = _
  rw [BitVec.toNat_setWidth, BitVec.toNat_setWidth, g]
  omega
end StrChars
namespace StrChars
open Jvm Sem ClassFile Op Lib Jvm.Stand Jvm.Free.XT Jvm.Free.ALB Jvm.Free.JM Jvm.Free
open Jvm.Lib.Cold (StaticIs)
theorem shr1 {n : Nat} (h : 2 * n < 2 ^ 31) : Int32.ofNat (2 * n) >>> ((1 : Int32) &&& 31) = Int32.ofNat n := by
  have e : ((1 : Int32) &&& 31) = 1 := by decide
  rw [e]
  apply Int32.toBitVec_inj.mp
  rw [Int32.toBitVec_shiftRight]
  have e1 : ((1 : Int32).toBitVec.smod 32) = 1#32 := by decide
  have hm : (BitVec.ofNat 32 (2 * n)).toNat = 2 * n := by rw [BitVec.toNat_ofNat, Nat.mod_eq_of_lt (by omega)]
  rw [e1, BitVec.sshiftRight_eq']
  apply BitVec.eq_of_toNat_eq
  show ((BitVec.ofNat 32 (2 * n)).sshiftRight 1).toNat = (BitVec.ofNat 32 n).toNat
  rw [BitVec.toNat_sshiftRight_of_msb_false (by rw [BitVec.msb_eq_false_iff_two_mul_lt, hm]; omega), hm, BitVec.toNat_ofNat, Nat.shiftRight_eq_div_pow]
  omega
/-- charAt's cast of a byte read back -/
def chr8 (u : Int32) : Int32 := (u &&& 255).toUInt32.toUInt16.toUInt32.toInt32
theorem chr8_lo8 {c : Int32} (h0 : ¬ c < 0) (h1 : ¬ 255 < c) : chr8 (lo8 c) = c := by
  have t : ∀ k : Fin 256, (Int32.ofNat k.val).toUInt32.toUInt16.toUInt32.toInt32 = Int32.ofNat k.val := by decide +kernel
  unfold chr8
  rw [lo8_mask h0 h1]
  rw [Int32.lt_iff_toInt_lt] at h0 h1
  have e0 : (0 : Int32).toInt = 0 := rfl
  have e1 : (255 : Int32).toInt = 255 := rfl
  obtain ⟨k, hk⟩ : ∃ k : Nat, c.toInt = k := ⟨c.toInt.toNat, by omega⟩
  have hx : c = Int32.ofNat k := Int32.toInt_inj.mp (by rw [hk, Int32.toInt_ofNat_small (by omega)])
  rw [hx]
  exact t ⟨k, by omega⟩
theorem narrow_ch {c : Int32} (h0 : ¬ c < 0) (h1 : ¬ 65535 < c) : narrow .char (.int c) = .int c := by
  have q : narrow .char (.int (pairCh (lo8 c) (hi8 c))) = .int (pairCh (lo8 c) (hi8 c)) := narrow_c _
  rwa [pair_says h0 h1] at q
/-- the array's cell V codes the n chars f 0 .. f (n - 1) by the coder cd, as the JDK does: coder 1 just where some char is above 255 -/
def Cod (cd : Int32) (n : Nat) (f : Nat → Int32) (V : Cell) : Prop := (cd = 0 ∧ V.slots.size = n ∧ ∀ j, j < n → V.slots[j]? = some (.int (lo8 (f j))) ∧ ¬ 255 < f j) ∨ (cd = 1 ∧ V.slots.size = 2 * n ∧ (∀ j, j < n → V.slots[2 * j]? = some (.int (lo8 (f j))) ∧ V.slots[2 * j + 1]? = some (.int (hi8 (f j)))) ∧ ∃ j, j < n ∧ 255 < f j)
theorem Cod.cd {cd : Int32} {n : Nat} {f : Nat → Int32} {V : Cell} (h : Cod cd n f V) : cd = 0 ∨ cd = 1 := h.imp (fun q => q.1) fun q => q.1
theorem Cod.len {cd : Int32} {n : Nat} {f : Nat → Int32} {V : Cell} (h : Cod cd n f V) (hs : V.slots.size < 2 ^ 31) : Int32.ofNat V.slots.size >>> (cd &&& 31) = Int32.ofNat n := by
  rcases h with ⟨rfl, h, -⟩ | ⟨rfl, h, -⟩
  · rw [shr0, h]
  · rw [h, shr1 (by omega)]
/-- **x is a String of the n chars f 0 .. f (n - 1)**, Latin-1 or UTF-16; its array at t has the cell V -/
def Txt (x t : Addr) (V : Cell) (cd : Int32) (n : Nat) (f : Nat → Int32) (U : State) : Prop := Exact "java/lang/String" x U ∧ Has x "java/lang/String" "value" "[B" (.ref t) U ∧ Has x "java/lang/String" "coder" "B" (.int cd) U ∧ XT.Arr .byte t V U ∧ Cod cd n f V ∧ ∀ j, j < n → ¬ f j < 0 ∧ ¬ 65535 < f j
theorem Txt.mv {x t : Addr} {V : Cell} {cd : Int32} {n : Nat} {f : Nat → Int32} {U U' : State} (h : Txt x t V cd n f U) (hal : U.vm.Alike U'.vm) (hh : U'.heap = U.heap) : Txt x t V cd n f U' := ⟨h.1.mv hal hh, h.2.1.mv hal hh, h.2.2.1.mv hal hh, h.2.2.2.1.mv hal hh, h.2.2.2.2⟩
namespace Cdr
def yN : MethodName := ⟨"java/lang/String", "coder", "()B"⟩
abbrev yB : ByteArray := jdk_42_method_152_code
theorem d0 : decode yB 0 = .ok (.getstatic 38, 3) := by decide +kernel
theorem d3 : decode yB 3 = .ok (.ifCond (.eq) 10, 3) := by decide +kernel
theorem d6 : decode yB 6 = .ok (.aload_n 0, 1) := by decide +kernel
theorem d7 : decode yB 7 = .ok (.getfield 15, 3) := by decide +kernel
theorem d10 : decode yB 10 = .ok (.goto 4, 3) := by decide +kernel
theorem d14 : decode yB 14 = .ok (.ireturn, 1) := by decide +kernel
def site : List Cond := [.fieldLink "java/lang/String" 38 "java/lang/String" "COMPACT_STRINGS" "Z", .fieldLink "java/lang/String" 15 "java/lang/String" "coder" "B"]
def tab : Cond := tabOf yN yB 1 (some .byte) site
def P (x : Addr) (cd z : Int32) (args : Array Value) (s : State) : Prop := args = #[.ref x] ∧ Has x "java/lang/String" "coder" "B" (.int cd) s ∧ (cd = 0 ∨ cd = 1) ∧ StaticIs s "java/lang/String" "COMPACT_STRINGS" "Z" (.int z) ∧ ¬ z = 0
def E (cd : Int32) (r : Option Value) (s u : State) : Prop := XT.PureE (some (.int cd)) r s u
theorem law (l : Launch) (x : Addr) (cd z : Int32) : Law l yN 1 0 0 0 yB 1 (some .byte) site (P x cd z) (E cd) [] 0 0 := by
  refine Law.of_walk (plainFor_of_name (by decide +kernel)) (by decide +kernel) (by decide +kernel) (by decide) (fun _ _ h => by rw [h.1]; rfl) (fun _ U U' hal hh h => ⟨h.1, h.2.1.mv hal hh, h.2.2.1, h.2.2.2.1.there hal hh, h.2.2.2.2⟩) (fun r U U' V V' h1 hal h2 h => XT.PureE.mv r U U' V V' h1 hal h2 h) ?_
  intro p e s m args below meth c s₁ X0 hexec hbytes hml hret hlk hnm hown hh0 W hP
  obtain ⟨rfl, hx, hc, s1, hz⟩ := hP
  have c1 : Steps p.tables e below (s₁.setTop (entryFrame m #[.ref x] 1)) (s₁.setTop (mkF m 0 #[.val (.ref x)] [])) := entry rfl
  obtain ⟨T2, X2, q2, st2⟩ := X0.sget hexec hown (wk W (.fieldLink "java/lang/String" 38 "java/lang/String" "COMPACT_STRINGS" "Z")) s1 (fun _ _ h => by rw [hh0]; exact h) (g := (mkF m 0 #[.val (.ref x)] [])) rfl (hb hbytes d0)
  have hh2 := q2.trans hh0
  have c3 : Steps p.tables e below (s₁.setTop (entryFrame m #[.ref x] 1)) (T2.setTop (mkF m 7 #[.val (.ref x)] [.ref x])) := (c1.trans (st2 _ (Steps.refl _))).trans (by
    refine XS.ifNo X2.here hexec rfl (hb hbytes d3) rfl (i0_eq_f hz) ?_
    refine XS.aloadN X2.here hexec rfl (hb hbytes d6) rfl rfl ?_
    exact Steps.refl _)
  obtain ⟨T4, X4, q4, st4⟩ := X2.hget hexec hown (wk W (.fieldLink "java/lang/String" 15 "java/lang/String" "coder" "B")) (hx.mv X2.warmed.alike hh2) (g := (mkF m 7 #[.val (.ref x)] [.ref x])) rfl (rest := []) rfl (hb hbytes d7)
  have c5 : Steps p.tables e below (s₁.setTop (entryFrame m #[.ref x] 1)) (T4.setTop (mkF m 14 #[.val (.ref x)] [.int cd])) := (c3.trans (st4 _ (Steps.refl _))).trans (by
    refine XS.goto X4.here hexec rfl (pc0 := 10) rfl (hb hbytes d10) (by decide) rfl ?_
    exact Steps.refl _)
  exact ⟨T4, some (.int cd), _, _, _, X4, rfl, rfl, rfl, (fun h => by cases h), ⟨rfl, q4.trans hh2⟩, fun fs hl => c5.trans (X4.ireturnOut hexec hret (by rcases hc with rfl | rfl <;> rfl) (Or.inr (Or.inr (Or.inl rfl))) (hb hbytes d14) hl)⟩
end Cdr
namespace Len
def yN : MethodName := ⟨"java/lang/String", "length", "()I"⟩
abbrev yB : ByteArray := jdk_42_method_54_code
theorem d0 : decode yB 0 = .ok (.aload_n 0, 1) := by decide +kernel
theorem d1 : decode yB 1 = .ok (.getfield 9, 3) := by decide +kernel
theorem d4 : decode yB 4 = .ok (.arraylength, 1) := by decide +kernel
theorem d5 : decode yB 5 = .ok (.aload_n 0, 1) := by decide +kernel
theorem d6 : decode yB 6 = .ok (.invokevirtual 335, 3) := by decide +kernel
theorem d9 : decode yB 9 = .ok (.ishr, 1) := by decide +kernel
theorem d10 : decode yB 10 = .ok (.ireturn, 1) := by decide +kernel
def site : List Cond := [.fieldLink "java/lang/String" 9 "java/lang/String" "value" "[B", Cdr.tab] ++ virtW "java/lang/String" 335 "java/lang/String" Cdr.yN Cdr.yN
def tab : Cond := tabOf yN yB 1 (some .int) site
def P (x t : Addr) (V : Cell) (cd : Int32) (n : Nat) (f : Nat → Int32) (z : Int32) (args : Array Value) (s : State) : Prop := args = #[.ref x] ∧ Txt x t V cd n f s ∧ StaticIs s "java/lang/String" "COMPACT_STRINGS" "Z" (.int z) ∧ ¬ z = 0
def E (n : Nat) (r : Option Value) (s u : State) : Prop := XT.PureE (some (.int (Int32.ofNat n))) r s u
/-- length() of a String of n chars, in either coding -/
theorem law (l : Launch) (x t : Addr) (V : Cell) (cd : Int32) (n : Nat) (f : Nat → Int32) (z : Int32) : Law l yN 1 0 1 13 yB 1 (some .int) site (P x t V cd n f z) (E n) [] 0 0 := by
  refine Law.of_walk (plainFor_of_name (by decide +kernel)) (by decide +kernel) (by decide +kernel) (by decide) (fun _ _ h => by rw [h.1]; rfl) (fun _ U U' hal hh h => ⟨h.1, h.2.1.mv hal hh, h.2.2.1.there hal hh, h.2.2.2⟩) (fun r U U' V V' h1 hal h2 h => XT.PureE.mv r U U' V V' h1 hal h2 h) ?_
  intro p e s m args below meth c s₁ X0 hexec hbytes hml hret hlk hnm hown hh0 W hP
  obtain ⟨rfl, hx, s1, hz⟩ := hP
  have v31 := hx.2.2.2.1.2.2.2
  have c1 : Steps p.tables e below (s₁.setTop (entryFrame m #[.ref x] 1)) (s₁.setTop (mkF m 1 #[.val (.ref x)] [.ref x])) := Steps.trans (entry rfl) (by
    show Steps p.tables e below (s₁.setTop (mkF m 0 #[.val (.ref x)] [])) _
    refine XS.aloadN X0.here hexec rfl (hb hbytes d0) rfl rfl ?_
    exact Steps.refl _)
  obtain ⟨T2, X2, q2, st2⟩ := X0.hget hexec hown (wk W (.fieldLink "java/lang/String" 9 "java/lang/String" "value" "[B")) (hx.mv X0.warmed.alike hh0).2.1 (g := (mkF m 1 #[.val (.ref x)] [.ref x])) rfl (rest := []) rfl (hb hbytes d1)
  have hh2 := q2.trans hh0
  have hx2 := hx.mv X2.warmed.alike hh2
  have c3 : Steps p.tables e below (s₁.setTop (entryFrame m #[.ref x] 1)) (T2.setTop (mkF m 6 #[.val (.ref x)] [.ref x, .int (Int32.ofNat V.slots.size)])) := (c1.trans (st2 _ (Steps.refl _))).trans (by
    refine X2.alen hexec hx2.2.2.2.1 rfl rfl (hb hbytes d4) ?_
    refine XS.aloadN X2.here hexec rfl (hb hbytes d5) rfl rfl ?_
    exact Steps.refl _)
  obtain ⟨v4, T4, X4, E4, g4⟩ := X2.callV hexec (Cdr.law l x cd z) hown (wks W (virtW "java/lang/String" 335 "java/lang/String" Cdr.yN Cdr.yN)) rfl (by decide) (wk W Cdr.tab) (W := 1) (Nat.le_of_ble_eq_true rfl) (Nat.le_of_ble_eq_true rfl) (Nat.le_refl _) (Nat.le_refl _) (hx2.1.fc X2.warmed.alike) hx2.1.is (g := (mkF m 6 #[.val (.ref x)] [.ref x, .int (Int32.ofNat V.slots.size)])) rfl (by rw [hml]; rfl) c3 (argsL := []) (rest := [.int (Int32.ofNat V.slots.size)]) rfl rfl (by show 2 * 0 + (1 + 0) ≤ _; decide) (hb hbytes d6) (⟨rfl, hx2.2.2.1, hx.2.2.2.2.1.cd, s1.there X2.warmed.alike hh2, hz⟩)
  obtain ⟨rfl, q4⟩ := E4
  have c5 : Steps p.tables e below (s₁.setTop (entryFrame m #[.ref x] 1)) (T4.setTop (mkF m 10 #[.val (.ref x)] [.int (Int32.ofNat V.slots.size >>> (cd &&& 31))])) := Steps.trans g4 (by
    refine ishr X4.here hexec rfl (hb hbytes d9) rfl ?_
    exact Steps.refl _)
  rw [hx.2.2.2.2.1.len v31] at c5
  exact ⟨T4, some (.int (Int32.ofNat n)), _, _, _, X4, rfl, rfl, rfl, (fun h => by cases h), ⟨rfl, q4.trans hh2⟩, fun fs hl => c5.trans (X4.ireturnOut hexec hret rfl (Or.inl rfl) (hb hbytes d10) hl)⟩
theorem pays {l : Launch} {R : Room} {p : Program} {e : Env} {below : List Frame} {s : State} {sargs : Array Value} {len W : Nat} (x t : Addr) (V : Cell) (cd : Int32) (n : Nat) (f : Nat → Int32) (z : Int32) (htab : tab.before sargs s = true) (hfr : 2 ≤ R.frames) (hlo : W + 25 ≤ R.locals) :
    Back l R p e below s sargs yN len W (fun A₁ a₁ => A₁.cells + 0 ≤ R.cells ∧ A₁.slots + 0 ≤ R.slots ∧ P x t V cd n f z a₁ A₁.U) (fun A₁ _ v₁ B₁ => E n v₁ A₁.U B₁.U ∧ B₁.locs = A₁.locs ++ [] ∧ B₁.cells = A₁.cells + 0 ∧ B₁.slots = A₁.slots + 0) :=
  (law l x t V cd n f z).pays htab hfr (by omega)
end Len
namespace IsL
def yN : MethodName := ⟨"java/lang/String", "isLatin1", "()Z"⟩
abbrev yB : ByteArray := jdk_42_method_154_code
theorem d0 : decode yB 0 = .ok (.getstatic 38, 3) := by decide +kernel
theorem d3 : decode yB 3 = .ok (.ifCond (.eq) 14, 3) := by decide +kernel
theorem d6 : decode yB 6 = .ok (.aload_n 0, 1) := by decide +kernel
theorem d7 : decode yB 7 = .ok (.getfield 15, 3) := by decide +kernel
theorem d10 : decode yB 10 = .ok (.ifCond (.ne) 7, 3) := by decide +kernel
theorem d13 : decode yB 13 = .ok (.iconst 1, 1) := by decide +kernel
theorem d14 : decode yB 14 = .ok (.goto 4, 3) := by decide +kernel
theorem d17 : decode yB 17 = .ok (.iconst 0, 1) := by decide +kernel
theorem d18 : decode yB 18 = .ok (.ireturn, 1) := by decide +kernel
def site : List Cond := [.fieldLink "java/lang/String" 38 "java/lang/String" "COMPACT_STRINGS" "Z", .fieldLink "java/lang/String" 15 "java/lang/String" "coder" "B"]
def tab : Cond := tabOf yN yB 1 (some .boolean) site
def P (x : Addr) (cd z : Int32) (args : Array Value) (s : State) : Prop := args = #[.ref x] ∧ Has x "java/lang/String" "coder" "B" (.int cd) s ∧ (cd = 0 ∨ cd = 1) ∧ StaticIs s "java/lang/String" "COMPACT_STRINGS" "Z" (.int z) ∧ ¬ z = 0
def E (cd : Int32) (r : Option Value) (s u : State) : Prop := XT.PureE (some (.int (1 - cd))) r s u
theorem law (l : Launch) (x : Addr) (cd z : Int32) : Law l yN 1 0 0 0 yB 1 (some .boolean) site (P x cd z) (E cd) [] 0 0 := by
  refine Law.of_walk (plainFor_of_name (by decide +kernel)) (by decide +kernel) (by decide +kernel) (by decide) (fun _ _ h => by rw [h.1]; rfl) (fun _ U U' hal hh h => ⟨h.1, h.2.1.mv hal hh, h.2.2.1, h.2.2.2.1.there hal hh, h.2.2.2.2⟩) (fun r U U' V V' h1 hal h2 h => XT.PureE.mv r U U' V V' h1 hal h2 h) ?_
  intro p e s m args below meth c s₁ X0 hexec hbytes hml hret hlk hnm hown hh0 W hP
  obtain ⟨rfl, hx, hc, s1, hz⟩ := hP
  have c1 : Steps p.tables e below (s₁.setTop (entryFrame m #[.ref x] 1)) (s₁.setTop (mkF m 0 #[.val (.ref x)] [])) := entry rfl
  obtain ⟨T2, X2, q2, st2⟩ := X0.sget hexec hown (wk W (.fieldLink "java/lang/String" 38 "java/lang/String" "COMPACT_STRINGS" "Z")) s1 (fun _ _ h => by rw [hh0]; exact h) (g := (mkF m 0 #[.val (.ref x)] [])) rfl (hb hbytes d0)
  have hh2 := q2.trans hh0
  have c3 : Steps p.tables e below (s₁.setTop (entryFrame m #[.ref x] 1)) (T2.setTop (mkF m 7 #[.val (.ref x)] [.ref x])) := (c1.trans (st2 _ (Steps.refl _))).trans (by
    refine XS.ifNo X2.here hexec rfl (hb hbytes d3) rfl (i0_eq_f hz) ?_
    refine XS.aloadN X2.here hexec rfl (hb hbytes d6) rfl rfl ?_
    exact Steps.refl _)
  obtain ⟨T4, X4, q4, st4⟩ := X2.hget hexec hown (wk W (.fieldLink "java/lang/String" 15 "java/lang/String" "coder" "B")) (hx.mv X2.warmed.alike hh2) (g := (mkF m 7 #[.val (.ref x)] [.ref x])) rfl (rest := []) rfl (hb hbytes d7)
  have c5 : Steps p.tables e below (s₁.setTop (entryFrame m #[.ref x] 1)) (T4.setTop (mkF m 10 #[.val (.ref x)] [.int cd])) := c3.trans (st4 _ (Steps.refl _))
  have c6 : Steps p.tables e below (s₁.setTop (entryFrame m #[.ref x] 1)) (T4.setTop (mkF m 18 #[.val (.ref x)] [.int (1 - cd)])) := by
    rcases hc with rfl | rfl
    · exact c5.trans (by
        refine XS.ifNo X4.here hexec rfl (hb hbytes d10) rfl (i0_ne_f rfl) ?_
        refine iconstV X4.here hexec rfl 1 (hb hbytes d13) (by decide) ?_
        refine XS.goto X4.here hexec rfl (pc0 := 14) rfl (hb hbytes d14) (by decide) rfl ?_
        exact Steps.refl _)
    · exact c5.trans (by
        refine XS.ifYes X4.here hexec rfl (pc0 := 10) rfl (hb hbytes d10) rfl (i0_ne_t (by decide)) (by decide) rfl ?_
        refine iconstV X4.here hexec rfl 0 (hb hbytes d17) (by decide) ?_
        exact Steps.refl _)
  exact ⟨T4, some (.int (1 - cd)), _, _, _, X4, rfl, rfl, rfl, (fun h => by cases h), ⟨rfl, q4.trans hh2⟩, fun fs hl => c6.trans (X4.ireturnOut hexec hret (by rcases hc with rfl | rfl <;> rfl) (Or.inr (Or.inl rfl)) (hb hbytes d18) hl)⟩
end IsL
namespace LChA
def yN : MethodName := ⟨"java/lang/StringLatin1", "charAt", "([BI)C"⟩
abbrev yB : ByteArray := jdk_43_method_2_code
theorem d0 : decode yB 0 = .ok (.iload_n 1, 1) := by decide +kernel
theorem d1 : decode yB 1 = .ok (.aload_n 0, 1) := by decide +kernel
theorem d2 : decode yB 2 = .ok (.arraylength, 1) := by decide +kernel
theorem d3 : decode yB 3 = .ok (.invokestatic 9, 3) := by decide +kernel
theorem d6 : decode yB 6 = .ok (.aload_n 0, 1) := by decide +kernel
theorem d7 : decode yB 7 = .ok (.iload_n 1, 1) := by decide +kernel
theorem d8 : decode yB 8 = .ok (.baload, 1) := by decide +kernel
theorem d9 : decode yB 9 = .ok (.sipush 255, 3) := by decide +kernel
theorem d12 : decode yB 12 = .ok (.iand, 1) := by decide +kernel
theorem d13 : decode yB 13 = .ok (.i2c, 1) := by decide +kernel
theorem d14 : decode yB 14 = .ok (.ireturn, 1) := by decide +kernel
def site : List Cond := [JO.Str_checkIndex.tab] ++ staticW "java/lang/StringLatin1" 9 JO.Str_checkIndex.yN
def tab : Cond := tabOf yN yB 2 (some .char) site
def P (t : Addr) (V : Cell) (i : Nat) (u : Int32) (fm : Value) (args : Array Value) (s : State) : Prop := args = #[.ref t, .int (Int32.ofNat i)] ∧ XT.Arr .byte t V s ∧ V.slots[i]? = some (.int u) ∧ (StaticIs s "jdk/internal/util/Preconditions" "SIOOBE_FORMATTER" "Ljava/util/function/BiFunction;" fm ∧ fm.isRef = true)
def E (u : Int32) (r : Option Value) (s w : State) : Prop := XT.PureE (some (.int (chr8 u))) r s w
theorem law (l : Launch) (t : Addr) (V : Cell) (i : Nat) (u : Int32) (fm : Value) : Law l yN 2 2 2 27 yB 2 (some .char) site (P t V i u fm) (E u) [] 0 0 := by
  refine Law.of_walk (plainFor_of_name (by decide +kernel)) (by decide +kernel) (by decide +kernel) (by decide) (fun _ _ h => by rw [h.1]; rfl) (fun _ U U' hal hh h => ⟨h.1, h.2.1.mv hal hh, h.2.2.1, h.2.2.2.1.there hal hh, h.2.2.2.2⟩) (fun r U U' V V' h1 hal h2 h => XT.PureE.mv r U U' V V' h1 hal h2 h) ?_
  intro p e s m args below meth c s₁ X0 hexec hbytes hml hret hlk hnm hown hh0 W hP
  obtain ⟨rfl, hV, hu, s1, rf⟩ := hP
  have v31 := hV.2.2.2
  have hi : i < V.slots.size := (Array.getElem?_eq_some_iff.mp hu).1
  have c1 : Steps p.tables e below (s₁.setTop (entryFrame m #[.ref t, .int (Int32.ofNat i)] 2)) (s₁.setTop (mkF m 0 #[.val (.ref t), .val (.int (Int32.ofNat i))] [])) := entry rfl
  have c2 : Steps p.tables e below (s₁.setTop (entryFrame m #[.ref t, .int (Int32.ofNat i)] 2)) (s₁.setTop (mkF m 3 #[.val (.ref t), .val (.int (Int32.ofNat i))] [.int (Int32.ofNat V.slots.size), .int (Int32.ofNat i)])) := c1.trans (by
    refine XS.iloadN X0.here hexec rfl (hb hbytes d0) rfl ?_
    refine XS.aloadN X0.here hexec rfl (hb hbytes d1) rfl rfl ?_
    refine X0.alen hexec (hV.mv X0.warmed.alike hh0) rfl rfl (hb hbytes d2) ?_
    exact Steps.refl _)
  obtain ⟨v3, T3, X3, E3, g3⟩ := X0.callS hexec (JO.Str_checkIndex.law l (Int32.ofNat i) (Int32.ofNat V.slots.size) fm) hown (wks W (staticW "java/lang/StringLatin1" 9 JO.Str_checkIndex.yN)) (wk W JO.Str_checkIndex.tab) (W := 0) (Nat.le_of_ble_eq_true rfl) (Nat.le_of_ble_eq_true rfl) (Nat.le_refl _) (Nat.le_refl _) (g := (mkF m 3 #[.val (.ref t), .val (.int (Int32.ofNat i))] [.int (Int32.ofNat V.slots.size), .int (Int32.ofNat i)])) rfl (by rw [hml]; rfl) c2 (argsL := [.int (Int32.ofNat i), .int (Int32.ofNat V.slots.size)]) (rest := []) rfl rfl (by show 2 * 0 + 0 ≤ _; decide) (hb hbytes d3) (⟨rfl, rf, s1.there X0.warmed.alike hh0, Int32.ofNat_not_neg (by omega), lt32 v31 hi⟩)
  obtain ⟨rfl, q3⟩ := E3
  have hh3 := q3.trans hh0
  have c4 : Steps p.tables e below (s₁.setTop (entryFrame m #[.ref t, .int (Int32.ofNat i)] 2)) (T3.setTop (mkF m 14 #[.val (.ref t), .val (.int (Int32.ofNat i))] [.int (chr8 u)])) := Steps.trans g3 (by
    refine XS.aloadN X3.here hexec rfl (hb hbytes d6) rfl rfl ?_
    refine XS.iloadN X3.here hexec rfl (hb hbytes d7) rfl ?_
    refine X3.aget hexec (hV.mv X3.warmed.alike hh3) rfl hu rfl rfl (hb hbytes d8) ?_
    refine sipushV X3.here hexec rfl 255 (hb hbytes d9) (by decide) ?_
    refine XS.iand X3.here hexec rfl (hb hbytes d12) rfl ?_
    refine i2c X3.here hexec rfl (hb hbytes d13) rfl ?_
    exact Steps.refl _)
  exact ⟨T3, some (.int (chr8 u)), _, _, _, X3, rfl, rfl, rfl, (fun h => by cases h), ⟨rfl, hh3⟩, fun fs hl => c4.trans (X3.ireturnOut hexec hret (narrow_c _) (Or.inr (Or.inr (Or.inr (Or.inl rfl)))) (hb hbytes d14) hl)⟩
end LChA
end StrChars
namespace StrChars.Road
open Jvm Sem ClassFile Op Lib Jvm.Stand Jvm.Free Jvm.Free.XT
open Jvm.Lib.Cold (StaticIs)
theorem consq {a : Array Value} {s : State} {c : Jvm.Cond} {L : List Jvm.Cond} (h0 : c.before a s = true) (h : ∀ w ∈ L, w.before a s = true) : ∀ w ∈ c :: L, w.before a s = true := fun w hw => (List.mem_cons.mp hw).elim (fun e => e ▸ h0) (h w)
/-- the words of String.length(), either coding -/
abbrev wordsLen : List Jvm.Cond := [.code Len.yN Len.yB 1 (some .int), .initialized ST, .fieldLink ST 9 ST "value" "[B", .fieldLink ST 38 ST "COMPACT_STRINGS" "Z", .fieldLink ST 15 ST "coder" "B", .code Cdr.yN Cdr.yB 1 (some .byte), .methodLink ST 335 Cdr.yN, .declares Cdr.yN, .selects ST Cdr.yN Cdr.yN, .instanceMethod Cdr.yN]
theorem tabLen_of {a : Array Value} {s : State} (h : ∀ w ∈ wordsLen, w.before a s = true) : Len.tab.before a s = true := by
  have hc : Cdr.tab.before a s = true := unparts (wk h (.code Cdr.yN Cdr.yB 1 (some .byte))) (wks h (.initialized Cdr.yN.cls :: Cdr.site))
  have q := consq hc h
  exact unparts (wk q (.code Len.yN Len.yB 1 (some .int))) (wks q (.initialized Len.yN.cls :: Len.site))
theorem movedLen {Z s : State} {a0 args : Array Value} (hZ : Z.Warmed39 s.vm) (hw : ∀ d ∈ wordsLen, d.before a0 Z = true) : ∀ d ∈ wordsLen, d.before args s = true := fun d hd => by
  have q := hw d hd
  have t : ∀ d ∈ wordsLen, d = .arrayClass .byte ∨ (d.onTables && d.keepsFace) = true := by decide +kernel
  rcases t d hd with rfl | t
  · exact RoadKit.mvA hZ q
  · exact RoadKit.mv hZ q t
/-- the bytes of the chars cs, low before high -/
def wideBytes : List Int32 → List Value
  | [] => []
  | c :: cs => .int (lo8 c) :: .int (hi8 c) :: wideBytes cs
theorem wide_lo (d : Value) : ∀ (cs : List Int32) (j : Nat), j < cs.length → (wideBytes cs).getD (2 * j) d = .int (lo8 (cs.getD j 0))
  | [], j, h => absurd h (Nat.not_lt_zero j)
  | c :: cs, 0, _ => rfl
  | c :: cs, j + 1, h => by
    have q := wide_lo d cs j (by simpa using h)
    rw [show 2 * (j + 1) = 2 * j + 1 + 1 from by omega]
    simpa [wideBytes] using q
theorem wide_hi (d : Value) : ∀ (cs : List Int32) (j : Nat), j < cs.length → (wideBytes cs).getD (2 * j + 1) d = .int (hi8 (cs.getD j 0))
  | [], j, h => absurd h (Nat.not_lt_zero j)
  | c :: cs, 0, _ => rfl
  | c :: cs, j + 1, h => by
    have q := wide_hi d cs j (by simpa using h)
    rw [show 2 * (j + 1) + 1 = 2 * j + 1 + 1 + 1 from by omega]
    simpa [wideBytes] using q
theorem low_at (d : Value) (cs : List Int32) (j : Nat) (h : j < cs.length) : (cs.map fun c => Value.int (lo8 c)).getD j d = .int (lo8 (cs.getD j 0)) := by
  simp [List.getD_eq_getElem?_getD, h]
/-- an array of N2 bytes vs codes the chars cs by the coder cd -/
def CodA (cs : List Int32) (cd N2 : Int32) (vs : List Value) : Prop := (cd = 0 ∧ N2 = Int32.ofNat cs.length ∧ vs = (cs.map fun c => Value.int (lo8 c)) ∧ ∀ c ∈ cs, ¬ 255 < c) ∨ (cd = 1 ∧ N2 = Int32.ofNat (2 * cs.length) ∧ vs = wideBytes cs ∧ ∃ c ∈ cs, 255 < c)
theorem CodA.cod {cs : List Int32} {cd N2 : Int32} {vs : List Value} {V : Cell} (h : CodA cs cd N2 vs) (hn : 2 * cs.length < 2 ^ 31) (hs : V.slots.size = N2.toNatClampNeg) (hv : RoadKit.Has V vs (.int 0)) : Cod cd cs.length (fun j => cs.getD j 0) V := by
  rcases h with ⟨rfl, rfl, rfl, h⟩ | ⟨rfl, rfl, rfl, c, hc, hw⟩
  · rw [n32 (by omega)] at hs
    exact Or.inl ⟨rfl, hs, fun j hj => ⟨by rw [hv j (by omega), low_at _ _ _ hj], by
      have e : cs.getD j 0 = cs[j] := by simp [List.getD_eq_getElem?_getD, hj]
      show ¬ 255 < cs.getD j 0
      rw [e]; exact h _ (List.getElem_mem _)⟩⟩
  · rw [n32 (by omega)] at hs
    obtain ⟨j, hj, rfl⟩ := List.getElem_of_mem hc
    exact Or.inr ⟨rfl, hs, fun j hj => ⟨by rw [hv _ (by omega), wide_lo _ _ _ hj], by rw [hv _ (by omega), wide_hi _ _ _ hj]⟩, j, hj, by
      have e : cs.getD j 0 = cs[j] := by simp [List.getD_eq_getElem?_getD, hj]
      show 255 < cs.getD j 0
      rw [e]; exact hw⟩
/-- an object of exactly java/lang/String, its two fields found: as the laws ask it -/
theorem strObj {Z U : State} {a0 : Array Value} {kI : Nat} (wi : (Jvm.Cond.instantiable ST kI).before a0 Z = true) (al : Z.vm.Alike U.vm) {x : Addr} {v0 c0 : Value} (E : RoadKit.Exa Z U.heap x ST) (V : RoadKit.Fld Z U.heap x ST "value" "[B" v0) (C : RoadKit.Fld Z U.heap x ST "coder" "B" c0) :
    ∃ (D : Cell) (fV fC : Field), Blank ST x D U ∧ Found ST "value" "[B" fV U ∧ Found ST "coder" "B" fC U ∧ D.slots[fV.slot]? = some v0 ∧ D.slots[fC.slot]? = some c0 ∧ RoadKit.slotOf Z ST "value" "[B" = fV.slot ∧ RoadKit.slotOf Z ST "coder" "B" = fC.slot := by
  obtain ⟨D, cfV, kV, iV, fV, hD, gV, stV, knV, obV, asV, slV⟩ := V
  obtain ⟨D', cfC, kC, iC, fC, hD', gC, stC, -, -, asC, slC⟩ := C
  cases hD.symm.trans hD'
  obtain ⟨D2, kD, e1, e2, e3, e4, e5⟩ := E
  cases hD.symm.trans e1
  obtain ⟨c2, k2, i1, i2, i3, -⟩ := Cond.instantiable_spec wi
  cases e2.symm.trans i1
  cases e3.symm.trans i2
  obtain ⟨kU, u1, u2⟩ := al.2.2 _ _ e3
  exact ⟨D, fV, fC, ⟨hD, ⟨knV, fun q hq => by rw [hq] at obV; cases obV⟩, by rw [al.findClass]; exact e2, kU, u1, by rw [u2]; exact i3, by rw [u2]; exact e5 i3⟩, ⟨SBG.found_only al ⟨cfV, kV, iV, gV⟩, stV⟩, ⟨SBG.found_only al ⟨cfC, kC, iC, gC⟩, stC⟩, slV, slC, by simp [RoadKit.slotOf, gV], by simp [RoadKit.slotOf, gC]⟩
theorem sta_is {Z U : State} (al : Z.vm.Alike U.vm) {C n d : String} {v : Value} (S : RoadKit.Sta Z U.heap C n d v) : StaticIs U C n d v := by
  obtain ⟨cfS, iS, kS, fS, st, cS, t1, t2, t3, t4, t5, t6, t7⟩ := S
  exact StaticIs.there (s := { Z with heap := U.heap }) ⟨cfS, iS, kS, fS, st, cS, t1, t2, t3, t4, t5, (fun q => by rw [q] at t6; cases t6), t7⟩ al rfl
/-- **length() OF SUCH A STRING** -/
theorem lenW {p : Program} {l : Launch} {e : Env} {R : Room} {s : State} {args : Array Value} {below : List Frame} {len W : Nat} {Z : State} {a0 : Array Value} {h : Heap} (hZ : Z.Warmed39 s.vm) (hw : ∀ d ∈ wordsLen, d.before a0 Z = true) {kI : Nat} (wi : (Jvm.Cond.instantiable ST kI).before a0 Z = true)
    {x t : Addr} {kb : ClassId} {cs : List Int32} {cd N2 z : Int32} {vs : List Value} (E : RoadKit.Exa Z h x ST) (V : RoadKit.Fld Z h x ST "value" "[B" (.ref t)) (C : RoadKit.Fld Z h x ST "coder" "B" (.int cd)) (K : RoadKit.Arv Z h t kb .byte N2 vs (.int 0)) (hc : CodA cs cd N2 vs) (hb : ∀ c ∈ cs, ¬ c < 0 ∧ ¬ (65535 : Int32) < c)
    (S : RoadKit.Sta Z h ST "COMPACT_STRINGS" "Z" (.int z)) (hz : ¬ z = 0) (l2 : cs.length ≤ 4000) (hfr : 2 ≤ R.frames) (hlo : W + 25 ≤ R.locals) :
    Back l R p e below s args (⟨"java/lang/String", "length", "()I"⟩ : MethodName) len W (fun P a => a = #[.ref x] ∧ P.U.heap = h ∧ P.cells + 0 ≤ R.cells ∧ P.slots + 0 ≤ R.slots)
      (fun P _ v B => ∃ L, (v = some (.int (Int32.ofNat cs.length)) ∧ L = [] ∧ B.U.heap = h) ∧ B.locs = P.locs ++ L ∧ B.cells = P.cells + 0 ∧ B.slots = P.slots + 0) := by
  obtain ⟨A, K1, K2, K3, K4, K5, K6⟩ := K
  have hcod := hc.cod (by omega) K3 K5
  intro m meth c P g ig mk a X hg hsize hdg hW hn hp'
  obtain ⟨rfl, rfl, r1, r2⟩ := hp'
  have al : Z.vm.Alike P.U.vm := hZ.alike.trans X.warmed.alike
  obtain ⟨D, fV, fC, hB, F1, F2, g1, g2, -, -⟩ := strObj wi al E V C
  have hx : Txt x t A cd cs.length (fun j => cs.getD j 0) P.U := ⟨⟨_, hB.2.2.1, D, hB.1, rfl, by cases q : D.vm <;> first | rfl | exact absurd q (hB.2.1.2 _)⟩, Has.of hB F1 g1, Has.of hB F2 g2, ⟨K1.1, State.isArrayOf_alike al K1.2.1, K1.2.2, by rcases hcod with ⟨-, q, -⟩ | ⟨-, q, -⟩ <;> omega⟩, hcod, fun j hj => by
    have e : cs.getD j 0 = cs[j] := by simp [List.getD_eq_getElem?_getD, hj]
    show ¬ cs.getD j 0 < 0 ∧ ¬ 65535 < cs.getD j 0
    rw [e]; exact hb _ (List.getElem_mem _)⟩
  obtain ⟨v, B, X', ⟨⟨hv, hh⟩, hl, hk, hs⟩, st⟩ := Len.pays x t A cd cs.length (fun j => cs.getD j 0) z (tabLen_of (movedLen hZ hw)) hfr hlo m meth c P g ig mk _ X hg hsize hdg hW hn ⟨r1, r2, rfl, hx, sta_is al S, hz⟩
  exact ⟨v, B, X', ⟨[], ⟨hv, rfl, hh⟩, hl, hk, hs⟩, st⟩
end StrChars.Road
namespace StrChars.Road
open Jvm Sem ClassFile Op Lib Jvm.Stand Jvm.Free Jvm.Free.XT
open Jvm.Lib.Cold (StaticIs)
/-- the road's facts of a String, as the laws ask it -/
theorem txt_of {Z U : State} {a0 : Array Value} {kI : Nat} (wi : (Jvm.Cond.instantiable ST kI).before a0 Z = true) (al : Z.vm.Alike U.vm) {x t : Addr} {kb : ClassId} {cs : List Int32} {cd N2 : Int32} {vs : List Value} (E : RoadKit.Exa Z U.heap x ST) (V : RoadKit.Fld Z U.heap x ST "value" "[B" (.ref t)) (C : RoadKit.Fld Z U.heap x ST "coder" "B" (.int cd)) (K : RoadKit.Arv Z U.heap t kb .byte N2 vs (.int 0)) (hc : CodA cs cd N2 vs) (hb : ∀ c ∈ cs, ¬ c < 0 ∧ ¬ (65535 : Int32) < c) (l2 : cs.length ≤ 4000) :
    ∃ A, Txt x t A cd cs.length (fun j => cs.getD j 0) U := by
  obtain ⟨A, K1, K2, K3, K4, K5, K6⟩ := K
  have hcod := hc.cod (by omega) K3 K5
  obtain ⟨D, fV, fC, hB, F1, F2, g1, g2, -, -⟩ := strObj wi al E V C
  exact ⟨A, ⟨_, hB.2.2.1, D, hB.1, rfl, by cases q : D.vm <;> first | rfl | exact absurd q (hB.2.1.2 _)⟩, Has.of hB F1 g1, Has.of hB F2 g2, ⟨K1.1, State.isArrayOf_alike al K1.2.1, K1.2.2, by rcases hcod with ⟨-, q, -⟩ | ⟨-, q, -⟩ <;> omega⟩, hcod, fun j hj => by
    have e : cs.getD j 0 = cs[j] := by simp [List.getD_eq_getElem?_getD, hj]
    show ¬ cs.getD j 0 < 0 ∧ ¬ 65535 < cs.getD j 0
    rw [e]; exact hb _ (List.getElem_mem _)⟩
end StrChars.Road
namespace StrChars
open Jvm Sem ClassFile Op Lib Jvm.Stand Jvm.Free.XT Jvm.Free.ALB Jvm.Free.JM Jvm.Free
open Jvm.Lib.Cold (StaticIs)
namespace ChN
def yN : MethodName := ⟨"java/lang/String", "charAt", "(I)C"⟩
abbrev yB : ByteArray := jdk_42_method_56_code
theorem d0 : decode yB 0 = .ok (.aload_n 0, 1) := by decide +kernel
theorem d1 : decode yB 1 = .ok (.invokevirtual 492, 3) := by decide +kernel
theorem d4 : decode yB 4 = .ok (.ifCond (.eq) 12, 3) := by decide +kernel
theorem d7 : decode yB 7 = .ok (.aload_n 0, 1) := by decide +kernel
theorem d8 : decode yB 8 = .ok (.getfield 9, 3) := by decide +kernel
theorem d11 : decode yB 11 = .ok (.iload_n 1, 1) := by decide +kernel
theorem d12 : decode yB 12 = .ok (.invokestatic 495, 3) := by decide +kernel
theorem d15 : decode yB 15 = .ok (.ireturn, 1) := by decide +kernel
def site : List Cond := [.fieldLink "java/lang/String" 9 "java/lang/String" "value" "[B", IsL.tab, LChA.tab] ++ virtW "java/lang/String" 492 "java/lang/String" IsL.yN IsL.yN ++ staticW "java/lang/String" 495 LChA.yN
def tab : Cond := tabOf yN yB 2 (some .char) site
def P (x t : Addr) (V : Cell) (n : Nat) (f : Nat → Int32) (z : Int32) (fm : Value) (i : Nat) (args : Array Value) (s : State) : Prop := args = #[.ref x, .int (Int32.ofNat i)] ∧ Txt x t V 0 n f s ∧ i < n ∧ StaticIs s "java/lang/String" "COMPACT_STRINGS" "Z" (.int z) ∧ ¬ z = 0 ∧ StaticIs s "jdk/internal/util/Preconditions" "SIOOBE_FORMATTER" "Ljava/util/function/BiFunction;" fm ∧ fm.isRef = true
def E (f : Nat → Int32) (i : Nat) (r : Option Value) (s u : State) : Prop := XT.PureE (some (.int (f i))) r s u
/-- charAt(i) of a Latin-1 String of n chars, i < n: f i -/
theorem law (l : Launch) (x t : Addr) (V : Cell) (n : Nat) (f : Nat → Int32) (z : Int32) (fm : Value) (i : Nat) : Law l yN 2 1 3 40 yB 2 (some .char) site (P x t V n f z fm i) (E f i) [] 0 0 := by
  refine Law.of_walk (plainFor_of_name (by decide +kernel)) (by decide +kernel) (by decide +kernel) (by decide) (fun _ _ h => by rw [h.1]; rfl) (fun _ U U' hal hh h => ⟨h.1, h.2.1.mv hal hh, h.2.2.1, h.2.2.2.1.there hal hh, h.2.2.2.2.1, h.2.2.2.2.2.1.there hal hh, h.2.2.2.2.2.2⟩) (fun r U U' V V' h1 hal h2 h => XT.PureE.mv r U U' V V' h1 hal h2 h) ?_
  intro p e s m args below meth c s₁ X0 hexec hbytes hml hret hlk hnm hown hh0 W hP
  obtain ⟨rfl, hx, hi, s1, hz, s3, rf⟩ := hP
  have v31 := hx.2.2.2.1.2.2.2
  have hr := hx.2.2.2.2.2 i hi
  have hx0 := hx.mv X0.warmed.alike hh0
  have c1 : Steps p.tables e below (s₁.setTop (entryFrame m #[.ref x, .int (Int32.ofNat i)] 2)) (s₁.setTop (mkF m 1 #[.val (.ref x), .val (.int (Int32.ofNat i))] [.ref x])) := Steps.trans (entry rfl) (by
    show Steps p.tables e below (s₁.setTop (mkF m 0 #[.val (.ref x), .val (.int (Int32.ofNat i))] [])) _
    refine XS.aloadN X0.here hexec rfl (hb hbytes d0) rfl rfl ?_
    exact Steps.refl _)
  obtain ⟨v2, T2, X2, E2, g2⟩ := X0.callV hexec (IsL.law l x 0 z) hown (wks W (virtW "java/lang/String" 492 "java/lang/String" IsL.yN IsL.yN)) rfl (by decide) (wk W IsL.tab) (W := 0) (Nat.le_of_ble_eq_true rfl) (Nat.le_of_ble_eq_true rfl) (Nat.le_refl _) (Nat.le_refl _) (hx0.1.fc X0.warmed.alike) hx0.1.is (g := (mkF m 1 #[.val (.ref x), .val (.int (Int32.ofNat i))] [.ref x])) rfl (by rw [hml]; rfl) c1 (argsL := []) (rest := []) rfl rfl (by show 2 * 0 + 0 ≤ _; decide) (hb hbytes d1) (⟨rfl, hx0.2.2.1, hx.2.2.2.2.1.cd, s1.there X0.warmed.alike hh0, hz⟩)
  obtain ⟨rfl, q2⟩ := E2
  have hh2 := q2.trans hh0
  have hx2 := hx.mv X2.warmed.alike hh2
  obtain ⟨-, k1, k2⟩ | ⟨k0, -⟩ := hx.2.2.2.2.1
  · have c3 : Steps p.tables e below (s₁.setTop (entryFrame m #[.ref x, .int (Int32.ofNat i)] 2)) (T2.setTop (mkF m 8 #[.val (.ref x), .val (.int (Int32.ofNat i))] [.ref x])) := Steps.trans g2 (by
      refine XS.ifNo X2.here hexec rfl (hb hbytes d4) rfl (i0_eq_f (by decide)) ?_
      refine XS.aloadN X2.here hexec rfl (hb hbytes d7) rfl rfl ?_
      exact Steps.refl _)
    obtain ⟨T4, X4, q4, st4⟩ := X2.hget hexec hown (wk W (.fieldLink "java/lang/String" 9 "java/lang/String" "value" "[B")) hx2.2.1 (g := (mkF m 8 #[.val (.ref x), .val (.int (Int32.ofNat i))] [.ref x])) rfl (rest := []) rfl (hb hbytes d8)
    have hh4 := q4.trans hh2
    have c5 : Steps p.tables e below (s₁.setTop (entryFrame m #[.ref x, .int (Int32.ofNat i)] 2)) (T4.setTop (mkF m 12 #[.val (.ref x), .val (.int (Int32.ofNat i))] [.int (Int32.ofNat i), .ref t])) := (c3.trans (st4 _ (Steps.refl _))).trans (by
      refine XS.iloadN X4.here hexec rfl (hb hbytes d11) rfl ?_
      exact Steps.refl _)
    obtain ⟨v6, T6, X6, E6, g6⟩ := X4.callS hexec (LChA.law l t V i (lo8 (f i)) fm) hown (wks W (staticW "java/lang/String" 495 LChA.yN)) (wk W LChA.tab) (W := 0) (Nat.le_of_ble_eq_true rfl) (Nat.le_of_ble_eq_true rfl) (Nat.le_refl _) (Nat.le_refl _) (g := (mkF m 12 #[.val (.ref x), .val (.int (Int32.ofNat i))] [.int (Int32.ofNat i), .ref t])) rfl (by rw [hml]; rfl) c5 (argsL := [.ref t, .int (Int32.ofNat i)]) (rest := []) rfl rfl (by show 2 * 0 + 0 ≤ _; decide) (hb hbytes d12) (⟨rfl, hx.2.2.2.1.mv X4.warmed.alike hh4, (k2 i hi).1, s3.there X4.warmed.alike hh4, rf⟩)
    obtain ⟨rfl, q6⟩ := E6
    rw [chr8_lo8 hr.1 (k2 i hi).2] at g6
    exact ⟨T6, some (.int (f i)), _, _, _, X6, rfl, rfl, rfl, (fun h => by cases h), ⟨rfl, q6.trans hh4⟩, fun fs hl => Steps.trans g6 (X6.ireturnOut hexec hret (narrow_ch hr.1 hr.2) (Or.inr (Or.inr (Or.inr (Or.inl rfl)))) (hb hbytes d15) hl)⟩
  · exact absurd k0 (by decide)
theorem pays {l : Launch} {R : Room} {p : Program} {e : Env} {below : List Frame} {s : State} {sargs : Array Value} {len W : Nat} (x t : Addr) (V : Cell) (n : Nat) (f : Nat → Int32) (z : Int32) (fm : Value) (i : Nat) (htab : tab.before sargs s = true) (hfr : 4 ≤ R.frames) (hlo : W + 53 ≤ R.locals) :
    Back l R p e below s sargs yN len W (fun A₁ a₁ => A₁.cells + 0 ≤ R.cells ∧ A₁.slots + 0 ≤ R.slots ∧ P x t V n f z fm i a₁ A₁.U) (fun A₁ _ v₁ B₁ => E f i v₁ A₁.U B₁.U ∧ B₁.locs = A₁.locs ++ [] ∧ B₁.cells = A₁.cells + 0 ∧ B₁.slots = A₁.slots + 0) :=
  (law l x t V n f z fm i).pays htab hfr (by omega)
end ChN
end StrChars
namespace StrChars.Road
open Jvm Sem ClassFile Op Lib Jvm.Stand Jvm.Free Jvm.Free.XT
open Jvm.Lib.Cold (StaticIs)
/-- the words of String.charAt(int), the Latin-1 road alone -/
abbrev wordsChN : List Jvm.Cond := [.code ChN.yN ChN.yB 2 (some .char), .initialized ST, .fieldLink ST 9 ST "value" "[B", .fieldLink ST 38 ST "COMPACT_STRINGS" "Z", .fieldLink ST 15 ST "coder" "B", .code IsL.yN IsL.yB 1 (some .boolean), .methodLink ST 492 IsL.yN, .declares IsL.yN, .selects ST IsL.yN IsL.yN, .instanceMethod IsL.yN,
  .methodLink ST 495 LChA.yN, .static LChA.yN, .code LChA.yN LChA.yB 2 (some .char), .initialized "java/lang/StringLatin1", .methodLink "java/lang/StringLatin1" 9 JO.Str_checkIndex.yN, .static JO.Str_checkIndex.yN, .code JO.Str_checkIndex.yN JO.Str_checkIndex.yB 2 none,
  .fieldLink ST 1053 "jdk/internal/util/Preconditions" "SIOOBE_FORMATTER" "Ljava/util/function/BiFunction;", .methodLink ST 1059 JC.PreCheck.yN, .static JC.PreCheck.yN, .code JC.PreCheck.yN JC.PreCheck.yB 3 (some .int), .initialized "jdk/internal/util/Preconditions"]
theorem tabChN_of {a : Array Value} {s : State} (h : ∀ w ∈ wordsChN, w.before a s = true) : ChN.tab.before a s = true := by
  have hp : JC.PreCheck.tab.before a s = true := unparts (wk h (.code JC.PreCheck.yN JC.PreCheck.yB 3 (some .int))) (wks h (.initialized JC.PreCheck.yN.cls :: JC.PreCheck.site))
  have qk := consq hp h
  have hk : JO.Str_checkIndex.tab.before a s = true := unparts (wk qk (.code JO.Str_checkIndex.yN JO.Str_checkIndex.yB 2 none)) (wks qk (.initialized JO.Str_checkIndex.yN.cls :: JO.Str_checkIndex.site))
  have ql := consq hk h
  have hl : LChA.tab.before a s = true := unparts (wk ql (.code LChA.yN LChA.yB 2 (some .char))) (wks ql (.initialized LChA.yN.cls :: LChA.site))
  have hi : IsL.tab.before a s = true := unparts (wk h (.code IsL.yN IsL.yB 1 (some .boolean))) (wks h (.initialized IsL.yN.cls :: IsL.site))
  have q := consq hi (consq hl h)
  exact unparts (wk q (.code ChN.yN ChN.yB 2 (some .char))) (wks q (.initialized ChN.yN.cls :: ChN.site))
theorem movedChN {Z s : State} {a0 args : Array Value} (hZ : Z.Warmed39 s.vm) (hw : ∀ d ∈ wordsChN, d.before a0 Z = true) : ∀ d ∈ wordsChN, d.before args s = true := fun d hd => by
  have t : ∀ d ∈ wordsChN, (d.onTables && d.keepsFace) = true := by decide +kernel
  exact RoadKit.mv hZ (hw d hd) (t d hd)
/-- **charAt(i) OF A LATIN-1 STRING**, i < n: the char -/
theorem chN {p : Program} {l : Launch} {e : Env} {R : Room} {s : State} {args : Array Value} {below : List Frame} {len W : Nat} {Z : State} {a0 : Array Value} {h : Heap} (hZ : Z.Warmed39 s.vm) (hw : ∀ d ∈ wordsChN, d.before a0 Z = true) {kI : Nat} (wi : (Jvm.Cond.instantiable ST kI).before a0 Z = true)
    {x t : Addr} {kb : ClassId} {cs : List Int32} {N2 z : Int32} {vs : List Value} {fm : Value} {i : Nat} {j : Int32} (E : RoadKit.Exa Z h x ST) (V : RoadKit.Fld Z h x ST "value" "[B" (.ref t)) (C : RoadKit.Fld Z h x ST "coder" "B" (.int 0)) (K : RoadKit.Arv Z h t kb .byte N2 vs (.int 0)) (hc : CodA cs 0 N2 vs) (hb : ∀ c ∈ cs, ¬ c < 0 ∧ ¬ (65535 : Int32) < c)
    (S : RoadKit.Sta Z h ST "COMPACT_STRINGS" "Z" (.int z)) (hz : ¬ z = 0) (F : RoadKit.Sta Z h "jdk/internal/util/Preconditions" "SIOOBE_FORMATTER" "Ljava/util/function/BiFunction;" fm) (rf : fm.isRef = true) (l2 : cs.length ≤ 4000) (hi : i < cs.length) (hj : j = Int32.ofNat i) (hfr : 4 ≤ R.frames) (hlo : W + 53 ≤ R.locals) :
    Back l R p e below s args (⟨"java/lang/String", "charAt", "(I)C"⟩ : MethodName) len W (fun P a => a = #[.ref x, .int j] ∧ P.U.heap = h ∧ P.cells + 0 ≤ R.cells ∧ P.slots + 0 ≤ R.slots)
      (fun P _ v B => ∃ L, (v = some (.int (cs.getD i 0)) ∧ L = [] ∧ B.U.heap = h) ∧ B.locs = P.locs ++ L ∧ B.cells = P.cells + 0 ∧ B.slots = P.slots + 0) := by
  subst hj
  intro m meth c P g ig mk a X hg hsize hdg hW hn hp'
  obtain ⟨rfl, rfl, r1, r2⟩ := hp'
  have al : Z.vm.Alike P.U.vm := hZ.alike.trans X.warmed.alike
  obtain ⟨A, hx⟩ := txt_of wi al E V C K hc hb l2
  obtain ⟨v, B, X', ⟨⟨hv, hh⟩, hl, hk, hs⟩, st⟩ := ChN.pays x t A cs.length (fun j => cs.getD j 0) z fm i (tabChN_of (movedChN hZ hw)) hfr hlo m meth c P g ig mk _ X hg hsize hdg hW hn ⟨r1, r2, rfl, hx, hi, sta_is al S, hz, sta_is al F, rf⟩
  exact ⟨v, B, X', ⟨[], ⟨hv, rfl, hh⟩, hl, hk, hs⟩, st⟩
/-- what backV says of its String, as the contracts of this text ask it: cs's low bytes, coder 0 -/
theorem codOf {cs : List Int32} {n : Nat} (hn : cs.length = n) (hb : ∀ c ∈ cs, ¬ 255 < c) : CodA cs 0 (Int32.ofNat n) ((cs.map lo8).map Value.int) := Or.inl ⟨rfl, by rw [hn], by simp [List.map_map, Function.comp_def], hb⟩
end StrChars.Road
end Jvm.Pilot.@@N@@

namespace Jvm.Pilot.@@N@@
open Jvm Jvm.ClassFile Sem Op Lib Jvm.Free Jvm.Stand Jvm.LawKit Jvm.RoadKit Bundle Jvm.Pilot.@@N@@.Jvm.D
theorem ow {Z : State} {a0 : Array Value} (hw : ∀ d ∈ tables_1, d.before a0 Z = true) (i : Nat) {d : Jvm.Cond} (h : tables_1[i]? = some d) : d.before a0 Z = true := hw _ (List.mem_of_getElem? h)
theorem own_irr {x : Int32} : ¬ x < x := fun h => Int.lt_irrefl _ (Int32.lt_iff_toInt_lt.mp h)
theorem own_neA {Z : State} {h : Heap} {a b : Addr} {k k' : ClassId} {ty ty' : FieldType} {z z' : Int32} {vs vs' : List Value} {d d' : Value} (A : Arv Z h a k ty z vs d) (B : Arv Z h b k' ty' z' vs' d') (hn : ty ≠ ty') : a ≠ b := fun q => by
  subst q
  obtain ⟨c1, ⟨e1, hA, -⟩, -⟩ := A
  obtain ⟨c2, ⟨e2, hB, -⟩, -⟩ := B
  cases e1.symm.trans e2
  obtain ⟨-, k1, g1, comp, hk⟩ := hA
  obtain ⟨-, k2, g2, comp', hk'⟩ := hB
  cases g1.symm.trans g2
  rw [hk] at hk'
  injection hk' with h1 h2
  exact hn h2
section Own
variable {p : Program} {l : Launch} {e : Env} {R : Room} {s : State} {m : MethodId} {args : Array Value} {below : List Frame} {meth : Method} {c : Code} {T : State} {locs : List Loc} {cells slots : Nat} {Z : State} {a0 : Array Value} {h : Heap} {vm0 : Vm} {EL : List (String × Nat)}
/-! own layer: contracts in CPS form. G is the goal at a state; go takes steps backwards, fin ends the walk. -/
def own_MetN (l : Launch) (Z : State) (y : MethodName) (bytes : ByteArray) (maxL : Nat) (ret : Option FieldType) (ws : List Jvm.Cond) (rm : Room) (as' : Array Value) (h0 : Heap) (Q : Option Value → Heap → List Loc → Prop) : Prop :=
  MetFree l y (head1 (Jvm.Cond.code y bytes maxL ret :: ws) rm) (fun a U => a = as' ∧ Z.Warmed39 U.vm ∧ U.heap = h0) (fun _ _ _ _ _ => True) (fun _ U o U' => ∃ v L, o = .returned v ∧ Q v U'.heap L ∧ FrameEnd U o U' L rm.cells rm.slots)
def own_MetH (l : Launch) (Z : State) (EL : List (String × Nat)) (y : MethodName) (bytes : ByteArray) (maxL : Nat) (ret : Option FieldType) (ws : List Jvm.Cond) (rm : Room) (as' : Array Value) (h0 : Heap) (Q : Option Value → Heap → List Loc → Prop) : Prop :=
  MetFree l y (head1 (Jvm.Cond.code y bytes maxL ret :: ws) rm) (fun a U => a = as' ∧ Z.Warmed39 U.vm ∧ U.heap = h0 ∧ CHv Z EL U.vm h0) (fun _ _ _ _ _ => True) (fun _ U o U' => ∃ v L, o = .returned v ∧ Q v U'.heap L ∧ CHr Z EL U.vm U.heap U'.vm U'.heap ∧ ReturnedEndW U o U' L rm.cells rm.slots)
def own_Go (p : Program) (e : Env) (below : List Frame) (G : State → Prop) : Prop := ∀ A B, (∀ t, Steps p.tables e below B t → Steps p.tables e below A t) → G B → G A
def own_Ret (p : Program) (e : Env) (below : List Frame) (m : MethodId) (T : State) (v : Option Value) (g : JFrame) : Prop :=
  ∀ fs, (∀ (f : JFrame) (acts : List Action), f.method = m → f.locked = none → f.entered = [] → (doReturn e (T.setTop f) acts v).1 = T.setFrames fs) → Steps p.tables e below (T.setTop g) (T.setFrames fs)
theorem own_metN {y : MethodName} {bytes : ByteArray} {maxL : Nat} {ret : Option FieldType} {ws : List Jvm.Cond} {rm : Room} {as' : Array Value} {h0 : Heap} {Q : Option Value → Heap → List Loc → Prop} (pn : plainFor y = true)
    (K : ∀ (p : Program) (e : Env) (s : State) (m : MethodId) (below : List Frame) (meth : Method) (c : Code) (s₁ : State) (G : State → Prop), p.tables.exec = Jvm.exec → c.code = bytes → c.maxLocals = maxL → Z.Warmed39 s.vm → s.vm.findClass y.cls = some m.cls → meth.name = y.name → meth.sig.returnType = ret →
      Stand p l e rm s m as' below meth c s₁ [] 0 0 → s₁.heap = h0 → own_Go p e below G →
      (∀ (T : State) (L : List Loc) (cells slots : Nat) (v : Option Value), Stand p l e rm s m as' below meth c T L cells slots → (ret = none → v = none) → cells ≤ rm.cells → slots ≤ rm.slots → Q v T.heap L → ∀ g : JFrame, own_Ret p e below m T v g → G (T.setTop g)) →
      G (s₁.setTop (entryFrame m as' maxL))) :
    own_MetN l Z y bytes maxL ret ws rm as' h0 Q := by
  refine MetFree.of_bodySF pn hisR ?_
  intro p e s m args below meth c s₁ Bd hml0 hP hK
  obtain ⟨rfl, hZ, hh⟩ := hP
  refine K p e s m below meth c s₁ (fun A => ∃ s₂ o, Steps p.tables e below A s₂ ∧ s₂.status = .running ∧ Ended s₂ below o ∧ ∃ v L, o = .returned v ∧ Q v s₂.heap L ∧ FrameEnd s o s₂ L rm.cells rm.slots) Bd.exec Bd.bytes hml0 hZ (findClass_of_methodNamed Bd.named) (name_of_methodNamed Bd.named Bd.method).1 Bd.returns (Stand.of_body Bd) (by rw [← hh, Bd.state]; rfl) ?_ ?_
  · rintro A B st ⟨s₂, o, h1, h2⟩; exact ⟨s₂, o, st _ h1, h2⟩
  · intro T L cells slots v X hv hc hs hq g hg
    obtain ⟨fs, hr, hrun, hended, hW, hsame⟩ := X.leave (v := v) (fun q => hv (Bd.returns.symm.trans q))
    exact ⟨_, _, hg fs hr, hrun, hended, _, _, rfl, hq, ⟨_, rfl⟩, hW, hsame.mono hc hs⟩
theorem own_metH {y : MethodName} {bytes : ByteArray} {maxL : Nat} {ret : Option FieldType} {ws : List Jvm.Cond} {rm : Room} {as' : Array Value} {h0 : Heap} {Q : Option Value → Heap → List Loc → Prop} (pn : plainFor y = true) (hEL : EW Z a0 EL)
    (K : ∀ (p : Program) (e : Env) (s : State) (m : MethodId) (below : List Frame) (meth : Method) (c : Code) (s₁ : State) (G : State → Prop), p.tables.exec = Jvm.exec → c.code = bytes → c.maxLocals = maxL → Z.Warmed39 s.vm → s.vm.findClass y.cls = some m.cls → meth.name = y.name → meth.sig.returnType = ret →
      Stand p l e rm (s.setVm s.vm) m as' below meth c s₁ [] 0 0 → s₁.heap = h0 → s.Since s.vm h0.size → CHr Z EL s.vm h0 s.vm h0 → own_Go p e below G →
      (∀ (T : State) (L : List Loc) (cells slots : Nat) (v : Option Value) (vm0 : Vm) (k0 : Nat), Stand p l e rm (s.setVm vm0) m as' below meth c T L cells slots → Z.Warmed39 vm0 → s.Since vm0 k0 → k0 ≤ T.heap.size → CHr Z EL s.vm h0 vm0 T.heap → (ret = none → v = none) → cells ≤ rm.cells → slots ≤ rm.slots → Q v T.heap L → ∀ g : JFrame, own_Ret p e below m T v g → G (T.setTop g)) →
      G (s₁.setTop (entryFrame m as' maxL))) :
    own_MetH l Z EL y bytes maxL ret ws rm as' h0 Q := by
  refine MetFree.of_bodySF pn hisR ?_
  intro p e s m args below meth c s₁ Bd hml0 hP hK
  obtain ⟨rfl, hZ, hh, hC⟩ := hP
  refine K p e s m below meth c s₁ (fun A => ∃ s₂ o, Steps p.tables e below A s₂ ∧ s₂.status = .running ∧ Ended s₂ below o ∧ ∃ v L, o = .returned v ∧ Q v s₂.heap L ∧ CHr Z EL s.vm s.heap s₂.vm s₂.heap ∧ ReturnedEndW s o s₂ L rm.cells rm.slots) Bd.exec Bd.bytes hml0 hZ (findClass_of_methodNamed Bd.named) (name_of_methodNamed Bd.named Bd.method).1 Bd.returns (Stand.of_body Bd) (by rw [← hh, Bd.state]; rfl) ((State.WarmedH.refl s).since _) (CHr.refl hC) ?_ ?_
  · rintro A B st ⟨s₂, o, h1, h2⟩; exact ⟨s₂, o, st _ h1, h2⟩
  · intro T L cells slots v vm0 k0 X hZ0 hS hk hR hv hc hs hq g hg
    obtain ⟨fs, hr, hrun, hended, e1, e2, e3, e4⟩ := X.leaveW (v := v) hS hk (fun q => hv (Bd.returns.symm.trans q))
    refine ⟨_, _, hg fs hr, hrun, hended, _, _, rfl, hq, ?_, e1, e2, e3, e4.mono hc hs⟩
    rw [hh]
    show CHr Z EL s.vm h0 T.vm T.heap
    exact hR.trans (CHv.at X hZ0 hEL hR.1)
theorem own_nfS {y y' z' : MethodName} {C' : String} {as' : Array Value} (hc : z'.cls = y.cls) (ws : (Jvm.Cond.selects C' y' z').before as' s = true) : NotFace s y := fun r0 h0 => by
  obtain ⟨c2, r2, m2, -, -, q3, -, kP, hkP, hkPi⟩ := Cond.selects_spec ws
  have f1 := findClass_of_methodNamed h0
  have f2 := findClass_of_methodNamed q3
  rw [hc] at f2
  have e : m2.cls = r0.cls := Option.some.inj (f2.symm.trans f1)
  rw [e] at hkP
  exact ⟨kP, hkP, hkPi⟩
/-! calls: the callee's law in backOf's shape pays -/
theorem own_bkN {y : MethodName} {bytes : ByteArray} {maxL : Nat} {ret : Option FieldType} {rm : Room} {len W : Nat} {as' : Array Value} {Q : Option Value → Heap → List Loc → Prop} (hM : own_MetN l Z y bytes maxL ret [] rm as' h Q)
    (hZ : Z.Warmed39 s.vm) (wc : (Jvm.Cond.code y bytes maxL ret).before a0 Z = true) (wz : (Jvm.Cond.initialized y.cls).before a0 Z = true) (hf : rm.frames + 1 ≤ R.frames) (hl : W + (maxL + 11) + rm.locals ≤ R.locals) :
    Back l R p e below s args y len W (fun A a => a = as' ∧ A.U.heap = h ∧ A.cells + rm.cells ≤ R.cells ∧ A.slots + rm.slots ≤ R.slots) (fun A _ v B => ∃ L, Q v B.U.heap L ∧ B.locs = A.locs ++ L ∧ B.cells = A.cells + rm.cells ∧ B.slots = A.slots + rm.slots) :=
  backOf (Q := Q) hM hZ wc wz hf hl
theorem own_bkH {y : MethodName} {bytes : ByteArray} {maxL : Nat} {ret : Option FieldType} {rm : Room} {len W : Nat} {as' : Array Value} {Q : Option Value → Heap → List Loc → Prop} (hM : own_MetH l Z EL y bytes maxL ret [] rm as' h Q)
    (hZ : Z.Warmed39 vm0) (wc : (Jvm.Cond.code y bytes maxL ret).before a0 Z = true) (wz : (Jvm.Cond.initialized y.cls).before a0 Z = true) (hf : rm.frames + 1 ≤ R.frames) (hl : W + (maxL + 11) + rm.locals ≤ R.locals) (hEL : EW Z a0 EL) (H : CHv Z EL vm0 h) :
    BackS l R p e below (s.setVm vm0) args y len W (fun A a => a = as' ∧ A.U.heap = h ∧ A.cells + rm.cells ≤ R.cells ∧ A.slots + rm.slots ≤ R.slots) (fun A _ v B => ∃ L, Q v B.U.heap L ∧ B.locs = A.locs ++ L ∧ B.cells = A.cells + rm.cells ∧ B.slots = A.slots + rm.slots ∧ CHr Z EL vm0 h B.U.vm B.U.heap) :=
  backOfSH (Q := Q) hM hZ wc wz hf hl hEL H
theorem own_st (X : Stand p l e R s m args below meth c T locs cells slots) (hx : p.tables.exec = Jvm.exec) (hZ : Z.Warmed39 s.vm) {own : String} {index : Nat} {y : MethodName} {bytes : ByteArray} {maxL : Nat} {ret : Option FieldType}
    (hown : s.vm.findClass own = some m.cls) (w1 : (Jvm.Cond.methodLink own index y).before a0 Z = true) (w2 : (Jvm.Cond.static y).before a0 Z = true) (w3 : (Jvm.Cond.initialized y.cls).before a0 Z = true) (w4 : (Jvm.Cond.code y bytes maxL ret).before a0 Z = true)
    (hy : y.cls ≠ "java/lang/invoke/MethodHandle" ∧ y.cls ≠ "java/lang/invoke/VarHandle") {W kc ks : Nat} {as' : Array Value} {Q : Option Value → Heap → List Loc → Prop}
    (hK : Back l R p e below s args y 3 W (fun A a => a = as' ∧ A.U.heap = h ∧ A.cells + kc ≤ R.cells ∧ A.slots + ks ≤ R.slots) (fun A _ v B => ∃ L, Q v B.U.heap L ∧ B.locs = A.locs ++ L ∧ B.cells = A.cells + kc ∧ B.slots = A.slots + ks))
    (eT : T.heap = h) {g : JFrame} (hg : g.method = m) (hsize : g.locals.size = c.maxLocals) {argsL rest : List Value} (ha : argsL.toArray = as') (hlen : ∀ sig, parseMethodDescriptor y.desc = some sig → argsL.length = sig.parameters.length)
    (hstack : g.stack = argsL.reverse ++ rest) (hW : 2 * g.monitorRoom + (rest.map fun v => v.category).sum ≤ W) (hdg : decode c.code g.pc = .ok (.invokestatic index, 3)) (hc : cells + kc ≤ R.cells) (hs : slots + ks ≤ R.slots) :
    ∃ (v : Option Value) (T' : State) (L : List Loc), Stand p l e R s m args below meth c T' (locs ++ L) (cells + kc) (slots + ks) ∧ Q v T'.heap L ∧ ∀ t, Steps p.tables e below (T'.setTop { g with pc := g.pc + 3, stack := v.toList ++ rest }) t → Steps p.tables e below (T.setTop g) t := by
  obtain ⟨v, vm₁, ⟨T', L', k', n'⟩, -, X', ⟨L, hq, hl, hk, hn⟩, st⟩ := Jvm.LawKit.callS X hx hown (mvT hZ w1) (mvT hZ w2) (mvT hZ w3) (mvT hZ w4) hy hK hg hsize hlen hstack hW hdg (fun _ _ => ⟨ha, eT, hc, hs⟩)
  dsimp only [Pt.U, Pt.locs, Pt.cells, Pt.slots] at X' hq hl hk hn st
  subst hl hk hn
  exact ⟨v, T', L, X', hq, st⟩
theorem own_sp (X : Stand p l e R s m args below meth c T locs cells slots) (hx : p.tables.exec = Jvm.exec) (hZ : Z.Warmed39 s.vm) {own : String} {index : Nat} {y : MethodName} {bytes : ByteArray} {maxL : Nat} (hy1 : y.name = "<init>")
    (hown : s.vm.findClass own = some m.cls) (w1 : (Jvm.Cond.methodLink own index y).before a0 Z = true) (w2 : (Jvm.Cond.instanceMethod y).before a0 Z = true) (w4 : (Jvm.Cond.code y bytes maxL none).before a0 Z = true)
    (hy : y.cls ≠ "java/lang/invoke/MethodHandle" ∧ y.cls ≠ "java/lang/invoke/VarHandle") {W kc ks : Nat} {as' : Array Value} {Q : Option Value → Heap → List Loc → Prop}
    (hK : Back l R p e below s args y 3 W (fun A a => a = as' ∧ A.U.heap = h ∧ A.cells + kc ≤ R.cells ∧ A.slots + ks ≤ R.slots) (fun A _ v B => ∃ L, Q v B.U.heap L ∧ B.locs = A.locs ++ L ∧ B.cells = A.cells + kc ∧ B.slots = A.slots + ks))
    (eT : T.heap = h) {g : JFrame} (hg : g.method = m) (hsize : g.locals.size = c.maxLocals) {a : Addr} {argsL rest : List Value} (ha : (.ref a :: argsL).toArray = as') (hlen : ∀ sig, parseMethodDescriptor y.desc = some sig → argsL.length = sig.parameters.length)
    (hstack : g.stack = argsL.reverse ++ .ref a :: rest) (hW : 2 * g.monitorRoom + (rest.map fun v => v.category).sum ≤ W) (hdg : decode c.code g.pc = .ok (.invokespecial index, 3)) (hc : cells + kc ≤ R.cells) (hs : slots + ks ≤ R.slots) :
    ∃ (v : Option Value) (T' : State) (L : List Loc), Stand p l e R s m args below meth c T' (locs ++ L) (cells + kc) (slots + ks) ∧ Q v T'.heap L ∧ ∀ t, Steps p.tables e below (T'.setTop { g with pc := g.pc + 3, stack := v.toList ++ rest }) t → Steps p.tables e below (T.setTop g) t := by
  obtain ⟨v, vm₁, ⟨T', L', k', n'⟩, -, X', ⟨L, hq, hl, hk, hn⟩, st⟩ := X.specialBack hx hy1 hown (mvT hZ w1) (mvT hZ w2) (mvT hZ w4) hy hK hg hsize (Steps.refl _) hlen hstack hW hdg (fun _ _ => ⟨ha, eT, hc, hs⟩)
  dsimp only [Pt.U, Pt.locs, Pt.cells, Pt.slots] at X' hq hl hk hn st
  subst hl hk hn
  exact ⟨v, T', L, X', hq, fun _ k => st.trans k⟩
theorem own_vi (X : Stand p l e R s m args below meth c T locs cells slots) (hx : p.tables.exec = Jvm.exec) (hZ : Z.Warmed39 s.vm) {own C : String} {index : Nat} {y z : MethodName}
    (hown : s.vm.findClass own = some m.cls) (w1 : (Jvm.Cond.methodLink own index y).before a0 Z = true) (w2 : (Jvm.Cond.declares y).before a0 Z = true) (w3 : (Jvm.Cond.selects C y z).before a0 Z = true) (w4 : (Jvm.Cond.instanceMethod z).before a0 Z = true) (hn : z = y ∨ (∃ S, (Jvm.Cond.superclass y.cls S).before a0 Z = true) ∨ (Jvm.Cond.noSuperclass y.cls).before a0 Z = true ∨ ∃ C' y' z', z'.cls = y.cls ∧ (Jvm.Cond.selects C' y' z').before a0 Z = true)
    (hy : y.cls ≠ "java/lang/invoke/MethodHandle" ∧ y.cls ≠ "java/lang/invoke/VarHandle") {W kc ks : Nat} {as' : Array Value} {Q : Option Value → Heap → List Loc → Prop}
    (hK : Back l R p e below s args z 3 W (fun A a => a = as' ∧ A.U.heap = h ∧ A.cells + kc ≤ R.cells ∧ A.slots + ks ≤ R.slots) (fun A _ v B => ∃ L, Q v B.U.heap L ∧ B.locs = A.locs ++ L ∧ B.cells = A.cells + kc ∧ B.slots = A.slots + ks))
    (eT : T.heap = h) {b : Addr} (E : Exa Z h b C) {g : JFrame} (hg : g.method = m) (hsize : g.locals.size = c.maxLocals) {argsL rest : List Value} (ha : (.ref b :: argsL).toArray = as') (hlen : ∀ sig, parseMethodDescriptor y.desc = some sig → argsL.length = sig.parameters.length)
    (hstack : g.stack = argsL.reverse ++ .ref b :: rest) (hW : 2 * g.monitorRoom + (rest.map fun v => v.category).sum ≤ W) (hdg : decode c.code g.pc = .ok (.invokevirtual index, 3)) (hc : cells + kc ≤ R.cells) (hs : slots + ks ≤ R.slots) :
    ∃ (v : Option Value) (T' : State) (L : List Loc), Stand p l e R s m args below meth c T' (locs ++ L) (cells + kc) (slots + ks) ∧ Q v T'.heap L ∧ ∀ t, Steps p.tables e below (T'.setTop { g with pc := g.pc + 3, stack := v.toList ++ rest }) t → Steps p.tables e below (T.setTop g) t := by
  have hnf : NotFace s y := by
    rcases hn with rfl | ⟨S, w⟩ | w | ⟨C', y', z', hc, w⟩
    · exact notFace_of_selects (args := #[]) (mvT hZ w3)
    · exact nf_super (args := #[]) (mvT hZ w)
    · exact nf_top (args := #[]) (mvT hZ w)
    · exact own_nfS hc (mvT (args := #[]) hZ w)
  obtain ⟨cq, kq, qa, qb, qc⟩ := isOf hZ eT E
  obtain ⟨v, vm₁, ⟨T', L', k', n'⟩, -, X', ⟨L, hq, hl, hk, hn⟩, st⟩ := X.virtualBack hx (y := y) (z := z) hown (mvT hZ w1) (mvT hZ w2) hnf (mvT hZ w3) (mvT hZ w4) hy hK qa qc hg hsize (Steps.refl _) hlen hstack hW hdg (fun _ _ => ⟨ha, eT, hc, hs⟩)
  dsimp only [Pt.U, Pt.locs, Pt.cells, Pt.slots] at X' hq hl hk hn st
  subst hl hk hn
  exact ⟨v, T', L, X', hq, fun _ k => st.trans k⟩
/-! .. of a callee that may load String constants: the walk goes on over the tables at hand -/
theorem own_stW (X : Stand p l e R (s.setVm vm0) m args below meth c T locs cells slots) (hx : p.tables.exec = Jvm.exec) (hZ : Z.Warmed39 vm0) {own : String} {index : Nat} {y : MethodName} {bytes : ByteArray} {maxL : Nat} {ret : Option FieldType}
    (hown : vm0.findClass own = some m.cls) (w1 : (Jvm.Cond.methodLink own index y).before a0 Z = true) (w2 : (Jvm.Cond.static y).before a0 Z = true) (w3 : (Jvm.Cond.initialized y.cls).before a0 Z = true) (w4 : (Jvm.Cond.code y bytes maxL ret).before a0 Z = true)
    (hy : y.cls ≠ "java/lang/invoke/MethodHandle" ∧ y.cls ≠ "java/lang/invoke/VarHandle") {W kc ks : Nat} {as' : Array Value} {Q : Option Value → Heap → List Loc → Prop}
    (hK : BackS l R p e below (s.setVm vm0) args y 3 W (fun A a => a = as' ∧ A.U.heap = h ∧ A.cells + kc ≤ R.cells ∧ A.slots + ks ≤ R.slots) (fun A _ v B => ∃ L, Q v B.U.heap L ∧ B.locs = A.locs ++ L ∧ B.cells = A.cells + kc ∧ B.slots = A.slots + ks ∧ CHr Z EL vm0 h B.U.vm B.U.heap))
    (eT : T.heap = h) {k0 : Nat} (hS : s.Since vm0 k0) (hk0 : k0 ≤ h.size) {g : JFrame} (hg : g.method = m) (hsize : g.locals.size = c.maxLocals) {argsL rest : List Value} (ha : argsL.toArray = as') (hlen : ∀ sig, parseMethodDescriptor y.desc = some sig → argsL.length = sig.parameters.length)
    (hstack : g.stack = argsL.reverse ++ rest) (hW : 2 * g.monitorRoom + (rest.map fun v => v.category).sum ≤ W) (hdg : decode c.code g.pc = .ok (.invokestatic index, 3)) (hc : cells + kc ≤ R.cells) (hs : slots + ks ≤ R.slots) :
    ∃ (v : Option Value) (T' : State) (L : List Loc), Stand p l e R (s.setVm T'.vm) m args below meth c T' (locs ++ L) (cells + kc) (slots + ks) ∧ Q v T'.heap L ∧ Z.Warmed39 T'.vm ∧ T'.vm.findClass own = some m.cls ∧ s.Since T'.vm T'.heap.size ∧ CHr Z EL vm0 h T'.vm T'.heap ∧ ∀ t, Steps p.tables e below (T'.setTop { g with pc := g.pc + 3, stack := v.toList ++ rest }) t → Steps p.tables e below (T.setTop g) t := by
  have hZ' : Z.Warmed39 (s.setVm vm0).vm := hZ
  obtain ⟨v, vm₁, ⟨T', L', k', n'⟩, -, X', hS', hg', ⟨L, hq, hl, hk, hn, hC⟩, st⟩ := callSS X hx (own := own) (index := index) hown (mvT hZ' w1) (mvT hZ' w2) (mvT hZ' w3) (mvT hZ' w4) hy hK hg hsize hlen hstack hW hdg (fun _ _ => ⟨ha, eT, hc, hs⟩)
  dsimp only [Pt.U, Pt.locs, Pt.cells, Pt.slots] at X' hS' hg' hq hl hk hn hC st
  subst hl hk hn eT
  obtain ⟨Y, hS2, hZ2, hown2⟩ := rebS hS hk0 X' hS' hg' hZ' hown
  exact ⟨v, T', L, Y, hq, hZ2, hown2, hS2, hC, fun _ k => st.trans k⟩
theorem own_spW (X : Stand p l e R (s.setVm vm0) m args below meth c T locs cells slots) (hx : p.tables.exec = Jvm.exec) (hZ : Z.Warmed39 vm0) {own : String} {index : Nat} {y : MethodName} {bytes : ByteArray} {maxL : Nat} (hy1 : y.name = "<init>")
    (hown : vm0.findClass own = some m.cls) (w1 : (Jvm.Cond.methodLink own index y).before a0 Z = true) (w2 : (Jvm.Cond.instanceMethod y).before a0 Z = true) (w4 : (Jvm.Cond.code y bytes maxL none).before a0 Z = true)
    (hy : y.cls ≠ "java/lang/invoke/MethodHandle" ∧ y.cls ≠ "java/lang/invoke/VarHandle") {W kc ks : Nat} {as' : Array Value} {Q : Option Value → Heap → List Loc → Prop}
    (hK : BackS l R p e below (s.setVm vm0) args y 3 W (fun A a => a = as' ∧ A.U.heap = h ∧ A.cells + kc ≤ R.cells ∧ A.slots + ks ≤ R.slots) (fun A _ v B => ∃ L, Q v B.U.heap L ∧ B.locs = A.locs ++ L ∧ B.cells = A.cells + kc ∧ B.slots = A.slots + ks ∧ CHr Z EL vm0 h B.U.vm B.U.heap))
    (eT : T.heap = h) {k0 : Nat} (hS : s.Since vm0 k0) (hk0 : k0 ≤ h.size) {g : JFrame} (hg : g.method = m) (hsize : g.locals.size = c.maxLocals) {a : Addr} {argsL rest : List Value} (ha : (.ref a :: argsL).toArray = as') (hlen : ∀ sig, parseMethodDescriptor y.desc = some sig → argsL.length = sig.parameters.length)
    (hstack : g.stack = argsL.reverse ++ .ref a :: rest) (hW : 2 * g.monitorRoom + (rest.map fun v => v.category).sum ≤ W) (hdg : decode c.code g.pc = .ok (.invokespecial index, 3)) (hc : cells + kc ≤ R.cells) (hs : slots + ks ≤ R.slots) :
    ∃ (v : Option Value) (T' : State) (L : List Loc), Stand p l e R (s.setVm T'.vm) m args below meth c T' (locs ++ L) (cells + kc) (slots + ks) ∧ Q v T'.heap L ∧ Z.Warmed39 T'.vm ∧ T'.vm.findClass own = some m.cls ∧ s.Since T'.vm T'.heap.size ∧ CHr Z EL vm0 h T'.vm T'.heap ∧ ∀ t, Steps p.tables e below (T'.setTop { g with pc := g.pc + 3, stack := v.toList ++ rest }) t → Steps p.tables e below (T.setTop g) t := by
  have hZ' : Z.Warmed39 (s.setVm vm0).vm := hZ
  obtain ⟨v, vm₁, ⟨T', L', k', n'⟩, -, X', hS', hg', ⟨L, hq, hl, hk, hn, hC⟩, st⟩ := X.specialBackS hx hy1 (own := own) (index := index) hown (mvT hZ' w1) (mvT hZ' w2) (mvT hZ' w4) hy hK hg hsize (Steps.refl _) hlen hstack hW hdg (fun _ _ => ⟨ha, eT, hc, hs⟩)
  dsimp only [Pt.U, Pt.locs, Pt.cells, Pt.slots] at X' hS' hg' hq hl hk hn hC st
  subst hl hk hn eT
  obtain ⟨Y, hS2, hZ2, hown2⟩ := rebS hS hk0 X' hS' hg' hZ' hown
  exact ⟨v, T', L, Y, hq, hZ2, hown2, hS2, hC, fun _ k => st.trans k⟩
theorem own_viW (X : Stand p l e R (s.setVm vm0) m args below meth c T locs cells slots) (hx : p.tables.exec = Jvm.exec) (hZ : Z.Warmed39 vm0) {own C : String} {index : Nat} {y z : MethodName}
    (hown : vm0.findClass own = some m.cls) (w1 : (Jvm.Cond.methodLink own index y).before a0 Z = true) (w2 : (Jvm.Cond.declares y).before a0 Z = true) (w3 : (Jvm.Cond.selects C y z).before a0 Z = true) (w4 : (Jvm.Cond.instanceMethod z).before a0 Z = true) (hn : z = y ∨ (∃ S, (Jvm.Cond.superclass y.cls S).before a0 Z = true) ∨ (Jvm.Cond.noSuperclass y.cls).before a0 Z = true ∨ ∃ C' y' z', z'.cls = y.cls ∧ (Jvm.Cond.selects C' y' z').before a0 Z = true)
    (hy : y.cls ≠ "java/lang/invoke/MethodHandle" ∧ y.cls ≠ "java/lang/invoke/VarHandle") {W kc ks : Nat} {as' : Array Value} {Q : Option Value → Heap → List Loc → Prop}
    (hK : BackS l R p e below (s.setVm vm0) args z 3 W (fun A a => a = as' ∧ A.U.heap = h ∧ A.cells + kc ≤ R.cells ∧ A.slots + ks ≤ R.slots) (fun A _ v B => ∃ L, Q v B.U.heap L ∧ B.locs = A.locs ++ L ∧ B.cells = A.cells + kc ∧ B.slots = A.slots + ks ∧ CHr Z EL vm0 h B.U.vm B.U.heap))
    (eT : T.heap = h) {k0 : Nat} (hS : s.Since vm0 k0) (hk0 : k0 ≤ h.size) {b : Addr} (E : Exa Z h b C) {g : JFrame} (hg : g.method = m) (hsize : g.locals.size = c.maxLocals) {argsL rest : List Value} (ha : (.ref b :: argsL).toArray = as') (hlen : ∀ sig, parseMethodDescriptor y.desc = some sig → argsL.length = sig.parameters.length)
    (hstack : g.stack = argsL.reverse ++ .ref b :: rest) (hW : 2 * g.monitorRoom + (rest.map fun v => v.category).sum ≤ W) (hdg : decode c.code g.pc = .ok (.invokevirtual index, 3)) (hc : cells + kc ≤ R.cells) (hs : slots + ks ≤ R.slots) :
    ∃ (v : Option Value) (T' : State) (L : List Loc), Stand p l e R (s.setVm T'.vm) m args below meth c T' (locs ++ L) (cells + kc) (slots + ks) ∧ Q v T'.heap L ∧ Z.Warmed39 T'.vm ∧ T'.vm.findClass own = some m.cls ∧ s.Since T'.vm T'.heap.size ∧ CHr Z EL vm0 h T'.vm T'.heap ∧ ∀ t, Steps p.tables e below (T'.setTop { g with pc := g.pc + 3, stack := v.toList ++ rest }) t → Steps p.tables e below (T.setTop g) t := by
  have hZ' : Z.Warmed39 (s.setVm vm0).vm := hZ
  have hnf : NotFace (s.setVm vm0) y := by
    rcases hn with rfl | ⟨S, w⟩ | w | ⟨C', y', z', hc, w⟩
    · exact notFace_of_selects (args := #[]) (mvT hZ' w3)
    · exact nf_super (args := #[]) (mvT hZ' w)
    · exact nf_top (args := #[]) (mvT hZ' w)
    · exact own_nfS hc (mvT (args := #[]) hZ' w)
  obtain ⟨cq, kq, qa, qb, qc⟩ := isOf hZ' eT E
  obtain ⟨v, vm₁, ⟨T', L', k', n'⟩, -, X', hS', hg', ⟨L, hq, hl, hk, hn, hC⟩, st⟩ := X.virtualBackS hx (y := y) (z := z) (own := own) (index := index) hown (mvT hZ' w1) (mvT hZ' w2) hnf (mvT hZ' w3) (mvT hZ' w4) hy hK qa qc hg hsize (Steps.refl _) hlen hstack hW hdg (fun _ _ => ⟨ha, eT, hc, hs⟩)
  dsimp only [Pt.U, Pt.locs, Pt.cells, Pt.slots] at X' hS' hg' hq hl hk hn hC st
  subst hl hk hn eT
  obtain ⟨Y, hS2, hZ2, hown2⟩ := rebS hS hk0 X' hS' hg' hZ' hown
  exact ⟨v, T', L, Y, hq, hZ2, hown2, hS2, hC, fun _ k => st.trans k⟩
theorem own_catR {a : Addr} : (Value.ref a).category = 1 := rfl
theorem own_catI {a : Int32} : (Value.int a).category = 1 := rfl
theorem own_catJ {a : Int64} : (Value.long a).category = 2 := rfl
theorem own_cat {v : Value} (hv : v.isRef = true) : v.category = 1 := by rcases ref_cases hv with rfl | ⟨a, rfl⟩ <;> rfl
theorem own_narR {v : Value} {C : String} : narrow (.object C) v = v := by cases v <;> rfl
theorem own_fitR {v : Value} {C : String} (hv : v.isRef = true) : fits (.object C) v = true := by rcases ref_cases hv with rfl | ⟨a, rfl⟩ <;> rfl
theorem own_retA (X : Stand p l e R s m args below meth c T locs cells slots) (hx : p.tables.exec = Jvm.exec) {pc : Nat} {Ls : Array Slot} {w : Value} {t : FieldType} {rest : List Value} (hret : meth.sig.returnType = some t) (ht : t.isReference = true) (hw : w.isRef = true) (hn : narrow t w = w) (hd : decode c.code pc = .ok (.areturn, 1)) :
    own_Ret p e below m T (some w) (mkF m pc Ls (w :: rest)) := fun _ hl => retOut X hx hret hn (Or.inr (Or.inr (Or.inr (Or.inr ⟨rfl, ht, hw⟩)))) hd hl
theorem own_retI (X : Stand p l e R s m args below meth c T locs cells slots) (hx : p.tables.exec = Jvm.exec) {pc : Nat} {Ls : Array Slot} {z : Int32} {rest : List Value} (hret : meth.sig.returnType = some .int) (hd : decode c.code pc = .ok (.ireturn, 1)) :
    own_Ret p e below m T (some (.int z)) (mkF m pc Ls (.int z :: rest)) := fun _ hl => retOut X hx hret rfl (Or.inl ⟨rfl, Or.inl rfl, z, rfl⟩) hd hl
theorem own_retN (X : Stand p l e R s m args below meth c T locs cells slots) (hx : p.tables.exec = Jvm.exec) {pc : Nat} {Ls : Array Slot} {z : Int32} {t : FieldType} {rest : List Value} (hret : meth.sig.returnType = some t) (ht : t = .boolean ∨ t = .byte ∨ t = .char ∨ t = .short) (hd : decode c.code pc = .ok (.ireturn, 1)) :
    own_Ret p e below m T (some (.int (nar t z))) (mkF m pc Ls (.int z :: rest)) := fun _ hl => retN X hx hret ht hd hl
theorem own_retV (X : Stand p l e R s m args below meth c T locs cells slots) (hx : p.tables.exec = Jvm.exec) {pc : Nat} {Ls : Array Slot} (hret : meth.sig.returnType = none) (hd : decode c.code pc = .ok (.return_, 1)) :
    own_Ret p e below m T none (mkF m pc Ls []) := fun _ hl => X.returnOut hx hret hd hl
theorem own_in (X : Stand p l e R s m args below meth c T locs cells slots) (hx : p.tables.exec = Jvm.exec) (hZ : Z.Warmed39 s.vm) {own C : String} {index count : Nat} {xi y : MethodName}
    (hown : s.vm.findClass own = some m.cls) (w1 : (Jvm.Cond.methodLink own index xi).before a0 Z = true) (w2 : (Jvm.Cond.declares xi).before a0 Z = true) (w3 : (Jvm.Cond.interfaceMethod xi.cls xi.cls xi.name xi.desc).before a0 Z = true) (w4 : (Jvm.Cond.selects C xi y).before a0 Z = true) (w5 : (Jvm.Cond.instanceMethod y).before a0 Z = true)
    (w6 : (Jvm.Cond.publicMethod y).before a0 Z = true) (w7 : (Jvm.Cond.unhidden C xi.name xi.desc).before a0 Z = true) (w8 : (Jvm.Cond.castable C xi.cls).before a0 Z = true)
    (hy : xi.cls ≠ "java/lang/invoke/MethodHandle" ∧ xi.cls ≠ "java/lang/invoke/VarHandle") {W kc ks : Nat} {as' : Array Value} {Q : Option Value → Heap → List Loc → Prop}
    (hK : Back l R p e below s args y 5 W (fun A a => a = as' ∧ A.U.heap = h ∧ A.cells + kc ≤ R.cells ∧ A.slots + ks ≤ R.slots) (fun A _ v B => ∃ L, Q v B.U.heap L ∧ B.locs = A.locs ++ L ∧ B.cells = A.cells + kc ∧ B.slots = A.slots + ks))
    (eT : T.heap = h) {b : Addr} (E : Exa Z h b C) {g : JFrame} (hg : g.method = m) (hsize : g.locals.size = c.maxLocals) {argsL rest : List Value} (ha : (.ref b :: argsL).toArray = as') (hlen : ∀ sig, parseMethodDescriptor xi.desc = some sig → argsL.length = sig.parameters.length)
    (hstack : g.stack = argsL.reverse ++ .ref b :: rest) (hW : 2 * g.monitorRoom + (rest.map fun v => v.category).sum ≤ W) (hdg : decode c.code g.pc = .ok (.invokeinterface index count, 5)) (hc : cells + kc ≤ R.cells) (hs : slots + ks ≤ R.slots) :
    ∃ (v : Option Value) (T' : State) (L : List Loc), Stand p l e R s m args below meth c T' (locs ++ L) (cells + kc) (slots + ks) ∧ Q v T'.heap L ∧ ∀ t, Steps p.tables e below (T'.setTop { g with pc := g.pc + 5, stack := v.toList ++ rest }) t → Steps p.tables e below (T.setTop g) t := by
  obtain ⟨cq, kq, qa, qb, qc⟩ := isOf hZ eT E
  obtain ⟨v, vm₁, ⟨T', L', k', n'⟩, -, X', ⟨L, hq, hl, hk, hn⟩, st⟩ := X.interfaceBack hx (xi := xi) (y := y) hown (mvT hZ w1) (mvT hZ w2) (mvT hZ w3 (by simp [Cond.onTables, Cond.keepsFace, Cond.keeps, Cond.steady, Cond.faceAtom, hy.1, hy.2])) (mvT hZ w4) (mvT hZ w5) (mvT hZ w6) (mvT hZ w7) (mvT hZ w8) hy hK qa qb qc hg hsize (Steps.refl _) hlen hstack hW hdg (fun _ _ => ⟨ha, eT, hc, hs⟩)
  dsimp only [Pt.U, Pt.locs, Pt.cells, Pt.slots] at X' hq hl hk hn st
  subst hl hk hn
  exact ⟨v, T', L, X', hq, fun _ k => st.trans k⟩
/-- instanceof, whatever it says -/
theorem own_inst (X : Stand p l e R s m args below meth c T locs cells slots) (hx : p.tables.exec = Jvm.exec) (hZ : Z.Warmed39 s.vm) {own K C : String} {index : Nat} (hown : s.vm.findClass own = some m.cls) (w : (Jvm.Cond.classLink own index K).before a0 Z = true) (eT : T.heap = h) {a : Addr} (E : Exa Z h a C)
    {g : JFrame} (hg : g.method = m) {rest : List Value} (hs : g.stack = .ref a :: rest) (hd : decode c.code g.pc = .ok (.instanceof index, 3)) :
    ∃ (z : Int32) (T' : State), (z = 0 ∨ z = 1) ∧ Stand p l e R s m args below meth c T' locs cells slots ∧ T'.heap = h ∧ ∀ t, Steps p.tables e below (T'.setTop { g with pc := g.pc + 3, stack := .int z :: rest }) t → Steps p.tables e below (T.setTop g) t := by
  obtain ⟨cell, k, e1, e2, e3, e4, e5⟩ := E
  have w' : (Jvm.Cond.classLink own index K).before args s = true := mv hZ w
  have hpl : e.platform.magicAccessors = ({} : Platform).magicAccessors := by rw [X.admits.platform]
  obtain ⟨cT, hcT, -⟩ := Cond.classLink_spec hown w' e.platform hpl
  obtain ⟨k', q, -⟩ := hZ.alike.2.2 _ _ e3
  cases hb : s.vm.assignable cell.cls cT with
  | true =>
    obtain ⟨vm', X', st⟩ := X.instanceofYes hx hown w' (by rw [eT]; exact e1) e4 hcT hb hg hs hd
    exact ⟨1, _, Or.inr rfl, X', eT, st⟩
  | false =>
    obtain ⟨T', X', e', st⟩ := instNo X hx hZ hown w eT (C := C) ⟨cell, k, e1, e2, e3, e4, e5⟩ ⟨cell.cls, cT, e2, by rw [← hZ.alike.findClass]; exact hcT, by rw [← hZ.alike.assignable]; exact hb⟩ hg hs hd
    exact ⟨0, _, Or.inl rfl, X', e', st⟩
/-- a class that isn't among the superclasses and is no interface (the word instantiable says so) -/
theorem own_NSroot {O K : String} {n : Nat} (w : (Jvm.Cond.noSuperclass O).before a0 Z = true) (wk : (Jvm.Cond.instantiable K n).before a0 Z = true) (hn : O ≠ K) : NS Z O K := by
  obtain ⟨c, k, h1, h2, h3, -, -⟩ := Cond.noSuperclass_spec w
  obtain ⟨t, kt, g1, -⟩ := Cond.instantiable_spec wk
  have ne := ids_ne h1 g1 hn
  refine ⟨c, t, h1, g1, fun fuel => ?_⟩
  cases fuel with
  | zero => rfl
  | succ f => simp [Vm.isSubclassAux, ne, h2, h3]
theorem own_NSno {C S K : String} {n : Nat} (w : (Jvm.Cond.superclass C S).before a0 Z = true) (wk : (Jvm.Cond.instantiable K n).before a0 Z = true) (q : NS Z C K) (hn : C ≠ K) : ∃ c t, Z.vm.findClass C = some c ∧ Z.vm.findClass K = some t ∧ Z.vm.assignable c t = false := by
  obtain ⟨c, t, h0, g0, n3⟩ := q
  obtain ⟨p, k, kp, h1, h2, h3, h4, h5, -, h7⟩ := Cond.superclass_spec h0 w
  obtain ⟨t', kt, g1, g2, g3, g4, -⟩ := Cond.instantiable_spec wk
  cases g0.symm.trans g1
  have g5 : kt.isInterface = false := by simp only [Bool.or_eq_false_iff] at g4; exact g4.1
  have ne := ids_ne h0 g0 hn
  refine ⟨c, t, h0, g0, ?_⟩
  show Z.vm.assignableAux (255 + 1) c t = false
  simp [Vm.assignableAux, ne, h2, g2, h5, g3, g5, Vm.isSubclass, n3]
theorem own_pr (X : Stand p l e R s m args below meth c T locs cells slots) (hx : p.tables.exec = Jvm.exec) (hZ : Z.Warmed39 s.vm) {own C : String} {index : Nat} {y : MethodName} {bytes : ByteArray} {maxL : Nat} {ret : Option FieldType}
    (hown : s.vm.findClass own = some m.cls) (w1 : (Jvm.Cond.methodLink own index y).before a0 Z = true) (w2 : (Jvm.Cond.instanceMethod y).before a0 Z = true) (w3 : (Jvm.Cond.selects C y y).before a0 Z = true) (w4 : (Jvm.Cond.privateMethod y).before a0 Z = true) (w5 : (Jvm.Cond.code y bytes maxL ret).before a0 Z = true)
    (hy : y.cls ≠ "java/lang/invoke/MethodHandle" ∧ y.cls ≠ "java/lang/invoke/VarHandle") {W kc ks : Nat} {as' : Array Value} {Q : Option Value → Heap → List Loc → Prop}
    (hK : Back l R p e below s args y 3 W (fun A a => a = as' ∧ A.U.heap = h ∧ A.cells + kc ≤ R.cells ∧ A.slots + ks ≤ R.slots) (fun A _ v B => ∃ L, Q v B.U.heap L ∧ B.locs = A.locs ++ L ∧ B.cells = A.cells + kc ∧ B.slots = A.slots + ks))
    (eT : T.heap = h) {b : Addr} {C' : String} (E : Exa Z h b C') {g : JFrame} (hg : g.method = m) (hsize : g.locals.size = c.maxLocals) {argsL rest : List Value} (ha : (.ref b :: argsL).toArray = as') (hlen : ∀ sig, parseMethodDescriptor y.desc = some sig → argsL.length = sig.parameters.length)
    (hstack : g.stack = argsL.reverse ++ .ref b :: rest) (hW : 2 * g.monitorRoom + (rest.map fun v => v.category).sum ≤ W) (hdg : decode c.code g.pc = .ok (.invokevirtual index, 3)) (hc : cells + kc ≤ R.cells) (hs : slots + ks ≤ R.slots) :
    ∃ (v : Option Value) (T' : State) (L : List Loc), Stand p l e R s m args below meth c T' (locs ++ L) (cells + kc) (slots + ks) ∧ Q v T'.heap L ∧ ∀ t, Steps p.tables e below (T'.setTop { g with pc := g.pc + 3, stack := v.toList ++ rest }) t → Steps p.tables e below (T.setTop g) t := by
  obtain ⟨cq, q, q'⟩ := E.cell
  have hpriv : s.PrivateAt y := Cond.privateMethod_at (mvP hZ w4 (args := #[]))
  obtain ⟨mk, methM, hnamed, hmethM, hstM, habM⟩ := Cond.instanceMethod_spec (mvT (args := args) hZ w2)
  obtain ⟨methM', cM, hmethM', -, -, -, -, -, -, hsigM⟩ := Cond.code_spec hnamed (mvT (args := args) hZ w5)
  cases hmethM.symm.trans hmethM'
  obtain ⟨c2, r2, m2, -, -, q3, -, kP, hkP, hkPi⟩ := Cond.selects_spec (mvT (args := args) hZ w3)
  cases hnamed.symm.trans q3
  have hselP : selectMethod e.platform s.vm cq.cls mk = .method mk := selectMethod_private hmethM (hpriv mk methM hnamed hmethM)
  obtain ⟨vm₁, X₁, hstep₁⟩ := X.invokevirtual hx hown (mvT hZ w1) hnamed hmethM hstM hkP hkPi hy (a := b) (cell := cq) (by rw [eT]; exact q) q' hselP hmethM habM hkP hkPi (g := g) hg (argsL := argsL) (rest := rest) (hlen _ hsigM) hstack hdg
  obtain ⟨v, ⟨T', L', k', n'⟩, X', ⟨L, hq, hl, hk, hn⟩, hsteps⟩ := hK m meth c ⟨T.setVm vm₁, locs, cells, slots⟩ { g with stack := rest } (.invokevirtual index) mk (.ref b :: argsL).toArray X₁ hg hsize hdg hW (X₁.named hnamed) ⟨ha, eT, hc, hs⟩
  dsimp only [Pt.U, Pt.locs, Pt.cells, Pt.slots] at X' hq hl hk hn hsteps
  subst hl hk hn
  exact ⟨v, T', L, X', hq, fun _ k => (hstep₁ _ fun acts => by rw [doInvoke_state]; exact Steps.refl _).trans (hsteps.trans k)⟩
theorem own_selfp {y : MethodName} {n : Nat} (w3 : (Jvm.Cond.privateMethod y).before a0 Z = true) (wi : (Jvm.Cond.instanceMethod y).before a0 Z = true) (wk : (Jvm.Cond.instantiable y.cls n).before a0 Z = true) (hy : y.cls ≠ "java/lang/invoke/MethodHandle" ∧ y.cls ≠ "java/lang/invoke/VarHandle") : (Jvm.Cond.selects y.cls y y).before a0 Z = true := by
  obtain ⟨t, kt, g1, g2, g3, g4, -⟩ := Cond.instantiable_spec wk
  have g5 : kt.isInterface = false := by simp only [Bool.or_eq_false_iff] at g4; exact g4.1
  exact selects_self_of_private g1 g2 g5 (Cond.privateMethod_at w3) wi hy
/-- the entry's class has the method itself, and it is no interface: a 'selects' word of another method of that class says so -/
theorem own_same {y y' z : MethodName} {C : String} (hy : y.cls ≠ "java/lang/invoke/MethodHandle" ∧ y.cls ≠ "java/lang/invoke/VarHandle") (hc : z.cls = y.cls) (ws : (Jvm.Cond.selects C y' z).before a0 Z = true) (wi : (Jvm.Cond.instanceMethod y).before a0 Z = true) : (Jvm.Cond.sameMethod y.cls y.cls y.name y.desc).before a0 Z = true := by
  obtain ⟨mk, methM, hnamed, -⟩ := Cond.instanceMethod_spec wi
  obtain ⟨c2, r2, m2, -, -, q3, -, kP, hkP, hkPi⟩ := Cond.selects_spec ws
  have f1 := findClass_of_methodNamed hnamed
  have f2 := findClass_of_methodNamed q3
  rw [hc] at f2
  have e : m2.cls = mk.cls := Option.some.inj (f2.symm.trans f1)
  have f3 : Z.methodFound? y.cls y.name y.desc = some mk := State.methodFound?_of_named hnamed hy
  have f4 : Z.methodNamed? (⟨y.cls, y.name, y.desc⟩ : MethodName) = some mk := hnamed
  rw [e] at hkP
  simp [Cond.before, Cond.holds, Cond.value, f1, f3, f4, hkP, hkPi]
theorem own_su (X : Stand p l e R s m args below meth c T locs cells slots) (hx : p.tables.exec = Jvm.exec) (hZ : Z.Warmed39 s.vm) {own C : String} {index : Nat} {y : MethodName} {bytes : ByteArray} {maxL : Nat} {ret : Option FieldType}
    (hown : s.vm.findClass own = some m.cls) (w1 : (Jvm.Cond.methodLink own index y).before a0 Z = true) (w2 : (Jvm.Cond.sameMethod y.cls y.cls y.name y.desc).before a0 Z = true) (w3 : (Jvm.Cond.instanceMethod y).before a0 Z = true) (w4 : (Jvm.Cond.superclass own y.cls).before a0 Z = true) (hn : y.name ≠ "<init>") (w5 : (Jvm.Cond.code y bytes maxL ret).before a0 Z = true)
    {W kc ks : Nat} {as' : Array Value} {Q : Option Value → Heap → List Loc → Prop}
    (hK : Back l R p e below s args y 3 W (fun A a => a = as' ∧ A.U.heap = h ∧ A.cells + kc ≤ R.cells ∧ A.slots + ks ≤ R.slots) (fun A _ v B => ∃ L, Q v B.U.heap L ∧ B.locs = A.locs ++ L ∧ B.cells = A.cells + kc ∧ B.slots = A.slots + ks))
    (eT : T.heap = h) {b : Addr} (E : Exa Z h b C) {g : JFrame} (hg : g.method = m) (hsize : g.locals.size = c.maxLocals) {argsL rest : List Value} (ha : (.ref b :: argsL).toArray = as') (hlen : ∀ sig, parseMethodDescriptor y.desc = some sig → argsL.length = sig.parameters.length)
    (hstack : g.stack = argsL.reverse ++ .ref b :: rest) (hW : 2 * g.monitorRoom + (rest.map fun v => v.category).sum ≤ W) (hdg : decode c.code g.pc = .ok (.invokespecial index, 3)) (hc : cells + kc ≤ R.cells) (hs : slots + ks ≤ R.slots) :
    ∃ (v : Option Value) (T' : State) (L : List Loc), Stand p l e R s m args below meth c T' (locs ++ L) (cells + kc) (slots + ks) ∧ Q v T'.heap L ∧ ∀ t, Steps p.tables e below (T'.setTop { g with pc := g.pc + 3, stack := v.toList ++ rest }) t → Steps p.tables e below (T.setTop g) t := by
  obtain ⟨v, vm₁, ⟨T', L', k', n'⟩, -, X', ⟨L, hq, hl, hk, hn'⟩, st⟩ := superBack X hx hZ hown w1 w2 w3 w4 hn hK eT (Ins.self E) hg hsize w5 hlen hstack hW hdg (fun _ _ => ⟨ha, eT, hc, hs⟩)
  dsimp only [Pt.U, Pt.locs, Pt.cells, Pt.slots] at X' hq hl hk hn' st
  subst hl hk hn'
  exact ⟨v, T', L, X', hq, fun _ k => st.trans k⟩
end Own

theorem own_sat_in : ∀ d ∈ Bundle.stringAtoms, d ∈ tables_1 := by decide +kernel
theorem own_sat {Z : State} {a0 : Array Value} (hw : ∀ d ∈ tables_1, d.before a0 Z = true) : ∀ d ∈ Bundle.stringAtoms, d.before a0 Z = true := fun d hd => hw d (own_sat_in d hd)
theorem own_i2c (x : Int32) : nar .char (x.toUInt32.toUInt16.toUInt32.toInt32) = x.toUInt32.toUInt16.toUInt32.toInt32 := by
  have a := c_i2c x
  have b := c_i2c (x.toUInt32.toUInt16.toUInt32.toInt32)
  apply Int32.toInt_inj.mp
  show ((x.toUInt32.toUInt16.toUInt32.toInt32).toUInt32.toUInt16.toUInt32.toInt32).toInt = _
  omega
theorem own_i2b (x : Int32) : nar .byte (x.toInt8.toInt32) = x.toInt8.toInt32 := by
  simp [nar]
theorem own_c255 (x : Int32) : ¬ (x &&& (255 : Int32)) < 0 ∧ ¬ (255 : Int32) < (x &&& (255 : Int32)) := by
  have a := c_and x 255 (by decide)
  have e : (255 : Int32).toInt = 255 := rfl
  have z : (0 : Int32).toInt = 0 := rfl
  rw [Int32.lt_iff_toInt_lt, Int32.lt_iff_toInt_lt]
  omega
theorem own_and255 (x : Int32) : ¬ ((x &&& (255 : Int32)).toUInt32.toUInt16.toUInt32.toInt32) < 0 ∧ ¬ (255 : Int32) < ((x &&& (255 : Int32)).toUInt32.toUInt16.toUInt32.toInt32) := by
  rw [i2c_mask]; exact own_c255 x
theorem own_narc {x : Int32} (h1 : ¬ x < (0 : Int32)) (h2 : ¬ (255 : Int32) < x) : nar .char x = x := by
  have a := c_i2c x
  have e : (255 : Int32).toInt = 255 := rfl
  have z : (0 : Int32).toInt = 0 := rfl
  rw [Int32.lt_iff_toInt_lt] at h1 h2
  apply Int32.toInt_inj.mp
  show x.toUInt32.toUInt16.toUInt32.toInt32.toInt = x.toInt
  omega
theorem own_one {x : Int32} (h1 : ¬ x < (0 : Int32)) (h2 : ¬ (255 : Int32) < x) : ∀ c ∈ ([x] : List Int32), ¬ c < 0 ∧ ¬ (255 : Int32) < c := fun c hc => by rw [List.mem_singleton.mp hc]; exact ⟨h1, h2⟩
/-- the String at a spells cs (Latin-1) -/
def own_Str (Z : State) (h : Heap) (a : Addr) (cs : List Int32) : Prop := ∃ (t : Addr) (kb : ClassId), Exa Z h a "java/lang/String" ∧ Fld Z h a "java/lang/String" "value" "[B" (.ref t) ∧ Fld Z h a "java/lang/String" "coder" "B" (.int 0) ∧ Arv Z h t kb .byte (Int32.ofNat cs.length) ((cs.map fun c => c.toInt8.toInt32).map Value.int) (.int 0) ∧ (∀ c ∈ cs, ¬ c < 0 ∧ ¬ (255 : Int32) < c) ∧ cs.length ≤ 4000
theorem own_Str_keep {Z : State} {h h' : Heap} {a : Addr} {cs : List Int32} (F : own_Str Z h a cs) (K : Keep h h' []) : own_Str Z h' a cs := by
  obtain ⟨t, kb, E, V, C, A, r⟩ := F
  exact ⟨t, kb, E.keep K, V.keep K nin0, C.keep K nin0, A.keep K nin0, r⟩
theorem own_up {cs : List Int32} (h : ∀ c ∈ cs, ¬ c < 0 ∧ ¬ (255 : Int32) < c) : ∀ c ∈ cs, ¬ c < 0 ∧ ¬ (65535 : Int32) < c := fun c hc => ⟨(h c hc).1, fun q => (h c hc).2 (by rw [Int32.lt_iff_toInt_lt] at q ⊢; have e1 : (65535 : Int32).toInt = 65535 := rfl; have e2 : (255 : Int32).toInt = 255 := rfl; omega)⟩
set_option maxRecDepth 65536 in
theorem own_hws_in : ∀ d ∈ StrChars.Road.words, d ∈ tables_1 := by decide +kernel
theorem own_hws {Z : State} {a0 : Array Value} (hw : ∀ d ∈ tables_1, d.before a0 Z = true) : ∀ d ∈ StrChars.Road.words, d.before a0 Z = true := fun d hd => hw d (own_hws_in d hd)
set_option maxRecDepth 65536 in
theorem own_hln_in : ∀ d ∈ StrChars.Road.wordsLen, d ∈ tables_1 := by decide +kernel
theorem own_hln {Z : State} {a0 : Array Value} (hw : ∀ d ∈ tables_1, d.before a0 Z = true) : ∀ d ∈ StrChars.Road.wordsLen, d.before a0 Z = true := fun d hd => hw d (own_hln_in d hd)
set_option maxRecDepth 65536 in
theorem own_hch_in : ∀ d ∈ StrChars.Road.wordsChN, d ∈ tables_1 := by decide +kernel
theorem own_hch {Z : State} {a0 : Array Value} (hw : ∀ d ∈ tables_1, d.before a0 Z = true) : ∀ d ∈ StrChars.Road.wordsChN, d.before a0 Z = true := fun d hd => hw d (own_hch_in d hd)
theorem own_Str_W {Z : State} {h : Heap} {a : Addr} {cs : List Int32} (F : own_Str Z h a cs) : ∃ (t : Addr) (kb : ClassId), Exa Z h a "java/lang/String" ∧ Fld Z h a "java/lang/String" "value" "[B" (.ref t) ∧ Fld Z h a "java/lang/String" "coder" "B" (.int 0) ∧ Arv Z h t kb .byte (Int32.ofNat cs.length) ((cs.map fun c => c.toInt8.toInt32).map Value.int) (.int 0) ∧ StrChars.Road.CodA cs 0 (Int32.ofNat cs.length) ((cs.map fun c => c.toInt8.toInt32).map Value.int) ∧ (∀ c ∈ cs, ¬ c < 0 ∧ ¬ (65535 : Int32) < c) ∧ cs.length ≤ 4000 := by
  obtain ⟨t, kb, E, V, C, A, b, n⟩ := F
  exact ⟨t, kb, E, V, C, A, StrChars.Road.codOf rfl (fun c hc => (b c hc).2), own_up b, n⟩
section OwnSB
variable {p : Program} {l : Launch} {e : Env} {R : Room} {s : State} {m : MethodId} {args : Array Value} {below : List Frame} {meth : Method} {c : Code} {T : State} {locs : List Loc} {cells slots : Nat} {Z : State} {a0 : Array Value} {h : Heap}
def own_n (cs : List Int32) : Int32 := Int32.ofNat cs.length
def own_bs (cs : List Int32) : List Value := (cs.map fun c => c.toInt8.toInt32).map Value.int
theorem own_bs_len (cs : List Int32) : (own_bs cs).length = cs.length := by simp [own_bs]
theorem own_bs_app (a b : List Int32) : own_bs (a ++ b) = own_bs a ++ own_bs b := by simp [own_bs]
theorem own_nI {n : Nat} (h : n ≤ 4000) : (Int32.ofNat n).toInt = n := len_toInt (show n < 2 ^ 31 by omega)
theorem own_nN {n : Nat} (h : n ≤ 4000) : (Int32.ofNat n).toNatClampNeg = n ∧ ¬ Int32.ofNat n < 0 := by
  have e := own_nI h
  refine ⟨by simp only [Int32.toNatClampNeg, e]; omega, ?_⟩
  rw [Int32.lt_iff_toInt_lt, e]
  have z : (0 : Int32).toInt = 0 := rfl
  omega
theorem own_nadd {a b : Nat} : Int32.ofNat a + Int32.ofNat b = Int32.ofNat (a + b) := by
  apply Int32.toBitVec_inj.mp
  show BitVec.ofNat 32 a + BitVec.ofNat 32 b = BitVec.ofNat 32 (a + b)
  rw [← BitVec.ofNat_add]
theorem own_napp (a b : List Int32) : own_n a + own_n b = own_n (a ++ b) := by
  unfold own_n; rw [own_nadd, List.length_append]
theorem own_shl0 (x : Int32) : x <<< ((0 : Int32) &&& 31) = x := by
  apply Int32.toBitVec_inj.mp
  simp
theorem own_us (vs : List Value) (dv : Value) : vs = (List.range vs.length).map fun i => vs.getD (0 + i) dv := by
  apply List.ext_getElem
  · simp
  · intro i h1 h2
    simp [List.getD_eq_getElem?_getD, h1]
/-- System.arraycopy of the first bytes of a byte[] behind those of another -/
theorem own_cp (X : Stand p l e R s m args below meth c T locs cells slots) (hx : p.tables.exec = Jvm.exec) (hZ : Z.Warmed39 s.vm) {own : String} {index : Nat} (hown : s.vm.findClass own = some m.cls)
    (w1 : (Jvm.Cond.methodLink own index Jvm.Stand.acN).before a0 Z = true) (w2 : (Jvm.Cond.native Jvm.Stand.acN).before a0 Z = true) (w3 : (Jvm.Cond.static Jvm.Stand.acN).before a0 Z = true) (w4 : (Jvm.Cond.initialized "java/lang/System").before a0 Z = true) (eT : T.heap = h)
    {a b : Addr} {k k' : ClassId} {z z' : Int32} {cs ds : List Int32} (A : Arv Z h a k .byte z (own_bs ds) (.int 0)) (B : Arv Z h b k' .byte z' (own_bs cs) (.int 0)) (hd : ds.length ≤ 4000) (hc : cs.length ≤ 4000) (hza : ds.length ≤ z.toNatClampNeg) (hz : cs.length + ds.length ≤ z'.toNatClampNeg)
    {n0 : Nat} (N : Fr n0 locs) (ge : n0 ≤ b) {g : JFrame} (hg : g.method = m) (hsize : g.locals.size = c.maxLocals) {rest : List Value} (hs : g.stack = .int (own_n ds) :: .int (own_n cs) :: .ref b :: .int 0 :: .ref a :: rest) (hdc : decode c.code g.pc = .ok (.invokestatic index, 3))
    (hf : 1 ≤ R.frames) {W : Nat} (hW : 2 * g.monitorRoom + (rest.map fun v => v.category).sum ≤ W) (hlo : W + (nativeFrameWords "java/lang/System" "arraycopy" 5 + 11) ≤ R.locals) :
    ∃ T' h' L, Stand p l e R s m args below meth c T' L cells slots ∧ T'.heap = h' ∧ Fr n0 L ∧ Keep h h' [b] ∧ Arv Z h' b k' .byte z' (own_bs (cs ++ ds)) (.int 0) ∧
      ∀ target, Steps p.tables e below (T'.setTop { g with pc := g.pc + 3, stack := rest }) target → Steps p.tables e below (T.setTop g) target := by
  have B' : Arv Z h b k' .byte z' (own_bs cs ++ List.replicate ds.length (.int 0)) (.int 0) := B.pad (pad_rep _ _ _)
  obtain ⟨c1, c2⟩ := own_nN hc
  obtain ⟨d1, d2⟩ := own_nN hd
  obtain ⟨T', h', L, X', e', N', K', V', st⟩ := cpA X hx hZ hown w1 w2 w3 w4 eT A B' (us := own_bs ds) (sp := 0) (dp := own_n cs) (nn := own_n ds) (Or.inl ⟨rfl, rfl⟩) (by decide) c2 d2
    (by show (0 : Int32).toNatClampNeg + (Int32.ofNat ds.length).toNatClampNeg ≤ _; rw [d1]; show 0 + _ ≤ _; omega)
    (by show (Int32.ofNat cs.length).toNatClampNeg + (Int32.ofNat ds.length).toNatClampNeg ≤ _; rw [c1, d1]; exact hz)
    (by show own_bs ds = (List.range (Int32.ofNat ds.length).toNatClampNeg).map _; rw [d1, ← own_bs_len ds]; exact own_us (own_bs ds) (.int 0))
    (by show (Int32.ofNat cs.length).toNatClampNeg + (Int32.ofNat ds.length).toNatClampNeg ≤ _; rw [c1, d1]; simp [own_bs_len]) N ge hg hsize hs hdc hf hW hlo
  refine ⟨T', h', L, X', e', N', K', ?_, st⟩
  have q : (own_bs cs ++ List.replicate ds.length (Value.int 0)).take (own_n cs).toNatClampNeg ++ own_bs ds ++ (own_bs cs ++ List.replicate ds.length (Value.int 0)).drop ((own_n cs).toNatClampNeg + (own_n ds).toNatClampNeg) = own_bs (cs ++ ds) := by
    have e1 : (own_n cs).toNatClampNeg = cs.length := c1
    have e2 : (own_n ds).toNatClampNeg = ds.length := d1
    rw [e1, e2, own_bs_app, List.take_left' (own_bs_len cs), List.drop_eq_nil_of_le (by simp [own_bs_len]), List.append_nil]
  rw [q] at V'
  exact V'
end OwnSB
theorem own_n1 (cs : List Int32) (q : Int32) : own_n cs + (1 : Int32) = own_n (cs ++ [q]) := own_napp cs [q]
theorem own_bset (cs : List Int32) (q : Int32) : (own_bs cs ++ [Value.int 0]).set cs.length (.int (q.toInt8.toInt32)) = own_bs (cs ++ [q]) := by
  rw [own_bs_app, ← own_bs_len cs]
  simp [own_bs]
theorem own_cap {cs ds : List Int32} (h : cs.length + ds.length ≤ 16) : ¬ (0 : Int32) < ((own_n cs) + (own_n ds)) - (16 : Int32) := by
  have e : own_n cs + own_n ds = Int32.ofNat (cs.length + ds.length) := own_nadd
  rw [e, Int32.lt_iff_toInt_lt, Int32.toInt_sub, own_nI (by omega)]
  have z : (0 : Int32).toInt = 0 := rfl
  have t : (16 : Int32).toInt = 16 := rfl
  rw [z, t]
  have q := bm32 (((cs.length + ds.length : Nat) : Int) - 16)
  have q1 := Int.bmod_lt (x := ((cs.length + ds.length : Nat) : Int) - 16) (m := 2 ^ 32) (by decide)
  have q2 := Int.le_bmod (x := ((cs.length + ds.length : Nat) : Int) - 16) (m := 2 ^ 32) (by decide)
  omega
theorem own_n_lt {cs : List Int32} {k : Nat} {z : Int32} (hz : z.toInt = k) (h : cs.length < k) (hk : k ≤ 4000) : own_n cs < z := by
  have e : (own_n cs).toInt = cs.length := own_nI (by omega)
  rw [Int32.lt_iff_toInt_lt, hz, e]; omega
theorem own_n_ne {cs : List Int32} {k : Nat} {z : Int32} (hz : z.toInt = k) (h : cs.length < k) (hk : k ≤ 4000) : ¬ own_n cs = z := fun q => by
  have e : (own_n cs).toInt = cs.length := own_nI (by omega)
  rw [q, hz] at e; omega
theorem own_n_nn {cs : List Int32} (h : cs.length ≤ 4000) : ¬ own_n cs < (0 : Int32) := (own_nN h).2
theorem own_cap1 {cs : List Int32} (h : cs.length + 1 ≤ 16) : ¬ (0 : Int32) < ((own_n cs) + (1 : Int32)) - (16 : Int32) := own_cap (ds := [0]) h
def own_03 (z : Int32) : Prop := z = 0 ∨ z = 1 ∨ z = 2 ∨ z = 3
def own_ch (b k : Int32) : Int32 := ((b.toUInt32 >>> (((8 : Int32) * k) &&& 31).toUInt32).toInt32) &&& (255 : Int32)
def own_sx (n b : Int32) : List Int32 := if n = 0 then [] else if n = 1 then [own_ch b 0] else if n = 2 then [own_ch b 0, own_ch b 1] else [own_ch b 0, own_ch b 1, own_ch b 2]
def own_res (sl vl sy va : Int32) : List Int32 := (([] ++ own_sx sl sy) ++ [124]) ++ own_sx vl va
theorem own_sx0 {n b : Int32} (h : n = (0 : Int32)) : own_sx n b = ([] : List Int32) := by simp [own_sx, h]
theorem own_sx1 {n b : Int32} (h0 : ¬ n = (0 : Int32)) (h : n = (1 : Int32)) : own_sx n b = ([(own_ch b (0 : Int32))] : List Int32) := by simp [own_sx, h]
theorem own_sx2 {n b : Int32} (h0 : ¬ n = (0 : Int32)) (h1 : ¬ n = (1 : Int32)) (h : n = (2 : Int32)) : own_sx n b = ([(own_ch b (0 : Int32)), (own_ch b (1 : Int32))] : List Int32) := by simp [own_sx, h]
theorem own_sx3 {n b : Int32} (h0 : ¬ n = (0 : Int32)) (h1 : ¬ n = (1 : Int32)) (h : ¬ n = (2 : Int32)) : own_sx n b = ([(own_ch b (0 : Int32)), (own_ch b (1 : Int32)), (own_ch b (2 : Int32))] : List Int32) := by simp [own_sx, h0, h1, h]
theorem own_sx_len (n b : Int32) : (own_sx n b).length ≤ 3 := by
  unfold own_sx
  by_cases h0 : n = 0
  · rw [if_pos h0]; exact Nat.zero_le _
  · rw [if_neg h0]
    by_cases h1 : n = 1
    · rw [if_pos h1]; exact Nat.le_of_ble_eq_true rfl
    · rw [if_neg h1]
      by_cases h2 : n = 2
      · rw [if_pos h2]; exact Nat.le_of_ble_eq_true rfl
      · rw [if_neg h2]; exact Nat.le_of_ble_eq_true rfl
theorem own_chb (b k : Int32) : ¬ own_ch b k < 0 ∧ ¬ (255 : Int32) < own_ch b k := own_c255 _
theorem own_chn (b k : Int32) : nar .char (own_ch b k) = own_ch b k := own_narc (own_chb b k).1 (own_chb b k).2
theorem own_and3 (x : Int32) : own_03 (x &&& (3 : Int32)) := by
  have a := c_and x 3 (by decide)
  have e3 : (3 : Int32).toInt = 3 := rfl
  generalize x &&& (3 : Int32) = z at a ⊢
  have t1 : (1 : Int32).toInt = 1 := rfl
  have t2 : (2 : Int32).toInt = 2 := rfl
  have t0 : (0 : Int32).toInt = 0 := rfl
  have h : z.toInt = 0 ∨ z.toInt = 1 ∨ z.toInt = 2 ∨ z.toInt = 3 := by omega
  rcases h with h | h | h | h
  · exact Or.inl (Int32.toInt_inj.mp (by rw [h, t0]))
  · exact Or.inr (Or.inl (Int32.toInt_inj.mp (by rw [h, t1])))
  · exact Or.inr (Or.inr (Or.inl (Int32.toInt_inj.mp (by rw [h, t2]))))
  · exact Or.inr (Or.inr (Or.inr (Int32.toInt_inj.mp (by rw [h, e3]))))
theorem own_Str_b {Z : State} {h : Heap} {a : Addr} {cs : List Int32} (F : own_Str Z h a cs) : ∀ c ∈ cs, ¬ c < 0 ∧ ¬ (255 : Int32) < c := by
  obtain ⟨_, _, _, _, _, _, b, _⟩ := F; exact b
theorem own_bda {a b : List Int32} (h : ∀ c ∈ a, ¬ c < 0 ∧ ¬ (255 : Int32) < c) (g : ∀ c ∈ b, ¬ c < 0 ∧ ¬ (255 : Int32) < c) : ∀ c ∈ a ++ b, ¬ c < 0 ∧ ¬ (255 : Int32) < c := fun c hc => (List.mem_append.mp hc).elim (h c) (g c)
theorem own_reslen {sl vl sy va : Int32} (h : own_03 sl) (g : own_03 vl) : own_n (own_res sl vl sy va) = (sl + (1 : Int32)) + vl := by
  rcases h with rfl | rfl | rfl | rfl <;> rcases g with rfl | rfl | rfl | rfl <;> (simp [own_n, own_res, own_sx] <;> decide)
theorem own_at1 {sl vl sy va : Int32} {i : Nat} (hs : own_03 sl) (hv : own_03 vl) (hi : i ≤ 6) (h : Int32.ofNat i < sl) : (own_res sl vl sy va).getD i 0 = own_ch sy (Int32.ofNat i) := by
  have hi' : i = 0 ∨ i = 1 ∨ i = 2 ∨ i = 3 ∨ i = 4 ∨ i = 5 ∨ i = 6 := by omega
  rcases hs with rfl | rfl | rfl | rfl <;> rcases hi' with rfl | rfl | rfl | rfl | rfl | rfl | rfl <;> first | exact absurd h (by decide) | (rcases hv with rfl | rfl | rfl | rfl <;> simp [own_res, own_sx])
theorem own_at2 {sl vl sy va : Int32} {i : Nat} (hs : own_03 sl) (hv : own_03 vl) (hi : i ≤ 6) (h : Int32.ofNat i = sl) : (own_res sl vl sy va).getD i 0 = (124 : Int32) := by
  have hi' : i = 0 ∨ i = 1 ∨ i = 2 ∨ i = 3 ∨ i = 4 ∨ i = 5 ∨ i = 6 := by omega
  rcases hs with rfl | rfl | rfl | rfl <;> rcases hi' with rfl | rfl | rfl | rfl | rfl | rfl | rfl <;> first | exact absurd h (by decide) | (rcases hv with rfl | rfl | rfl | rfl <;> simp [own_res, own_sx])
theorem own_at3 {sl vl sy va : Int32} {i : Nat} (hs : own_03 sl) (hv : own_03 vl) (hi : i ≤ 6) (h1 : ¬ Int32.ofNat i < sl) (h2 : ¬ Int32.ofNat i = sl) (h3 : Int32.ofNat i < own_n (own_res sl vl sy va)) : (own_res sl vl sy va).getD i 0 = own_ch va ((Int32.ofNat i - sl) - (1 : Int32)) := by
  have hi' : i = 0 ∨ i = 1 ∨ i = 2 ∨ i = 3 ∨ i = 4 ∨ i = 5 ∨ i = 6 := by omega
  rw [own_reslen hs hv] at h3
  rcases hs with rfl | rfl | rfl | rfl <;> rcases hi' with rfl | rfl | rfl | rfl | rfl | rfl | rfl <;> first | exact absurd (by decide) h1 | exact absurd (by decide) h2 | (rcases hv with rfl | rfl | rfl | rfl <;> first | exact absurd h3 (by decide) | (simp [own_res, own_sx] <;> rfl) | rfl)
theorem own_idx {cs : List Int32} {i : Nat} (hl : cs.length ≤ 4000) (hi : i ≤ 4000) (h : Int32.ofNat i < own_n cs) : i < cs.length := by
  have e1 : (own_n cs).toInt = cs.length := own_nI hl
  rw [Int32.lt_iff_toInt_lt, e1, own_nI hi] at h; omega
theorem own_res_le (sl vl sy va : Int32) : (own_res sl vl sy va).length ≤ 7 := by
  have a := own_sx_len sl sy; have b := own_sx_len vl va
  simp [own_res]; omega

abbrev own_EL : List (String × Nat) := [("com/example/kindred/kindred/IdentifierToStringPinLaw", 32), ("com/example/kindred/kindred/Identifier", 88)]
theorem own_hEL {Z : State} {a0 : Array Value} (hw : ∀ d ∈ tables_1, d.before a0 Z = true) : EW Z a0 own_EL := (EW.cons (ow hw 37 rfl) (by decide) (EW.cons (ow hw 126 rfl) (by decide) EW.nil))
theorem own_d12_0 : decode jdk_68_method_2_code 0 = .ok (.aload_n 0, 1) := by decide +kernel
theorem own_d12_1 : decode jdk_68_method_2_code 1 = .ok (.invokespecial 3, 3) := by decide +kernel
theorem own_d12_4 : decode jdk_68_method_2_code 4 = .ok (.getstatic 18, 3) := by decide +kernel
theorem own_d12_7 : decode jdk_68_method_2_code 7 = .ok (.ifCond .eq 18, 3) := by decide +kernel
theorem own_d12_10 : decode jdk_68_method_2_code 10 = .ok (.aload_n 0, 1) := by decide +kernel
theorem own_d12_11 : decode jdk_68_method_2_code 11 = .ok (.iload_n 1, 1) := by decide +kernel
theorem own_d12_12 : decode jdk_68_method_2_code 12 = .ok (.newarray .byte, 2) := by decide +kernel
theorem own_d12_14 : decode jdk_68_method_2_code 14 = .ok (.putfield 15, 3) := by decide +kernel
theorem own_d12_17 : decode jdk_68_method_2_code 17 = .ok (.aload_n 0, 1) := by decide +kernel
theorem own_d12_18 : decode jdk_68_method_2_code 18 = .ok (.iconst 0, 1) := by decide +kernel
theorem own_d12_19 : decode jdk_68_method_2_code 19 = .ok (.putfield 22, 3) := by decide +kernel
theorem own_d12_22 : decode jdk_68_method_2_code 22 = .ok (.goto 16, 3) := by decide +kernel
theorem own_d12_25 : decode jdk_68_method_2_code 25 = .ok (.aload_n 0, 1) := by decide +kernel
theorem own_d12_26 : decode jdk_68_method_2_code 26 = .ok (.iload_n 1, 1) := by decide +kernel
theorem own_d12_27 : decode jdk_68_method_2_code 27 = .ok (.invokestatic 26, 3) := by decide +kernel
theorem own_d12_30 : decode jdk_68_method_2_code 30 = .ok (.putfield 15, 3) := by decide +kernel
theorem own_d12_33 : decode jdk_68_method_2_code 33 = .ok (.aload_n 0, 1) := by decide +kernel
theorem own_d12_34 : decode jdk_68_method_2_code 34 = .ok (.iconst 1, 1) := by decide +kernel
theorem own_d12_35 : decode jdk_68_method_2_code 35 = .ok (.putfield 22, 3) := by decide +kernel
theorem own_d12_38 : decode jdk_68_method_2_code 38 = .ok (.return_, 1) := by decide +kernel
theorem own_pn0 : plainName "java/lang/AbstractStringBuilder" = true := by decide +kernel
set_option maxHeartbeats 4000000 in
theorem own_ef_rm12 (m : MethodId) (x0 : Addr) (x1 : Int32) : entryFrame m #[(.ref x0), (.int x1)] 2 = mkF m 0 #[.val (.ref x0), .val (.int x1)] [] := by rfl
set_option maxRecDepth 65536 in
set_option maxHeartbeats 40000000 in
theorem rm12 (l : Launch) (Z : State) (a0 : Array Value) (hw : ∀ d ∈ tables_1, d.before a0 Z = true) (z0 : Int32) (O2 : Sta Z Z.heap "java/lang/String" "COMPACT_STRINGS" "Z" (.int z0)) (P5 : ¬ z0 = (0 : Int32)) (fm0 : Value) (O4 : Sta Z Z.heap "jdk/internal/util/Preconditions" "SIOOBE_FORMATTER" "Ljava/util/function/BiFunction;" fm0) (R4 : fm0.isRef = true) (ws : List Jvm.Cond) (a : Addr) (h0 : Heap) (n0 : Nat) (Z0 : n0 ≤ h0.size) (Xo : Old Z n0 h0) (Ea : Exa Z h0 a "java/lang/StringBuilder") (Fv : Fld Z h0 a "java/lang/AbstractStringBuilder" "value" "[B" .null) (Fc : Fld Z h0 a "java/lang/AbstractStringBuilder" "coder" "B" (.int (0 : Int32))) (Fn : Fld Z h0 a "java/lang/AbstractStringBuilder" "count" "I" (.int (0 : Int32))) (gz_a : n0 ≤ a) :
    own_MetN l Z (⟨"java/lang/AbstractStringBuilder", "<init>", "(I)V"⟩ : MethodName) jdk_68_method_2_code 2 none ws ({ frames := 1, cells := 1, slots := 16, locals := 12 } : Room) #[(.ref a), (.int (16 : Int32))] h0 (fun v h L => Fr n0 L ∧ Keep h0 h [a] ∧ ((∃ (t : Addr) (kb : ClassId), (v = none) ∧ (h0.size ≤ t) ∧ (Exa Z h a "java/lang/StringBuilder") ∧ (Fld Z h a "java/lang/AbstractStringBuilder" "value" "[B" (.ref t)) ∧ (Fld Z h a "java/lang/AbstractStringBuilder" "coder" "B" (.int (0 : Int32))) ∧ (Fld Z h a "java/lang/AbstractStringBuilder" "count" "I" (.int (own_n ([] : List Int32)))) ∧ (Arv Z h t kb .byte (16 : Int32) (own_bs ([] : List Int32)) (.int (0 : Int32)))))) := by
  refine own_metN (plainFor_of_name own_pn0) ?_
  intro p e s m below meth c s₁ G hx hby hml hZ hown hnm hret X0 e0 go fin
  have N0 := Fr.nil n0
  refine go _ _ (fun _ k => castTop (own_ef_rm12 m a (16 : Int32)) k) ?_
  show G (s₁.setTop (mkF m 0 #[.val (.ref a), .val (.int (16 : Int32))] []))
  refine go _ _ (fun _ k => XS.aloadN X0.here hx rfl (hb hby own_d12_0) rfl rfl k) ?_
  show G (s₁.setTop (mkF m 1 #[.val (.ref a), .val (.int (16 : Int32))] [(.ref a)]))
  obtain ⟨T101, X101, e101, st101⟩ := initO X0 hx hZ hown (ow hw 73 rfl) (ow hw 19 rfl) (ow hw 20 rfl) e0 (g := (mkF m 1 #[.val (.ref a), .val (.int (16 : Int32))] [(.ref a)])) rfl (by rw [hml]; rfl) rfl (hb hby own_d12_1) (by decide) (W := 0) (by show 2 * 0 + _ ≤ _; exact Nat.le_of_eq rfl) (by decide)
  refine go _ _ (st101) ?_
  show G (T101.setTop (mkF m 4 #[.val (.ref a), .val (.int (16 : Int32))] []))
  obtain ⟨T102, X102, e102, st102⟩ := getS2 X101 hx hZ (host := "") hown (Or.inl (ow hw 74 rfl)) Via.refl e101 (O2.ext Xo.2) (g := (mkF m 4 #[.val (.ref a), .val (.int (16 : Int32))] [])) rfl (hb hby own_d12_4)
  refine go _ _ (st102) ?_
  show G (T102.setTop (mkF m 7 #[.val (.ref a), .val (.int (16 : Int32))] [(.int z0)]))
  refine go _ _ (fun _ k => XS.ifNo X102.here hx rfl (hb hby own_d12_7) rfl ((if0 _ _).trans (feq P5).1) k) ?_
  show G (T102.setTop (mkF m 10 #[.val (.ref a), .val (.int (16 : Int32))] []))
  refine go _ _ (fun _ k => XS.aloadN X102.here hx rfl (hb hby own_d12_10) rfl rfl (XS.iloadN X102.here hx rfl (hb hby own_d12_11) rfl k)) ?_
  show G (T102.setTop (mkF m 12 #[.val (.ref a), .val (.int (16 : Int32))] [(.int (16 : Int32)), (.ref a)]))
  obtain ⟨T103, h103, k103, X103, e103, E103, A103, st103⟩ := newP X102 hx hZ (ow hw 26 rfl) e102 (g := (mkF m 12 #[.val (.ref a), .val (.int (16 : Int32))] [(.int (16 : Int32)), (.ref a)])) rfl (hb hby own_d12_12) rfl (by decide) (cap := 16) (by decide) (by decide) (by decide) (by decide)
  obtain ⟨b103, g103⟩ : ∃ z, z = h0.size := ⟨_, rfl⟩
  rw [← g103] at A103 st103
  have V103 : Arv Z h103 b103 k103 .byte (16 : Int32) [(.int (0 : Int32)), (.int (0 : Int32)), (.int (0 : Int32)), (.int (0 : Int32)), (.int (0 : Int32)), (.int (0 : Int32)), (.int (0 : Int32)), (.int (0 : Int32)), (.int (0 : Int32)), (.int (0 : Int32)), (.int (0 : Int32)), (.int (0 : Int32)), (.int (0 : Int32)), (.int (0 : Int32)), (.int (0 : Int32)), (.int (0 : Int32))] (.int (0 : Int32)) := (Arv.new A103 (by decide)).pad (pad_rep [] (.int (0 : Int32)) 16)
  refine go _ _ (st103) ?_
  show G (T103.setTop (mkF m 14 #[.val (.ref a), .val (.int (16 : Int32))] [(.ref b103), (.ref a)]))
  have K105 : Keep h0 h103 [] := (Keep.refl h0 []).ext E103
  have F106 : Fld Z h103 a "java/lang/AbstractStringBuilder" "value" "[B" .null := (Fv.keep K105 nin0)
  have F107 : Exa Z h103 a "java/lang/StringBuilder" := (Ea.keep K105)
  obtain ⟨T104, h104, X104, e104, W104, st104⟩ := putF X103 hx hZ hown (host := "") (Or.inl (ow hw 75 rfl)) Via.refl e103 F106 F107 (Or.inl (ow hw 76 rfl)) (ow hw 62 rfl) (ty := (.array .byte)) (by decide) rfl rfl (g := (mkF m 14 #[.val (.ref a), .val (.int (16 : Int32))] [(.ref b103), (.ref a)])) rfl rfl (hb hby own_d12_14)
  have F108 : Fld Z h103 a "java/lang/AbstractStringBuilder" "coder" "B" (.int (0 : Int32)) := (Fc.keep K105 nin0)
  have F109 : Fld Z h103 a "java/lang/AbstractStringBuilder" "count" "I" (.int (0 : Int32)) := (Fn.keep K105 nin0)
  have N104 := Fr.snoc X104 N0 gz_a
  refine go _ _ (st104) ?_
  show G (T104.setTop (mkF m 17 #[.val (.ref a), .val (.int (16 : Int32))] []))
  refine go _ _ (fun _ k => XS.aloadN X104.here hx rfl (hb hby own_d12_17) rfl rfl (XS.iconst X104.here hx rfl (hb hby own_d12_18) k)) ?_
  show G (T104.setTop (mkF m 19 #[.val (.ref a), .val (.int (16 : Int32))] [(.int (0 : Int32)), (.ref a)]))
  obtain ⟨T110, h110, X110, e110, W110, st110⟩ := putF X104 hx hZ hown (host := "") (Or.inl (ow hw 77 rfl)) Via.refl e104 (F108.other W104 (Or.inr (RoadKit.slot_ne (t := .byte) (t' := (.array .byte)) (Or.inl (ow hw 78 rfl)) (Or.inl (ow hw 76 rfl)) (by decide) (by decide) (by decide)))) (F107.wr W104) (Or.inl (ow hw 78 rfl)) (ow hw 62 rfl) (ty := .byte) (by decide) rfl rfl (g := (mkF m 19 #[.val (.ref a), .val (.int (16 : Int32))] [(.int (0 : Int32)), (.ref a)])) rfl rfl (hb hby own_d12_19)
  have N110 := Fr.snoc X110 N104 gz_a
  refine go _ _ (st110) ?_
  show G (T110.setTop (mkF m 22 #[.val (.ref a), .val (.int (16 : Int32))] []))
  refine go _ _ (fun _ k => XS.goto X110.here hx rfl (pc0 := 22) (pc' := 38) rfl (hb hby own_d12_22) (by decide) (by decide) k) ?_
  show G (T110.setTop (mkF m 38 #[.val (.ref a), .val (.int (16 : Int32))] []))
  have K111 : Keep h0 h103 [a] := (Keep.refl h0 [a]).ext E103
  have K112 : Keep h0 h104 [a] := K111.wr W104 (Or.inl (List.mem_of_getElem? (i := 0) rfl))
  have K113 : Keep h0 h110 [a] := K112.wr W110 (Or.inl (List.mem_of_getElem? (i := 0) rfl))
  have K114 : Keep h103 h104 [a] := (Keep.refl h103 [a]).wr W104 (Or.inl (List.mem_of_getElem? (i := 0) rfl))
  have K115 : Keep h103 h110 [a] := K114.wr W110 (Or.inl (List.mem_of_getElem? (i := 0) rfl))
  have F116 : Arv Z h110 b103 k103 .byte (16 : Int32) (own_bs ([] : List Int32)) (.int (0 : Int32)) := ((Arv.new A103 (by decide)).keep K115 (ninS (Ne.symm (Nat.ne_of_lt (Nat.lt_of_lt_of_le Fv.lt (Nat.le_of_eq g103.symm)))) nin0))
  refine fin T110 _ _ _ none X110 (fun _ => rfl) (by decide) (by decide) (by rw [e110]; exact ⟨N110, K113, ⟨b103, k103, rfl, (Nat.le_of_eq g103.symm), ((F107.wr W104).wr W110), ((F106.same W104).other W110 (Or.inr (RoadKit.slot_ne (t := (.array .byte)) (t' := .byte) (Or.inl (ow hw 76 rfl)) (Or.inl (ow hw 78 rfl)) (by decide) (by decide) (by decide)))), ((F108.other W104 (Or.inr (RoadKit.slot_ne (t := .byte) (t' := (.array .byte)) (Or.inl (ow hw 78 rfl)) (Or.inl (ow hw 76 rfl)) (by decide) (by decide) (by decide)))).same W110), ((F109.other W104 (Or.inr (RoadKit.slot_ne (t := .int) (t' := (.array .byte)) (Or.inl (ow hw 100 rfl)) (Or.inl (ow hw 76 rfl)) (by decide) (by decide) (by decide)))).other W110 (Or.inr (RoadKit.slot_ne (t := .int) (t' := .byte) (Or.inl (ow hw 100 rfl)) (Or.inl (ow hw 78 rfl)) (by decide) (by decide) (by decide)))), F116⟩⟩) _ (own_retV X110 hx hret (hb hby own_d12_38))
theorem own_d11_0 : decode jdk_67_method_1_code 0 = .ok (.aload_n 0, 1) := by decide +kernel
theorem own_d11_1 : decode jdk_67_method_1_code 1 = .ok (.bipush 16, 2) := by decide +kernel
theorem own_d11_3 : decode jdk_67_method_1_code 3 = .ok (.invokespecial 1, 3) := by decide +kernel
theorem own_d11_6 : decode jdk_67_method_1_code 6 = .ok (.return_, 1) := by decide +kernel
theorem own_pn1 : plainName "java/lang/StringBuilder" = true := by decide +kernel
theorem own_pd0 : parseMethodDescriptor "(I)V" = some ⟨[.int], none⟩ := by decide +kernel
set_option maxHeartbeats 4000000 in
theorem own_ef_rm11 (m : MethodId) (x0 : Addr) : entryFrame m #[(.ref x0)] 1 = mkF m 0 #[.val (.ref x0)] [] := by rfl
set_option maxRecDepth 65536 in
set_option maxHeartbeats 40000000 in
theorem rm11 (l : Launch) (Z : State) (a0 : Array Value) (hw : ∀ d ∈ tables_1, d.before a0 Z = true) (z0 : Int32) (O2 : Sta Z Z.heap "java/lang/String" "COMPACT_STRINGS" "Z" (.int z0)) (P5 : ¬ z0 = (0 : Int32)) (fm0 : Value) (O4 : Sta Z Z.heap "jdk/internal/util/Preconditions" "SIOOBE_FORMATTER" "Ljava/util/function/BiFunction;" fm0) (R4 : fm0.isRef = true) (ws : List Jvm.Cond) (a : Addr) (h0 : Heap) (n0 : Nat) (Z0 : n0 ≤ h0.size) (Xo : Old Z n0 h0) (Ea : Exa Z h0 a "java/lang/StringBuilder") (Fv : Fld Z h0 a "java/lang/AbstractStringBuilder" "value" "[B" .null) (Fc : Fld Z h0 a "java/lang/AbstractStringBuilder" "coder" "B" (.int (0 : Int32))) (Fn : Fld Z h0 a "java/lang/AbstractStringBuilder" "count" "I" (.int (0 : Int32))) (gz_a : n0 ≤ a) :
    own_MetN l Z (⟨"java/lang/StringBuilder", "<init>", "()V"⟩ : MethodName) jdk_67_method_1_code 1 none ws ({ frames := 2, cells := 1, slots := 16, locals := 25 } : Room) #[(.ref a)] h0 (fun v h L => Fr n0 L ∧ Keep h0 h [a] ∧ ((∃ (t : Addr) (kb : ClassId), (v = none) ∧ (h0.size ≤ t) ∧ (Exa Z h a "java/lang/StringBuilder") ∧ (Fld Z h a "java/lang/AbstractStringBuilder" "value" "[B" (.ref t)) ∧ (Fld Z h a "java/lang/AbstractStringBuilder" "coder" "B" (.int (0 : Int32))) ∧ (Fld Z h a "java/lang/AbstractStringBuilder" "count" "I" (.int (own_n ([] : List Int32)))) ∧ (Arv Z h t kb .byte (16 : Int32) (own_bs ([] : List Int32)) (.int (0 : Int32)))))) := by
  refine own_metN (plainFor_of_name own_pn1) ?_
  intro p e s m below meth c s₁ G hx hby hml hZ hown hnm hret X0 e0 go fin
  have N0 := Fr.nil n0
  refine go _ _ (fun _ k => castTop (own_ef_rm11 m a) k) ?_
  show G (s₁.setTop (mkF m 0 #[.val (.ref a)] []))
  refine go _ _ (fun _ k => XS.aloadN X0.here hx rfl (hb hby own_d11_0) rfl rfl (XS.bipush X0.here hx rfl (hb hby own_d11_1) k)) ?_
  show G (s₁.setTop (mkF m 3 #[.val (.ref a)] [(.int (16 : Int32)), (.ref a)]))
  obtain ⟨rv101, T101, L101, X101, q101, st101⟩ := own_sp X0 hx hZ (y := (⟨"java/lang/AbstractStringBuilder", "<init>", "(I)V"⟩ : MethodName)) rfl hown (ow hw 67 rfl) (ow hw 68 rfl) (ow hw 72 rfl) (by decide) (own_bkN (W := 0) (rm12 l Z a0 hw z0 O2 P5 fm0 O4 R4 [] a h0 n0 Z0 Xo Ea Fv Fc Fn gz_a) hZ (ow hw 72 rfl) (ow hw 71 rfl) (by decide) (by decide)) e0 (g := (mkF m 3 #[.val (.ref a)] [(.int (16 : Int32)), (.ref a)])) rfl (by rw [hml]; rfl) (a := a) (argsL := [(.int (16 : Int32))]) (rest := []) rfl (lenOf own_pd0 rfl) rfl (by show 2 * 0 + _ ≤ _; exact Nat.le_of_eq rfl) (hb hby own_d11_3) (by decide) (by decide)
  obtain ⟨Nq101, Kp101, ⟨t_102, kb_103, rfl, z104, f105, f106, f107, f108, f109⟩⟩ := q101
  have N101 := Fr.app N0 Nq101
  refine go _ _ (st101) ?_
  show G (T101.setTop (mkF m 6 #[.val (.ref a)] []))
  have K110 : Keep h0 T101.heap [a] := (Keep.refl h0 [a]).trans Kp101 (allS (Or.inl (List.mem_of_getElem? (i := 0) rfl)) all0)
  refine fin T101 _ _ _ none X101 (fun _ => rfl) (by decide) (by decide) ⟨N101, K110, ⟨t_102, kb_103, rfl, z104, f105, f106, f107, f108, f109⟩⟩ _ (own_retV X101 hx hret (hb hby own_d11_6))
theorem own_d16_0 : decode jdk_42_method_152_code 0 = .ok (.getstatic 38, 3) := by decide +kernel
theorem own_d16_3 : decode jdk_42_method_152_code 3 = .ok (.ifCond .eq 10, 3) := by decide +kernel
theorem own_d16_6 : decode jdk_42_method_152_code 6 = .ok (.aload_n 0, 1) := by decide +kernel
theorem own_d16_7 : decode jdk_42_method_152_code 7 = .ok (.getfield 15, 3) := by decide +kernel
theorem own_d16_10 : decode jdk_42_method_152_code 10 = .ok (.goto 4, 3) := by decide +kernel
theorem own_d16_13 : decode jdk_42_method_152_code 13 = .ok (.iconst 1, 1) := by decide +kernel
theorem own_d16_14 : decode jdk_42_method_152_code 14 = .ok (.ireturn, 1) := by decide +kernel
theorem own_pn2 : plainName "java/lang/String" = true := by decide +kernel
set_option maxHeartbeats 4000000 in
theorem own_ef_rm16 (m : MethodId) (x0 : Addr) : entryFrame m #[(.ref x0)] 1 = mkF m 0 #[.val (.ref x0)] [] := by rfl
set_option maxRecDepth 65536 in
set_option maxHeartbeats 40000000 in
theorem rm16 (l : Launch) (Z : State) (a0 : Array Value) (hw : ∀ d ∈ tables_1, d.before a0 Z = true) (z0 : Int32) (O2 : Sta Z Z.heap "java/lang/String" "COMPACT_STRINGS" "Z" (.int z0)) (P5 : ¬ z0 = (0 : Int32)) (fm0 : Value) (O4 : Sta Z Z.heap "jdk/internal/util/Preconditions" "SIOOBE_FORMATTER" "Ljava/util/function/BiFunction;" fm0) (R4 : fm0.isRef = true) (ws : List Jvm.Cond) (a : Addr) (h0 : Heap) (n0 : Nat) (Z0 : n0 ≤ h0.size) (Xo : Old Z n0 h0) (Fc : Fld Z h0 a "java/lang/String" "coder" "B" (.int (0 : Int32))) :
    own_MetN l Z (⟨"java/lang/String", "coder", "()B"⟩ : MethodName) jdk_42_method_152_code 1 (some .byte) ws ({ frames := 0, cells := 0, slots := 0, locals := 0 } : Room) #[(.ref a)] h0 (fun v h L => Fr n0 L ∧ h = h0 ∧ (((v = some (.int (0 : Int32)))))) := by
  refine own_metN (plainFor_of_name own_pn2) ?_
  intro p e s m below meth c s₁ G hx hby hml hZ hown hnm hret X0 e0 go fin
  have N0 := Fr.nil n0
  refine go _ _ (fun _ k => castTop (own_ef_rm16 m a) k) ?_
  show G (s₁.setTop (mkF m 0 #[.val (.ref a)] []))
  obtain ⟨T101, X101, e101, st101⟩ := getS2 X0 hx hZ (host := "") hown (Or.inl (ow hw 21 rfl)) Via.refl e0 (O2.ext Xo.2) (g := (mkF m 0 #[.val (.ref a)] [])) rfl (hb hby own_d16_0)
  refine go _ _ (st101) ?_
  show G (T101.setTop (mkF m 3 #[.val (.ref a)] [(.int z0)]))
  refine go _ _ (fun _ k => XS.ifNo X101.here hx rfl (hb hby own_d16_3) rfl ((if0 _ _).trans (feq P5).1) k) ?_
  show G (T101.setTop (mkF m 6 #[.val (.ref a)] []))
  refine go _ _ (fun _ k => XS.aloadN X101.here hx rfl (hb hby own_d16_6) rfl rfl k) ?_
  show G (T101.setTop (mkF m 7 #[.val (.ref a)] [(.ref a)]))
  obtain ⟨T102, X102, e102, st102⟩ := getF X101 hx hZ hown (host := "") (Or.inl (ow hw 33 rfl)) Via.refl e101 Fc (g := (mkF m 7 #[.val (.ref a)] [(.ref a)])) rfl rfl (hb hby own_d16_7)
  refine go _ _ (st102) ?_
  show G (T102.setTop (mkF m 10 #[.val (.ref a)] [(.int (0 : Int32))]))
  refine go _ _ (fun _ k => XS.goto X102.here hx rfl (pc0 := 10) (pc' := 14) rfl (hb hby own_d16_10) (by decide) (by decide) k) ?_
  show G (T102.setTop (mkF m 14 #[.val (.ref a)] [(.int (0 : Int32))]))
  refine fin T102 _ _ _ (some (.int (0 : Int32))) X102 (fun q => nomatch q) (by decide) (by decide) (by rw [e102]; exact ⟨N0, rfl, rfl⟩) _ (own_retN X102 hx (z := (0 : Int32)) (t := .byte) hret (by simp) (hb hby own_d16_14))
theorem own_d24_0 : decode jdk_68_method_64_code 0 = .ok (.aload_n 0, 1) := by decide +kernel
theorem own_d24_1 : decode jdk_68_method_64_code 1 = .ok (.getfield 15, 3) := by decide +kernel
theorem own_d24_4 : decode jdk_68_method_64_code 4 = .ok (.areturn, 1) := by decide +kernel
set_option maxHeartbeats 4000000 in
theorem own_ef_rm24 (m : MethodId) (x0 : Addr) : entryFrame m #[(.ref x0)] 1 = mkF m 0 #[.val (.ref x0)] [] := by rfl
set_option maxRecDepth 65536 in
set_option maxHeartbeats 40000000 in
theorem rm24 (l : Launch) (Z : State) (a0 : Array Value) (hw : ∀ d ∈ tables_1, d.before a0 Z = true) (z0 : Int32) (O2 : Sta Z Z.heap "java/lang/String" "COMPACT_STRINGS" "Z" (.int z0)) (P5 : ¬ z0 = (0 : Int32)) (fm0 : Value) (O4 : Sta Z Z.heap "jdk/internal/util/Preconditions" "SIOOBE_FORMATTER" "Ljava/util/function/BiFunction;" fm0) (R4 : fm0.isRef = true) (ws : List Jvm.Cond) (a : Addr) (t : Addr) (h0 : Heap) (n0 : Nat) (Z0 : n0 ≤ h0.size) (Fv : Fld Z h0 a "java/lang/AbstractStringBuilder" "value" "[B" (.ref t)) :
    own_MetN l Z (⟨"java/lang/AbstractStringBuilder", "getValue", "()[B"⟩ : MethodName) jdk_68_method_64_code 1 (some (.array .byte)) ws ({ frames := 0, cells := 0, slots := 0, locals := 0 } : Room) #[(.ref a)] h0 (fun v h L => Fr n0 L ∧ h = h0 ∧ (((v = some (.ref t))))) := by
  refine own_metN (plainFor_of_name own_pn0) ?_
  intro p e s m below meth c s₁ G hx hby hml hZ hown hnm hret X0 e0 go fin
  have N0 := Fr.nil n0
  refine go _ _ (fun _ k => castTop (own_ef_rm24 m a) k) ?_
  show G (s₁.setTop (mkF m 0 #[.val (.ref a)] []))
  refine go _ _ (fun _ k => XS.aloadN X0.here hx rfl (hb hby own_d24_0) rfl rfl k) ?_
  show G (s₁.setTop (mkF m 1 #[.val (.ref a)] [(.ref a)]))
  obtain ⟨T101, X101, e101, st101⟩ := getF X0 hx hZ hown (host := "") (Or.inl (ow hw 75 rfl)) Via.refl e0 Fv (g := (mkF m 1 #[.val (.ref a)] [(.ref a)])) rfl rfl (hb hby own_d24_1)
  refine go _ _ (st101) ?_
  show G (T101.setTop (mkF m 4 #[.val (.ref a)] [(.ref t)]))
  refine fin T101 _ _ _ (some (.ref t)) X101 (fun q => nomatch q) (by decide) (by decide) (by rw [e101]; exact ⟨N0, rfl, rfl⟩) _ (own_retA X101 hx hret rfl rfl rfl (hb hby own_d24_4))
theorem own_d26_0 : decode jdk_68_method_6_code 0 = .ok (.aload_n 0, 1) := by decide +kernel
theorem own_d26_1 : decode jdk_68_method_6_code 1 = .ok (.getfield 79, 3) := by decide +kernel
theorem own_d26_4 : decode jdk_68_method_6_code 4 = .ok (.ireturn, 1) := by decide +kernel
set_option maxHeartbeats 4000000 in
theorem own_ef_rm26 (m : MethodId) (x0 : Addr) : entryFrame m #[(.ref x0)] 1 = mkF m 0 #[.val (.ref x0)] [] := by rfl
set_option maxRecDepth 65536 in
set_option maxHeartbeats 40000000 in
theorem rm26 (l : Launch) (Z : State) (a0 : Array Value) (hw : ∀ d ∈ tables_1, d.before a0 Z = true) (z0 : Int32) (O2 : Sta Z Z.heap "java/lang/String" "COMPACT_STRINGS" "Z" (.int z0)) (P5 : ¬ z0 = (0 : Int32)) (fm0 : Value) (O4 : Sta Z Z.heap "jdk/internal/util/Preconditions" "SIOOBE_FORMATTER" "Ljava/util/function/BiFunction;" fm0) (R4 : fm0.isRef = true) (ws : List Jvm.Cond) (a : Addr) (n : Int32) (h0 : Heap) (n0 : Nat) (Z0 : n0 ≤ h0.size) (Fn : Fld Z h0 a "java/lang/AbstractStringBuilder" "count" "I" (.int n)) :
    own_MetN l Z (⟨"java/lang/AbstractStringBuilder", "length", "()I"⟩ : MethodName) jdk_68_method_6_code 1 (some .int) ws ({ frames := 0, cells := 0, slots := 0, locals := 0 } : Room) #[(.ref a)] h0 (fun v h L => Fr n0 L ∧ h = h0 ∧ (((v = some (.int n))))) := by
  refine own_metN (plainFor_of_name own_pn0) ?_
  intro p e s m below meth c s₁ G hx hby hml hZ hown hnm hret X0 e0 go fin
  have N0 := Fr.nil n0
  refine go _ _ (fun _ k => castTop (own_ef_rm26 m a) k) ?_
  show G (s₁.setTop (mkF m 0 #[.val (.ref a)] []))
  refine go _ _ (fun _ k => XS.aloadN X0.here hx rfl (hb hby own_d26_0) rfl rfl k) ?_
  show G (s₁.setTop (mkF m 1 #[.val (.ref a)] [(.ref a)]))
  obtain ⟨T101, X101, e101, st101⟩ := getF X0 hx hZ hown (host := "") (Or.inl (ow hw 99 rfl)) Via.refl e0 Fn (g := (mkF m 1 #[.val (.ref a)] [(.ref a)])) rfl rfl (hb hby own_d26_1)
  refine go _ _ (st101) ?_
  show G (T101.setTop (mkF m 4 #[.val (.ref a)] [(.int n)]))
  refine fin T101 _ _ _ (some (.int n)) X101 (fun q => nomatch q) (by decide) (by decide) (by rw [e101]; exact ⟨N0, rfl, rfl⟩) _ (own_retI X101 hx hret (hb hby own_d26_4))
theorem own_d27_0 : decode jdk_68_method_68_code 0 = .ok (.getstatic 18, 3) := by decide +kernel
theorem own_d27_3 : decode jdk_68_method_68_code 3 = .ok (.ifCond .eq 14, 3) := by decide +kernel
theorem own_d27_6 : decode jdk_68_method_68_code 6 = .ok (.aload_n 0, 1) := by decide +kernel
theorem own_d27_7 : decode jdk_68_method_68_code 7 = .ok (.getfield 22, 3) := by decide +kernel
theorem own_d27_10 : decode jdk_68_method_68_code 10 = .ok (.ifCond .ne 7, 3) := by decide +kernel
theorem own_d27_13 : decode jdk_68_method_68_code 13 = .ok (.iconst 1, 1) := by decide +kernel
theorem own_d27_14 : decode jdk_68_method_68_code 14 = .ok (.goto 4, 3) := by decide +kernel
theorem own_d27_17 : decode jdk_68_method_68_code 17 = .ok (.iconst 0, 1) := by decide +kernel
theorem own_d27_18 : decode jdk_68_method_68_code 18 = .ok (.ireturn, 1) := by decide +kernel
set_option maxHeartbeats 4000000 in
theorem own_ef_rm27 (m : MethodId) (x0 : Addr) : entryFrame m #[(.ref x0)] 1 = mkF m 0 #[.val (.ref x0)] [] := by rfl
set_option maxRecDepth 65536 in
set_option maxHeartbeats 40000000 in
theorem rm27 (l : Launch) (Z : State) (a0 : Array Value) (hw : ∀ d ∈ tables_1, d.before a0 Z = true) (z0 : Int32) (O2 : Sta Z Z.heap "java/lang/String" "COMPACT_STRINGS" "Z" (.int z0)) (P5 : ¬ z0 = (0 : Int32)) (fm0 : Value) (O4 : Sta Z Z.heap "jdk/internal/util/Preconditions" "SIOOBE_FORMATTER" "Ljava/util/function/BiFunction;" fm0) (R4 : fm0.isRef = true) (ws : List Jvm.Cond) (a : Addr) (h0 : Heap) (n0 : Nat) (Z0 : n0 ≤ h0.size) (Xo : Old Z n0 h0) (Fc : Fld Z h0 a "java/lang/AbstractStringBuilder" "coder" "B" (.int (0 : Int32))) :
    own_MetN l Z (⟨"java/lang/AbstractStringBuilder", "isLatin1", "()Z"⟩ : MethodName) jdk_68_method_68_code 1 (some .boolean) ws ({ frames := 0, cells := 0, slots := 0, locals := 0 } : Room) #[(.ref a)] h0 (fun v h L => Fr n0 L ∧ h = h0 ∧ (((v = some (.int (1 : Int32)))))) := by
  refine own_metN (plainFor_of_name own_pn0) ?_
  intro p e s m below meth c s₁ G hx hby hml hZ hown hnm hret X0 e0 go fin
  have N0 := Fr.nil n0
  refine go _ _ (fun _ k => castTop (own_ef_rm27 m a) k) ?_
  show G (s₁.setTop (mkF m 0 #[.val (.ref a)] []))
  obtain ⟨T101, X101, e101, st101⟩ := getS2 X0 hx hZ (host := "") hown (Or.inl (ow hw 74 rfl)) Via.refl e0 (O2.ext Xo.2) (g := (mkF m 0 #[.val (.ref a)] [])) rfl (hb hby own_d27_0)
  refine go _ _ (st101) ?_
  show G (T101.setTop (mkF m 3 #[.val (.ref a)] [(.int z0)]))
  refine go _ _ (fun _ k => XS.ifNo X101.here hx rfl (hb hby own_d27_3) rfl ((if0 _ _).trans (feq P5).1) k) ?_
  show G (T101.setTop (mkF m 6 #[.val (.ref a)] []))
  refine go _ _ (fun _ k => XS.aloadN X101.here hx rfl (hb hby own_d27_6) rfl rfl k) ?_
  show G (T101.setTop (mkF m 7 #[.val (.ref a)] [(.ref a)]))
  obtain ⟨T102, X102, e102, st102⟩ := getF X101 hx hZ hown (host := "") (Or.inl (ow hw 77 rfl)) Via.refl e101 Fc (g := (mkF m 7 #[.val (.ref a)] [(.ref a)])) rfl rfl (hb hby own_d27_7)
  refine go _ _ (st102) ?_
  show G (T102.setTop (mkF m 10 #[.val (.ref a)] [(.int (0 : Int32))]))
  refine go _ _ (fun _ k => XS.ifNo X102.here hx rfl (hb hby own_d27_10) rfl (by decide) k) ?_
  show G (T102.setTop (mkF m 13 #[.val (.ref a)] []))
  refine go _ _ (fun _ k => XS.iconst X102.here hx rfl (hb hby own_d27_13) k) ?_
  show G (T102.setTop (mkF m 14 #[.val (.ref a)] [(.int (1 : Int32))]))
  refine go _ _ (fun _ k => XS.goto X102.here hx rfl (pc0 := 14) (pc' := 18) rfl (hb hby own_d27_14) (by decide) (by decide) k) ?_
  show G (T102.setTop (mkF m 18 #[.val (.ref a)] [(.int (1 : Int32))]))
  refine fin T102 _ _ _ (some (.int (1 : Int32))) X102 (fun q => nomatch q) (by decide) (by decide) (by rw [e102]; exact ⟨N0, rfl, rfl⟩) _ (own_retN X102 hx (z := (1 : Int32)) (t := .boolean) hret (by simp) (hb hby own_d27_18))
theorem own_d25_0 : decode jdk_67_method_93_code 0 = .ok (.aload_n 0, 1) := by decide +kernel
theorem own_d25_1 : decode jdk_67_method_93_code 1 = .ok (.invokespecial 343, 3) := by decide +kernel
theorem own_d25_4 : decode jdk_67_method_93_code 4 = .ok (.ireturn, 1) := by decide +kernel
theorem own_pd1 : parseMethodDescriptor "()I" = some ⟨[], some .int⟩ := by decide +kernel
set_option maxHeartbeats 4000000 in
theorem own_ef_rm25 (m : MethodId) (x0 : Addr) : entryFrame m #[(.ref x0)] 1 = mkF m 0 #[.val (.ref x0)] [] := by rfl
set_option maxRecDepth 65536 in
set_option maxHeartbeats 40000000 in
theorem rm25 (l : Launch) (Z : State) (a0 : Array Value) (hw : ∀ d ∈ tables_1, d.before a0 Z = true) (z0 : Int32) (O2 : Sta Z Z.heap "java/lang/String" "COMPACT_STRINGS" "Z" (.int z0)) (P5 : ¬ z0 = (0 : Int32)) (fm0 : Value) (O4 : Sta Z Z.heap "jdk/internal/util/Preconditions" "SIOOBE_FORMATTER" "Ljava/util/function/BiFunction;" fm0) (R4 : fm0.isRef = true) (ws : List Jvm.Cond) (a : Addr) (n : Int32) (h0 : Heap) (n0 : Nat) (Z0 : n0 ≤ h0.size) (Ea : Exa Z h0 a "java/lang/StringBuilder") (Fn : Fld Z h0 a "java/lang/AbstractStringBuilder" "count" "I" (.int n)) :
    own_MetN l Z (⟨"java/lang/StringBuilder", "length", "()I"⟩ : MethodName) jdk_67_method_93_code 1 (some .int) ws ({ frames := 1, cells := 0, slots := 0, locals := 12 } : Room) #[(.ref a)] h0 (fun v h L => Fr n0 L ∧ h = h0 ∧ (((v = some (.int n))))) := by
  refine own_metN (plainFor_of_name own_pn1) ?_
  intro p e s m below meth c s₁ G hx hby hml hZ hown hnm hret X0 e0 go fin
  have N0 := Fr.nil n0
  refine go _ _ (fun _ k => castTop (own_ef_rm25 m a) k) ?_
  show G (s₁.setTop (mkF m 0 #[.val (.ref a)] []))
  refine go _ _ (fun _ k => XS.aloadN X0.here hx rfl (hb hby own_d25_0) rfl rfl k) ?_
  show G (s₁.setTop (mkF m 1 #[.val (.ref a)] [(.ref a)]))
  obtain ⟨rv101, T101, L101, X101, q101, st101⟩ := own_su X0 hx hZ (y := (⟨"java/lang/AbstractStringBuilder", "length", "()I"⟩ : MethodName)) hown (ow hw 150 rfl) (own_same (z := (⟨"java/lang/AbstractStringBuilder", "ensureCapacityInternal", "(I)V"⟩ : MethodName)) (by decide) rfl (ow hw 104 rfl) (ow hw 146 rfl)) (ow hw 146 rfl) (ow hw 86 rfl) (by decide) (ow hw 151 rfl) (own_bkN (W := 0) (rm26 l Z a0 hw z0 O2 P5 fm0 O4 R4 [] a n h0 n0 Z0 Fn) hZ (ow hw 151 rfl) (ow hw 71 rfl) (by decide) (by decide)) e0 Ea (g := (mkF m 1 #[.val (.ref a)] [(.ref a)])) rfl (by rw [hml]; rfl) (argsL := []) (rest := []) rfl (lenOf own_pd1 rfl) rfl (by show 2 * 0 + _ ≤ _; exact Nat.le_of_eq rfl) (hb hby own_d25_1) (by decide) (by decide)
  obtain ⟨Nq101, e101, rfl⟩ := q101
  have N101 := Fr.app N0 Nq101
  refine go _ _ (st101) ?_
  show G (T101.setTop (mkF m 4 #[.val (.ref a)] [(.int n)]))
  refine fin T101 _ _ _ (some (.int n)) X101 (fun q => nomatch q) (by decide) (by decide) (by rw [e101]; exact ⟨N101, rfl, rfl⟩) _ (own_retI X101 hx hret (hb hby own_d25_4))
theorem own_d31_0 : decode jdk_29_method_69_code 0 = .ok (.iload_n 0, 1) := by decide +kernel
theorem own_d31_1 : decode jdk_29_method_69_code 1 = .ok (.iload_n 1, 1) := by decide +kernel
theorem own_d31_2 : decode jdk_29_method_69_code 2 = .ok (.if_icmp .gt 7, 3) := by decide +kernel
theorem own_d31_5 : decode jdk_29_method_69_code 5 = .ok (.iload_n 0, 1) := by decide +kernel
theorem own_d31_6 : decode jdk_29_method_69_code 6 = .ok (.goto 4, 3) := by decide +kernel
theorem own_d31_9 : decode jdk_29_method_69_code 9 = .ok (.iload_n 1, 1) := by decide +kernel
theorem own_d31_10 : decode jdk_29_method_69_code 10 = .ok (.ireturn, 1) := by decide +kernel
set_option maxHeartbeats 4000000 in
theorem own_ef_rm31 (m : MethodId) (x0 : Int32) (x1 : Int32) : entryFrame m #[(.int x0), (.int x1)] 2 = mkF m 0 #[.val (.int x0), .val (.int x1)] [] := by rfl
set_option maxRecDepth 65536 in
set_option maxHeartbeats 40000000 in
theorem rm31 (l : Launch) (Z : State) (a0 : Array Value) (hw : ∀ d ∈ tables_1, d.before a0 Z = true) (z0 : Int32) (O2 : Sta Z Z.heap "java/lang/String" "COMPACT_STRINGS" "Z" (.int z0)) (P5 : ¬ z0 = (0 : Int32)) (fm0 : Value) (O4 : Sta Z Z.heap "jdk/internal/util/Preconditions" "SIOOBE_FORMATTER" "Ljava/util/function/BiFunction;" fm0) (R4 : fm0.isRef = true) (ws : List Jvm.Cond) (x : Int32) (y : Int32) (h0 : Heap) (n0 : Nat) (Z0 : n0 ≤ h0.size) :
    own_MetN l Z (⟨"java/lang/Math", "min", "(II)I"⟩ : MethodName) jdk_29_method_69_code 2 (some .int) ws ({ frames := 0, cells := 0, slots := 0, locals := 0 } : Room) #[(.int x), (.int y)] h0 (fun v h L => Fr n0 L ∧ h = h0 ∧ (((v = some (.int y)) ∧ (y < x)) ∨ ((v = some (.int x)) ∧ (¬ y < x)))) := by
  refine own_metN (Free.JP.mathPlain rfl (by decide)) ?_
  intro p e s m below meth c s₁ G hx hby hml hZ hown hnm hret X0 e0 go fin
  have N0 := Fr.nil n0
  refine go _ _ (fun _ k => castTop (own_ef_rm31 m x y) k) ?_
  show G (s₁.setTop (mkF m 0 #[.val (.int x), .val (.int y)] []))
  refine go _ _ (fun _ k => XS.iloadN X0.here hx rfl (hb hby own_d31_0) rfl (XS.iloadN X0.here hx rfl (hb hby own_d31_1) rfl k)) ?_
  show G (s₁.setTop (mkF m 2 #[.val (.int x), .val (.int y)] [(.int y), (.int x)]))
  by_cases hc2_101 : y < x
  · refine go _ _ (fun _ k => XS.icmpYes X0.here hx rfl (pc0 := 2) (pc' := 9) rfl (hb hby own_d31_2) rfl (tlt hc2_101).2.2.1 (by decide) (by decide) k) ?_
    show G (s₁.setTop (mkF m 9 #[.val (.int x), .val (.int y)] []))
    refine go _ _ (fun _ k => XS.iloadN X0.here hx rfl (hb hby own_d31_9) rfl k) ?_
    show G (s₁.setTop (mkF m 10 #[.val (.int x), .val (.int y)] [(.int y)]))
    refine fin s₁ _ _ _ (some (.int y)) X0 (fun q => nomatch q) (by decide) (by decide) (by rw [e0]; exact ⟨N0, rfl, (Or.inl ⟨rfl, hc2_101⟩)⟩) _ (own_retI X0 hx hret (hb hby own_d31_10))
  · refine go _ _ (fun _ k => XS.icmpNo X0.here hx rfl (hb hby own_d31_2) rfl (flt hc2_101).2.2.1 k) ?_
    show G (s₁.setTop (mkF m 5 #[.val (.int x), .val (.int y)] []))
    refine go _ _ (fun _ k => XS.iloadN X0.here hx rfl (hb hby own_d31_5) rfl k) ?_
    show G (s₁.setTop (mkF m 6 #[.val (.int x), .val (.int y)] [(.int x)]))
    refine go _ _ (fun _ k => XS.goto X0.here hx rfl (pc0 := 6) (pc' := 10) rfl (hb hby own_d31_6) (by decide) (by decide) k) ?_
    show G (s₁.setTop (mkF m 10 #[.val (.int x), .val (.int y)] [(.int x)]))
    refine fin s₁ _ _ _ (some (.int x)) X0 (fun q => nomatch q) (by decide) (by decide) (by rw [e0]; exact ⟨N0, rfl, (Or.inr ⟨rfl, hc2_101⟩)⟩) _ (own_retI X0 hx hret (hb hby own_d31_10))
theorem own_d17_0 : decode jdk_68_method_9_code 0 = .ok (.aload_n 0, 1) := by decide +kernel
theorem own_d17_1 : decode jdk_68_method_9_code 1 = .ok (.getfield 15, 3) := by decide +kernel
theorem own_d17_4 : decode jdk_68_method_9_code 4 = .ok (.arraylength, 1) := by decide +kernel
theorem own_d17_5 : decode jdk_68_method_9_code 5 = .ok (.aload_n 0, 1) := by decide +kernel
theorem own_d17_6 : decode jdk_68_method_9_code 6 = .ok (.getfield 22, 3) := by decide +kernel
theorem own_d17_9 : decode jdk_68_method_9_code 9 = .ok (.ishr, 1) := by decide +kernel
theorem own_d17_10 : decode jdk_68_method_9_code 10 = .ok (.istore_n 2, 1) := by decide +kernel
theorem own_d17_11 : decode jdk_68_method_9_code 11 = .ok (.iload_n 1, 1) := by decide +kernel
theorem own_d17_12 : decode jdk_68_method_9_code 12 = .ok (.iload_n 2, 1) := by decide +kernel
theorem own_d17_13 : decode jdk_68_method_9_code 13 = .ok (.isub, 1) := by decide +kernel
theorem own_d17_14 : decode jdk_68_method_9_code 14 = .ok (.ifCond .le 24, 3) := by decide +kernel
theorem own_d17_17 : decode jdk_68_method_9_code 17 = .ok (.aload_n 0, 1) := by decide +kernel
theorem own_d17_18 : decode jdk_68_method_9_code 18 = .ok (.aload_n 0, 1) := by decide +kernel
theorem own_d17_19 : decode jdk_68_method_9_code 19 = .ok (.getfield 15, 3) := by decide +kernel
theorem own_d17_22 : decode jdk_68_method_9_code 22 = .ok (.aload_n 0, 1) := by decide +kernel
theorem own_d17_23 : decode jdk_68_method_9_code 23 = .ok (.iload_n 1, 1) := by decide +kernel
theorem own_d17_24 : decode jdk_68_method_9_code 24 = .ok (.invokevirtual 104, 3) := by decide +kernel
theorem own_d17_27 : decode jdk_68_method_9_code 27 = .ok (.aload_n 0, 1) := by decide +kernel
theorem own_d17_28 : decode jdk_68_method_9_code 28 = .ok (.getfield 22, 3) := by decide +kernel
theorem own_d17_31 : decode jdk_68_method_9_code 31 = .ok (.ishl, 1) := by decide +kernel
theorem own_d17_32 : decode jdk_68_method_9_code 32 = .ok (.invokestatic 108, 3) := by decide +kernel
theorem own_d17_35 : decode jdk_68_method_9_code 35 = .ok (.putfield 15, 3) := by decide +kernel
theorem own_d17_38 : decode jdk_68_method_9_code 38 = .ok (.return_, 1) := by decide +kernel
set_option maxHeartbeats 4000000 in
theorem own_ef_rm17 (m : MethodId) (x0 : Addr) (x1 : Int32) : entryFrame m #[(.ref x0), (.int x1)] 3 = mkF m 0 #[.val (.ref x0), .val (.int x1), .unset] [] := by rfl
set_option maxRecDepth 65536 in
set_option maxHeartbeats 40000000 in
theorem rm17 (l : Launch) (Z : State) (a0 : Array Value) (hw : ∀ d ∈ tables_1, d.before a0 Z = true) (z0 : Int32) (O2 : Sta Z Z.heap "java/lang/String" "COMPACT_STRINGS" "Z" (.int z0)) (P5 : ¬ z0 = (0 : Int32)) (fm0 : Value) (O4 : Sta Z Z.heap "jdk/internal/util/Preconditions" "SIOOBE_FORMATTER" "Ljava/util/function/BiFunction;" fm0) (R4 : fm0.isRef = true) (ws : List Jvm.Cond) (a : Addr) (mn : Int32) (t : Addr) (kb : ClassId) (vs : List Value) (h0 : Heap) (n0 : Nat) (Z0 : n0 ≤ h0.size) (Fv : Fld Z h0 a "java/lang/AbstractStringBuilder" "value" "[B" (.ref t)) (Fc : Fld Z h0 a "java/lang/AbstractStringBuilder" "coder" "B" (.int (0 : Int32))) (At : Arv Z h0 t kb .byte (16 : Int32) vs (.int (0 : Int32))) (hm : ¬ (0 : Int32) < (mn - (16 : Int32))) :
    own_MetN l Z (⟨"java/lang/AbstractStringBuilder", "ensureCapacityInternal", "(I)V"⟩ : MethodName) jdk_68_method_9_code 3 none ws ({ frames := 0, cells := 0, slots := 0, locals := 0 } : Room) #[(.ref a), (.int mn)] h0 (fun v h L => Fr n0 L ∧ h = h0 ∧ (((v = none)))) := by
  refine own_metN (plainFor_of_name own_pn0) ?_
  intro p e s m below meth c s₁ G hx hby hml hZ hown hnm hret X0 e0 go fin
  have N0 := Fr.nil n0
  refine go _ _ (fun _ k => castTop (own_ef_rm17 m a mn) k) ?_
  show G (s₁.setTop (mkF m 0 #[.val (.ref a), .val (.int mn), .unset] []))
  refine go _ _ (fun _ k => XS.aloadN X0.here hx rfl (hb hby own_d17_0) rfl rfl k) ?_
  show G (s₁.setTop (mkF m 1 #[.val (.ref a), .val (.int mn), .unset] [(.ref a)]))
  obtain ⟨T101, X101, e101, st101⟩ := getF X0 hx hZ hown (host := "") (Or.inl (ow hw 75 rfl)) Via.refl e0 Fv (g := (mkF m 1 #[.val (.ref a), .val (.int mn), .unset] [(.ref a)])) rfl rfl (hb hby own_d17_1)
  refine go _ _ (st101) ?_
  show G (T101.setTop (mkF m 4 #[.val (.ref a), .val (.int mn), .unset] [(.ref t)]))
  obtain ⟨cl102, Ar102, q102, S102, M102, H102, U102⟩ := id At
  refine go _ _ (fun _ k => X101.arraylength hx (by rw [e101]; exact Ar102.1) (State.isArrayOf_alike hZ.alike Ar102.2.1) (g := (mkF m 4 #[.val (.ref a), .val (.int mn), .unset] [(.ref t)])) rfl rfl (hb hby own_d17_4) _ k) ?_
  show G (T101.setTop (mkF m 5 #[.val (.ref a), .val (.int mn), .unset] [(.int cl102.slots.size.toInt32)]))
  rw [len_of S102 M102]
  show G (T101.setTop (mkF m 5 #[.val (.ref a), .val (.int mn), .unset] [(.int (16 : Int32))]))
  refine go _ _ (fun _ k => XS.aloadN X101.here hx rfl (hb hby own_d17_5) rfl rfl k) ?_
  show G (T101.setTop (mkF m 6 #[.val (.ref a), .val (.int mn), .unset] [(.ref a), (.int (16 : Int32))]))
  obtain ⟨T103, X103, e103, st103⟩ := getF X101 hx hZ hown (host := "") (Or.inl (ow hw 77 rfl)) Via.refl e101 Fc (g := (mkF m 6 #[.val (.ref a), .val (.int mn), .unset] [(.ref a), (.int (16 : Int32))])) rfl rfl (hb hby own_d17_6)
  refine go _ _ (st103) ?_
  show G (T103.setTop (mkF m 9 #[.val (.ref a), .val (.int mn), .unset] [(.int (0 : Int32)), (.int (16 : Int32))]))
  refine go _ _ (fun _ k => XS.ishr X103.here hx rfl (hb hby own_d17_9) rfl (XS.istoreN X103.here hx rfl (hb hby own_d17_10) rfl (l' := #[.val (.ref a), .val (.int mn), .val (.int (16 : Int32))]) rfl (XS.iloadN X103.here hx rfl (hb hby own_d17_11) rfl (XS.iloadN X103.here hx rfl (hb hby own_d17_12) rfl (XS.isub X103.here hx rfl (hb hby own_d17_13) rfl k))))) ?_
  show G (T103.setTop (mkF m 14 #[.val (.ref a), .val (.int mn), .val (.int (16 : Int32))] [(.int (mn - (16 : Int32)))]))
  refine go _ _ (fun _ k => XS.ifYes X103.here hx rfl (pc0 := 14) (pc' := 38) rfl (hb hby own_d17_14) rfl ((if0 _ _).trans (flt hm).2.2.2) (by decide) (by decide) k) ?_
  show G (T103.setTop (mkF m 38 #[.val (.ref a), .val (.int mn), .val (.int (16 : Int32))] []))
  refine fin T103 _ _ _ none X103 (fun _ => rfl) (by decide) (by decide) (by rw [e103]; exact ⟨N0, rfl, rfl⟩) _ (own_retV X103 hx hret (hb hby own_d17_38))
theorem own_d19_0 : decode jdk_68_method_71_code 0 = .ok (.getstatic 18, 3) := by decide +kernel
theorem own_d19_3 : decode jdk_68_method_71_code 3 = .ok (.ifCond .eq 18, 3) := by decide +kernel
theorem own_d19_6 : decode jdk_68_method_71_code 6 = .ok (.aload_n 0, 1) := by decide +kernel
theorem own_d19_7 : decode jdk_68_method_71_code 7 = .ok (.getfield 22, 3) := by decide +kernel
theorem own_d19_10 : decode jdk_68_method_71_code 10 = .ok (.aload_n 1, 1) := by decide +kernel
theorem own_d19_11 : decode jdk_68_method_71_code 11 = .ok (.invokevirtual 40, 3) := by decide +kernel
theorem own_d19_14 : decode jdk_68_method_71_code 14 = .ok (.if_icmp .eq 7, 3) := by decide +kernel
theorem own_d19_17 : decode jdk_68_method_71_code 17 = .ok (.aload_n 0, 1) := by decide +kernel
theorem own_d19_18 : decode jdk_68_method_71_code 18 = .ok (.invokevirtual 195, 3) := by decide +kernel
theorem own_d19_21 : decode jdk_68_method_71_code 21 = .ok (.return_, 1) := by decide +kernel
theorem own_pd2 : parseMethodDescriptor "()B" = some ⟨[], some .byte⟩ := by decide +kernel
set_option maxHeartbeats 4000000 in
theorem own_ef_rm19 (m : MethodId) (x0 : Addr) (x1 : Addr) : entryFrame m #[(.ref x0), (.ref x1)] 2 = mkF m 0 #[.val (.ref x0), .val (.ref x1)] [] := by rfl
set_option maxRecDepth 65536 in
set_option maxHeartbeats 40000000 in
theorem rm19 (l : Launch) (Z : State) (a0 : Array Value) (hw : ∀ d ∈ tables_1, d.before a0 Z = true) (z0 : Int32) (O2 : Sta Z Z.heap "java/lang/String" "COMPACT_STRINGS" "Z" (.int z0)) (P5 : ¬ z0 = (0 : Int32)) (fm0 : Value) (O4 : Sta Z Z.heap "jdk/internal/util/Preconditions" "SIOOBE_FORMATTER" "Ljava/util/function/BiFunction;" fm0) (R4 : fm0.isRef = true) (ws : List Jvm.Cond) (a : Addr) (q : Addr) (h0 : Heap) (n0 : Nat) (Z0 : n0 ≤ h0.size) (Xo : Old Z n0 h0) (Fc : Fld Z h0 a "java/lang/AbstractStringBuilder" "coder" "B" (.int (0 : Int32))) (Eq : Exa Z h0 q "java/lang/String") (Fq : Fld Z h0 q "java/lang/String" "coder" "B" (.int (0 : Int32))) :
    own_MetN l Z (⟨"java/lang/AbstractStringBuilder", "inflateIfNeededFor", "(Ljava/lang/String;)V"⟩ : MethodName) jdk_68_method_71_code 2 none ws ({ frames := 1, cells := 0, slots := 0, locals := 13 } : Room) #[(.ref a), (.ref q)] h0 (fun v h L => Fr n0 L ∧ h = h0 ∧ (((v = none)))) := by
  refine own_metN (plainFor_of_name own_pn0) ?_
  intro p e s m below meth c s₁ G hx hby hml hZ hown hnm hret X0 e0 go fin
  have N0 := Fr.nil n0
  refine go _ _ (fun _ k => castTop (own_ef_rm19 m a q) k) ?_
  show G (s₁.setTop (mkF m 0 #[.val (.ref a), .val (.ref q)] []))
  obtain ⟨T101, X101, e101, st101⟩ := getS2 X0 hx hZ (host := "") hown (Or.inl (ow hw 74 rfl)) Via.refl e0 (O2.ext Xo.2) (g := (mkF m 0 #[.val (.ref a), .val (.ref q)] [])) rfl (hb hby own_d19_0)
  refine go _ _ (st101) ?_
  show G (T101.setTop (mkF m 3 #[.val (.ref a), .val (.ref q)] [(.int z0)]))
  refine go _ _ (fun _ k => XS.ifNo X101.here hx rfl (hb hby own_d19_3) rfl ((if0 _ _).trans (feq P5).1) k) ?_
  show G (T101.setTop (mkF m 6 #[.val (.ref a), .val (.ref q)] []))
  refine go _ _ (fun _ k => XS.aloadN X101.here hx rfl (hb hby own_d19_6) rfl rfl k) ?_
  show G (T101.setTop (mkF m 7 #[.val (.ref a), .val (.ref q)] [(.ref a)]))
  obtain ⟨T102, X102, e102, st102⟩ := getF X101 hx hZ hown (host := "") (Or.inl (ow hw 77 rfl)) Via.refl e101 Fc (g := (mkF m 7 #[.val (.ref a), .val (.ref q)] [(.ref a)])) rfl rfl (hb hby own_d19_7)
  refine go _ _ (st102) ?_
  show G (T102.setTop (mkF m 10 #[.val (.ref a), .val (.ref q)] [(.int (0 : Int32))]))
  refine go _ _ (fun _ k => XS.aloadN X102.here hx rfl (hb hby own_d19_10) rfl rfl k) ?_
  show G (T102.setTop (mkF m 11 #[.val (.ref a), .val (.ref q)] [(.ref q), (.int (0 : Int32))]))
  obtain ⟨rv103, T103, L103, X103, q103, st103⟩ := own_vi X102 hx hZ (y := (⟨"java/lang/String", "coder", "()B"⟩ : MethodName)) (z := (⟨"java/lang/String", "coder", "()B"⟩ : MethodName)) hown (ow hw 116 rfl) (ow hw 95 rfl) (ow hw 97 rfl) (ow hw 96 rfl) (Or.inl rfl) (by decide) (own_bkN (W := 1) (rm16 l Z a0 hw z0 O2 P5 fm0 O4 R4 [] q h0 n0 Z0 Xo Fq) hZ (ow hw 98 rfl) (ow hw 6 rfl) (by decide) (by decide)) e102 Eq (g := (mkF m 11 #[.val (.ref a), .val (.ref q)] [(.ref q), (.int (0 : Int32))])) rfl (by rw [hml]; rfl) (argsL := []) (rest := [(.int (0 : Int32))]) rfl (lenOf own_pd2 rfl) rfl (by show 2 * 0 + _ ≤ _; exact Nat.le_of_eq rfl) (hb hby own_d19_11) (by decide) (by decide)
  obtain ⟨Nq103, e103, rfl⟩ := q103
  have N103 := Fr.app N0 Nq103
  refine go _ _ (st103) ?_
  show G (T103.setTop (mkF m 14 #[.val (.ref a), .val (.ref q)] [(.int (0 : Int32)), (.int (0 : Int32))]))
  refine go _ _ (fun _ k => XS.icmpYes X103.here hx rfl (pc0 := 14) (pc' := 21) rfl (hb hby own_d19_14) rfl (by decide) (by decide) (by decide) k) ?_
  show G (T103.setTop (mkF m 21 #[.val (.ref a), .val (.ref q)] []))
  refine fin T103 _ _ _ none X103 (fun _ => rfl) (by decide) (by decide) (by rw [e103]; exact ⟨N103, rfl, rfl⟩) _ (own_retV X103 hx hret (hb hby own_d19_21))
theorem own_d20_0 : decode jdk_42_method_147_code 0 = .ok (.aload_n 0, 1) := by decide +kernel
theorem own_d20_1 : decode jdk_42_method_147_code 1 = .ok (.invokevirtual 335, 3) := by decide +kernel
theorem own_d20_4 : decode jdk_42_method_147_code 4 = .ok (.iload_n 3, 1) := by decide +kernel
theorem own_d20_5 : decode jdk_42_method_147_code 5 = .ok (.if_icmp .ne 23, 3) := by decide +kernel
theorem own_d20_8 : decode jdk_42_method_147_code 8 = .ok (.aload_n 0, 1) := by decide +kernel
theorem own_d20_9 : decode jdk_42_method_147_code 9 = .ok (.getfield 9, 3) := by decide +kernel
theorem own_d20_12 : decode jdk_42_method_147_code 12 = .ok (.iconst 0, 1) := by decide +kernel
theorem own_d20_13 : decode jdk_42_method_147_code 13 = .ok (.aload_n 1, 1) := by decide +kernel
theorem own_d20_14 : decode jdk_42_method_147_code 14 = .ok (.iload_n 2, 1) := by decide +kernel
theorem own_d20_15 : decode jdk_42_method_147_code 15 = .ok (.iload_n 3, 1) := by decide +kernel
theorem own_d20_16 : decode jdk_42_method_147_code 16 = .ok (.ishl, 1) := by decide +kernel
theorem own_d20_17 : decode jdk_42_method_147_code 17 = .ok (.aload_n 0, 1) := by decide +kernel
theorem own_d20_18 : decode jdk_42_method_147_code 18 = .ok (.getfield 9, 3) := by decide +kernel
theorem own_d20_21 : decode jdk_42_method_147_code 21 = .ok (.arraylength, 1) := by decide +kernel
theorem own_d20_22 : decode jdk_42_method_147_code 22 = .ok (.invokestatic 212, 3) := by decide +kernel
theorem own_d20_25 : decode jdk_42_method_147_code 25 = .ok (.goto 18, 3) := by decide +kernel
theorem own_d20_28 : decode jdk_42_method_147_code 28 = .ok (.aload_n 0, 1) := by decide +kernel
theorem own_d20_29 : decode jdk_42_method_147_code 29 = .ok (.getfield 9, 3) := by decide +kernel
theorem own_d20_32 : decode jdk_42_method_147_code 32 = .ok (.iconst 0, 1) := by decide +kernel
theorem own_d20_33 : decode jdk_42_method_147_code 33 = .ok (.aload_n 1, 1) := by decide +kernel
theorem own_d20_34 : decode jdk_42_method_147_code 34 = .ok (.iload_n 2, 1) := by decide +kernel
theorem own_d20_35 : decode jdk_42_method_147_code 35 = .ok (.aload_n 0, 1) := by decide +kernel
theorem own_d20_36 : decode jdk_42_method_147_code 36 = .ok (.getfield 9, 3) := by decide +kernel
theorem own_d20_39 : decode jdk_42_method_147_code 39 = .ok (.arraylength, 1) := by decide +kernel
theorem own_d20_40 : decode jdk_42_method_147_code 40 = .ok (.invokestatic 106, 3) := by decide +kernel
theorem own_d20_43 : decode jdk_42_method_147_code 43 = .ok (.return_, 1) := by decide +kernel
set_option maxHeartbeats 4000000 in
theorem own_ef_rm20 (m : MethodId) (x0 : Addr) (x1 : Addr) (x2 : Int32) (x3 : Int32) : entryFrame m #[(.ref x0), (.ref x1), (.int x2), (.int x3)] 4 = mkF m 0 #[.val (.ref x0), .val (.ref x1), .val (.int x2), .val (.int x3)] [] := by rfl
set_option maxRecDepth 65536 in
set_option maxHeartbeats 40000000 in
theorem rm20 (l : Launch) (Z : State) (a0 : Array Value) (hw : ∀ d ∈ tables_1, d.before a0 Z = true) (z0 : Int32) (O2 : Sta Z Z.heap "java/lang/String" "COMPACT_STRINGS" "Z" (.int z0)) (P5 : ¬ z0 = (0 : Int32)) (fm0 : Value) (O4 : Sta Z Z.heap "jdk/internal/util/Preconditions" "SIOOBE_FORMATTER" "Ljava/util/function/BiFunction;" fm0) (R4 : fm0.isRef = true) (ws : List Jvm.Cond) (q : Addr) (t : Addr) (i : Int32) (kb : ClassId) (cs : List Int32) (ds : List Int32) (h0 : Heap) (n0 : Nat) (Z0 : n0 ≤ h0.size) (Xo : Old Z n0 h0) (Sq : own_Str Z h0 q ds) (At : Arv Z h0 t kb .byte (16 : Int32) (own_bs cs) (.int (0 : Int32))) (hi : i = (own_n cs)) (hz : cs.length + ds.length ≤ 16) (gz_t : n0 ≤ t) :
    own_MetN l Z (⟨"java/lang/String", "getBytes", "([BIB)V"⟩ : MethodName) jdk_42_method_147_code 4 none ws ({ frames := 1, cells := 0, slots := 0, locals := 27 } : Room) #[(.ref q), (.ref t), (.int i), (.int (0 : Int32))] h0 (fun v h L => Fr n0 L ∧ Keep h0 h [t] ∧ (((v = none) ∧ (Arv Z h t kb .byte (16 : Int32) (own_bs (cs ++ ds)) (.int (0 : Int32)))))) := by
  refine own_metN (plainFor_of_name own_pn2) ?_
  intro p e s m below meth c s₁ G hx hby hml hZ hown hnm hret X0 e0 go fin
  have N0 := Fr.nil n0
  refine go _ _ (fun _ k => castTop (own_ef_rm20 m q t i (0 : Int32)) k) ?_
  show G (s₁.setTop (mkF m 0 #[.val (.ref q), .val (.ref t), .val (.int i), .val (.int (0 : Int32))] []))
  subst hi
  show G (s₁.setTop (mkF m 0 #[.val (.ref q), .val (.ref t), .val (.int (own_n cs)), .val (.int (0 : Int32))] []))
  obtain ⟨to101, kbo101, Eso101, Vso101, Cso101, Aso101, cdo101, bdo101, lno101⟩ := own_Str_W Sq
  refine go _ _ (fun _ k => XS.aloadN X0.here hx rfl (hb hby own_d20_0) rfl rfl k) ?_
  show G (s₁.setTop (mkF m 1 #[.val (.ref q), .val (.ref t), .val (.int (own_n cs)), .val (.int (0 : Int32))] [(.ref q)]))
  obtain ⟨rv102, T102, L102, X102, q102, st102⟩ := own_vi X0 hx hZ (y := (⟨"java/lang/String", "coder", "()B"⟩ : MethodName)) (z := (⟨"java/lang/String", "coder", "()B"⟩ : MethodName)) hown (ow hw 94 rfl) (ow hw 95 rfl) (ow hw 97 rfl) (ow hw 96 rfl) (Or.inl rfl) (by decide) (own_bkN (W := 0) (rm16 l Z a0 hw z0 O2 P5 fm0 O4 R4 [] q h0 n0 Z0 Xo Cso101) hZ (ow hw 98 rfl) (ow hw 6 rfl) (by decide) (by decide)) e0 Eso101 (g := (mkF m 1 #[.val (.ref q), .val (.ref t), .val (.int (own_n cs)), .val (.int (0 : Int32))] [(.ref q)])) rfl (by rw [hml]; rfl) (argsL := []) (rest := []) rfl (lenOf own_pd2 rfl) rfl (by show 2 * 0 + _ ≤ _; exact Nat.le_of_eq rfl) (hb hby own_d20_1) (by decide) (by decide)
  obtain ⟨Nq102, e102, rfl⟩ := q102
  have N102 := Fr.app N0 Nq102
  refine go _ _ (st102) ?_
  show G (T102.setTop (mkF m 4 #[.val (.ref q), .val (.ref t), .val (.int (own_n cs)), .val (.int (0 : Int32))] [(.int (0 : Int32))]))
  refine go _ _ (fun _ k => XS.iloadN X102.here hx rfl (hb hby own_d20_4) rfl k) ?_
  show G (T102.setTop (mkF m 5 #[.val (.ref q), .val (.ref t), .val (.int (own_n cs)), .val (.int (0 : Int32))] [(.int (0 : Int32)), (.int (0 : Int32))]))
  refine go _ _ (fun _ k => XS.icmpNo X102.here hx rfl (hb hby own_d20_5) rfl (by decide) k) ?_
  show G (T102.setTop (mkF m 8 #[.val (.ref q), .val (.ref t), .val (.int (own_n cs)), .val (.int (0 : Int32))] []))
  refine go _ _ (fun _ k => XS.aloadN X102.here hx rfl (hb hby own_d20_8) rfl rfl k) ?_
  show G (T102.setTop (mkF m 9 #[.val (.ref q), .val (.ref t), .val (.int (own_n cs)), .val (.int (0 : Int32))] [(.ref q)]))
  obtain ⟨T103, X103, e103, st103⟩ := getF X102 hx hZ hown (host := "") (Or.inl (ow hw 35 rfl)) Via.refl e102 Vso101 (g := (mkF m 9 #[.val (.ref q), .val (.ref t), .val (.int (own_n cs)), .val (.int (0 : Int32))] [(.ref q)])) rfl rfl (hb hby own_d20_9)
  refine go _ _ (st103) ?_
  show G (T103.setTop (mkF m 12 #[.val (.ref q), .val (.ref t), .val (.int (own_n cs)), .val (.int (0 : Int32))] [(.ref to101)]))
  refine go _ _ (fun _ k => XS.iconst X103.here hx rfl (hb hby own_d20_12) (XS.aloadN X103.here hx rfl (hb hby own_d20_13) rfl rfl (XS.iloadN X103.here hx rfl (hb hby own_d20_14) rfl (XS.iloadN X103.here hx rfl (hb hby own_d20_15) rfl (XS.ishl X103.here hx rfl (hb hby own_d20_16) rfl k))))) ?_
  show G (T103.setTop (mkF m 17 #[.val (.ref q), .val (.ref t), .val (.int (own_n cs)), .val (.int (0 : Int32))] [(.int ((own_n cs) <<< ((0 : Int32) &&& 31))), (.ref t), (.int (0 : Int32)), (.ref to101)]))
  rw [own_shl0]
  show G (T103.setTop (mkF m 17 #[.val (.ref q), .val (.ref t), .val (.int (own_n cs)), .val (.int (0 : Int32))] [(.int (own_n cs)), (.ref t), (.int (0 : Int32)), (.ref to101)]))
  refine go _ _ (fun _ k => XS.aloadN X103.here hx rfl (hb hby own_d20_17) rfl rfl k) ?_
  show G (T103.setTop (mkF m 18 #[.val (.ref q), .val (.ref t), .val (.int (own_n cs)), .val (.int (0 : Int32))] [(.ref q), (.int (own_n cs)), (.ref t), (.int (0 : Int32)), (.ref to101)]))
  obtain ⟨T104, X104, e104, st104⟩ := getF X103 hx hZ hown (host := "") (Or.inl (ow hw 35 rfl)) Via.refl e103 Vso101 (g := (mkF m 18 #[.val (.ref q), .val (.ref t), .val (.int (own_n cs)), .val (.int (0 : Int32))] [(.ref q), (.int (own_n cs)), (.ref t), (.int (0 : Int32)), (.ref to101)])) rfl rfl (hb hby own_d20_18)
  refine go _ _ (st104) ?_
  show G (T104.setTop (mkF m 21 #[.val (.ref q), .val (.ref t), .val (.int (own_n cs)), .val (.int (0 : Int32))] [(.ref to101), (.int (own_n cs)), (.ref t), (.int (0 : Int32)), (.ref to101)]))
  obtain ⟨cl105, Ar105, q105, S105, M105, H105, U105⟩ := id Aso101
  refine go _ _ (fun _ k => X104.arraylength hx (by rw [e104]; exact Ar105.1) (State.isArrayOf_alike hZ.alike Ar105.2.1) (g := (mkF m 21 #[.val (.ref q), .val (.ref t), .val (.int (own_n cs)), .val (.int (0 : Int32))] [(.ref to101), (.int (own_n cs)), (.ref t), (.int (0 : Int32)), (.ref to101)])) rfl rfl (hb hby own_d20_21) _ k) ?_
  show G (T104.setTop (mkF m 22 #[.val (.ref q), .val (.ref t), .val (.int (own_n cs)), .val (.int (0 : Int32))] [(.int cl105.slots.size.toInt32), (.int (own_n cs)), (.ref t), (.int (0 : Int32)), (.ref to101)]))
  rw [len_of S105 M105]
  show G (T104.setTop (mkF m 22 #[.val (.ref q), .val (.ref t), .val (.int (own_n cs)), .val (.int (0 : Int32))] [(.int (own_n ds)), (.int (own_n cs)), (.ref t), (.int (0 : Int32)), (.ref to101)]))
  obtain ⟨T106, h106, L106, X106, e106, N106, Kp106, V106, st106⟩ := own_cp X104 hx hZ hown (ow hw 122 rfl) (ow hw 125 rfl) (ow hw 123 rfl) (ow hw 124 rfl) e104 (cs := cs) (ds := ds) Aso101 At (show ds.length ≤ 4000 by omega) (show cs.length ≤ 4000 by omega) (Nat.le_of_eq (own_nN (show ds.length ≤ 4000 by omega)).1.symm) hz N102 gz_t (g := (mkF m 22 #[.val (.ref q), .val (.ref t), .val (.int (own_n cs)), .val (.int (0 : Int32))] [(.int (own_n ds)), (.int (own_n cs)), (.ref t), (.int (0 : Int32)), (.ref to101)])) rfl (by rw [hml]; rfl) (rest := []) rfl (hb hby own_d20_22) (by decide) (W := 0) (by show 2 * 0 + _ ≤ _; exact Nat.le_of_eq rfl) (by decide)
  refine go _ _ (st106) ?_
  show G (T106.setTop (mkF m 25 #[.val (.ref q), .val (.ref t), .val (.int (own_n cs)), .val (.int (0 : Int32))] []))
  refine go _ _ (fun _ k => XS.goto X106.here hx rfl (pc0 := 25) (pc' := 43) rfl (hb hby own_d20_25) (by decide) (by decide) k) ?_
  show G (T106.setTop (mkF m 43 #[.val (.ref q), .val (.ref t), .val (.int (own_n cs)), .val (.int (0 : Int32))] []))
  have K107 : Keep h0 h106 [t] := (Keep.refl h0 [t]).trans Kp106 (allS (Or.inl (List.mem_of_getElem? (i := 0) rfl)) all0)
  refine fin T106 _ _ _ none X106 (fun _ => rfl) (by decide) (by decide) (by rw [e106]; exact ⟨N106, K107, ⟨rfl, V106⟩⟩) _ (own_retV X106 hx hret (hb hby own_d20_43))
theorem own_d18_0 : decode jdk_68_method_73_code 0 = .ok (.aload_n 0, 1) := by decide +kernel
theorem own_d18_1 : decode jdk_68_method_73_code 1 = .ok (.aload_n 2, 1) := by decide +kernel
theorem own_d18_2 : decode jdk_68_method_73_code 2 = .ok (.invokevirtual 397, 3) := by decide +kernel
theorem own_d18_5 : decode jdk_68_method_73_code 5 = .ok (.aload_n 2, 1) := by decide +kernel
theorem own_d18_6 : decode jdk_68_method_73_code 6 = .ok (.aload_n 0, 1) := by decide +kernel
theorem own_d18_7 : decode jdk_68_method_73_code 7 = .ok (.getfield 15, 3) := by decide +kernel
theorem own_d18_10 : decode jdk_68_method_73_code 10 = .ok (.iload_n 1, 1) := by decide +kernel
theorem own_d18_11 : decode jdk_68_method_73_code 11 = .ok (.aload_n 0, 1) := by decide +kernel
theorem own_d18_12 : decode jdk_68_method_73_code 12 = .ok (.getfield 22, 3) := by decide +kernel
theorem own_d18_15 : decode jdk_68_method_73_code 15 = .ok (.invokevirtual 399, 3) := by decide +kernel
theorem own_d18_18 : decode jdk_68_method_73_code 18 = .ok (.return_, 1) := by decide +kernel
theorem own_pd3 : parseMethodDescriptor "(Ljava/lang/String;)V" = some ⟨[(.object "java/lang/String")], none⟩ := by decide +kernel
theorem own_pd4 : parseMethodDescriptor "([BIB)V" = some ⟨[(.array .byte), .int, .byte], none⟩ := by decide +kernel
set_option maxHeartbeats 4000000 in
theorem own_ef_rm18 (m : MethodId) (x0 : Addr) (x1 : Int32) (x2 : Addr) : entryFrame m #[(.ref x0), (.int x1), (.ref x2)] 3 = mkF m 0 #[.val (.ref x0), .val (.int x1), .val (.ref x2)] [] := by rfl
set_option maxRecDepth 65536 in
set_option maxHeartbeats 40000000 in
theorem rm18 (l : Launch) (Z : State) (a0 : Array Value) (hw : ∀ d ∈ tables_1, d.before a0 Z = true) (z0 : Int32) (O2 : Sta Z Z.heap "java/lang/String" "COMPACT_STRINGS" "Z" (.int z0)) (P5 : ¬ z0 = (0 : Int32)) (fm0 : Value) (O4 : Sta Z Z.heap "jdk/internal/util/Preconditions" "SIOOBE_FORMATTER" "Ljava/util/function/BiFunction;" fm0) (R4 : fm0.isRef = true) (ws : List Jvm.Cond) (a : Addr) (i : Int32) (q : Addr) (t : Addr) (kb : ClassId) (cs : List Int32) (ds : List Int32) (h0 : Heap) (n0 : Nat) (Z0 : n0 ≤ h0.size) (Xo : Old Z n0 h0) (Ea : Exa Z h0 a "java/lang/StringBuilder") (Fv : Fld Z h0 a "java/lang/AbstractStringBuilder" "value" "[B" (.ref t)) (Fc : Fld Z h0 a "java/lang/AbstractStringBuilder" "coder" "B" (.int (0 : Int32))) (Sq : own_Str Z h0 q ds) (At : Arv Z h0 t kb .byte (16 : Int32) (own_bs cs) (.int (0 : Int32))) (hi : i = (own_n cs)) (hz : cs.length + ds.length ≤ 16) (gz_t : n0 ≤ t) :
    own_MetN l Z (⟨"java/lang/AbstractStringBuilder", "putStringAt", "(ILjava/lang/String;)V"⟩ : MethodName) jdk_68_method_73_code 3 none ws ({ frames := 2, cells := 0, slots := 0, locals := 42 } : Room) #[(.ref a), (.int i), (.ref q)] h0 (fun v h L => Fr n0 L ∧ Keep h0 h [t] ∧ (((v = none) ∧ (Arv Z h t kb .byte (16 : Int32) (own_bs (cs ++ ds)) (.int (0 : Int32)))))) := by
  refine own_metN (plainFor_of_name own_pn0) ?_
  intro p e s m below meth c s₁ G hx hby hml hZ hown hnm hret X0 e0 go fin
  have N0 := Fr.nil n0
  refine go _ _ (fun _ k => castTop (own_ef_rm18 m a i q) k) ?_
  show G (s₁.setTop (mkF m 0 #[.val (.ref a), .val (.int i), .val (.ref q)] []))
  subst hi
  show G (s₁.setTop (mkF m 0 #[.val (.ref a), .val (.int (own_n cs)), .val (.ref q)] []))
  obtain ⟨to101, kbo101, Eso101, Vso101, Cso101, Aso101, cdo101, bdo101, lno101⟩ := own_Str_W Sq
  refine go _ _ (fun _ k => XS.aloadN X0.here hx rfl (hb hby own_d18_0) rfl rfl (XS.aloadN X0.here hx rfl (hb hby own_d18_1) rfl rfl k)) ?_
  show G (s₁.setTop (mkF m 2 #[.val (.ref a), .val (.int (own_n cs)), .val (.ref q)] [(.ref q), (.ref a)]))
  obtain ⟨rv102, T102, L102, X102, q102, st102⟩ := own_pr X0 hx hZ (y := (⟨"java/lang/AbstractStringBuilder", "inflateIfNeededFor", "(Ljava/lang/String;)V"⟩ : MethodName)) hown (ow hw 111 rfl) (ow hw 112 rfl) (ow hw 114 rfl) (ow hw 113 rfl) (ow hw 115 rfl) (by decide) (own_bkN (W := 0) (rm19 l Z a0 hw z0 O2 P5 fm0 O4 R4 [] a q h0 n0 Z0 Xo Fc Eso101 Cso101) hZ (ow hw 115 rfl) (ow hw 71 rfl) (by decide) (by decide)) e0 Ea (g := (mkF m 2 #[.val (.ref a), .val (.int (own_n cs)), .val (.ref q)] [(.ref q), (.ref a)])) rfl (by rw [hml]; rfl) (argsL := [(.ref q)]) (rest := []) rfl (lenOf own_pd3 rfl) rfl (by show 2 * 0 + _ ≤ _; exact Nat.le_of_eq rfl) (hb hby own_d18_2) (by decide) (by decide)
  obtain ⟨Nq102, e102, rfl⟩ := q102
  have N102 := Fr.app N0 Nq102
  refine go _ _ (st102) ?_
  show G (T102.setTop (mkF m 5 #[.val (.ref a), .val (.int (own_n cs)), .val (.ref q)] []))
  refine go _ _ (fun _ k => XS.aloadN X102.here hx rfl (hb hby own_d18_5) rfl rfl (XS.aloadN X102.here hx rfl (hb hby own_d18_6) rfl rfl k)) ?_
  show G (T102.setTop (mkF m 7 #[.val (.ref a), .val (.int (own_n cs)), .val (.ref q)] [(.ref a), (.ref q)]))
  obtain ⟨T103, X103, e103, st103⟩ := getF X102 hx hZ hown (host := "") (Or.inl (ow hw 75 rfl)) Via.refl e102 Fv (g := (mkF m 7 #[.val (.ref a), .val (.int (own_n cs)), .val (.ref q)] [(.ref a), (.ref q)])) rfl rfl (hb hby own_d18_7)
  refine go _ _ (st103) ?_
  show G (T103.setTop (mkF m 10 #[.val (.ref a), .val (.int (own_n cs)), .val (.ref q)] [(.ref t), (.ref q)]))
  refine go _ _ (fun _ k => XS.iloadN X103.here hx rfl (hb hby own_d18_10) rfl (XS.aloadN X103.here hx rfl (hb hby own_d18_11) rfl rfl k)) ?_
  show G (T103.setTop (mkF m 12 #[.val (.ref a), .val (.int (own_n cs)), .val (.ref q)] [(.ref a), (.int (own_n cs)), (.ref t), (.ref q)]))
  obtain ⟨T104, X104, e104, st104⟩ := getF X103 hx hZ hown (host := "") (Or.inl (ow hw 77 rfl)) Via.refl e103 Fc (g := (mkF m 12 #[.val (.ref a), .val (.int (own_n cs)), .val (.ref q)] [(.ref a), (.int (own_n cs)), (.ref t), (.ref q)])) rfl rfl (hb hby own_d18_12)
  refine go _ _ (st104) ?_
  show G (T104.setTop (mkF m 15 #[.val (.ref a), .val (.int (own_n cs)), .val (.ref q)] [(.int (0 : Int32)), (.int (own_n cs)), (.ref t), (.ref q)]))
  obtain ⟨rv105, T105, L105, X105, q105, st105⟩ := own_vi X104 hx hZ (y := (⟨"java/lang/String", "getBytes", "([BIB)V"⟩ : MethodName)) (z := (⟨"java/lang/String", "getBytes", "([BIB)V"⟩ : MethodName)) hown (ow hw 117 rfl) (ow hw 118 rfl) (ow hw 120 rfl) (ow hw 119 rfl) (Or.inl rfl) (by decide) (own_bkN (W := 0) (rm20 l Z a0 hw z0 O2 P5 fm0 O4 R4 [] q t (own_n cs) kb cs ds h0 n0 Z0 Xo Sq At rfl hz gz_t) hZ (ow hw 121 rfl) (ow hw 6 rfl) (by decide) (by decide)) e104 Eso101 (g := (mkF m 15 #[.val (.ref a), .val (.int (own_n cs)), .val (.ref q)] [(.int (0 : Int32)), (.int (own_n cs)), (.ref t), (.ref q)])) rfl (by rw [hml]; rfl) (argsL := [(.ref t), (.int (own_n cs)), (.int (0 : Int32))]) (rest := []) rfl (lenOf own_pd4 rfl) rfl (by show 2 * 0 + _ ≤ _; exact Nat.le_of_eq rfl) (hb hby own_d18_15) (by decide) (by decide)
  obtain ⟨Nq105, Kp105, ⟨rfl, f106⟩⟩ := q105
  have N105 := Fr.app N102 Nq105
  refine go _ _ (st105) ?_
  show G (T105.setTop (mkF m 18 #[.val (.ref a), .val (.int (own_n cs)), .val (.ref q)] []))
  have K107 : Keep h0 T105.heap [t] := (Keep.refl h0 [t]).trans Kp105 (allS (Or.inl (List.mem_of_getElem? (i := 0) rfl)) all0)
  refine fin T105 _ _ _ none X105 (fun _ => rfl) (by decide) (by decide) ⟨N105, K107, ⟨rfl, f106⟩⟩ _ (own_retV X105 hx hret (hb hby own_d18_18))
theorem own_d14_0 : decode jdk_68_method_22_code 0 = .ok (.aload_n 1, 1) := by decide +kernel
theorem own_d14_1 : decode jdk_68_method_22_code 1 = .ok (.ifnonnull 8, 3) := by decide +kernel
theorem own_d14_4 : decode jdk_68_method_22_code 4 = .ok (.aload_n 0, 1) := by decide +kernel
theorem own_d14_5 : decode jdk_68_method_22_code 5 = .ok (.invokevirtual 204, 3) := by decide +kernel
theorem own_d14_8 : decode jdk_68_method_22_code 8 = .ok (.areturn, 1) := by decide +kernel
theorem own_d14_9 : decode jdk_68_method_22_code 9 = .ok (.aload_n 1, 1) := by decide +kernel
theorem own_d14_10 : decode jdk_68_method_22_code 10 = .ok (.invokevirtual 32, 3) := by decide +kernel
theorem own_d14_13 : decode jdk_68_method_22_code 13 = .ok (.istore_n 2, 1) := by decide +kernel
theorem own_d14_14 : decode jdk_68_method_22_code 14 = .ok (.aload_n 0, 1) := by decide +kernel
theorem own_d14_15 : decode jdk_68_method_22_code 15 = .ok (.aload_n 0, 1) := by decide +kernel
theorem own_d14_16 : decode jdk_68_method_22_code 16 = .ok (.getfield 79, 3) := by decide +kernel
theorem own_d14_19 : decode jdk_68_method_22_code 19 = .ok (.iload_n 2, 1) := by decide +kernel
theorem own_d14_20 : decode jdk_68_method_22_code 20 = .ok (.iadd, 1) := by decide +kernel
theorem own_d14_21 : decode jdk_68_method_22_code 21 = .ok (.invokevirtual 100, 3) := by decide +kernel
theorem own_d14_24 : decode jdk_68_method_22_code 24 = .ok (.aload_n 0, 1) := by decide +kernel
theorem own_d14_25 : decode jdk_68_method_22_code 25 = .ok (.aload_n 0, 1) := by decide +kernel
theorem own_d14_26 : decode jdk_68_method_22_code 26 = .ok (.getfield 79, 3) := by decide +kernel
theorem own_d14_29 : decode jdk_68_method_22_code 29 = .ok (.aload_n 1, 1) := by decide +kernel
theorem own_d14_30 : decode jdk_68_method_22_code 30 = .ok (.invokevirtual 208, 3) := by decide +kernel
theorem own_d14_33 : decode jdk_68_method_22_code 33 = .ok (.aload_n 0, 1) := by decide +kernel
theorem own_d14_34 : decode jdk_68_method_22_code 34 = .ok (.dup, 1) := by decide +kernel
theorem own_d14_35 : decode jdk_68_method_22_code 35 = .ok (.getfield 79, 3) := by decide +kernel
theorem own_d14_38 : decode jdk_68_method_22_code 38 = .ok (.iload_n 2, 1) := by decide +kernel
theorem own_d14_39 : decode jdk_68_method_22_code 39 = .ok (.iadd, 1) := by decide +kernel
theorem own_d14_40 : decode jdk_68_method_22_code 40 = .ok (.putfield 79, 3) := by decide +kernel
theorem own_d14_43 : decode jdk_68_method_22_code 43 = .ok (.aload_n 0, 1) := by decide +kernel
theorem own_d14_44 : decode jdk_68_method_22_code 44 = .ok (.areturn, 1) := by decide +kernel
theorem own_pd5 : parseMethodDescriptor "(ILjava/lang/String;)V" = some ⟨[.int, (.object "java/lang/String")], none⟩ := by decide +kernel
set_option maxHeartbeats 4000000 in
theorem own_ef_rm14 (m : MethodId) (x0 : Addr) (x1 : Addr) : entryFrame m #[(.ref x0), (.ref x1)] 3 = mkF m 0 #[.val (.ref x0), .val (.ref x1), .unset] [] := by rfl
set_option maxRecDepth 65536 in
set_option maxHeartbeats 40000000 in
theorem rm14 (l : Launch) (Z : State) (a0 : Array Value) (hw : ∀ d ∈ tables_1, d.before a0 Z = true) (z0 : Int32) (O2 : Sta Z Z.heap "java/lang/String" "COMPACT_STRINGS" "Z" (.int z0)) (P5 : ¬ z0 = (0 : Int32)) (fm0 : Value) (O4 : Sta Z Z.heap "jdk/internal/util/Preconditions" "SIOOBE_FORMATTER" "Ljava/util/function/BiFunction;" fm0) (R4 : fm0.isRef = true) (ws : List Jvm.Cond) (a : Addr) (q : Addr) (t : Addr) (kb : ClassId) (cs : List Int32) (ds : List Int32) (h0 : Heap) (n0 : Nat) (Z0 : n0 ≤ h0.size) (Xo : Old Z n0 h0) (Ea : Exa Z h0 a "java/lang/StringBuilder") (Fv : Fld Z h0 a "java/lang/AbstractStringBuilder" "value" "[B" (.ref t)) (Fc : Fld Z h0 a "java/lang/AbstractStringBuilder" "coder" "B" (.int (0 : Int32))) (Fn : Fld Z h0 a "java/lang/AbstractStringBuilder" "count" "I" (.int (own_n cs))) (Eq : Exa Z h0 q "java/lang/String") (Sq : own_Str Z h0 q ds) (At : Arv Z h0 t kb .byte (16 : Int32) (own_bs cs) (.int (0 : Int32))) (hz : cs.length + ds.length ≤ 16) (gz_a : n0 ≤ a) (gz_t : n0 ≤ t) :
    own_MetN l Z (⟨"java/lang/AbstractStringBuilder", "append", "(Ljava/lang/String;)Ljava/lang/AbstractStringBuilder;"⟩ : MethodName) jdk_68_method_22_code 3 (some (.object "java/lang/AbstractStringBuilder")) ws ({ frames := 3, cells := 0, slots := 0, locals := 56 } : Room) #[(.ref a), (.ref q)] h0 (fun v h L => Fr n0 L ∧ Keep h0 h [a, t] ∧ (((v = some (.ref a)) ∧ (Exa Z h a "java/lang/StringBuilder") ∧ (Fld Z h a "java/lang/AbstractStringBuilder" "value" "[B" (.ref t)) ∧ (Fld Z h a "java/lang/AbstractStringBuilder" "coder" "B" (.int (0 : Int32))) ∧ (Fld Z h a "java/lang/AbstractStringBuilder" "count" "I" (.int (own_n (cs ++ ds)))) ∧ (Arv Z h t kb .byte (16 : Int32) (own_bs (cs ++ ds)) (.int (0 : Int32)))))) := by
  refine own_metN (plainFor_of_name own_pn0) ?_
  intro p e s m below meth c s₁ G hx hby hml hZ hown hnm hret X0 e0 go fin
  have N0 := Fr.nil n0
  refine go _ _ (fun _ k => castTop (own_ef_rm14 m a q) k) ?_
  show G (s₁.setTop (mkF m 0 #[.val (.ref a), .val (.ref q), .unset] []))
  refine go _ _ (fun _ k => XS.aloadN X0.here hx rfl (hb hby own_d14_0) rfl rfl k) ?_
  show G (s₁.setTop (mkF m 1 #[.val (.ref a), .val (.ref q), .unset] [(.ref q)]))
  refine go _ _ (fun _ k => XS.ifnonnullYes X0.here hx rfl (pc0 := 1) (pc' := 9) rfl (hb hby own_d14_1) rfl (by decide) (by decide) k) ?_
  show G (s₁.setTop (mkF m 9 #[.val (.ref a), .val (.ref q), .unset] []))
  refine go _ _ (fun _ k => XS.aloadN X0.here hx rfl (hb hby own_d14_9) rfl rfl k) ?_
  show G (s₁.setTop (mkF m 10 #[.val (.ref a), .val (.ref q), .unset] [(.ref q)]))
  obtain ⟨tx101, kbx101, Esx101, Vsx101, Csx101, Asx101, cdx101, bdx101, lnx101⟩ := own_Str_W Sq
  obtain ⟨rv101, T101, L101, X101, q101, st101⟩ := own_vi X0 hx hZ (Q := fun v h L => v = some (.int (Int32.ofNat (ds).length)) ∧ L = [] ∧ h = h0) (kc := 0) (ks := 0) (y := (⟨"java/lang/String", "length", "()I"⟩ : MethodName)) (z := (⟨"java/lang/String", "length", "()I"⟩ : MethodName)) hown (ow hw 89 rfl) (ow hw 90 rfl) (ow hw 92 rfl) (ow hw 91 rfl) (Or.inl rfl) (by decide) (StrChars.Road.lenW (W := 0) hZ (own_hln hw) (kI := 4) (ow hw 5 rfl) Esx101 Vsx101 Csx101 Asx101 cdx101 bdx101 (O2.ext Xo.2) P5 lnx101 (by decide) (by decide)) e0 Eq (g := (mkF m 10 #[.val (.ref a), .val (.ref q), .unset] [(.ref q)])) rfl (by rw [hml]; rfl) (argsL := []) (rest := []) rfl (lenOf own_pd1 rfl) rfl (by show 2 * 0 + _ ≤ _; exact Nat.le_of_eq rfl) (hb hby own_d14_10) (by decide) (by decide)
  obtain ⟨rfl, rfl, e101⟩ := q101
  have N101 := Fr.app N0 (Fr.nil n0)
  refine go _ _ (st101) ?_
  show G (T101.setTop (mkF m 13 #[.val (.ref a), .val (.ref q), .unset] [(.int (own_n ds))]))
  refine go _ _ (fun _ k => XS.istoreN X101.here hx rfl (hb hby own_d14_13) rfl (l' := #[.val (.ref a), .val (.ref q), .val (.int (own_n ds))]) rfl (XS.aloadN X101.here hx rfl (hb hby own_d14_14) rfl rfl (XS.aloadN X101.here hx rfl (hb hby own_d14_15) rfl rfl k))) ?_
  show G (T101.setTop (mkF m 16 #[.val (.ref a), .val (.ref q), .val (.int (own_n ds))] [(.ref a), (.ref a)]))
  obtain ⟨T102, X102, e102, st102⟩ := getF X101 hx hZ hown (host := "") (Or.inl (ow hw 99 rfl)) Via.refl e101 Fn (g := (mkF m 16 #[.val (.ref a), .val (.ref q), .val (.int (own_n ds))] [(.ref a), (.ref a)])) rfl rfl (hb hby own_d14_16)
  refine go _ _ (st102) ?_
  show G (T102.setTop (mkF m 19 #[.val (.ref a), .val (.ref q), .val (.int (own_n ds))] [(.int (own_n cs)), (.ref a)]))
  refine go _ _ (fun _ k => XS.iloadN X102.here hx rfl (hb hby own_d14_19) rfl (XS.iadd X102.here hx rfl (hb hby own_d14_20) rfl k)) ?_
  show G (T102.setTop (mkF m 21 #[.val (.ref a), .val (.ref q), .val (.int (own_n ds))] [(.int ((own_n cs) + (own_n ds))), (.ref a)]))
  obtain ⟨rv103, T103, L103, X103, q103, st103⟩ := own_pr X102 hx hZ (y := (⟨"java/lang/AbstractStringBuilder", "ensureCapacityInternal", "(I)V"⟩ : MethodName)) hown (ow hw 101 rfl) (ow hw 102 rfl) (ow hw 104 rfl) (ow hw 103 rfl) (ow hw 105 rfl) (by decide) (own_bkN (W := 0) (rm17 l Z a0 hw z0 O2 P5 fm0 O4 R4 [] a ((own_n cs) + (own_n ds)) t kb (own_bs cs) h0 n0 Z0 Fv Fc At (own_cap hz)) hZ (ow hw 105 rfl) (ow hw 71 rfl) (by decide) (by decide)) e102 Ea (g := (mkF m 21 #[.val (.ref a), .val (.ref q), .val (.int (own_n ds))] [(.int ((own_n cs) + (own_n ds))), (.ref a)])) rfl (by rw [hml]; rfl) (argsL := [(.int ((own_n cs) + (own_n ds)))]) (rest := []) rfl (lenOf own_pd0 rfl) rfl (by show 2 * 0 + _ ≤ _; exact Nat.le_of_eq rfl) (hb hby own_d14_21) (by decide) (by decide)
  obtain ⟨Nq103, e103, rfl⟩ := q103
  have N103 := Fr.app N101 Nq103
  refine go _ _ (st103) ?_
  show G (T103.setTop (mkF m 24 #[.val (.ref a), .val (.ref q), .val (.int (own_n ds))] []))
  refine go _ _ (fun _ k => XS.aloadN X103.here hx rfl (hb hby own_d14_24) rfl rfl (XS.aloadN X103.here hx rfl (hb hby own_d14_25) rfl rfl k)) ?_
  show G (T103.setTop (mkF m 26 #[.val (.ref a), .val (.ref q), .val (.int (own_n ds))] [(.ref a), (.ref a)]))
  obtain ⟨T104, X104, e104, st104⟩ := getF X103 hx hZ hown (host := "") (Or.inl (ow hw 99 rfl)) Via.refl e103 Fn (g := (mkF m 26 #[.val (.ref a), .val (.ref q), .val (.int (own_n ds))] [(.ref a), (.ref a)])) rfl rfl (hb hby own_d14_26)
  refine go _ _ (st104) ?_
  show G (T104.setTop (mkF m 29 #[.val (.ref a), .val (.ref q), .val (.int (own_n ds))] [(.int (own_n cs)), (.ref a)]))
  refine go _ _ (fun _ k => XS.aloadN X104.here hx rfl (hb hby own_d14_29) rfl rfl k) ?_
  show G (T104.setTop (mkF m 30 #[.val (.ref a), .val (.ref q), .val (.int (own_n ds))] [(.ref q), (.int (own_n cs)), (.ref a)]))
  obtain ⟨rv105, T105, L105, X105, q105, st105⟩ := own_pr X104 hx hZ (y := (⟨"java/lang/AbstractStringBuilder", "putStringAt", "(ILjava/lang/String;)V"⟩ : MethodName)) hown (ow hw 106 rfl) (ow hw 107 rfl) (ow hw 109 rfl) (ow hw 108 rfl) (ow hw 110 rfl) (by decide) (own_bkN (W := 0) (rm18 l Z a0 hw z0 O2 P5 fm0 O4 R4 [] a (own_n cs) q t kb cs ds h0 n0 Z0 Xo Ea Fv Fc Sq At rfl hz gz_t) hZ (ow hw 110 rfl) (ow hw 71 rfl) (by decide) (by decide)) e104 Ea (g := (mkF m 30 #[.val (.ref a), .val (.ref q), .val (.int (own_n ds))] [(.ref q), (.int (own_n cs)), (.ref a)])) rfl (by rw [hml]; rfl) (argsL := [(.int (own_n cs)), (.ref q)]) (rest := []) rfl (lenOf own_pd5 rfl) rfl (by show 2 * 0 + _ ≤ _; exact Nat.le_of_eq rfl) (hb hby own_d14_30) (by decide) (by decide)
  obtain ⟨Nq105, Kp105, ⟨rfl, f106⟩⟩ := q105
  have N105 := Fr.app N103 Nq105
  refine go _ _ (st105) ?_
  show G (T105.setTop (mkF m 33 #[.val (.ref a), .val (.ref q), .val (.int (own_n ds))] []))
  refine go _ _ (fun _ k => XS.aloadN X105.here hx rfl (hb hby own_d14_33) rfl rfl (XS.dup X105.here hx rfl (hb hby own_d14_34) rfl rfl k)) ?_
  show G (T105.setTop (mkF m 35 #[.val (.ref a), .val (.ref q), .val (.int (own_n ds))] [(.ref a), (.ref a)]))
  have K108 : Keep h0 T105.heap [t] := (Keep.refl h0 [t]).trans Kp105 (allS (Or.inl (List.mem_of_getElem? (i := 0) rfl)) all0)
  have F109 : Fld Z T105.heap a "java/lang/AbstractStringBuilder" "count" "I" (.int (own_n cs)) := (Fn.keep K108 (ninS (Exa.neArv Ea At (ow hw 62 rfl)) nin0))
  obtain ⟨T107, X107, e107, st107⟩ := getF X105 hx hZ hown (host := "") (Or.inl (ow hw 99 rfl)) Via.refl rfl F109 (g := (mkF m 35 #[.val (.ref a), .val (.ref q), .val (.int (own_n ds))] [(.ref a), (.ref a)])) rfl rfl (hb hby own_d14_35)
  refine go _ _ (st107) ?_
  show G (T107.setTop (mkF m 38 #[.val (.ref a), .val (.ref q), .val (.int (own_n ds))] [(.int (own_n cs)), (.ref a)]))
  refine go _ _ (fun _ k => XS.iloadN X107.here hx rfl (hb hby own_d14_38) rfl (XS.iadd X107.here hx rfl (hb hby own_d14_39) rfl k)) ?_
  show G (T107.setTop (mkF m 40 #[.val (.ref a), .val (.ref q), .val (.int (own_n ds))] [(.int ((own_n cs) + (own_n ds))), (.ref a)]))
  rw [own_napp]
  show G (T107.setTop (mkF m 40 #[.val (.ref a), .val (.ref q), .val (.int (own_n ds))] [(.int (own_n (cs ++ ds))), (.ref a)]))
  have F111 : Exa Z T105.heap a "java/lang/StringBuilder" := (Ea.keep K108)
  obtain ⟨T110, h110, X110, e110, W110, st110⟩ := putF X107 hx hZ hown (host := "") (Or.inl (ow hw 99 rfl)) Via.refl e107 F109 F111 (Or.inl (ow hw 100 rfl)) (ow hw 62 rfl) (ty := .int) (by decide) rfl rfl (g := (mkF m 40 #[.val (.ref a), .val (.ref q), .val (.int (own_n ds))] [(.int (own_n (cs ++ ds))), (.ref a)])) rfl rfl (hb hby own_d14_40)
  have F112 : Fld Z T105.heap a "java/lang/AbstractStringBuilder" "value" "[B" (.ref t) := (Fv.keep K108 (ninS (Exa.neArv Ea At (ow hw 62 rfl)) nin0))
  have F113 : Fld Z T105.heap a "java/lang/AbstractStringBuilder" "coder" "B" (.int (0 : Int32)) := (Fc.keep K108 (ninS (Exa.neArv Ea At (ow hw 62 rfl)) nin0))
  have N110 := Fr.snoc X110 N105 gz_a
  refine go _ _ (st110) ?_
  show G (T110.setTop (mkF m 43 #[.val (.ref a), .val (.ref q), .val (.int (own_n ds))] []))
  refine go _ _ (fun _ k => XS.aloadN X110.here hx rfl (hb hby own_d14_43) rfl rfl k) ?_
  show G (T110.setTop (mkF m 44 #[.val (.ref a), .val (.ref q), .val (.int (own_n ds))] [(.ref a)]))
  have K114 : Keep h0 T105.heap [a, t] := (Keep.refl h0 [a, t]).trans Kp105 (allS (Or.inl (List.mem_of_getElem? (i := 1) rfl)) all0)
  have K115 : Keep h0 h110 [a, t] := K114.wr W110 (Or.inl (List.mem_of_getElem? (i := 0) rfl))
  have K116 : Keep T105.heap h110 [a] := (Keep.refl T105.heap [a]).wr W110 (Or.inl (List.mem_of_getElem? (i := 0) rfl))
  have F117 : Arv Z h110 t kb .byte (16 : Int32) (own_bs (cs ++ ds)) (.int (0 : Int32)) := (f106.keep K116 (ninS (Ne.symm (Exa.neArv Ea At (ow hw 62 rfl))) nin0))
  refine fin T110 _ _ _ (some (.ref a)) X110 (fun q => nomatch q) (by decide) (by decide) (by rw [e110]; exact ⟨N110, K115, ⟨rfl, (F111.wr W110), (F112.other W110 (Or.inr (RoadKit.slot_ne (t := (.array .byte)) (t' := .int) (Or.inl (ow hw 76 rfl)) (Or.inl (ow hw 100 rfl)) (by decide) (by decide) (by decide)))), (F113.other W110 (Or.inr (RoadKit.slot_ne (t := .byte) (t' := .int) (Or.inl (ow hw 78 rfl)) (Or.inl (ow hw 100 rfl)) (by decide) (by decide) (by decide)))), (F109.same W110), F117⟩⟩) _ (own_retA X110 hx hret rfl rfl rfl (hb hby own_d14_44))
theorem own_d13_0 : decode jdk_67_method_7_code 0 = .ok (.aload_n 0, 1) := by decide +kernel
theorem own_d13_1 : decode jdk_67_method_7_code 1 = .ok (.aload_n 1, 1) := by decide +kernel
theorem own_d13_2 : decode jdk_67_method_7_code 2 = .ok (.invokespecial 29, 3) := by decide +kernel
theorem own_d13_5 : decode jdk_67_method_7_code 5 = .ok (.pop, 1) := by decide +kernel
theorem own_d13_6 : decode jdk_67_method_7_code 6 = .ok (.aload_n 0, 1) := by decide +kernel
theorem own_d13_7 : decode jdk_67_method_7_code 7 = .ok (.areturn, 1) := by decide +kernel
theorem own_pd6 : parseMethodDescriptor "(Ljava/lang/String;)Ljava/lang/AbstractStringBuilder;" = some ⟨[(.object "java/lang/String")], some (.object "java/lang/AbstractStringBuilder")⟩ := by decide +kernel
set_option maxHeartbeats 4000000 in
theorem own_ef_rm13 (m : MethodId) (x0 : Addr) (x1 : Addr) : entryFrame m #[(.ref x0), (.ref x1)] 2 = mkF m 0 #[.val (.ref x0), .val (.ref x1)] [] := by rfl
set_option maxRecDepth 65536 in
set_option maxHeartbeats 40000000 in
theorem rm13 (l : Launch) (Z : State) (a0 : Array Value) (hw : ∀ d ∈ tables_1, d.before a0 Z = true) (z0 : Int32) (O2 : Sta Z Z.heap "java/lang/String" "COMPACT_STRINGS" "Z" (.int z0)) (P5 : ¬ z0 = (0 : Int32)) (fm0 : Value) (O4 : Sta Z Z.heap "jdk/internal/util/Preconditions" "SIOOBE_FORMATTER" "Ljava/util/function/BiFunction;" fm0) (R4 : fm0.isRef = true) (ws : List Jvm.Cond) (a : Addr) (q : Addr) (t : Addr) (kb : ClassId) (cs : List Int32) (ds : List Int32) (h0 : Heap) (n0 : Nat) (Z0 : n0 ≤ h0.size) (Xo : Old Z n0 h0) (Ea : Exa Z h0 a "java/lang/StringBuilder") (Fv : Fld Z h0 a "java/lang/AbstractStringBuilder" "value" "[B" (.ref t)) (Fc : Fld Z h0 a "java/lang/AbstractStringBuilder" "coder" "B" (.int (0 : Int32))) (Fn : Fld Z h0 a "java/lang/AbstractStringBuilder" "count" "I" (.int (own_n cs))) (Eq : Exa Z h0 q "java/lang/String") (Sq : own_Str Z h0 q ds) (At : Arv Z h0 t kb .byte (16 : Int32) (own_bs cs) (.int (0 : Int32))) (hz : cs.length + ds.length ≤ 16) (gz_a : n0 ≤ a) (gz_t : n0 ≤ t) :
    own_MetN l Z (⟨"java/lang/StringBuilder", "append", "(Ljava/lang/String;)Ljava/lang/StringBuilder;"⟩ : MethodName) jdk_67_method_7_code 2 (some (.object "java/lang/StringBuilder")) ws ({ frames := 4, cells := 0, slots := 0, locals := 70 } : Room) #[(.ref a), (.ref q)] h0 (fun v h L => Fr n0 L ∧ Keep h0 h [a, t] ∧ (((v = some (.ref a)) ∧ (Exa Z h a "java/lang/StringBuilder") ∧ (Fld Z h a "java/lang/AbstractStringBuilder" "value" "[B" (.ref t)) ∧ (Fld Z h a "java/lang/AbstractStringBuilder" "coder" "B" (.int (0 : Int32))) ∧ (Fld Z h a "java/lang/AbstractStringBuilder" "count" "I" (.int (own_n (cs ++ ds)))) ∧ (Arv Z h t kb .byte (16 : Int32) (own_bs (cs ++ ds)) (.int (0 : Int32)))))) := by
  refine own_metN (plainFor_of_name own_pn1) ?_
  intro p e s m below meth c s₁ G hx hby hml hZ hown hnm hret X0 e0 go fin
  have N0 := Fr.nil n0
  refine go _ _ (fun _ k => castTop (own_ef_rm13 m a q) k) ?_
  show G (s₁.setTop (mkF m 0 #[.val (.ref a), .val (.ref q)] []))
  refine go _ _ (fun _ k => XS.aloadN X0.here hx rfl (hb hby own_d13_0) rfl rfl (XS.aloadN X0.here hx rfl (hb hby own_d13_1) rfl rfl k)) ?_
  show G (s₁.setTop (mkF m 2 #[.val (.ref a), .val (.ref q)] [(.ref q), (.ref a)]))
  obtain ⟨rv101, T101, L101, X101, q101, st101⟩ := own_su X0 hx hZ (y := (⟨"java/lang/AbstractStringBuilder", "append", "(Ljava/lang/String;)Ljava/lang/AbstractStringBuilder;"⟩ : MethodName)) hown (ow hw 84 rfl) (own_same (z := (⟨"java/lang/AbstractStringBuilder", "ensureCapacityInternal", "(I)V"⟩ : MethodName)) (by decide) rfl (ow hw 104 rfl) (ow hw 85 rfl)) (ow hw 85 rfl) (ow hw 86 rfl) (by decide) (ow hw 88 rfl) (own_bkN (W := 0) (rm14 l Z a0 hw z0 O2 P5 fm0 O4 R4 [] a q t kb cs ds h0 n0 Z0 Xo Ea Fv Fc Fn Eq Sq At hz gz_a gz_t) hZ (ow hw 88 rfl) (ow hw 71 rfl) (by decide) (by decide)) e0 Ea (g := (mkF m 2 #[.val (.ref a), .val (.ref q)] [(.ref q), (.ref a)])) rfl (by rw [hml]; rfl) (argsL := [(.ref q)]) (rest := []) rfl (lenOf own_pd6 rfl) rfl (by show 2 * 0 + _ ≤ _; exact Nat.le_of_eq rfl) (hb hby own_d13_2) (by decide) (by decide)
  obtain ⟨Nq101, Kp101, ⟨rfl, f102, f103, f104, f105, f106⟩⟩ := q101
  have N101 := Fr.app N0 Nq101
  refine go _ _ (st101) ?_
  show G (T101.setTop (mkF m 5 #[.val (.ref a), .val (.ref q)] [(.ref a)]))
  refine go _ _ (fun _ k => XS.pop X101.here hx rfl (hb hby own_d13_5) rfl rfl (XS.aloadN X101.here hx rfl (hb hby own_d13_6) rfl rfl k)) ?_
  show G (T101.setTop (mkF m 7 #[.val (.ref a), .val (.ref q)] [(.ref a)]))
  have K107 : Keep h0 T101.heap [a, t] := (Keep.refl h0 [a, t]).trans Kp101 (allS (Or.inl (List.mem_of_getElem? (i := 0) rfl)) (allS (Or.inl (List.mem_of_getElem? (i := 1) rfl)) all0))
  refine fin T101 _ _ _ (some (.ref a)) X101 (fun q => nomatch q) (by decide) (by decide) ⟨N101, K107, ⟨rfl, f102, f103, f104, f105, f106⟩⟩ _ (own_retA X101 hx hret rfl rfl rfl (hb hby own_d13_7))
theorem own_d30_0 : decode jdk_65_method_131_code 0 = .ok (.iload_n 1, 1) := by decide +kernel
theorem own_d30_1 : decode jdk_65_method_131_code 1 = .ok (.iload_n 0, 1) := by decide +kernel
theorem own_d30_2 : decode jdk_65_method_131_code 2 = .ok (.if_icmp .ge 35, 3) := by decide +kernel
theorem own_d30_5 : decode jdk_65_method_131_code 5 = .ok (.new 43, 3) := by decide +kernel
theorem own_d30_8 : decode jdk_65_method_131_code 8 = .ok (.dup, 1) := by decide +kernel
theorem own_d30_9 : decode jdk_65_method_131_code 9 = .ok (.new 45, 3) := by decide +kernel
theorem own_d30_12 : decode jdk_65_method_131_code 12 = .ok (.dup, 1) := by decide +kernel
theorem own_d30_13 : decode jdk_65_method_131_code 13 = .ok (.invokespecial 47, 3) := by decide +kernel
theorem own_d30_16 : decode jdk_65_method_131_code 16 = .ok (.iload_n 0, 1) := by decide +kernel
theorem own_d30_17 : decode jdk_65_method_131_code 17 = .ok (.invokevirtual 54, 3) := by decide +kernel
theorem own_d30_20 : decode jdk_65_method_131_code 20 = .ok (.ldc_w 337, 3) := by decide +kernel
theorem own_d30_23 : decode jdk_65_method_131_code 23 = .ok (.invokevirtual 50, 3) := by decide +kernel
theorem own_d30_26 : decode jdk_65_method_131_code 26 = .ok (.iload_n 1, 1) := by decide +kernel
theorem own_d30_27 : decode jdk_65_method_131_code 27 = .ok (.invokevirtual 54, 3) := by decide +kernel
theorem own_d30_30 : decode jdk_65_method_131_code 30 = .ok (.invokevirtual 61, 3) := by decide +kernel
theorem own_d30_33 : decode jdk_65_method_131_code 33 = .ok (.invokespecial 65, 3) := by decide +kernel
theorem own_d30_36 : decode jdk_65_method_131_code 36 = .ok (.athrow, 1) := by decide +kernel
theorem own_d30_37 : decode jdk_65_method_131_code 37 = .ok (.return_, 1) := by decide +kernel
theorem own_pn4 : plainName "java/util/Arrays" = true := by decide +kernel
set_option maxHeartbeats 4000000 in
theorem own_ef_rm30 (m : MethodId) (x0 : Int32) (x1 : Int32) : entryFrame m #[(.int x0), (.int x1)] 2 = mkF m 0 #[.val (.int x0), .val (.int x1)] [] := by rfl
set_option maxRecDepth 65536 in
set_option maxHeartbeats 40000000 in
theorem rm30 (l : Launch) (Z : State) (a0 : Array Value) (hw : ∀ d ∈ tables_1, d.before a0 Z = true) (z0 : Int32) (O2 : Sta Z Z.heap "java/lang/String" "COMPACT_STRINGS" "Z" (.int z0)) (P5 : ¬ z0 = (0 : Int32)) (fm0 : Value) (O4 : Sta Z Z.heap "jdk/internal/util/Preconditions" "SIOOBE_FORMATTER" "Ljava/util/function/BiFunction;" fm0) (R4 : fm0.isRef = true) (ws : List Jvm.Cond) (y : Int32) (h0 : Heap) (n0 : Nat) (Z0 : n0 ≤ h0.size) (hy : ¬ y < (0 : Int32)) :
    own_MetN l Z (⟨"java/util/Arrays", "checkLength", "(II)V"⟩ : MethodName) jdk_65_method_131_code 2 none ws ({ frames := 0, cells := 0, slots := 0, locals := 0 } : Room) #[(.int (0 : Int32)), (.int y)] h0 (fun v h L => Fr n0 L ∧ h = h0 ∧ (((v = none)))) := by
  refine own_metN (plainFor_of_name own_pn4) ?_
  intro p e s m below meth c s₁ G hx hby hml hZ hown hnm hret X0 e0 go fin
  have N0 := Fr.nil n0
  refine go _ _ (fun _ k => castTop (own_ef_rm30 m (0 : Int32) y) k) ?_
  show G (s₁.setTop (mkF m 0 #[.val (.int (0 : Int32)), .val (.int y)] []))
  refine go _ _ (fun _ k => XS.iloadN X0.here hx rfl (hb hby own_d30_0) rfl (XS.iloadN X0.here hx rfl (hb hby own_d30_1) rfl k)) ?_
  show G (s₁.setTop (mkF m 2 #[.val (.int (0 : Int32)), .val (.int y)] [(.int (0 : Int32)), (.int y)]))
  refine go _ _ (fun _ k => XS.icmpYes X0.here hx rfl (pc0 := 2) (pc' := 37) rfl (hb hby own_d30_2) rfl (flt hy).2.1 (by decide) (by decide) k) ?_
  show G (s₁.setTop (mkF m 37 #[.val (.int (0 : Int32)), .val (.int y)] []))
  refine fin s₁ _ _ _ none X0 (fun _ => rfl) (by decide) (by decide) (by rw [e0]; exact ⟨N0, rfl, rfl⟩) _ (own_retV X0 hx hret (hb hby own_d30_37))
theorem own_d29_0 : decode jdk_65_method_133_code 0 = .ok (.iload_n 1, 1) := by decide +kernel
theorem own_d29_1 : decode jdk_65_method_133_code 1 = .ok (.iload_n 2, 1) := by decide +kernel
theorem own_d29_2 : decode jdk_65_method_133_code 2 = .ok (.invokestatic 343, 3) := by decide +kernel
theorem own_d29_5 : decode jdk_65_method_133_code 5 = .ok (.iload_n 2, 1) := by decide +kernel
theorem own_d29_6 : decode jdk_65_method_133_code 6 = .ok (.iload_n 1, 1) := by decide +kernel
theorem own_d29_7 : decode jdk_65_method_133_code 7 = .ok (.isub, 1) := by decide +kernel
theorem own_d29_8 : decode jdk_65_method_133_code 8 = .ok (.istore_n 3, 1) := by decide +kernel
theorem own_d29_9 : decode jdk_65_method_133_code 9 = .ok (.iload_n 3, 1) := by decide +kernel
theorem own_d29_10 : decode jdk_65_method_133_code 10 = .ok (.newarray .byte, 2) := by decide +kernel
theorem own_d29_12 : decode jdk_65_method_133_code 12 = .ok (.astore 4, 2) := by decide +kernel
theorem own_d29_14 : decode jdk_65_method_133_code 14 = .ok (.aload_n 0, 1) := by decide +kernel
theorem own_d29_15 : decode jdk_65_method_133_code 15 = .ok (.iload_n 1, 1) := by decide +kernel
theorem own_d29_16 : decode jdk_65_method_133_code 16 = .ok (.aload 4, 2) := by decide +kernel
theorem own_d29_18 : decode jdk_65_method_133_code 18 = .ok (.iconst 0, 1) := by decide +kernel
theorem own_d29_19 : decode jdk_65_method_133_code 19 = .ok (.aload_n 0, 1) := by decide +kernel
theorem own_d29_20 : decode jdk_65_method_133_code 20 = .ok (.arraylength, 1) := by decide +kernel
theorem own_d29_21 : decode jdk_65_method_133_code 21 = .ok (.iload_n 1, 1) := by decide +kernel
theorem own_d29_22 : decode jdk_65_method_133_code 22 = .ok (.isub, 1) := by decide +kernel
theorem own_d29_23 : decode jdk_65_method_133_code 23 = .ok (.iload_n 3, 1) := by decide +kernel
theorem own_d29_24 : decode jdk_65_method_133_code 24 = .ok (.invokestatic 304, 3) := by decide +kernel
theorem own_d29_27 : decode jdk_65_method_133_code 27 = .ok (.invokestatic 150, 3) := by decide +kernel
theorem own_d29_30 : decode jdk_65_method_133_code 30 = .ok (.aload 4, 2) := by decide +kernel
theorem own_d29_32 : decode jdk_65_method_133_code 32 = .ok (.areturn, 1) := by decide +kernel
theorem own_pd7 : parseMethodDescriptor "(II)V" = some ⟨[.int, .int], none⟩ := by decide +kernel
theorem own_pd8 : parseMethodDescriptor "(II)I" = some ⟨[.int, .int], some .int⟩ := by decide +kernel
set_option maxHeartbeats 4000000 in
theorem own_ef_rm29 (m : MethodId) (x0 : Addr) (x1 : Int32) (x2 : Int32) : entryFrame m #[(.ref x0), (.int x1), (.int x2)] 5 = mkF m 0 #[.val (.ref x0), .val (.int x1), .val (.int x2), .unset, .unset] [] := by rfl
set_option maxRecDepth 65536 in
set_option maxHeartbeats 40000000 in
theorem rm29 (l : Launch) (Z : State) (a0 : Array Value) (hw : ∀ d ∈ tables_1, d.before a0 Z = true) (z0 : Int32) (O2 : Sta Z Z.heap "java/lang/String" "COMPACT_STRINGS" "Z" (.int z0)) (P5 : ¬ z0 = (0 : Int32)) (fm0 : Value) (O4 : Sta Z Z.heap "jdk/internal/util/Preconditions" "SIOOBE_FORMATTER" "Ljava/util/function/BiFunction;" fm0) (R4 : fm0.isRef = true) (ws : List Jvm.Cond) (t : Addr) (y : Int32) (kb : ClassId) (cs : List Int32) (h0 : Heap) (n0 : Nat) (Z0 : n0 ≤ h0.size) (At : Arv Z h0 t kb .byte (16 : Int32) (own_bs cs) (.int (0 : Int32))) (hy : y = (own_n cs)) (hl : cs.length < 16) :
    own_MetN l Z (⟨"java/util/Arrays", "copyOfRangeByte", "([BII)[B"⟩ : MethodName) jdk_65_method_133_code 5 (some (.array .byte)) ws ({ frames := 1, cells := 1, slots := 16, locals := 27 } : Room) #[(.ref t), (.int (0 : Int32)), (.int y)] h0 (fun v h L => Fr n0 L ∧ Keep h0 h [] ∧ ((∃ (b : Addr) (kb2 : ClassId), (v = some (.ref b)) ∧ (h0.size ≤ b) ∧ (Arv Z h b kb2 .byte (own_n cs) (own_bs cs) (.int (0 : Int32)))))) := by
  refine own_metN (plainFor_of_name own_pn4) ?_
  intro p e s m below meth c s₁ G hx hby hml hZ hown hnm hret X0 e0 go fin
  have N0 := Fr.nil n0
  refine go _ _ (fun _ k => castTop (own_ef_rm29 m t (0 : Int32) y) k) ?_
  show G (s₁.setTop (mkF m 0 #[.val (.ref t), .val (.int (0 : Int32)), .val (.int y), .unset, .unset] []))
  subst hy
  show G (s₁.setTop (mkF m 0 #[.val (.ref t), .val (.int (0 : Int32)), .val (.int (own_n cs)), .unset, .unset] []))
  have hnn : ¬ (own_n cs) < (0 : Int32) := own_n_nn (by omega)
  have hl16 : (own_n cs) < (16 : Int32) := own_n_lt (k := 16) rfl hl (by decide)
  have hn16 : ¬ (own_n cs) = (16 : Int32) := own_n_ne (k := 16) rfl hl (by decide)
  refine go _ _ (fun _ k => XS.iloadN X0.here hx rfl (hb hby own_d29_0) rfl (XS.iloadN X0.here hx rfl (hb hby own_d29_1) rfl k)) ?_
  show G (s₁.setTop (mkF m 2 #[.val (.ref t), .val (.int (0 : Int32)), .val (.int (own_n cs)), .unset, .unset] [(.int (own_n cs)), (.int (0 : Int32))]))
  obtain ⟨rv101, T101, L101, X101, q101, st101⟩ := own_st X0 hx hZ (y := (⟨"java/util/Arrays", "checkLength", "(II)V"⟩ : MethodName)) hown (ow hw 164 rfl) (ow hw 165 rfl) (ow hw 159 rfl) (ow hw 166 rfl) (by decide) (own_bkN (W := 0) (rm30 l Z a0 hw z0 O2 P5 fm0 O4 R4 [] (own_n cs) h0 n0 Z0 hnn) hZ (ow hw 166 rfl) (ow hw 159 rfl) (by decide) (by decide)) e0 (g := (mkF m 2 #[.val (.ref t), .val (.int (0 : Int32)), .val (.int (own_n cs)), .unset, .unset] [(.int (own_n cs)), (.int (0 : Int32))])) rfl (by rw [hml]; rfl) (argsL := [(.int (0 : Int32)), (.int (own_n cs))]) (rest := []) rfl (lenOf own_pd7 rfl) rfl (by show 2 * 0 + _ ≤ _; exact Nat.le_of_eq rfl) (hb hby own_d29_2) (by decide) (by decide)
  obtain ⟨Nq101, e101, rfl⟩ := q101
  have N101 := Fr.app N0 Nq101
  refine go _ _ (st101) ?_
  show G (T101.setTop (mkF m 5 #[.val (.ref t), .val (.int (0 : Int32)), .val (.int (own_n cs)), .unset, .unset] []))
  refine go _ _ (fun _ k => XS.iloadN X101.here hx rfl (hb hby own_d29_5) rfl (XS.iloadN X101.here hx rfl (hb hby own_d29_6) rfl (XS.isub X101.here hx rfl (hb hby own_d29_7) rfl k))) ?_
  show G (T101.setTop (mkF m 8 #[.val (.ref t), .val (.int (0 : Int32)), .val (.int (own_n cs)), .unset, .unset] [(.int ((own_n cs) - (0 : Int32)))]))
  rw [Int32.sub_zero]
  show G (T101.setTop (mkF m 8 #[.val (.ref t), .val (.int (0 : Int32)), .val (.int (own_n cs)), .unset, .unset] [(.int (own_n cs))]))
  refine go _ _ (fun _ k => XS.istoreN X101.here hx rfl (hb hby own_d29_8) rfl (l' := #[.val (.ref t), .val (.int (0 : Int32)), .val (.int (own_n cs)), .val (.int (own_n cs)), .unset]) rfl (XS.iloadN X101.here hx rfl (hb hby own_d29_9) rfl k)) ?_
  show G (T101.setTop (mkF m 10 #[.val (.ref t), .val (.int (0 : Int32)), .val (.int (own_n cs)), .val (.int (own_n cs)), .unset] [(.int (own_n cs))]))
  obtain ⟨T102, h102, k102, X102, e102, E102, A102, st102⟩ := newP X101 hx hZ (ow hw 26 rfl) e101 (g := (mkF m 10 #[.val (.ref t), .val (.int (0 : Int32)), .val (.int (own_n cs)), .val (.int (own_n cs)), .unset] [(.int (own_n cs))])) rfl (hb hby own_d29_10) rfl hnn (cap := 16) (by have q := (own_nN (show cs.length ≤ 4000 by omega)).1; show (Int32.ofNat cs.length).toNatClampNeg ≤ 16; omega) (by decide) (by decide) (by decide)
  obtain ⟨b102, g102⟩ : ∃ z, z = h0.size := ⟨_, rfl⟩
  rw [← g102] at A102 st102
  have V102 : Arv Z h102 b102 k102 .byte (own_n cs) (own_bs ([] : List Int32)) (.int (0 : Int32)) := Arv.new A102 hnn
  refine go _ _ (st102) ?_
  show G (T102.setTop (mkF m 12 #[.val (.ref t), .val (.int (0 : Int32)), .val (.int (own_n cs)), .val (.int (own_n cs)), .unset] [(.ref b102)]))
  refine go _ _ (fun _ k => XS.astore X102.here hx rfl (hb hby own_d29_12) rfl rfl (l' := #[.val (.ref t), .val (.int (0 : Int32)), .val (.int (own_n cs)), .val (.int (own_n cs)), .val (.ref b102)]) rfl (XS.aloadN X102.here hx rfl (hb hby own_d29_14) rfl rfl (XS.iloadN X102.here hx rfl (hb hby own_d29_15) rfl (XS.aload X102.here hx rfl (hb hby own_d29_16) rfl rfl (XS.iconst X102.here hx rfl (hb hby own_d29_18) (XS.aloadN X102.here hx rfl (hb hby own_d29_19) rfl rfl k)))))) ?_
  show G (T102.setTop (mkF m 20 #[.val (.ref t), .val (.int (0 : Int32)), .val (.int (own_n cs)), .val (.int (own_n cs)), .val (.ref b102)] [(.ref t), (.int (0 : Int32)), (.ref b102), (.int (0 : Int32)), (.ref t)]))
  have K104 : Keep h0 h102 [] := (Keep.refl h0 []).ext E102
  have F105 : Arv Z h102 t kb .byte (16 : Int32) (own_bs cs) (.int (0 : Int32)) := (At.keep K104 nin0)
  obtain ⟨cl103, Ar103, q103, S103, M103, H103, U103⟩ := id F105
  refine go _ _ (fun _ k => X102.arraylength hx (by rw [e102]; exact Ar103.1) (State.isArrayOf_alike hZ.alike Ar103.2.1) (g := (mkF m 20 #[.val (.ref t), .val (.int (0 : Int32)), .val (.int (own_n cs)), .val (.int (own_n cs)), .val (.ref b102)] [(.ref t), (.int (0 : Int32)), (.ref b102), (.int (0 : Int32)), (.ref t)])) rfl rfl (hb hby own_d29_20) _ k) ?_
  show G (T102.setTop (mkF m 21 #[.val (.ref t), .val (.int (0 : Int32)), .val (.int (own_n cs)), .val (.int (own_n cs)), .val (.ref b102)] [(.int cl103.slots.size.toInt32), (.int (0 : Int32)), (.ref b102), (.int (0 : Int32)), (.ref t)]))
  rw [len_of S103 M103]
  show G (T102.setTop (mkF m 21 #[.val (.ref t), .val (.int (0 : Int32)), .val (.int (own_n cs)), .val (.int (own_n cs)), .val (.ref b102)] [(.int (16 : Int32)), (.int (0 : Int32)), (.ref b102), (.int (0 : Int32)), (.ref t)]))
  refine go _ _ (fun _ k => XS.iloadN X102.here hx rfl (hb hby own_d29_21) rfl (XS.isub X102.here hx rfl (hb hby own_d29_22) rfl (XS.iloadN X102.here hx rfl (hb hby own_d29_23) rfl k))) ?_
  show G (T102.setTop (mkF m 24 #[.val (.ref t), .val (.int (0 : Int32)), .val (.int (own_n cs)), .val (.int (own_n cs)), .val (.ref b102)] [(.int (own_n cs)), (.int (16 : Int32)), (.int (0 : Int32)), (.ref b102), (.int (0 : Int32)), (.ref t)]))
  have Z107 : h0.size ≤ h102.size := E102.1
  obtain ⟨rv106, T106, L106, X106, q106, st106⟩ := own_st X102 hx hZ (y := (⟨"java/lang/Math", "min", "(II)I"⟩ : MethodName)) hown (ow hw 167 rfl) (ow hw 168 rfl) (ow hw 169 rfl) (ow hw 170 rfl) (by decide) (own_bkN (W := 4) (rm31 l Z a0 hw z0 O2 P5 fm0 O4 R4 [] (16 : Int32) (own_n cs) h102 n0 (Nat.le_trans Z0 Z107)) hZ (ow hw 170 rfl) (ow hw 169 rfl) (by decide) (by decide)) e102 (g := (mkF m 24 #[.val (.ref t), .val (.int (0 : Int32)), .val (.int (own_n cs)), .val (.int (own_n cs)), .val (.ref b102)] [(.int (own_n cs)), (.int (16 : Int32)), (.int (0 : Int32)), (.ref b102), (.int (0 : Int32)), (.ref t)])) rfl (by rw [hml]; rfl) (argsL := [(.int (16 : Int32)), (.int (own_n cs))]) (rest := [(.int (0 : Int32)), (.ref b102), (.int (0 : Int32)), (.ref t)]) rfl (lenOf own_pd8 rfl) rfl (by show 2 * 0 + _ ≤ _; exact Nat.le_of_eq rfl) (hb hby own_d29_24) (by decide) (by decide)
  obtain ⟨Nq106, e106, q106⟩ := q106
  have N106 := Fr.app N101 Nq106
  rcases q106 with ⟨rfl, p108⟩ | ⟨rfl, p109⟩
  · refine go _ _ (st106) ?_
    show G (T106.setTop (mkF m 27 #[.val (.ref t), .val (.int (0 : Int32)), .val (.int (own_n cs)), .val (.int (own_n cs)), .val (.ref b102)] [(.int (own_n cs)), (.int (0 : Int32)), (.ref b102), (.int (0 : Int32)), (.ref t)]))
    obtain ⟨T110, h110, L110, X110, e110, N110, Kp110, V110, st110⟩ := own_cp X106 hx hZ hown (ow hw 171 rfl) (ow hw 125 rfl) (ow hw 123 rfl) (ow hw 124 rfl) e106 (cs := ([] : List Int32)) (ds := cs) F105 V102 (show cs.length ≤ 4000 by omega) (by decide) (show cs.length ≤ 16 by omega) (by have q := (own_nN (show cs.length ≤ 4000 by omega)).1; show 0 + cs.length ≤ (Int32.ofNat cs.length).toNatClampNeg; omega) N106 (Nat.le_trans Z0 (Nat.le_of_eq g102.symm)) (g := (mkF m 27 #[.val (.ref t), .val (.int (0 : Int32)), .val (.int (own_n cs)), .val (.int (own_n cs)), .val (.ref b102)] [(.int (own_n cs)), (.int (0 : Int32)), (.ref b102), (.int (0 : Int32)), (.ref t)])) rfl (by rw [hml]; rfl) (rest := []) rfl (hb hby own_d29_27) (by decide) (W := 0) (by show 2 * 0 + _ ≤ _; exact Nat.le_of_eq rfl) (by decide)
    refine go _ _ (st110) ?_
    show G (T110.setTop (mkF m 30 #[.val (.ref t), .val (.int (0 : Int32)), .val (.int (own_n cs)), .val (.int (own_n cs)), .val (.ref b102)] []))
    refine go _ _ (fun _ k => XS.aload X110.here hx rfl (hb hby own_d29_30) rfl rfl k) ?_
    show G (T110.setTop (mkF m 32 #[.val (.ref t), .val (.int (0 : Int32)), .val (.int (own_n cs)), .val (.int (own_n cs)), .val (.ref b102)] [(.ref b102)]))
    have K111 : Keep h0 h110 [] := K104.trans Kp110 (allS (Or.inr (Nat.le_of_eq g102.symm)) all0)
    refine fin T110 _ _ _ (some (.ref b102)) X110 (fun q => nomatch q) (by decide) (by decide) (by rw [e110]; exact ⟨N110, K111, ⟨b102, k102, rfl, (Nat.le_of_eq g102.symm), V110⟩⟩) _ (own_retA X110 hx hret rfl rfl rfl (hb hby own_d29_32))
  · exact absurd hl16 p109
theorem own_d28_0 : decode jdk_65_method_132_code 0 = .ok (.iload_n 1, 1) := by decide +kernel
theorem own_d28_1 : decode jdk_65_method_132_code 1 = .ok (.ifCond .ne 9, 3) := by decide +kernel
theorem own_d28_4 : decode jdk_65_method_132_code 4 = .ok (.iload_n 2, 1) := by decide +kernel
theorem own_d28_5 : decode jdk_65_method_132_code 5 = .ok (.aload_n 0, 1) := by decide +kernel
theorem own_d28_6 : decode jdk_65_method_132_code 6 = .ok (.arraylength, 1) := by decide +kernel
theorem own_d28_7 : decode jdk_65_method_132_code 7 = .ok (.if_icmp .eq 10, 3) := by decide +kernel
theorem own_d28_10 : decode jdk_65_method_132_code 10 = .ok (.aload_n 0, 1) := by decide +kernel
theorem own_d28_11 : decode jdk_65_method_132_code 11 = .ok (.iload_n 1, 1) := by decide +kernel
theorem own_d28_12 : decode jdk_65_method_132_code 12 = .ok (.iload_n 2, 1) := by decide +kernel
theorem own_d28_13 : decode jdk_65_method_132_code 13 = .ok (.invokestatic 339, 3) := by decide +kernel
theorem own_d28_16 : decode jdk_65_method_132_code 16 = .ok (.areturn, 1) := by decide +kernel
theorem own_d28_17 : decode jdk_65_method_132_code 17 = .ok (.aload_n 0, 1) := by decide +kernel
theorem own_d28_18 : decode jdk_65_method_132_code 18 = .ok (.invokevirtual 310, 3) := by decide +kernel
theorem own_d28_21 : decode jdk_65_method_132_code 21 = .ok (.checkcast 311, 3) := by decide +kernel
theorem own_d28_24 : decode jdk_65_method_132_code 24 = .ok (.areturn, 1) := by decide +kernel
theorem own_pd9 : parseMethodDescriptor "([BII)[B" = some ⟨[(.array .byte), .int, .int], some (.array .byte)⟩ := by decide +kernel
set_option maxHeartbeats 4000000 in
theorem own_ef_rm28 (m : MethodId) (x0 : Addr) (x1 : Int32) (x2 : Int32) : entryFrame m #[(.ref x0), (.int x1), (.int x2)] 3 = mkF m 0 #[.val (.ref x0), .val (.int x1), .val (.int x2)] [] := by rfl
set_option maxRecDepth 65536 in
set_option maxHeartbeats 40000000 in
theorem rm28 (l : Launch) (Z : State) (a0 : Array Value) (hw : ∀ d ∈ tables_1, d.before a0 Z = true) (z0 : Int32) (O2 : Sta Z Z.heap "java/lang/String" "COMPACT_STRINGS" "Z" (.int z0)) (P5 : ¬ z0 = (0 : Int32)) (fm0 : Value) (O4 : Sta Z Z.heap "jdk/internal/util/Preconditions" "SIOOBE_FORMATTER" "Ljava/util/function/BiFunction;" fm0) (R4 : fm0.isRef = true) (ws : List Jvm.Cond) (t : Addr) (y : Int32) (kb : ClassId) (cs : List Int32) (h0 : Heap) (n0 : Nat) (Z0 : n0 ≤ h0.size) (At : Arv Z h0 t kb .byte (16 : Int32) (own_bs cs) (.int (0 : Int32))) (hy : y = (own_n cs)) (hl : cs.length < 16) :
    own_MetN l Z (⟨"java/util/Arrays", "copyOfRange", "([BII)[B"⟩ : MethodName) jdk_65_method_132_code 3 (some (.array .byte)) ws ({ frames := 2, cells := 1, slots := 16, locals := 43 } : Room) #[(.ref t), (.int (0 : Int32)), (.int y)] h0 (fun v h L => Fr n0 L ∧ Keep h0 h [] ∧ ((∃ (b : Addr) (kb2 : ClassId), (v = some (.ref b)) ∧ (h0.size ≤ b) ∧ (Arv Z h b kb2 .byte (own_n cs) (own_bs cs) (.int (0 : Int32)))))) := by
  refine own_metN (plainFor_of_name own_pn4) ?_
  intro p e s m below meth c s₁ G hx hby hml hZ hown hnm hret X0 e0 go fin
  have N0 := Fr.nil n0
  refine go _ _ (fun _ k => castTop (own_ef_rm28 m t (0 : Int32) y) k) ?_
  show G (s₁.setTop (mkF m 0 #[.val (.ref t), .val (.int (0 : Int32)), .val (.int y)] []))
  subst hy
  show G (s₁.setTop (mkF m 0 #[.val (.ref t), .val (.int (0 : Int32)), .val (.int (own_n cs))] []))
  have hnn : ¬ (own_n cs) < (0 : Int32) := own_n_nn (by omega)
  have hl16 : (own_n cs) < (16 : Int32) := own_n_lt (k := 16) rfl hl (by decide)
  have hn16 : ¬ (own_n cs) = (16 : Int32) := own_n_ne (k := 16) rfl hl (by decide)
  refine go _ _ (fun _ k => XS.iloadN X0.here hx rfl (hb hby own_d28_0) rfl k) ?_
  show G (s₁.setTop (mkF m 1 #[.val (.ref t), .val (.int (0 : Int32)), .val (.int (own_n cs))] [(.int (0 : Int32))]))
  refine go _ _ (fun _ k => XS.ifNo X0.here hx rfl (hb hby own_d28_1) rfl (by decide) k) ?_
  show G (s₁.setTop (mkF m 4 #[.val (.ref t), .val (.int (0 : Int32)), .val (.int (own_n cs))] []))
  refine go _ _ (fun _ k => XS.iloadN X0.here hx rfl (hb hby own_d28_4) rfl (XS.aloadN X0.here hx rfl (hb hby own_d28_5) rfl rfl k)) ?_
  show G (s₁.setTop (mkF m 6 #[.val (.ref t), .val (.int (0 : Int32)), .val (.int (own_n cs))] [(.ref t), (.int (own_n cs))]))
  obtain ⟨cl101, Ar101, q101, S101, M101, H101, U101⟩ := id At
  refine go _ _ (fun _ k => X0.arraylength hx (by rw [e0]; exact Ar101.1) (State.isArrayOf_alike hZ.alike Ar101.2.1) (g := (mkF m 6 #[.val (.ref t), .val (.int (0 : Int32)), .val (.int (own_n cs))] [(.ref t), (.int (own_n cs))])) rfl rfl (hb hby own_d28_6) _ k) ?_
  show G (s₁.setTop (mkF m 7 #[.val (.ref t), .val (.int (0 : Int32)), .val (.int (own_n cs))] [(.int cl101.slots.size.toInt32), (.int (own_n cs))]))
  rw [len_of S101 M101]
  show G (s₁.setTop (mkF m 7 #[.val (.ref t), .val (.int (0 : Int32)), .val (.int (own_n cs))] [(.int (16 : Int32)), (.int (own_n cs))]))
  refine go _ _ (fun _ k => XS.icmpNo X0.here hx rfl (hb hby own_d28_7) rfl (feq hn16).1 k) ?_
  show G (s₁.setTop (mkF m 10 #[.val (.ref t), .val (.int (0 : Int32)), .val (.int (own_n cs))] []))
  refine go _ _ (fun _ k => XS.aloadN X0.here hx rfl (hb hby own_d28_10) rfl rfl (XS.iloadN X0.here hx rfl (hb hby own_d28_11) rfl (XS.iloadN X0.here hx rfl (hb hby own_d28_12) rfl k))) ?_
  show G (s₁.setTop (mkF m 13 #[.val (.ref t), .val (.int (0 : Int32)), .val (.int (own_n cs))] [(.int (own_n cs)), (.int (0 : Int32)), (.ref t)]))
  obtain ⟨rv102, T102, L102, X102, q102, st102⟩ := own_st X0 hx hZ (y := (⟨"java/util/Arrays", "copyOfRangeByte", "([BII)[B"⟩ : MethodName)) hown (ow hw 161 rfl) (ow hw 162 rfl) (ow hw 159 rfl) (ow hw 163 rfl) (by decide) (own_bkN (W := 0) (rm29 l Z a0 hw z0 O2 P5 fm0 O4 R4 [] t (own_n cs) kb cs h0 n0 Z0 At rfl hl) hZ (ow hw 163 rfl) (ow hw 159 rfl) (by decide) (by decide)) e0 (g := (mkF m 13 #[.val (.ref t), .val (.int (0 : Int32)), .val (.int (own_n cs))] [(.int (own_n cs)), (.int (0 : Int32)), (.ref t)])) rfl (by rw [hml]; rfl) (argsL := [(.ref t), (.int (0 : Int32)), (.int (own_n cs))]) (rest := []) rfl (lenOf own_pd9 rfl) rfl (by show 2 * 0 + _ ≤ _; exact Nat.le_of_eq rfl) (hb hby own_d28_13) (by decide) (by decide)
  obtain ⟨Nq102, Kp102, ⟨b_103, kb2_104, rfl, z105, f106⟩⟩ := q102
  have N102 := Fr.app N0 Nq102
  refine go _ _ (st102) ?_
  show G (T102.setTop (mkF m 16 #[.val (.ref t), .val (.int (0 : Int32)), .val (.int (own_n cs))] [(.ref b_103)]))
  have K107 : Keep h0 T102.heap [] := (Keep.refl h0 []).trans Kp102 all0
  refine fin T102 _ _ _ (some (.ref b_103)) X102 (fun q => nomatch q) (by decide) (by decide) ⟨N102, K107, ⟨b_103, kb2_104, rfl, z105, f106⟩⟩ _ (own_retA X102 hx hret rfl rfl rfl (hb hby own_d28_16))
theorem own_d23_0 : decode jdk_42_method_150_code 0 = .ok (.aload_n 0, 1) := by decide +kernel
theorem own_d23_1 : decode jdk_42_method_150_code 1 = .ok (.invokespecial 1, 3) := by decide +kernel
theorem own_d23_4 : decode jdk_42_method_150_code 4 = .ok (.aload_n 1, 1) := by decide +kernel
theorem own_d23_5 : decode jdk_42_method_150_code 5 = .ok (.invokevirtual 552, 3) := by decide +kernel
theorem own_d23_8 : decode jdk_42_method_150_code 8 = .ok (.astore_n 3, 1) := by decide +kernel
theorem own_d23_9 : decode jdk_42_method_150_code 9 = .ok (.aload_n 1, 1) := by decide +kernel
theorem own_d23_10 : decode jdk_42_method_150_code 10 = .ok (.invokevirtual 549, 3) := by decide +kernel
theorem own_d23_13 : decode jdk_42_method_150_code 13 = .ok (.istore 4, 2) := by decide +kernel
theorem own_d23_15 : decode jdk_42_method_150_code 15 = .ok (.aload_n 1, 1) := by decide +kernel
theorem own_d23_16 : decode jdk_42_method_150_code 16 = .ok (.invokevirtual 1047, 3) := by decide +kernel
theorem own_d23_19 : decode jdk_42_method_150_code 19 = .ok (.ifCond .eq 22, 3) := by decide +kernel
theorem own_d23_22 : decode jdk_42_method_150_code 22 = .ok (.aload_n 0, 1) := by decide +kernel
theorem own_d23_23 : decode jdk_42_method_150_code 23 = .ok (.iconst 0, 1) := by decide +kernel
theorem own_d23_24 : decode jdk_42_method_150_code 24 = .ok (.putfield 15, 3) := by decide +kernel
theorem own_d23_27 : decode jdk_42_method_150_code 27 = .ok (.aload_n 0, 1) := by decide +kernel
theorem own_d23_28 : decode jdk_42_method_150_code 28 = .ok (.aload_n 3, 1) := by decide +kernel
theorem own_d23_29 : decode jdk_42_method_150_code 29 = .ok (.iconst 0, 1) := by decide +kernel
theorem own_d23_30 : decode jdk_42_method_150_code 30 = .ok (.iload 4, 2) := by decide +kernel
theorem own_d23_32 : decode jdk_42_method_150_code 32 = .ok (.invokestatic 54, 3) := by decide +kernel
theorem own_d23_35 : decode jdk_42_method_150_code 35 = .ok (.putfield 9, 3) := by decide +kernel
theorem own_d23_38 : decode jdk_42_method_150_code 38 = .ok (.goto 59, 3) := by decide +kernel
theorem own_d23_41 : decode jdk_42_method_150_code 41 = .ok (.getstatic 38, 3) := by decide +kernel
theorem own_d23_44 : decode jdk_42_method_150_code 44 = .ok (.ifCond .eq 35, 3) := by decide +kernel
theorem own_d23_47 : decode jdk_42_method_150_code 47 = .ok (.aload_n 1, 1) := by decide +kernel
theorem own_d23_48 : decode jdk_42_method_150_code 48 = .ok (.getfield 1048, 3) := by decide +kernel
theorem own_d23_51 : decode jdk_42_method_150_code 51 = .ok (.ifCond .eq 28, 3) := by decide +kernel
theorem own_d23_54 : decode jdk_42_method_150_code 54 = .ok (.aload_n 0, 1) := by decide +kernel
theorem own_d23_55 : decode jdk_42_method_150_code 55 = .ok (.aload_n 3, 1) := by decide +kernel
theorem own_d23_56 : decode jdk_42_method_150_code 56 = .ok (.iconst 0, 1) := by decide +kernel
theorem own_d23_57 : decode jdk_42_method_150_code 57 = .ok (.iload 4, 2) := by decide +kernel
theorem own_d23_59 : decode jdk_42_method_150_code 59 = .ok (.invokestatic 1051, 3) := by decide +kernel
theorem own_d23_62 : decode jdk_42_method_150_code 62 = .ok (.putfield 9, 3) := by decide +kernel
theorem own_d23_65 : decode jdk_42_method_150_code 65 = .ok (.aload_n 0, 1) := by decide +kernel
theorem own_d23_66 : decode jdk_42_method_150_code 66 = .ok (.aload_n 0, 1) := by decide +kernel
theorem own_d23_67 : decode jdk_42_method_150_code 67 = .ok (.getfield 9, 3) := by decide +kernel
theorem own_d23_70 : decode jdk_42_method_150_code 70 = .ok (.iload 4, 2) := by decide +kernel
theorem own_d23_72 : decode jdk_42_method_150_code 72 = .ok (.invokestatic 47, 3) := by decide +kernel
theorem own_d23_75 : decode jdk_42_method_150_code 75 = .ok (.putfield 15, 3) := by decide +kernel
theorem own_d23_78 : decode jdk_42_method_150_code 78 = .ok (.return_, 1) := by decide +kernel
theorem own_d23_79 : decode jdk_42_method_150_code 79 = .ok (.aload_n 0, 1) := by decide +kernel
theorem own_d23_80 : decode jdk_42_method_150_code 80 = .ok (.iconst 1, 1) := by decide +kernel
theorem own_d23_81 : decode jdk_42_method_150_code 81 = .ok (.putfield 15, 3) := by decide +kernel
theorem own_d23_84 : decode jdk_42_method_150_code 84 = .ok (.aload_n 0, 1) := by decide +kernel
theorem own_d23_85 : decode jdk_42_method_150_code 85 = .ok (.aload_n 3, 1) := by decide +kernel
theorem own_d23_86 : decode jdk_42_method_150_code 86 = .ok (.iconst 0, 1) := by decide +kernel
theorem own_d23_87 : decode jdk_42_method_150_code 87 = .ok (.iload 4, 2) := by decide +kernel
theorem own_d23_89 : decode jdk_42_method_150_code 89 = .ok (.iconst 1, 1) := by decide +kernel
theorem own_d23_90 : decode jdk_42_method_150_code 90 = .ok (.ishl, 1) := by decide +kernel
theorem own_d23_91 : decode jdk_42_method_150_code 91 = .ok (.invokestatic 54, 3) := by decide +kernel
theorem own_d23_94 : decode jdk_42_method_150_code 94 = .ok (.putfield 9, 3) := by decide +kernel
theorem own_d23_97 : decode jdk_42_method_150_code 97 = .ok (.return_, 1) := by decide +kernel
theorem own_pd10 : parseMethodDescriptor "()[B" = some ⟨[], some (.array .byte)⟩ := by decide +kernel
theorem own_pd11 : parseMethodDescriptor "()Z" = some ⟨[], some .boolean⟩ := by decide +kernel
set_option maxHeartbeats 4000000 in
theorem own_ef_rm23 (m : MethodId) (x0 : Addr) (x1 : Addr) : entryFrame m #[(.ref x0), (.ref x1), .null] 5 = mkF m 0 #[.val (.ref x0), .val (.ref x1), .val .null, .unset, .unset] [] := by rfl
set_option maxRecDepth 65536 in
set_option maxHeartbeats 40000000 in
theorem rm23 (l : Launch) (Z : State) (a0 : Array Value) (hw : ∀ d ∈ tables_1, d.before a0 Z = true) (z0 : Int32) (O2 : Sta Z Z.heap "java/lang/String" "COMPACT_STRINGS" "Z" (.int z0)) (P5 : ¬ z0 = (0 : Int32)) (fm0 : Value) (O4 : Sta Z Z.heap "jdk/internal/util/Preconditions" "SIOOBE_FORMATTER" "Ljava/util/function/BiFunction;" fm0) (R4 : fm0.isRef = true) (ws : List Jvm.Cond) (x : Addr) (a : Addr) (t : Addr) (kb : ClassId) (cs : List Int32) (h0 : Heap) (n0 : Nat) (Z0 : n0 ≤ h0.size) (Ex : Exa Z h0 x "java/lang/String") (Vx : Fld Z h0 x "java/lang/String" "value" "[B" .null) (Cx : Fld Z h0 x "java/lang/String" "coder" "B" (.int (0 : Int32))) (Xo : Old Z n0 h0) (Ea : Exa Z h0 a "java/lang/StringBuilder") (Fv : Fld Z h0 a "java/lang/AbstractStringBuilder" "value" "[B" (.ref t)) (Fc : Fld Z h0 a "java/lang/AbstractStringBuilder" "coder" "B" (.int (0 : Int32))) (Fn : Fld Z h0 a "java/lang/AbstractStringBuilder" "count" "I" (.int (own_n cs))) (At : Arv Z h0 t kb .byte (16 : Int32) (own_bs cs) (.int (0 : Int32))) (hl : cs.length < 16) (hbd : ∀ c ∈ cs, ¬ c < 0 ∧ ¬ (255 : Int32) < c) (gz_x : n0 ≤ x) :
    own_MetN l Z (⟨"java/lang/String", "<init>", "(Ljava/lang/AbstractStringBuilder;Ljava/lang/Void;)V"⟩ : MethodName) jdk_42_method_150_code 5 none ws ({ frames := 3, cells := 1, slots := 16, locals := 58 } : Room) #[(.ref x), (.ref a), .null] h0 (fun v h L => Fr n0 L ∧ Keep h0 h [x] ∧ (((v = none) ∧ (Exa Z h x "java/lang/String") ∧ (own_Str Z h x cs)))) := by
  refine own_metN (plainFor_of_name own_pn2) ?_
  intro p e s m below meth c s₁ G hx hby hml hZ hown hnm hret X0 e0 go fin
  have N0 := Fr.nil n0
  refine go _ _ (fun _ k => castTop (own_ef_rm23 m x a) k) ?_
  show G (s₁.setTop (mkF m 0 #[.val (.ref x), .val (.ref a), .val .null, .unset, .unset] []))
  refine go _ _ (fun _ k => XS.aloadN X0.here hx rfl (hb hby own_d23_0) rfl rfl k) ?_
  show G (s₁.setTop (mkF m 1 #[.val (.ref x), .val (.ref a), .val .null, .unset, .unset] [(.ref x)]))
  obtain ⟨T101, X101, e101, st101⟩ := initO X0 hx hZ hown (ow hw 18 rfl) (ow hw 19 rfl) (ow hw 20 rfl) e0 (g := (mkF m 1 #[.val (.ref x), .val (.ref a), .val .null, .unset, .unset] [(.ref x)])) rfl (by rw [hml]; rfl) rfl (hb hby own_d23_1) (by decide) (W := 0) (by show 2 * 0 + _ ≤ _; exact Nat.le_of_eq rfl) (by decide)
  refine go _ _ (st101) ?_
  show G (T101.setTop (mkF m 4 #[.val (.ref x), .val (.ref a), .val .null, .unset, .unset] []))
  refine go _ _ (fun _ k => XS.aloadN X101.here hx rfl (hb hby own_d23_4) rfl rfl k) ?_
  show G (T101.setTop (mkF m 5 #[.val (.ref x), .val (.ref a), .val .null, .unset, .unset] [(.ref a)]))
  obtain ⟨rv102, T102, L102, X102, q102, st102⟩ := own_vi X101 hx hZ (y := (⟨"java/lang/AbstractStringBuilder", "getValue", "()[B"⟩ : MethodName)) (z := (⟨"java/lang/AbstractStringBuilder", "getValue", "()[B"⟩ : MethodName)) hown (ow hw 139 rfl) (ow hw 140 rfl) (ow hw 142 rfl) (ow hw 141 rfl) (Or.inl rfl) (by decide) (own_bkN (W := 0) (rm24 l Z a0 hw z0 O2 P5 fm0 O4 R4 [] a t h0 n0 Z0 Fv) hZ (ow hw 143 rfl) (ow hw 71 rfl) (by decide) (by decide)) e101 Ea (g := (mkF m 5 #[.val (.ref x), .val (.ref a), .val .null, .unset, .unset] [(.ref a)])) rfl (by rw [hml]; rfl) (argsL := []) (rest := []) rfl (lenOf own_pd10 rfl) rfl (by show 2 * 0 + _ ≤ _; exact Nat.le_of_eq rfl) (hb hby own_d23_5) (by decide) (by decide)
  obtain ⟨Nq102, e102, rfl⟩ := q102
  have N102 := Fr.app N0 Nq102
  refine go _ _ (st102) ?_
  show G (T102.setTop (mkF m 8 #[.val (.ref x), .val (.ref a), .val .null, .unset, .unset] [(.ref t)]))
  refine go _ _ (fun _ k => XS.astoreN X102.here hx rfl (hb hby own_d23_8) rfl rfl (l' := #[.val (.ref x), .val (.ref a), .val .null, .val (.ref t), .unset]) rfl (XS.aloadN X102.here hx rfl (hb hby own_d23_9) rfl rfl k)) ?_
  show G (T102.setTop (mkF m 10 #[.val (.ref x), .val (.ref a), .val .null, .val (.ref t), .unset] [(.ref a)]))
  obtain ⟨rv103, T103, L103, X103, q103, st103⟩ := own_vi X102 hx hZ (y := (⟨"java/lang/AbstractStringBuilder", "length", "()I"⟩ : MethodName)) (z := (⟨"java/lang/StringBuilder", "length", "()I"⟩ : MethodName)) hown (ow hw 144 rfl) (ow hw 145 rfl) (ow hw 147 rfl) (ow hw 148 rfl) (Or.inr (Or.inr (Or.inr ⟨_, _, (⟨"java/lang/AbstractStringBuilder", "ensureCapacityInternal", "(I)V"⟩ : MethodName), rfl, (ow hw 104 rfl)⟩))) (by decide) (own_bkN (W := 0) (rm25 l Z a0 hw z0 O2 P5 fm0 O4 R4 [] a (own_n cs) h0 n0 Z0 Ea Fn) hZ (ow hw 149 rfl) (ow hw 63 rfl) (by decide) (by decide)) e102 Ea (g := (mkF m 10 #[.val (.ref x), .val (.ref a), .val .null, .val (.ref t), .unset] [(.ref a)])) rfl (by rw [hml]; rfl) (argsL := []) (rest := []) rfl (lenOf own_pd1 rfl) rfl (by show 2 * 0 + _ ≤ _; exact Nat.le_of_eq rfl) (hb hby own_d23_10) (by decide) (by decide)
  obtain ⟨Nq103, e103, rfl⟩ := q103
  have N103 := Fr.app N102 Nq103
  refine go _ _ (st103) ?_
  show G (T103.setTop (mkF m 13 #[.val (.ref x), .val (.ref a), .val .null, .val (.ref t), .unset] [(.int (own_n cs))]))
  refine go _ _ (fun _ k => XS.istore X103.here hx rfl (hb hby own_d23_13) rfl (l' := #[.val (.ref x), .val (.ref a), .val .null, .val (.ref t), .val (.int (own_n cs))]) rfl (XS.aloadN X103.here hx rfl (hb hby own_d23_15) rfl rfl k)) ?_
  show G (T103.setTop (mkF m 16 #[.val (.ref x), .val (.ref a), .val .null, .val (.ref t), .val (.int (own_n cs))] [(.ref a)]))
  obtain ⟨rv104, T104, L104, X104, q104, st104⟩ := own_vi X103 hx hZ (y := (⟨"java/lang/AbstractStringBuilder", "isLatin1", "()Z"⟩ : MethodName)) (z := (⟨"java/lang/AbstractStringBuilder", "isLatin1", "()Z"⟩ : MethodName)) hown (ow hw 152 rfl) (ow hw 153 rfl) (ow hw 155 rfl) (ow hw 154 rfl) (Or.inl rfl) (by decide) (own_bkN (W := 0) (rm27 l Z a0 hw z0 O2 P5 fm0 O4 R4 [] a h0 n0 Z0 Xo Fc) hZ (ow hw 156 rfl) (ow hw 71 rfl) (by decide) (by decide)) e103 Ea (g := (mkF m 16 #[.val (.ref x), .val (.ref a), .val .null, .val (.ref t), .val (.int (own_n cs))] [(.ref a)])) rfl (by rw [hml]; rfl) (argsL := []) (rest := []) rfl (lenOf own_pd11 rfl) rfl (by show 2 * 0 + _ ≤ _; exact Nat.le_of_eq rfl) (hb hby own_d23_16) (by decide) (by decide)
  obtain ⟨Nq104, e104, rfl⟩ := q104
  have N104 := Fr.app N103 Nq104
  refine go _ _ (st104) ?_
  show G (T104.setTop (mkF m 19 #[.val (.ref x), .val (.ref a), .val .null, .val (.ref t), .val (.int (own_n cs))] [(.int (1 : Int32))]))
  refine go _ _ (fun _ k => XS.ifNo X104.here hx rfl (hb hby own_d23_19) rfl (by decide) k) ?_
  show G (T104.setTop (mkF m 22 #[.val (.ref x), .val (.ref a), .val .null, .val (.ref t), .val (.int (own_n cs))] []))
  refine go _ _ (fun _ k => XS.aloadN X104.here hx rfl (hb hby own_d23_22) rfl rfl (XS.iconst X104.here hx rfl (hb hby own_d23_23) k)) ?_
  show G (T104.setTop (mkF m 24 #[.val (.ref x), .val (.ref a), .val .null, .val (.ref t), .val (.int (own_n cs))] [(.int (0 : Int32)), (.ref x)]))
  obtain ⟨T105, h105, X105, e105, W105, st105⟩ := putF X104 hx hZ hown (host := "") (Or.inl (ow hw 33 rfl)) Via.refl e104 Cx Ex (Or.inr ⟨(ow hw 34 rfl), rfl, hnm⟩) (ow hw 5 rfl) (ty := .byte) (by decide) rfl rfl (g := (mkF m 24 #[.val (.ref x), .val (.ref a), .val .null, .val (.ref t), .val (.int (own_n cs))] [(.int (0 : Int32)), (.ref x)])) rfl rfl (hb hby own_d23_24)
  have N105 := Fr.snoc X105 N104 gz_x
  refine go _ _ (st105) ?_
  show G (T105.setTop (mkF m 27 #[.val (.ref x), .val (.ref a), .val .null, .val (.ref t), .val (.int (own_n cs))] []))
  refine go _ _ (fun _ k => XS.aloadN X105.here hx rfl (hb hby own_d23_27) rfl rfl (XS.aloadN X105.here hx rfl (hb hby own_d23_28) rfl rfl (XS.iconst X105.here hx rfl (hb hby own_d23_29) (XS.iload X105.here hx rfl (hb hby own_d23_30) rfl k)))) ?_
  show G (T105.setTop (mkF m 32 #[.val (.ref x), .val (.ref a), .val .null, .val (.ref t), .val (.int (own_n cs))] [(.int (own_n cs)), (.int (0 : Int32)), (.ref t), (.ref x)]))
  have K107 : Keep h0 h105 [x] := (Keep.refl h0 [x]).wr W105 (Or.inl (List.mem_of_getElem? (i := 0) rfl))
  have F108 : Arv Z h105 t kb .byte (16 : Int32) (own_bs cs) (.int (0 : Int32)) := (At.keep K107 (ninS (Ne.symm (Exa.neArv Ex At (ow hw 5 rfl))) nin0))
  have Z109 : h0.size ≤ h105.size := (Keep.of_wr W105).1
  obtain ⟨rv106, T106, L106, X106, q106, st106⟩ := own_st X105 hx hZ (y := (⟨"java/util/Arrays", "copyOfRange", "([BII)[B"⟩ : MethodName)) hown (ow hw 157 rfl) (ow hw 158 rfl) (ow hw 159 rfl) (ow hw 160 rfl) (by decide) (own_bkN (W := 1) (rm28 l Z a0 hw z0 O2 P5 fm0 O4 R4 [] t (own_n cs) kb cs h105 n0 (Nat.le_trans Z0 Z109) F108 rfl hl) hZ (ow hw 160 rfl) (ow hw 159 rfl) (by decide) (by decide)) e105 (g := (mkF m 32 #[.val (.ref x), .val (.ref a), .val .null, .val (.ref t), .val (.int (own_n cs))] [(.int (own_n cs)), (.int (0 : Int32)), (.ref t), (.ref x)])) rfl (by rw [hml]; rfl) (argsL := [(.ref t), (.int (0 : Int32)), (.int (own_n cs))]) (rest := [(.ref x)]) rfl (lenOf own_pd9 rfl) rfl (by show 2 * 0 + _ ≤ _; exact Nat.le_of_eq rfl) (hb hby own_d23_32) (by decide) (by decide)
  obtain ⟨Nq106, Kp106, ⟨b_110, kb2_111, rfl, z112, f113⟩⟩ := q106
  have N106 := Fr.app N105 Nq106
  refine go _ _ (st106) ?_
  show G (T106.setTop (mkF m 35 #[.val (.ref x), .val (.ref a), .val .null, .val (.ref t), .val (.int (own_n cs))] [(.ref b_110), (.ref x)]))
  have K115 : Keep h105 T106.heap [] := (Keep.refl h105 []).trans Kp106 all0
  have F116 : Fld Z T106.heap x "java/lang/String" "value" "[B" .null := ((Vx.other W105 (Or.inr (RoadKit.slot_ne (t := (.array .byte)) (t' := .byte) (Or.inr (ow hw 36 rfl)) (Or.inr (ow hw 34 rfl)) (by decide) (by decide) (by decide)))).keep K115 nin0)
  have F117 : Exa Z T106.heap x "java/lang/String" := ((Ex.wr W105).keep K115)
  obtain ⟨T114, h114, X114, e114, W114, st114⟩ := putF X106 hx hZ hown (host := "") (Or.inl (ow hw 35 rfl)) Via.refl rfl F116 F117 (Or.inr ⟨(ow hw 36 rfl), rfl, hnm⟩) (ow hw 5 rfl) (ty := (.array .byte)) (by decide) rfl rfl (g := (mkF m 35 #[.val (.ref x), .val (.ref a), .val .null, .val (.ref t), .val (.int (own_n cs))] [(.ref b_110), (.ref x)])) rfl rfl (hb hby own_d23_35)
  have F118 : Fld Z T106.heap x "java/lang/String" "coder" "B" (.int (0 : Int32)) := ((Cx.same W105).keep K115 nin0)
  have N114 := Fr.snoc X114 N106 gz_x
  refine go _ _ (st114) ?_
  show G (T114.setTop (mkF m 38 #[.val (.ref x), .val (.ref a), .val .null, .val (.ref t), .val (.int (own_n cs))] []))
  refine go _ _ (fun _ k => XS.goto X114.here hx rfl (pc0 := 38) (pc' := 97) rfl (hb hby own_d23_38) (by decide) (by decide) k) ?_
  show G (T114.setTop (mkF m 97 #[.val (.ref x), .val (.ref a), .val .null, .val (.ref t), .val (.int (own_n cs))] []))
  have K119 : Keep h0 T106.heap [x] := K107.trans Kp106 all0
  have K120 : Keep h0 h114 [x] := K119.wr W114 (Or.inl (List.mem_of_getElem? (i := 0) rfl))
  have K121 : Keep T106.heap h114 [x] := (Keep.refl T106.heap [x]).wr W114 (Or.inl (List.mem_of_getElem? (i := 0) rfl))
  have F122 : Arv Z h114 b_110 kb2_111 .byte (own_n cs) (own_bs cs) (.int (0 : Int32)) := (f113.keep K121 (ninS (Ne.symm (Nat.ne_of_lt (Nat.lt_of_lt_of_le (Cx.same W105).lt z112))) nin0))
  have Sx : own_Str Z h114 x cs := ⟨_, _, (F117.wr W114), (F116.same W114), (F118.other W114 (Or.inr (RoadKit.slot_ne (t := .byte) (t' := (.array .byte)) (Or.inr (ow hw 34 rfl)) (Or.inr (ow hw 36 rfl)) (by decide) (by decide) (by decide)))), F122, hbd, (by omega)⟩
  refine fin T114 _ _ _ none X114 (fun _ => rfl) (by decide) (by decide) (by rw [e114]; exact ⟨N114, K120, ⟨rfl, (F117.wr W114), Sx⟩⟩) _ (own_retV X114 hx hret (hb hby own_d23_97))
theorem own_d22_0 : decode jdk_42_method_53_code 0 = .ok (.aload_n 0, 1) := by decide +kernel
theorem own_d22_1 : decode jdk_42_method_53_code 1 = .ok (.aload_n 1, 1) := by decide +kernel
theorem own_d22_2 : decode jdk_42_method_53_code 2 = .ok (.aconst_null, 1) := by decide +kernel
theorem own_d22_3 : decode jdk_42_method_53_code 3 = .ok (.invokespecial 489, 3) := by decide +kernel
theorem own_d22_6 : decode jdk_42_method_53_code 6 = .ok (.return_, 1) := by decide +kernel
theorem own_pd12 : parseMethodDescriptor "(Ljava/lang/AbstractStringBuilder;Ljava/lang/Void;)V" = some ⟨[(.object "java/lang/AbstractStringBuilder"), (.object "java/lang/Void")], none⟩ := by decide +kernel
set_option maxHeartbeats 4000000 in
theorem own_ef_rm22 (m : MethodId) (x0 : Addr) (x1 : Addr) : entryFrame m #[(.ref x0), (.ref x1)] 2 = mkF m 0 #[.val (.ref x0), .val (.ref x1)] [] := by rfl
set_option maxRecDepth 65536 in
set_option maxHeartbeats 40000000 in
theorem rm22 (l : Launch) (Z : State) (a0 : Array Value) (hw : ∀ d ∈ tables_1, d.before a0 Z = true) (z0 : Int32) (O2 : Sta Z Z.heap "java/lang/String" "COMPACT_STRINGS" "Z" (.int z0)) (P5 : ¬ z0 = (0 : Int32)) (fm0 : Value) (O4 : Sta Z Z.heap "jdk/internal/util/Preconditions" "SIOOBE_FORMATTER" "Ljava/util/function/BiFunction;" fm0) (R4 : fm0.isRef = true) (ws : List Jvm.Cond) (x : Addr) (a : Addr) (t : Addr) (kb : ClassId) (cs : List Int32) (h0 : Heap) (n0 : Nat) (Z0 : n0 ≤ h0.size) (Ex : Exa Z h0 x "java/lang/String") (Vx : Fld Z h0 x "java/lang/String" "value" "[B" .null) (Cx : Fld Z h0 x "java/lang/String" "coder" "B" (.int (0 : Int32))) (Xo : Old Z n0 h0) (Ea : Exa Z h0 a "java/lang/StringBuilder") (Fv : Fld Z h0 a "java/lang/AbstractStringBuilder" "value" "[B" (.ref t)) (Fc : Fld Z h0 a "java/lang/AbstractStringBuilder" "coder" "B" (.int (0 : Int32))) (Fn : Fld Z h0 a "java/lang/AbstractStringBuilder" "count" "I" (.int (own_n cs))) (At : Arv Z h0 t kb .byte (16 : Int32) (own_bs cs) (.int (0 : Int32))) (hl : cs.length < 16) (hbd : ∀ c ∈ cs, ¬ c < 0 ∧ ¬ (255 : Int32) < c) (gz_x : n0 ≤ x) :
    own_MetN l Z (⟨"java/lang/String", "<init>", "(Ljava/lang/StringBuilder;)V"⟩ : MethodName) jdk_42_method_53_code 2 none ws ({ frames := 4, cells := 1, slots := 16, locals := 74 } : Room) #[(.ref x), (.ref a)] h0 (fun v h L => Fr n0 L ∧ Keep h0 h [x] ∧ (((v = none) ∧ (Exa Z h x "java/lang/String") ∧ (own_Str Z h x cs)))) := by
  refine own_metN (plainFor_of_name own_pn2) ?_
  intro p e s m below meth c s₁ G hx hby hml hZ hown hnm hret X0 e0 go fin
  have N0 := Fr.nil n0
  refine go _ _ (fun _ k => castTop (own_ef_rm22 m x a) k) ?_
  show G (s₁.setTop (mkF m 0 #[.val (.ref x), .val (.ref a)] []))
  refine go _ _ (fun _ k => XS.aloadN X0.here hx rfl (hb hby own_d22_0) rfl rfl (XS.aloadN X0.here hx rfl (hb hby own_d22_1) rfl rfl (XS.aconstNull X0.here hx rfl (hb hby own_d22_2) k))) ?_
  show G (s₁.setTop (mkF m 3 #[.val (.ref x), .val (.ref a)] [.null, (.ref a), (.ref x)]))
  obtain ⟨rv101, T101, L101, X101, q101, st101⟩ := own_sp X0 hx hZ (y := (⟨"java/lang/String", "<init>", "(Ljava/lang/AbstractStringBuilder;Ljava/lang/Void;)V"⟩ : MethodName)) rfl hown (ow hw 136 rfl) (ow hw 137 rfl) (ow hw 138 rfl) (by decide) (own_bkN (W := 0) (rm23 l Z a0 hw z0 O2 P5 fm0 O4 R4 [] x a t kb cs h0 n0 Z0 Ex Vx Cx Xo Ea Fv Fc Fn At hl hbd gz_x) hZ (ow hw 138 rfl) (ow hw 6 rfl) (by decide) (by decide)) e0 (g := (mkF m 3 #[.val (.ref x), .val (.ref a)] [.null, (.ref a), (.ref x)])) rfl (by rw [hml]; rfl) (a := x) (argsL := [(.ref a), .null]) (rest := []) rfl (lenOf own_pd12 rfl) rfl (by show 2 * 0 + _ ≤ _; exact Nat.le_of_eq rfl) (hb hby own_d22_3) (by decide) (by decide)
  obtain ⟨Nq101, Kp101, ⟨rfl, f102, f103⟩⟩ := q101
  have N101 := Fr.app N0 Nq101
  refine go _ _ (st101) ?_
  show G (T101.setTop (mkF m 6 #[.val (.ref x), .val (.ref a)] []))
  have K104 : Keep h0 T101.heap [x] := (Keep.refl h0 [x]).trans Kp101 (allS (Or.inl (List.mem_of_getElem? (i := 0) rfl)) all0)
  refine fin T101 _ _ _ none X101 (fun _ => rfl) (by decide) (by decide) ⟨N101, K104, ⟨rfl, f102, f103⟩⟩ _ (own_retV X101 hx hret (hb hby own_d22_6))
theorem own_d21_0 : decode jdk_67_method_42_code 0 = .ok (.new 18, 3) := by decide +kernel
theorem own_d21_3 : decode jdk_67_method_42_code 3 = .ok (.dup, 1) := by decide +kernel
theorem own_d21_4 : decode jdk_67_method_42_code 4 = .ok (.aload_n 0, 1) := by decide +kernel
theorem own_d21_5 : decode jdk_67_method_42_code 5 = .ok (.invokespecial 137, 3) := by decide +kernel
theorem own_d21_8 : decode jdk_67_method_42_code 8 = .ok (.areturn, 1) := by decide +kernel
theorem own_pd13 : parseMethodDescriptor "(Ljava/lang/StringBuilder;)V" = some ⟨[(.object "java/lang/StringBuilder")], none⟩ := by decide +kernel
set_option maxHeartbeats 4000000 in
theorem own_ef_rm21 (m : MethodId) (x0 : Addr) : entryFrame m #[(.ref x0)] 1 = mkF m 0 #[.val (.ref x0)] [] := by rfl
set_option maxRecDepth 65536 in
set_option maxHeartbeats 40000000 in
theorem rm21 (l : Launch) (Z : State) (a0 : Array Value) (hw : ∀ d ∈ tables_1, d.before a0 Z = true) (z0 : Int32) (O2 : Sta Z Z.heap "java/lang/String" "COMPACT_STRINGS" "Z" (.int z0)) (P5 : ¬ z0 = (0 : Int32)) (fm0 : Value) (O4 : Sta Z Z.heap "jdk/internal/util/Preconditions" "SIOOBE_FORMATTER" "Ljava/util/function/BiFunction;" fm0) (R4 : fm0.isRef = true) (ws : List Jvm.Cond) (a : Addr) (t : Addr) (kb : ClassId) (cs : List Int32) (h0 : Heap) (n0 : Nat) (Z0 : n0 ≤ h0.size) (Xo : Old Z n0 h0) (Ea : Exa Z h0 a "java/lang/StringBuilder") (Fv : Fld Z h0 a "java/lang/AbstractStringBuilder" "value" "[B" (.ref t)) (Fc : Fld Z h0 a "java/lang/AbstractStringBuilder" "coder" "B" (.int (0 : Int32))) (Fn : Fld Z h0 a "java/lang/AbstractStringBuilder" "count" "I" (.int (own_n cs))) (At : Arv Z h0 t kb .byte (16 : Int32) (own_bs cs) (.int (0 : Int32))) (hl : cs.length < 16) (hbd : ∀ c ∈ cs, ¬ c < 0 ∧ ¬ (255 : Int32) < c) :
    own_MetN l Z (⟨"java/lang/StringBuilder", "toString", "()Ljava/lang/String;"⟩ : MethodName) jdk_67_method_42_code 1 (some (.object "java/lang/String")) ws ({ frames := 5, cells := 2, slots := 20, locals := 88 } : Room) #[(.ref a)] h0 (fun v h L => Fr n0 L ∧ Keep h0 h [] ∧ ((∃ (b : Addr), (v = some (.ref b)) ∧ (h0.size ≤ b) ∧ (Exa Z h b "java/lang/String") ∧ (own_Str Z h b cs)))) := by
  refine own_metN (plainFor_of_name own_pn1) ?_
  intro p e s m below meth c s₁ G hx hby hml hZ hown hnm hret X0 e0 go fin
  have N0 := Fr.nil n0
  refine go _ _ (fun _ k => castTop (own_ef_rm21 m a) k) ?_
  show G (s₁.setTop (mkF m 0 #[.val (.ref a)] []))
  obtain ⟨T101, h101, X101, e101, E101, A101, D101, -, st101⟩ := newO X0 hx hZ hown (ow hw 132 rfl) (ow hw 5 rfl) (ow hw 6 rfl) e0 (g := (mkF m 0 #[.val (.ref a)] [])) rfl (hb hby own_d21_0) (by decide) (by decide)
  obtain ⟨b101, g101⟩ : ∃ z, z = h0.size := ⟨_, rfl⟩
  rw [← g101] at A101 D101 st101
  refine go _ _ (st101) ?_
  show G (T101.setTop (mkF m 3 #[.val (.ref a)] [(.ref b101)]))
  refine go _ _ (fun _ k => XS.dup X101.here hx rfl (hb hby own_d21_3) rfl rfl (XS.aloadN X101.here hx rfl (hb hby own_d21_4) rfl rfl k)) ?_
  show G (T101.setTop (mkF m 5 #[.val (.ref a)] [(.ref a), (.ref b101), (.ref b101)]))
  have K103 : Keep h0 h101 [] := (Keep.refl h0 []).ext E101
  have F104 : Old Z n0 h101 := (Xo.keep K103 all0)
  have F105 : Exa Z h101 a "java/lang/StringBuilder" := (Ea.keep K103)
  have F106 : Fld Z h101 a "java/lang/AbstractStringBuilder" "value" "[B" (.ref t) := (Fv.keep K103 nin0)
  have F107 : Fld Z h101 a "java/lang/AbstractStringBuilder" "coder" "B" (.int (0 : Int32)) := (Fc.keep K103 nin0)
  have F108 : Fld Z h101 a "java/lang/AbstractStringBuilder" "count" "I" (.int (own_n cs)) := (Fn.keep K103 nin0)
  have F109 : Arv Z h101 t kb .byte (16 : Int32) (own_bs cs) (.int (0 : Int32)) := (At.keep K103 nin0)
  have Z110 : h0.size ≤ h101.size := E101.1
  obtain ⟨rv102, T102, L102, X102, q102, st102⟩ := own_sp X101 hx hZ (y := (⟨"java/lang/String", "<init>", "(Ljava/lang/StringBuilder;)V"⟩ : MethodName)) rfl hown (ow hw 133 rfl) (ow hw 134 rfl) (ow hw 135 rfl) (by decide) (own_bkN (W := 1) (rm22 l Z a0 hw z0 O2 P5 fm0 O4 R4 [] b101 a t kb cs h101 n0 (Nat.le_trans Z0 Z110) A101 (D101 (Or.inr (ow hw 36 rfl)) (ty := (.array .byte)) (by decide)) (D101 (Or.inr (ow hw 34 rfl)) (ty := .byte) (by decide)) F104 F105 F106 F107 F108 F109 hl hbd (Nat.le_trans Z0 (Nat.le_of_eq g101.symm))) hZ (ow hw 135 rfl) (ow hw 6 rfl) (by decide) (by decide)) e101 (g := (mkF m 5 #[.val (.ref a)] [(.ref a), (.ref b101), (.ref b101)])) rfl (by rw [hml]; rfl) (a := b101) (argsL := [(.ref a)]) (rest := [(.ref b101)]) rfl (lenOf own_pd13 rfl) rfl (by show 2 * 0 + _ ≤ _; exact Nat.le_of_eq rfl) (hb hby own_d21_5) (by decide) (by decide)
  obtain ⟨Nq102, Kp102, ⟨rfl, f111, f112⟩⟩ := q102
  have N102 := Fr.app N0 Nq102
  refine go _ _ (st102) ?_
  show G (T102.setTop (mkF m 8 #[.val (.ref a)] [(.ref b101)]))
  have K113 : Keep h0 T102.heap [] := K103.trans Kp102 (allS (Or.inr (Nat.le_of_eq g101.symm)) all0)
  refine fin T102 _ _ _ (some (.ref b101)) X102 (fun q => nomatch q) (by decide) (by decide) ⟨N102, K113, ⟨b101, rfl, (Nat.le_of_eq g101.symm), f111, f112⟩⟩ _ (own_retA X102 hx hret rfl rfl rfl (hb hby own_d21_8))
theorem own_d1_0 : decode method_3_code 0 = .ok (.iload_n 0, 1) := by decide +kernel
theorem own_d1_1 : decode method_3_code 1 = .ok (.bipush 8, 2) := by decide +kernel
theorem own_d1_3 : decode method_3_code 3 = .ok (.iload_n 1, 1) := by decide +kernel
theorem own_d1_4 : decode method_3_code 4 = .ok (.imul, 1) := by decide +kernel
theorem own_d1_5 : decode method_3_code 5 = .ok (.iushr, 1) := by decide +kernel
theorem own_d1_6 : decode method_3_code 6 = .ok (.sipush 255, 3) := by decide +kernel
theorem own_d1_9 : decode method_3_code 9 = .ok (.iand, 1) := by decide +kernel
theorem own_d1_10 : decode method_3_code 10 = .ok (.i2c, 1) := by decide +kernel
theorem own_d1_11 : decode method_3_code 11 = .ok (.ireturn, 1) := by decide +kernel
theorem own_pn5 : plainName "com/example/kindred/kindred/IdentifierToStringPinLaw" = true := by decide +kernel
set_option maxHeartbeats 4000000 in
theorem own_ef_rm1 (m : MethodId) (x0 : Int32) (x1 : Int32) : entryFrame m #[(.int x0), (.int x1)] 2 = mkF m 0 #[.val (.int x0), .val (.int x1)] [] := by rfl
set_option maxRecDepth 65536 in
set_option maxHeartbeats 40000000 in
theorem rm1 (l : Launch) (Z : State) (a0 : Array Value) (hw : ∀ d ∈ tables_1, d.before a0 Z = true) (z0 : Int32) (O2 : Sta Z Z.heap "java/lang/String" "COMPACT_STRINGS" "Z" (.int z0)) (P5 : ¬ z0 = (0 : Int32)) (fm0 : Value) (O4 : Sta Z Z.heap "jdk/internal/util/Preconditions" "SIOOBE_FORMATTER" "Ljava/util/function/BiFunction;" fm0) (R4 : fm0.isRef = true) (ws : List Jvm.Cond) (bits : Int32) (kk : Int32) (h0 : Heap) (n0 : Nat) (Z0 : n0 ≤ h0.size) :
    own_MetN l Z (⟨"com/example/kindred/kindred/IdentifierToStringPinLaw", "ch", "(II)C"⟩ : MethodName) method_3_code 2 (some .char) ws ({ frames := 0, cells := 0, slots := 0, locals := 0 } : Room) #[(.int bits), (.int kk)] h0 (fun v h L => Fr n0 L ∧ h = h0 ∧ (((v = some (.int (own_ch bits kk)))))) := by
  refine own_metN (plainFor_of_name own_pn5) ?_
  intro p e s m below meth c s₁ G hx hby hml hZ hown hnm hret X0 e0 go fin
  have N0 := Fr.nil n0
  refine go _ _ (fun _ k => castTop (own_ef_rm1 m bits kk) k) ?_
  show G (s₁.setTop (mkF m 0 #[.val (.int bits), .val (.int kk)] []))
  refine go _ _ (fun _ k => XS.iloadN X0.here hx rfl (hb hby own_d1_0) rfl (XS.bipush X0.here hx rfl (hb hby own_d1_1) (XS.iloadN X0.here hx rfl (hb hby own_d1_3) rfl (XS.imul X0.here hx rfl (hb hby own_d1_4) rfl (XS.iushr X0.here hx rfl (hb hby own_d1_5) rfl (XS.sipush X0.here hx rfl (hb hby own_d1_6) k)))))) ?_
  show G (s₁.setTop (mkF m 9 #[.val (.int bits), .val (.int kk)] [(.int (255 : Int32)), (.int ((bits.toUInt32 >>> (((8 : Int32) * kk) &&& 31).toUInt32).toInt32))]))
  refine go _ _ (fun _ k => XS.iand X0.here hx rfl (hb hby own_d1_9) rfl (XS.i2c X0.here hx rfl (hb hby own_d1_10) rfl k)) ?_
  show G (s₁.setTop (mkF m 11 #[.val (.int bits), .val (.int kk)] [(.int ((((bits.toUInt32 >>> (((8 : Int32) * kk) &&& 31).toUInt32).toInt32) &&& (255 : Int32)).toUInt32.toUInt16.toUInt32.toInt32))]))
  refine fin s₁ _ _ _ (some (.int (nar .char ((((bits.toUInt32 >>> (((8 : Int32) * kk) &&& 31).toUInt32).toInt32) &&& (255 : Int32)).toUInt32.toUInt16.toUInt32.toInt32)))) X0 (fun q => nomatch q) (by decide) (by decide) (by rw [e0]; exact ⟨N0, rfl, (congrArg (fun z => some (Value.int z)) ((own_i2c _).trans (i2c_mask _)))⟩) _ (own_retN X0 hx (z := ((((bits.toUInt32 >>> (((8 : Int32) * kk) &&& 31).toUInt32).toInt32) &&& (255 : Int32)).toUInt32.toUInt16.toUInt32.toInt32)) (t := .char) hret (by simp) (hb hby own_d1_11))
theorem own_d0_0 : decode method_4_code 0 = .ok (.iload_n 0, 1) := by decide +kernel
theorem own_d0_1 : decode method_4_code 1 = .ok (.ifCond .ne 6, 3) := by decide +kernel
theorem own_d0_4 : decode method_4_code 4 = .ok (.ldc 32, 2) := by decide +kernel
theorem own_d0_6 : decode method_4_code 6 = .ok (.areturn, 1) := by decide +kernel
theorem own_d0_7 : decode method_4_code 7 = .ok (.iload_n 0, 1) := by decide +kernel
theorem own_d0_8 : decode method_4_code 8 = .ok (.iconst 1, 1) := by decide +kernel
theorem own_d0_9 : decode method_4_code 9 = .ok (.if_icmp .ne 22, 3) := by decide +kernel
theorem own_d0_12 : decode method_4_code 12 = .ok (.new 23, 3) := by decide +kernel
theorem own_d0_15 : decode method_4_code 15 = .ok (.dup, 1) := by decide +kernel
theorem own_d0_16 : decode method_4_code 16 = .ok (.iconst 1, 1) := by decide +kernel
theorem own_d0_17 : decode method_4_code 17 = .ok (.newarray .char, 2) := by decide +kernel
theorem own_d0_19 : decode method_4_code 19 = .ok (.dup, 1) := by decide +kernel
theorem own_d0_20 : decode method_4_code 20 = .ok (.iconst 0, 1) := by decide +kernel
theorem own_d0_21 : decode method_4_code 21 = .ok (.iload_n 1, 1) := by decide +kernel
theorem own_d0_22 : decode method_4_code 22 = .ok (.iconst 0, 1) := by decide +kernel
theorem own_d0_23 : decode method_4_code 23 = .ok (.invokestatic 34, 3) := by decide +kernel
theorem own_d0_26 : decode method_4_code 26 = .ok (.castore, 1) := by decide +kernel
theorem own_d0_27 : decode method_4_code 27 = .ok (.invokespecial 38, 3) := by decide +kernel
theorem own_d0_30 : decode method_4_code 30 = .ok (.areturn, 1) := by decide +kernel
theorem own_d0_31 : decode method_4_code 31 = .ok (.iload_n 0, 1) := by decide +kernel
theorem own_d0_32 : decode method_4_code 32 = .ok (.iconst 2, 1) := by decide +kernel
theorem own_d0_33 : decode method_4_code 33 = .ok (.if_icmp .ne 30, 3) := by decide +kernel
theorem own_d0_36 : decode method_4_code 36 = .ok (.new 23, 3) := by decide +kernel
theorem own_d0_39 : decode method_4_code 39 = .ok (.dup, 1) := by decide +kernel
theorem own_d0_40 : decode method_4_code 40 = .ok (.iconst 2, 1) := by decide +kernel
theorem own_d0_41 : decode method_4_code 41 = .ok (.newarray .char, 2) := by decide +kernel
theorem own_d0_43 : decode method_4_code 43 = .ok (.dup, 1) := by decide +kernel
theorem own_d0_44 : decode method_4_code 44 = .ok (.iconst 0, 1) := by decide +kernel
theorem own_d0_45 : decode method_4_code 45 = .ok (.iload_n 1, 1) := by decide +kernel
theorem own_d0_46 : decode method_4_code 46 = .ok (.iconst 0, 1) := by decide +kernel
theorem own_d0_47 : decode method_4_code 47 = .ok (.invokestatic 34, 3) := by decide +kernel
theorem own_d0_50 : decode method_4_code 50 = .ok (.castore, 1) := by decide +kernel
theorem own_d0_51 : decode method_4_code 51 = .ok (.dup, 1) := by decide +kernel
theorem own_d0_52 : decode method_4_code 52 = .ok (.iconst 1, 1) := by decide +kernel
theorem own_d0_53 : decode method_4_code 53 = .ok (.iload_n 1, 1) := by decide +kernel
theorem own_d0_54 : decode method_4_code 54 = .ok (.iconst 1, 1) := by decide +kernel
theorem own_d0_55 : decode method_4_code 55 = .ok (.invokestatic 34, 3) := by decide +kernel
theorem own_d0_58 : decode method_4_code 58 = .ok (.castore, 1) := by decide +kernel
theorem own_d0_59 : decode method_4_code 59 = .ok (.invokespecial 38, 3) := by decide +kernel
theorem own_d0_62 : decode method_4_code 62 = .ok (.areturn, 1) := by decide +kernel
theorem own_d0_63 : decode method_4_code 63 = .ok (.new 23, 3) := by decide +kernel
theorem own_d0_66 : decode method_4_code 66 = .ok (.dup, 1) := by decide +kernel
theorem own_d0_67 : decode method_4_code 67 = .ok (.iconst 3, 1) := by decide +kernel
theorem own_d0_68 : decode method_4_code 68 = .ok (.newarray .char, 2) := by decide +kernel
theorem own_d0_70 : decode method_4_code 70 = .ok (.dup, 1) := by decide +kernel
theorem own_d0_71 : decode method_4_code 71 = .ok (.iconst 0, 1) := by decide +kernel
theorem own_d0_72 : decode method_4_code 72 = .ok (.iload_n 1, 1) := by decide +kernel
theorem own_d0_73 : decode method_4_code 73 = .ok (.iconst 0, 1) := by decide +kernel
theorem own_d0_74 : decode method_4_code 74 = .ok (.invokestatic 34, 3) := by decide +kernel
theorem own_d0_77 : decode method_4_code 77 = .ok (.castore, 1) := by decide +kernel
theorem own_d0_78 : decode method_4_code 78 = .ok (.dup, 1) := by decide +kernel
theorem own_d0_79 : decode method_4_code 79 = .ok (.iconst 1, 1) := by decide +kernel
theorem own_d0_80 : decode method_4_code 80 = .ok (.iload_n 1, 1) := by decide +kernel
theorem own_d0_81 : decode method_4_code 81 = .ok (.iconst 1, 1) := by decide +kernel
theorem own_d0_82 : decode method_4_code 82 = .ok (.invokestatic 34, 3) := by decide +kernel
theorem own_d0_85 : decode method_4_code 85 = .ok (.castore, 1) := by decide +kernel
theorem own_d0_86 : decode method_4_code 86 = .ok (.dup, 1) := by decide +kernel
theorem own_d0_87 : decode method_4_code 87 = .ok (.iconst 2, 1) := by decide +kernel
theorem own_d0_88 : decode method_4_code 88 = .ok (.iload_n 1, 1) := by decide +kernel
theorem own_d0_89 : decode method_4_code 89 = .ok (.iconst 2, 1) := by decide +kernel
theorem own_d0_90 : decode method_4_code 90 = .ok (.invokestatic 34, 3) := by decide +kernel
theorem own_d0_93 : decode method_4_code 93 = .ok (.castore, 1) := by decide +kernel
theorem own_d0_94 : decode method_4_code 94 = .ok (.invokespecial 38, 3) := by decide +kernel
theorem own_d0_97 : decode method_4_code 97 = .ok (.areturn, 1) := by decide +kernel
theorem own_pd14 : parseMethodDescriptor "(II)C" = some ⟨[.int, .int], some .char⟩ := by decide +kernel
theorem own_pd15 : parseMethodDescriptor "([C)V" = some ⟨[(.array .char)], none⟩ := by decide +kernel
set_option maxHeartbeats 4000000 in
theorem own_ef_rm0 (m : MethodId) (x0 : Int32) (x1 : Int32) : entryFrame m #[(.int x0), (.int x1)] 2 = mkF m 0 #[.val (.int x0), .val (.int x1)] [] := by rfl
set_option maxRecDepth 65536 in
set_option maxHeartbeats 40000000 in
theorem rm0 (l : Launch) (Z : State) (a0 : Array Value) (hw : ∀ d ∈ tables_1, d.before a0 Z = true) (z0 : Int32) (O2 : Sta Z Z.heap "java/lang/String" "COMPACT_STRINGS" "Z" (.int z0)) (P5 : ¬ z0 = (0 : Int32)) (fm0 : Value) (O4 : Sta Z Z.heap "jdk/internal/util/Preconditions" "SIOOBE_FORMATTER" "Ljava/util/function/BiFunction;" fm0) (R4 : fm0.isRef = true) (ws : List Jvm.Cond) (n : Int32) (bits : Int32) (h0 : Heap) (n0 : Nat) (Z0 : n0 ≤ h0.size) (Xo : Old Z n0 h0) :
    own_MetH l Z own_EL (⟨"com/example/kindred/kindred/IdentifierToStringPinLaw", "str", "(II)Ljava/lang/String;"⟩ : MethodName) method_4_code 2 (some (.object "java/lang/String")) ws ({ frames := 4, cells := 3, slots := 10, locals := 66 } : Room) #[(.int n), (.int bits)] h0 (fun v h L => Fr n0 L ∧ Keep h0 h [] ∧ ((∃ (b : Addr), (v = some (.ref b)) ∧ (Exa Z h b "java/lang/String") ∧ (own_Str Z h b (own_sx n bits))))) := by
  refine own_metH (plainFor_of_name own_pn5) (own_hEL hw) ?_
  intro p e s m below meth c s₁ G hx hby hml hZ hown hnm hret X0 e0 hS C0 go fin
  have N0 := Fr.nil n0
  refine go _ _ (fun _ k => castTop (own_ef_rm0 m n bits) k) ?_
  show G (s₁.setTop (mkF m 0 #[.val (.int n), .val (.int bits)] []))
  refine go _ _ (fun _ k => XS.iloadN X0.here hx rfl (hb hby own_d0_0) rfl k) ?_
  show G (s₁.setTop (mkF m 1 #[.val (.int n), .val (.int bits)] [(.int n)]))
  by_cases hc1_101 : n = (0 : Int32)
  · refine go _ _ (fun _ k => XS.ifNo X0.here hx rfl (hb hby own_d0_1) rfl ((if0 _ _).trans (teq hc1_101).2) k) ?_
    show G (s₁.setTop (mkF m 4 #[.val (.int n), .val (.int bits)] []))
    obtain ⟨b102, T102, h102, k102, t102, kb102, X102, e102, E102, hS102, hk102, hZ102, hown102, A102, Fc102, Fv102, V102, -, -, C102, -, -, st102⟩ := ldcCH X0 hx hZ hown (ow hw 37 rfl) (own_sat hw) e0 hS (Nat.le_refl _) (own_hEL hw) (List.mem_of_getElem? (i := 0) rfl) C0.1 (vs := []) (z := (0 : Int32)) (by decide) (by decide) (by decide) (g := (mkF m 4 #[.val (.int n), .val (.int bits)] [])) rfl (hb hby own_d0_4) (n := 0) (by decide) (by decide) (by decide) (by decide)
    have Sx102 : own_Str Z h102 b102 ([] : List Int32) := ⟨t102, kb102, A102, Fv102, Fc102, V102, (by decide), (by decide)⟩
    refine go _ _ (st102) ?_
    show G (T102.setTop (mkF m 6 #[.val (.int n), .val (.int bits)] [(.ref b102)]))
    have K103 : Keep h0 h102 [] := (Keep.refl h0 []).ext E102
    have Sy : own_Str Z h102 b102 (own_sx n bits) := by rw [own_sx0 hc1_101]; exact Sx102
    have C104 : CHr Z own_EL s.vm h0 T102.vm h102 := C0.trans C102
    refine fin T102 _ _ _ (some (.ref b102)) T102.vm _ X102 hZ102 hS102 (by rw [e102]; exact hk102) (by rw [e102]; exact C104) (fun q => nomatch q) (by decide) (by decide) (by rw [e102]; exact ⟨N0, K103, ⟨b102, rfl, A102, Sy⟩⟩) _ (own_retA X102 hx hret rfl rfl rfl (hb hby own_d0_6))
  · refine go _ _ (fun _ k => XS.ifYes X0.here hx rfl (pc0 := 1) (pc' := 7) rfl (hb hby own_d0_1) rfl ((if0 _ _).trans (feq hc1_101).2) (by decide) (by decide) k) ?_
    show G (s₁.setTop (mkF m 7 #[.val (.int n), .val (.int bits)] []))
    refine go _ _ (fun _ k => XS.iloadN X0.here hx rfl (hb hby own_d0_7) rfl (XS.iconst X0.here hx rfl (hb hby own_d0_8) k)) ?_
    show G (s₁.setTop (mkF m 9 #[.val (.int n), .val (.int bits)] [(.int (1 : Int32)), (.int n)]))
    by_cases hc9_105 : n = (1 : Int32)
    · refine go _ _ (fun _ k => XS.icmpNo X0.here hx rfl (hb hby own_d0_9) rfl (teq hc9_105).2 k) ?_
      show G (s₁.setTop (mkF m 12 #[.val (.int n), .val (.int bits)] []))
      obtain ⟨T106, h106, X106, e106, E106, A106, D106, -, st106⟩ := newO X0 hx hZ hown (ow hw 4 rfl) (ow hw 5 rfl) (ow hw 6 rfl) e0 (g := (mkF m 12 #[.val (.int n), .val (.int bits)] [])) rfl (hb hby own_d0_12) (by decide) (by decide)
      obtain ⟨b106, g106⟩ : ∃ z, z = h0.size := ⟨_, rfl⟩
      rw [← g106] at A106 D106 st106
      refine go _ _ (st106) ?_
      show G (T106.setTop (mkF m 15 #[.val (.int n), .val (.int bits)] [(.ref b106)]))
      refine go _ _ (fun _ k => XS.dup X106.here hx rfl (hb hby own_d0_15) rfl rfl (XS.iconst X106.here hx rfl (hb hby own_d0_16) k)) ?_
      show G (T106.setTop (mkF m 17 #[.val (.int n), .val (.int bits)] [(.int (1 : Int32)), (.ref b106), (.ref b106)]))
      obtain ⟨T107, h107, k107, X107, e107, E107, A107, st107⟩ := newP X106 hx hZ (ow hw 7 rfl) e106 (g := (mkF m 17 #[.val (.int n), .val (.int bits)] [(.int (1 : Int32)), (.ref b106), (.ref b106)])) rfl (hb hby own_d0_17) rfl (by decide) (cap := 1) (by decide) (by decide) (by decide) (by decide)
      obtain ⟨b107, g107⟩ : ∃ z, z = h106.size := ⟨_, rfl⟩
      rw [← g107] at A107 st107
      have V107 : Arv Z h107 b107 k107 .char (1 : Int32) [(.int (0 : Int32))] (.int (0 : Int32)) := (Arv.new A107 (by decide)).pad (pad_rep [] (.int (0 : Int32)) 1)
      refine go _ _ (st107) ?_
      show G (T107.setTop (mkF m 19 #[.val (.int n), .val (.int bits)] [(.ref b107), (.ref b106), (.ref b106)]))
      refine go _ _ (fun _ k => XS.dup X107.here hx rfl (hb hby own_d0_19) rfl rfl (XS.iconst X107.here hx rfl (hb hby own_d0_20) (XS.iloadN X107.here hx rfl (hb hby own_d0_21) rfl (XS.iconst X107.here hx rfl (hb hby own_d0_22) k)))) ?_
      show G (T107.setTop (mkF m 23 #[.val (.int n), .val (.int bits)] [(.int (0 : Int32)), (.int bits), (.int (0 : Int32)), (.ref b107), (.ref b107), (.ref b106), (.ref b106)]))
      have Z109 : h0.size ≤ h106.size := E106.1
      have Z110 : h0.size ≤ h107.size := Nat.le_trans Z109 E107.1
      obtain ⟨rv108, T108, L108, X108, q108, st108⟩ := own_st X107 hx hZ (y := (⟨"com/example/kindred/kindred/IdentifierToStringPinLaw", "ch", "(II)C"⟩ : MethodName)) hown (ow hw 8 rfl) (ow hw 9 rfl) (ow hw 2 rfl) (ow hw 10 rfl) (by decide) (own_bkN (W := 5) (rm1 l Z a0 hw z0 O2 P5 fm0 O4 R4 [] bits (0 : Int32) h107 n0 (Nat.le_trans Z0 Z110)) hZ (ow hw 10 rfl) (ow hw 2 rfl) (by decide) (by decide)) e107 (g := (mkF m 23 #[.val (.int n), .val (.int bits)] [(.int (0 : Int32)), (.int bits), (.int (0 : Int32)), (.ref b107), (.ref b107), (.ref b106), (.ref b106)])) rfl (by rw [hml]; rfl) (argsL := [(.int bits), (.int (0 : Int32))]) (rest := [(.int (0 : Int32)), (.ref b107), (.ref b107), (.ref b106), (.ref b106)]) rfl (lenOf own_pd14 rfl) rfl (by show 2 * 0 + _ ≤ _; exact Nat.le_of_eq rfl) (hb hby own_d0_23) (by decide) (by decide)
      obtain ⟨Nq108, e108, rfl⟩ := q108
      have N108 := Fr.app N0 Nq108
      refine go _ _ (st108) ?_
      show G (T108.setTop (mkF m 26 #[.val (.int n), .val (.int bits)] [(.int (own_ch bits (0 : Int32))), (.int (0 : Int32)), (.ref b107), (.ref b107), (.ref b106), (.ref b106)]))
      obtain ⟨cl111, Ar111, q111, S111, M111, H111, U111⟩ := id V107
      obtain ⟨T111, h111, X111, e111, W111, st111⟩ := stC X108 hx hZ e108 Ar111 (j := (0 : Int32)) (inb_of S111 ⟨by decide, by decide⟩) (g := (mkF m 26 #[.val (.int n), .val (.int bits)] [(.int (own_ch bits (0 : Int32))), (.int (0 : Int32)), (.ref b107), (.ref b107), (.ref b106), (.ref b106)])) rfl rfl (hb hby own_d0_26)
      have V111 : Arv Z h111 b107 k107 .char (1 : Int32) [(.int (nar .char (own_ch bits (0 : Int32))))] (.int (0 : Int32)) := Arv.set Ar111 q111 S111 M111 H111 U111 (fits_nar_char _) W111 0 rfl (Nat.le_of_ble_eq_true rfl)
      rw [(own_chn _ _)] at V111
      have N111 := Fr.snoc X111 N108 (Nat.le_trans (Nat.le_trans Z0 Z109) (Nat.le_of_eq g107.symm))
      refine go _ _ (st111) ?_
      show G (T111.setTop (mkF m 27 #[.val (.int n), .val (.int bits)] [(.ref b107), (.ref b106), (.ref b106)]))
      have K113 : Keep h106 h107 [] := (Keep.refl h106 []).ext E107
      have K114 : Keep h106 h111 [] := K113.wr W111 (Or.inr (Nat.le_of_eq g107.symm))
      have F115 : Exa Z h111 b106 "java/lang/String" := (A106.keep K114)
      have F116 : Fld Z h111 b106 "java/lang/String" "value" "[B" .null := ((D106 (Or.inr (ow hw 36 rfl)) (ty := (.array .byte)) (by decide)).keep K114 nin0)
      have F117 : Fld Z h111 b106 "java/lang/String" "coder" "B" (.int (0 : Int32)) := ((D106 (Or.inr (ow hw 34 rfl)) (ty := .byte) (by decide)).keep K114 nin0)
      have K118 : Keep h0 h106 [] := (Keep.refl h0 []).ext E106
      have K119 : Keep h0 h107 [] := K118.ext E107
      have K120 : Keep h0 h111 [] := K119.wr W111 (Or.inr (Nat.le_trans Z109 (Nat.le_of_eq g107.symm)))
      have F121 : Old Z n0 h111 := (Xo.keep K120 all0)
      have hp112 : ∀ c ∈ ([(own_ch bits (0 : Int32))] : List Int32), ¬ c < 0 ∧ ¬ (255 : Int32) < c := by
        intro c hc
        simp only [List.mem_cons, List.not_mem_nil, or_false] at hc
        rcases hc with rfl
        · exact (own_chb _ _)
      have Z122 : h0.size ≤ h111.size := Nat.le_trans Z110 (Keep.of_wr W111).1
      obtain ⟨rv112, T112, L112, X112, q112, st112⟩ := own_sp X111 hx hZ (y := (⟨"java/lang/String", "<init>", "([C)V"⟩ : MethodName)) rfl hown (ow hw 11 rfl) (ow hw 12 rfl) (ow hw 13 rfl) (by decide) (StrChars.Road.backV (W := 1) hZ (own_hws hw) (kI := 4) (ow hw 5 rfl) (cs := ([(own_ch bits (0 : Int32))] : List Int32)) (bs := ([(own_ch bits (0 : Int32))] : List Int32).map (fun c => c.toInt8.toInt32)) (n := 1) (Nat.le_trans Z0 (Nat.le_of_eq g106.symm)) (Nat.le_trans Z0 Z122) F115 F116 F117 V111 (O2.ext F121.2) P5 rfl rfl (by decide) (by decide) hp112 rfl (by decide) (by decide)) e111 (g := (mkF m 27 #[.val (.int n), .val (.int bits)] [(.ref b107), (.ref b106), (.ref b106)])) rfl (by rw [hml]; rfl) (a := b106) (argsL := [(.ref b107)]) (rest := [(.ref b106)]) rfl (lenOf own_pd15 rfl) rfl (by show 2 * 0 + _ ≤ _; exact Nat.le_of_eq rfl) (hb hby own_d0_27) (by decide) (by decide)
      obtain ⟨rfl, Nq112, Kp112, Es112, Cs112, t112, kb112, u112a, u112b, u112c, Vs112, As112⟩ := q112
      have N112 := Fr.app N111 Nq112
      have Sx112 : own_Str Z T112.heap b106 ([(own_ch bits (0 : Int32))] : List Int32) := ⟨t112, kb112, Es112, Vs112, Cs112, As112, hp112, (Nat.le_of_ble_eq_true rfl)⟩
      refine go _ _ (st112) ?_
      show G (T112.setTop (mkF m 30 #[.val (.int n), .val (.int bits)] [(.ref b106)]))
      have K123 : Keep h0 T112.heap [] := K120.trans Kp112 (allS (Or.inr (Nat.le_of_eq g106.symm)) all0)
      have Sy : own_Str Z T112.heap b106 (own_sx n bits) := by rw [own_sx1 hc1_101 hc9_105]; exact Sx112
      have C124 : CHr Z own_EL s.vm h0 s.vm T112.heap := C0.trans (CHr.keep K123 sf0 C0.1)
      have Z125 : h0.size ≤ T112.heap.size := Nat.le_trans Z122 Kp112.1
      refine fin T112 _ _ _ (some (.ref b106)) s.vm _ X112 hZ hS Z125 C124 (fun q => nomatch q) (by decide) (by decide) ⟨N112, K123, ⟨b106, rfl, Es112, Sy⟩⟩ _ (own_retA X112 hx hret rfl rfl rfl (hb hby own_d0_30))
    · refine go _ _ (fun _ k => XS.icmpYes X0.here hx rfl (pc0 := 9) (pc' := 31) rfl (hb hby own_d0_9) rfl (feq hc9_105).2 (by decide) (by decide) k) ?_
      show G (s₁.setTop (mkF m 31 #[.val (.int n), .val (.int bits)] []))
      refine go _ _ (fun _ k => XS.iloadN X0.here hx rfl (hb hby own_d0_31) rfl (XS.iconst X0.here hx rfl (hb hby own_d0_32) k)) ?_
      show G (s₁.setTop (mkF m 33 #[.val (.int n), .val (.int bits)] [(.int (2 : Int32)), (.int n)]))
      by_cases hc33_126 : n = (2 : Int32)
      · refine go _ _ (fun _ k => XS.icmpNo X0.here hx rfl (hb hby own_d0_33) rfl (teq hc33_126).2 k) ?_
        show G (s₁.setTop (mkF m 36 #[.val (.int n), .val (.int bits)] []))
        obtain ⟨T127, h127, X127, e127, E127, A127, D127, -, st127⟩ := newO X0 hx hZ hown (ow hw 4 rfl) (ow hw 5 rfl) (ow hw 6 rfl) e0 (g := (mkF m 36 #[.val (.int n), .val (.int bits)] [])) rfl (hb hby own_d0_36) (by decide) (by decide)
        obtain ⟨b127, g127⟩ : ∃ z, z = h0.size := ⟨_, rfl⟩
        rw [← g127] at A127 D127 st127
        refine go _ _ (st127) ?_
        show G (T127.setTop (mkF m 39 #[.val (.int n), .val (.int bits)] [(.ref b127)]))
        refine go _ _ (fun _ k => XS.dup X127.here hx rfl (hb hby own_d0_39) rfl rfl (XS.iconst X127.here hx rfl (hb hby own_d0_40) k)) ?_
        show G (T127.setTop (mkF m 41 #[.val (.int n), .val (.int bits)] [(.int (2 : Int32)), (.ref b127), (.ref b127)]))
        obtain ⟨T128, h128, k128, X128, e128, E128, A128, st128⟩ := newP X127 hx hZ (ow hw 7 rfl) e127 (g := (mkF m 41 #[.val (.int n), .val (.int bits)] [(.int (2 : Int32)), (.ref b127), (.ref b127)])) rfl (hb hby own_d0_41) rfl (by decide) (cap := 2) (by decide) (by decide) (by decide) (by decide)
        obtain ⟨b128, g128⟩ : ∃ z, z = h127.size := ⟨_, rfl⟩
        rw [← g128] at A128 st128
        have V128 : Arv Z h128 b128 k128 .char (2 : Int32) [(.int (0 : Int32)), (.int (0 : Int32))] (.int (0 : Int32)) := (Arv.new A128 (by decide)).pad (pad_rep [] (.int (0 : Int32)) 2)
        refine go _ _ (st128) ?_
        show G (T128.setTop (mkF m 43 #[.val (.int n), .val (.int bits)] [(.ref b128), (.ref b127), (.ref b127)]))
        refine go _ _ (fun _ k => XS.dup X128.here hx rfl (hb hby own_d0_43) rfl rfl (XS.iconst X128.here hx rfl (hb hby own_d0_44) (XS.iloadN X128.here hx rfl (hb hby own_d0_45) rfl (XS.iconst X128.here hx rfl (hb hby own_d0_46) k)))) ?_
        show G (T128.setTop (mkF m 47 #[.val (.int n), .val (.int bits)] [(.int (0 : Int32)), (.int bits), (.int (0 : Int32)), (.ref b128), (.ref b128), (.ref b127), (.ref b127)]))
        have Z130 : h0.size ≤ h127.size := E127.1
        have Z131 : h0.size ≤ h128.size := Nat.le_trans Z130 E128.1
        obtain ⟨rv129, T129, L129, X129, q129, st129⟩ := own_st X128 hx hZ (y := (⟨"com/example/kindred/kindred/IdentifierToStringPinLaw", "ch", "(II)C"⟩ : MethodName)) hown (ow hw 8 rfl) (ow hw 9 rfl) (ow hw 2 rfl) (ow hw 10 rfl) (by decide) (own_bkN (W := 5) (rm1 l Z a0 hw z0 O2 P5 fm0 O4 R4 [] bits (0 : Int32) h128 n0 (Nat.le_trans Z0 Z131)) hZ (ow hw 10 rfl) (ow hw 2 rfl) (by decide) (by decide)) e128 (g := (mkF m 47 #[.val (.int n), .val (.int bits)] [(.int (0 : Int32)), (.int bits), (.int (0 : Int32)), (.ref b128), (.ref b128), (.ref b127), (.ref b127)])) rfl (by rw [hml]; rfl) (argsL := [(.int bits), (.int (0 : Int32))]) (rest := [(.int (0 : Int32)), (.ref b128), (.ref b128), (.ref b127), (.ref b127)]) rfl (lenOf own_pd14 rfl) rfl (by show 2 * 0 + _ ≤ _; exact Nat.le_of_eq rfl) (hb hby own_d0_47) (by decide) (by decide)
        obtain ⟨Nq129, e129, rfl⟩ := q129
        have N129 := Fr.app N0 Nq129
        refine go _ _ (st129) ?_
        show G (T129.setTop (mkF m 50 #[.val (.int n), .val (.int bits)] [(.int (own_ch bits (0 : Int32))), (.int (0 : Int32)), (.ref b128), (.ref b128), (.ref b127), (.ref b127)]))
        obtain ⟨cl132, Ar132, q132, S132, M132, H132, U132⟩ := id V128
        obtain ⟨T132, h132, X132, e132, W132, st132⟩ := stC X129 hx hZ e129 Ar132 (j := (0 : Int32)) (inb_of S132 ⟨by decide, by decide⟩) (g := (mkF m 50 #[.val (.int n), .val (.int bits)] [(.int (own_ch bits (0 : Int32))), (.int (0 : Int32)), (.ref b128), (.ref b128), (.ref b127), (.ref b127)])) rfl rfl (hb hby own_d0_50)
        have V132 : Arv Z h132 b128 k128 .char (2 : Int32) [(.int (nar .char (own_ch bits (0 : Int32)))), (.int (0 : Int32))] (.int (0 : Int32)) := Arv.set Ar132 q132 S132 M132 H132 U132 (fits_nar_char _) W132 0 rfl (Nat.le_of_ble_eq_true rfl)
        rw [(own_chn _ _)] at V132
        have N132 := Fr.snoc X132 N129 (Nat.le_trans (Nat.le_trans Z0 Z130) (Nat.le_of_eq g128.symm))
        refine go _ _ (st132) ?_
        show G (T132.setTop (mkF m 51 #[.val (.int n), .val (.int bits)] [(.ref b128), (.ref b127), (.ref b127)]))
        refine go _ _ (fun _ k => XS.dup X132.here hx rfl (hb hby own_d0_51) rfl rfl (XS.iconst X132.here hx rfl (hb hby own_d0_52) (XS.iloadN X132.here hx rfl (hb hby own_d0_53) rfl (XS.iconst X132.here hx rfl (hb hby own_d0_54) k)))) ?_
        show G (T132.setTop (mkF m 55 #[.val (.int n), .val (.int bits)] [(.int (1 : Int32)), (.int bits), (.int (1 : Int32)), (.ref b128), (.ref b128), (.ref b127), (.ref b127)]))
        have Z134 : h0.size ≤ h132.size := Nat.le_trans Z131 (Keep.of_wr W132).1
        obtain ⟨rv133, T133, L133, X133, q133, st133⟩ := own_st X132 hx hZ (y := (⟨"com/example/kindred/kindred/IdentifierToStringPinLaw", "ch", "(II)C"⟩ : MethodName)) hown (ow hw 8 rfl) (ow hw 9 rfl) (ow hw 2 rfl) (ow hw 10 rfl) (by decide) (own_bkN (W := 5) (rm1 l Z a0 hw z0 O2 P5 fm0 O4 R4 [] bits (1 : Int32) h132 n0 (Nat.le_trans Z0 Z134)) hZ (ow hw 10 rfl) (ow hw 2 rfl) (by decide) (by decide)) e132 (g := (mkF m 55 #[.val (.int n), .val (.int bits)] [(.int (1 : Int32)), (.int bits), (.int (1 : Int32)), (.ref b128), (.ref b128), (.ref b127), (.ref b127)])) rfl (by rw [hml]; rfl) (argsL := [(.int bits), (.int (1 : Int32))]) (rest := [(.int (1 : Int32)), (.ref b128), (.ref b128), (.ref b127), (.ref b127)]) rfl (lenOf own_pd14 rfl) rfl (by show 2 * 0 + _ ≤ _; exact Nat.le_of_eq rfl) (hb hby own_d0_55) (by decide) (by decide)
        obtain ⟨Nq133, e133, rfl⟩ := q133
        have N133 := Fr.app N132 Nq133
        refine go _ _ (st133) ?_
        show G (T133.setTop (mkF m 58 #[.val (.int n), .val (.int bits)] [(.int (own_ch bits (1 : Int32))), (.int (1 : Int32)), (.ref b128), (.ref b128), (.ref b127), (.ref b127)]))
        obtain ⟨cl135, Ar135, q135, S135, M135, H135, U135⟩ := id V132
        obtain ⟨T135, h135, X135, e135, W135, st135⟩ := stC X133 hx hZ e133 Ar135 (j := (1 : Int32)) (inb_of S135 ⟨by decide, by decide⟩) (g := (mkF m 58 #[.val (.int n), .val (.int bits)] [(.int (own_ch bits (1 : Int32))), (.int (1 : Int32)), (.ref b128), (.ref b128), (.ref b127), (.ref b127)])) rfl rfl (hb hby own_d0_58)
        have V135 : Arv Z h135 b128 k128 .char (2 : Int32) [(.int (own_ch bits (0 : Int32))), (.int (nar .char (own_ch bits (1 : Int32))))] (.int (0 : Int32)) := Arv.set Ar135 q135 S135 M135 H135 U135 (fits_nar_char _) W135 1 rfl (Nat.le_of_ble_eq_true rfl)
        rw [(own_chn _ _)] at V135
        have N135 := Fr.snoc X135 N133 (Nat.le_trans (Nat.le_trans Z0 Z130) (Nat.le_of_eq g128.symm))
        refine go _ _ (st135) ?_
        show G (T135.setTop (mkF m 59 #[.val (.int n), .val (.int bits)] [(.ref b128), (.ref b127), (.ref b127)]))
        have K137 : Keep h127 h128 [] := (Keep.refl h127 []).ext E128
        have K138 : Keep h127 h132 [] := K137.wr W132 (Or.inr (Nat.le_of_eq g128.symm))
        have K139 : Keep h127 h135 [] := K138.wr W135 (Or.inr (Nat.le_of_eq g128.symm))
        have F140 : Exa Z h135 b127 "java/lang/String" := (A127.keep K139)
        have F141 : Fld Z h135 b127 "java/lang/String" "value" "[B" .null := ((D127 (Or.inr (ow hw 36 rfl)) (ty := (.array .byte)) (by decide)).keep K139 nin0)
        have F142 : Fld Z h135 b127 "java/lang/String" "coder" "B" (.int (0 : Int32)) := ((D127 (Or.inr (ow hw 34 rfl)) (ty := .byte) (by decide)).keep K139 nin0)
        have K143 : Keep h0 h127 [] := (Keep.refl h0 []).ext E127
        have K144 : Keep h0 h128 [] := K143.ext E128
        have K145 : Keep h0 h132 [] := K144.wr W132 (Or.inr (Nat.le_trans Z130 (Nat.le_of_eq g128.symm)))
        have K146 : Keep h0 h135 [] := K145.wr W135 (Or.inr (Nat.le_trans Z130 (Nat.le_of_eq g128.symm)))
        have F147 : Old Z n0 h135 := (Xo.keep K146 all0)
        have hp136 : ∀ c ∈ ([(own_ch bits (0 : Int32)), (own_ch bits (1 : Int32))] : List Int32), ¬ c < 0 ∧ ¬ (255 : Int32) < c := by
          intro c hc
          simp only [List.mem_cons, List.not_mem_nil, or_false] at hc
          rcases hc with rfl | rfl
          · exact (own_chb _ _)
          · exact (own_chb _ _)
        have Z148 : h0.size ≤ h135.size := Nat.le_trans Z134 (Keep.of_wr W135).1
        obtain ⟨rv136, T136, L136, X136, q136, st136⟩ := own_sp X135 hx hZ (y := (⟨"java/lang/String", "<init>", "([C)V"⟩ : MethodName)) rfl hown (ow hw 11 rfl) (ow hw 12 rfl) (ow hw 13 rfl) (by decide) (StrChars.Road.backV (W := 1) hZ (own_hws hw) (kI := 4) (ow hw 5 rfl) (cs := ([(own_ch bits (0 : Int32)), (own_ch bits (1 : Int32))] : List Int32)) (bs := ([(own_ch bits (0 : Int32)), (own_ch bits (1 : Int32))] : List Int32).map (fun c => c.toInt8.toInt32)) (n := 2) (Nat.le_trans Z0 (Nat.le_of_eq g127.symm)) (Nat.le_trans Z0 Z148) F140 F141 F142 V135 (O2.ext F147.2) P5 rfl rfl (by decide) (by decide) hp136 rfl (by decide) (by decide)) e135 (g := (mkF m 59 #[.val (.int n), .val (.int bits)] [(.ref b128), (.ref b127), (.ref b127)])) rfl (by rw [hml]; rfl) (a := b127) (argsL := [(.ref b128)]) (rest := [(.ref b127)]) rfl (lenOf own_pd15 rfl) rfl (by show 2 * 0 + _ ≤ _; exact Nat.le_of_eq rfl) (hb hby own_d0_59) (by decide) (by decide)
        obtain ⟨rfl, Nq136, Kp136, Es136, Cs136, t136, kb136, u136a, u136b, u136c, Vs136, As136⟩ := q136
        have N136 := Fr.app N135 Nq136
        have Sx136 : own_Str Z T136.heap b127 ([(own_ch bits (0 : Int32)), (own_ch bits (1 : Int32))] : List Int32) := ⟨t136, kb136, Es136, Vs136, Cs136, As136, hp136, (Nat.le_of_ble_eq_true rfl)⟩
        refine go _ _ (st136) ?_
        show G (T136.setTop (mkF m 62 #[.val (.int n), .val (.int bits)] [(.ref b127)]))
        have K149 : Keep h0 T136.heap [] := K146.trans Kp136 (allS (Or.inr (Nat.le_of_eq g127.symm)) all0)
        have Sy : own_Str Z T136.heap b127 (own_sx n bits) := by rw [own_sx2 hc1_101 hc9_105 hc33_126]; exact Sx136
        have C150 : CHr Z own_EL s.vm h0 s.vm T136.heap := C0.trans (CHr.keep K149 sf0 C0.1)
        have Z151 : h0.size ≤ T136.heap.size := Nat.le_trans Z148 Kp136.1
        refine fin T136 _ _ _ (some (.ref b127)) s.vm _ X136 hZ hS Z151 C150 (fun q => nomatch q) (by decide) (by decide) ⟨N136, K149, ⟨b127, rfl, Es136, Sy⟩⟩ _ (own_retA X136 hx hret rfl rfl rfl (hb hby own_d0_62))
      · refine go _ _ (fun _ k => XS.icmpYes X0.here hx rfl (pc0 := 33) (pc' := 63) rfl (hb hby own_d0_33) rfl (feq hc33_126).2 (by decide) (by decide) k) ?_
        show G (s₁.setTop (mkF m 63 #[.val (.int n), .val (.int bits)] []))
        obtain ⟨T152, h152, X152, e152, E152, A152, D152, -, st152⟩ := newO X0 hx hZ hown (ow hw 4 rfl) (ow hw 5 rfl) (ow hw 6 rfl) e0 (g := (mkF m 63 #[.val (.int n), .val (.int bits)] [])) rfl (hb hby own_d0_63) (by decide) (by decide)
        obtain ⟨b152, g152⟩ : ∃ z, z = h0.size := ⟨_, rfl⟩
        rw [← g152] at A152 D152 st152
        refine go _ _ (st152) ?_
        show G (T152.setTop (mkF m 66 #[.val (.int n), .val (.int bits)] [(.ref b152)]))
        refine go _ _ (fun _ k => XS.dup X152.here hx rfl (hb hby own_d0_66) rfl rfl (XS.iconst X152.here hx rfl (hb hby own_d0_67) k)) ?_
        show G (T152.setTop (mkF m 68 #[.val (.int n), .val (.int bits)] [(.int (3 : Int32)), (.ref b152), (.ref b152)]))
        obtain ⟨T153, h153, k153, X153, e153, E153, A153, st153⟩ := newP X152 hx hZ (ow hw 7 rfl) e152 (g := (mkF m 68 #[.val (.int n), .val (.int bits)] [(.int (3 : Int32)), (.ref b152), (.ref b152)])) rfl (hb hby own_d0_68) rfl (by decide) (cap := 3) (by decide) (by decide) (by decide) (by decide)
        obtain ⟨b153, g153⟩ : ∃ z, z = h152.size := ⟨_, rfl⟩
        rw [← g153] at A153 st153
        have V153 : Arv Z h153 b153 k153 .char (3 : Int32) [(.int (0 : Int32)), (.int (0 : Int32)), (.int (0 : Int32))] (.int (0 : Int32)) := (Arv.new A153 (by decide)).pad (pad_rep [] (.int (0 : Int32)) 3)
        refine go _ _ (st153) ?_
        show G (T153.setTop (mkF m 70 #[.val (.int n), .val (.int bits)] [(.ref b153), (.ref b152), (.ref b152)]))
        refine go _ _ (fun _ k => XS.dup X153.here hx rfl (hb hby own_d0_70) rfl rfl (XS.iconst X153.here hx rfl (hb hby own_d0_71) (XS.iloadN X153.here hx rfl (hb hby own_d0_72) rfl (XS.iconst X153.here hx rfl (hb hby own_d0_73) k)))) ?_
        show G (T153.setTop (mkF m 74 #[.val (.int n), .val (.int bits)] [(.int (0 : Int32)), (.int bits), (.int (0 : Int32)), (.ref b153), (.ref b153), (.ref b152), (.ref b152)]))
        have Z155 : h0.size ≤ h152.size := E152.1
        have Z156 : h0.size ≤ h153.size := Nat.le_trans Z155 E153.1
        obtain ⟨rv154, T154, L154, X154, q154, st154⟩ := own_st X153 hx hZ (y := (⟨"com/example/kindred/kindred/IdentifierToStringPinLaw", "ch", "(II)C"⟩ : MethodName)) hown (ow hw 8 rfl) (ow hw 9 rfl) (ow hw 2 rfl) (ow hw 10 rfl) (by decide) (own_bkN (W := 5) (rm1 l Z a0 hw z0 O2 P5 fm0 O4 R4 [] bits (0 : Int32) h153 n0 (Nat.le_trans Z0 Z156)) hZ (ow hw 10 rfl) (ow hw 2 rfl) (by decide) (by decide)) e153 (g := (mkF m 74 #[.val (.int n), .val (.int bits)] [(.int (0 : Int32)), (.int bits), (.int (0 : Int32)), (.ref b153), (.ref b153), (.ref b152), (.ref b152)])) rfl (by rw [hml]; rfl) (argsL := [(.int bits), (.int (0 : Int32))]) (rest := [(.int (0 : Int32)), (.ref b153), (.ref b153), (.ref b152), (.ref b152)]) rfl (lenOf own_pd14 rfl) rfl (by show 2 * 0 + _ ≤ _; exact Nat.le_of_eq rfl) (hb hby own_d0_74) (by decide) (by decide)
        obtain ⟨Nq154, e154, rfl⟩ := q154
        have N154 := Fr.app N0 Nq154
        refine go _ _ (st154) ?_
        show G (T154.setTop (mkF m 77 #[.val (.int n), .val (.int bits)] [(.int (own_ch bits (0 : Int32))), (.int (0 : Int32)), (.ref b153), (.ref b153), (.ref b152), (.ref b152)]))
        obtain ⟨cl157, Ar157, q157, S157, M157, H157, U157⟩ := id V153
        obtain ⟨T157, h157, X157, e157, W157, st157⟩ := stC X154 hx hZ e154 Ar157 (j := (0 : Int32)) (inb_of S157 ⟨by decide, by decide⟩) (g := (mkF m 77 #[.val (.int n), .val (.int bits)] [(.int (own_ch bits (0 : Int32))), (.int (0 : Int32)), (.ref b153), (.ref b153), (.ref b152), (.ref b152)])) rfl rfl (hb hby own_d0_77)
        have V157 : Arv Z h157 b153 k153 .char (3 : Int32) [(.int (nar .char (own_ch bits (0 : Int32)))), (.int (0 : Int32)), (.int (0 : Int32))] (.int (0 : Int32)) := Arv.set Ar157 q157 S157 M157 H157 U157 (fits_nar_char _) W157 0 rfl (Nat.le_of_ble_eq_true rfl)
        rw [(own_chn _ _)] at V157
        have N157 := Fr.snoc X157 N154 (Nat.le_trans (Nat.le_trans Z0 Z155) (Nat.le_of_eq g153.symm))
        refine go _ _ (st157) ?_
        show G (T157.setTop (mkF m 78 #[.val (.int n), .val (.int bits)] [(.ref b153), (.ref b152), (.ref b152)]))
        refine go _ _ (fun _ k => XS.dup X157.here hx rfl (hb hby own_d0_78) rfl rfl (XS.iconst X157.here hx rfl (hb hby own_d0_79) (XS.iloadN X157.here hx rfl (hb hby own_d0_80) rfl (XS.iconst X157.here hx rfl (hb hby own_d0_81) k)))) ?_
        show G (T157.setTop (mkF m 82 #[.val (.int n), .val (.int bits)] [(.int (1 : Int32)), (.int bits), (.int (1 : Int32)), (.ref b153), (.ref b153), (.ref b152), (.ref b152)]))
        have Z159 : h0.size ≤ h157.size := Nat.le_trans Z156 (Keep.of_wr W157).1
        obtain ⟨rv158, T158, L158, X158, q158, st158⟩ := own_st X157 hx hZ (y := (⟨"com/example/kindred/kindred/IdentifierToStringPinLaw", "ch", "(II)C"⟩ : MethodName)) hown (ow hw 8 rfl) (ow hw 9 rfl) (ow hw 2 rfl) (ow hw 10 rfl) (by decide) (own_bkN (W := 5) (rm1 l Z a0 hw z0 O2 P5 fm0 O4 R4 [] bits (1 : Int32) h157 n0 (Nat.le_trans Z0 Z159)) hZ (ow hw 10 rfl) (ow hw 2 rfl) (by decide) (by decide)) e157 (g := (mkF m 82 #[.val (.int n), .val (.int bits)] [(.int (1 : Int32)), (.int bits), (.int (1 : Int32)), (.ref b153), (.ref b153), (.ref b152), (.ref b152)])) rfl (by rw [hml]; rfl) (argsL := [(.int bits), (.int (1 : Int32))]) (rest := [(.int (1 : Int32)), (.ref b153), (.ref b153), (.ref b152), (.ref b152)]) rfl (lenOf own_pd14 rfl) rfl (by show 2 * 0 + _ ≤ _; exact Nat.le_of_eq rfl) (hb hby own_d0_82) (by decide) (by decide)
        obtain ⟨Nq158, e158, rfl⟩ := q158
        have N158 := Fr.app N157 Nq158
        refine go _ _ (st158) ?_
        show G (T158.setTop (mkF m 85 #[.val (.int n), .val (.int bits)] [(.int (own_ch bits (1 : Int32))), (.int (1 : Int32)), (.ref b153), (.ref b153), (.ref b152), (.ref b152)]))
        obtain ⟨cl160, Ar160, q160, S160, M160, H160, U160⟩ := id V157
        obtain ⟨T160, h160, X160, e160, W160, st160⟩ := stC X158 hx hZ e158 Ar160 (j := (1 : Int32)) (inb_of S160 ⟨by decide, by decide⟩) (g := (mkF m 85 #[.val (.int n), .val (.int bits)] [(.int (own_ch bits (1 : Int32))), (.int (1 : Int32)), (.ref b153), (.ref b153), (.ref b152), (.ref b152)])) rfl rfl (hb hby own_d0_85)
        have V160 : Arv Z h160 b153 k153 .char (3 : Int32) [(.int (own_ch bits (0 : Int32))), (.int (nar .char (own_ch bits (1 : Int32)))), (.int (0 : Int32))] (.int (0 : Int32)) := Arv.set Ar160 q160 S160 M160 H160 U160 (fits_nar_char _) W160 1 rfl (Nat.le_of_ble_eq_true rfl)
        rw [(own_chn _ _)] at V160
        have N160 := Fr.snoc X160 N158 (Nat.le_trans (Nat.le_trans Z0 Z155) (Nat.le_of_eq g153.symm))
        refine go _ _ (st160) ?_
        show G (T160.setTop (mkF m 86 #[.val (.int n), .val (.int bits)] [(.ref b153), (.ref b152), (.ref b152)]))
        refine go _ _ (fun _ k => XS.dup X160.here hx rfl (hb hby own_d0_86) rfl rfl (XS.iconst X160.here hx rfl (hb hby own_d0_87) (XS.iloadN X160.here hx rfl (hb hby own_d0_88) rfl (XS.iconst X160.here hx rfl (hb hby own_d0_89) k)))) ?_
        show G (T160.setTop (mkF m 90 #[.val (.int n), .val (.int bits)] [(.int (2 : Int32)), (.int bits), (.int (2 : Int32)), (.ref b153), (.ref b153), (.ref b152), (.ref b152)]))
        have Z162 : h0.size ≤ h160.size := Nat.le_trans Z159 (Keep.of_wr W160).1
        obtain ⟨rv161, T161, L161, X161, q161, st161⟩ := own_st X160 hx hZ (y := (⟨"com/example/kindred/kindred/IdentifierToStringPinLaw", "ch", "(II)C"⟩ : MethodName)) hown (ow hw 8 rfl) (ow hw 9 rfl) (ow hw 2 rfl) (ow hw 10 rfl) (by decide) (own_bkN (W := 5) (rm1 l Z a0 hw z0 O2 P5 fm0 O4 R4 [] bits (2 : Int32) h160 n0 (Nat.le_trans Z0 Z162)) hZ (ow hw 10 rfl) (ow hw 2 rfl) (by decide) (by decide)) e160 (g := (mkF m 90 #[.val (.int n), .val (.int bits)] [(.int (2 : Int32)), (.int bits), (.int (2 : Int32)), (.ref b153), (.ref b153), (.ref b152), (.ref b152)])) rfl (by rw [hml]; rfl) (argsL := [(.int bits), (.int (2 : Int32))]) (rest := [(.int (2 : Int32)), (.ref b153), (.ref b153), (.ref b152), (.ref b152)]) rfl (lenOf own_pd14 rfl) rfl (by show 2 * 0 + _ ≤ _; exact Nat.le_of_eq rfl) (hb hby own_d0_90) (by decide) (by decide)
        obtain ⟨Nq161, e161, rfl⟩ := q161
        have N161 := Fr.app N160 Nq161
        refine go _ _ (st161) ?_
        show G (T161.setTop (mkF m 93 #[.val (.int n), .val (.int bits)] [(.int (own_ch bits (2 : Int32))), (.int (2 : Int32)), (.ref b153), (.ref b153), (.ref b152), (.ref b152)]))
        obtain ⟨cl163, Ar163, q163, S163, M163, H163, U163⟩ := id V160
        obtain ⟨T163, h163, X163, e163, W163, st163⟩ := stC X161 hx hZ e161 Ar163 (j := (2 : Int32)) (inb_of S163 ⟨by decide, by decide⟩) (g := (mkF m 93 #[.val (.int n), .val (.int bits)] [(.int (own_ch bits (2 : Int32))), (.int (2 : Int32)), (.ref b153), (.ref b153), (.ref b152), (.ref b152)])) rfl rfl (hb hby own_d0_93)
        have V163 : Arv Z h163 b153 k153 .char (3 : Int32) [(.int (own_ch bits (0 : Int32))), (.int (own_ch bits (1 : Int32))), (.int (nar .char (own_ch bits (2 : Int32))))] (.int (0 : Int32)) := Arv.set Ar163 q163 S163 M163 H163 U163 (fits_nar_char _) W163 2 rfl (Nat.le_of_ble_eq_true rfl)
        rw [(own_chn _ _)] at V163
        have N163 := Fr.snoc X163 N161 (Nat.le_trans (Nat.le_trans Z0 Z155) (Nat.le_of_eq g153.symm))
        refine go _ _ (st163) ?_
        show G (T163.setTop (mkF m 94 #[.val (.int n), .val (.int bits)] [(.ref b153), (.ref b152), (.ref b152)]))
        have K165 : Keep h152 h153 [] := (Keep.refl h152 []).ext E153
        have K166 : Keep h152 h157 [] := K165.wr W157 (Or.inr (Nat.le_of_eq g153.symm))
        have K167 : Keep h152 h160 [] := K166.wr W160 (Or.inr (Nat.le_of_eq g153.symm))
        have K168 : Keep h152 h163 [] := K167.wr W163 (Or.inr (Nat.le_of_eq g153.symm))
        have F169 : Exa Z h163 b152 "java/lang/String" := (A152.keep K168)
        have F170 : Fld Z h163 b152 "java/lang/String" "value" "[B" .null := ((D152 (Or.inr (ow hw 36 rfl)) (ty := (.array .byte)) (by decide)).keep K168 nin0)
        have F171 : Fld Z h163 b152 "java/lang/String" "coder" "B" (.int (0 : Int32)) := ((D152 (Or.inr (ow hw 34 rfl)) (ty := .byte) (by decide)).keep K168 nin0)
        have K172 : Keep h0 h152 [] := (Keep.refl h0 []).ext E152
        have K173 : Keep h0 h153 [] := K172.ext E153
        have K174 : Keep h0 h157 [] := K173.wr W157 (Or.inr (Nat.le_trans Z155 (Nat.le_of_eq g153.symm)))
        have K175 : Keep h0 h160 [] := K174.wr W160 (Or.inr (Nat.le_trans Z155 (Nat.le_of_eq g153.symm)))
        have K176 : Keep h0 h163 [] := K175.wr W163 (Or.inr (Nat.le_trans Z155 (Nat.le_of_eq g153.symm)))
        have F177 : Old Z n0 h163 := (Xo.keep K176 all0)
        have hp164 : ∀ c ∈ ([(own_ch bits (0 : Int32)), (own_ch bits (1 : Int32)), (own_ch bits (2 : Int32))] : List Int32), ¬ c < 0 ∧ ¬ (255 : Int32) < c := by
          intro c hc
          simp only [List.mem_cons, List.not_mem_nil, or_false] at hc
          rcases hc with rfl | rfl | rfl
          · exact (own_chb _ _)
          · exact (own_chb _ _)
          · exact (own_chb _ _)
        have Z178 : h0.size ≤ h163.size := Nat.le_trans Z162 (Keep.of_wr W163).1
        obtain ⟨rv164, T164, L164, X164, q164, st164⟩ := own_sp X163 hx hZ (y := (⟨"java/lang/String", "<init>", "([C)V"⟩ : MethodName)) rfl hown (ow hw 11 rfl) (ow hw 12 rfl) (ow hw 13 rfl) (by decide) (StrChars.Road.backV (W := 1) hZ (own_hws hw) (kI := 4) (ow hw 5 rfl) (cs := ([(own_ch bits (0 : Int32)), (own_ch bits (1 : Int32)), (own_ch bits (2 : Int32))] : List Int32)) (bs := ([(own_ch bits (0 : Int32)), (own_ch bits (1 : Int32)), (own_ch bits (2 : Int32))] : List Int32).map (fun c => c.toInt8.toInt32)) (n := 3) (Nat.le_trans Z0 (Nat.le_of_eq g152.symm)) (Nat.le_trans Z0 Z178) F169 F170 F171 V163 (O2.ext F177.2) P5 rfl rfl (by decide) (by decide) hp164 rfl (by decide) (by decide)) e163 (g := (mkF m 94 #[.val (.int n), .val (.int bits)] [(.ref b153), (.ref b152), (.ref b152)])) rfl (by rw [hml]; rfl) (a := b152) (argsL := [(.ref b153)]) (rest := [(.ref b152)]) rfl (lenOf own_pd15 rfl) rfl (by show 2 * 0 + _ ≤ _; exact Nat.le_of_eq rfl) (hb hby own_d0_94) (by decide) (by decide)
        obtain ⟨rfl, Nq164, Kp164, Es164, Cs164, t164, kb164, u164a, u164b, u164c, Vs164, As164⟩ := q164
        have N164 := Fr.app N163 Nq164
        have Sx164 : own_Str Z T164.heap b152 ([(own_ch bits (0 : Int32)), (own_ch bits (1 : Int32)), (own_ch bits (2 : Int32))] : List Int32) := ⟨t164, kb164, Es164, Vs164, Cs164, As164, hp164, (Nat.le_of_ble_eq_true rfl)⟩
        refine go _ _ (st164) ?_
        show G (T164.setTop (mkF m 97 #[.val (.int n), .val (.int bits)] [(.ref b152)]))
        have K179 : Keep h0 T164.heap [] := K176.trans Kp164 (allS (Or.inr (Nat.le_of_eq g152.symm)) all0)
        have Sy : own_Str Z T164.heap b152 (own_sx n bits) := by rw [own_sx3 hc1_101 hc9_105 hc33_126]; exact Sx164
        have C180 : CHr Z own_EL s.vm h0 s.vm T164.heap := C0.trans (CHr.keep K179 sf0 C0.1)
        have Z181 : h0.size ≤ T164.heap.size := Nat.le_trans Z178 Kp164.1
        refine fin T164 _ _ _ (some (.ref b152)) s.vm _ X164 hZ hS Z181 C180 (fun q => nomatch q) (by decide) (by decide) ⟨N164, K179, ⟨b152, rfl, Es164, Sy⟩⟩ _ (own_retA X164 hx hret rfl rfl rfl (hb hby own_d0_97))
theorem own_d9_0 : decode jdk_30_method_1_code 0 = .ok (.aload_n 0, 1) := by decide +kernel
theorem own_d9_1 : decode jdk_30_method_1_code 1 = .ok (.invokespecial 1, 3) := by decide +kernel
theorem own_d9_4 : decode jdk_30_method_1_code 4 = .ok (.return_, 1) := by decide +kernel
theorem own_pn6 : plainName "java/lang/Record" = true := by decide +kernel
set_option maxHeartbeats 4000000 in
theorem own_ef_rm9 (m : MethodId) (x0 : Addr) : entryFrame m #[(.ref x0)] 1 = mkF m 0 #[.val (.ref x0)] [] := by rfl
set_option maxRecDepth 65536 in
set_option maxHeartbeats 40000000 in
theorem rm9 (l : Launch) (Z : State) (a0 : Array Value) (hw : ∀ d ∈ tables_1, d.before a0 Z = true) (z0 : Int32) (O2 : Sta Z Z.heap "java/lang/String" "COMPACT_STRINGS" "Z" (.int z0)) (P5 : ¬ z0 = (0 : Int32)) (fm0 : Value) (O4 : Sta Z Z.heap "jdk/internal/util/Preconditions" "SIOOBE_FORMATTER" "Ljava/util/function/BiFunction;" fm0) (R4 : fm0.isRef = true) (ws : List Jvm.Cond) (a : Addr) (h0 : Heap) (n0 : Nat) (Z0 : n0 ≤ h0.size) :
    own_MetN l Z (⟨"java/lang/Record", "<init>", "()V"⟩ : MethodName) jdk_30_method_1_code 1 none ws ({ frames := 1, cells := 0, slots := 0, locals := 12 } : Room) #[(.ref a)] h0 (fun v h L => Fr n0 L ∧ h = h0 ∧ (((v = none)))) := by
  refine own_metN (plainFor_of_name own_pn6) ?_
  intro p e s m below meth c s₁ G hx hby hml hZ hown hnm hret X0 e0 go fin
  have N0 := Fr.nil n0
  refine go _ _ (fun _ k => castTop (own_ef_rm9 m a) k) ?_
  show G (s₁.setTop (mkF m 0 #[.val (.ref a)] []))
  refine go _ _ (fun _ k => XS.aloadN X0.here hx rfl (hb hby own_d9_0) rfl rfl k) ?_
  show G (s₁.setTop (mkF m 1 #[.val (.ref a)] [(.ref a)]))
  obtain ⟨T101, X101, e101, st101⟩ := initO X0 hx hZ hown (ow hw 51 rfl) (ow hw 19 rfl) (ow hw 20 rfl) e0 (g := (mkF m 1 #[.val (.ref a)] [(.ref a)])) rfl (by rw [hml]; rfl) rfl (hb hby own_d9_1) (by decide) (W := 0) (by show 2 * 0 + _ ≤ _; exact Nat.le_of_eq rfl) (by decide)
  refine go _ _ (st101) ?_
  show G (T101.setTop (mkF m 4 #[.val (.ref a)] []))
  refine fin T101 _ _ _ none X101 (fun _ => rfl) (by decide) (by decide) (by rw [e101]; exact ⟨N0, rfl, rfl⟩) _ (own_retV X101 hx hret (hb hby own_d9_4))
theorem own_d8_0 : decode prog_12_method_1_code 0 = .ok (.aload_n 0, 1) := by decide +kernel
theorem own_d8_1 : decode prog_12_method_1_code 1 = .ok (.invokespecial 1, 3) := by decide +kernel
theorem own_d8_4 : decode prog_12_method_1_code 4 = .ok (.aload_n 0, 1) := by decide +kernel
theorem own_d8_5 : decode prog_12_method_1_code 5 = .ok (.aload_n 1, 1) := by decide +kernel
theorem own_d8_6 : decode prog_12_method_1_code 6 = .ok (.putfield 7, 3) := by decide +kernel
theorem own_d8_9 : decode prog_12_method_1_code 9 = .ok (.aload_n 0, 1) := by decide +kernel
theorem own_d8_10 : decode prog_12_method_1_code 10 = .ok (.aload_n 2, 1) := by decide +kernel
theorem own_d8_11 : decode prog_12_method_1_code 11 = .ok (.putfield 13, 3) := by decide +kernel
theorem own_d8_14 : decode prog_12_method_1_code 14 = .ok (.return_, 1) := by decide +kernel
theorem own_pn7 : plainName "com/example/kindred/kindred/Identifier" = true := by decide +kernel
theorem own_pd16 : parseMethodDescriptor "()V" = some ⟨[], none⟩ := by decide +kernel
set_option maxHeartbeats 4000000 in
theorem own_ef_rm8 (m : MethodId) (x0 : Addr) (x1 : Addr) (x2 : Addr) : entryFrame m #[(.ref x0), (.ref x1), (.ref x2)] 3 = mkF m 0 #[.val (.ref x0), .val (.ref x1), .val (.ref x2)] [] := by rfl
set_option maxRecDepth 65536 in
set_option maxHeartbeats 40000000 in
theorem rm8 (l : Launch) (Z : State) (a0 : Array Value) (hw : ∀ d ∈ tables_1, d.before a0 Z = true) (z0 : Int32) (O2 : Sta Z Z.heap "java/lang/String" "COMPACT_STRINGS" "Z" (.int z0)) (P5 : ¬ z0 = (0 : Int32)) (fm0 : Value) (O4 : Sta Z Z.heap "jdk/internal/util/Preconditions" "SIOOBE_FORMATTER" "Ljava/util/function/BiFunction;" fm0) (R4 : fm0.isRef = true) (ws : List Jvm.Cond) (a : Addr) (s1 : Addr) (s2 : Addr) (h0 : Heap) (n0 : Nat) (Z0 : n0 ≤ h0.size) (Ea : Exa Z h0 a "com/example/kindred/kindred/Identifier") (F1 : Fld Z h0 a "com/example/kindred/kindred/Identifier" "system" "Ljava/lang/String;" .null) (F2 : Fld Z h0 a "com/example/kindred/kindred/Identifier" "value" "Ljava/lang/String;" .null) (gz_a : n0 ≤ a) :
    own_MetN l Z (⟨"com/example/kindred/kindred/Identifier", "<init>", "(Ljava/lang/String;Ljava/lang/String;)V"⟩ : MethodName) prog_12_method_1_code 3 none ws ({ frames := 2, cells := 0, slots := 0, locals := 24 } : Room) #[(.ref a), (.ref s1), (.ref s2)] h0 (fun v h L => Fr n0 L ∧ Keep h0 h [a] ∧ (((v = none) ∧ (Exa Z h a "com/example/kindred/kindred/Identifier") ∧ (Fld Z h a "com/example/kindred/kindred/Identifier" "system" "Ljava/lang/String;" (.ref s1)) ∧ (Fld Z h a "com/example/kindred/kindred/Identifier" "value" "Ljava/lang/String;" (.ref s2))))) := by
  refine own_metN (plainFor_of_name own_pn7) ?_
  intro p e s m below meth c s₁ G hx hby hml hZ hown hnm hret X0 e0 go fin
  have N0 := Fr.nil n0
  refine go _ _ (fun _ k => castTop (own_ef_rm8 m a s1 s2) k) ?_
  show G (s₁.setTop (mkF m 0 #[.val (.ref a), .val (.ref s1), .val (.ref s2)] []))
  refine go _ _ (fun _ k => XS.aloadN X0.here hx rfl (hb hby own_d8_0) rfl rfl k) ?_
  show G (s₁.setTop (mkF m 1 #[.val (.ref a), .val (.ref s1), .val (.ref s2)] [(.ref a)]))
  obtain ⟨rv101, T101, L101, X101, q101, st101⟩ := own_sp X0 hx hZ (y := (⟨"java/lang/Record", "<init>", "()V"⟩ : MethodName)) rfl hown (ow hw 46 rfl) (ow hw 47 rfl) (ow hw 50 rfl) (by decide) (own_bkN (W := 0) (rm9 l Z a0 hw z0 O2 P5 fm0 O4 R4 [] a h0 n0 Z0) hZ (ow hw 50 rfl) (ow hw 49 rfl) (by decide) (by decide)) e0 (g := (mkF m 1 #[.val (.ref a), .val (.ref s1), .val (.ref s2)] [(.ref a)])) rfl (by rw [hml]; rfl) (a := a) (argsL := []) (rest := []) rfl (lenOf own_pd16 rfl) rfl (by show 2 * 0 + _ ≤ _; exact Nat.le_of_eq rfl) (hb hby own_d8_1) (by decide) (by decide)
  obtain ⟨Nq101, e101, rfl⟩ := q101
  have N101 := Fr.app N0 Nq101
  refine go _ _ (st101) ?_
  show G (T101.setTop (mkF m 4 #[.val (.ref a), .val (.ref s1), .val (.ref s2)] []))
  refine go _ _ (fun _ k => XS.aloadN X101.here hx rfl (hb hby own_d8_4) rfl rfl (XS.aloadN X101.here hx rfl (hb hby own_d8_5) rfl rfl k)) ?_
  show G (T101.setTop (mkF m 6 #[.val (.ref a), .val (.ref s1), .val (.ref s2)] [(.ref s1), (.ref a)]))
  obtain ⟨T102, h102, X102, e102, W102, st102⟩ := putF X101 hx hZ hown (host := "") (Or.inl (ow hw 52 rfl)) Via.refl e101 F1 Ea (Or.inr ⟨(ow hw 53 rfl), rfl, hnm⟩) (ow hw 41 rfl) (ty := (.object "java/lang/String")) (by decide) rfl rfl (g := (mkF m 6 #[.val (.ref a), .val (.ref s1), .val (.ref s2)] [(.ref s1), (.ref a)])) rfl rfl (hb hby own_d8_6)
  have N102 := Fr.snoc X102 N101 gz_a
  refine go _ _ (st102) ?_
  show G (T102.setTop (mkF m 9 #[.val (.ref a), .val (.ref s1), .val (.ref s2)] []))
  refine go _ _ (fun _ k => XS.aloadN X102.here hx rfl (hb hby own_d8_9) rfl rfl (XS.aloadN X102.here hx rfl (hb hby own_d8_10) rfl rfl k)) ?_
  show G (T102.setTop (mkF m 11 #[.val (.ref a), .val (.ref s1), .val (.ref s2)] [(.ref s2), (.ref a)]))
  obtain ⟨T103, h103, X103, e103, W103, st103⟩ := putF X102 hx hZ hown (host := "") (Or.inl (ow hw 54 rfl)) Via.refl e102 (F2.other W102 (Or.inr (RoadKit.slot_ne (t := (.object "java/lang/String")) (t' := (.object "java/lang/String")) (Or.inr (ow hw 55 rfl)) (Or.inr (ow hw 53 rfl)) (by decide) (by decide) (by decide)))) (Ea.wr W102) (Or.inr ⟨(ow hw 55 rfl), rfl, hnm⟩) (ow hw 41 rfl) (ty := (.object "java/lang/String")) (by decide) rfl rfl (g := (mkF m 11 #[.val (.ref a), .val (.ref s1), .val (.ref s2)] [(.ref s2), (.ref a)])) rfl rfl (hb hby own_d8_11)
  have N103 := Fr.snoc X103 N102 gz_a
  refine go _ _ (st103) ?_
  show G (T103.setTop (mkF m 14 #[.val (.ref a), .val (.ref s1), .val (.ref s2)] []))
  have K104 : Keep h0 h102 [a] := (Keep.refl h0 [a]).wr W102 (Or.inl (List.mem_of_getElem? (i := 0) rfl))
  have K105 : Keep h0 h103 [a] := K104.wr W103 (Or.inl (List.mem_of_getElem? (i := 0) rfl))
  refine fin T103 _ _ _ none X103 (fun _ => rfl) (by decide) (by decide) (by rw [e103]; exact ⟨N103, K105, ⟨rfl, ((Ea.wr W102).wr W103), ((F1.same W102).other W103 (Or.inr (RoadKit.slot_ne (t := (.object "java/lang/String")) (t' := (.object "java/lang/String")) (Or.inr (ow hw 53 rfl)) (Or.inr (ow hw 55 rfl)) (by decide) (by decide) (by decide)))), ((F2.other W102 (Or.inr (RoadKit.slot_ne (t := (.object "java/lang/String")) (t' := (.object "java/lang/String")) (Or.inr (ow hw 55 rfl)) (Or.inr (ow hw 53 rfl)) (by decide) (by decide) (by decide)))).same W103)⟩⟩) _ (own_retV X103 hx hret (hb hby own_d8_14))
theorem own_d10_0 : decode prog_12_method_7_code 0 = .ok (.new 23, 3) := by decide +kernel
theorem own_d10_3 : decode prog_12_method_7_code 3 = .ok (.dup, 1) := by decide +kernel
theorem own_d10_4 : decode prog_12_method_7_code 4 = .ok (.invokespecial 25, 3) := by decide +kernel
theorem own_d10_7 : decode prog_12_method_7_code 7 = .ok (.aload_n 0, 1) := by decide +kernel
theorem own_d10_8 : decode prog_12_method_7_code 8 = .ok (.getfield 7, 3) := by decide +kernel
theorem own_d10_11 : decode prog_12_method_7_code 11 = .ok (.invokevirtual 45, 3) := by decide +kernel
theorem own_d10_14 : decode prog_12_method_7_code 14 = .ok (.ldc 88, 2) := by decide +kernel
theorem own_d10_16 : decode prog_12_method_7_code 16 = .ok (.invokevirtual 45, 3) := by decide +kernel
theorem own_d10_19 : decode prog_12_method_7_code 19 = .ok (.aload_n 0, 1) := by decide +kernel
theorem own_d10_20 : decode prog_12_method_7_code 20 = .ok (.getfield 13, 3) := by decide +kernel
theorem own_d10_23 : decode prog_12_method_7_code 23 = .ok (.invokevirtual 45, 3) := by decide +kernel
theorem own_d10_26 : decode prog_12_method_7_code 26 = .ok (.invokevirtual 52, 3) := by decide +kernel
theorem own_d10_29 : decode prog_12_method_7_code 29 = .ok (.areturn, 1) := by decide +kernel
theorem own_pd17 : parseMethodDescriptor "(Ljava/lang/String;)Ljava/lang/StringBuilder;" = some ⟨[(.object "java/lang/String")], some (.object "java/lang/StringBuilder")⟩ := by decide +kernel
theorem own_pd18 : parseMethodDescriptor "()Ljava/lang/String;" = some ⟨[], some (.object "java/lang/String")⟩ := by decide +kernel
set_option maxHeartbeats 4000000 in
theorem own_ef_rm10 (m : MethodId) (x0 : Addr) : entryFrame m #[(.ref x0)] 1 = mkF m 0 #[.val (.ref x0)] [] := by rfl
set_option maxRecDepth 65536 in
set_option maxHeartbeats 40000000 in
theorem rm10 (l : Launch) (Z : State) (a0 : Array Value) (hw : ∀ d ∈ tables_1, d.before a0 Z = true) (z0 : Int32) (O2 : Sta Z Z.heap "java/lang/String" "COMPACT_STRINGS" "Z" (.int z0)) (P5 : ¬ z0 = (0 : Int32)) (fm0 : Value) (O4 : Sta Z Z.heap "jdk/internal/util/Preconditions" "SIOOBE_FORMATTER" "Ljava/util/function/BiFunction;" fm0) (R4 : fm0.isRef = true) (ws : List Jvm.Cond) (a : Addr) (s1 : Addr) (s2 : Addr) (c1 : List Int32) (c2 : List Int32) (h0 : Heap) (n0 : Nat) (Z0 : n0 ≤ h0.size) (Xo : Old Z n0 h0) (F1 : Fld Z h0 a "com/example/kindred/kindred/Identifier" "system" "Ljava/lang/String;" (.ref s1)) (F2 : Fld Z h0 a "com/example/kindred/kindred/Identifier" "value" "Ljava/lang/String;" (.ref s2)) (E1 : Exa Z h0 s1 "java/lang/String") (E2 : Exa Z h0 s2 "java/lang/String") (S1 : own_Str Z h0 s1 c1) (S2 : own_Str Z h0 s2 c2) (l1 : c1.length ≤ 3) (l2 : c2.length ≤ 3) :
    own_MetH l Z own_EL (⟨"com/example/kindred/kindred/Identifier", "toString", "()Ljava/lang/String;"⟩ : MethodName) prog_12_method_7_code 1 (some (.object "java/lang/String")) ws ({ frames := 6, cells := 6, slots := 48, locals := 100 } : Room) #[(.ref a)] h0 (fun v h L => Fr n0 L ∧ Keep h0 h [] ∧ ((∃ (b : Addr), (v = some (.ref b)) ∧ (Exa Z h b "java/lang/String") ∧ (own_Str Z h b (((([] : List Int32) ++ c1) ++ ([(124 : Int32)] : List Int32)) ++ c2))))) := by
  refine own_metH (plainFor_of_name own_pn7) (own_hEL hw) ?_
  intro p e s m below meth c s₁ G hx hby hml hZ hown hnm hret X0 e0 hS C0 go fin
  have N0 := Fr.nil n0
  refine go _ _ (fun _ k => castTop (own_ef_rm10 m a) k) ?_
  show G (s₁.setTop (mkF m 0 #[.val (.ref a)] []))
  have bd_c1 := own_Str_b S1
  have bd_c2 := own_Str_b S2
  obtain ⟨T101, h101, X101, e101, E101, A101, D101, -, st101⟩ := newO X0 hx hZ hown (ow hw 61 rfl) (ow hw 62 rfl) (ow hw 63 rfl) e0 (g := (mkF m 0 #[.val (.ref a)] [])) rfl (hb hby own_d10_0) (by decide) (by decide)
  obtain ⟨b101, g101⟩ : ∃ z, z = h0.size := ⟨_, rfl⟩
  rw [← g101] at A101 D101 st101
  refine go _ _ (st101) ?_
  show G (T101.setTop (mkF m 3 #[.val (.ref a)] [(.ref b101)]))
  refine go _ _ (fun _ k => XS.dup X101.here hx rfl (hb hby own_d10_3) rfl rfl k) ?_
  show G (T101.setTop (mkF m 4 #[.val (.ref a)] [(.ref b101), (.ref b101)]))
  have K103 : Keep h0 h101 [] := (Keep.refl h0 []).ext E101
  have F104 : Old Z n0 h101 := (Xo.keep K103 all0)
  have Z105 : h0.size ≤ h101.size := E101.1
  obtain ⟨rv102, T102, L102, X102, q102, st102⟩ := own_sp X101 hx hZ (y := (⟨"java/lang/StringBuilder", "<init>", "()V"⟩ : MethodName)) rfl hown (ow hw 64 rfl) (ow hw 65 rfl) (ow hw 66 rfl) (by decide) (own_bkN (W := 1) (rm11 l Z a0 hw z0 O2 P5 fm0 O4 R4 [] b101 h101 n0 (Nat.le_trans Z0 Z105) F104 A101 (D101 (Or.inl (ow hw 76 rfl)) (ty := (.array .byte)) (by decide)) (D101 (Or.inl (ow hw 78 rfl)) (ty := .byte) (by decide)) (D101 (Or.inl (ow hw 100 rfl)) (ty := .int) (by decide)) (Nat.le_trans Z0 (Nat.le_of_eq g101.symm))) hZ (ow hw 66 rfl) (ow hw 63 rfl) (by decide) (by decide)) e101 (g := (mkF m 4 #[.val (.ref a)] [(.ref b101), (.ref b101)])) rfl (by rw [hml]; rfl) (a := b101) (argsL := []) (rest := [(.ref b101)]) rfl (lenOf own_pd16 rfl) rfl (by show 2 * 0 + _ ≤ _; exact Nat.le_of_eq rfl) (hb hby own_d10_4) (by decide) (by decide)
  obtain ⟨Nq102, Kp102, ⟨t_106, kb_107, rfl, z108, f109, f110, f111, f112, f113⟩⟩ := q102
  have N102 := Fr.app N0 Nq102
  refine go _ _ (st102) ?_
  show G (T102.setTop (mkF m 7 #[.val (.ref a)] [(.ref b101)]))
  refine go _ _ (fun _ k => XS.aloadN X102.here hx rfl (hb hby own_d10_7) rfl rfl k) ?_
  show G (T102.setTop (mkF m 8 #[.val (.ref a)] [(.ref a), (.ref b101)]))
  have K115 : Keep h0 T102.heap [] := K103.trans Kp102 (allS (Or.inr (Nat.le_of_eq g101.symm)) all0)
  have F116 : Fld Z T102.heap a "com/example/kindred/kindred/Identifier" "system" "Ljava/lang/String;" (.ref s1) := (F1.keep K115 nin0)
  obtain ⟨T114, X114, e114, st114⟩ := getF X102 hx hZ hown (host := "") (Or.inl (ow hw 52 rfl)) Via.refl rfl F116 (g := (mkF m 8 #[.val (.ref a)] [(.ref a), (.ref b101)])) rfl rfl (hb hby own_d10_8)
  refine go _ _ (st114) ?_
  show G (T114.setTop (mkF m 11 #[.val (.ref a)] [(.ref s1), (.ref b101)]))
  have K118 : Keep h101 T102.heap [b101] := (Keep.refl h101 [b101]).trans Kp102 (allS (Or.inl (List.mem_of_getElem? (i := 0) rfl)) all0)
  have F119 : Old Z n0 T102.heap := (F104.keep K118 (allS (Nat.le_trans Z0 (Nat.le_of_eq g101.symm)) all0))
  have F120 : Exa Z T102.heap s1 "java/lang/String" := (E1.keep K115)
  have F121 : own_Str Z T102.heap s1 c1 := (own_Str_keep S1 K115)
  have Z122 : h0.size ≤ T102.heap.size := Nat.le_trans Z105 Kp102.1
  obtain ⟨rv117, T117, L117, X117, q117, st117⟩ := own_vi X114 hx hZ (y := (⟨"java/lang/StringBuilder", "append", "(Ljava/lang/String;)Ljava/lang/StringBuilder;"⟩ : MethodName)) (z := (⟨"java/lang/StringBuilder", "append", "(Ljava/lang/String;)Ljava/lang/StringBuilder;"⟩ : MethodName)) hown (ow hw 79 rfl) (ow hw 80 rfl) (ow hw 82 rfl) (ow hw 81 rfl) (Or.inl rfl) (by decide) (own_bkN (W := 0) (rm13 l Z a0 hw z0 O2 P5 fm0 O4 R4 [] b101 s1 t_106 kb_107 ([] : List Int32) c1 T102.heap n0 (Nat.le_trans Z0 Z122) F119 f109 f110 f111 f112 F120 F121 f113 (by simp; omega) (Nat.le_trans Z0 (Nat.le_of_eq g101.symm)) (Nat.le_trans (Nat.le_trans Z0 Z105) z108)) hZ (ow hw 83 rfl) (ow hw 63 rfl) (by decide) (by decide)) e114 f109 (g := (mkF m 11 #[.val (.ref a)] [(.ref s1), (.ref b101)])) rfl (by rw [hml]; rfl) (argsL := [(.ref s1)]) (rest := []) rfl (lenOf own_pd17 rfl) rfl (by show 2 * 0 + _ ≤ _; exact Nat.le_of_eq rfl) (hb hby own_d10_11) (by decide) (by decide)
  obtain ⟨Nq117, Kp117, ⟨rfl, f123, f124, f125, f126, f127⟩⟩ := q117
  have N117 := Fr.app N102 Nq117
  refine go _ _ (st117) ?_
  show G (T117.setTop (mkF m 14 #[.val (.ref a)] [(.ref b101)]))
  have K129 : Keep h0 T117.heap [] := K115.trans Kp117 (allS (Or.inr (Nat.le_of_eq g101.symm)) (allS (Or.inr (Nat.le_trans Z105 z108)) all0))
  have C130 : CHr Z own_EL s.vm h0 s.vm T117.heap := C0.trans (CHr.keep K129 sf0 C0.1)
  have Z131 : h0.size ≤ T117.heap.size := Nat.le_trans Z122 Kp117.1
  obtain ⟨b128, T128, h128, k128, t128, kb128, X128, e128, E128, hS128, hk128, hZ128, hown128, A128, Fc128, Fv128, V128, -, -, C128, -, -, st128⟩ := ldcCH X117 hx hZ hown (ow hw 126 rfl) (own_sat hw) rfl hS Z131 (own_hEL hw) (List.mem_of_getElem? (i := 1) rfl) C130.1 (vs := [.int 124]) (z := (1 : Int32)) (by decide) (by decide) (by decide) (g := (mkF m 14 #[.val (.ref a)] [(.ref b101)])) rfl (hb hby own_d10_14) (n := 4) (by decide) (by decide) (by decide) (by decide)
  have Sx128 : own_Str Z h128 b128 ([(124 : Int32)] : List Int32) := ⟨t128, kb128, A128, Fv128, Fc128, V128, (by decide), (by decide)⟩
  refine go _ _ (st128) ?_
  show G (T128.setTop (mkF m 16 #[.val (.ref a)] [(.ref b128), (.ref b101)]))
  have K133 : Keep T102.heap T117.heap [b101, t_106] := (Keep.refl T102.heap [b101, t_106]).trans Kp117 (allS (Or.inl (List.mem_of_getElem? (i := 0) rfl)) (allS (Or.inl (List.mem_of_getElem? (i := 1) rfl)) all0))
  have K134 : Keep T102.heap h128 [b101, t_106] := K133.ext E128
  have F135 : Old Z n0 h128 := (F119.keep K134 (allS (Nat.le_trans Z0 (Nat.le_of_eq g101.symm)) (allS (Nat.le_trans (Nat.le_trans Z0 Z105) z108) all0)))
  have K136 : Keep T117.heap h128 [] := (Keep.refl T117.heap []).ext E128
  have F137 : Exa Z h128 b101 "java/lang/StringBuilder" := (f123.keep K136)
  have F138 : Fld Z h128 b101 "java/lang/AbstractStringBuilder" "value" "[B" (.ref t_106) := (f124.keep K136 nin0)
  have F139 : Fld Z h128 b101 "java/lang/AbstractStringBuilder" "coder" "B" (.int (0 : Int32)) := (f125.keep K136 nin0)
  have F140 : Fld Z h128 b101 "java/lang/AbstractStringBuilder" "count" "I" (.int (own_n (([] : List Int32) ++ c1))) := (f126.keep K136 nin0)
  have F141 : Arv Z h128 t_106 kb_107 .byte (16 : Int32) (own_bs (([] : List Int32) ++ c1)) (.int (0 : Int32)) := (f127.keep K136 nin0)
  have Z142 : h0.size ≤ h128.size := Nat.le_trans Z131 E128.1
  obtain ⟨rv132, T132, L132, X132, q132, st132⟩ := own_vi X128 hx hZ128 (y := (⟨"java/lang/StringBuilder", "append", "(Ljava/lang/String;)Ljava/lang/StringBuilder;"⟩ : MethodName)) (z := (⟨"java/lang/StringBuilder", "append", "(Ljava/lang/String;)Ljava/lang/StringBuilder;"⟩ : MethodName)) hown128 (ow hw 79 rfl) (ow hw 80 rfl) (ow hw 82 rfl) (ow hw 81 rfl) (Or.inl rfl) (by decide) (own_bkN (W := 0) (rm13 l Z a0 hw z0 O2 P5 fm0 O4 R4 [] b101 b128 t_106 kb_107 (([] : List Int32) ++ c1) ([(124 : Int32)] : List Int32) h128 n0 (Nat.le_trans Z0 Z142) F135 F137 F138 F139 F140 A128 Sx128 F141 (by simp; omega) (Nat.le_trans Z0 (Nat.le_of_eq g101.symm)) (Nat.le_trans (Nat.le_trans Z0 Z105) z108)) hZ128 (ow hw 83 rfl) (ow hw 63 rfl) (by decide) (by decide)) e128 F137 (g := (mkF m 16 #[.val (.ref a)] [(.ref b128), (.ref b101)])) rfl (by rw [hml]; rfl) (argsL := [(.ref b128)]) (rest := []) rfl (lenOf own_pd17 rfl) rfl (by show 2 * 0 + _ ≤ _; exact Nat.le_of_eq rfl) (hb hby own_d10_16) (by decide) (by decide)
  obtain ⟨Nq132, Kp132, ⟨rfl, f143, f144, f145, f146, f147⟩⟩ := q132
  have N132 := Fr.app N117 Nq132
  refine go _ _ (st132) ?_
  show G (T132.setTop (mkF m 19 #[.val (.ref a)] [(.ref b101)]))
  refine go _ _ (fun _ k => XS.aloadN X132.here hx rfl (hb hby own_d10_19) rfl rfl k) ?_
  show G (T132.setTop (mkF m 20 #[.val (.ref a)] [(.ref a), (.ref b101)]))
  have K149 : Keep h0 h128 [] := K129.ext E128
  have K150 : Keep h0 T132.heap [] := K149.trans Kp132 (allS (Or.inr (Nat.le_of_eq g101.symm)) (allS (Or.inr (Nat.le_trans Z105 z108)) all0))
  have F151 : Fld Z T132.heap a "com/example/kindred/kindred/Identifier" "value" "Ljava/lang/String;" (.ref s2) := (F2.keep K150 nin0)
  obtain ⟨T148, X148, e148, st148⟩ := getF X132 hx hZ128 hown128 (host := "") (Or.inl (ow hw 54 rfl)) Via.refl rfl F151 (g := (mkF m 20 #[.val (.ref a)] [(.ref a), (.ref b101)])) rfl rfl (hb hby own_d10_20)
  refine go _ _ (st148) ?_
  show G (T148.setTop (mkF m 23 #[.val (.ref a)] [(.ref s2), (.ref b101)]))
  have K153 : Keep h128 T132.heap [b101, t_106] := (Keep.refl h128 [b101, t_106]).trans Kp132 (allS (Or.inl (List.mem_of_getElem? (i := 0) rfl)) (allS (Or.inl (List.mem_of_getElem? (i := 1) rfl)) all0))
  have F154 : Old Z n0 T132.heap := (F135.keep K153 (allS (Nat.le_trans Z0 (Nat.le_of_eq g101.symm)) (allS (Nat.le_trans (Nat.le_trans Z0 Z105) z108) all0)))
  have F155 : Exa Z T132.heap s2 "java/lang/String" := (E2.keep K150)
  have F156 : own_Str Z T132.heap s2 c2 := (own_Str_keep S2 K150)
  have Z157 : h0.size ≤ T132.heap.size := Nat.le_trans Z142 Kp132.1
  obtain ⟨rv152, T152, L152, X152, q152, st152⟩ := own_vi X148 hx hZ128 (y := (⟨"java/lang/StringBuilder", "append", "(Ljava/lang/String;)Ljava/lang/StringBuilder;"⟩ : MethodName)) (z := (⟨"java/lang/StringBuilder", "append", "(Ljava/lang/String;)Ljava/lang/StringBuilder;"⟩ : MethodName)) hown128 (ow hw 79 rfl) (ow hw 80 rfl) (ow hw 82 rfl) (ow hw 81 rfl) (Or.inl rfl) (by decide) (own_bkN (W := 0) (rm13 l Z a0 hw z0 O2 P5 fm0 O4 R4 [] b101 s2 t_106 kb_107 ((([] : List Int32) ++ c1) ++ ([(124 : Int32)] : List Int32)) c2 T132.heap n0 (Nat.le_trans Z0 Z157) F154 f143 f144 f145 f146 F155 F156 f147 (by simp; omega) (Nat.le_trans Z0 (Nat.le_of_eq g101.symm)) (Nat.le_trans (Nat.le_trans Z0 Z105) z108)) hZ128 (ow hw 83 rfl) (ow hw 63 rfl) (by decide) (by decide)) e148 f143 (g := (mkF m 23 #[.val (.ref a)] [(.ref s2), (.ref b101)])) rfl (by rw [hml]; rfl) (argsL := [(.ref s2)]) (rest := []) rfl (lenOf own_pd17 rfl) rfl (by show 2 * 0 + _ ≤ _; exact Nat.le_of_eq rfl) (hb hby own_d10_23) (by decide) (by decide)
  obtain ⟨Nq152, Kp152, ⟨rfl, f158, f159, f160, f161, f162⟩⟩ := q152
  have N152 := Fr.app N132 Nq152
  refine go _ _ (st152) ?_
  show G (T152.setTop (mkF m 26 #[.val (.ref a)] [(.ref b101)]))
  have K164 : Keep T132.heap T152.heap [b101, t_106] := (Keep.refl T132.heap [b101, t_106]).trans Kp152 (allS (Or.inl (List.mem_of_getElem? (i := 0) rfl)) (allS (Or.inl (List.mem_of_getElem? (i := 1) rfl)) all0))
  have F165 : Old Z n0 T152.heap := (F154.keep K164 (allS (Nat.le_trans Z0 (Nat.le_of_eq g101.symm)) (allS (Nat.le_trans (Nat.le_trans Z0 Z105) z108) all0)))
  have Z166 : h0.size ≤ T152.heap.size := Nat.le_trans Z157 Kp152.1
  obtain ⟨rv163, T163, L163, X163, q163, st163⟩ := own_vi X152 hx hZ128 (y := (⟨"java/lang/StringBuilder", "toString", "()Ljava/lang/String;"⟩ : MethodName)) (z := (⟨"java/lang/StringBuilder", "toString", "()Ljava/lang/String;"⟩ : MethodName)) hown128 (ow hw 127 rfl) (ow hw 128 rfl) (ow hw 130 rfl) (ow hw 129 rfl) (Or.inl rfl) (by decide) (own_bkN (W := 0) (rm21 l Z a0 hw z0 O2 P5 fm0 O4 R4 [] b101 t_106 kb_107 (((([] : List Int32) ++ c1) ++ ([(124 : Int32)] : List Int32)) ++ c2) T152.heap n0 (Nat.le_trans Z0 Z166) F165 f158 f159 f160 f161 f162 (by simp; omega) (own_bda (own_bda (own_bda (by decide) bd_c1) (by decide)) bd_c2)) hZ128 (ow hw 131 rfl) (ow hw 63 rfl) (by decide) (by decide)) rfl f158 (g := (mkF m 26 #[.val (.ref a)] [(.ref b101)])) rfl (by rw [hml]; rfl) (argsL := []) (rest := []) rfl (lenOf own_pd18 rfl) rfl (by show 2 * 0 + _ ≤ _; exact Nat.le_of_eq rfl) (hb hby own_d10_26) (by decide) (by decide)
  obtain ⟨Nq163, Kp163, ⟨b_167, rfl, z168, f169, f170⟩⟩ := q163
  have N163 := Fr.app N152 Nq163
  refine go _ _ (st163) ?_
  show G (T163.setTop (mkF m 29 #[.val (.ref a)] [(.ref b_167)]))
  have K171 : Keep h0 T152.heap [] := K150.trans Kp152 (allS (Or.inr (Nat.le_of_eq g101.symm)) (allS (Or.inr (Nat.le_trans Z105 z108)) all0))
  have K172 : Keep h0 T163.heap [] := K171.trans Kp163 all0
  have C173 : CHr Z own_EL s.vm h0 T128.vm h128 := C130.trans C128
  have Sf174 : Safe Z own_EL s.vm h101 t_106 := Safe.new z108
  have C175 : CHr Z own_EL s.vm h0 s.vm h101 := C0.trans (CHr.keep K103 sf0 C0.1)
  have Sf176 : Safe Z own_EL s.vm h101 b101 := Safe.exa hZ.alike A101 (by decide) (by decide)
  have Sf177 : Safe Z own_EL s.vm T102.heap t_106 := Safe.keep Kp102 (sfS Sf176 sf0) C175.1 Sf174
  have C178 : CHr Z own_EL s.vm h0 s.vm T102.heap := C0.trans (CHr.keep K115 sf0 C0.1)
  have Sf179 : Safe Z own_EL s.vm T102.heap b101 := Safe.exa hZ.alike f109 (by decide) (by decide)
  have Sf180 : Safe Z own_EL s.vm T117.heap t_106 := Safe.keep Kp117 (sfS Sf179 (sfS Sf177 sf0)) C178.1 Sf177
  have Sf181 : Safe Z own_EL T128.vm h128 t_106 := C128.safe f127.lt Sf180
  have Sf182 : Safe Z own_EL T128.vm h128 b101 := Safe.exa hZ128.alike F137 (by decide) (by decide)
  have C183 : CHr Z own_EL s.vm h0 T128.vm T132.heap := C173.trans (CHr.keep Kp132 (sfS Sf182 (sfS Sf181 sf0)) C173.1)
  have Sf184 : Safe Z own_EL T128.vm T132.heap t_106 := Safe.keep Kp132 (sfS Sf182 (sfS Sf181 sf0)) C173.1 Sf181
  have Sf185 : Safe Z own_EL T128.vm T132.heap b101 := Safe.exa hZ128.alike f143 (by decide) (by decide)
  have C186 : CHr Z own_EL s.vm h0 T128.vm T152.heap := C183.trans (CHr.keep Kp152 (sfS Sf185 (sfS Sf184 sf0)) C183.1)
  have C187 : CHr Z own_EL s.vm h0 T128.vm T163.heap := C186.trans (CHr.keep Kp163 sf0 C186.1)
  have Z188 : h128.size ≤ T132.heap.size := Kp132.1
  have Z189 : h128.size ≤ T152.heap.size := Nat.le_trans Z188 Kp152.1
  have Z190 : h128.size ≤ T163.heap.size := Nat.le_trans Z189 Kp163.1
  refine fin T163 _ _ _ (some (.ref b_167)) T128.vm _ X163 hZ128 hS128 (Nat.le_trans hk128 Z190) C187 (fun q => nomatch q) (by decide) (by decide) ⟨N163, K172, ⟨b_167, rfl, f169, f170⟩⟩ _ (own_retA X163 hx hret rfl rfl rfl (hb hby own_d10_29))
theorem own_d32_0 : decode method_5_code 0 = .ok (.iload 4, 2) := by decide +kernel
theorem own_d32_2 : decode method_5_code 2 = .ok (.aload_n 0, 1) := by decide +kernel
theorem own_d32_3 : decode method_5_code 3 = .ok (.invokevirtual 22, 3) := by decide +kernel
theorem own_d32_6 : decode method_5_code 6 = .ok (.if_icmp .lt 5, 3) := by decide +kernel
theorem own_d32_9 : decode method_5_code 9 = .ok (.iconst 1, 1) := by decide +kernel
theorem own_d32_10 : decode method_5_code 10 = .ok (.ireturn, 1) := by decide +kernel
theorem own_d32_11 : decode method_5_code 11 = .ok (.iload 4, 2) := by decide +kernel
theorem own_d32_13 : decode method_5_code 13 = .ok (.iload_n 3, 1) := by decide +kernel
theorem own_d32_14 : decode method_5_code 14 = .ok (.if_icmp .ge 14, 3) := by decide +kernel
theorem own_d32_17 : decode method_5_code 17 = .ok (.iload_n 1, 1) := by decide +kernel
theorem own_d32_18 : decode method_5_code 18 = .ok (.iload 4, 2) := by decide +kernel
theorem own_d32_20 : decode method_5_code 20 = .ok (.invokestatic 34, 3) := by decide +kernel
theorem own_d32_23 : decode method_5_code 23 = .ok (.istore 5, 2) := by decide +kernel
theorem own_d32_25 : decode method_5_code 25 = .ok (.goto 28, 3) := by decide +kernel
theorem own_d32_28 : decode method_5_code 28 = .ok (.iload 4, 2) := by decide +kernel
theorem own_d32_30 : decode method_5_code 30 = .ok (.iload_n 3, 1) := by decide +kernel
theorem own_d32_31 : decode method_5_code 31 = .ok (.if_icmp .ne 10, 3) := by decide +kernel
theorem own_d32_34 : decode method_5_code 34 = .ok (.bipush 124, 2) := by decide +kernel
theorem own_d32_36 : decode method_5_code 36 = .ok (.istore 5, 2) := by decide +kernel
theorem own_d32_38 : decode method_5_code 38 = .ok (.goto 15, 3) := by decide +kernel
theorem own_d32_41 : decode method_5_code 41 = .ok (.iload_n 2, 1) := by decide +kernel
theorem own_d32_42 : decode method_5_code 42 = .ok (.iload 4, 2) := by decide +kernel
theorem own_d32_44 : decode method_5_code 44 = .ok (.iload_n 3, 1) := by decide +kernel
theorem own_d32_45 : decode method_5_code 45 = .ok (.isub, 1) := by decide +kernel
theorem own_d32_46 : decode method_5_code 46 = .ok (.iconst 1, 1) := by decide +kernel
theorem own_d32_47 : decode method_5_code 47 = .ok (.isub, 1) := by decide +kernel
theorem own_d32_48 : decode method_5_code 48 = .ok (.invokestatic 34, 3) := by decide +kernel
theorem own_d32_51 : decode method_5_code 51 = .ok (.istore 5, 2) := by decide +kernel
theorem own_d32_53 : decode method_5_code 53 = .ok (.aload_n 0, 1) := by decide +kernel
theorem own_d32_54 : decode method_5_code 54 = .ok (.iload 4, 2) := by decide +kernel
theorem own_d32_56 : decode method_5_code 56 = .ok (.invokevirtual 41, 3) := by decide +kernel
theorem own_d32_59 : decode method_5_code 59 = .ok (.iload 5, 2) := by decide +kernel
theorem own_d32_61 : decode method_5_code 61 = .ok (.if_icmp .ne 7, 3) := by decide +kernel
theorem own_d32_64 : decode method_5_code 64 = .ok (.iconst 1, 1) := by decide +kernel
theorem own_d32_65 : decode method_5_code 65 = .ok (.goto 4, 3) := by decide +kernel
theorem own_d32_68 : decode method_5_code 68 = .ok (.iconst 0, 1) := by decide +kernel
theorem own_d32_69 : decode method_5_code 69 = .ok (.ireturn, 1) := by decide +kernel
theorem own_pd19 : parseMethodDescriptor "(I)C" = some ⟨[.int], some .char⟩ := by decide +kernel
set_option maxHeartbeats 4000000 in
theorem own_ef_rm32 (m : MethodId) (x0 : Addr) (x1 : Int32) (x2 : Int32) (x3 : Int32) (x4 : Int32) : entryFrame m #[(.ref x0), (.int x1), (.int x2), (.int x3), (.int x4)] 6 = mkF m 0 #[.val (.ref x0), .val (.int x1), .val (.int x2), .val (.int x3), .val (.int x4), .unset] [] := by rfl
set_option maxRecDepth 65536 in
set_option maxHeartbeats 40000000 in
theorem rm32 (l : Launch) (Z : State) (a0 : Array Value) (hw : ∀ d ∈ tables_1, d.before a0 Z = true) (z0 : Int32) (O2 : Sta Z Z.heap "java/lang/String" "COMPACT_STRINGS" "Z" (.int z0)) (P5 : ¬ z0 = (0 : Int32)) (fm0 : Value) (O4 : Sta Z Z.heap "jdk/internal/util/Preconditions" "SIOOBE_FORMATTER" "Ljava/util/function/BiFunction;" fm0) (R4 : fm0.isRef = true) (ws : List Jvm.Cond) (r : Addr) (sy : Int32) (va : Int32) (sl : Int32) (j : Int32) (vl : Int32) (i : Nat) (h0 : Heap) (n0 : Nat) (Z0 : n0 ≤ h0.size) (Xo : Old Z n0 h0) (Er : Exa Z h0 r "java/lang/String") (Sr : own_Str Z h0 r (own_res sl vl sy va)) (hs : own_03 sl) (hv : own_03 vl) (hj : j = (Int32.ofNat i)) (hi : i ≤ 6) :
    own_MetN l Z (⟨"com/example/kindred/kindred/IdentifierToStringPinLaw", "at", "(Ljava/lang/String;IIII)Z"⟩ : MethodName) method_5_code 6 (some .boolean) ws ({ frames := 4, cells := 0, slots := 0, locals := 53 } : Room) #[(.ref r), (.int sy), (.int va), (.int sl), (.int j)] h0 (fun v h L => Fr n0 L ∧ h = h0 ∧ (((v = some (.int (1 : Int32)))))) := by
  refine own_metN (plainFor_of_name own_pn5) ?_
  intro p e s m below meth c s₁ G hx hby hml hZ hown hnm hret X0 e0 go fin
  have N0 := Fr.nil n0
  refine go _ _ (fun _ k => castTop (own_ef_rm32 m r sy va sl j) k) ?_
  show G (s₁.setTop (mkF m 0 #[.val (.ref r), .val (.int sy), .val (.int va), .val (.int sl), .val (.int j), .unset] []))
  subst hj
  show G (s₁.setTop (mkF m 0 #[.val (.ref r), .val (.int sy), .val (.int va), .val (.int sl), .val (.int (Int32.ofNat i)), .unset] []))
  refine go _ _ (fun _ k => XS.iload X0.here hx rfl (hb hby own_d32_0) rfl (XS.aloadN X0.here hx rfl (hb hby own_d32_2) rfl rfl k)) ?_
  show G (s₁.setTop (mkF m 3 #[.val (.ref r), .val (.int sy), .val (.int va), .val (.int sl), .val (.int (Int32.ofNat i)), .unset] [(.ref r), (.int (Int32.ofNat i))]))
  obtain ⟨tx101, kbx101, Esx101, Vsx101, Csx101, Asx101, cdx101, bdx101, lnx101⟩ := own_Str_W Sr
  obtain ⟨rv101, T101, L101, X101, q101, st101⟩ := own_vi X0 hx hZ (Q := fun v h L => v = some (.int (Int32.ofNat ((own_res sl vl sy va)).length)) ∧ L = [] ∧ h = h0) (kc := 0) (ks := 0) (y := (⟨"java/lang/String", "length", "()I"⟩ : MethodName)) (z := (⟨"java/lang/String", "length", "()I"⟩ : MethodName)) hown (ow hw 172 rfl) (ow hw 90 rfl) (ow hw 92 rfl) (ow hw 91 rfl) (Or.inl rfl) (by decide) (StrChars.Road.lenW (W := 1) hZ (own_hln hw) (kI := 4) (ow hw 5 rfl) Esx101 Vsx101 Csx101 Asx101 cdx101 bdx101 (O2.ext Xo.2) P5 lnx101 (by decide) (by decide)) e0 Er (g := (mkF m 3 #[.val (.ref r), .val (.int sy), .val (.int va), .val (.int sl), .val (.int (Int32.ofNat i)), .unset] [(.ref r), (.int (Int32.ofNat i))])) rfl (by rw [hml]; rfl) (argsL := []) (rest := [(.int (Int32.ofNat i))]) rfl (lenOf own_pd1 rfl) rfl (by show 2 * 0 + _ ≤ _; exact Nat.le_of_eq rfl) (hb hby own_d32_3) (by decide) (by decide)
  obtain ⟨rfl, rfl, e101⟩ := q101
  have N101 := Fr.app N0 (Fr.nil n0)
  refine go _ _ (st101) ?_
  show G (T101.setTop (mkF m 6 #[.val (.ref r), .val (.int sy), .val (.int va), .val (.int sl), .val (.int (Int32.ofNat i)), .unset] [(.int (own_n (own_res sl vl sy va))), (.int (Int32.ofNat i))]))
  by_cases hc6_102 : (Int32.ofNat i) < (own_n (own_res sl vl sy va))
  · refine go _ _ (fun _ k => XS.icmpYes X101.here hx rfl (pc0 := 6) (pc' := 11) rfl (hb hby own_d32_6) rfl (tlt hc6_102).1 (by decide) (by decide) k) ?_
    show G (T101.setTop (mkF m 11 #[.val (.ref r), .val (.int sy), .val (.int va), .val (.int sl), .val (.int (Int32.ofNat i)), .unset] []))
    refine go _ _ (fun _ k => XS.iload X101.here hx rfl (hb hby own_d32_11) rfl (XS.iloadN X101.here hx rfl (hb hby own_d32_13) rfl k)) ?_
    show G (T101.setTop (mkF m 14 #[.val (.ref r), .val (.int sy), .val (.int va), .val (.int sl), .val (.int (Int32.ofNat i)), .unset] [(.int sl), (.int (Int32.ofNat i))]))
    by_cases hc14_103 : (Int32.ofNat i) < sl
    · refine go _ _ (fun _ k => XS.icmpNo X101.here hx rfl (hb hby own_d32_14) rfl (tlt hc14_103).2.1 k) ?_
      show G (T101.setTop (mkF m 17 #[.val (.ref r), .val (.int sy), .val (.int va), .val (.int sl), .val (.int (Int32.ofNat i)), .unset] []))
      refine go _ _ (fun _ k => XS.iloadN X101.here hx rfl (hb hby own_d32_17) rfl (XS.iload X101.here hx rfl (hb hby own_d32_18) rfl k)) ?_
      show G (T101.setTop (mkF m 20 #[.val (.ref r), .val (.int sy), .val (.int va), .val (.int sl), .val (.int (Int32.ofNat i)), .unset] [(.int (Int32.ofNat i)), (.int sy)]))
      obtain ⟨rv104, T104, L104, X104, q104, st104⟩ := own_st X101 hx hZ (y := (⟨"com/example/kindred/kindred/IdentifierToStringPinLaw", "ch", "(II)C"⟩ : MethodName)) hown (ow hw 8 rfl) (ow hw 9 rfl) (ow hw 2 rfl) (ow hw 10 rfl) (by decide) (own_bkN (W := 0) (rm1 l Z a0 hw z0 O2 P5 fm0 O4 R4 [] sy (Int32.ofNat i) h0 n0 Z0) hZ (ow hw 10 rfl) (ow hw 2 rfl) (by decide) (by decide)) e101 (g := (mkF m 20 #[.val (.ref r), .val (.int sy), .val (.int va), .val (.int sl), .val (.int (Int32.ofNat i)), .unset] [(.int (Int32.ofNat i)), (.int sy)])) rfl (by rw [hml]; rfl) (argsL := [(.int sy), (.int (Int32.ofNat i))]) (rest := []) rfl (lenOf own_pd14 rfl) rfl (by show 2 * 0 + _ ≤ _; exact Nat.le_of_eq rfl) (hb hby own_d32_20) (by decide) (by decide)
      obtain ⟨Nq104, e104, rfl⟩ := q104
      have N104 := Fr.app N101 Nq104
      refine go _ _ (st104) ?_
      show G (T104.setTop (mkF m 23 #[.val (.ref r), .val (.int sy), .val (.int va), .val (.int sl), .val (.int (Int32.ofNat i)), .unset] [(.int (own_ch sy (Int32.ofNat i)))]))
      refine go _ _ (fun _ k => XS.istore X104.here hx rfl (hb hby own_d32_23) rfl (l' := #[.val (.ref r), .val (.int sy), .val (.int va), .val (.int sl), .val (.int (Int32.ofNat i)), .val (.int (own_ch sy (Int32.ofNat i)))]) rfl k) ?_
      show G (T104.setTop (mkF m 25 #[.val (.ref r), .val (.int sy), .val (.int va), .val (.int sl), .val (.int (Int32.ofNat i)), .val (.int (own_ch sy (Int32.ofNat i)))] []))
      refine go _ _ (fun _ k => XS.goto X104.here hx rfl (pc0 := 25) (pc' := 53) rfl (hb hby own_d32_25) (by decide) (by decide) k) ?_
      show G (T104.setTop (mkF m 53 #[.val (.ref r), .val (.int sy), .val (.int va), .val (.int sl), .val (.int (Int32.ofNat i)), .val (.int (own_ch sy (Int32.ofNat i)))] []))
      refine go _ _ (fun _ k => XS.aloadN X104.here hx rfl (hb hby own_d32_53) rfl rfl (XS.iload X104.here hx rfl (hb hby own_d32_54) rfl k)) ?_
      show G (T104.setTop (mkF m 56 #[.val (.ref r), .val (.int sy), .val (.int va), .val (.int sl), .val (.int (Int32.ofNat i)), .val (.int (own_ch sy (Int32.ofNat i)))] [(.int (Int32.ofNat i)), (.ref r)]))
      obtain ⟨tx105, kbx105, Esx105, Vsx105, Csx105, Asx105, cdx105, bdx105, lnx105⟩ := own_Str_W Sr
      obtain ⟨rv105, T105, L105, X105, q105, st105⟩ := own_vi X104 hx hZ (Q := fun v h L => v = some (.int (((own_res sl vl sy va)).getD i 0)) ∧ L = [] ∧ h = h0) (kc := 0) (ks := 0) (y := (⟨"java/lang/String", "charAt", "(I)C"⟩ : MethodName)) (z := (⟨"java/lang/String", "charAt", "(I)C"⟩ : MethodName)) hown (ow hw 176 rfl) (ow hw 177 rfl) (ow hw 179 rfl) (ow hw 178 rfl) (Or.inl rfl) (by decide) (StrChars.Road.chN (W := 0) hZ (own_hch hw) (kI := 4) (ow hw 5 rfl) Esx105 Vsx105 Csx105 Asx105 cdx105 bdx105 (O2.ext Xo.2) P5 (O4.ext Xo.2) R4 lnx105 (i := i) (own_idx (by have := own_res_le sl vl sy va; omega) (by omega) hc6_102) (j := (Int32.ofNat i)) rfl (by decide) (by decide)) e104 Er (g := (mkF m 56 #[.val (.ref r), .val (.int sy), .val (.int va), .val (.int sl), .val (.int (Int32.ofNat i)), .val (.int (own_ch sy (Int32.ofNat i)))] [(.int (Int32.ofNat i)), (.ref r)])) rfl (by rw [hml]; rfl) (argsL := [(.int (Int32.ofNat i))]) (rest := []) rfl (lenOf own_pd19 rfl) rfl (by show 2 * 0 + _ ≤ _; exact Nat.le_of_eq rfl) (hb hby own_d32_56) (by decide) (by decide)
      obtain ⟨rfl, rfl, e105⟩ := q105
      have N105 := Fr.app N104 (Fr.nil n0)
      refine go _ _ (st105) ?_
      show G (T105.setTop (mkF m 59 #[.val (.ref r), .val (.int sy), .val (.int va), .val (.int sl), .val (.int (Int32.ofNat i)), .val (.int (own_ch sy (Int32.ofNat i)))] [(.int ((own_res sl vl sy va).getD i 0))]))
      refine go _ _ (fun _ k => XS.iload X105.here hx rfl (hb hby own_d32_59) rfl k) ?_
      show G (T105.setTop (mkF m 61 #[.val (.ref r), .val (.int sy), .val (.int va), .val (.int sl), .val (.int (Int32.ofNat i)), .val (.int (own_ch sy (Int32.ofNat i)))] [(.int (own_ch sy (Int32.ofNat i))), (.int ((own_res sl vl sy va).getD i 0))]))
      have hq106 : ((own_res sl vl sy va).getD i 0) = (own_ch sy (Int32.ofNat i)) := own_at1 hs hv hi hc14_103
      refine go _ _ (fun _ k => XS.icmpNo X105.here hx rfl (hb hby own_d32_61) rfl (teq hq106).2 k) ?_
      show G (T105.setTop (mkF m 64 #[.val (.ref r), .val (.int sy), .val (.int va), .val (.int sl), .val (.int (Int32.ofNat i)), .val (.int (own_ch sy (Int32.ofNat i)))] []))
      refine go _ _ (fun _ k => XS.iconst X105.here hx rfl (hb hby own_d32_64) k) ?_
      show G (T105.setTop (mkF m 65 #[.val (.ref r), .val (.int sy), .val (.int va), .val (.int sl), .val (.int (Int32.ofNat i)), .val (.int (own_ch sy (Int32.ofNat i)))] [(.int (1 : Int32))]))
      refine go _ _ (fun _ k => XS.goto X105.here hx rfl (pc0 := 65) (pc' := 69) rfl (hb hby own_d32_65) (by decide) (by decide) k) ?_
      show G (T105.setTop (mkF m 69 #[.val (.ref r), .val (.int sy), .val (.int va), .val (.int sl), .val (.int (Int32.ofNat i)), .val (.int (own_ch sy (Int32.ofNat i)))] [(.int (1 : Int32))]))
      refine fin T105 _ _ _ (some (.int (1 : Int32))) X105 (fun q => nomatch q) (by decide) (by decide) (by rw [e105]; exact ⟨N105, rfl, rfl⟩) _ (own_retN X105 hx (z := (1 : Int32)) (t := .boolean) hret (by simp) (hb hby own_d32_69))
    · refine go _ _ (fun _ k => XS.icmpYes X101.here hx rfl (pc0 := 14) (pc' := 28) rfl (hb hby own_d32_14) rfl (flt hc14_103).2.1 (by decide) (by decide) k) ?_
      show G (T101.setTop (mkF m 28 #[.val (.ref r), .val (.int sy), .val (.int va), .val (.int sl), .val (.int (Int32.ofNat i)), .unset] []))
      refine go _ _ (fun _ k => XS.iload X101.here hx rfl (hb hby own_d32_28) rfl (XS.iloadN X101.here hx rfl (hb hby own_d32_30) rfl k)) ?_
      show G (T101.setTop (mkF m 31 #[.val (.ref r), .val (.int sy), .val (.int va), .val (.int sl), .val (.int (Int32.ofNat i)), .unset] [(.int sl), (.int (Int32.ofNat i))]))
      by_cases hc31_107 : (Int32.ofNat i) = sl
      · refine go _ _ (fun _ k => XS.icmpNo X101.here hx rfl (hb hby own_d32_31) rfl (teq hc31_107).2 k) ?_
        show G (T101.setTop (mkF m 34 #[.val (.ref r), .val (.int sy), .val (.int va), .val (.int sl), .val (.int (Int32.ofNat i)), .unset] []))
        refine go _ _ (fun _ k => XS.bipush X101.here hx rfl (hb hby own_d32_34) (XS.istore X101.here hx rfl (hb hby own_d32_36) rfl (l' := #[.val (.ref r), .val (.int sy), .val (.int va), .val (.int sl), .val (.int (Int32.ofNat i)), .val (.int (124 : Int32))]) rfl k)) ?_
        show G (T101.setTop (mkF m 38 #[.val (.ref r), .val (.int sy), .val (.int va), .val (.int sl), .val (.int (Int32.ofNat i)), .val (.int (124 : Int32))] []))
        refine go _ _ (fun _ k => XS.goto X101.here hx rfl (pc0 := 38) (pc' := 53) rfl (hb hby own_d32_38) (by decide) (by decide) k) ?_
        show G (T101.setTop (mkF m 53 #[.val (.ref r), .val (.int sy), .val (.int va), .val (.int sl), .val (.int (Int32.ofNat i)), .val (.int (124 : Int32))] []))
        refine go _ _ (fun _ k => XS.aloadN X101.here hx rfl (hb hby own_d32_53) rfl rfl (XS.iload X101.here hx rfl (hb hby own_d32_54) rfl k)) ?_
        show G (T101.setTop (mkF m 56 #[.val (.ref r), .val (.int sy), .val (.int va), .val (.int sl), .val (.int (Int32.ofNat i)), .val (.int (124 : Int32))] [(.int (Int32.ofNat i)), (.ref r)]))
        obtain ⟨tx108, kbx108, Esx108, Vsx108, Csx108, Asx108, cdx108, bdx108, lnx108⟩ := own_Str_W Sr
        obtain ⟨rv108, T108, L108, X108, q108, st108⟩ := own_vi X101 hx hZ (Q := fun v h L => v = some (.int (((own_res sl vl sy va)).getD i 0)) ∧ L = [] ∧ h = h0) (kc := 0) (ks := 0) (y := (⟨"java/lang/String", "charAt", "(I)C"⟩ : MethodName)) (z := (⟨"java/lang/String", "charAt", "(I)C"⟩ : MethodName)) hown (ow hw 176 rfl) (ow hw 177 rfl) (ow hw 179 rfl) (ow hw 178 rfl) (Or.inl rfl) (by decide) (StrChars.Road.chN (W := 0) hZ (own_hch hw) (kI := 4) (ow hw 5 rfl) Esx108 Vsx108 Csx108 Asx108 cdx108 bdx108 (O2.ext Xo.2) P5 (O4.ext Xo.2) R4 lnx108 (i := i) (own_idx (by have := own_res_le sl vl sy va; omega) (by omega) hc6_102) (j := (Int32.ofNat i)) rfl (by decide) (by decide)) e101 Er (g := (mkF m 56 #[.val (.ref r), .val (.int sy), .val (.int va), .val (.int sl), .val (.int (Int32.ofNat i)), .val (.int (124 : Int32))] [(.int (Int32.ofNat i)), (.ref r)])) rfl (by rw [hml]; rfl) (argsL := [(.int (Int32.ofNat i))]) (rest := []) rfl (lenOf own_pd19 rfl) rfl (by show 2 * 0 + _ ≤ _; exact Nat.le_of_eq rfl) (hb hby own_d32_56) (by decide) (by decide)
        obtain ⟨rfl, rfl, e108⟩ := q108
        have N108 := Fr.app N101 (Fr.nil n0)
        refine go _ _ (st108) ?_
        show G (T108.setTop (mkF m 59 #[.val (.ref r), .val (.int sy), .val (.int va), .val (.int sl), .val (.int (Int32.ofNat i)), .val (.int (124 : Int32))] [(.int ((own_res sl vl sy va).getD i 0))]))
        refine go _ _ (fun _ k => XS.iload X108.here hx rfl (hb hby own_d32_59) rfl k) ?_
        show G (T108.setTop (mkF m 61 #[.val (.ref r), .val (.int sy), .val (.int va), .val (.int sl), .val (.int (Int32.ofNat i)), .val (.int (124 : Int32))] [(.int (124 : Int32)), (.int ((own_res sl vl sy va).getD i 0))]))
        have hq109 : ((own_res sl vl sy va).getD i 0) = (124 : Int32) := own_at2 hs hv hi hc31_107
        refine go _ _ (fun _ k => XS.icmpNo X108.here hx rfl (hb hby own_d32_61) rfl (teq hq109).2 k) ?_
        show G (T108.setTop (mkF m 64 #[.val (.ref r), .val (.int sy), .val (.int va), .val (.int sl), .val (.int (Int32.ofNat i)), .val (.int (124 : Int32))] []))
        refine go _ _ (fun _ k => XS.iconst X108.here hx rfl (hb hby own_d32_64) k) ?_
        show G (T108.setTop (mkF m 65 #[.val (.ref r), .val (.int sy), .val (.int va), .val (.int sl), .val (.int (Int32.ofNat i)), .val (.int (124 : Int32))] [(.int (1 : Int32))]))
        refine go _ _ (fun _ k => XS.goto X108.here hx rfl (pc0 := 65) (pc' := 69) rfl (hb hby own_d32_65) (by decide) (by decide) k) ?_
        show G (T108.setTop (mkF m 69 #[.val (.ref r), .val (.int sy), .val (.int va), .val (.int sl), .val (.int (Int32.ofNat i)), .val (.int (124 : Int32))] [(.int (1 : Int32))]))
        refine fin T108 _ _ _ (some (.int (1 : Int32))) X108 (fun q => nomatch q) (by decide) (by decide) (by rw [e108]; exact ⟨N108, rfl, rfl⟩) _ (own_retN X108 hx (z := (1 : Int32)) (t := .boolean) hret (by simp) (hb hby own_d32_69))
      · refine go _ _ (fun _ k => XS.icmpYes X101.here hx rfl (pc0 := 31) (pc' := 41) rfl (hb hby own_d32_31) rfl (feq hc31_107).2 (by decide) (by decide) k) ?_
        show G (T101.setTop (mkF m 41 #[.val (.ref r), .val (.int sy), .val (.int va), .val (.int sl), .val (.int (Int32.ofNat i)), .unset] []))
        refine go _ _ (fun _ k => XS.iloadN X101.here hx rfl (hb hby own_d32_41) rfl (XS.iload X101.here hx rfl (hb hby own_d32_42) rfl (XS.iloadN X101.here hx rfl (hb hby own_d32_44) rfl (XS.isub X101.here hx rfl (hb hby own_d32_45) rfl (XS.iconst X101.here hx rfl (hb hby own_d32_46) (XS.isub X101.here hx rfl (hb hby own_d32_47) rfl k)))))) ?_
        show G (T101.setTop (mkF m 48 #[.val (.ref r), .val (.int sy), .val (.int va), .val (.int sl), .val (.int (Int32.ofNat i)), .unset] [(.int (((Int32.ofNat i) - sl) - (1 : Int32))), (.int va)]))
        obtain ⟨rv110, T110, L110, X110, q110, st110⟩ := own_st X101 hx hZ (y := (⟨"com/example/kindred/kindred/IdentifierToStringPinLaw", "ch", "(II)C"⟩ : MethodName)) hown (ow hw 8 rfl) (ow hw 9 rfl) (ow hw 2 rfl) (ow hw 10 rfl) (by decide) (own_bkN (W := 0) (rm1 l Z a0 hw z0 O2 P5 fm0 O4 R4 [] va (((Int32.ofNat i) - sl) - (1 : Int32)) h0 n0 Z0) hZ (ow hw 10 rfl) (ow hw 2 rfl) (by decide) (by decide)) e101 (g := (mkF m 48 #[.val (.ref r), .val (.int sy), .val (.int va), .val (.int sl), .val (.int (Int32.ofNat i)), .unset] [(.int (((Int32.ofNat i) - sl) - (1 : Int32))), (.int va)])) rfl (by rw [hml]; rfl) (argsL := [(.int va), (.int (((Int32.ofNat i) - sl) - (1 : Int32)))]) (rest := []) rfl (lenOf own_pd14 rfl) rfl (by show 2 * 0 + _ ≤ _; exact Nat.le_of_eq rfl) (hb hby own_d32_48) (by decide) (by decide)
        obtain ⟨Nq110, e110, rfl⟩ := q110
        have N110 := Fr.app N101 Nq110
        refine go _ _ (st110) ?_
        show G (T110.setTop (mkF m 51 #[.val (.ref r), .val (.int sy), .val (.int va), .val (.int sl), .val (.int (Int32.ofNat i)), .unset] [(.int (own_ch va (((Int32.ofNat i) - sl) - (1 : Int32))))]))
        refine go _ _ (fun _ k => XS.istore X110.here hx rfl (hb hby own_d32_51) rfl (l' := #[.val (.ref r), .val (.int sy), .val (.int va), .val (.int sl), .val (.int (Int32.ofNat i)), .val (.int (own_ch va (((Int32.ofNat i) - sl) - (1 : Int32))))]) rfl (XS.aloadN X110.here hx rfl (hb hby own_d32_53) rfl rfl (XS.iload X110.here hx rfl (hb hby own_d32_54) rfl k))) ?_
        show G (T110.setTop (mkF m 56 #[.val (.ref r), .val (.int sy), .val (.int va), .val (.int sl), .val (.int (Int32.ofNat i)), .val (.int (own_ch va (((Int32.ofNat i) - sl) - (1 : Int32))))] [(.int (Int32.ofNat i)), (.ref r)]))
        obtain ⟨tx111, kbx111, Esx111, Vsx111, Csx111, Asx111, cdx111, bdx111, lnx111⟩ := own_Str_W Sr
        obtain ⟨rv111, T111, L111, X111, q111, st111⟩ := own_vi X110 hx hZ (Q := fun v h L => v = some (.int (((own_res sl vl sy va)).getD i 0)) ∧ L = [] ∧ h = h0) (kc := 0) (ks := 0) (y := (⟨"java/lang/String", "charAt", "(I)C"⟩ : MethodName)) (z := (⟨"java/lang/String", "charAt", "(I)C"⟩ : MethodName)) hown (ow hw 176 rfl) (ow hw 177 rfl) (ow hw 179 rfl) (ow hw 178 rfl) (Or.inl rfl) (by decide) (StrChars.Road.chN (W := 0) hZ (own_hch hw) (kI := 4) (ow hw 5 rfl) Esx111 Vsx111 Csx111 Asx111 cdx111 bdx111 (O2.ext Xo.2) P5 (O4.ext Xo.2) R4 lnx111 (i := i) (own_idx (by have := own_res_le sl vl sy va; omega) (by omega) hc6_102) (j := (Int32.ofNat i)) rfl (by decide) (by decide)) e110 Er (g := (mkF m 56 #[.val (.ref r), .val (.int sy), .val (.int va), .val (.int sl), .val (.int (Int32.ofNat i)), .val (.int (own_ch va (((Int32.ofNat i) - sl) - (1 : Int32))))] [(.int (Int32.ofNat i)), (.ref r)])) rfl (by rw [hml]; rfl) (argsL := [(.int (Int32.ofNat i))]) (rest := []) rfl (lenOf own_pd19 rfl) rfl (by show 2 * 0 + _ ≤ _; exact Nat.le_of_eq rfl) (hb hby own_d32_56) (by decide) (by decide)
        obtain ⟨rfl, rfl, e111⟩ := q111
        have N111 := Fr.app N110 (Fr.nil n0)
        refine go _ _ (st111) ?_
        show G (T111.setTop (mkF m 59 #[.val (.ref r), .val (.int sy), .val (.int va), .val (.int sl), .val (.int (Int32.ofNat i)), .val (.int (own_ch va (((Int32.ofNat i) - sl) - (1 : Int32))))] [(.int ((own_res sl vl sy va).getD i 0))]))
        refine go _ _ (fun _ k => XS.iload X111.here hx rfl (hb hby own_d32_59) rfl k) ?_
        show G (T111.setTop (mkF m 61 #[.val (.ref r), .val (.int sy), .val (.int va), .val (.int sl), .val (.int (Int32.ofNat i)), .val (.int (own_ch va (((Int32.ofNat i) - sl) - (1 : Int32))))] [(.int (own_ch va (((Int32.ofNat i) - sl) - (1 : Int32)))), (.int ((own_res sl vl sy va).getD i 0))]))
        have hq112 : ((own_res sl vl sy va).getD i 0) = (own_ch va (((Int32.ofNat i) - sl) - (1 : Int32))) := own_at3 hs hv hi hc14_103 hc31_107 hc6_102
        refine go _ _ (fun _ k => XS.icmpNo X111.here hx rfl (hb hby own_d32_61) rfl (teq hq112).2 k) ?_
        show G (T111.setTop (mkF m 64 #[.val (.ref r), .val (.int sy), .val (.int va), .val (.int sl), .val (.int (Int32.ofNat i)), .val (.int (own_ch va (((Int32.ofNat i) - sl) - (1 : Int32))))] []))
        refine go _ _ (fun _ k => XS.iconst X111.here hx rfl (hb hby own_d32_64) k) ?_
        show G (T111.setTop (mkF m 65 #[.val (.ref r), .val (.int sy), .val (.int va), .val (.int sl), .val (.int (Int32.ofNat i)), .val (.int (own_ch va (((Int32.ofNat i) - sl) - (1 : Int32))))] [(.int (1 : Int32))]))
        refine go _ _ (fun _ k => XS.goto X111.here hx rfl (pc0 := 65) (pc' := 69) rfl (hb hby own_d32_65) (by decide) (by decide) k) ?_
        show G (T111.setTop (mkF m 69 #[.val (.ref r), .val (.int sy), .val (.int va), .val (.int sl), .val (.int (Int32.ofNat i)), .val (.int (own_ch va (((Int32.ofNat i) - sl) - (1 : Int32))))] [(.int (1 : Int32))]))
        refine fin T111 _ _ _ (some (.int (1 : Int32))) X111 (fun q => nomatch q) (by decide) (by decide) (by rw [e111]; exact ⟨N111, rfl, rfl⟩) _ (own_retN X111 hx (z := (1 : Int32)) (t := .boolean) hret (by simp) (hb hby own_d32_69))
  · refine go _ _ (fun _ k => XS.icmpNo X101.here hx rfl (hb hby own_d32_6) rfl (flt hc6_102).1 k) ?_
    show G (T101.setTop (mkF m 9 #[.val (.ref r), .val (.int sy), .val (.int va), .val (.int sl), .val (.int (Int32.ofNat i)), .unset] []))
    refine go _ _ (fun _ k => XS.iconst X101.here hx rfl (hb hby own_d32_9) k) ?_
    show G (T101.setTop (mkF m 10 #[.val (.ref r), .val (.int sy), .val (.int va), .val (.int sl), .val (.int (Int32.ofNat i)), .unset] [(.int (1 : Int32))]))
    refine fin T101 _ _ _ (some (.int (1 : Int32))) X101 (fun q => nomatch q) (by decide) (by decide) (by rw [e101]; exact ⟨N101, rfl, rfl⟩) _ (own_retN X101 hx (z := (1 : Int32)) (t := .boolean) hret (by simp) (hb hby own_d32_10))
theorem own_pd20 : parseMethodDescriptor "(II)Ljava/lang/String;" = some ⟨[.int, .int], some (.object "java/lang/String")⟩ := by decide +kernel
theorem own_pd21 : parseMethodDescriptor "(Ljava/lang/String;Ljava/lang/String;)V" = some ⟨[(.object "java/lang/String"), (.object "java/lang/String")], none⟩ := by decide +kernel
theorem own_pd22 : parseMethodDescriptor "(Ljava/lang/String;IIII)Z" = some ⟨[(.object "java/lang/String"), .int, .int, .int, .int], some .boolean⟩ := by decide +kernel
set_option maxHeartbeats 4000000 in
theorem own_ef_rmLaw (m : MethodId) (x0 : Int32) (x1 : Int32) (x2 : Int32) : entryFrame m #[(.int x0), (.int x1), (.int x2)] maxLocals = mkF m 0 #[.val (.int x0), .val (.int x1), .val (.int x2), .unset, .unset, .unset, .unset, .unset] [] := by rfl
set_option maxRecDepth 65536 in
set_option maxHeartbeats 40000000 in
theorem rmLaw (l : Launch) (Z : State) (a0 : Array Value) (hw : ∀ d ∈ tables_1, d.before a0 Z = true) (z0 : Int32) (O2 : Sta Z Z.heap "java/lang/String" "COMPACT_STRINGS" "Z" (.int z0)) (P5 : ¬ z0 = (0 : Int32)) (fm0 : Value) (O4 : Sta Z Z.heap "jdk/internal/util/Preconditions" "SIOOBE_FORMATTER" "Ljava/util/function/BiFunction;" fm0) (R4 : fm0.isRef = true) (ws : List Jvm.Cond) (p0 : Int32) (p1 : Int32) (p2 : Int32) (h0 : Heap) (n0 : Nat) (Z0 : n0 ≤ h0.size) (Xo : Old Z n0 h0) :
    own_MetH l Z own_EL x code maxLocals ret ws room_1 #[(.int p0), (.int p1), (.int p2)] h0 (fun v h L => Fr n0 L ∧ Keep h0 h [] ∧ (((v = some (.int (1 : Int32)))))) := by
  refine own_metH (plainFor_of_name own_pn5) (own_hEL hw) ?_
  intro p e s m below meth c s₁ G hx hby hml hZ hown hnm hret X0 e0 hS C0 go fin
  have N0 := Fr.nil n0
  refine go _ _ (fun _ k => castTop (own_ef_rmLaw m p0 p1 p2) k) ?_
  show G (s₁.setTop (mkF m 0 #[.val (.int p0), .val (.int p1), .val (.int p2), .unset, .unset, .unset, .unset, .unset] []))
  refine go _ _ (fun _ k => XS.iloadN X0.here hx rfl (hb hby at_0) rfl (XS.iconst X0.here hx rfl (hb hby at_1) (XS.iand X0.here hx rfl (hb hby at_2) rfl (XS.istoreN X0.here hx rfl (hb hby at_3) rfl (l' := #[.val (.int p0), .val (.int p1), .val (.int p2), .val (.int (p2 &&& (3 : Int32))), .unset, .unset, .unset, .unset]) rfl (XS.iloadN X0.here hx rfl (hb hby at_4) rfl (XS.iconst X0.here hx rfl (hb hby at_5) k)))))) ?_
  show G (s₁.setTop (mkF m 6 #[.val (.int p0), .val (.int p1), .val (.int p2), .val (.int (p2 &&& (3 : Int32))), .unset, .unset, .unset, .unset] [(.int (2 : Int32)), (.int p2)]))
  refine go _ _ (fun _ k => XS.iushr X0.here hx rfl (hb hby at_6) rfl (XS.iconst X0.here hx rfl (hb hby at_7) (XS.iand X0.here hx rfl (hb hby at_8) rfl (XS.istore X0.here hx rfl (hb hby at_9) rfl (l' := #[.val (.int p0), .val (.int p1), .val (.int p2), .val (.int (p2 &&& (3 : Int32))), .val (.int (((p2.toUInt32 >>> ((2 : Int32) &&& 31).toUInt32).toInt32) &&& (3 : Int32))), .unset, .unset, .unset]) rfl (XS.iloadN X0.here hx rfl (hb hby at_11) rfl (XS.iloadN X0.here hx rfl (hb hby at_12) rfl k)))))) ?_
  show G (s₁.setTop (mkF m 13 #[.val (.int p0), .val (.int p1), .val (.int p2), .val (.int (p2 &&& (3 : Int32))), .val (.int (((p2.toUInt32 >>> ((2 : Int32) &&& 31).toUInt32).toInt32) &&& (3 : Int32))), .unset, .unset, .unset] [(.int p0), (.int (p2 &&& (3 : Int32)))]))
  obtain ⟨rv101, T101, L101, X101, q101, hZ101, hown101, hS101, C101, st101⟩ := own_stW X0 hx hZ (y := (⟨"com/example/kindred/kindred/IdentifierToStringPinLaw", "str", "(II)Ljava/lang/String;"⟩ : MethodName)) hown (ow hw 0 rfl) (ow hw 1 rfl) (ow hw 2 rfl) (ow hw 3 rfl) (by decide) (own_bkH (W := 0) (rm0 l Z a0 hw z0 O2 P5 fm0 O4 R4 [] (p2 &&& (3 : Int32)) p0 h0 n0 Z0 Xo) hZ (ow hw 3 rfl) (ow hw 2 rfl) (by decide) (by decide) (own_hEL hw) C0.1) e0 hS (Nat.le_refl _) (g := (mkF m 13 #[.val (.int p0), .val (.int p1), .val (.int p2), .val (.int (p2 &&& (3 : Int32))), .val (.int (((p2.toUInt32 >>> ((2 : Int32) &&& 31).toUInt32).toInt32) &&& (3 : Int32))), .unset, .unset, .unset] [(.int p0), (.int (p2 &&& (3 : Int32)))])) rfl (by rw [hml]; rfl) (argsL := [(.int (p2 &&& (3 : Int32))), (.int p0)]) (rest := []) rfl (lenOf own_pd20 rfl) rfl (by show 2 * 0 + _ ≤ _; exact Nat.le_of_eq rfl) (hb hby at_13) (by decide) (by decide)
  obtain ⟨Nq101, Kp101, ⟨b_102, rfl, f103, f104⟩⟩ := q101
  have N101 := Fr.app N0 Nq101
  refine go _ _ (st101) ?_
  show G (T101.setTop (mkF m 16 #[.val (.int p0), .val (.int p1), .val (.int p2), .val (.int (p2 &&& (3 : Int32))), .val (.int (((p2.toUInt32 >>> ((2 : Int32) &&& 31).toUInt32).toInt32) &&& (3 : Int32))), .unset, .unset, .unset] [(.ref b_102)]))
  refine go _ _ (fun _ k => XS.astore X101.here hx rfl (hb hby at_16) rfl rfl (l' := #[.val (.int p0), .val (.int p1), .val (.int p2), .val (.int (p2 &&& (3 : Int32))), .val (.int (((p2.toUInt32 >>> ((2 : Int32) &&& 31).toUInt32).toInt32) &&& (3 : Int32))), .val (.ref b_102), .unset, .unset]) rfl (XS.iload X101.here hx rfl (hb hby at_18) rfl (XS.iloadN X101.here hx rfl (hb hby at_20) rfl k))) ?_
  show G (T101.setTop (mkF m 21 #[.val (.int p0), .val (.int p1), .val (.int p2), .val (.int (p2 &&& (3 : Int32))), .val (.int (((p2.toUInt32 >>> ((2 : Int32) &&& 31).toUInt32).toInt32) &&& (3 : Int32))), .val (.ref b_102), .unset, .unset] [(.int p1), (.int (((p2.toUInt32 >>> ((2 : Int32) &&& 31).toUInt32).toInt32) &&& (3 : Int32)))]))
  have K106 : Keep h0 T101.heap [] := (Keep.refl h0 []).trans Kp101 all0
  have F107 : Old Z n0 T101.heap := (Xo.keep K106 all0)
  have Z108 : h0.size ≤ T101.heap.size := Kp101.1
  have C109 : CHr Z own_EL s.vm h0 T101.vm T101.heap := C0.trans C101
  obtain ⟨rv105, T105, L105, X105, q105, hZ105, hown105, hS105, C105, st105⟩ := own_stW X101 hx hZ101 (y := (⟨"com/example/kindred/kindred/IdentifierToStringPinLaw", "str", "(II)Ljava/lang/String;"⟩ : MethodName)) hown101 (ow hw 0 rfl) (ow hw 1 rfl) (ow hw 2 rfl) (ow hw 3 rfl) (by decide) (own_bkH (W := 0) (rm0 l Z a0 hw z0 O2 P5 fm0 O4 R4 [] (((p2.toUInt32 >>> ((2 : Int32) &&& 31).toUInt32).toInt32) &&& (3 : Int32)) p1 T101.heap n0 (Nat.le_trans Z0 Z108) F107) hZ101 (ow hw 3 rfl) (ow hw 2 rfl) (by decide) (by decide) (own_hEL hw) C109.1) rfl hS101 (Nat.le_refl _) (g := (mkF m 21 #[.val (.int p0), .val (.int p1), .val (.int p2), .val (.int (p2 &&& (3 : Int32))), .val (.int (((p2.toUInt32 >>> ((2 : Int32) &&& 31).toUInt32).toInt32) &&& (3 : Int32))), .val (.ref b_102), .unset, .unset] [(.int p1), (.int (((p2.toUInt32 >>> ((2 : Int32) &&& 31).toUInt32).toInt32) &&& (3 : Int32)))])) rfl (by rw [hml]; rfl) (argsL := [(.int (((p2.toUInt32 >>> ((2 : Int32) &&& 31).toUInt32).toInt32) &&& (3 : Int32))), (.int p1)]) (rest := []) rfl (lenOf own_pd20 rfl) rfl (by show 2 * 0 + _ ≤ _; exact Nat.le_of_eq rfl) (hb hby at_21) (by decide) (by decide)
  obtain ⟨Nq105, Kp105, ⟨b_110, rfl, f111, f112⟩⟩ := q105
  have N105 := Fr.app N101 Nq105
  refine go _ _ (st105) ?_
  show G (T105.setTop (mkF m 24 #[.val (.int p0), .val (.int p1), .val (.int p2), .val (.int (p2 &&& (3 : Int32))), .val (.int (((p2.toUInt32 >>> ((2 : Int32) &&& 31).toUInt32).toInt32) &&& (3 : Int32))), .val (.ref b_102), .unset, .unset] [(.ref b_110)]))
  refine go _ _ (fun _ k => XS.astore X105.here hx rfl (hb hby at_24) rfl rfl (l' := #[.val (.int p0), .val (.int p1), .val (.int p2), .val (.int (p2 &&& (3 : Int32))), .val (.int (((p2.toUInt32 >>> ((2 : Int32) &&& 31).toUInt32).toInt32) &&& (3 : Int32))), .val (.ref b_102), .val (.ref b_110), .unset]) rfl k) ?_
  show G (T105.setTop (mkF m 26 #[.val (.int p0), .val (.int p1), .val (.int p2), .val (.int (p2 &&& (3 : Int32))), .val (.int (((p2.toUInt32 >>> ((2 : Int32) &&& 31).toUInt32).toInt32) &&& (3 : Int32))), .val (.ref b_102), .val (.ref b_110), .unset] []))
  obtain ⟨T113, h113, X113, e113, E113, A113, D113, -, st113⟩ := newO X105 hx hZ105 hown105 (ow hw 40 rfl) (ow hw 41 rfl) (ow hw 42 rfl) rfl (g := (mkF m 26 #[.val (.int p0), .val (.int p1), .val (.int p2), .val (.int (p2 &&& (3 : Int32))), .val (.int (((p2.toUInt32 >>> ((2 : Int32) &&& 31).toUInt32).toInt32) &&& (3 : Int32))), .val (.ref b_102), .val (.ref b_110), .unset] [])) rfl (hb hby at_26) (by decide) (by decide)
  obtain ⟨b113, g113⟩ : ∃ z, z = T105.heap.size := ⟨_, rfl⟩
  rw [← g113] at A113 D113 st113
  refine go _ _ (st113) ?_
  show G (T113.setTop (mkF m 29 #[.val (.int p0), .val (.int p1), .val (.int p2), .val (.int (p2 &&& (3 : Int32))), .val (.int (((p2.toUInt32 >>> ((2 : Int32) &&& 31).toUInt32).toInt32) &&& (3 : Int32))), .val (.ref b_102), .val (.ref b_110), .unset] [(.ref b113)]))
  refine go _ _ (fun _ k => XS.dup X113.here hx rfl (hb hby at_29) rfl rfl (XS.aload X113.here hx rfl (hb hby at_30) rfl rfl (XS.aload X113.here hx rfl (hb hby at_32) rfl rfl k))) ?_
  show G (T113.setTop (mkF m 34 #[.val (.int p0), .val (.int p1), .val (.int p2), .val (.int (p2 &&& (3 : Int32))), .val (.int (((p2.toUInt32 >>> ((2 : Int32) &&& 31).toUInt32).toInt32) &&& (3 : Int32))), .val (.ref b_102), .val (.ref b_110), .unset] [(.ref b_110), (.ref b_102), (.ref b113), (.ref b113)]))
  have Z115 : h0.size ≤ T105.heap.size := Nat.le_trans Z108 Kp105.1
  have Z116 : h0.size ≤ h113.size := Nat.le_trans Z115 E113.1
  obtain ⟨rv114, T114, L114, X114, q114, st114⟩ := own_sp X113 hx hZ105 (y := (⟨"com/example/kindred/kindred/Identifier", "<init>", "(Ljava/lang/String;Ljava/lang/String;)V"⟩ : MethodName)) rfl hown105 (ow hw 43 rfl) (ow hw 44 rfl) (ow hw 45 rfl) (by decide) (own_bkN (W := 1) (rm8 l Z a0 hw z0 O2 P5 fm0 O4 R4 [] b113 b_102 b_110 h113 n0 (Nat.le_trans Z0 Z116) A113 (D113 (Or.inr (ow hw 53 rfl)) (ty := (.object "java/lang/String")) (by decide)) (D113 (Or.inr (ow hw 55 rfl)) (ty := (.object "java/lang/String")) (by decide)) (Nat.le_trans (Nat.le_trans Z0 Z115) (Nat.le_of_eq g113.symm))) hZ105 (ow hw 45 rfl) (ow hw 42 rfl) (by decide) (by decide)) e113 (g := (mkF m 34 #[.val (.int p0), .val (.int p1), .val (.int p2), .val (.int (p2 &&& (3 : Int32))), .val (.int (((p2.toUInt32 >>> ((2 : Int32) &&& 31).toUInt32).toInt32) &&& (3 : Int32))), .val (.ref b_102), .val (.ref b_110), .unset] [(.ref b_110), (.ref b_102), (.ref b113), (.ref b113)])) rfl (by rw [hml]; rfl) (a := b113) (argsL := [(.ref b_102), (.ref b_110)]) (rest := [(.ref b113)]) rfl (lenOf own_pd21 rfl) rfl (by show 2 * 0 + _ ≤ _; exact Nat.le_of_eq rfl) (hb hby at_34) (by decide) (by decide)
  obtain ⟨Nq114, Kp114, ⟨rfl, f117, f118, f119⟩⟩ := q114
  have N114 := Fr.app N105 Nq114
  refine go _ _ (st114) ?_
  show G (T114.setTop (mkF m 37 #[.val (.int p0), .val (.int p1), .val (.int p2), .val (.int (p2 &&& (3 : Int32))), .val (.int (((p2.toUInt32 >>> ((2 : Int32) &&& 31).toUInt32).toInt32) &&& (3 : Int32))), .val (.ref b_102), .val (.ref b_110), .unset] [(.ref b113)]))
  have Z121 : T101.heap.size ≤ T105.heap.size := Kp105.1
  have K122 : Keep T101.heap T105.heap [] := (Keep.refl T101.heap []).trans Kp105 all0
  have K123 : Keep T101.heap h113 [] := K122.ext E113
  have K124 : Keep T101.heap T114.heap [] := K123.trans Kp114 (allS (Or.inr (Nat.le_trans Z121 (Nat.le_of_eq g113.symm))) all0)
  have F125 : Old Z n0 T114.heap := (F107.keep K124 all0)
  have F126 : Exa Z T114.heap b_102 "java/lang/String" := (f103.keep K124)
  have K127 : Keep T105.heap h113 [] := (Keep.refl T105.heap []).ext E113
  have K128 : Keep T105.heap T114.heap [] := K127.trans Kp114 (allS (Or.inr (Nat.le_of_eq g113.symm)) all0)
  have F129 : Exa Z T114.heap b_110 "java/lang/String" := (f111.keep K128)
  have F130 : own_Str Z T114.heap b_102 (own_sx (p2 &&& (3 : Int32)) p0) := (own_Str_keep f104 K124)
  have F131 : own_Str Z T114.heap b_110 (own_sx (((p2.toUInt32 >>> ((2 : Int32) &&& 31).toUInt32).toInt32) &&& (3 : Int32)) p1) := (own_Str_keep f112 K128)
  have Z132 : h0.size ≤ T114.heap.size := Nat.le_trans Z116 Kp114.1
  have C133 : CHr Z own_EL s.vm h0 T105.vm T105.heap := C109.trans C105
  have C134 : CHr Z own_EL s.vm h0 T105.vm T114.heap := C133.trans (CHr.keep K128 sf0 C133.1)
  have Z135 : T105.heap.size ≤ h113.size := E113.1
  have Z136 : T105.heap.size ≤ T114.heap.size := Nat.le_trans Z135 Kp114.1
  obtain ⟨rv120, T120, L120, X120, q120, hZ120, hown120, hS120, C120, st120⟩ := own_viW X114 hx hZ105 (y := (⟨"com/example/kindred/kindred/Identifier", "toString", "()Ljava/lang/String;"⟩ : MethodName)) (z := (⟨"com/example/kindred/kindred/Identifier", "toString", "()Ljava/lang/String;"⟩ : MethodName)) hown105 (ow hw 56 rfl) (ow hw 57 rfl) (ow hw 59 rfl) (ow hw 58 rfl) (Or.inl rfl) (by decide) (own_bkH (W := 0) (rm10 l Z a0 hw z0 O2 P5 fm0 O4 R4 [] b113 b_102 b_110 (own_sx (p2 &&& (3 : Int32)) p0) (own_sx (((p2.toUInt32 >>> ((2 : Int32) &&& 31).toUInt32).toInt32) &&& (3 : Int32)) p1) T114.heap n0 (Nat.le_trans Z0 Z132) F125 f118 f119 F126 F129 F130 F131 (own_sx_len _ _) (own_sx_len _ _)) hZ105 (ow hw 60 rfl) (ow hw 42 rfl) (by decide) (by decide) (own_hEL hw) C134.1) rfl hS105 (Nat.le_trans (Nat.le_refl _) Z136) f117 (g := (mkF m 37 #[.val (.int p0), .val (.int p1), .val (.int p2), .val (.int (p2 &&& (3 : Int32))), .val (.int (((p2.toUInt32 >>> ((2 : Int32) &&& 31).toUInt32).toInt32) &&& (3 : Int32))), .val (.ref b_102), .val (.ref b_110), .unset] [(.ref b113)])) rfl (by rw [hml]; rfl) (argsL := []) (rest := []) rfl (lenOf own_pd18 rfl) rfl (by show 2 * 0 + _ ≤ _; exact Nat.le_of_eq rfl) (hb hby at_37) (by decide) (by decide)
  obtain ⟨Nq120, Kp120, ⟨b_137, rfl, f138, f139⟩⟩ := q120
  have N120 := Fr.app N114 Nq120
  refine go _ _ (st120) ?_
  show G (T120.setTop (mkF m 40 #[.val (.int p0), .val (.int p1), .val (.int p2), .val (.int (p2 &&& (3 : Int32))), .val (.int (((p2.toUInt32 >>> ((2 : Int32) &&& 31).toUInt32).toInt32) &&& (3 : Int32))), .val (.ref b_102), .val (.ref b_110), .unset] [(.ref b_137)]))
  have Sres : own_Str Z T120.heap b_137 (own_res (p2 &&& (3 : Int32)) (((p2.toUInt32 >>> ((2 : Int32) &&& 31).toUInt32).toInt32) &&& (3 : Int32)) p0 p1) := f139
  refine go _ _ (fun _ k => XS.astore X120.here hx rfl (hb hby at_40) rfl rfl (l' := #[.val (.int p0), .val (.int p1), .val (.int p2), .val (.int (p2 &&& (3 : Int32))), .val (.int (((p2.toUInt32 >>> ((2 : Int32) &&& 31).toUInt32).toInt32) &&& (3 : Int32))), .val (.ref b_102), .val (.ref b_110), .val (.ref b_137)]) rfl (XS.aload X120.here hx rfl (hb hby at_42) rfl rfl k)) ?_
  show G (T120.setTop (mkF m 44 #[.val (.int p0), .val (.int p1), .val (.int p2), .val (.int (p2 &&& (3 : Int32))), .val (.int (((p2.toUInt32 >>> ((2 : Int32) &&& 31).toUInt32).toInt32) &&& (3 : Int32))), .val (.ref b_102), .val (.ref b_110), .val (.ref b_137)] [(.ref b_137)]))
  obtain ⟨tx140, kbx140, Esx140, Vsx140, Csx140, Asx140, cdx140, bdx140, lnx140⟩ := own_Str_W Sres
  have K141 : Keep T114.heap T120.heap [] := (Keep.refl T114.heap []).trans Kp120 all0
  have F142 : Old Z n0 T120.heap := (F125.keep K141 all0)
  obtain ⟨rv140, T140, L140, X140, q140, st140⟩ := own_vi X120 hx hZ120 (Q := fun v h L => v = some (.int (Int32.ofNat ((own_res (p2 &&& (3 : Int32)) (((p2.toUInt32 >>> ((2 : Int32) &&& 31).toUInt32).toInt32) &&& (3 : Int32)) p0 p1)).length)) ∧ L = [] ∧ h = T120.heap) (kc := 0) (ks := 0) (y := (⟨"java/lang/String", "length", "()I"⟩ : MethodName)) (z := (⟨"java/lang/String", "length", "()I"⟩ : MethodName)) hown120 (ow hw 172 rfl) (ow hw 90 rfl) (ow hw 92 rfl) (ow hw 91 rfl) (Or.inl rfl) (by decide) (StrChars.Road.lenW (s := s.setVm T120.vm) (W := 0) hZ120 (own_hln hw) (kI := 4) (ow hw 5 rfl) Esx140 Vsx140 Csx140 Asx140 cdx140 bdx140 (O2.ext F142.2) P5 lnx140 (by decide) (by decide)) rfl f138 (g := (mkF m 44 #[.val (.int p0), .val (.int p1), .val (.int p2), .val (.int (p2 &&& (3 : Int32))), .val (.int (((p2.toUInt32 >>> ((2 : Int32) &&& 31).toUInt32).toInt32) &&& (3 : Int32))), .val (.ref b_102), .val (.ref b_110), .val (.ref b_137)] [(.ref b_137)])) rfl (by rw [hml]; rfl) (argsL := []) (rest := []) rfl (lenOf own_pd1 rfl) rfl (by show 2 * 0 + _ ≤ _; exact Nat.le_of_eq rfl) (hb hby at_44) (by decide) (by decide)
  obtain ⟨rfl, rfl, e140⟩ := q140
  have N140 := Fr.app N120 (Fr.nil n0)
  refine go _ _ (st140) ?_
  show G (T140.setTop (mkF m 47 #[.val (.int p0), .val (.int p1), .val (.int p2), .val (.int (p2 &&& (3 : Int32))), .val (.int (((p2.toUInt32 >>> ((2 : Int32) &&& 31).toUInt32).toInt32) &&& (3 : Int32))), .val (.ref b_102), .val (.ref b_110), .val (.ref b_137)] [(.int (own_n (own_res (p2 &&& (3 : Int32)) (((p2.toUInt32 >>> ((2 : Int32) &&& 31).toUInt32).toInt32) &&& (3 : Int32)) p0 p1)))]))
  refine go _ _ (fun _ k => XS.iloadN X140.here hx rfl (hb hby at_47) rfl (XS.iconst X140.here hx rfl (hb hby at_48) (XS.iadd X140.here hx rfl (hb hby at_49) rfl (XS.iload X140.here hx rfl (hb hby at_50) rfl (XS.iadd X140.here hx rfl (hb hby at_52) rfl k))))) ?_
  show G (T140.setTop (mkF m 53 #[.val (.int p0), .val (.int p1), .val (.int p2), .val (.int (p2 &&& (3 : Int32))), .val (.int (((p2.toUInt32 >>> ((2 : Int32) &&& 31).toUInt32).toInt32) &&& (3 : Int32))), .val (.ref b_102), .val (.ref b_110), .val (.ref b_137)] [(.int (((p2 &&& (3 : Int32)) + (1 : Int32)) + (((p2.toUInt32 >>> ((2 : Int32) &&& 31).toUInt32).toInt32) &&& (3 : Int32)))), (.int (own_n (own_res (p2 &&& (3 : Int32)) (((p2.toUInt32 >>> ((2 : Int32) &&& 31).toUInt32).toInt32) &&& (3 : Int32)) p0 p1)))]))
  have hlen : (own_n (own_res (p2 &&& (3 : Int32)) (((p2.toUInt32 >>> ((2 : Int32) &&& 31).toUInt32).toInt32) &&& (3 : Int32)) p0 p1)) = (((p2 &&& (3 : Int32)) + (1 : Int32)) + (((p2.toUInt32 >>> ((2 : Int32) &&& 31).toUInt32).toInt32) &&& (3 : Int32))) := own_reslen (own_and3 _) (own_and3 _)
  refine go _ _ (fun _ k => XS.icmpYes X140.here hx rfl (pc0 := 53) (pc' := 58) rfl (hb hby at_53) rfl (teq hlen).1 (by decide) (by decide) k) ?_
  show G (T140.setTop (mkF m 58 #[.val (.int p0), .val (.int p1), .val (.int p2), .val (.int (p2 &&& (3 : Int32))), .val (.int (((p2.toUInt32 >>> ((2 : Int32) &&& 31).toUInt32).toInt32) &&& (3 : Int32))), .val (.ref b_102), .val (.ref b_110), .val (.ref b_137)] []))
  refine go _ _ (fun _ k => XS.aload X140.here hx rfl (hb hby at_58) rfl rfl (XS.iloadN X140.here hx rfl (hb hby at_60) rfl (XS.iloadN X140.here hx rfl (hb hby at_61) rfl (XS.iloadN X140.here hx rfl (hb hby at_62) rfl (XS.iconst X140.here hx rfl (hb hby at_63) k))))) ?_
  show G (T140.setTop (mkF m 64 #[.val (.int p0), .val (.int p1), .val (.int p2), .val (.int (p2 &&& (3 : Int32))), .val (.int (((p2.toUInt32 >>> ((2 : Int32) &&& 31).toUInt32).toInt32) &&& (3 : Int32))), .val (.ref b_102), .val (.ref b_110), .val (.ref b_137)] [(.int (0 : Int32)), (.int (p2 &&& (3 : Int32))), (.int p1), (.int p0), (.ref b_137)]))
  have Z144 : h0.size ≤ T120.heap.size := Nat.le_trans Z132 Kp120.1
  obtain ⟨rv143, T143, L143, X143, q143, st143⟩ := own_st X140 hx hZ120 (y := (⟨"com/example/kindred/kindred/IdentifierToStringPinLaw", "at", "(Ljava/lang/String;IIII)Z"⟩ : MethodName)) hown120 (ow hw 173 rfl) (ow hw 174 rfl) (ow hw 2 rfl) (ow hw 175 rfl) (by decide) (own_bkN (W := 0) (rm32 l Z a0 hw z0 O2 P5 fm0 O4 R4 [] b_137 p0 p1 (p2 &&& (3 : Int32)) (0 : Int32) (((p2.toUInt32 >>> ((2 : Int32) &&& 31).toUInt32).toInt32) &&& (3 : Int32)) 0 T120.heap n0 (Nat.le_trans Z0 Z144) F142 f138 Sres (own_and3 _) (own_and3 _) rfl (by decide)) hZ120 (ow hw 175 rfl) (ow hw 2 rfl) (by decide) (by decide)) e140 (g := (mkF m 64 #[.val (.int p0), .val (.int p1), .val (.int p2), .val (.int (p2 &&& (3 : Int32))), .val (.int (((p2.toUInt32 >>> ((2 : Int32) &&& 31).toUInt32).toInt32) &&& (3 : Int32))), .val (.ref b_102), .val (.ref b_110), .val (.ref b_137)] [(.int (0 : Int32)), (.int (p2 &&& (3 : Int32))), (.int p1), (.int p0), (.ref b_137)])) rfl (by rw [hml]; rfl) (argsL := [(.ref b_137), (.int p0), (.int p1), (.int (p2 &&& (3 : Int32))), (.int (0 : Int32))]) (rest := []) rfl (lenOf own_pd22 rfl) rfl (by show 2 * 0 + _ ≤ _; exact Nat.le_of_eq rfl) (hb hby at_64) (by decide) (by decide)
  obtain ⟨Nq143, e143, rfl⟩ := q143
  have N143 := Fr.app N140 Nq143
  refine go _ _ (st143) ?_
  show G (T143.setTop (mkF m 67 #[.val (.int p0), .val (.int p1), .val (.int p2), .val (.int (p2 &&& (3 : Int32))), .val (.int (((p2.toUInt32 >>> ((2 : Int32) &&& 31).toUInt32).toInt32) &&& (3 : Int32))), .val (.ref b_102), .val (.ref b_110), .val (.ref b_137)] [(.int (1 : Int32))]))
  refine go _ _ (fun _ k => XS.ifNo X143.here hx rfl (hb hby at_67) rfl (by decide) k) ?_
  show G (T143.setTop (mkF m 70 #[.val (.int p0), .val (.int p1), .val (.int p2), .val (.int (p2 &&& (3 : Int32))), .val (.int (((p2.toUInt32 >>> ((2 : Int32) &&& 31).toUInt32).toInt32) &&& (3 : Int32))), .val (.ref b_102), .val (.ref b_110), .val (.ref b_137)] []))
  refine go _ _ (fun _ k => XS.aload X143.here hx rfl (hb hby at_70) rfl rfl (XS.iloadN X143.here hx rfl (hb hby at_72) rfl (XS.iloadN X143.here hx rfl (hb hby at_73) rfl (XS.iloadN X143.here hx rfl (hb hby at_74) rfl (XS.iconst X143.here hx rfl (hb hby at_75) k))))) ?_
  show G (T143.setTop (mkF m 76 #[.val (.int p0), .val (.int p1), .val (.int p2), .val (.int (p2 &&& (3 : Int32))), .val (.int (((p2.toUInt32 >>> ((2 : Int32) &&& 31).toUInt32).toInt32) &&& (3 : Int32))), .val (.ref b_102), .val (.ref b_110), .val (.ref b_137)] [(.int (1 : Int32)), (.int (p2 &&& (3 : Int32))), (.int p1), (.int p0), (.ref b_137)]))
  obtain ⟨rv145, T145, L145, X145, q145, st145⟩ := own_st X143 hx hZ120 (y := (⟨"com/example/kindred/kindred/IdentifierToStringPinLaw", "at", "(Ljava/lang/String;IIII)Z"⟩ : MethodName)) hown120 (ow hw 173 rfl) (ow hw 174 rfl) (ow hw 2 rfl) (ow hw 175 rfl) (by decide) (own_bkN (W := 0) (rm32 l Z a0 hw z0 O2 P5 fm0 O4 R4 [] b_137 p0 p1 (p2 &&& (3 : Int32)) (1 : Int32) (((p2.toUInt32 >>> ((2 : Int32) &&& 31).toUInt32).toInt32) &&& (3 : Int32)) 1 T120.heap n0 (Nat.le_trans Z0 Z144) F142 f138 Sres (own_and3 _) (own_and3 _) rfl (by decide)) hZ120 (ow hw 175 rfl) (ow hw 2 rfl) (by decide) (by decide)) e143 (g := (mkF m 76 #[.val (.int p0), .val (.int p1), .val (.int p2), .val (.int (p2 &&& (3 : Int32))), .val (.int (((p2.toUInt32 >>> ((2 : Int32) &&& 31).toUInt32).toInt32) &&& (3 : Int32))), .val (.ref b_102), .val (.ref b_110), .val (.ref b_137)] [(.int (1 : Int32)), (.int (p2 &&& (3 : Int32))), (.int p1), (.int p0), (.ref b_137)])) rfl (by rw [hml]; rfl) (argsL := [(.ref b_137), (.int p0), (.int p1), (.int (p2 &&& (3 : Int32))), (.int (1 : Int32))]) (rest := []) rfl (lenOf own_pd22 rfl) rfl (by show 2 * 0 + _ ≤ _; exact Nat.le_of_eq rfl) (hb hby at_76) (by decide) (by decide)
  obtain ⟨Nq145, e145, rfl⟩ := q145
  have N145 := Fr.app N143 Nq145
  refine go _ _ (st145) ?_
  show G (T145.setTop (mkF m 79 #[.val (.int p0), .val (.int p1), .val (.int p2), .val (.int (p2 &&& (3 : Int32))), .val (.int (((p2.toUInt32 >>> ((2 : Int32) &&& 31).toUInt32).toInt32) &&& (3 : Int32))), .val (.ref b_102), .val (.ref b_110), .val (.ref b_137)] [(.int (1 : Int32))]))
  refine go _ _ (fun _ k => XS.ifNo X145.here hx rfl (hb hby at_79) rfl (by decide) k) ?_
  show G (T145.setTop (mkF m 82 #[.val (.int p0), .val (.int p1), .val (.int p2), .val (.int (p2 &&& (3 : Int32))), .val (.int (((p2.toUInt32 >>> ((2 : Int32) &&& 31).toUInt32).toInt32) &&& (3 : Int32))), .val (.ref b_102), .val (.ref b_110), .val (.ref b_137)] []))
  refine go _ _ (fun _ k => XS.aload X145.here hx rfl (hb hby at_82) rfl rfl (XS.iloadN X145.here hx rfl (hb hby at_84) rfl (XS.iloadN X145.here hx rfl (hb hby at_85) rfl (XS.iloadN X145.here hx rfl (hb hby at_86) rfl (XS.iconst X145.here hx rfl (hb hby at_87) k))))) ?_
  show G (T145.setTop (mkF m 88 #[.val (.int p0), .val (.int p1), .val (.int p2), .val (.int (p2 &&& (3 : Int32))), .val (.int (((p2.toUInt32 >>> ((2 : Int32) &&& 31).toUInt32).toInt32) &&& (3 : Int32))), .val (.ref b_102), .val (.ref b_110), .val (.ref b_137)] [(.int (2 : Int32)), (.int (p2 &&& (3 : Int32))), (.int p1), (.int p0), (.ref b_137)]))
  obtain ⟨rv146, T146, L146, X146, q146, st146⟩ := own_st X145 hx hZ120 (y := (⟨"com/example/kindred/kindred/IdentifierToStringPinLaw", "at", "(Ljava/lang/String;IIII)Z"⟩ : MethodName)) hown120 (ow hw 173 rfl) (ow hw 174 rfl) (ow hw 2 rfl) (ow hw 175 rfl) (by decide) (own_bkN (W := 0) (rm32 l Z a0 hw z0 O2 P5 fm0 O4 R4 [] b_137 p0 p1 (p2 &&& (3 : Int32)) (2 : Int32) (((p2.toUInt32 >>> ((2 : Int32) &&& 31).toUInt32).toInt32) &&& (3 : Int32)) 2 T120.heap n0 (Nat.le_trans Z0 Z144) F142 f138 Sres (own_and3 _) (own_and3 _) rfl (by decide)) hZ120 (ow hw 175 rfl) (ow hw 2 rfl) (by decide) (by decide)) e145 (g := (mkF m 88 #[.val (.int p0), .val (.int p1), .val (.int p2), .val (.int (p2 &&& (3 : Int32))), .val (.int (((p2.toUInt32 >>> ((2 : Int32) &&& 31).toUInt32).toInt32) &&& (3 : Int32))), .val (.ref b_102), .val (.ref b_110), .val (.ref b_137)] [(.int (2 : Int32)), (.int (p2 &&& (3 : Int32))), (.int p1), (.int p0), (.ref b_137)])) rfl (by rw [hml]; rfl) (argsL := [(.ref b_137), (.int p0), (.int p1), (.int (p2 &&& (3 : Int32))), (.int (2 : Int32))]) (rest := []) rfl (lenOf own_pd22 rfl) rfl (by show 2 * 0 + _ ≤ _; exact Nat.le_of_eq rfl) (hb hby at_88) (by decide) (by decide)
  obtain ⟨Nq146, e146, rfl⟩ := q146
  have N146 := Fr.app N145 Nq146
  refine go _ _ (st146) ?_
  show G (T146.setTop (mkF m 91 #[.val (.int p0), .val (.int p1), .val (.int p2), .val (.int (p2 &&& (3 : Int32))), .val (.int (((p2.toUInt32 >>> ((2 : Int32) &&& 31).toUInt32).toInt32) &&& (3 : Int32))), .val (.ref b_102), .val (.ref b_110), .val (.ref b_137)] [(.int (1 : Int32))]))
  refine go _ _ (fun _ k => XS.ifNo X146.here hx rfl (hb hby at_91) rfl (by decide) k) ?_
  show G (T146.setTop (mkF m 94 #[.val (.int p0), .val (.int p1), .val (.int p2), .val (.int (p2 &&& (3 : Int32))), .val (.int (((p2.toUInt32 >>> ((2 : Int32) &&& 31).toUInt32).toInt32) &&& (3 : Int32))), .val (.ref b_102), .val (.ref b_110), .val (.ref b_137)] []))
  refine go _ _ (fun _ k => XS.aload X146.here hx rfl (hb hby at_94) rfl rfl (XS.iloadN X146.here hx rfl (hb hby at_96) rfl (XS.iloadN X146.here hx rfl (hb hby at_97) rfl (XS.iloadN X146.here hx rfl (hb hby at_98) rfl (XS.iconst X146.here hx rfl (hb hby at_99) k))))) ?_
  show G (T146.setTop (mkF m 100 #[.val (.int p0), .val (.int p1), .val (.int p2), .val (.int (p2 &&& (3 : Int32))), .val (.int (((p2.toUInt32 >>> ((2 : Int32) &&& 31).toUInt32).toInt32) &&& (3 : Int32))), .val (.ref b_102), .val (.ref b_110), .val (.ref b_137)] [(.int (3 : Int32)), (.int (p2 &&& (3 : Int32))), (.int p1), (.int p0), (.ref b_137)]))
  obtain ⟨rv147, T147, L147, X147, q147, st147⟩ := own_st X146 hx hZ120 (y := (⟨"com/example/kindred/kindred/IdentifierToStringPinLaw", "at", "(Ljava/lang/String;IIII)Z"⟩ : MethodName)) hown120 (ow hw 173 rfl) (ow hw 174 rfl) (ow hw 2 rfl) (ow hw 175 rfl) (by decide) (own_bkN (W := 0) (rm32 l Z a0 hw z0 O2 P5 fm0 O4 R4 [] b_137 p0 p1 (p2 &&& (3 : Int32)) (3 : Int32) (((p2.toUInt32 >>> ((2 : Int32) &&& 31).toUInt32).toInt32) &&& (3 : Int32)) 3 T120.heap n0 (Nat.le_trans Z0 Z144) F142 f138 Sres (own_and3 _) (own_and3 _) rfl (by decide)) hZ120 (ow hw 175 rfl) (ow hw 2 rfl) (by decide) (by decide)) e146 (g := (mkF m 100 #[.val (.int p0), .val (.int p1), .val (.int p2), .val (.int (p2 &&& (3 : Int32))), .val (.int (((p2.toUInt32 >>> ((2 : Int32) &&& 31).toUInt32).toInt32) &&& (3 : Int32))), .val (.ref b_102), .val (.ref b_110), .val (.ref b_137)] [(.int (3 : Int32)), (.int (p2 &&& (3 : Int32))), (.int p1), (.int p0), (.ref b_137)])) rfl (by rw [hml]; rfl) (argsL := [(.ref b_137), (.int p0), (.int p1), (.int (p2 &&& (3 : Int32))), (.int (3 : Int32))]) (rest := []) rfl (lenOf own_pd22 rfl) rfl (by show 2 * 0 + _ ≤ _; exact Nat.le_of_eq rfl) (hb hby at_100) (by decide) (by decide)
  obtain ⟨Nq147, e147, rfl⟩ := q147
  have N147 := Fr.app N146 Nq147
  refine go _ _ (st147) ?_
  show G (T147.setTop (mkF m 103 #[.val (.int p0), .val (.int p1), .val (.int p2), .val (.int (p2 &&& (3 : Int32))), .val (.int (((p2.toUInt32 >>> ((2 : Int32) &&& 31).toUInt32).toInt32) &&& (3 : Int32))), .val (.ref b_102), .val (.ref b_110), .val (.ref b_137)] [(.int (1 : Int32))]))
  refine go _ _ (fun _ k => XS.ifNo X147.here hx rfl (hb hby at_103) rfl (by decide) k) ?_
  show G (T147.setTop (mkF m 106 #[.val (.int p0), .val (.int p1), .val (.int p2), .val (.int (p2 &&& (3 : Int32))), .val (.int (((p2.toUInt32 >>> ((2 : Int32) &&& 31).toUInt32).toInt32) &&& (3 : Int32))), .val (.ref b_102), .val (.ref b_110), .val (.ref b_137)] []))
  refine go _ _ (fun _ k => XS.aload X147.here hx rfl (hb hby at_106) rfl rfl (XS.iloadN X147.here hx rfl (hb hby at_108) rfl (XS.iloadN X147.here hx rfl (hb hby at_109) rfl (XS.iloadN X147.here hx rfl (hb hby at_110) rfl (XS.iconst X147.here hx rfl (hb hby at_111) k))))) ?_
  show G (T147.setTop (mkF m 112 #[.val (.int p0), .val (.int p1), .val (.int p2), .val (.int (p2 &&& (3 : Int32))), .val (.int (((p2.toUInt32 >>> ((2 : Int32) &&& 31).toUInt32).toInt32) &&& (3 : Int32))), .val (.ref b_102), .val (.ref b_110), .val (.ref b_137)] [(.int (4 : Int32)), (.int (p2 &&& (3 : Int32))), (.int p1), (.int p0), (.ref b_137)]))
  obtain ⟨rv148, T148, L148, X148, q148, st148⟩ := own_st X147 hx hZ120 (y := (⟨"com/example/kindred/kindred/IdentifierToStringPinLaw", "at", "(Ljava/lang/String;IIII)Z"⟩ : MethodName)) hown120 (ow hw 173 rfl) (ow hw 174 rfl) (ow hw 2 rfl) (ow hw 175 rfl) (by decide) (own_bkN (W := 0) (rm32 l Z a0 hw z0 O2 P5 fm0 O4 R4 [] b_137 p0 p1 (p2 &&& (3 : Int32)) (4 : Int32) (((p2.toUInt32 >>> ((2 : Int32) &&& 31).toUInt32).toInt32) &&& (3 : Int32)) 4 T120.heap n0 (Nat.le_trans Z0 Z144) F142 f138 Sres (own_and3 _) (own_and3 _) rfl (by decide)) hZ120 (ow hw 175 rfl) (ow hw 2 rfl) (by decide) (by decide)) e147 (g := (mkF m 112 #[.val (.int p0), .val (.int p1), .val (.int p2), .val (.int (p2 &&& (3 : Int32))), .val (.int (((p2.toUInt32 >>> ((2 : Int32) &&& 31).toUInt32).toInt32) &&& (3 : Int32))), .val (.ref b_102), .val (.ref b_110), .val (.ref b_137)] [(.int (4 : Int32)), (.int (p2 &&& (3 : Int32))), (.int p1), (.int p0), (.ref b_137)])) rfl (by rw [hml]; rfl) (argsL := [(.ref b_137), (.int p0), (.int p1), (.int (p2 &&& (3 : Int32))), (.int (4 : Int32))]) (rest := []) rfl (lenOf own_pd22 rfl) rfl (by show 2 * 0 + _ ≤ _; exact Nat.le_of_eq rfl) (hb hby at_112) (by decide) (by decide)
  obtain ⟨Nq148, e148, rfl⟩ := q148
  have N148 := Fr.app N147 Nq148
  refine go _ _ (st148) ?_
  show G (T148.setTop (mkF m 115 #[.val (.int p0), .val (.int p1), .val (.int p2), .val (.int (p2 &&& (3 : Int32))), .val (.int (((p2.toUInt32 >>> ((2 : Int32) &&& 31).toUInt32).toInt32) &&& (3 : Int32))), .val (.ref b_102), .val (.ref b_110), .val (.ref b_137)] [(.int (1 : Int32))]))
  refine go _ _ (fun _ k => XS.ifNo X148.here hx rfl (hb hby at_115) rfl (by decide) k) ?_
  show G (T148.setTop (mkF m 118 #[.val (.int p0), .val (.int p1), .val (.int p2), .val (.int (p2 &&& (3 : Int32))), .val (.int (((p2.toUInt32 >>> ((2 : Int32) &&& 31).toUInt32).toInt32) &&& (3 : Int32))), .val (.ref b_102), .val (.ref b_110), .val (.ref b_137)] []))
  refine go _ _ (fun _ k => XS.aload X148.here hx rfl (hb hby at_118) rfl rfl (XS.iloadN X148.here hx rfl (hb hby at_120) rfl (XS.iloadN X148.here hx rfl (hb hby at_121) rfl (XS.iloadN X148.here hx rfl (hb hby at_122) rfl (XS.iconst X148.here hx rfl (hb hby at_123) k))))) ?_
  show G (T148.setTop (mkF m 124 #[.val (.int p0), .val (.int p1), .val (.int p2), .val (.int (p2 &&& (3 : Int32))), .val (.int (((p2.toUInt32 >>> ((2 : Int32) &&& 31).toUInt32).toInt32) &&& (3 : Int32))), .val (.ref b_102), .val (.ref b_110), .val (.ref b_137)] [(.int (5 : Int32)), (.int (p2 &&& (3 : Int32))), (.int p1), (.int p0), (.ref b_137)]))
  obtain ⟨rv149, T149, L149, X149, q149, st149⟩ := own_st X148 hx hZ120 (y := (⟨"com/example/kindred/kindred/IdentifierToStringPinLaw", "at", "(Ljava/lang/String;IIII)Z"⟩ : MethodName)) hown120 (ow hw 173 rfl) (ow hw 174 rfl) (ow hw 2 rfl) (ow hw 175 rfl) (by decide) (own_bkN (W := 0) (rm32 l Z a0 hw z0 O2 P5 fm0 O4 R4 [] b_137 p0 p1 (p2 &&& (3 : Int32)) (5 : Int32) (((p2.toUInt32 >>> ((2 : Int32) &&& 31).toUInt32).toInt32) &&& (3 : Int32)) 5 T120.heap n0 (Nat.le_trans Z0 Z144) F142 f138 Sres (own_and3 _) (own_and3 _) rfl (by decide)) hZ120 (ow hw 175 rfl) (ow hw 2 rfl) (by decide) (by decide)) e148 (g := (mkF m 124 #[.val (.int p0), .val (.int p1), .val (.int p2), .val (.int (p2 &&& (3 : Int32))), .val (.int (((p2.toUInt32 >>> ((2 : Int32) &&& 31).toUInt32).toInt32) &&& (3 : Int32))), .val (.ref b_102), .val (.ref b_110), .val (.ref b_137)] [(.int (5 : Int32)), (.int (p2 &&& (3 : Int32))), (.int p1), (.int p0), (.ref b_137)])) rfl (by rw [hml]; rfl) (argsL := [(.ref b_137), (.int p0), (.int p1), (.int (p2 &&& (3 : Int32))), (.int (5 : Int32))]) (rest := []) rfl (lenOf own_pd22 rfl) rfl (by show 2 * 0 + _ ≤ _; exact Nat.le_of_eq rfl) (hb hby at_124) (by decide) (by decide)
  obtain ⟨Nq149, e149, rfl⟩ := q149
  have N149 := Fr.app N148 Nq149
  refine go _ _ (st149) ?_
  show G (T149.setTop (mkF m 127 #[.val (.int p0), .val (.int p1), .val (.int p2), .val (.int (p2 &&& (3 : Int32))), .val (.int (((p2.toUInt32 >>> ((2 : Int32) &&& 31).toUInt32).toInt32) &&& (3 : Int32))), .val (.ref b_102), .val (.ref b_110), .val (.ref b_137)] [(.int (1 : Int32))]))
  refine go _ _ (fun _ k => XS.ifNo X149.here hx rfl (hb hby at_127) rfl (by decide) k) ?_
  show G (T149.setTop (mkF m 130 #[.val (.int p0), .val (.int p1), .val (.int p2), .val (.int (p2 &&& (3 : Int32))), .val (.int (((p2.toUInt32 >>> ((2 : Int32) &&& 31).toUInt32).toInt32) &&& (3 : Int32))), .val (.ref b_102), .val (.ref b_110), .val (.ref b_137)] []))
  refine go _ _ (fun _ k => XS.aload X149.here hx rfl (hb hby at_130) rfl rfl (XS.iloadN X149.here hx rfl (hb hby at_132) rfl (XS.iloadN X149.here hx rfl (hb hby at_133) rfl (XS.iloadN X149.here hx rfl (hb hby at_134) rfl (XS.bipush X149.here hx rfl (hb hby at_135) k))))) ?_
  show G (T149.setTop (mkF m 137 #[.val (.int p0), .val (.int p1), .val (.int p2), .val (.int (p2 &&& (3 : Int32))), .val (.int (((p2.toUInt32 >>> ((2 : Int32) &&& 31).toUInt32).toInt32) &&& (3 : Int32))), .val (.ref b_102), .val (.ref b_110), .val (.ref b_137)] [(.int (6 : Int32)), (.int (p2 &&& (3 : Int32))), (.int p1), (.int p0), (.ref b_137)]))
  obtain ⟨rv150, T150, L150, X150, q150, st150⟩ := own_st X149 hx hZ120 (y := (⟨"com/example/kindred/kindred/IdentifierToStringPinLaw", "at", "(Ljava/lang/String;IIII)Z"⟩ : MethodName)) hown120 (ow hw 173 rfl) (ow hw 174 rfl) (ow hw 2 rfl) (ow hw 175 rfl) (by decide) (own_bkN (W := 0) (rm32 l Z a0 hw z0 O2 P5 fm0 O4 R4 [] b_137 p0 p1 (p2 &&& (3 : Int32)) (6 : Int32) (((p2.toUInt32 >>> ((2 : Int32) &&& 31).toUInt32).toInt32) &&& (3 : Int32)) 6 T120.heap n0 (Nat.le_trans Z0 Z144) F142 f138 Sres (own_and3 _) (own_and3 _) rfl (by decide)) hZ120 (ow hw 175 rfl) (ow hw 2 rfl) (by decide) (by decide)) e149 (g := (mkF m 137 #[.val (.int p0), .val (.int p1), .val (.int p2), .val (.int (p2 &&& (3 : Int32))), .val (.int (((p2.toUInt32 >>> ((2 : Int32) &&& 31).toUInt32).toInt32) &&& (3 : Int32))), .val (.ref b_102), .val (.ref b_110), .val (.ref b_137)] [(.int (6 : Int32)), (.int (p2 &&& (3 : Int32))), (.int p1), (.int p0), (.ref b_137)])) rfl (by rw [hml]; rfl) (argsL := [(.ref b_137), (.int p0), (.int p1), (.int (p2 &&& (3 : Int32))), (.int (6 : Int32))]) (rest := []) rfl (lenOf own_pd22 rfl) rfl (by show 2 * 0 + _ ≤ _; exact Nat.le_of_eq rfl) (hb hby at_137) (by decide) (by decide)
  obtain ⟨Nq150, e150, rfl⟩ := q150
  have N150 := Fr.app N149 Nq150
  refine go _ _ (st150) ?_
  show G (T150.setTop (mkF m 140 #[.val (.int p0), .val (.int p1), .val (.int p2), .val (.int (p2 &&& (3 : Int32))), .val (.int (((p2.toUInt32 >>> ((2 : Int32) &&& 31).toUInt32).toInt32) &&& (3 : Int32))), .val (.ref b_102), .val (.ref b_110), .val (.ref b_137)] [(.int (1 : Int32))]))
  refine go _ _ (fun _ k => XS.ifNo X150.here hx rfl (hb hby at_140) rfl (by decide) k) ?_
  show G (T150.setTop (mkF m 143 #[.val (.int p0), .val (.int p1), .val (.int p2), .val (.int (p2 &&& (3 : Int32))), .val (.int (((p2.toUInt32 >>> ((2 : Int32) &&& 31).toUInt32).toInt32) &&& (3 : Int32))), .val (.ref b_102), .val (.ref b_110), .val (.ref b_137)] []))
  refine go _ _ (fun _ k => XS.iconst X150.here hx rfl (hb hby at_143) k) ?_
  show G (T150.setTop (mkF m 144 #[.val (.int p0), .val (.int p1), .val (.int p2), .val (.int (p2 &&& (3 : Int32))), .val (.int (((p2.toUInt32 >>> ((2 : Int32) &&& 31).toUInt32).toInt32) &&& (3 : Int32))), .val (.ref b_102), .val (.ref b_110), .val (.ref b_137)] [(.int (1 : Int32))]))
  refine go _ _ (fun _ k => XS.goto X150.here hx rfl (pc0 := 144) (pc' := 148) rfl (hb hby at_144) (by decide) (by decide) k) ?_
  show G (T150.setTop (mkF m 148 #[.val (.int p0), .val (.int p1), .val (.int p2), .val (.int (p2 &&& (3 : Int32))), .val (.int (((p2.toUInt32 >>> ((2 : Int32) &&& 31).toUInt32).toInt32) &&& (3 : Int32))), .val (.ref b_102), .val (.ref b_110), .val (.ref b_137)] [(.int (1 : Int32))]))
  have K151 : Keep h0 T105.heap [] := K106.trans Kp105 all0
  have K152 : Keep h0 h113 [] := K151.ext E113
  have K153 : Keep h0 T114.heap [] := K152.trans Kp114 (allS (Or.inr (Nat.le_trans Z115 (Nat.le_of_eq g113.symm))) all0)
  have K154 : Keep h0 T120.heap [] := K153.trans Kp120 all0
  have C155 : CHr Z own_EL s.vm h0 T120.vm T120.heap := C134.trans C120
  refine fin T150 _ _ _ (some (.int (1 : Int32))) T120.vm _ X150 hZ120 hS120 (by rw [e150]; exact (Nat.le_refl _)) (by rw [e150]; exact C155) (fun q => nomatch q) (by decide) (by decide) (by rw [e150]; exact ⟨N150, K154, rfl⟩) _ (own_retN X150 hx (z := (1 : Int32)) (t := .boolean) hret (by simp) (hb hby at_148))
theorem own_EL_in : ∀ q ∈ own_EL, q ∈ consts_1 := by decide
set_option maxRecDepth 65536 in
set_option maxHeartbeats 40000000 in
theorem comes_1 {Post : Tables → Env → Array Value → State → Outcome → State → Prop} (hpost : ∀ tb e args s v u, (limb_1_1.after args s (.returned v) u = true ∧ limb_1_2.after args s (.returned v) u = true ∧ True) → ReturnedEndW s (.returned v) u (Jvm.fieldLocs frame_1_writes args s ++ Jvm.arrayLocs frame_1_arrays args s ++ Jvm.staticLocs frame_1_statics s) 40 2240 → Post tb e args s (.returned v) u) :
    ArmFor flags0 classFile x code maxLocals ret World_1 tables_1 room_1 Calls_1 rest_1 Pre_1 Post := by
  intro l hfl _ _ p e ha hc hk s m args below hf hA hF happ hP
  obtain ⟨hcalls, hrest, hpre⟩ := hP
  obtain ⟨-, -, -, hnamed, -, -, -, hat⟩ := (Spec.applies_iff hf).mp happ
  obtain ⟨hg, hn⟩ := and_e (Cond.before_iff.mp (show (Jvm.Cond.and given_1 narrow_1).before args s = true from hpre))
  obtain ⟨h1, g0⟩ := and_e hg
  obtain ⟨ga0, g1⟩ := and_e g0
  obtain ⟨ga1, g2⟩ := and_e g1
  have ga2 := g2
  obtain ⟨w0, w1, w2, rfl⟩ : ∃ w0 w1 w2 : Value, args = #[w0, w1, w2] := by
    have hs : args.size = 3 := by simpa [Cond.value, given_1] using h1
    obtain ⟨L⟩ := args
    match L, hs with
    | [w0, w1, w2], _ => exact ⟨w0, w1, w2, rfl⟩
  have hw := fun d (hd : d ∈ tables_1) => atoms_spec (ws := Jvm.Cond.code x code maxLocals ret :: tables_1) hat d (List.mem_cons_of_mem _ hd)
  obtain ⟨hsets, hown0⟩ := atoms_of _ (rest_1_c_eq ▸ (show rest_1_c.before _ s = true from hrest))
  have hfit : Fit s := fun {y c} hc i hi => by
    obtain ⟨ha, rfl⟩ := Array.getElem?_eq_some_iff.mp hc
    have q := List.all_eq_true.mp ((Array.all_eq_true_iff_forall_mem.mp hF) _ (Array.getElem_mem ha)) i (List.mem_range.mpr hi)
    simpa [Array.getElem?_eq_getElem hi] using q
  obtain ⟨i0, ea0⟩ := is_v ga0
  obtain rfl : w0 = (.int i0) := Option.some.inj ea0
  obtain ⟨i1, ea1⟩ := is_v ga1
  obtain rfl : w1 = (.int i1) := Option.some.inj ea1
  obtain ⟨i2, ea2⟩ := is_v ga2
  obtain rfl : w2 = (.int i2) := Option.some.inj ea2
  have n3 := not_v (Cond.before_iff.mp (hsets _ (List.mem_of_getElem? (i := 2) rfl)))
  obtain ⟨iz, ez⟩ := is_v (Cond.before_iff.mp (hsets _ (List.mem_of_getElem? (i := 1) rfl)))
  have S8 : Sta s s.heap "java/lang/String" "COMPACT_STRINGS" "Z" (.int iz) := Sta.start ez (Or.inl (hsets _ (List.mem_of_getElem? (i := 0) rfl)))
  have c13 : ¬ (iz = (0 : Int32)) := gotF (Cond.eq_ints ez (Term.int_eval (0))) n3
  obtain ⟨v9, e10, r11⟩ := isR_v (Cond.before_iff.mp (hsets _ (List.mem_of_getElem? (i := 8) rfl)))
  have S12 : Sta s s.heap "jdk/internal/util/Preconditions" "SIOOBE_FORMATTER" "Ljava/util/function/BiFunction;" v9 := Sta.start e10 (Or.inl (hsets _ (List.mem_of_getElem? (i := 7) rfl)))
  have CHv0 : CHv s own_EL s.vm s.heap := CHv.start (own_hEL hw) (fun q hq => hcalls.1 q (own_EL_in q hq)) (hsets _ (List.mem_of_getElem? (i := 2) rfl)) (ow hw 26 rfl) (ow hw 5 rfl)
  obtain ⟨n, o, h1, h2, h3, v, L, rfl, ⟨N, -, q⟩, -, hq⟩ := rmLaw l s _ hw iz S8 c13 v9 S12 r11 tables_1 i0 i1 i2 s.heap s.heap.size (Nat.le_refl _) (Old.start s) p e ha hc hk s m _ below hf ((Spec.applies_iff_loose hf).mp happ).1 ⟨rfl, State.Warmed39.refl s, rfl, CHv0⟩ trivial
  subst q
  refine ⟨n, _, h1, h2, h3, hpost _ _ _ _ _ _ ⟨Cond.after_iff.mpr rfl, Cond.after_iff.mpr (eq_i res_at (Term.int_eval (1)) rfl), trivial⟩ ⟨hq.1, hq.2.1, hq.2.2.1, (hq.2.2.2.sift fun y hy => Or.inr (N y hy)).mono (by decide) (by decide)⟩⟩
theorem main_1_1 : Claimed_1_1 := comes_1 fun _ _ _ _ _ _ h hF => ⟨h.1, hF⟩
theorem main_1_2 : Claimed_1_2 := comes_1 fun _ _ _ _ _ _ h hF => ⟨h.2.1, hF⟩
end Jvm.Pilot.@@N@@
namespace Jvm.Pilot.@@N@@
open Jvm Jvm.ClassFile Sem Op Lib Jvm.Free Jvm.Stand Jvm.Pilot.@@N@@.Jvm.D
/-! MADE BY PROGRAM (witnessworld.py) out of the Statement's table words and the real class files: 27 classes; the members and pool entries that the words name. The judged class is class 1, her method 1. -/
namespace start1
open Jvm.ClassFile
def u (s : String) : CpInfo := .utf8 (stringToUtf16 s)
/-- a pool by its gaps: so many unusable entries, then the entry; so many at the end -/
def gap : Nat → List CpInfo → List CpInfo
  | 0, r => r
  | n + 1, r => .unusable :: gap n r
def poolList (es : List (Nat × CpInfo)) (last : Nat) : List CpInfo := es.foldr (fun e r => gap e.1 (e.2 :: r)) (gap last [])
def pool (es : List (Nat × CpInfo)) (last : Nat) : Array CpInfo := ⟨poolList es last⟩
def fileOf (pool : Array CpInfo) (this : Nat) (attrs : Array Attribute := #[]) (ms : Array MethodInfo := #[]) (fl : Nat := 33) (sup : Nat := 0) (ifs : Array Nat := #[]) (fds : Array FieldInfo := #[]) : ClassFile where
  minorVersion := 0
  majorVersion := 65
  constantPool := pool
  accessFlags := fl
  thisClass := this
  superClass := sup
  interfaces := ifs
  fields := fds
  methods := ms
  attributes := attrs
def plain (name : String) (sup : Option ClassId) : Class where
  name := name
  kind := .ordinary
  loader := none
  accessFlags := 33
  super := sup
  interfaces := #[]
  cf := none
  fields := #[]
  methods := #[]
  instanceTypes := #[]
  staticTypes := #[]
  resolved := #[]
  callSites := []
  init := .initialized
  statics := none
  mirror := none

def pool0 : Array CpInfo := pool [(5, u "<init>"), (0, u "()V"), (1, .class_ 10), (1, u "java/lang/Object")] 113

def k0c0 : Code := { maxStack := 0, maxLocals := 1, code := object_method_1_code, exceptionTable := #[], attributes := #[] }
def k0m0 : Method := { name := "<init>", desc := "()V", sig := { parameters := [], returnType := none }, accessFlags := 1, code := some k0c0 }
/-- java/lang/Object -/
def k0 : Class := { plain "java/lang/Object" none with
  accessFlags := 33
  interfaces := #[]
  cf := some (fileOf pool0 8 #[] #[{ accessFlags := 1, nameIndex := 5, descriptorIndex := 6, attributes := #[] }] 33 0 #[] #[])
  fields := #[]
  methods := #[k0m0]
  instanceTypes := #[]
  staticTypes := #[]
  resolved := Array.replicate 124 none
  statics := none }

def pool1 : Array CpInfo := pool [(2, .class_ 4), (1, u "java/lang/Object"), (0, u "<init>"), (0, u "()V"), (0, .methodref 8 9), (0, .class_ 10), (0, .nameAndType 11 12), (0, u "com/example/kindred/kindred/IdentifierToStringPinLaw"), (0, u "str"), (0, u "(II)Ljava/lang/String;"), (0, .class_ 14), (0, u "com/example/kindred/kindred/Identifier"), (0, .methodref 13 16), (0, .nameAndType 5 17), (0, u "(Ljava/lang/String;Ljava/lang/String;)V"), (0, .methodref 13 19), (0, .nameAndType 20 21), (0, u "toString"), (0, u "()Ljava/lang/String;"), (0, .methodref 23 24), (0, .class_ 25), (0, .nameAndType 26 27), (0, u "java/lang/String"), (0, u "length"), (0, u "()I"), (0, .methodref 8 29), (0, .nameAndType 30 31), (0, u "at"), (0, u "(Ljava/lang/String;IIII)Z"), (0, .string 33), (0, u ""), (0, .methodref 8 35), (0, .nameAndType 36 37), (0, u "ch"), (0, u "(II)C"), (0, .methodref 23 39), (0, .nameAndType 5 40), (0, u "([C)V"), (0, .methodref 23 42), (0, .nameAndType 43 44), (0, u "charAt"), (0, u "(I)C"), (2, u "law"), (0, u "(III)Z")] 3

def k1m0 : Method := { name := "<init>", desc := "()V", sig := { parameters := [], returnType := none }, accessFlags := 1, code := none }
def k1c1 : Code := { maxStack := 5, maxLocals := 8, code := code, exceptionTable := #[], attributes := #[] }
def k1m1 : Method := { name := "law", desc := "(III)Z", sig := { parameters := [.int, .int, .int], returnType := some .boolean }, accessFlags := 9, code := some k1c1 }
def k1c2 : Code := { maxStack := 3, maxLocals := 2, code := method_3_code, exceptionTable := #[], attributes := #[] }
def k1m2 : Method := { name := "ch", desc := "(II)C", sig := { parameters := [.int, .int], returnType := some .char }, accessFlags := 10, code := some k1c2 }
def k1c3 : Code := { maxStack := 7, maxLocals := 2, code := method_4_code, exceptionTable := #[], attributes := #[] }
def k1m3 : Method := { name := "str", desc := "(II)Ljava/lang/String;", sig := { parameters := [.int, .int], returnType := some (.object "java/lang/String") }, accessFlags := 10, code := some k1c3 }
def k1c4 : Code := { maxStack := 3, maxLocals := 6, code := method_5_code, exceptionTable := #[], attributes := #[] }
def k1m4 : Method := { name := "at", desc := "(Ljava/lang/String;IIII)Z", sig := { parameters := [(.object "java/lang/String"), .int, .int, .int, .int], returnType := some .boolean }, accessFlags := 10, code := some k1c4 }
/-- com/example/kindred/kindred/IdentifierToStringPinLaw -/
def k1 : Class := { plain "com/example/kindred/kindred/IdentifierToStringPinLaw" (some 0) with
  accessFlags := 49
  interfaces := #[]
  cf := some (fileOf pool1 8 #[] #[{ accessFlags := 1, nameIndex := 5, descriptorIndex := 6, attributes := #[] }, { accessFlags := 9, nameIndex := 47, descriptorIndex := 48, attributes := #[] }, { accessFlags := 10, nameIndex := 36, descriptorIndex := 37, attributes := #[] }, { accessFlags := 10, nameIndex := 11, descriptorIndex := 12, attributes := #[] }, { accessFlags := 10, nameIndex := 30, descriptorIndex := 31, attributes := #[] }] 49 2 #[] #[])
  fields := #[]
  methods := #[k1m0, k1m1, k1m2, k1m3, k1m4]
  instanceTypes := #[]
  staticTypes := #[]
  resolved := Array.replicate 52 none
  statics := none }

def pool2 : Array CpInfo := pool [(1, .class_ 2), (0, u "java/io/Serializable"), (0, .class_ 4), (0, u "java/lang/Object")] 2

/-- java/io/Serializable -/
def k2 : Class := { plain "java/io/Serializable" (some 0) with
  accessFlags := 1537
  interfaces := #[]
  cf := some (fileOf pool2 1 #[] #[] 1537 3 #[] #[])
  fields := #[]
  methods := #[]
  instanceTypes := #[]
  staticTypes := #[]
  resolved := Array.replicate 7 none
  statics := none }

def pool3 : Array CpInfo := pool [(1, .class_ 2), (0, u "java/lang/Comparable"), (0, .class_ 4), (0, u "java/lang/Object")] 7

/-- java/lang/Comparable -/
def k3 : Class := { plain "java/lang/Comparable" (some 0) with
  accessFlags := 1537
  interfaces := #[]
  cf := some (fileOf pool3 1 #[] #[] 1537 3 #[] #[])
  fields := #[]
  methods := #[]
  instanceTypes := #[]
  staticTypes := #[]
  resolved := Array.replicate 12 none
  statics := none }

def pool4 : Array CpInfo := pool [(2, .class_ 4), (1, u "java/lang/CharSequence"), (42, .class_ 48), (0, u "java/lang/CharSequence$1CodePointIterator"), (10, .class_ 60), (0, u "java/lang/CharSequence$1CharIterator"), (5, .class_ 67), (0, u "java/lang/Object")] 63

/-- java/lang/CharSequence -/
def k4 : Class := { plain "java/lang/CharSequence" (some 0) with
  accessFlags := 1537
  interfaces := #[]
  cf := some (fileOf pool4 2 #[.nestMembers #[47, 59]] #[] 1537 66 #[] #[])
  fields := #[]
  methods := #[]
  instanceTypes := #[]
  staticTypes := #[]
  resolved := Array.replicate 131 none
  statics := none }

def pool5 : Array CpInfo := pool [(1, .class_ 2), (0, u "java/lang/constant/Constable"), (0, .class_ 4), (0, u "java/lang/Object")] 6

/-- java/lang/constant/Constable -/
def k5 : Class := { plain "java/lang/constant/Constable" (some 0) with
  accessFlags := 1537
  interfaces := #[]
  cf := some (fileOf pool5 1 #[] #[] 1537 3 #[] #[])
  fields := #[]
  methods := #[]
  instanceTypes := #[]
  staticTypes := #[]
  resolved := Array.replicate 11 none
  statics := none }

def pool6 : Array CpInfo := pool [(1, .class_ 2), (0, u "java/lang/constant/ConstantDesc"), (0, .class_ 4), (0, u "java/lang/Object")] 32

/-- java/lang/constant/ConstantDesc -/
def k6 : Class := { plain "java/lang/constant/ConstantDesc" (some 0) with
  accessFlags := 1537
  interfaces := #[]
  cf := some (fileOf pool6 1 #[] #[] 1537 3 #[] #[])
  fields := #[]
  methods := #[]
  instanceTypes := #[]
  staticTypes := #[]
  resolved := Array.replicate 37 none
  statics := none }

def pool7 : Array CpInfo := pool [(1, .methodref 2 3), (0, .class_ 4), (0, .nameAndType 5 6), (0, u "java/lang/Object"), (0, u "<init>"), (0, u "()V"), (2, .fieldref 10 11), (0, .class_ 12), (0, .nameAndType 13 14), (0, u "java/lang/String"), (0, u "value"), (0, u "[B"), (0, .fieldref 10 16), (0, .nameAndType 17 18), (0, u "coder"), (0, u "B"), (2, u "hash"), (0, u "I"), (2, u "hashIsZero"), (0, u "Z"), (0, .methodref 10 28), (0, .nameAndType 5 29), (0, u "([CIILjava/lang/Void;)V"), (8, .fieldref 10 39), (0, .nameAndType 40 26), (0, u "COMPACT_STRINGS"), (1, .class_ 44), (1, u "java/lang/StringUTF16"), (0, u "compress"), (1, .methodref 42 48), (0, .nameAndType 49 50), (0, u "coderFromArrayLen"), (0, u "([BI)B"), (3, .methodref 55 56), (0, .class_ 57), (0, .nameAndType 58 59), (0, u "java/util/Arrays"), (0, u "copyOfRange"), (0, u "([BII)[B"), (47, .class_ 109), (1, u "java/lang/StringLatin1"), (32, u "()Z"), (34, .methodref 42 178), (0, .nameAndType 45 179), (0, u "([CII)[B"), (13, .class_ 195), (1, u "java/lang/System"), (16, .methodref 193 213), (0, .nameAndType 214 215), (0, u "arraycopy"), (0, u "(Ljava/lang/Object;ILjava/lang/Object;II)V"), (118, u "()I"), (0, .methodref 10 336), (0, .nameAndType 17 337), (0, u "()B"), (2, u "()[B"), (22, u "([BI)C"), (27, u "(II)V"), (35, u "(I)C"), (61, .methodref 10 490), (0, .nameAndType 5 491), (0, u "(Ljava/lang/AbstractStringBuilder;Ljava/lang/Void;)V"), (0, .methodref 10 493), (0, .nameAndType 494 142), (0, u "isLatin1"), (0, .methodref 107 496), (0, .nameAndType 497 363), (0, u "charAt"), (3, u "checkIndex"), (4, .nameAndType 507 334), (0, u "length"), (24, u "getBytes"), (16, .methodref 550 506), (0, .class_ 551), (0, u "java/lang/AbstractStringBuilder"), (0, .methodref 550 553), (0, .nameAndType 554 340), (0, u "getValue"), (20, .class_ 576), (0, u "java/lang/CharSequence"), (22, u "CASE_INSENSITIVE_ORDER"), (0, u "Ljava/util/Comparator;"), (220, u "([BIB)V"), (188, u "([C)V"), (36, .methodref 550 493), (5, .fieldref 1054 1055), (0, .class_ 1056), (0, .nameAndType 1057 1058), (0, u "jdk/internal/util/Preconditions"), (0, u "SIOOBE_FORMATTER"), (0, u "Ljava/util/function/BiFunction;"), (0, .methodref 1054 1060), (0, .nameAndType 501 1061), (0, u "(IILjava/util/function/BiFunction;)I"), (39, u "serialPersistentFields"), (0, u "[Ljava/io/ObjectStreamField;"), (0, .class_ 1104), (0, u "java/lang/String$CaseInsensitiveComparator"), (1, .class_ 1107), (0, u "java/io/Serializable"), (0, .class_ 1109), (0, u "java/lang/Comparable"), (0, .class_ 1111), (0, u "java/lang/constant/Constable"), (0, .class_ 1113), (0, u "java/lang/constant/ConstantDesc"), (2, u "serialVersionUID"), (0, u "J"), (3, u "REPL"), (0, u "C"), (2, u "LATIN1"), (1, u "UTF16"), (105, u "(Ljava/lang/StringBuilder;)V")] 217

def k7m0 : Method := { name := "<init>", desc := "()V", sig := { parameters := [], returnType := none }, accessFlags := 1, code := none }
def k7c1 : Code := { maxStack := 5, maxLocals := 2, code := jdk_42_method_3_code, exceptionTable := #[], attributes := #[] }
def k7m1 : Method := { name := "<init>", desc := "([C)V", sig := { parameters := [(.array .char)], returnType := none }, accessFlags := 1, code := some k7c1 }
def k7c2 : Code := { maxStack := 3, maxLocals := 2, code := jdk_42_method_53_code, exceptionTable := #[], attributes := #[] }
def k7m2 : Method := { name := "<init>", desc := "(Ljava/lang/StringBuilder;)V", sig := { parameters := [(.object "java/lang/StringBuilder")], returnType := none }, accessFlags := 1, code := some k7c2 }
def k7c3 : Code := { maxStack := 2, maxLocals := 1, code := jdk_42_method_54_code, exceptionTable := #[], attributes := #[] }
def k7m3 : Method := { name := "length", desc := "()I", sig := { parameters := [], returnType := some .int }, accessFlags := 1, code := some k7c3 }
def k7c4 : Code := { maxStack := 2, maxLocals := 2, code := jdk_42_method_56_code, exceptionTable := #[], attributes := #[] }
def k7m4 : Method := { name := "charAt", desc := "(I)C", sig := { parameters := [.int], returnType := some .char }, accessFlags := 1, code := some k7c4 }
def k7c5 : Code := { maxStack := 5, maxLocals := 4, code := jdk_42_method_147_code, exceptionTable := #[], attributes := #[] }
def k7m5 : Method := { name := "getBytes", desc := "([BIB)V", sig := { parameters := [(.array .byte), .int, .byte], returnType := none }, accessFlags := 0, code := some k7c5 }
def k7c6 : Code := { maxStack := 4, maxLocals := 6, code := jdk_42_method_149_code, exceptionTable := #[], attributes := #[] }
def k7m6 : Method := { name := "<init>", desc := "([CIILjava/lang/Void;)V", sig := { parameters := [(.array .char), .int, .int, (.object "java/lang/Void")], returnType := none }, accessFlags := 2, code := some k7c6 }
def k7c7 : Code := { maxStack := 5, maxLocals := 5, code := jdk_42_method_150_code, exceptionTable := #[], attributes := #[] }
def k7m7 : Method := { name := "<init>", desc := "(Ljava/lang/AbstractStringBuilder;Ljava/lang/Void;)V", sig := { parameters := [(.object "java/lang/AbstractStringBuilder"), (.object "java/lang/Void")], returnType := none }, accessFlags := 0, code := some k7c7 }
def k7c8 : Code := { maxStack := 1, maxLocals := 1, code := jdk_42_method_152_code, exceptionTable := #[], attributes := #[] }
def k7m8 : Method := { name := "coder", desc := "()B", sig := { parameters := [], returnType := some .byte }, accessFlags := 0, code := some k7c8 }
def k7c9 : Code := { maxStack := 1, maxLocals := 1, code := jdk_42_method_154_code, exceptionTable := #[], attributes := #[] }
def k7m9 : Method := { name := "isLatin1", desc := "()Z", sig := { parameters := [], returnType := some .boolean }, accessFlags := 0, code := some k7c9 }
def k7c10 : Code := { maxStack := 3, maxLocals := 2, code := jdk_42_method_155_code, exceptionTable := #[], attributes := #[] }
def k7m10 : Method := { name := "checkIndex", desc := "(II)V", sig := { parameters := [.int, .int], returnType := none }, accessFlags := 8, code := some k7c10 }
/-- java/lang/String -/
def k7 : Class := { plain "java/lang/String" (some 0) with
  accessFlags := 49
  interfaces := #[2, 3, 4, 5, 6]
  cf := some (fileOf pool7 10 #[.nestMembers #[1103]] #[{ accessFlags := 1, nameIndex := 5, descriptorIndex := 6, attributes := #[] }, { accessFlags := 1, nameIndex := 5, descriptorIndex := 1010, attributes := #[] }, { accessFlags := 1, nameIndex := 5, descriptorIndex := 1233, attributes := #[] }, { accessFlags := 1, nameIndex := 507, descriptorIndex := 334, attributes := #[] }, { accessFlags := 1, nameIndex := 497, descriptorIndex := 427, attributes := #[] }, { accessFlags := 0, nameIndex := 532, descriptorIndex := 821, attributes := #[] }, { accessFlags := 2, nameIndex := 5, descriptorIndex := 29, attributes := #[] }, { accessFlags := 0, nameIndex := 5, descriptorIndex := 491, attributes := #[] }, { accessFlags := 0, nameIndex := 17, descriptorIndex := 337, attributes := #[] }, { accessFlags := 0, nameIndex := 494, descriptorIndex := 142, attributes := #[] }, { accessFlags := 8, nameIndex := 501, descriptorIndex := 391, attributes := #[] }] 49 2 #[1106, 1108, 575, 1110, 1112] #[{ accessFlags := 18, nameIndex := 13, descriptorIndex := 14, attributes := #[] }, { accessFlags := 18, nameIndex := 17, descriptorIndex := 18, attributes := #[] }, { accessFlags := 2, nameIndex := 21, descriptorIndex := 22, attributes := #[] }, { accessFlags := 2, nameIndex := 25, descriptorIndex := 26, attributes := #[] }, { accessFlags := 26, nameIndex := 1116, descriptorIndex := 1117, attributes := #[] }, { accessFlags := 24, nameIndex := 40, descriptorIndex := 26, attributes := #[] }, { accessFlags := 26, nameIndex := 1101, descriptorIndex := 1102, attributes := #[] }, { accessFlags := 26, nameIndex := 1121, descriptorIndex := 1122, attributes := #[] }, { accessFlags := 25, nameIndex := 599, descriptorIndex := 600, attributes := #[] }, { accessFlags := 24, nameIndex := 1125, descriptorIndex := 18, attributes := #[] }, { accessFlags := 24, nameIndex := 1127, descriptorIndex := 18, attributes := #[] }])
  fields := #[{ name := "value", type := (.array .byte), accessFlags := 18, slot := 0, constantValue := 0 }, { name := "coder", type := .byte, accessFlags := 18, slot := 1, constantValue := 0 }, { name := "hash", type := .int, accessFlags := 2, slot := 2, constantValue := 0 }, { name := "hashIsZero", type := .boolean, accessFlags := 2, slot := 3, constantValue := 0 }, { name := "serialVersionUID", type := .long, accessFlags := 26, slot := 0, constantValue := 0 }, { name := "COMPACT_STRINGS", type := .boolean, accessFlags := 24, slot := 1, constantValue := 0 }, { name := "serialPersistentFields", type := (.array (.object "java/io/ObjectStreamField")), accessFlags := 26, slot := 2, constantValue := 0 }, { name := "REPL", type := .char, accessFlags := 26, slot := 3, constantValue := 0 }, { name := "CASE_INSENSITIVE_ORDER", type := (.object "java/util/Comparator"), accessFlags := 25, slot := 4, constantValue := 0 }, { name := "LATIN1", type := .byte, accessFlags := 24, slot := 5, constantValue := 0 }, { name := "UTF16", type := .byte, accessFlags := 24, slot := 6, constantValue := 0 }]
  methods := #[k7m0, k7m1, k7m2, k7m3, k7m4, k7m5, k7m6, k7m7, k7m8, k7m9, k7m10]
  instanceTypes := #[(.array .byte), .byte, .int, .boolean]
  staticTypes := #[.long, .boolean, (.array (.object "java/io/ObjectStreamField")), .char, (.object "java/util/Comparator"), .byte, .byte]
  resolved := Array.replicate 1451 none
  statics := some 0 }

def pool8 : Array CpInfo := pool [(6, .class_ 8), (1, u "java/lang/Object"), (0, u "<init>"), (0, u "()V"), (1, .class_ 14), (1, u "java/lang/StringUTF16"), (31, u "$assertionsDisabled"), (0, u "Z"), (13, u "HI_BYTE_SHIFT"), (0, u "I"), (2, u "LO_BYTE_SHIFT"), (49, .methodref 12 116), (0, .nameAndType 117 118), (0, u "compress"), (0, u "([CI[BII)I"), (3, u "([CII)[B"), (138, u "coderFromArrayLen"), (0, u "([BI)B"), (106, .class_ 371), (1, u "java/lang/StringUTF16$LinesSpliterator"), (58, u "MAX_LENGTH"), (196, .class_ 628), (0, u "java/lang/StringUTF16$CodePointsSpliterator"), (0, .class_ 630), (0, u "java/lang/StringUTF16$CharsSpliterator")] 4

def k8m0 : Method := { name := "<init>", desc := "()V", sig := { parameters := [], returnType := none }, accessFlags := 0, code := none }
def k8c1 : Code := { maxStack := 2, maxLocals := 2, code := jdk_52_method_15_code, exceptionTable := #[], attributes := #[] }
def k8m1 : Method := { name := "coderFromArrayLen", desc := "([BI)B", sig := { parameters := [(.array .byte), .int], returnType := some .byte }, accessFlags := 8, code := some k8c1 }
def k8c2 : Code := { maxStack := 5, maxLocals := 6, code := jdk_52_method_16_code, exceptionTable := #[], attributes := #[] }
def k8m2 : Method := { name := "compress", desc := "([CII)[B", sig := { parameters := [(.array .char), .int, .int], returnType := some (.array .byte) }, accessFlags := 9, code := some k8c2 }
def k8c3 : Code := { maxStack := 3, maxLocals := 7, code := jdk_52_method_21_code, exceptionTable := #[], attributes := #[] }
def k8m3 : Method := { name := "compress", desc := "([CI[BII)I", sig := { parameters := [(.array .char), .int, (.array .byte), .int, .int], returnType := some .int }, accessFlags := 9, code := some k8c3 }
/-- java/lang/StringUTF16 -/
def k8 : Class := { plain "java/lang/StringUTF16" (some 0) with
  accessFlags := 48
  interfaces := #[]
  cf := some (fileOf pool8 12 #[.nestMembers #[627, 629, 369]] #[{ accessFlags := 0, nameIndex := 9, descriptorIndex := 10, attributes := #[] }, { accessFlags := 8, nameIndex := 261, descriptorIndex := 262, attributes := #[] }, { accessFlags := 9, nameIndex := 117, descriptorIndex := 122, attributes := #[] }, { accessFlags := 9, nameIndex := 117, descriptorIndex := 118, attributes := #[] }] 48 6 #[] #[{ accessFlags := 26, nameIndex := 61, descriptorIndex := 62, attributes := #[] }, { accessFlags := 26, nameIndex := 65, descriptorIndex := 62, attributes := #[] }, { accessFlags := 24, nameIndex := 430, descriptorIndex := 62, attributes := #[] }, { accessFlags := 4120, nameIndex := 46, descriptorIndex := 47, attributes := #[] }])
  fields := #[{ name := "HI_BYTE_SHIFT", type := .int, accessFlags := 26, slot := 0, constantValue := 0 }, { name := "LO_BYTE_SHIFT", type := .int, accessFlags := 26, slot := 1, constantValue := 0 }, { name := "MAX_LENGTH", type := .int, accessFlags := 24, slot := 2, constantValue := 0 }, { name := "$assertionsDisabled", type := .boolean, accessFlags := 4120, slot := 3, constantValue := 0 }]
  methods := #[k8m0, k8m1, k8m2, k8m3]
  instanceTypes := #[]
  staticTypes := #[.int, .int, .int, .boolean]
  resolved := Array.replicate 635 none
  statics := none }

def pool9 : Array CpInfo := pool [(1, .methodref 2 3), (0, .class_ 4), (0, .nameAndType 5 6), (0, u "java/lang/Object"), (0, u "<init>"), (0, u "()V"), (0, .class_ 8), (0, u "java/lang/Record")] 13

def k9c0 : Code := { maxStack := 1, maxLocals := 1, code := jdk_30_method_1_code, exceptionTable := #[], attributes := #[] }
def k9m0 : Method := { name := "<init>", desc := "()V", sig := { parameters := [], returnType := none }, accessFlags := 4, code := some k9c0 }
/-- java/lang/Record -/
def k9 : Class := { plain "java/lang/Record" (some 0) with
  accessFlags := 1057
  interfaces := #[]
  cf := some (fileOf pool9 7 #[] #[{ accessFlags := 4, nameIndex := 5, descriptorIndex := 6, attributes := #[] }] 1057 2 #[] #[])
  fields := #[]
  methods := #[k9m0]
  instanceTypes := #[]
  staticTypes := #[]
  resolved := Array.replicate 22 none
  statics := none }

def pool10 : Array CpInfo := pool [(1, .methodref 2 3), (0, .class_ 4), (0, .nameAndType 5 6), (0, u "java/lang/Record"), (0, u "<init>"), (0, u "()V"), (0, .fieldref 8 9), (0, .class_ 10), (0, .nameAndType 11 12), (0, u "com/example/kindred/kindred/Identifier"), (0, u "system"), (0, u "Ljava/lang/String;"), (0, .fieldref 8 14), (0, .nameAndType 15 12), (0, u "value"), (6, u "(Ljava/lang/String;Ljava/lang/String;)V"), (0, .class_ 24), (0, u "java/lang/StringBuilder"), (0, .methodref 23 3), (12, u "append"), (6, .methodref 23 46), (0, .nameAndType 38 47), (0, u "(Ljava/lang/String;)Ljava/lang/StringBuilder;"), (4, .methodref 23 53), (0, .nameAndType 54 55), (0, u "toString"), (0, u "()Ljava/lang/String;"), (7, u "OID"), (0, u "Ljava/util/regex/Pattern;"), (23, .string 89), (0, u "|"), (14, u "OID_URN")] 33

def k10c0 : Code := { maxStack := 2, maxLocals := 3, code := prog_12_method_1_code, exceptionTable := #[], attributes := #[] }
def k10m0 : Method := { name := "<init>", desc := "(Ljava/lang/String;Ljava/lang/String;)V", sig := { parameters := [(.object "java/lang/String"), (.object "java/lang/String")], returnType := none }, accessFlags := 0, code := some k10c0 }
def k10c1 : Code := { maxStack := 2, maxLocals := 1, code := prog_12_method_7_code, exceptionTable := #[], attributes := #[] }
def k10m1 : Method := { name := "toString", desc := "()Ljava/lang/String;", sig := { parameters := [], returnType := some (.object "java/lang/String") }, accessFlags := 1, code := some k10c1 }
/-- com/example/kindred/kindred/Identifier -/
def k10 : Class := { plain "com/example/kindred/kindred/Identifier" (some 9) with
  accessFlags := 48
  interfaces := #[]
  cf := some (fileOf pool10 8 #[] #[{ accessFlags := 0, nameIndex := 5, descriptorIndex := 22, attributes := #[] }, { accessFlags := 1, nameIndex := 54, descriptorIndex := 55, attributes := #[] }] 48 2 #[] #[{ accessFlags := 18, nameIndex := 11, descriptorIndex := 12, attributes := #[] }, { accessFlags := 18, nameIndex := 15, descriptorIndex := 12, attributes := #[] }, { accessFlags := 26, nameIndex := 63, descriptorIndex := 64, attributes := #[] }, { accessFlags := 26, nameIndex := 104, descriptorIndex := 12, attributes := #[] }])
  fields := #[{ name := "system", type := (.object "java/lang/String"), accessFlags := 18, slot := 0, constantValue := 0 }, { name := "value", type := (.object "java/lang/String"), accessFlags := 18, slot := 1, constantValue := 0 }, { name := "OID", type := (.object "java/util/regex/Pattern"), accessFlags := 26, slot := 0, constantValue := 0 }, { name := "OID_URN", type := (.object "java/lang/String"), accessFlags := 26, slot := 1, constantValue := 0 }]
  methods := #[k10m0, k10m1]
  instanceTypes := #[(.object "java/lang/String"), (.object "java/lang/String")]
  staticTypes := #[(.object "java/util/regex/Pattern"), (.object "java/lang/String")]
  resolved := Array.replicate 138 none
  statics := none }

def pool11 : Array CpInfo := pool [(1, .class_ 2), (0, u "java/lang/Appendable"), (0, .class_ 4), (0, u "java/lang/Object")] 9

/-- java/lang/Appendable -/
def k11 : Class := { plain "java/lang/Appendable" (some 0) with
  accessFlags := 1537
  interfaces := #[]
  cf := some (fileOf pool11 1 #[] #[] 1537 3 #[] #[])
  fields := #[]
  methods := #[]
  instanceTypes := #[]
  staticTypes := #[]
  resolved := Array.replicate 14 none
  statics := none }

def pool12 : Array CpInfo := pool [(1, .class_ 2), (0, u "java/lang/String"), (0, .methodref 4 5), (0, .class_ 6), (0, .nameAndType 7 8), (0, u "java/lang/Object"), (0, u "<init>"), (0, u "()V"), (1, .class_ 12), (1, u "java/lang/AbstractStringBuilder"), (0, u "EMPTYVALUE"), (0, u "[B"), (0, .fieldref 10 16), (0, .nameAndType 17 14), (0, u "value"), (0, .fieldref 1 19), (0, .nameAndType 20 21), (0, u "COMPACT_STRINGS"), (0, u "Z"), (0, .fieldref 10 23), (0, .nameAndType 24 25), (0, u "coder"), (0, u "B"), (6, .methodref 1 33), (0, .nameAndType 34 35), (0, u "length"), (0, u "()I"), (4, .methodref 1 41), (0, .nameAndType 24 42), (0, u "()B"), (2, u "append"), (0, u "(Ljava/lang/String;)Ljava/lang/AbstractStringBuilder;"), (1, .class_ 49), (0, u "java/lang/CharSequence"), (19, u "(Ljava/lang/String;)V"), (5, u "maybeLatin1"), (3, .fieldref 10 80), (0, .nameAndType 81 82), (0, u "count"), (0, u "I"), (2, u "isLatin1"), (0, u "()Z"), (13, .methodref 10 101), (0, .nameAndType 102 103), (0, u "ensureCapacityInternal"), (0, u "(I)V"), (104, .methodref 10 209), (0, .nameAndType 210 211), (0, u "putStringAt"), (0, u "(ILjava/lang/String;)V"), (5, u "inflateIfNeededFor"), (2, .nameAndType 221 222), (0, u "getBytes"), (0, u "([BIB)V"), (174, .methodref 10 398), (0, .nameAndType 217 69), (0, .methodref 1 220), (3, u "()[B"), (40, .class_ 445), (0, u "java/lang/Appendable"), (106, u "getValue")] 56

def k12m0 : Method := { name := "<init>", desc := "()V", sig := { parameters := [], returnType := none }, accessFlags := 0, code := none }
def k12c1 : Code := { maxStack := 2, maxLocals := 2, code := jdk_68_method_2_code, exceptionTable := #[], attributes := #[] }
def k12m1 : Method := { name := "<init>", desc := "(I)V", sig := { parameters := [.int], returnType := none }, accessFlags := 0, code := some k12c1 }
def k12c2 : Code := { maxStack := 1, maxLocals := 1, code := jdk_68_method_6_code, exceptionTable := #[], attributes := #[] }
def k12m2 : Method := { name := "length", desc := "()I", sig := { parameters := [], returnType := some .int }, accessFlags := 1, code := some k12c2 }
def k12c3 : Code := { maxStack := 4, maxLocals := 3, code := jdk_68_method_9_code, exceptionTable := #[], attributes := #[] }
def k12m3 : Method := { name := "ensureCapacityInternal", desc := "(I)V", sig := { parameters := [.int], returnType := none }, accessFlags := 2, code := some k12c3 }
def k12c4 : Code := { maxStack := 3, maxLocals := 3, code := jdk_68_method_22_code, exceptionTable := #[], attributes := #[] }
def k12m4 : Method := { name := "append", desc := "(Ljava/lang/String;)Ljava/lang/AbstractStringBuilder;", sig := { parameters := [(.object "java/lang/String")], returnType := some (.object "java/lang/AbstractStringBuilder") }, accessFlags := 1, code := some k12c4 }
def k12c5 : Code := { maxStack := 1, maxLocals := 1, code := jdk_68_method_64_code, exceptionTable := #[], attributes := #[] }
def k12m5 : Method := { name := "getValue", desc := "()[B", sig := { parameters := [], returnType := some (.array .byte) }, accessFlags := 16, code := some k12c5 }
def k12c6 : Code := { maxStack := 1, maxLocals := 1, code := jdk_68_method_68_code, exceptionTable := #[], attributes := #[] }
def k12m6 : Method := { name := "isLatin1", desc := "()Z", sig := { parameters := [], returnType := some .boolean }, accessFlags := 16, code := some k12c6 }
def k12c7 : Code := { maxStack := 2, maxLocals := 2, code := jdk_68_method_71_code, exceptionTable := #[], attributes := #[] }
def k12m7 : Method := { name := "inflateIfNeededFor", desc := "(Ljava/lang/String;)V", sig := { parameters := [(.object "java/lang/String")], returnType := none }, accessFlags := 2, code := some k12c7 }
def k12c8 : Code := { maxStack := 4, maxLocals := 3, code := jdk_68_method_73_code, exceptionTable := #[], attributes := #[] }
def k12m8 : Method := { name := "putStringAt", desc := "(ILjava/lang/String;)V", sig := { parameters := [.int, (.object "java/lang/String")], returnType := none }, accessFlags := 2, code := some k12c8 }
/-- java/lang/AbstractStringBuilder -/
def k12 : Class := { plain "java/lang/AbstractStringBuilder" (some 0) with
  accessFlags := 1056
  interfaces := #[11, 4]
  cf := some (fileOf pool12 10 #[] #[{ accessFlags := 0, nameIndex := 7, descriptorIndex := 8, attributes := #[] }, { accessFlags := 0, nameIndex := 7, descriptorIndex := 103, attributes := #[] }, { accessFlags := 1, nameIndex := 34, descriptorIndex := 35, attributes := #[] }, { accessFlags := 2, nameIndex := 102, descriptorIndex := 103, attributes := #[] }, { accessFlags := 1, nameIndex := 45, descriptorIndex := 46, attributes := #[] }, { accessFlags := 16, nameIndex := 552, descriptorIndex := 403, attributes := #[] }, { accessFlags := 16, nameIndex := 85, descriptorIndex := 86, attributes := #[] }, { accessFlags := 2, nameIndex := 217, descriptorIndex := 69, attributes := #[] }, { accessFlags := 2, nameIndex := 210, descriptorIndex := 211, attributes := #[] }] 1056 4 #[444, 48] #[{ accessFlags := 0, nameIndex := 17, descriptorIndex := 14, attributes := #[] }, { accessFlags := 0, nameIndex := 24, descriptorIndex := 25, attributes := #[] }, { accessFlags := 0, nameIndex := 75, descriptorIndex := 21, attributes := #[] }, { accessFlags := 0, nameIndex := 81, descriptorIndex := 82, attributes := #[] }, { accessFlags := 26, nameIndex := 13, descriptorIndex := 14, attributes := #[] }])
  fields := #[{ name := "value", type := (.array .byte), accessFlags := 0, slot := 0, constantValue := 0 }, { name := "coder", type := .byte, accessFlags := 0, slot := 1, constantValue := 0 }, { name := "maybeLatin1", type := .boolean, accessFlags := 0, slot := 2, constantValue := 0 }, { name := "count", type := .int, accessFlags := 0, slot := 3, constantValue := 0 }, { name := "EMPTYVALUE", type := (.array .byte), accessFlags := 26, slot := 0, constantValue := 0 }]
  methods := #[k12m0, k12m1, k12m2, k12m3, k12m4, k12m5, k12m6, k12m7, k12m8]
  instanceTypes := #[(.array .byte), .byte, .boolean, .int]
  staticTypes := #[(.array .byte)]
  resolved := Array.replicate 609 none
  statics := none }

def pool13 : Array CpInfo := pool [(1, .methodref 2 3), (0, .class_ 4), (0, .nameAndType 5 6), (0, u "java/lang/AbstractStringBuilder"), (0, u "<init>"), (0, u "(I)V"), (11, .class_ 20), (1, u "java/lang/String"), (3, .class_ 26), (1, u "java/lang/StringBuilder"), (0, u "append"), (0, u "(Ljava/lang/String;)Ljava/lang/StringBuilder;"), (0, .methodref 2 30), (0, .nameAndType 27 31), (0, u "(Ljava/lang/String;)Ljava/lang/AbstractStringBuilder;"), (105, .methodref 18 138), (0, .nameAndType 5 139), (0, u "(Ljava/lang/StringBuilder;)V"), (5, u "()V"), (10, u "()I"), (186, .methodref 2 344), (0, .nameAndType 345 156), (0, u "length"), (3, .class_ 350), (0, u "java/lang/Appendable"), (0, .class_ 352), (0, u "java/io/Serializable"), (0, .class_ 354), (0, u "java/lang/Comparable"), (0, .class_ 356), (0, u "java/lang/CharSequence"), (0, u "serialVersionUID"), (0, u "J"), (40, u "toString"), (0, u "()Ljava/lang/String;")] 21

def k13c0 : Code := { maxStack := 2, maxLocals := 1, code := jdk_67_method_1_code, exceptionTable := #[], attributes := #[] }
def k13m0 : Method := { name := "<init>", desc := "()V", sig := { parameters := [], returnType := none }, accessFlags := 1, code := some k13c0 }
def k13c1 : Code := { maxStack := 2, maxLocals := 2, code := jdk_67_method_7_code, exceptionTable := #[], attributes := #[] }
def k13m1 : Method := { name := "append", desc := "(Ljava/lang/String;)Ljava/lang/StringBuilder;", sig := { parameters := [(.object "java/lang/String")], returnType := some (.object "java/lang/StringBuilder") }, accessFlags := 1, code := some k13c1 }
def k13c2 : Code := { maxStack := 3, maxLocals := 1, code := jdk_67_method_42_code, exceptionTable := #[], attributes := #[] }
def k13m2 : Method := { name := "toString", desc := "()Ljava/lang/String;", sig := { parameters := [], returnType := some (.object "java/lang/String") }, accessFlags := 1, code := some k13c2 }
def k13c3 : Code := { maxStack := 1, maxLocals := 1, code := jdk_67_method_93_code, exceptionTable := #[], attributes := #[] }
def k13m3 : Method := { name := "length", desc := "()I", sig := { parameters := [], returnType := some .int }, accessFlags := 4161, code := some k13c3 }
/-- java/lang/StringBuilder -/
def k13 : Class := { plain "java/lang/StringBuilder" (some 12) with
  accessFlags := 49
  interfaces := #[11, 2, 3, 4]
  cf := some (fileOf pool13 24 #[] #[{ accessFlags := 1, nameIndex := 5, descriptorIndex := 145, attributes := #[] }, { accessFlags := 1, nameIndex := 27, descriptorIndex := 28, attributes := #[] }, { accessFlags := 1, nameIndex := 399, descriptorIndex := 400, attributes := #[] }, { accessFlags := 4161, nameIndex := 345, descriptorIndex := 156, attributes := #[] }] 49 2 #[349, 351, 353, 355] #[{ accessFlags := 24, nameIndex := 357, descriptorIndex := 358, attributes := #[] }])
  fields := #[{ name := "serialVersionUID", type := .long, accessFlags := 24, slot := 0, constantValue := 0 }]
  methods := #[k13m0, k13m1, k13m2, k13m3]
  instanceTypes := #[(.array .byte), .byte, .boolean, .int]
  staticTypes := #[.long]
  resolved := Array.replicate 422 none
  statics := none }

def pool14 : Array CpInfo := pool [(2, .class_ 4), (1, u "java/lang/Object"), (0, u "<init>"), (0, u "()V"), (1, .class_ 10), (1, u "java/lang/System"), (0, u "allowSecurityManager"), (0, u "I"), (16, u "cons"), (0, u "Ljava/io/Console;"), (77, .class_ 110), (1, u "java/lang/System$CallersHolder"), (43, u "initialErrStream"), (0, u "Ljava/io/PrintStream;"), (19, u "security"), (0, u "Ljava/lang/SecurityManager;"), (31, .class_ 209), (0, u "java/lang/System$1"), (7, u "props"), (0, u "Ljava/util/Properties;"), (2, u "lineSeparator"), (0, u "Ljava/lang/String;"), (96, .class_ 321), (1, u "java/lang/System$LoggerFinder"), (5, .class_ 328), (0, u "java/lang/System$Logger"), (67, u "err"), (2, u "out"), (91, u "notSupportedJnuEncoding"), (15, u "in"), (17, u "initialIn"), (0, u "Ljava/io/InputStream;"), (35, u "bootLayer"), (0, u "Ljava/lang/ModuleLayer;"), (99, .class_ 664), (0, u "java/lang/System$2"), (9, u "NEVER"), (2, u "MAYBE"), (49, u "arraycopy"), (0, u "(Ljava/lang/Object;ILjava/lang/Object;II)V"), (72, .class_ 802), (0, u "java/lang/System$Logger$Level")] 31

def k14m0 : Method := { name := "<init>", desc := "()V", sig := { parameters := [], returnType := none }, accessFlags := 2, code := none }
def k14m1 : Method := { name := "arraycopy", desc := "(Ljava/lang/Object;ILjava/lang/Object;II)V", sig := { parameters := [(.object "java/lang/Object"), .int, (.object "java/lang/Object"), .int, .int], returnType := none }, accessFlags := 265, code := none }
/-- java/lang/System -/
def k14 : Class := { plain "java/lang/System" (some 0) with
  accessFlags := 49
  interfaces := #[]
  cf := some (fileOf pool14 8 #[.nestMembers #[319, 327, 801, 108, 663, 208]] #[{ accessFlags := 2, nameIndex := 5, descriptorIndex := 6, attributes := #[] }, { accessFlags := 265, nameIndex := 727, descriptorIndex := 728, attributes := #[] }] 49 2 #[] #[{ accessFlags := 25, nameIndex := 507, descriptorIndex := 526, attributes := #[] }, { accessFlags := 25, nameIndex := 399, descriptorIndex := 155, attributes := #[] }, { accessFlags := 25, nameIndex := 396, descriptorIndex := 155, attributes := #[] }, { accessFlags := 10, nameIndex := 525, descriptorIndex := 526, attributes := #[] }, { accessFlags := 26, nameIndex := 674, descriptorIndex := 12, attributes := #[] }, { accessFlags := 26, nameIndex := 677, descriptorIndex := 12, attributes := #[] }, { accessFlags := 10, nameIndex := 11, descriptorIndex := 12, attributes := #[] }, { accessFlags := 74, nameIndex := 175, descriptorIndex := 176, attributes := #[] }, { accessFlags := 10, nameIndex := 491, descriptorIndex := 222, attributes := #[] }, { accessFlags := 74, nameIndex := 29, descriptorIndex := 30, attributes := #[] }, { accessFlags := 74, nameIndex := 154, descriptorIndex := 155, attributes := #[] }, { accessFlags := 10, nameIndex := 217, descriptorIndex := 218, attributes := #[] }, { accessFlags := 10, nameIndex := 221, descriptorIndex := 222, attributes := #[] }, { accessFlags := 8, nameIndex := 562, descriptorIndex := 563, attributes := #[] }])
  fields := #[{ name := "in", type := (.object "java/io/InputStream"), accessFlags := 25, slot := 0, constantValue := 0 }, { name := "out", type := (.object "java/io/PrintStream"), accessFlags := 25, slot := 1, constantValue := 0 }, { name := "err", type := (.object "java/io/PrintStream"), accessFlags := 25, slot := 2, constantValue := 0 }, { name := "initialIn", type := (.object "java/io/InputStream"), accessFlags := 10, slot := 3, constantValue := 0 }, { name := "NEVER", type := .int, accessFlags := 26, slot := 4, constantValue := 0 }, { name := "MAYBE", type := .int, accessFlags := 26, slot := 5, constantValue := 0 }, { name := "allowSecurityManager", type := .int, accessFlags := 10, slot := 6, constantValue := 0 }, { name := "security", type := (.object "java/lang/SecurityManager"), accessFlags := 74, slot := 7, constantValue := 0 }, { name := "notSupportedJnuEncoding", type := (.object "java/lang/String"), accessFlags := 10, slot := 8, constantValue := 0 }, { name := "cons", type := (.object "java/io/Console"), accessFlags := 74, slot := 9, constantValue := 0 }, { name := "initialErrStream", type := (.object "java/io/PrintStream"), accessFlags := 74, slot := 10, constantValue := 0 }, { name := "props", type := (.object "java/util/Properties"), accessFlags := 10, slot := 11, constantValue := 0 }, { name := "lineSeparator", type := (.object "java/lang/String"), accessFlags := 10, slot := 12, constantValue := 0 }, { name := "bootLayer", type := (.object "java/lang/ModuleLayer"), accessFlags := 8, slot := 13, constantValue := 0 }]
  methods := #[k14m0, k14m1]
  instanceTypes := #[]
  staticTypes := #[(.object "java/io/InputStream"), (.object "java/io/PrintStream"), (.object "java/io/PrintStream"), (.object "java/io/InputStream"), .int, .int, .int, (.object "java/lang/SecurityManager"), (.object "java/lang/String"), (.object "java/io/Console"), (.object "java/io/PrintStream"), (.object "java/util/Properties"), (.object "java/lang/String"), (.object "java/lang/ModuleLayer")]
  resolved := Array.replicate 834 none
  statics := none }

def pool15 : Array CpInfo := pool [(2, .class_ 4), (1, u "java/lang/Object"), (0, u "<init>"), (0, u "()V"), (7, .class_ 16), (1, u "java/util/Arrays"), (57, .class_ 76), (1, u "java/util/Arrays$NaturalOrder"), (36, .class_ 115), (1, u "java/util/Arrays$LegacyMergeSort"), (1, u "Z"), (21, u "copyOfRange"), (10, .methodref 151 152), (0, .class_ 153), (0, .nameAndType 154 155), (0, u "java/lang/System"), (0, u "arraycopy"), (0, u "(Ljava/lang/Object;ILjava/lang/Object;II)V"), (148, .methodref 305 306), (0, .class_ 307), (0, .nameAndType 308 309), (0, u "java/lang/Math"), (0, u "min"), (0, u "(II)I"), (29, .methodref 14 340), (0, .nameAndType 341 342), (0, u "copyOfRangeByte"), (0, u "([BII)[B"), (0, .methodref 14 344), (0, .nameAndType 345 346), (0, u "checkLength"), (0, u "(II)V"), (28, .class_ 376), (0, u "java/util/Arrays$ArrayList"), (68, u "$assertionsDisabled"), (269, u "MIN_ARRAY_SORT_GRAN"), (0, u "I"), (2, u "INSERTIONSORT_THRESHOLD"), (255, .class_ 976), (0, u "java/util/Arrays$ArrayItr")] 52

def k15m0 : Method := { name := "<init>", desc := "()V", sig := { parameters := [], returnType := none }, accessFlags := 2, code := none }
def k15c1 : Code := { maxStack := 4, maxLocals := 2, code := jdk_65_method_131_code, exceptionTable := #[], attributes := #[] }
def k15m1 : Method := { name := "checkLength", desc := "(II)V", sig := { parameters := [.int, .int], returnType := none }, accessFlags := 10, code := some k15c1 }
def k15c2 : Code := { maxStack := 3, maxLocals := 3, code := jdk_65_method_132_code, exceptionTable := #[], attributes := #[] }
def k15m2 : Method := { name := "copyOfRange", desc := "([BII)[B", sig := { parameters := [(.array .byte), .int, .int], returnType := some (.array .byte) }, accessFlags := 9, code := some k15c2 }
def k15c3 : Code := { maxStack := 6, maxLocals := 5, code := jdk_65_method_133_code, exceptionTable := #[], attributes := #[] }
def k15m3 : Method := { name := "copyOfRangeByte", desc := "([BII)[B", sig := { parameters := [(.array .byte), .int, .int], returnType := some (.array .byte) }, accessFlags := 10, code := some k15c3 }
/-- java/util/Arrays -/
def k15 : Class := { plain "java/util/Arrays" (some 0) with
  accessFlags := 49
  interfaces := #[]
  cf := some (fileOf pool15 14 #[.nestMembers #[975, 375, 113, 74]] #[{ accessFlags := 2, nameIndex := 5, descriptorIndex := 6, attributes := #[] }, { accessFlags := 10, nameIndex := 345, descriptorIndex := 346, attributes := #[] }, { accessFlags := 9, nameIndex := 139, descriptorIndex := 342, attributes := #[] }, { accessFlags := 10, nameIndex := 341, descriptorIndex := 342, attributes := #[] }] 49 2 #[] #[{ accessFlags := 26, nameIndex := 715, descriptorIndex := 716, attributes := #[] }, { accessFlags := 26, nameIndex := 719, descriptorIndex := 716, attributes := #[] }, { accessFlags := 4120, nameIndex := 445, descriptorIndex := 117, attributes := #[] }])
  fields := #[{ name := "MIN_ARRAY_SORT_GRAN", type := .int, accessFlags := 26, slot := 0, constantValue := 0 }, { name := "INSERTIONSORT_THRESHOLD", type := .int, accessFlags := 26, slot := 1, constantValue := 0 }, { name := "$assertionsDisabled", type := .boolean, accessFlags := 4120, slot := 2, constantValue := 0 }]
  methods := #[k15m0, k15m1, k15m2, k15m3]
  instanceTypes := #[]
  staticTypes := #[.int, .int, .boolean]
  resolved := Array.replicate 1029 none
  statics := none }

def pool16 : Array CpInfo := pool [(1, .class_ 2), (0, u "java/lang/Math"), (1, .class_ 6), (1, u "java/lang/Object"), (0, u "<init>"), (0, u "()V"), (89, .class_ 100), (1, u "java/lang/Math$RandomNumberGeneratorHolder"), (71, u "negativeZeroFloatBits"), (0, u "J"), (2, u "negativeZeroDoubleBits"), (24, u "min"), (43, u "$assertionsDisabled"), (0, u "Z"), (88, u "(II)I"), (2, u "twoToTheDoubleScaleDown"), (0, u "D"), (4, u "twoToTheDoubleScaleUp"), (9, u "E"), (3, u "PI"), (2, u "TAU"), (2, u "DEGREES_TO_RADIANS"), (0, u "RADIANS_TO_DEGREES")] 94

def k16m0 : Method := { name := "<init>", desc := "()V", sig := { parameters := [], returnType := none }, accessFlags := 2, code := none }
def k16c1 : Code := { maxStack := 2, maxLocals := 2, code := jdk_29_method_69_code, exceptionTable := #[], attributes := #[] }
def k16m1 : Method := { name := "min", desc := "(II)I", sig := { parameters := [.int, .int], returnType := some .int }, accessFlags := 9, code := some k16c1 }
/-- java/lang/Math -/
def k16 : Class := { plain "java/lang/Math" (some 0) with
  accessFlags := 49
  interfaces := #[]
  cf := some (fileOf pool16 1 #[.nestMembers #[98]] #[{ accessFlags := 2, nameIndex := 7, descriptorIndex := 8, attributes := #[] }, { accessFlags := 9, nameIndex := 201, descriptorIndex := 335, attributes := #[] }] 49 4 #[] #[{ accessFlags := 25, nameIndex := 354, descriptorIndex := 339, attributes := #[] }, { accessFlags := 25, nameIndex := 358, descriptorIndex := 339, attributes := #[] }, { accessFlags := 25, nameIndex := 361, descriptorIndex := 339, attributes := #[] }, { accessFlags := 26, nameIndex := 364, descriptorIndex := 339, attributes := #[] }, { accessFlags := 26, nameIndex := 365, descriptorIndex := 339, attributes := #[] }, { accessFlags := 26, nameIndex := 172, descriptorIndex := 173, attributes := #[] }, { accessFlags := 26, nameIndex := 176, descriptorIndex := 173, attributes := #[] }, { accessFlags := 8, nameIndex := 344, descriptorIndex := 339, attributes := #[] }, { accessFlags := 8, nameIndex := 338, descriptorIndex := 339, attributes := #[] }, { accessFlags := 4120, nameIndex := 245, descriptorIndex := 246, attributes := #[] }])
  fields := #[{ name := "E", type := .double, accessFlags := 25, slot := 0, constantValue := 0 }, { name := "PI", type := .double, accessFlags := 25, slot := 1, constantValue := 0 }, { name := "TAU", type := .double, accessFlags := 25, slot := 2, constantValue := 0 }, { name := "DEGREES_TO_RADIANS", type := .double, accessFlags := 26, slot := 3, constantValue := 0 }, { name := "RADIANS_TO_DEGREES", type := .double, accessFlags := 26, slot := 4, constantValue := 0 }, { name := "negativeZeroFloatBits", type := .long, accessFlags := 26, slot := 5, constantValue := 0 }, { name := "negativeZeroDoubleBits", type := .long, accessFlags := 26, slot := 6, constantValue := 0 }, { name := "twoToTheDoubleScaleUp", type := .double, accessFlags := 8, slot := 7, constantValue := 0 }, { name := "twoToTheDoubleScaleDown", type := .double, accessFlags := 8, slot := 8, constantValue := 0 }, { name := "$assertionsDisabled", type := .boolean, accessFlags := 4120, slot := 9, constantValue := 0 }]
  methods := #[k16m0, k16m1]
  instanceTypes := #[]
  staticTypes := #[.double, .double, .double, .double, .double, .long, .long, .double, .double, .boolean]
  resolved := Array.replicate 460 none
  statics := none }

def pool17 : Array CpInfo := pool [(1, .class_ 2), (0, u "java/lang/String"), (1, .class_ 6), (1, u "java/lang/Object"), (0, u "<init>"), (0, u "()V"), (0, .methodref 1 10), (0, .nameAndType 11 12), (0, u "checkIndex"), (0, u "(II)V"), (1, .class_ 16), (1, u "java/lang/StringLatin1"), (36, u "([BI)C"), (67, u "$assertionsDisabled"), (0, u "Z"), (98, .class_ 223), (1, u "java/lang/StringLatin1$LinesSpliterator"), (28, u "charAt"), (137, .class_ 391), (0, u "java/lang/StringLatin1$CharsSpliterator")] 3

def k17m0 : Method := { name := "<init>", desc := "()V", sig := { parameters := [], returnType := none }, accessFlags := 0, code := none }
def k17c1 : Code := { maxStack := 2, maxLocals := 2, code := jdk_43_method_2_code, exceptionTable := #[], attributes := #[] }
def k17m1 : Method := { name := "charAt", desc := "([BI)C", sig := { parameters := [(.array .byte), .int], returnType := some .char }, accessFlags := 9, code := some k17c1 }
/-- java/lang/StringLatin1 -/
def k17 : Class := { plain "java/lang/StringLatin1" (some 0) with
  accessFlags := 48
  interfaces := #[]
  cf := some (fileOf pool17 14 #[.nestMembers #[390, 221]] #[{ accessFlags := 0, nameIndex := 7, descriptorIndex := 8, attributes := #[] }, { accessFlags := 9, nameIndex := 252, descriptorIndex := 53, attributes := #[] }] 48 4 #[] #[{ accessFlags := 4120, nameIndex := 121, descriptorIndex := 122, attributes := #[] }])
  fields := #[{ name := "$assertionsDisabled", type := .boolean, accessFlags := 4120, slot := 0, constantValue := 0 }]
  methods := #[k17m0, k17m1]
  instanceTypes := #[]
  staticTypes := #[.boolean]
  resolved := Array.replicate 395 none
  statics := none }

def pool18 : Array CpInfo := pool [(2, .class_ 4), (1, u "java/lang/Object"), (0, u "<init>"), (0, u "()V"), (17, .class_ 26), (1, u "jdk/internal/util/Preconditions"), (6, u "checkIndex"), (21, .class_ 56), (0, u "jdk/internal/util/Preconditions$4"), (57, .class_ 115), (0, u "jdk/internal/util/Preconditions$1"), (7, u "SIOOBE_FORMATTER"), (0, u "Ljava/util/function/BiFunction;"), (0, .class_ 126), (0, u "jdk/internal/util/Preconditions$2"), (3, u "AIOOBE_FORMATTER"), (0, .class_ 132), (0, u "jdk/internal/util/Preconditions$3"), (3, u "IOOBE_FORMATTER"), (41, u "(IILjava/util/function/BiFunction;)I")] 15

def k18m0 : Method := { name := "<init>", desc := "()V", sig := { parameters := [], returnType := none }, accessFlags := 1, code := none }
def k18c1 : Code := { maxStack := 3, maxLocals := 3, code := jdk_41_method_11_code, exceptionTable := #[], attributes := #[] }
def k18m1 : Method := { name := "checkIndex", desc := "(IILjava/util/function/BiFunction;)I", sig := { parameters := [.int, .int, (.object "java/util/function/BiFunction")], returnType := some .int }, accessFlags := 9, code := some k18c1 }
/-- jdk/internal/util/Preconditions -/
def k18 : Class := { plain "jdk/internal/util/Preconditions" (some 0) with
  accessFlags := 33
  interfaces := #[]
  cf := some (fileOf pool18 24 #[.nestMembers #[55, 131, 125, 114]] #[{ accessFlags := 1, nameIndex := 5, descriptorIndex := 6, attributes := #[] }, { accessFlags := 9, nameIndex := 33, descriptorIndex := 178, attributes := #[] }] 33 2 #[] #[{ accessFlags := 25, nameIndex := 123, descriptorIndex := 124, attributes := #[] }, { accessFlags := 25, nameIndex := 130, descriptorIndex := 124, attributes := #[] }, { accessFlags := 25, nameIndex := 136, descriptorIndex := 124, attributes := #[] }])
  fields := #[{ name := "SIOOBE_FORMATTER", type := (.object "java/util/function/BiFunction"), accessFlags := 25, slot := 0, constantValue := 0 }, { name := "AIOOBE_FORMATTER", type := (.object "java/util/function/BiFunction"), accessFlags := 25, slot := 1, constantValue := 0 }, { name := "IOOBE_FORMATTER", type := (.object "java/util/function/BiFunction"), accessFlags := 25, slot := 2, constantValue := 0 }]
  methods := #[k18m0, k18m1]
  instanceTypes := #[]
  staticTypes := #[(.object "java/util/function/BiFunction"), (.object "java/util/function/BiFunction"), (.object "java/util/function/BiFunction")]
  resolved := Array.replicate 194 none
  statics := some 1 }

def pool19 : Array CpInfo := pool [(9, u "<init>"), (6, .class_ 18), (1, u "java/lang/Object"), (0, u "()V"), (1, .class_ 23), (1, u "jdk/internal/util/ArraysSupport"), (0, u "LOG2_ARRAY_LONG_INDEX_SCALE"), (0, u "I"), (2, u "U"), (0, u "Ljdk/internal/misc/Unsafe;"), (8, u "BIG_ENDIAN"), (0, u "Z"), (8, u "LOG2_BYTE_BIT_SIZE"), (4, u "LOG2_ARRAY_INT_INDEX_SCALE"), (54, u "JLA"), (0, u "Ljdk/internal/access/JavaLangAccess;"), (11, u "LOG2_ARRAY_BOOLEAN_INDEX_SCALE"), (9, u "LOG2_ARRAY_BYTE_INDEX_SCALE"), (5, u "LOG2_ARRAY_CHAR_INDEX_SCALE"), (5, u "LOG2_ARRAY_SHORT_INDEX_SCALE"), (18, u "LOG2_ARRAY_FLOAT_INDEX_SCALE"), (24, u "LOG2_ARRAY_DOUBLE_INDEX_SCALE"), (89, u "T_BOOLEAN"), (2, u "T_CHAR"), (1, u "T_FLOAT"), (1, u "T_DOUBLE"), (1, u "T_BYTE"), (1, u "T_SHORT"), (1, u "T_INT"), (1, u "T_LONG"), (1, u "SOFT_MAX_ARRAY_LENGTH")] 83

def k19m0 : Method := { name := "<init>", desc := "()V", sig := { parameters := [], returnType := none }, accessFlags := 2, code := none }
/-- jdk/internal/util/ArraysSupport -/
def k19 : Class := { plain "jdk/internal/util/ArraysSupport" (some 0) with
  accessFlags := 33
  interfaces := #[]
  cf := some (fileOf pool19 21 #[] #[{ accessFlags := 2, nameIndex := 9, descriptorIndex := 19, attributes := #[] }] 33 16 #[] #[{ accessFlags := 24, nameIndex := 28, descriptorIndex := 29, attributes := #[] }, { accessFlags := 26, nameIndex := 38, descriptorIndex := 39, attributes := #[] }, { accessFlags := 25, nameIndex := 121, descriptorIndex := 25, attributes := #[] }, { accessFlags := 25, nameIndex := 131, descriptorIndex := 25, attributes := #[] }, { accessFlags := 25, nameIndex := 137, descriptorIndex := 25, attributes := #[] }, { accessFlags := 25, nameIndex := 143, descriptorIndex := 25, attributes := #[] }, { accessFlags := 25, nameIndex := 53, descriptorIndex := 25, attributes := #[] }, { accessFlags := 25, nameIndex := 24, descriptorIndex := 25, attributes := #[] }, { accessFlags := 25, nameIndex := 162, descriptorIndex := 25, attributes := #[] }, { accessFlags := 25, nameIndex := 187, descriptorIndex := 25, attributes := #[] }, { accessFlags := 26, nameIndex := 48, descriptorIndex := 25, attributes := #[] }, { accessFlags := 25, nameIndex := 277, descriptorIndex := 25, attributes := #[] }, { accessFlags := 25, nameIndex := 280, descriptorIndex := 25, attributes := #[] }, { accessFlags := 25, nameIndex := 282, descriptorIndex := 25, attributes := #[] }, { accessFlags := 25, nameIndex := 284, descriptorIndex := 25, attributes := #[] }, { accessFlags := 25, nameIndex := 286, descriptorIndex := 25, attributes := #[] }, { accessFlags := 25, nameIndex := 288, descriptorIndex := 25, attributes := #[] }, { accessFlags := 25, nameIndex := 290, descriptorIndex := 25, attributes := #[] }, { accessFlags := 25, nameIndex := 292, descriptorIndex := 25, attributes := #[] }, { accessFlags := 26, nameIndex := 108, descriptorIndex := 109, attributes := #[] }, { accessFlags := 25, nameIndex := 294, descriptorIndex := 25, attributes := #[] }])
  fields := #[{ name := "U", type := (.object "jdk/internal/misc/Unsafe"), accessFlags := 24, slot := 0, constantValue := 0 }, { name := "BIG_ENDIAN", type := .boolean, accessFlags := 26, slot := 1, constantValue := 0 }, { name := "LOG2_ARRAY_BOOLEAN_INDEX_SCALE", type := .int, accessFlags := 25, slot := 2, constantValue := 0 }, { name := "LOG2_ARRAY_BYTE_INDEX_SCALE", type := .int, accessFlags := 25, slot := 3, constantValue := 0 }, { name := "LOG2_ARRAY_CHAR_INDEX_SCALE", type := .int, accessFlags := 25, slot := 4, constantValue := 0 }, { name := "LOG2_ARRAY_SHORT_INDEX_SCALE", type := .int, accessFlags := 25, slot := 5, constantValue := 0 }, { name := "LOG2_ARRAY_INT_INDEX_SCALE", type := .int, accessFlags := 25, slot := 6, constantValue := 0 }, { name := "LOG2_ARRAY_LONG_INDEX_SCALE", type := .int, accessFlags := 25, slot := 7, constantValue := 0 }, { name := "LOG2_ARRAY_FLOAT_INDEX_SCALE", type := .int, accessFlags := 25, slot := 8, constantValue := 0 }, { name := "LOG2_ARRAY_DOUBLE_INDEX_SCALE", type := .int, accessFlags := 25, slot := 9, constantValue := 0 }, { name := "LOG2_BYTE_BIT_SIZE", type := .int, accessFlags := 26, slot := 10, constantValue := 0 }, { name := "T_BOOLEAN", type := .int, accessFlags := 25, slot := 11, constantValue := 0 }, { name := "T_CHAR", type := .int, accessFlags := 25, slot := 12, constantValue := 0 }, { name := "T_FLOAT", type := .int, accessFlags := 25, slot := 13, constantValue := 0 }, { name := "T_DOUBLE", type := .int, accessFlags := 25, slot := 14, constantValue := 0 }, { name := "T_BYTE", type := .int, accessFlags := 25, slot := 15, constantValue := 0 }, { name := "T_SHORT", type := .int, accessFlags := 25, slot := 16, constantValue := 0 }, { name := "T_INT", type := .int, accessFlags := 25, slot := 17, constantValue := 0 }, { name := "T_LONG", type := .int, accessFlags := 25, slot := 18, constantValue := 0 }, { name := "JLA", type := (.object "jdk/internal/access/JavaLangAccess"), accessFlags := 26, slot := 19, constantValue := 0 }, { name := "SOFT_MAX_ARRAY_LENGTH", type := .int, accessFlags := 25, slot := 20, constantValue := 0 }]
  methods := #[k19m0]
  instanceTypes := #[]
  staticTypes := #[(.object "jdk/internal/misc/Unsafe"), .boolean, .int, .int, .int, .int, .int, .int, .int, .int, .int, .int, .int, .int, .int, .int, .int, .int, .int, (.object "jdk/internal/access/JavaLangAccess"), .int]
  resolved := Array.replicate 378 none
  statics := none }

def pool20 : Array CpInfo := pool [(1, u "java/lang/Cloneable"), (0, .class_ 1), (0, u "java/lang/Object"), (0, .class_ 3)] 3

/-- java/lang/Cloneable -/
def k20 : Class := { plain "java/lang/Cloneable" (some 0) with
  accessFlags := 1537
  interfaces := #[]
  cf := some (fileOf pool20 2 #[] #[] 1537 4 #[] #[])
  fields := #[]
  methods := #[]
  instanceTypes := #[]
  staticTypes := #[]
  resolved := Array.replicate 8 none
  statics := none }

/-- the primitive byte -/
def k21 : Class := { plain "byte" none with kind := .primitive 'B', accessFlags := 0x411 }
/-- [B -/
def k22 : Class := { plain "[B" (some 0) with kind := .array 21 .byte, interfaces := #[20, 2], accessFlags := 1041 }

/-- the primitive char -/
def k23 : Class := { plain "char" none with kind := .primitive 'C', accessFlags := 0x411 }
/-- [C -/
def k24 : Class := { plain "[C" (some 0) with kind := .array 23 .char, interfaces := #[20, 2], accessFlags := 1041 }

/-- the primitive int -/
def k25 : Class := { plain "int" none with kind := .primitive 'I', accessFlags := 0x411 }
/-- [I -/
def k26 : Class := { plain "[I" (some 0) with kind := .array 25 .int, interfaces := #[20, 2], accessFlags := 1041 }

def heap : Heap := #[{ cls := 7, slots := #[.long 0, .int 1, .null, .int 0, .null, .int 0, .int 0], vm := .statics 7 },
  { cls := 18, slots := #[.null, .null, .null], vm := .statics 18 }]
def classes : Array Class := #[k0, k1, k2, k3, k4, k5, k6, k7, k8, k9, k10, k11, k12, k13, k14, k15, k16, k17, k18, k19, k20, k21, k22, k23, k24, k25, k26]
def interned : List (Array UInt16 × Addr) := []
def slotsUsed : Nat := 10
def theMethod : MethodId := ⟨1, 1⟩
def args0 : Array Value := #[.int 5, .int 5, .int 5]
def aboutOver (below : List Frame) : State where
  vm := { classes := classes, interned := interned.toArray }
  heap := heap
  slotsUsed := slotsUsed
  threads := #[{ frames := .invoking theMethod args0 :: below }]
def below0 : List Frame := [.native { method := ⟨0, 0⟩, args := #[] }]
def about1 : State := aboutOver below0
def p0 : Program := .bare "" "" ""
def e0 : Env := launch0.env 0 0 0
theorem w_frames : about1.frames = Frame.invoking theMethod args0 :: below0 := rfl
set_option maxRecDepth 65536 in
theorem w_args : argsFit about1.vm theMethod args0 = true := by decide +kernel
set_option maxRecDepth 65536 in
theorem w_heap : heapFits about1 = true := by decide +kernel
set_option maxRecDepth 65536 in
theorem w_runnable : about1.curStatus? = some .runnable := by decide +kernel
set_option maxRecDepth 65536 in
theorem w_alone : about1.alone = true := by decide +kernel
set_option maxRecDepth 65536 in
theorem w_named : about1.methodNamed? x = some theMethod := by decide +kernel
set_option maxRecDepth 65536 in
theorem w_hears : about1.hears theMethod below0 = true := by decide +kernel
set_option maxRecDepth 65536 in
theorem w_ripe : about1.ripe theMethod args0 below0 = true := by decide +kernel
theorem w_running : about1.status = .running := rfl
set_option maxRecDepth 65536 in
theorem w_room : about1.hasRoom e0.platform room_1 = true :=
  launch0.hasRoom_least _ room_1 (by decide +kernel) (by decide +kernel) (by decide +kernel) (by decide +kernel) (by decide +kernel) (by decide +kernel)
theorem allAtoms_all (ts : List Jvm.Cond) (a : Array Jvm.Value) (st : Jvm.State) : (allAtoms ts).before a st = ts.all (fun c => c.before a st) := by
  induction ts with
  | nil => rfl
  | cons c t ih =>
    show (Jvm.Cond.and c (allAtoms t)).before a st = _
    rw [Jvm.Cond.before_and, ih, List.all_cons]
def words1 : List Jvm.Cond := Jvm.Cond.code x code maxLocals ret :: tables_1
/-- a 'code' word, met by the world's own term for the bytes: nothing is compared byte by byte -/
theorem code_word {y : MethodName} {bytes : ByteArray} {mx : Nat} {rt : Option FieldType} {a : Array Value} {s : State} {m : MethodId} {meth : Method} {c : Code} (h1 : s.methodNamed? y = some m) (h2 : s.vm.method? m = some meth) (h3 : meth.code = some c) (h4 : c.code = bytes)
    (h5 : (c.maxLocals == mx && c.exceptionTable.isEmpty && decide (c.maxStack ≤ mostOperands) && decide (meth.sig.returnType = rt) && !meth.locks && decide (parseMethodDescriptor y.desc = some meth.sig)) = true) : (Jvm.Cond.code y bytes mx rt).before a s = true := by
  simp only [Bool.and_eq_true, beq_iff_eq, Bool.not_eq_true', decide_eq_true_eq] at h5
  obtain ⟨⟨⟨⟨⟨g1, g2⟩, g3⟩, g4⟩, g5⟩, g6⟩ := h5
  simp [Cond.before, Cond.holds, Cond.value, h1, h2, h3, h4, g1, g2, g3, g4, g5, g6]
def isCode : Jvm.Cond → Bool
  | .code _ _ _ _ => true
  | _ => false
theorem all_split {L : List Jvm.Cond} {P : Jvm.Cond → Bool} (h1 : L.all (fun c => isCode c || P c) = true) (h2 : ∀ c ∈ L.filter isCode, P c = true) : L.all P = true := by
  refine List.all_eq_true.mpr fun c hc => ?_
  have h := List.all_eq_true.mp h1 c hc
  rcases Bool.eq_false_or_eq_true (isCode c) with hi | hi
  · exact h2 c (List.mem_filter.mpr ⟨hc, hi⟩)
  · simpa [hi] using h
set_option maxRecDepth 65536 in
theorem w_c0 : (Jvm.Cond.code x code maxLocals ret).before args0 about1 = true := code_word (m := ⟨1, 1⟩) (meth := k1m1) (c := k1c1) (by decide +kernel) rfl rfl rfl (by decide +kernel)
set_option maxRecDepth 65536 in
theorem w_c1 : (Jvm.Cond.code ({ cls := "com/example/kindred/kindred/IdentifierToStringPinLaw", name := "str", desc := "(II)Ljava/lang/String;" } : Jvm.MethodName) method_4_code (2 : Nat) (Option.some (Jvm.ClassFile.FieldType.object "java/lang/String"))).before args0 about1 = true := code_word (m := ⟨1, 3⟩) (meth := k1m3) (c := k1c3) (by decide +kernel) rfl rfl rfl (by decide +kernel)
set_option maxRecDepth 65536 in
theorem w_c2 : (Jvm.Cond.code ({ cls := "com/example/kindred/kindred/IdentifierToStringPinLaw", name := "ch", desc := "(II)C" } : Jvm.MethodName) method_3_code (2 : Nat) (Option.some Jvm.ClassFile.FieldType.char)).before args0 about1 = true := code_word (m := ⟨1, 2⟩) (meth := k1m2) (c := k1c2) (by decide +kernel) rfl rfl rfl (by decide +kernel)
set_option maxRecDepth 65536 in
theorem w_c3 : (Jvm.Cond.code ({ cls := "java/lang/String", name := "<init>", desc := "([C)V" } : Jvm.MethodName) jdk_42_method_3_code (2 : Nat) (Option.none : Option Jvm.ClassFile.FieldType)).before args0 about1 = true := code_word (m := ⟨7, 1⟩) (meth := k7m1) (c := k7c1) (by decide +kernel) rfl rfl rfl (by decide +kernel)
set_option maxRecDepth 65536 in
theorem w_c4 : (Jvm.Cond.code ({ cls := "java/lang/String", name := "<init>", desc := "([CIILjava/lang/Void;)V" } : Jvm.MethodName) jdk_42_method_149_code (6 : Nat) (Option.none : Option Jvm.ClassFile.FieldType)).before args0 about1 = true := code_word (m := ⟨7, 6⟩) (meth := k7m6) (c := k7c6) (by decide +kernel) rfl rfl rfl (by decide +kernel)
set_option maxRecDepth 65536 in
theorem w_c5 : (Jvm.Cond.code ({ cls := "java/lang/Object", name := "<init>", desc := "()V" } : Jvm.MethodName) object_method_1_code (1 : Nat) (Option.none : Option Jvm.ClassFile.FieldType)).before args0 about1 = true := code_word (m := ⟨0, 0⟩) (meth := k0m0) (c := k0c0) (by decide +kernel) rfl rfl rfl (by decide +kernel)
set_option maxRecDepth 65536 in
theorem w_c6 : (Jvm.Cond.code ({ cls := "java/lang/StringUTF16", name := "compress", desc := "([CII)[B" } : Jvm.MethodName) jdk_52_method_16_code (6 : Nat) (Option.some (Jvm.ClassFile.FieldType.array Jvm.ClassFile.FieldType.byte))).before args0 about1 = true := code_word (m := ⟨8, 2⟩) (meth := k8m2) (c := k8c2) (by decide +kernel) rfl rfl rfl (by decide +kernel)
set_option maxRecDepth 65536 in
theorem w_c7 : (Jvm.Cond.code ({ cls := "java/lang/StringUTF16", name := "compress", desc := "([CI[BII)I" } : Jvm.MethodName) jdk_52_method_21_code (7 : Nat) (Option.some Jvm.ClassFile.FieldType.int)).before args0 about1 = true := code_word (m := ⟨8, 3⟩) (meth := k8m3) (c := k8c3) (by decide +kernel) rfl rfl rfl (by decide +kernel)
set_option maxRecDepth 65536 in
theorem w_c8 : (Jvm.Cond.code ({ cls := "java/lang/StringUTF16", name := "coderFromArrayLen", desc := "([BI)B" } : Jvm.MethodName) jdk_52_method_15_code (2 : Nat) (Option.some Jvm.ClassFile.FieldType.byte)).before args0 about1 = true := code_word (m := ⟨8, 1⟩) (meth := k8m1) (c := k8c1) (by decide +kernel) rfl rfl rfl (by decide +kernel)
set_option maxRecDepth 65536 in
theorem w_c9 : (Jvm.Cond.code ({ cls := "com/example/kindred/kindred/Identifier", name := "<init>", desc := "(Ljava/lang/String;Ljava/lang/String;)V" } : Jvm.MethodName) prog_12_method_1_code (3 : Nat) (Option.none : Option Jvm.ClassFile.FieldType)).before args0 about1 = true := code_word (m := ⟨10, 0⟩) (meth := k10m0) (c := k10c0) (by decide +kernel) rfl rfl rfl (by decide +kernel)
set_option maxRecDepth 65536 in
theorem w_c10 : (Jvm.Cond.code ({ cls := "java/lang/Record", name := "<init>", desc := "()V" } : Jvm.MethodName) jdk_30_method_1_code (1 : Nat) (Option.none : Option Jvm.ClassFile.FieldType)).before args0 about1 = true := code_word (m := ⟨9, 0⟩) (meth := k9m0) (c := k9c0) (by decide +kernel) rfl rfl rfl (by decide +kernel)
set_option maxRecDepth 65536 in
theorem w_c11 : (Jvm.Cond.code ({ cls := "com/example/kindred/kindred/Identifier", name := "toString", desc := "()Ljava/lang/String;" } : Jvm.MethodName) prog_12_method_7_code (1 : Nat) (Option.some (Jvm.ClassFile.FieldType.object "java/lang/String"))).before args0 about1 = true := code_word (m := ⟨10, 1⟩) (meth := k10m1) (c := k10c1) (by decide +kernel) rfl rfl rfl (by decide +kernel)
set_option maxRecDepth 65536 in
theorem w_c12 : (Jvm.Cond.code ({ cls := "java/lang/StringBuilder", name := "<init>", desc := "()V" } : Jvm.MethodName) jdk_67_method_1_code (1 : Nat) (Option.none : Option Jvm.ClassFile.FieldType)).before args0 about1 = true := code_word (m := ⟨13, 0⟩) (meth := k13m0) (c := k13c0) (by decide +kernel) rfl rfl rfl (by decide +kernel)
set_option maxRecDepth 65536 in
theorem w_c13 : (Jvm.Cond.code ({ cls := "java/lang/AbstractStringBuilder", name := "<init>", desc := "(I)V" } : Jvm.MethodName) jdk_68_method_2_code (2 : Nat) (Option.none : Option Jvm.ClassFile.FieldType)).before args0 about1 = true := code_word (m := ⟨12, 1⟩) (meth := k12m1) (c := k12c1) (by decide +kernel) rfl rfl rfl (by decide +kernel)
set_option maxRecDepth 65536 in
theorem w_c14 : (Jvm.Cond.code ({ cls := "java/lang/StringBuilder", name := "append", desc := "(Ljava/lang/String;)Ljava/lang/StringBuilder;" } : Jvm.MethodName) jdk_67_method_7_code (2 : Nat) (Option.some (Jvm.ClassFile.FieldType.object "java/lang/StringBuilder"))).before args0 about1 = true := code_word (m := ⟨13, 1⟩) (meth := k13m1) (c := k13c1) (by decide +kernel) rfl rfl rfl (by decide +kernel)
set_option maxRecDepth 65536 in
theorem w_c15 : (Jvm.Cond.code ({ cls := "java/lang/AbstractStringBuilder", name := "append", desc := "(Ljava/lang/String;)Ljava/lang/AbstractStringBuilder;" } : Jvm.MethodName) jdk_68_method_22_code (3 : Nat) (Option.some (Jvm.ClassFile.FieldType.object "java/lang/AbstractStringBuilder"))).before args0 about1 = true := code_word (m := ⟨12, 4⟩) (meth := k12m4) (c := k12c4) (by decide +kernel) rfl rfl rfl (by decide +kernel)
set_option maxRecDepth 65536 in
theorem w_c16 : (Jvm.Cond.code ({ cls := "java/lang/String", name := "length", desc := "()I" } : Jvm.MethodName) jdk_42_method_54_code (1 : Nat) (Option.some Jvm.ClassFile.FieldType.int)).before args0 about1 = true := code_word (m := ⟨7, 3⟩) (meth := k7m3) (c := k7c3) (by decide +kernel) rfl rfl rfl (by decide +kernel)
set_option maxRecDepth 65536 in
theorem w_c17 : (Jvm.Cond.code ({ cls := "java/lang/String", name := "coder", desc := "()B" } : Jvm.MethodName) jdk_42_method_152_code (1 : Nat) (Option.some Jvm.ClassFile.FieldType.byte)).before args0 about1 = true := code_word (m := ⟨7, 8⟩) (meth := k7m8) (c := k7c8) (by decide +kernel) rfl rfl rfl (by decide +kernel)
set_option maxRecDepth 65536 in
theorem w_c18 : (Jvm.Cond.code ({ cls := "java/lang/AbstractStringBuilder", name := "ensureCapacityInternal", desc := "(I)V" } : Jvm.MethodName) jdk_68_method_9_code (3 : Nat) (Option.none : Option Jvm.ClassFile.FieldType)).before args0 about1 = true := code_word (m := ⟨12, 3⟩) (meth := k12m3) (c := k12c3) (by decide +kernel) rfl rfl rfl (by decide +kernel)
set_option maxRecDepth 65536 in
theorem w_c19 : (Jvm.Cond.code ({ cls := "java/lang/AbstractStringBuilder", name := "putStringAt", desc := "(ILjava/lang/String;)V" } : Jvm.MethodName) jdk_68_method_73_code (3 : Nat) (Option.none : Option Jvm.ClassFile.FieldType)).before args0 about1 = true := code_word (m := ⟨12, 8⟩) (meth := k12m8) (c := k12c8) (by decide +kernel) rfl rfl rfl (by decide +kernel)
set_option maxRecDepth 65536 in
theorem w_c20 : (Jvm.Cond.code ({ cls := "java/lang/AbstractStringBuilder", name := "inflateIfNeededFor", desc := "(Ljava/lang/String;)V" } : Jvm.MethodName) jdk_68_method_71_code (2 : Nat) (Option.none : Option Jvm.ClassFile.FieldType)).before args0 about1 = true := code_word (m := ⟨12, 7⟩) (meth := k12m7) (c := k12c7) (by decide +kernel) rfl rfl rfl (by decide +kernel)
set_option maxRecDepth 65536 in
theorem w_c21 : (Jvm.Cond.code ({ cls := "java/lang/String", name := "getBytes", desc := "([BIB)V" } : Jvm.MethodName) jdk_42_method_147_code (4 : Nat) (Option.none : Option Jvm.ClassFile.FieldType)).before args0 about1 = true := code_word (m := ⟨7, 5⟩) (meth := k7m5) (c := k7c5) (by decide +kernel) rfl rfl rfl (by decide +kernel)
set_option maxRecDepth 65536 in
theorem w_c22 : (Jvm.Cond.code ({ cls := "java/lang/StringBuilder", name := "toString", desc := "()Ljava/lang/String;" } : Jvm.MethodName) jdk_67_method_42_code (1 : Nat) (Option.some (Jvm.ClassFile.FieldType.object "java/lang/String"))).before args0 about1 = true := code_word (m := ⟨13, 2⟩) (meth := k13m2) (c := k13c2) (by decide +kernel) rfl rfl rfl (by decide +kernel)
set_option maxRecDepth 65536 in
theorem w_c23 : (Jvm.Cond.code ({ cls := "java/lang/String", name := "<init>", desc := "(Ljava/lang/StringBuilder;)V" } : Jvm.MethodName) jdk_42_method_53_code (2 : Nat) (Option.none : Option Jvm.ClassFile.FieldType)).before args0 about1 = true := code_word (m := ⟨7, 2⟩) (meth := k7m2) (c := k7c2) (by decide +kernel) rfl rfl rfl (by decide +kernel)
set_option maxRecDepth 65536 in
theorem w_c24 : (Jvm.Cond.code ({ cls := "java/lang/String", name := "<init>", desc := "(Ljava/lang/AbstractStringBuilder;Ljava/lang/Void;)V" } : Jvm.MethodName) jdk_42_method_150_code (5 : Nat) (Option.none : Option Jvm.ClassFile.FieldType)).before args0 about1 = true := code_word (m := ⟨7, 7⟩) (meth := k7m7) (c := k7c7) (by decide +kernel) rfl rfl rfl (by decide +kernel)
set_option maxRecDepth 65536 in
theorem w_c25 : (Jvm.Cond.code ({ cls := "java/lang/AbstractStringBuilder", name := "getValue", desc := "()[B" } : Jvm.MethodName) jdk_68_method_64_code (1 : Nat) (Option.some (Jvm.ClassFile.FieldType.array Jvm.ClassFile.FieldType.byte))).before args0 about1 = true := code_word (m := ⟨12, 5⟩) (meth := k12m5) (c := k12c5) (by decide +kernel) rfl rfl rfl (by decide +kernel)
set_option maxRecDepth 65536 in
theorem w_c26 : (Jvm.Cond.code ({ cls := "java/lang/StringBuilder", name := "length", desc := "()I" } : Jvm.MethodName) jdk_67_method_93_code (1 : Nat) (Option.some Jvm.ClassFile.FieldType.int)).before args0 about1 = true := code_word (m := ⟨13, 3⟩) (meth := k13m3) (c := k13c3) (by decide +kernel) rfl rfl rfl (by decide +kernel)
set_option maxRecDepth 65536 in
theorem w_c27 : (Jvm.Cond.code ({ cls := "java/lang/AbstractStringBuilder", name := "length", desc := "()I" } : Jvm.MethodName) jdk_68_method_6_code (1 : Nat) (Option.some Jvm.ClassFile.FieldType.int)).before args0 about1 = true := code_word (m := ⟨12, 2⟩) (meth := k12m2) (c := k12c2) (by decide +kernel) rfl rfl rfl (by decide +kernel)
set_option maxRecDepth 65536 in
theorem w_c28 : (Jvm.Cond.code ({ cls := "java/lang/AbstractStringBuilder", name := "isLatin1", desc := "()Z" } : Jvm.MethodName) jdk_68_method_68_code (1 : Nat) (Option.some Jvm.ClassFile.FieldType.boolean)).before args0 about1 = true := code_word (m := ⟨12, 6⟩) (meth := k12m6) (c := k12c6) (by decide +kernel) rfl rfl rfl (by decide +kernel)
set_option maxRecDepth 65536 in
theorem w_c29 : (Jvm.Cond.code ({ cls := "java/util/Arrays", name := "copyOfRange", desc := "([BII)[B" } : Jvm.MethodName) jdk_65_method_132_code (3 : Nat) (Option.some (Jvm.ClassFile.FieldType.array Jvm.ClassFile.FieldType.byte))).before args0 about1 = true := code_word (m := ⟨15, 2⟩) (meth := k15m2) (c := k15c2) (by decide +kernel) rfl rfl rfl (by decide +kernel)
set_option maxRecDepth 65536 in
theorem w_c30 : (Jvm.Cond.code ({ cls := "java/util/Arrays", name := "copyOfRangeByte", desc := "([BII)[B" } : Jvm.MethodName) jdk_65_method_133_code (5 : Nat) (Option.some (Jvm.ClassFile.FieldType.array Jvm.ClassFile.FieldType.byte))).before args0 about1 = true := code_word (m := ⟨15, 3⟩) (meth := k15m3) (c := k15c3) (by decide +kernel) rfl rfl rfl (by decide +kernel)
set_option maxRecDepth 65536 in
theorem w_c31 : (Jvm.Cond.code ({ cls := "java/util/Arrays", name := "checkLength", desc := "(II)V" } : Jvm.MethodName) jdk_65_method_131_code (2 : Nat) (Option.none : Option Jvm.ClassFile.FieldType)).before args0 about1 = true := code_word (m := ⟨15, 1⟩) (meth := k15m1) (c := k15c1) (by decide +kernel) rfl rfl rfl (by decide +kernel)
set_option maxRecDepth 65536 in
theorem w_c32 : (Jvm.Cond.code ({ cls := "java/lang/Math", name := "min", desc := "(II)I" } : Jvm.MethodName) jdk_29_method_69_code (2 : Nat) (Option.some Jvm.ClassFile.FieldType.int)).before args0 about1 = true := code_word (m := ⟨16, 1⟩) (meth := k16m1) (c := k16c1) (by decide +kernel) rfl rfl rfl (by decide +kernel)
set_option maxRecDepth 65536 in
theorem w_c33 : (Jvm.Cond.code ({ cls := "com/example/kindred/kindred/IdentifierToStringPinLaw", name := "at", desc := "(Ljava/lang/String;IIII)Z" } : Jvm.MethodName) method_5_code (6 : Nat) (Option.some Jvm.ClassFile.FieldType.boolean)).before args0 about1 = true := code_word (m := ⟨1, 4⟩) (meth := k1m4) (c := k1c4) (by decide +kernel) rfl rfl rfl (by decide +kernel)
set_option maxRecDepth 65536 in
theorem w_c34 : (Jvm.Cond.code ({ cls := "java/lang/String", name := "charAt", desc := "(I)C" } : Jvm.MethodName) jdk_42_method_56_code (2 : Nat) (Option.some Jvm.ClassFile.FieldType.char)).before args0 about1 = true := code_word (m := ⟨7, 4⟩) (meth := k7m4) (c := k7c4) (by decide +kernel) rfl rfl rfl (by decide +kernel)
set_option maxRecDepth 65536 in
theorem w_c35 : (Jvm.Cond.code ({ cls := "java/lang/String", name := "isLatin1", desc := "()Z" } : Jvm.MethodName) jdk_42_method_154_code (1 : Nat) (Option.some Jvm.ClassFile.FieldType.boolean)).before args0 about1 = true := code_word (m := ⟨7, 9⟩) (meth := k7m9) (c := k7c9) (by decide +kernel) rfl rfl rfl (by decide +kernel)
set_option maxRecDepth 65536 in
theorem w_c36 : (Jvm.Cond.code ({ cls := "java/lang/StringLatin1", name := "charAt", desc := "([BI)C" } : Jvm.MethodName) jdk_43_method_2_code (2 : Nat) (Option.some Jvm.ClassFile.FieldType.char)).before args0 about1 = true := code_word (m := ⟨17, 1⟩) (meth := k17m1) (c := k17c1) (by decide +kernel) rfl rfl rfl (by decide +kernel)
set_option maxRecDepth 65536 in
theorem w_c37 : (Jvm.Cond.code ({ cls := "java/lang/String", name := "checkIndex", desc := "(II)V" } : Jvm.MethodName) jdk_42_method_155_code (2 : Nat) (Option.none : Option Jvm.ClassFile.FieldType)).before args0 about1 = true := code_word (m := ⟨7, 10⟩) (meth := k7m10) (c := k7c10) (by decide +kernel) rfl rfl rfl (by decide +kernel)
set_option maxRecDepth 65536 in
theorem w_c38 : (Jvm.Cond.code ({ cls := "jdk/internal/util/Preconditions", name := "checkIndex", desc := "(IILjava/util/function/BiFunction;)I" } : Jvm.MethodName) jdk_41_method_11_code (3 : Nat) (Option.some Jvm.ClassFile.FieldType.int)).before args0 about1 = true := code_word (m := ⟨18, 1⟩) (meth := k18m1) (c := k18c1) (by decide +kernel) rfl rfl rfl (by decide +kernel)
def codes1 : List Jvm.Cond := [Jvm.Cond.code x code maxLocals ret, Jvm.Cond.code ({ cls := "com/example/kindred/kindred/IdentifierToStringPinLaw", name := "str", desc := "(II)Ljava/lang/String;" } : Jvm.MethodName) method_4_code (2 : Nat) (Option.some (Jvm.ClassFile.FieldType.object "java/lang/String")), Jvm.Cond.code ({ cls := "com/example/kindred/kindred/IdentifierToStringPinLaw", name := "ch", desc := "(II)C" } : Jvm.MethodName) method_3_code (2 : Nat) (Option.some Jvm.ClassFile.FieldType.char), Jvm.Cond.code ({ cls := "java/lang/String", name := "<init>", desc := "([C)V" } : Jvm.MethodName) jdk_42_method_3_code (2 : Nat) (Option.none : Option Jvm.ClassFile.FieldType), Jvm.Cond.code ({ cls := "java/lang/String", name := "<init>", desc := "([CIILjava/lang/Void;)V" } : Jvm.MethodName) jdk_42_method_149_code (6 : Nat) (Option.none : Option Jvm.ClassFile.FieldType), Jvm.Cond.code ({ cls := "java/lang/Object", name := "<init>", desc := "()V" } : Jvm.MethodName) object_method_1_code (1 : Nat) (Option.none : Option Jvm.ClassFile.FieldType), Jvm.Cond.code ({ cls := "java/lang/StringUTF16", name := "compress", desc := "([CII)[B" } : Jvm.MethodName) jdk_52_method_16_code (6 : Nat) (Option.some (Jvm.ClassFile.FieldType.array Jvm.ClassFile.FieldType.byte)), Jvm.Cond.code ({ cls := "java/lang/StringUTF16", name := "compress", desc := "([CI[BII)I" } : Jvm.MethodName) jdk_52_method_21_code (7 : Nat) (Option.some Jvm.ClassFile.FieldType.int), Jvm.Cond.code ({ cls := "java/lang/StringUTF16", name := "coderFromArrayLen", desc := "([BI)B" } : Jvm.MethodName) jdk_52_method_15_code (2 : Nat) (Option.some Jvm.ClassFile.FieldType.byte), Jvm.Cond.code ({ cls := "com/example/kindred/kindred/Identifier", name := "<init>", desc := "(Ljava/lang/String;Ljava/lang/String;)V" } : Jvm.MethodName) prog_12_method_1_code (3 : Nat) (Option.none : Option Jvm.ClassFile.FieldType), Jvm.Cond.code ({ cls := "java/lang/Record", name := "<init>", desc := "()V" } : Jvm.MethodName) jdk_30_method_1_code (1 : Nat) (Option.none : Option Jvm.ClassFile.FieldType), Jvm.Cond.code ({ cls := "com/example/kindred/kindred/Identifier", name := "toString", desc := "()Ljava/lang/String;" } : Jvm.MethodName) prog_12_method_7_code (1 : Nat) (Option.some (Jvm.ClassFile.FieldType.object "java/lang/String")), Jvm.Cond.code ({ cls := "java/lang/StringBuilder", name := "<init>", desc := "()V" } : Jvm.MethodName) jdk_67_method_1_code (1 : Nat) (Option.none : Option Jvm.ClassFile.FieldType), Jvm.Cond.code ({ cls := "java/lang/AbstractStringBuilder", name := "<init>", desc := "(I)V" } : Jvm.MethodName) jdk_68_method_2_code (2 : Nat) (Option.none : Option Jvm.ClassFile.FieldType), Jvm.Cond.code ({ cls := "java/lang/StringBuilder", name := "append", desc := "(Ljava/lang/String;)Ljava/lang/StringBuilder;" } : Jvm.MethodName) jdk_67_method_7_code (2 : Nat) (Option.some (Jvm.ClassFile.FieldType.object "java/lang/StringBuilder")), Jvm.Cond.code ({ cls := "java/lang/AbstractStringBuilder", name := "append", desc := "(Ljava/lang/String;)Ljava/lang/AbstractStringBuilder;" } : Jvm.MethodName) jdk_68_method_22_code (3 : Nat) (Option.some (Jvm.ClassFile.FieldType.object "java/lang/AbstractStringBuilder")), Jvm.Cond.code ({ cls := "java/lang/String", name := "length", desc := "()I" } : Jvm.MethodName) jdk_42_method_54_code (1 : Nat) (Option.some Jvm.ClassFile.FieldType.int), Jvm.Cond.code ({ cls := "java/lang/String", name := "coder", desc := "()B" } : Jvm.MethodName) jdk_42_method_152_code (1 : Nat) (Option.some Jvm.ClassFile.FieldType.byte), Jvm.Cond.code ({ cls := "java/lang/AbstractStringBuilder", name := "ensureCapacityInternal", desc := "(I)V" } : Jvm.MethodName) jdk_68_method_9_code (3 : Nat) (Option.none : Option Jvm.ClassFile.FieldType), Jvm.Cond.code ({ cls := "java/lang/AbstractStringBuilder", name := "putStringAt", desc := "(ILjava/lang/String;)V" } : Jvm.MethodName) jdk_68_method_73_code (3 : Nat) (Option.none : Option Jvm.ClassFile.FieldType), Jvm.Cond.code ({ cls := "java/lang/AbstractStringBuilder", name := "inflateIfNeededFor", desc := "(Ljava/lang/String;)V" } : Jvm.MethodName) jdk_68_method_71_code (2 : Nat) (Option.none : Option Jvm.ClassFile.FieldType), Jvm.Cond.code ({ cls := "java/lang/String", name := "getBytes", desc := "([BIB)V" } : Jvm.MethodName) jdk_42_method_147_code (4 : Nat) (Option.none : Option Jvm.ClassFile.FieldType), Jvm.Cond.code ({ cls := "java/lang/StringBuilder", name := "toString", desc := "()Ljava/lang/String;" } : Jvm.MethodName) jdk_67_method_42_code (1 : Nat) (Option.some (Jvm.ClassFile.FieldType.object "java/lang/String")), Jvm.Cond.code ({ cls := "java/lang/String", name := "<init>", desc := "(Ljava/lang/StringBuilder;)V" } : Jvm.MethodName) jdk_42_method_53_code (2 : Nat) (Option.none : Option Jvm.ClassFile.FieldType), Jvm.Cond.code ({ cls := "java/lang/String", name := "<init>", desc := "(Ljava/lang/AbstractStringBuilder;Ljava/lang/Void;)V" } : Jvm.MethodName) jdk_42_method_150_code (5 : Nat) (Option.none : Option Jvm.ClassFile.FieldType), Jvm.Cond.code ({ cls := "java/lang/AbstractStringBuilder", name := "getValue", desc := "()[B" } : Jvm.MethodName) jdk_68_method_64_code (1 : Nat) (Option.some (Jvm.ClassFile.FieldType.array Jvm.ClassFile.FieldType.byte)), Jvm.Cond.code ({ cls := "java/lang/StringBuilder", name := "length", desc := "()I" } : Jvm.MethodName) jdk_67_method_93_code (1 : Nat) (Option.some Jvm.ClassFile.FieldType.int), Jvm.Cond.code ({ cls := "java/lang/AbstractStringBuilder", name := "length", desc := "()I" } : Jvm.MethodName) jdk_68_method_6_code (1 : Nat) (Option.some Jvm.ClassFile.FieldType.int), Jvm.Cond.code ({ cls := "java/lang/AbstractStringBuilder", name := "isLatin1", desc := "()Z" } : Jvm.MethodName) jdk_68_method_68_code (1 : Nat) (Option.some Jvm.ClassFile.FieldType.boolean), Jvm.Cond.code ({ cls := "java/util/Arrays", name := "copyOfRange", desc := "([BII)[B" } : Jvm.MethodName) jdk_65_method_132_code (3 : Nat) (Option.some (Jvm.ClassFile.FieldType.array Jvm.ClassFile.FieldType.byte)), Jvm.Cond.code ({ cls := "java/util/Arrays", name := "copyOfRangeByte", desc := "([BII)[B" } : Jvm.MethodName) jdk_65_method_133_code (5 : Nat) (Option.some (Jvm.ClassFile.FieldType.array Jvm.ClassFile.FieldType.byte)), Jvm.Cond.code ({ cls := "java/util/Arrays", name := "checkLength", desc := "(II)V" } : Jvm.MethodName) jdk_65_method_131_code (2 : Nat) (Option.none : Option Jvm.ClassFile.FieldType), Jvm.Cond.code ({ cls := "java/lang/Math", name := "min", desc := "(II)I" } : Jvm.MethodName) jdk_29_method_69_code (2 : Nat) (Option.some Jvm.ClassFile.FieldType.int), Jvm.Cond.code ({ cls := "com/example/kindred/kindred/IdentifierToStringPinLaw", name := "at", desc := "(Ljava/lang/String;IIII)Z" } : Jvm.MethodName) method_5_code (6 : Nat) (Option.some Jvm.ClassFile.FieldType.boolean), Jvm.Cond.code ({ cls := "java/lang/String", name := "charAt", desc := "(I)C" } : Jvm.MethodName) jdk_42_method_56_code (2 : Nat) (Option.some Jvm.ClassFile.FieldType.char), Jvm.Cond.code ({ cls := "java/lang/String", name := "isLatin1", desc := "()Z" } : Jvm.MethodName) jdk_42_method_154_code (1 : Nat) (Option.some Jvm.ClassFile.FieldType.boolean), Jvm.Cond.code ({ cls := "java/lang/StringLatin1", name := "charAt", desc := "([BI)C" } : Jvm.MethodName) jdk_43_method_2_code (2 : Nat) (Option.some Jvm.ClassFile.FieldType.char), Jvm.Cond.code ({ cls := "java/lang/String", name := "checkIndex", desc := "(II)V" } : Jvm.MethodName) jdk_42_method_155_code (2 : Nat) (Option.none : Option Jvm.ClassFile.FieldType), Jvm.Cond.code ({ cls := "jdk/internal/util/Preconditions", name := "checkIndex", desc := "(IILjava/util/function/BiFunction;)I" } : Jvm.MethodName) jdk_41_method_11_code (3 : Nat) (Option.some Jvm.ClassFile.FieldType.int)]
set_option maxRecDepth 65536 in
theorem codes_eq : words1.filter isCode = codes1 := rfl
theorem w_codes : ∀ c ∈ words1.filter isCode, c.before args0 about1 = true := by
  rw [codes_eq]
  intro c hc
  simp only [codes1, List.mem_cons, List.not_mem_nil, or_false] at hc
  rcases hc with rfl | rfl | rfl | rfl | rfl | rfl | rfl | rfl | rfl | rfl | rfl | rfl | rfl | rfl | rfl | rfl | rfl | rfl | rfl | rfl | rfl | rfl | rfl | rfl | rfl | rfl | rfl | rfl | rfl | rfl | rfl | rfl | rfl | rfl | rfl | rfl | rfl | rfl | rfl
  · exact w_c0
  · exact w_c1
  · exact w_c2
  · exact w_c3
  · exact w_c4
  · exact w_c5
  · exact w_c6
  · exact w_c7
  · exact w_c8
  · exact w_c9
  · exact w_c10
  · exact w_c11
  · exact w_c12
  · exact w_c13
  · exact w_c14
  · exact w_c15
  · exact w_c16
  · exact w_c17
  · exact w_c18
  · exact w_c19
  · exact w_c20
  · exact w_c21
  · exact w_c22
  · exact w_c23
  · exact w_c24
  · exact w_c25
  · exact w_c26
  · exact w_c27
  · exact w_c28
  · exact w_c29
  · exact w_c30
  · exact w_c31
  · exact w_c32
  · exact w_c33
  · exact w_c34
  · exact w_c35
  · exact w_c36
  · exact w_c37
  · exact w_c38
set_option maxRecDepth 65536 in
theorem w_t1 : (words1.take 24).all (fun c => isCode c || c.before args0 about1) = true := by decide +kernel
set_option maxRecDepth 65536 in
theorem w_t2 : ((words1.drop 24).take 24).all (fun c => isCode c || c.before args0 about1) = true := by decide +kernel
set_option maxRecDepth 65536 in
theorem w_t3 : (((words1.drop 24).drop 24).take 24).all (fun c => isCode c || c.before args0 about1) = true := by decide +kernel
set_option maxRecDepth 65536 in
theorem w_t4 : ((((words1.drop 24).drop 24).drop 24).take 24).all (fun c => isCode c || c.before args0 about1) = true := by decide +kernel
set_option maxRecDepth 65536 in
theorem w_t5 : (((((words1.drop 24).drop 24).drop 24).drop 24).take 24).all (fun c => isCode c || c.before args0 about1) = true := by decide +kernel
set_option maxRecDepth 65536 in
theorem w_t6 : ((((((words1.drop 24).drop 24).drop 24).drop 24).drop 24).take 24).all (fun c => isCode c || c.before args0 about1) = true := by decide +kernel
set_option maxRecDepth 65536 in
theorem w_t7 : (((((((words1.drop 24).drop 24).drop 24).drop 24).drop 24).drop 24).take 24).all (fun c => isCode c || c.before args0 about1) = true := by decide +kernel
set_option maxRecDepth 65536 in
theorem w_t8 : ((((((((words1.drop 24).drop 24).drop 24).drop 24).drop 24).drop 24).drop 24).take 24).all (fun c => isCode c || c.before args0 about1) = true := by decide +kernel
set_option maxRecDepth 65536 in
theorem w_t9 : ((((((((words1.drop 24).drop 24).drop 24).drop 24).drop 24).drop 24).drop 24).drop 24).all (fun c => isCode c || c.before args0 about1) = true := by decide +kernel
theorem w_tables : (allAtoms (Jvm.Cond.code x code maxLocals ret :: tables_1)).before args0 about1 = true := by
  rw [allAtoms_all]
  show words1.all (fun c => c.before args0 about1) = true
  refine all_split ?_ w_codes
  rw [← List.take_append_drop 24 words1, List.all_append, w_t1, ← List.take_append_drop 24 (words1.drop 24), List.all_append, w_t2, ← List.take_append_drop 24 ((words1.drop 24).drop 24), List.all_append, w_t3, ← List.take_append_drop 24 (((words1.drop 24).drop 24).drop 24), List.all_append, w_t4, ← List.take_append_drop 24 ((((words1.drop 24).drop 24).drop 24).drop 24), List.all_append, w_t5, ← List.take_append_drop 24 (((((words1.drop 24).drop 24).drop 24).drop 24).drop 24), List.all_append, w_t6, ← List.take_append_drop 24 ((((((words1.drop 24).drop 24).drop 24).drop 24).drop 24).drop 24), List.all_append, w_t7, ← List.take_append_drop 24 (((((((words1.drop 24).drop 24).drop 24).drop 24).drop 24).drop 24).drop 24), List.all_append, w_t8, w_t9]
  rfl
set_option maxRecDepth 65536 in
theorem w_rest : rest_1_c.before args0 about1 = true := by decide +kernel
set_option maxRecDepth 65536 in
theorem w_case : (Jvm.Cond.and given_1 narrow_1).before args0 about1 = true := by decide +kernel
set_option maxRecDepth 65536 in
theorem w_consts : constsHeld consts_1 about1 := Jvm.Lit.constsHeldB_iff.mp (by decide +kernel)
theorem w_applies : (headSpec (Jvm.Cond.code x code maxLocals ret :: tables_1) room_1).applies x e0.platform about1 = true :=
  (Spec.applies_iff w_frames).mpr ⟨w_running, w_runnable, w_alone, w_named, w_hears, w_ripe, w_room, w_tables⟩
theorem atStart : AtStart classFile x code maxLocals ret World_1 tables_1 room_1 Calls_1 rest_1 Pre_1 launch0 p0 e0 about1 theMethod args0 below0 :=
  ⟨lists_1, trivial, launch0.admits_env _ _ _, launch0.least_env, fairChoices_fair.cas, fairChoices_fair.clock, w_frames, w_args, w_heap, w_applies, ⟨w_consts, trivial⟩, w_rest, w_case⟩
end start1
theorem witness_1 : WitnessClaimed_1 := ⟨start1.p0, start1.e0, start1.about1, start1.theMethod, start1.args0, start1.below0, start1.atStart⟩
end Jvm.Pilot.@@N@@
