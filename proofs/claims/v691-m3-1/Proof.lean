import JvmDerived
import JvmDerived.Pilot.@@N@@Statement
import JvmDerived.Pilot.@@N@@Code
set_option linter.unusedVariables false
set_option linter.unusedSimpArgs false
/- laws to paste: Road.backV, Road.eqW, Road.codOf (cut by pick.py; bodies as the Statement names them) -/
namespace Jvm.Pilot.@@N@@
namespace StrChars
open Jvm Sem ClassFile Op Lib Jvm.Stand Jvm.Free.XT Jvm.Free.ALB Jvm.Free.JM Jvm.Free
open Jvm.Lib.Cold (StaticIs)
/-- a char array whose places are chars -/
def Ch (a : Addr) (A : Cell) (U : State) : Prop := Arr .char a A U ∧ Typed .char A
theorem Ch.mv {a : Addr} {A : Cell} {U U' : State} (h : Ch a A U) (hal : U.vm.Alike U'.vm) (hh : U'.heap = U.heap) : Ch a A U' := ⟨h.1.mv hal hh, h.2⟩
theorem Ch.keep {a : Addr} {A : Cell} {U U' : State} (h : Ch a A U) (hal : U.vm.Alike U'.vm) (hk : U'.heap[a]? = some A) : Ch a A U' := ⟨h.1.keep hal hk, h.2⟩
/-- what place i of a char[]'s cell holds -/
def cv (A : Cell) (i : Nat) : Int32 := match A.slots[i]? with | some (.int x) => x | _ => 0
theorem Ch.get {a : Addr} {A : Cell} {U : State} (h : Ch a A U) {i : Nat} (hi : i < A.slots.size) : A.slots[i]? = some (.int (cv A i)) := by
  have e := Array.getElem?_eq_getElem hi
  have f := h.2 i _ e
  unfold cv; rw [e]
  generalize A.slots[i] = v at f
  cases v <;> simp [fits] at f ⊢
/-- the byte that i2b leaves of a char -/
def lo8 (x : Int32) : Int32 := x.toInt8.toInt32
theorem fits_lo8 (y : Int32) : fits .byte (.int (lo8 y)) = true := by
  have h1 := y.toInt8.le_toInt
  have h2 := y.toInt8.toInt_lt
  simp only [lo8, fits, Bool.and_eq_true, decide_eq_true_eq, Int32.le_iff_toInt_le, Int8.toInt_toInt32, show (-128 : Int32).toInt = -128 from by decide, show (127 : Int32).toInt = 127 from by decide]
  omega
/-- A' is A but that each place j of lo .. hi - 1 holds f j -/
def Laid (A A' : Cell) (lo hi : Nat) (f : Nat → Value) : Prop := A'.cls = A.cls ∧ A'.vm = A.vm ∧ A'.slots.size = A.slots.size ∧ ∀ i, A'.slots[i]? = if lo ≤ i ∧ i < hi then some (f i) else A.slots[i]?
theorem Laid.zero (A : Cell) (lo : Nat) (f : Nat → Value) : Laid A A lo (lo + 0) f := ⟨rfl, rfl, rfl, fun i => by rw [if_neg (by omega)]⟩
theorem Laid.step {A Ak : Cell} {lo k : Nat} {f : Nat → Value} {v : Value} (h : Laid A Ak lo k f) (hlo : lo ≤ k) (hk : k < Ak.slots.size) (hv : v = f k) : Laid A (Ak.setSlot k v) lo (k + 1) f := by
  refine ⟨h.1, h.2.1, by simpa [Cell.setSlot] using h.2.2.1, fun i => ?_⟩
  by_cases e : k = i
  · subst e; rw [Cell.slots_setSlot_self v hk, if_pos (by omega), hv]
  · rw [Cell.slots_setSlot_ne v e, h.2.2.2 i]
    by_cases q : lo ≤ i ∧ i < k
    · rw [if_pos q, if_pos (by omega)]
    · rw [if_neg q, if_neg (by omega)]
def U16 : String := "java/lang/StringUTF16"
namespace Cmp5
def yN : MethodName := ⟨"java/lang/StringUTF16", "compress", "([CI[BII)I"⟩
abbrev yB : ByteArray := jdk_52_method_21_code
theorem d0 : decode yB 0 = .ok (.iconst 0, 1) := by decide +kernel
theorem d1 : decode yB 1 = .ok (.istore 5, 2) := by decide +kernel
theorem d3 : decode yB 3 = .ok (.iload 5, 2) := by decide +kernel
theorem d5 : decode yB 5 = .ok (.iload 4, 2) := by decide +kernel
theorem d7 : decode yB 7 = .ok (.if_icmp (.ge) 37, 3) := by decide +kernel
theorem d10 : decode yB 10 = .ok (.aload_n 0, 1) := by decide +kernel
theorem d11 : decode yB 11 = .ok (.iload_n 1, 1) := by decide +kernel
theorem d12 : decode yB 12 = .ok (.caload, 1) := by decide +kernel
theorem d13 : decode yB 13 = .ok (.istore 6, 2) := by decide +kernel
theorem d15 : decode yB 15 = .ok (.iload 6, 2) := by decide +kernel
theorem d17 : decode yB 17 = .ok (.sipush 255, 3) := by decide +kernel
theorem d20 : decode yB 20 = .ok (.if_icmp (.le) 6, 3) := by decide +kernel
theorem d26 : decode yB 26 = .ok (.aload_n 2, 1) := by decide +kernel
theorem d27 : decode yB 27 = .ok (.iload_n 3, 1) := by decide +kernel
theorem d28 : decode yB 28 = .ok (.iload 6, 2) := by decide +kernel
theorem d30 : decode yB 30 = .ok (.i2b, 1) := by decide +kernel
theorem d31 : decode yB 31 = .ok (.bastore, 1) := by decide +kernel
theorem d32 : decode yB 32 = .ok (.iinc 1 1, 3) := by decide +kernel
theorem d35 : decode yB 35 = .ok (.iinc 3 1, 3) := by decide +kernel
theorem d38 : decode yB 38 = .ok (.iinc 5 1, 3) := by decide +kernel
theorem d41 : decode yB 41 = .ok (.goto (-38), 3) := by decide +kernel
theorem d44 : decode yB 44 = .ok (.iload 4, 2) := by decide +kernel
theorem d46 : decode yB 46 = .ok (.ireturn, 1) := by decide +kernel
def site : List Cond := []
def tab : Cond := tabOf yN yB 7 (some .int) site
def P (b : Addr) (A : Cell) (d : Addr) (B : Cell) (o q len : Nat) (args : Array Value) (s : State) : Prop := args = #[.ref b, .int (Int32.ofNat o), .ref d, .int (Int32.ofNat q), .int (Int32.ofNat len)] ∧ Ch b A s ∧ Arr .byte d B s ∧ b ≠ d ∧ o + len ≤ A.slots.size ∧ q + len ≤ B.slots.size ∧ ∀ i, i < len → ¬ 255 < cv A (o + i)
def E (b : Addr) (A : Cell) (d : Addr) (B : Cell) (o q len : Nat) (r : Option Value) (s u : State) : Prop := r = some (.int (Int32.ofNat len)) ∧ ∃ B', Put d B' s u ∧ Laid B B' q (q + len) (fun j => Value.int (lo8 (cv A (o + (j - q)))))
/-- no char of the range above 255: len; the places written hold each char's low byte -/
theorem law (l : Launch) (b : Addr) (A : Cell) (d : Addr) (B : Cell) (o q len : Nat) : Law l yN 5 5 0 0 yB 7 (some .int) site (P b A d B o q len) (E b A d B o q len) (copyLocs d q len) 0 0 := by
  refine Law.of_walk (plainFor_of_name (by decide +kernel)) (by decide +kernel) (by decide +kernel) (by decide) (fun _ _ h => by rw [h.1]; rfl) (fun _ U U' hal hh h => ⟨h.1, h.2.1.mv hal hh, h.2.2.1.mv hal hh, h.2.2.2⟩) (fun r U U' V V' h1 hal h2 h => ⟨h.1, h.2.elim fun B' q => ⟨B', q.1.mv h1 h2, q.2⟩⟩) ?_
  intro p e s m args below meth c s₁ X0 hexec hbytes hml hret hlk hnm hown hh0 W hP
  obtain ⟨rfl, hA, hB, hne, l1, l2, hp⟩ := hP
  have c1 : Steps p.tables e below (s₁.setTop (entryFrame m #[.ref b, .int (Int32.ofNat o), .ref d, .int (Int32.ofNat q), .int (Int32.ofNat len)] 7)) (s₁.setTop (mkF m 0 #[.val (.ref b), .val (.int (Int32.ofNat o)), .val (.ref d), .val (.int (Int32.ofNat q)), .val (.int (Int32.ofNat len)), .unset, .unset] [])) := entry rfl
  have hA0 := hA.1.mv X0.warmed.alike hh0
  have hB0 := hB.mv X0.warmed.alike hh0
  have a31 := hA.1.2.2.2
  have c2 : Steps p.tables e below (s₁.setTop (entryFrame m #[.ref b, .int (Int32.ofNat o), .ref d, .int (Int32.ofNat q), .int (Int32.ofNat len)] 7)) (s₁.setTop (mkF m 3 #[.val (.ref b), .val (.int (Int32.ofNat o)), .val (.ref d), .val (.int (Int32.ofNat q)), .val (.int (Int32.ofNat len)), .val (.int 0), .unset] [])) := c1.trans (by
    refine iconstV X0.here hexec rfl 0 (hb hbytes d0) (by decide) ?_
    refine XS.istore X0.here hexec rfl (hb hbytes d1) rfl rfl ?_
    exact Steps.refl _)
  have loop : ∀ (r i : Nat), i + r = len → ∀ (z : Slot), (z = .unset ∨ ∃ w, z = .val w ∧ w.category = 1) → ∀ (Tl : State) (Bk : Cell), Stand p l e { frames := 0, locals := 0, cells := 0, slots := 0 } s m #[.ref b, .int (Int32.ofNat o), .ref d, .int (Int32.ofNat q), .int (Int32.ofNat len)] below meth c Tl ([] ++ copyLocs d q i) 0 0 → Put d Bk s₁ Tl → Laid B Bk q (q + i) (fun j => Value.int (lo8 (cv A (o + (j - q))))) →
      Steps p.tables e below (s₁.setTop (entryFrame m #[.ref b, .int (Int32.ofNat o), .ref d, .int (Int32.ofNat q), .int (Int32.ofNat len)] 7)) (Tl.setTop (mkF m 3 #[.val (.ref b), .val (.int (Int32.ofNat (o + i))), .val (.ref d), .val (.int (Int32.ofNat (q + i))), .val (.int (Int32.ofNat len)), .val (.int (Int32.ofNat i)), z] [])) → ∃ (T' : State) (B' : Cell) (z' : Slot), Stand p l e { frames := 0, locals := 0, cells := 0, slots := 0 } s m #[.ref b, .int (Int32.ofNat o), .ref d, .int (Int32.ofNat q), .int (Int32.ofNat len)] below meth c T' ([] ++ copyLocs d q len) 0 0 ∧ Put d B' s₁ T' ∧ Laid B B' q (q + len) (fun j => Value.int (lo8 (cv A (o + (j - q))))) ∧
      Steps p.tables e below (s₁.setTop (entryFrame m #[.ref b, .int (Int32.ofNat o), .ref d, .int (Int32.ofNat q), .int (Int32.ofNat len)] 7)) (T'.setTop (mkF m 3 #[.val (.ref b), .val (.int (Int32.ofNat (o + len))), .val (.ref d), .val (.int (Int32.ofNat (q + len))), .val (.int (Int32.ofNat len)), .val (.int (Int32.ofNat len)), z'] [])) := by
    intro r
    induction r with
    | zero =>
      intro i hi z hz Tl Bk Xl pl fl cl
      have hil : i = len := by omega
      rw [hil] at Xl fl cl
      exact ⟨Tl, Bk, z, Xl, pl, fl, cl⟩
    | succ r ih =>
      intro i hi z hz Tl Bk Xl pl fl cl
      have all := X0.warmed.alike.symm.trans Xl.warmed.alike
      have hAl := hA0.keep all (pl.other hne hA0.1)
      have hBk := hB0.like all pl.1 fl.1 fl.2.1 fl.2.2.1
      have hlt : q + i < Bk.slots.size := by rw [fl.2.2.1]; omega
      have c3 : Steps p.tables e below (s₁.setTop (entryFrame m #[.ref b, .int (Int32.ofNat o), .ref d, .int (Int32.ofNat q), .int (Int32.ofNat len)] 7)) (Tl.setTop (mkF m 12 #[.val (.ref b), .val (.int (Int32.ofNat (o + i))), .val (.ref d), .val (.int (Int32.ofNat (q + i))), .val (.int (Int32.ofNat len)), .val (.int (Int32.ofNat i)), z] [.int (Int32.ofNat (o + i)), .ref b])) := cl.trans (by
        refine XS.iload Xl.here hexec rfl (hb hbytes d3) rfl ?_
        refine XS.iload Xl.here hexec rfl (hb hbytes d5) rfl ?_
        refine XS.icmpNo Xl.here hexec rfl (hb hbytes d7) rfl (ii_ge_f (lt32 (by omega) (by omega))) ?_
        refine XS.aloadN Xl.here hexec rfl (hb hbytes d10) rfl rfl ?_
        refine XS.iloadN Xl.here hexec rfl (hb hbytes d11) rfl ?_
        exact Steps.refl _)
      have c4 : Steps p.tables e below (s₁.setTop (entryFrame m #[.ref b, .int (Int32.ofNat o), .ref d, .int (Int32.ofNat q), .int (Int32.ofNat len)] 7)) (Tl.setTop (mkF m 13 #[.val (.ref b), .val (.int (Int32.ofNat (o + i))), .val (.ref d), .val (.int (Int32.ofNat (q + i))), .val (.int (Int32.ofNat len)), .val (.int (Int32.ofNat i)), z] [.int (cv A (o + i))])) := c3.trans (by
        refine Xl.aget hexec hAl rfl (hA.get (i := o + i) (by omega)) rfl rfl (hb hbytes d12) ?_
        exact Steps.refl _)
      have c5 : Steps p.tables e below (s₁.setTop (entryFrame m #[.ref b, .int (Int32.ofNat o), .ref d, .int (Int32.ofNat q), .int (Int32.ofNat len)] 7)) (Tl.setTop (mkF m 15 #[.val (.ref b), .val (.int (Int32.ofNat (o + i))), .val (.ref d), .val (.int (Int32.ofNat (q + i))), .val (.int (Int32.ofNat len)), .val (.int (Int32.ofNat i)), .val (.int (cv A (o + i)))] [])) := c4.trans (by
        refine XS.istoreS Xl.here hexec rfl (hb hbytes d13) rfl rfl hz ?_
        exact Steps.refl _)
      have c6 : Steps p.tables e below (s₁.setTop (entryFrame m #[.ref b, .int (Int32.ofNat o), .ref d, .int (Int32.ofNat q), .int (Int32.ofNat len)] 7)) (Tl.setTop (mkF m 31 #[.val (.ref b), .val (.int (Int32.ofNat (o + i))), .val (.ref d), .val (.int (Int32.ofNat (q + i))), .val (.int (Int32.ofNat len)), .val (.int (Int32.ofNat i)), .val (.int (cv A (o + i)))] [.int (lo8 (cv A (o + i))), .int (Int32.ofNat (q + i)), .ref d])) := c5.trans (by
        refine XS.iload Xl.here hexec rfl (hb hbytes d15) rfl ?_
        refine sipushV Xl.here hexec rfl 255 (hb hbytes d17) (by decide) ?_
        refine XS.icmpYes Xl.here hexec rfl (pc0 := 20) rfl (hb hbytes d20) rfl (ii_le_t (hp i (by omega))) (by decide) rfl ?_
        refine XS.aloadN Xl.here hexec rfl (hb hbytes d26) rfl rfl ?_
        refine XS.iloadN Xl.here hexec rfl (hb hbytes d27) rfl ?_
        refine XS.iload Xl.here hexec rfl (hb hbytes d28) rfl ?_
        refine i2b Xl.here hexec rfl (hb hbytes d30) rfl ?_
        exact Steps.refl _)
      obtain ⟨T7, X7, p7, st7⟩ := Xl.aput hexec hBk rfl hlt rfl (fits_lo8 (cv A (o + i))) (g := (mkF m 31 #[.val (.ref b), .val (.int (Int32.ofNat (o + i))), .val (.ref d), .val (.int (Int32.ofNat (q + i))), .val (.int (Int32.ofNat len)), .val (.int (Int32.ofNat i)), .val (.int (cv A (o + i)))] [.int (lo8 (cv A (o + i))), .int (Int32.ofNat (q + i)), .ref d])) rfl (rest := []) rfl (hb hbytes d31)
      have c8 : Steps p.tables e below (s₁.setTop (entryFrame m #[.ref b, .int (Int32.ofNat o), .ref d, .int (Int32.ofNat q), .int (Int32.ofNat len)] 7)) (T7.setTop (mkF m 32 #[.val (.ref b), .val (.int (Int32.ofNat (o + i))), .val (.ref d), .val (.int (Int32.ofNat (q + i))), .val (.int (Int32.ofNat len)), .val (.int (Int32.ofNat i)), .val (.int (cv A (o + i)))] [])) := c6.trans (st7 _ (Steps.refl _))
      have c9 : Steps p.tables e below (s₁.setTop (entryFrame m #[.ref b, .int (Int32.ofNat o), .ref d, .int (Int32.ofNat q), .int (Int32.ofNat len)] 7)) (T7.setTop (mkF m 3 #[.val (.ref b), .val (.int (Int32.ofNat (o + i) + 1)), .val (.ref d), .val (.int (Int32.ofNat (q + i) + 1)), .val (.int (Int32.ofNat len)), .val (.int (Int32.ofNat i + 1)), .val (.int (cv A (o + i)))] [])) := c8.trans (by
        refine iincV X7.here hexec rfl 1 (hb hbytes d32) (by decide) rfl rfl ?_
        refine iincV X7.here hexec rfl 1 (hb hbytes d35) (by decide) rfl rfl ?_
        refine iincV X7.here hexec rfl 1 (hb hbytes d38) (by decide) rfl rfl ?_
        refine XS.goto X7.here hexec rfl (pc0 := 41) rfl (hb hbytes d41) (by decide) rfl ?_
        exact Steps.refl _)
      have c10 : Steps p.tables e below (s₁.setTop (entryFrame m #[.ref b, .int (Int32.ofNat o), .ref d, .int (Int32.ofNat q), .int (Int32.ofNat len)] 7)) (T7.setTop (mkF m 3 #[.val (.ref b), .val (.int (Int32.ofNat (o + (i + 1)))), .val (.ref d), .val (.int (Int32.ofNat (q + (i + 1)))), .val (.int (Int32.ofNat len)), .val (.int (Int32.ofNat (i + 1))), .val (.int (cv A (o + i)))] [])) := by
        have := c9
        rw [succ32, succ32, succ32] at this
        exact this
      exact ih (i + 1) (by omega) _ (Or.inr ⟨_, rfl, rfl⟩) T7 _ (by rw [copyLocs_step, ← List.append_assoc]; exact X7) (pl.trans p7) (fl.step (by omega) hlt (by simp)) c10
  obtain ⟨T9, B9, z9, X9, p9, f9, g9⟩ := loop len 0 (by omega) .unset (Or.inl rfl) s₁ B (by simpa [copyLocs] using X0) ⟨hB0.1, fun _ _ => rfl, rfl⟩ (Laid.zero _ _ _) c2
  have c11 : Steps p.tables e below (s₁.setTop (entryFrame m #[.ref b, .int (Int32.ofNat o), .ref d, .int (Int32.ofNat q), .int (Int32.ofNat len)] 7)) (T9.setTop (mkF m 46 #[.val (.ref b), .val (.int (Int32.ofNat (o + len))), .val (.ref d), .val (.int (Int32.ofNat (q + len))), .val (.int (Int32.ofNat len)), .val (.int (Int32.ofNat len)), z9] [.int (Int32.ofNat len)])) := g9.trans (by
    refine XS.iload X9.here hexec rfl (hb hbytes d3) rfl ?_
    refine XS.iload X9.here hexec rfl (hb hbytes d5) rfl ?_
    refine XS.icmpYes X9.here hexec rfl (pc0 := 7) rfl (hb hbytes d7) rfl (ii_ge_t (nlt32 (by omega) (Nat.le_refl _))) (by decide) rfl ?_
    refine XS.iload X9.here hexec rfl (hb hbytes d44) rfl ?_
    exact Steps.refl _)
  exact ⟨T9, some (.int (Int32.ofNat len)), _, _, _, X9, by simp, rfl, rfl, (fun h => by cases h), ⟨rfl, B9, p9.from hh0, f9⟩, fun fs hl => c11.trans (X9.ireturnOut hexec hret rfl (Or.inl rfl) (hb hbytes d46) hl)⟩
end Cmp5
namespace Cmp3
def yN : MethodName := ⟨"java/lang/StringUTF16", "compress", "([CII)[B"⟩
abbrev yB : ByteArray := jdk_52_method_16_code
theorem d0 : decode yB 0 = .ok (.iload_n 2, 1) := by decide +kernel
theorem d1 : decode yB 1 = .ok (.newarray .byte, 2) := by decide +kernel
theorem d3 : decode yB 3 = .ok (.astore_n 3, 1) := by decide +kernel
theorem d4 : decode yB 4 = .ok (.aload_n 0, 1) := by decide +kernel
theorem d5 : decode yB 5 = .ok (.iload_n 1, 1) := by decide +kernel
theorem d6 : decode yB 6 = .ok (.aload_n 3, 1) := by decide +kernel
theorem d7 : decode yB 7 = .ok (.iconst 0, 1) := by decide +kernel
theorem d8 : decode yB 8 = .ok (.iload_n 2, 1) := by decide +kernel
theorem d9 : decode yB 9 = .ok (.invokestatic 115, 3) := by decide +kernel
theorem d12 : decode yB 12 = .ok (.istore 4, 2) := by decide +kernel
theorem d14 : decode yB 14 = .ok (.iload 4, 2) := by decide +kernel
theorem d16 : decode yB 16 = .ok (.iload_n 2, 1) := by decide +kernel
theorem d17 : decode yB 17 = .ok (.if_icmp (.eq) 40, 3) := by decide +kernel
theorem d57 : decode yB 57 = .ok (.aload_n 3, 1) := by decide +kernel
theorem d58 : decode yB 58 = .ok (.areturn, 1) := by decide +kernel
def site : List Cond := [.arrayClass .byte, Cmp5.tab] ++ staticW U16 115 Cmp5.yN
def tab : Cond := tabOf yN yB 6 (some (.array .byte)) site
def P (b : Addr) (A : Cell) (o len : Nat) (args : Array Value) (s : State) : Prop := args = #[.ref b, .int (Int32.ofNat o), .int (Int32.ofNat len)] ∧ Ch b A s ∧ o + len ≤ A.slots.size ∧ len ≤ 536870912 ∧ ∀ i, i < len → ¬ 255 < cv A (o + i)
def E (b : Addr) (A : Cell) (o len : Nat) (r : Option Value) (s u : State) : Prop := NewArr .byte "[B" len (fun j => .int (lo8 (cv A (o + j)))) r s u ∧ u.heap.size = s.heap.size + 1
/-- no char of the range above 255: a new byte[] of their low bytes -/
theorem law (l : Launch) (b : Addr) (A : Cell) (o len : Nat) : Law l yN 3 3 1 18 yB 6 (some (.array .byte)) site (P b A o len) (E b A o len) [] 1 len := by
  refine Law.of_walk (plainFor_of_name (by decide +kernel)) (by decide +kernel) (by decide +kernel) (by decide) (fun _ _ h => by rw [h.1]; rfl) (fun _ U U' hal hh h => ⟨h.1, h.2.1.mv hal hh, h.2.2⟩) (fun r U U' V V' h1 hal h2 h => ⟨NewArr.mv r U U' V V' h1 hal h2 h.1, by rw [h1, h2]; exact h.2⟩) ?_
  intro p e s m args below meth c s₁ X0 hexec hbytes hml hret hlk hnm hown hh0 W hP
  obtain ⟨rfl, hA, l1, l2, hp⟩ := hP
  have a31 := hA.1.2.2.2
  have c1 : Steps p.tables e below (s₁.setTop (entryFrame m #[.ref b, .int (Int32.ofNat o), .int (Int32.ofNat len)] 6)) (s₁.setTop (mkF m 0 #[.val (.ref b), .val (.int (Int32.ofNat o)), .val (.int (Int32.ofNat len)), .unset, .unset, .unset] [])) := entry rfl
  have c2 : Steps p.tables e below (s₁.setTop (entryFrame m #[.ref b, .int (Int32.ofNat o), .int (Int32.ofNat len)] 6)) (s₁.setTop (mkF m 1 #[.val (.ref b), .val (.int (Int32.ofNat o)), .val (.int (Int32.ofNat len)), .unset, .unset, .unset] [.int (Int32.ofNat len)])) := c1.trans (by
    refine XS.iloadN X0.here hexec rfl (hb hbytes d0) rfl ?_
    exact Steps.refl _)
  obtain ⟨T3, B3, X3, ba3, bs3, bv3, bh3, bf3, st3⟩ := X0.anew hexec (atype := .byte) (wk W (.arrayClass .byte)) rfl (by show len * 1 ≤ _; omega) (by omega) (g := (mkF m 1 #[.val (.ref b), .val (.int (Int32.ofNat o)), .val (.int (Int32.ofNat len)), .unset, .unset, .unset] [.int (Int32.ofNat len)])) rfl (hb hbytes d1) (rest := []) rfl (Nat.le_refl _) (by show 0 + len ≤ len; omega)
  rw [hh0] at ba3 st3
  have kp3 : XT.Kept s T3 := (XT.Kept.of_eq hh0).push bh3
  have hA3 := hA.keep X3.warmed.alike (kp3 _ _ hA.1.1)
  have hne : b ≠ s.heap.size := hA.1.ne
  have c4 : Steps p.tables e below (s₁.setTop (entryFrame m #[.ref b, .int (Int32.ofNat o), .int (Int32.ofNat len)] 6)) (T3.setTop (mkF m 3 #[.val (.ref b), .val (.int (Int32.ofNat o)), .val (.int (Int32.ofNat len)), .unset, .unset, .unset] [.ref s.heap.size])) := c2.trans (st3 _ (Steps.refl _))
  have c5 : Steps p.tables e below (s₁.setTop (entryFrame m #[.ref b, .int (Int32.ofNat o), .int (Int32.ofNat len)] 6)) (T3.setTop (mkF m 9 #[.val (.ref b), .val (.int (Int32.ofNat o)), .val (.int (Int32.ofNat len)), .val (.ref s.heap.size), .unset, .unset] [.int (Int32.ofNat len), .int 0, .ref s.heap.size, .int (Int32.ofNat o), .ref b])) := c4.trans (by
    refine XS.astoreN X3.here hexec rfl (hb hbytes d3) rfl rfl rfl ?_
    refine XS.aloadN X3.here hexec rfl (hb hbytes d4) rfl rfl ?_
    refine XS.iloadN X3.here hexec rfl (hb hbytes d5) rfl ?_
    refine XS.aloadN X3.here hexec rfl (hb hbytes d6) rfl rfl ?_
    refine iconstV X3.here hexec rfl 0 (hb hbytes d7) (by decide) ?_
    refine XS.iloadN X3.here hexec rfl (hb hbytes d8) rfl ?_
    exact Steps.refl _)
  obtain ⟨v6, T6, X6, E6, g6⟩ := X3.callS hexec (Cmp5.law l b A s.heap.size B3 o 0 len) hown (wks W (staticW U16 115 Cmp5.yN)) (wk W Cmp5.tab) (W := 0) (Nat.le_of_ble_eq_true rfl) (Nat.le_of_ble_eq_true rfl) (Nat.le_refl _) (by show 0 + len + 0 ≤ len; omega) (g := (mkF m 9 #[.val (.ref b), .val (.int (Int32.ofNat o)), .val (.int (Int32.ofNat len)), .val (.ref s.heap.size), .unset, .unset] [.int (Int32.ofNat len), .int (Int32.ofNat 0), .ref s.heap.size, .int (Int32.ofNat o), .ref b])) rfl (by rw [hml]; rfl) c5 (argsL := [.ref b, .int (Int32.ofNat o), .ref s.heap.size, .int (Int32.ofNat 0), .int (Int32.ofNat len)]) (rest := []) rfl rfl (by show 2 * 0 + 0 ≤ _; decide) (hb hbytes d9) (⟨rfl, hA3, ba3, hne, l1, by rw [bs3]; simp, hp⟩)
  obtain ⟨rfl, B6, p6, f6⟩ := E6
  have c7 : Steps p.tables e below (s₁.setTop (entryFrame m #[.ref b, .int (Int32.ofNat o), .int (Int32.ofNat len)] 6)) (T6.setTop (mkF m 12 #[.val (.ref b), .val (.int (Int32.ofNat o)), .val (.int (Int32.ofNat len)), .val (.ref s.heap.size), .unset, .unset] [.int (Int32.ofNat len)])) := g6
  have c8 : Steps p.tables e below (s₁.setTop (entryFrame m #[.ref b, .int (Int32.ofNat o), .int (Int32.ofNat len)] 6)) (T6.setTop (mkF m 58 #[.val (.ref b), .val (.int (Int32.ofNat o)), .val (.int (Int32.ofNat len)), .val (.ref s.heap.size), .val (.int (Int32.ofNat len)), .unset] [.ref s.heap.size])) := c7.trans (by
    refine XS.istore X6.here hexec rfl (hb hbytes d12) rfl rfl ?_
    refine XS.iload X6.here hexec rfl (hb hbytes d14) rfl ?_
    refine XS.iloadN X6.here hexec rfl (hb hbytes d16) rfl ?_
    refine XS.icmpYes X6.here hexec rfl (pc0 := 17) rfl (hb hbytes d17) rfl (ii_eq_t rfl) (by decide) rfl ?_
    refine XS.aloadN X6.here hexec rfl (hb hbytes d57) rfl rfl ?_
    exact Steps.refl _)
  have X8 := X6.wide (L' := []) (cells' := 1) (slots' := len) (fun x hx hlt => by
    simp only [List.nil_append, copyLocs, List.mem_map, List.mem_range] at hx
    obtain ⟨i, -, rfl⟩ := hx
    exact absurd hlt (Nat.lt_irrefl _)) (Nat.le_refl _) (by omega)
  exact ⟨T6, some (.ref s.heap.size), _, _, _, X8, rfl, rfl, rfl, (fun h => by cases h), ⟨⟨rfl, B6, ba3.like (X3.warmed.alike.symm.trans X6.warmed.alike) p6.1 f6.1 f6.2.1 f6.2.2.1, f6.2.1.trans bv3, by rw [X6.warmed.alike.findClass, f6.1]; exact bf3, by rw [f6.2.2.1, bs3]; simp, fun j hj => by rw [f6.2.2.2 j, if_pos (by omega)]; rfl, kp3.put p6 (Nat.le_refl _)⟩, by rw [p6.2.2, bh3, hh0]; simp⟩, fun fs hl => c8.trans (X8.areturnOut hexec rfl hret rfl (hb hbytes d58) hl)⟩
end Cmp3
namespace CodL
def yN : MethodName := ⟨"java/lang/StringUTF16", "coderFromArrayLen", "([BI)B"⟩
abbrev yB : ByteArray := jdk_52_method_15_code
theorem d0 : decode yB 0 = .ok (.iload_n 1, 1) := by decide +kernel
theorem d1 : decode yB 1 = .ok (.aload_n 0, 1) := by decide +kernel
theorem d2 : decode yB 2 = .ok (.arraylength, 1) := by decide +kernel
theorem d3 : decode yB 3 = .ok (.isub, 1) := by decide +kernel
theorem d4 : decode yB 4 = .ok (.bipush 31, 2) := by decide +kernel
theorem d6 : decode yB 6 = .ok (.iushr, 1) := by decide +kernel
theorem d7 : decode yB 7 = .ok (.i2b, 1) := by decide +kernel
theorem d8 : decode yB 8 = .ok (.ireturn, 1) := by decide +kernel
def site : List Cond := []
def tab : Cond := tabOf yN yB 2 (some .byte) site
def P (d : Addr) (B : Cell) (args : Array Value) (s : State) : Prop := args = #[.ref d, .int (Int32.ofNat B.slots.size)] ∧ Arr .byte d B s
def E (r : Option Value) (s u : State) : Prop := XT.PureE (some (.int 0)) r s u
/-- an array as long as the number of chars: LATIN1 -/
theorem law (l : Launch) (d : Addr) (B : Cell) : Law l yN 2 2 0 0 yB 2 (some .byte) site (P d B) E [] 0 0 := by
  refine Law.of_walk (plainFor_of_name (by decide +kernel)) (by decide +kernel) (by decide +kernel) (by decide) (fun _ _ h => by rw [h.1]; rfl) (fun _ U U' hal hh h => ⟨h.1, h.2.mv hal hh⟩) (fun r U U' V V' h1 hal h2 h => XT.PureE.mv r U U' V V' h1 hal h2 h) ?_
  intro p e s m args below meth c s₁ X0 hexec hbytes hml hret hlk hnm hown hh0 W hP
  obtain ⟨rfl, hB⟩ := hP
  have hB0 := hB.mv X0.warmed.alike hh0
  have c1 : Steps p.tables e below (s₁.setTop (entryFrame m #[.ref d, .int (Int32.ofNat B.slots.size)] 2)) (s₁.setTop (mkF m 0 #[.val (.ref d), .val (.int (Int32.ofNat B.slots.size))] [])) := entry rfl
  have c2 : Steps p.tables e below (s₁.setTop (entryFrame m #[.ref d, .int (Int32.ofNat B.slots.size)] 2)) (s₁.setTop (mkF m 2 #[.val (.ref d), .val (.int (Int32.ofNat B.slots.size))] [.ref d, .int (Int32.ofNat B.slots.size)])) := c1.trans (by
    refine XS.iloadN X0.here hexec rfl (hb hbytes d0) rfl ?_
    refine XS.aloadN X0.here hexec rfl (hb hbytes d1) rfl rfl ?_
    exact Steps.refl _)
  have c3 : Steps p.tables e below (s₁.setTop (entryFrame m #[.ref d, .int (Int32.ofNat B.slots.size)] 2)) (s₁.setTop (mkF m 8 #[.val (.ref d), .val (.int (Int32.ofNat B.slots.size))] [.int (lo8 (ushr (Int32.ofNat B.slots.size - Int32.ofNat B.slots.size) 31))])) := c2.trans (by
    refine X0.alen hexec hB0 rfl rfl (hb hbytes d2) ?_
    refine XS.isub X0.here hexec rfl (hb hbytes d3) rfl ?_
    refine bipushV X0.here hexec rfl 31 (hb hbytes d4) (by decide) ?_
    refine iushr X0.here hexec rfl (hb hbytes d6) rfl ?_
    refine i2b X0.here hexec rfl (hb hbytes d7) rfl ?_
    exact Steps.refl _)
  have e0 : lo8 (ushr (Int32.ofNat B.slots.size - Int32.ofNat B.slots.size) 31) = 0 := by rw [Int32.sub_self]; decide
  rw [e0] at c3
  exact ⟨s₁, some (.int 0), _, _, _, X0, rfl, rfl, rfl, (fun h => by cases h), ⟨rfl, hh0⟩, fun fs hl => c3.trans (X0.ireturnOut hexec hret rfl (Or.inr (Or.inr (Or.inl rfl))) (hb hbytes d8) hl)⟩
end CodL
/-- the String at a is Latin-1 over a new byte[] (the heap's one new cell): the low bytes of the len chars of A from o on; every cell but a is kept -/
def Got (a : Addr) (D : Cell) (fV fC : Field) (A : Cell) (o len : Nat) (r : Option Value) (s u : State) : Prop := r = none ∧ ∃ D' V : Cell, Blank "java/lang/String" a D' u ∧ Same D D' [fV.slot, fC.slot] ∧ D'.slots[fV.slot]? = some (.ref s.heap.size) ∧ D'.slots[fC.slot]? = some (.int 0) ∧ Arr .byte s.heap.size V u ∧ V.vm = .none ∧ u.vm.findClass "[B" = some V.cls ∧ V.slots.size = len ∧ (∀ j, j < len → V.slots[j]? = some (.int (lo8 (cv A (o + j))))) ∧ (∀ (y : Addr) (c : Cell), y ≠ a → s.heap[y]? = some c → u.heap[y]? = some c) ∧ u.heap.size = s.heap.size + 1
theorem Got.mv {a : Addr} {D A : Cell} {fV fC : Field} {o len : Nat} : ∀ r (U U' V V' : State), U'.heap = U.heap → V.vm.Alike V'.vm → V'.heap = V.heap → Got a D fV fC A o len r U V → Got a D fV fC A o len r U' V' :=
  fun r U U' V V' h1 hal h2 ⟨e0, D', X, a1, a2, a3, a4, a5, a6, a7, a8, a9, a10, a11⟩ => ⟨e0, D', X, a1.mv hal h2, a2, by rw [h1]; exact a3, a4, by rw [h1]; exact a5.mv hal h2, a6, by rw [hal.findClass]; exact a7, a8, a9, by rw [h1, h2]; exact a10, by rw [h1, h2]; exact a11⟩
namespace New4
def yN : MethodName := ⟨"java/lang/String", "<init>", "([CIILjava/lang/Void;)V"⟩
abbrev yB : ByteArray := jdk_42_method_149_code
theorem d0 : decode yB 0 = .ok (.aload_n 0, 1) := by decide +kernel
theorem d1 : decode yB 1 = .ok (.invokespecial 1, 3) := by decide +kernel
theorem d4 : decode yB 4 = .ok (.iload_n 3, 1) := by decide +kernel
theorem d5 : decode yB 5 = .ok (.ifCond (.ne) 22, 3) := by decide +kernel
theorem d27 : decode yB 27 = .ok (.getstatic 38, 3) := by decide +kernel
theorem d30 : decode yB 30 = .ok (.ifCond (.eq) 28, 3) := by decide +kernel
theorem d33 : decode yB 33 = .ok (.aload_n 1, 1) := by decide +kernel
theorem d34 : decode yB 34 = .ok (.iload_n 2, 1) := by decide +kernel
theorem d35 : decode yB 35 = .ok (.iload_n 3, 1) := by decide +kernel
theorem d36 : decode yB 36 = .ok (.invokestatic 177, 3) := by decide +kernel
theorem d39 : decode yB 39 = .ok (.astore 5, 2) := by decide +kernel
theorem d41 : decode yB 41 = .ok (.aload_n 0, 1) := by decide +kernel
theorem d42 : decode yB 42 = .ok (.aload 5, 2) := by decide +kernel
theorem d44 : decode yB 44 = .ok (.iload_n 3, 1) := by decide +kernel
theorem d45 : decode yB 45 = .ok (.invokestatic 47, 3) := by decide +kernel
theorem d48 : decode yB 48 = .ok (.putfield 15, 3) := by decide +kernel
theorem d51 : decode yB 51 = .ok (.aload_n 0, 1) := by decide +kernel
theorem d52 : decode yB 52 = .ok (.aload 5, 2) := by decide +kernel
theorem d54 : decode yB 54 = .ok (.putfield 9, 3) := by decide +kernel
theorem d57 : decode yB 57 = .ok (.return_, 1) := by decide +kernel
def site : List Cond := [.fieldLink "java/lang/String" 38 "java/lang/String" "COMPACT_STRINGS" "Z", Cmp3.tab, CodL.tab, .laysFinal "java/lang/String" "java/lang/String" "value" "[B", .fieldLink "java/lang/String" 9 "java/lang/String" "value" "[B", .laysFinal "java/lang/String" "java/lang/String" "coder" "B", .fieldLink "java/lang/String" 15 "java/lang/String" "coder" "B"] ++ objW "java/lang/String" 1 ++ staticW "java/lang/String" 177 Cmp3.yN ++ staticW "java/lang/String" 47 CodL.yN
def tab : Cond := tabOf yN yB 6 none site
def P (a : Addr) (D : Cell) (fV fC : Field) (b : Addr) (A : Cell) (z : Int32) (o len : Nat) (args : Array Value) (s : State) : Prop := args = #[.ref a, .ref b, .int (Int32.ofNat o), .int (Int32.ofNat len), .null] ∧ Blank "java/lang/String" a D s ∧ Found "java/lang/String" "value" "[B" fV s ∧ Found "java/lang/String" "coder" "B" fC s ∧ Ch b A s ∧ StaticIs s "java/lang/String" "COMPACT_STRINGS" "Z" (.int z) ∧ ¬ z = 0 ∧ 0 < len ∧ o + len ≤ A.slots.size ∧ len ≤ 536870912 ∧ ∀ i, i < len → ¬ 255 < cv A (o + i)
def E (a : Addr) (D : Cell) (fV fC : Field) (A : Cell) (o len : Nat) (r : Option Value) (s u : State) : Prop := Got a D fV fC A o len r s u
/-- len > 0, no char of the range above 255: a Latin-1 String of their low bytes -/
theorem law (l : Launch) (a : Addr) (D : Cell) (fV fC : Field) (b : Addr) (A : Cell) (z : Int32) (o len : Nat) : Law l yN 5 4 2 35 yB 6 none site (P a D fV fC b A z o len) (E a D fV fC A o len) [⟨a, fC.slot⟩, ⟨a, fV.slot⟩] 1 len := by
  refine Law.of_walk (plainFor_of_name (by decide +kernel)) (by decide +kernel) (by decide +kernel) (by decide) (fun _ _ h => by rw [h.1]; rfl) (fun _ U U' hal hh h => ⟨h.1, h.2.1.mv hal hh, h.2.2.1.al hal, h.2.2.2.1.al hal, h.2.2.2.2.1.mv hal hh, h.2.2.2.2.2.1.there hal hh, h.2.2.2.2.2.2⟩) (fun r U U' V V' h1 hal h2 h => Got.mv r U U' V V' h1 hal h2 h) ?_
  intro p e s m args below meth c s₁ X0 hexec hbytes hml hret hlk hnm hown hh0 W hP
  obtain ⟨rfl, hB, f1, f2, hA, s1, hz, l0, l1, l2, hp⟩ := hP
  have a31 := hA.1.2.2.2
  have c1 : Steps p.tables e below (s₁.setTop (entryFrame m #[.ref a, .ref b, .int (Int32.ofNat o), .int (Int32.ofNat len), .null] 6)) (s₁.setTop (mkF m 0 #[.val (.ref a), .val (.ref b), .val (.int (Int32.ofNat o)), .val (.int (Int32.ofNat len)), .val .null, .unset] [])) := entry rfl
  have c2 : Steps p.tables e below (s₁.setTop (entryFrame m #[.ref a, .ref b, .int (Int32.ofNat o), .int (Int32.ofNat len), .null] 6)) (s₁.setTop (mkF m 1 #[.val (.ref a), .val (.ref b), .val (.int (Int32.ofNat o)), .val (.int (Int32.ofNat len)), .val .null, .unset] [.ref a])) := c1.trans (by
    refine XS.aloadN X0.here hexec rfl (hb hbytes d0) rfl rfl ?_
    exact Steps.refl _)
  obtain ⟨T3, X3, q3, st3⟩ := X0.oinit hexec hown (wks W (objW "java/lang/String" 1)) (g := (mkF m 1 #[.val (.ref a), .val (.ref b), .val (.int (Int32.ofNat o)), .val (.int (Int32.ofNat len)), .val .null, .unset] [.ref a])) rfl (by rw [hml]; rfl) (rest := []) rfl (hb hbytes d1) (W := 0) (by show 2 * 0 + 0 ≤ _; decide) (Nat.le_of_ble_eq_true rfl) (Nat.le_of_ble_eq_true rfl)
  have hh3 := q3.trans hh0
  have c4 : Steps p.tables e below (s₁.setTop (entryFrame m #[.ref a, .ref b, .int (Int32.ofNat o), .int (Int32.ofNat len), .null] 6)) (T3.setTop (mkF m 27 #[.val (.ref a), .val (.ref b), .val (.int (Int32.ofNat o)), .val (.int (Int32.ofNat len)), .val .null, .unset] [])) := (c2.trans (st3 _ (Steps.refl _))).trans (by
    refine XS.iloadN X3.here hexec rfl (hb hbytes d4) rfl ?_
    refine XS.ifYes X3.here hexec rfl (pc0 := 5) rfl (hb hbytes d5) rfl (i0_ne_t (nz32 (by omega) l0)) (by decide) rfl ?_
    exact Steps.refl _)
  obtain ⟨T5, X5, q5, st5⟩ := X3.sget hexec hown (wk W (.fieldLink "java/lang/String" 38 "java/lang/String" "COMPACT_STRINGS" "Z")) s1 (fun _ _ h => by rw [hh3]; exact h) (g := (mkF m 27 #[.val (.ref a), .val (.ref b), .val (.int (Int32.ofNat o)), .val (.int (Int32.ofNat len)), .val .null, .unset] [])) rfl (hb hbytes d27)
  have hh5 := q5.trans hh3
  have c6 : Steps p.tables e below (s₁.setTop (entryFrame m #[.ref a, .ref b, .int (Int32.ofNat o), .int (Int32.ofNat len), .null] 6)) (T5.setTop (mkF m 30 #[.val (.ref a), .val (.ref b), .val (.int (Int32.ofNat o)), .val (.int (Int32.ofNat len)), .val .null, .unset] [.int z])) := c4.trans (st5 _ (Steps.refl _))
  have c7 : Steps p.tables e below (s₁.setTop (entryFrame m #[.ref a, .ref b, .int (Int32.ofNat o), .int (Int32.ofNat len), .null] 6)) (T5.setTop (mkF m 36 #[.val (.ref a), .val (.ref b), .val (.int (Int32.ofNat o)), .val (.int (Int32.ofNat len)), .val .null, .unset] [.int (Int32.ofNat len), .int (Int32.ofNat o), .ref b])) := c6.trans (by
    refine XS.ifNo X5.here hexec rfl (hb hbytes d30) rfl (i0_eq_f hz) ?_
    refine XS.aloadN X5.here hexec rfl (hb hbytes d33) rfl rfl ?_
    refine XS.iloadN X5.here hexec rfl (hb hbytes d34) rfl ?_
    refine XS.iloadN X5.here hexec rfl (hb hbytes d35) rfl ?_
    exact Steps.refl _)
  obtain ⟨v8, T8, X8, E8, g8⟩ := X5.callS hexec (Cmp3.law l b A o len) hown (wks W (staticW "java/lang/String" 177 Cmp3.yN)) (wk W Cmp3.tab) (W := 0) (Nat.le_of_ble_eq_true rfl) (Nat.le_of_ble_eq_true rfl) (Nat.le_refl _) (by show 0 + len ≤ len; omega) (g := (mkF m 36 #[.val (.ref a), .val (.ref b), .val (.int (Int32.ofNat o)), .val (.int (Int32.ofNat len)), .val .null, .unset] [.int (Int32.ofNat len), .int (Int32.ofNat o), .ref b])) rfl (by rw [hml]; rfl) c7 (argsL := [.ref b, .int (Int32.ofNat o), .int (Int32.ofNat len)]) (rest := []) rfl rfl (by show 2 * 0 + 0 ≤ _; decide) (hb hbytes d36) (⟨rfl, hA.mv X5.warmed.alike hh5, l1, l2, hp⟩)
  obtain ⟨e8, z8⟩ := E8
  obtain ⟨rfl, N, n1, n2, n3, n4, n5, n6⟩ := NewArr.mv _ T5 s _ _ hh5.symm (Vm.Alike.refl _) rfl e8
  rw [hh5] at z8
  have hB1 := hB.keep X8.warmed.alike (n6 _ _ hB.1)
  have hne : s.heap.size ≠ a := (Nat.ne_of_lt (Array.getElem?_eq_some_iff.mp hB.1).1).symm
  have c9 : Steps p.tables e below (s₁.setTop (entryFrame m #[.ref a, .ref b, .int (Int32.ofNat o), .int (Int32.ofNat len), .null] 6)) (T8.setTop (mkF m 39 #[.val (.ref a), .val (.ref b), .val (.int (Int32.ofNat o)), .val (.int (Int32.ofNat len)), .val .null, .unset] [.ref s.heap.size])) := g8
  have c10 : Steps p.tables e below (s₁.setTop (entryFrame m #[.ref a, .ref b, .int (Int32.ofNat o), .int (Int32.ofNat len), .null] 6)) (T8.setTop (mkF m 45 #[.val (.ref a), .val (.ref b), .val (.int (Int32.ofNat o)), .val (.int (Int32.ofNat len)), .val .null, .val (.ref s.heap.size)] [.int (Int32.ofNat N.slots.size), .ref s.heap.size, .ref a])) := by
    have hc : Steps p.tables e below (s₁.setTop (entryFrame m #[.ref a, .ref b, .int (Int32.ofNat o), .int (Int32.ofNat len), .null] 6)) (T8.setTop (mkF m 45 #[.val (.ref a), .val (.ref b), .val (.int (Int32.ofNat o)), .val (.int (Int32.ofNat len)), .val .null, .val (.ref s.heap.size)] [.int (Int32.ofNat len), .ref s.heap.size, .ref a])) := c9.trans (by
      refine XS.astore X8.here hexec rfl (hb hbytes d39) rfl rfl rfl ?_
      refine XS.aloadN X8.here hexec rfl (hb hbytes d41) rfl rfl ?_
      refine XS.aload X8.here hexec rfl (hb hbytes d42) rfl rfl ?_
      refine XS.iloadN X8.here hexec rfl (hb hbytes d44) rfl ?_
      exact Steps.refl _)
    rw [n4]; exact hc
  obtain ⟨v11, T11, X11, E11, g11⟩ := X8.callS hexec (CodL.law l s.heap.size N) hown (wks W (staticW "java/lang/String" 47 CodL.yN)) (wk W CodL.tab) (W := 1) (Nat.le_of_ble_eq_true rfl) (Nat.le_of_ble_eq_true rfl) (Nat.le_refl _) (by show 0 + len + 0 ≤ len; omega) (g := (mkF m 45 #[.val (.ref a), .val (.ref b), .val (.int (Int32.ofNat o)), .val (.int (Int32.ofNat len)), .val .null, .val (.ref s.heap.size)] [.int (Int32.ofNat N.slots.size), .ref s.heap.size, .ref a])) rfl (by rw [hml]; rfl) c10 (argsL := [.ref s.heap.size, .int (Int32.ofNat N.slots.size)]) (rest := [.ref a]) rfl rfl (by show 2 * 0 + (1 + 0) ≤ _; decide) (hb hbytes d45) (⟨rfl, n1⟩)
  obtain ⟨rfl, q11⟩ := E11
  have hB11 := hB1.mv (X8.warmed.alike.symm.trans X11.warmed.alike) q11
  have c12 : Steps p.tables e below (s₁.setTop (entryFrame m #[.ref a, .ref b, .int (Int32.ofNat o), .int (Int32.ofNat len), .null] 6)) (T11.setTop (mkF m 48 #[.val (.ref a), .val (.ref b), .val (.int (Int32.ofNat o)), .val (.int (Int32.ofNat len)), .val .null, .val (.ref s.heap.size)] [.int 0, .ref a])) := g11
  obtain ⟨T13, X13, p13, bl13, sl13, st13⟩ := X11.finit hexec hown (wk W (.fieldLink "java/lang/String" 15 "java/lang/String" "coder" "B")) (Or.inr ⟨_, (wk W (.laysFinal "java/lang/String" "java/lang/String" "coder" "B"))⟩) (Or.inl ⟨rfl, hnm⟩) f2 (Or.inl rfl) hB11 (t := .byte) (by decide +kernel) rfl (g := (mkF m 48 #[.val (.ref a), .val (.ref b), .val (.int (Int32.ofNat o)), .val (.int (Int32.ofNat len)), .val .null, .val (.ref s.heap.size)] [.int 0, .ref a])) rfl (rest := []) rfl (hb hbytes d48)
  have c14 : Steps p.tables e below (s₁.setTop (entryFrame m #[.ref a, .ref b, .int (Int32.ofNat o), .int (Int32.ofNat len), .null] 6)) (T13.setTop (mkF m 54 #[.val (.ref a), .val (.ref b), .val (.int (Int32.ofNat o)), .val (.int (Int32.ofNat len)), .val .null, .val (.ref s.heap.size)] [.ref s.heap.size, .ref a])) := (c12.trans (st13 _ (Steps.refl _))).trans (by
    refine XS.aloadN X13.here hexec rfl (hb hbytes d51) rfl rfl ?_
    refine XS.aload X13.here hexec rfl (hb hbytes d52) rfl rfl ?_
    exact Steps.refl _)
  obtain ⟨T15, X15, p15, bl15, sl15, st15⟩ := X13.finit hexec hown (wk W (.fieldLink "java/lang/String" 9 "java/lang/String" "value" "[B")) (Or.inr ⟨_, (wk W (.laysFinal "java/lang/String" "java/lang/String" "value" "[B"))⟩) (Or.inl ⟨rfl, hnm⟩) f1 (Or.inl rfl) bl13 (t := (.array .byte)) (by decide +kernel) rfl (g := (mkF m 54 #[.val (.ref a), .val (.ref b), .val (.int (Int32.ofNat o)), .val (.int (Int32.ofNat len)), .val .null, .val (.ref s.heap.size)] [.ref s.heap.size, .ref a])) rfl (rest := []) rfl (hb hbytes d54)
  have c16 : Steps p.tables e below (s₁.setTop (entryFrame m #[.ref a, .ref b, .int (Int32.ofNat o), .int (Int32.ofNat len), .null] 6)) (T15.setTop (mkF m 57 #[.val (.ref a), .val (.ref b), .val (.int (Int32.ofNat o)), .val (.int (Int32.ofNat len)), .val .null, .val (.ref s.heap.size)] [])) := c14.trans (st15 _ (Steps.refl _))
  have ap := apart (Or.inr ⟨_, (wk W (.laysFinal "java/lang/String" "java/lang/String" "value" "[B"))⟩) (Or.inr ⟨_, (wk W (.laysFinal "java/lang/String" "java/lang/String" "coder" "B"))⟩) f1 f2 (t₁ := .array .byte) (t₂ := .byte) (by decide +kernel) (by decide +kernel) (by decide)
  have al := X8.warmed.alike.symm.trans X15.warmed.alike
  have n7 : T11.heap[s.heap.size]? = some N := by rw [q11]; exact n1.1
  exact ⟨T15, none, _, _, _, X15, by simp, rfl, by omega, (fun _ => rfl), ⟨rfl, _, N, bl15, ((Same.refl D _).set _ (by simp)).set _ (by simp), sl15, (Cell.slots_setSlot_ne _ ap).trans sl13, n1.keep al (p15.other hne (p13.other hne n7)), n2, by rw [al.findClass]; exact n3, n4, n5, fun y c h1 h2 => p15.other h1 (p13.other h1 (by rw [q11]; exact n6 y c h2)), by rw [p15.2.2, p13.2.2, q11]; exact z8⟩, fun fs hl => c16.trans (X15.returnOut hexec hret (hb hbytes d57) hl)⟩
end New4
namespace New1
def yN : MethodName := ⟨"java/lang/String", "<init>", "([C)V"⟩
abbrev yB : ByteArray := jdk_42_method_3_code
theorem d0 : decode yB 0 = .ok (.aload_n 0, 1) := by decide +kernel
theorem d1 : decode yB 1 = .ok (.aload_n 1, 1) := by decide +kernel
theorem d2 : decode yB 2 = .ok (.iconst 0, 1) := by decide +kernel
theorem d3 : decode yB 3 = .ok (.aload_n 1, 1) := by decide +kernel
theorem d4 : decode yB 4 = .ok (.arraylength, 1) := by decide +kernel
theorem d5 : decode yB 5 = .ok (.aconst_null, 1) := by decide +kernel
theorem d6 : decode yB 6 = .ok (.invokespecial 27, 3) := by decide +kernel
theorem d9 : decode yB 9 = .ok (.return_, 1) := by decide +kernel
def site : List Cond := [New4.tab] ++ initW "java/lang/String" 27 New4.yN
def tab : Cond := tabOf yN yB 2 none site
def P (a : Addr) (D : Cell) (fV fC : Field) (b : Addr) (A : Cell) (z : Int32) (args : Array Value) (s : State) : Prop := args = #[.ref a, .ref b] ∧ Blank "java/lang/String" a D s ∧ Found "java/lang/String" "value" "[B" fV s ∧ Found "java/lang/String" "coder" "B" fC s ∧ Ch b A s ∧ StaticIs s "java/lang/String" "COMPACT_STRINGS" "Z" (.int z) ∧ ¬ z = 0 ∧ 0 < A.slots.size ∧ A.slots.size ≤ 536870912 ∧ ∀ i, i < A.slots.size → ¬ 255 < cv A i
def E (a : Addr) (D : Cell) (fV fC : Field) (A : Cell) (r : Option Value) (s u : State) : Prop := Got a D fV fC A 0 A.slots.size r s u
/-- new String(chars), not empty, no char above 255: a Latin-1 String of their low bytes -/
theorem law (l : Launch) (a : Addr) (D : Cell) (fV fC : Field) (b : Addr) (A : Cell) (z : Int32) : Law l yN 2 1 3 52 yB 2 none site (P a D fV fC b A z) (E a D fV fC A) [⟨a, fC.slot⟩, ⟨a, fV.slot⟩] 1 A.slots.size := by
  refine Law.of_walk (plainFor_of_name (by decide +kernel)) (by decide +kernel) (by decide +kernel) (by decide) (fun _ _ h => by rw [h.1]; rfl) (fun _ U U' hal hh h => ⟨h.1, h.2.1.mv hal hh, h.2.2.1.al hal, h.2.2.2.1.al hal, h.2.2.2.2.1.mv hal hh, h.2.2.2.2.2.1.there hal hh, h.2.2.2.2.2.2⟩) (fun r U U' V V' h1 hal h2 h => Got.mv r U U' V V' h1 hal h2 h) ?_
  intro p e s m args below meth c s₁ X0 hexec hbytes hml hret hlk hnm hown hh0 W hP
  obtain ⟨rfl, hB, f1, f2, hA, s1, hz, l0, l2, hp⟩ := hP
  have c1 : Steps p.tables e below (s₁.setTop (entryFrame m #[.ref a, .ref b] 2)) (s₁.setTop (mkF m 0 #[.val (.ref a), .val (.ref b)] [])) := entry rfl
  have c2 : Steps p.tables e below (s₁.setTop (entryFrame m #[.ref a, .ref b] 2)) (s₁.setTop (mkF m 6 #[.val (.ref a), .val (.ref b)] [.null, .int (Int32.ofNat A.slots.size), .int 0, .ref b, .ref a])) := c1.trans (by
    refine XS.aloadN X0.here hexec rfl (hb hbytes d0) rfl rfl ?_
    refine XS.aloadN X0.here hexec rfl (hb hbytes d1) rfl rfl ?_
    refine iconstV X0.here hexec rfl 0 (hb hbytes d2) (by decide) ?_
    refine XS.aloadN X0.here hexec rfl (hb hbytes d3) rfl rfl ?_
    refine X0.alen hexec (hA.1.mv X0.warmed.alike hh0) rfl rfl (hb hbytes d4) ?_
    refine XS.aconstNull X0.here hexec rfl (hb hbytes d5) ?_
    exact Steps.refl _)
  obtain ⟨v3, T3, X3, E3, g3⟩ := X0.callN hexec (New4.law l a D fV fC b A z 0 A.slots.size) rfl hown (wks W (initW "java/lang/String" 27 New4.yN)) (W New4.tab (by simp only [site, List.mem_cons, List.mem_append, true_or, or_true])) (W := 0) (Nat.le_of_ble_eq_true rfl) (Nat.le_of_ble_eq_true rfl) (Nat.le_refl _) (by show 0 + A.slots.size ≤ A.slots.size; omega) (g := (mkF m 6 #[.val (.ref a), .val (.ref b)] [.null, .int (Int32.ofNat A.slots.size), .int (Int32.ofNat 0), .ref b, .ref a])) rfl (by rw [hml]; rfl) c2 (argsL := [.ref b, .int (Int32.ofNat 0), .int (Int32.ofNat A.slots.size), .null]) (rest := []) rfl rfl (by show 2 * 0 + 0 ≤ _; decide) (hb hbytes d6) (⟨rfl, hB.mv X0.warmed.alike hh0, f1.al X0.warmed.alike, f2.al X0.warmed.alike, hA.mv X0.warmed.alike hh0, s1.there X0.warmed.alike hh0, hz, l0, by omega, l2, fun i hi => by rw [Nat.zero_add]; exact hp i hi⟩)
  have e0 := Got.mv _ s₁ s _ _ hh0.symm (Vm.Alike.refl _) rfl E3
  obtain rfl := e0.1
  have c4 : Steps p.tables e below (s₁.setTop (entryFrame m #[.ref a, .ref b] 2)) (T3.setTop (mkF m 9 #[.val (.ref a), .val (.ref b)] [])) := g3
  exact ⟨T3, none, _, _, _, X3, by simp, rfl, by omega, (fun _ => rfl), e0, fun fs hl => c4.trans (X3.returnOut hexec hret (hb hbytes d9) hl)⟩
theorem pays {l : Launch} {R : Room} {p : Program} {e : Env} {below : List Frame} {s : State} {sargs : Array Value} {len W : Nat} (a : Addr) (D : Cell) (fV fC : Field) (b : Addr) (A : Cell) (z : Int32) (htab : tab.before sargs s = true) (hfr : 4 ≤ R.frames) (hlo : W + 65 ≤ R.locals) :
    Back l R p e below s sargs yN len W (fun A₁ a₁ => A₁.cells + 1 ≤ R.cells ∧ A₁.slots + A.slots.size ≤ R.slots ∧ P a D fV fC b A z a₁ A₁.U) (fun A₁ _ v₁ B₁ => E a D fV fC A v₁ A₁.U B₁.U ∧ B₁.locs = A₁.locs ++ [⟨a, fC.slot⟩, ⟨a, fV.slot⟩] ∧ B₁.cells = A₁.cells + 1 ∧ B₁.slots = A₁.slots + A.slots.size) :=
  (law l a D fV fC b A z).pays htab hfr (by omega)
end New1
/-- the byte, read back as charAt reads it, is the char -/
theorem lo8_mask {x : Int32} (h0 : ¬ x < 0) (h1 : ¬ 255 < x) : lo8 x &&& 255 = x := by
  have t : ∀ k : Fin 256, lo8 (Int32.ofNat k.val) &&& 255 = Int32.ofNat k.val := by decide +kernel
  rw [Int32.lt_iff_toInt_lt] at h0 h1
  have e0 : (0 : Int32).toInt = 0 := rfl
  have e1 : (255 : Int32).toInt = 255 := rfl
  obtain ⟨k, hk⟩ : ∃ k : Nat, x.toInt = k := ⟨x.toInt.toNat, by omega⟩
  have hx : x = Int32.ofNat k := Int32.toInt_inj.mp (by rw [hk, Int32.toInt_ofNat_small (by omega)])
  rw [hx]
  exact t ⟨k, by omega⟩
end StrChars
namespace StrChars.Road
open Jvm Sem ClassFile Op Lib Jvm.Stand Jvm.Free Jvm.Free.XT
open Jvm.Lib.Cold (StaticIs)
abbrev ST : String := "java/lang/String"
/-- every table word that New1's law asks, flat -/
abbrev words : List Jvm.Cond := [.code New1.yN New1.yB 2 none, .initialized ST, .methodLink ST 27 New4.yN, .instanceMethod New4.yN,
  .code New4.yN New4.yB 6 none, .fieldLink ST 38 ST "COMPACT_STRINGS" "Z", .laysFinal ST ST "value" "[B", .fieldLink ST 9 ST "value" "[B", .laysFinal ST ST "coder" "B", .fieldLink ST 15 ST "coder" "B",
  .methodLink ST 1 Lib.objectInit, .instanceMethod Lib.objectInit, .code Lib.objectInit ⟨#[0xb1]⟩ 1 none, .methodLink ST 177 Cmp3.yN, .static Cmp3.yN, .methodLink ST 47 CodL.yN, .static CodL.yN,
  .code Cmp3.yN Cmp3.yB 6 (some (.array .byte)), .initialized U16, .arrayClass .byte, .methodLink U16 115 Cmp5.yN, .static Cmp5.yN, .code Cmp5.yN Cmp5.yB 7 (some .int), .code CodL.yN CodL.yB 2 (some .byte)]
theorem tab_of {a : Array Value} {s : State} (h : ∀ w ∈ words, w.before a s = true) : New1.tab.before a s = true := by
  have h5 : Cmp5.tab.before a s = true := unparts (wk h (.code Cmp5.yN Cmp5.yB 7 (some .int))) (wks h (.initialized Cmp5.yN.cls :: Cmp5.site))
  have hc : CodL.tab.before a s = true := unparts (wk h (.code CodL.yN CodL.yB 2 (some .byte))) (wks h (.initialized CodL.yN.cls :: CodL.site))
  have q5 : ∀ w ∈ Cmp5.tab :: words, w.before a s = true := fun w hw => (List.mem_cons.mp hw).elim (fun e => e ▸ h5) (h w)
  have h3 : Cmp3.tab.before a s = true := unparts (wk q5 (.code Cmp3.yN Cmp3.yB 6 (some (.array .byte)))) (wks q5 (.initialized Cmp3.yN.cls :: Cmp3.site))
  have q3 : ∀ w ∈ Cmp3.tab :: CodL.tab :: words, w.before a s = true := fun w hw => (List.mem_cons.mp hw).elim (fun e => e ▸ h3) fun hw => (List.mem_cons.mp hw).elim (fun e => e ▸ hc) (h w)
  have h4 : New4.tab.before a s = true := unparts (wk q3 (.code New4.yN New4.yB 6 none)) (wks q3 (.initialized New4.yN.cls :: New4.site))
  have q4 : ∀ w ∈ New4.tab :: words, w.before a s = true := fun w hw => (List.mem_cons.mp hw).elim (fun e => e ▸ h4) (h w)
  exact unparts (wk q4 (.code New1.yN New1.yB 2 none)) (wks q4 (.initialized New1.yN.cls :: New1.site))
/-- the words ride from the start Z to the walk's own state -/
theorem moved {Z s : State} {a0 args : Array Value} (hZ : Z.Warmed39 s.vm) (hw : ∀ d ∈ words, d.before a0 Z = true) : ∀ d ∈ words, d.before args s = true := fun d hd => by
  have q := hw d hd
  have t : ∀ d ∈ words, d = .arrayClass .byte ∨ (d.onTables && d.keepsFace) = true := by decide +kernel
  rcases t d hd with rfl | t
  · exact RoadKit.mvA hZ q
  · exact RoadKit.mv hZ q t
/-- WHAT COMES BACK, over the tables of the start Z: h the heap at the call, h' behind it -/
def Q (Z : State) (x : Addr) (A : Cell) (h : Heap) (v : Option Value) (h' : Heap) (L : List Loc) : Prop := v = none ∧ (∀ y ∈ L, y.base = x) ∧ RoadKit.Keep h h' [x] ∧ h'.size = h.size + 1 ∧ RoadKit.Exa Z h' x ST ∧ RoadKit.Fld Z h' x ST "value" "[B" (.ref h.size) ∧ RoadKit.Fld Z h' x ST "coder" "B" (.int 0) ∧
  (∃ V : Cell, RoadKit.Arr Z h' h.size V .byte ∧ V.vm = .none ∧ Z.vm.findClass "[B" = some V.cls ∧ V.slots.size = A.slots.size ∧ ∀ j, j < A.slots.size → V.slots[j]? = some (.int (lo8 (cv A j)))) ∧
  ∀ (O n d : String) (w : Value), RoadKit.Fld Z h x O n d w → RoadKit.slotOf Z O n d ≠ RoadKit.slotOf Z ST "value" "[B" → RoadKit.slotOf Z O n d ≠ RoadKit.slotOf Z ST "coder" "B" → RoadKit.Fld Z h' x O n d w
/-- **new String(chars) AT A CALL, IN THE ROAD'S FORM**: for specialBack behind newO: x the fresh String, b the char[] with the cell A -/
theorem back {p : Program} {l : Launch} {e : Env} {R : Room} {s : State} {args : Array Value} {below : List Frame} {len W : Nat} {Z : State} {a0 : Array Value} {h : Heap} (hZ : Z.Warmed39 s.vm) (hw : ∀ d ∈ words, d.before a0 Z = true) {kI : Nat} (wi : (Jvm.Cond.instantiable ST kI).before a0 Z = true)
    {x b : Addr} {A : Cell} {z : Int32} {v0 c0 : Value} (E : RoadKit.Exa Z h x ST) (V : RoadKit.Fld Z h x ST "value" "[B" v0) (C : RoadKit.Fld Z h x ST "coder" "B" c0) (K : RoadKit.Arr Z h b A .char) (hty : Typed .char A) (S : RoadKit.Sta Z h ST "COMPACT_STRINGS" "Z" (.int z)) (hz : ¬ z = 0)
    (l0 : 0 < A.slots.size) (l2 : A.slots.size ≤ 536870912) (hp : ∀ i, i < A.slots.size → ¬ 255 < cv A i) (hfr : 4 ≤ R.frames) (hlo : W + 65 ≤ R.locals) :
    Back l R p e below s args New1.yN len W (fun P a => a = #[.ref x, .ref b] ∧ P.U.heap = h ∧ P.cells + 1 ≤ R.cells ∧ P.slots + A.slots.size ≤ R.slots)
      (fun P _ v B => ∃ L, Q Z x A h v B.U.heap L ∧ B.locs = P.locs ++ L ∧ B.cells = P.cells + 1 ∧ B.slots = P.slots + A.slots.size) := by
  intro m meth c P g ig mk a X hg hsize hdg hW hn hp'
  obtain ⟨rfl, rfl, r1, r2⟩ := hp'
  have al : Z.vm.Alike P.U.vm := hZ.alike.trans X.warmed.alike
  obtain ⟨D, cfV, kV, iV, fV, hD, gV, stV, knV, obV, asV, slV⟩ := id V
  obtain ⟨D', cfC, kC, iC, fC, hD', gC, stC, -, -, asC, slC⟩ := id C
  cases hD.symm.trans hD'
  obtain ⟨D2, kD, e1, e2, e3, e4, e5⟩ := id E
  cases hD.symm.trans e1
  obtain ⟨c2, k2, i1, i2, i3, -⟩ := Cond.instantiable_spec wi
  cases e2.symm.trans i1
  cases e3.symm.trans i2
  obtain ⟨kU, u1, u2⟩ := al.2.2 _ _ e3
  have hB : Blank ST x D P.U := ⟨hD, ⟨knV, fun q hq => by rw [hq] at obV; cases obV⟩, by rw [al.findClass]; exact e2, kU, u1, by rw [u2]; exact i3, by rw [u2]; exact e5 i3⟩
  have F1 : Found ST "value" "[B" fV P.U := ⟨SBG.found_only al ⟨cfV, kV, iV, gV⟩, stV⟩
  have F2 : Found ST "coder" "B" fC P.U := ⟨SBG.found_only al ⟨cfC, kC, iC, gC⟩, stC⟩
  have hA : Ch b A P.U := ⟨⟨K.1, State.isArrayOf_alike al K.2.1, K.2.2, by omega⟩, hty⟩
  have hS : StaticIs P.U ST "COMPACT_STRINGS" "Z" (.int z) := by
    obtain ⟨cfS, iS, kS, fS, st, cS, t1, t2, t3, t4, t5, t6, t7⟩ := S
    exact StaticIs.there (s := { Z with heap := P.U.heap }) ⟨cfS, iS, kS, fS, st, cS, t1, t2, t3, t4, t5, (fun q => by rw [q] at t6; cases t6), t7⟩ al rfl
  obtain ⟨v, B, X', ⟨⟨hv, E', V', q1, q2, q3, q4, q5, q6, q7, q8, q9, q10, q11⟩, hl, hc, hs⟩, st⟩ := New1.pays x D fV fC b A z (tab_of (moved hZ hw)) hfr hlo m meth c P g ig mk _ X hg hsize hdg hW hn ⟨r1, r2, rfl, hB, F1, F2, hA, hS, hz, l0, l2, hp⟩
  have al' : Z.vm.Alike B.U.vm := hZ.alike.trans X'.warmed.alike
  have hsz : E'.slots.size = D.slots.size := by
    obtain ⟨-, -, -, kB, w1, w2, w3⟩ := q1
    obtain ⟨kB', y1, y2⟩ := al'.2.2 _ _ e3
    rw [q2.2.1] at w1
    cases w1.symm.trans y1
    rw [w3, e5 i3, y2]
  refine ⟨v, B, X', ⟨_, ⟨hv, ?_, ⟨by omega, fun y cy hy hn' => q10 y cy (by simpa using hn') hy, fun y cy hy => ?_⟩, q11, ⟨E', _, q1.1, by rw [q2.2.1]; exact e2, by rw [q2.2.1]; exact e3, by rw [q2.1]; exact obV, fun _ => by rw [hsz]; exact e5 i3⟩,
    ⟨E', cfV, kV, iV, fV, q1.1, gV, stV, by rw [q2.1]; exact knV, by rw [q2.1]; exact obV, by rw [q2.2.1]; exact asV, q3⟩, ⟨E', cfC, kC, iC, fC, q1.1, gC, stC, by rw [q2.1]; exact knV, by rw [q2.1]; exact obV, by rw [q2.2.1]; exact asC, q4⟩,
    ⟨V', ⟨q5.1, State.isArrayOf_alike al'.symm q5.2.1, q5.2.2.1⟩, q6, by rw [← al'.findClass]; exact q7, q8, fun j hj => by have := q9 j hj; rwa [Nat.zero_add] at this⟩, fun O n d w F n1 n2 => ?_⟩, hl, hc, hs⟩, st⟩
  · intro y hy
    simp only [List.mem_cons, List.not_mem_nil, or_false] at hy
    rcases hy with rfl | rfl <;> rfl
  · by_cases q : y = x
    · subst q
      cases hD.symm.trans hy
      exact ⟨E', q1.1, q2.2.1, q2.1, hsz⟩
    · exact ⟨cy, q10 y cy q hy, rfl, rfl, rfl⟩
  · obtain ⟨D3, cf, k, i, f, g1, g2, g3, g4, g5, g6, g7⟩ := F
    cases hD.symm.trans g1
    simp only [RoadKit.slotOf, g2, gV, gC, Option.map_some, Option.getD_some] at n1 n2
    exact ⟨E', cf, k, i, f, q1.1, g2, g3, by rw [q2.1]; exact g4, by rw [q2.1]; exact g5, by rw [q2.2.1]; exact g6, by rw [q2.2.2 f.slot (by simp [n1, n2])]; exact g7⟩
end StrChars.Road
namespace StrChars.Road
open Jvm Sem ClassFile Op Lib Jvm.Stand Jvm.Free Jvm.Free.XT
/-- WHAT COMES BACK, the byte[] as a list of values -/
def QA (Z : State) (x : Addr) (zn : Int32) (cs : List Int32) (h : Heap) (v : Option Value) (h' : Heap) (L : List Loc) : Prop := v = none ∧ (∀ y ∈ L, y.base = x) ∧ RoadKit.Keep h h' [x] ∧ h'.size = h.size + 1 ∧ RoadKit.Exa Z h' x ST ∧ RoadKit.Fld Z h' x ST "value" "[B" (.ref h.size) ∧ RoadKit.Fld Z h' x ST "coder" "B" (.int 0) ∧
  (∃ kb, Z.vm.findClass "[B" = some kb ∧ RoadKit.Arv Z h' h.size kb .byte zn (cs.map fun c => .int (lo8 c)) (.int 0)) ∧
  ∀ (O n d : String) (w : Value), RoadKit.Fld Z h x O n d w → RoadKit.slotOf Z O n d ≠ RoadKit.slotOf Z ST "value" "[B" → RoadKit.slotOf Z O n d ≠ RoadKit.slotOf Z ST "coder" "B" → RoadKit.Fld Z h' x O n d w
/-- **new String(chars) AT A CALL, THE ARRAYS AS LISTS**: the char[] at b holds cs, not empty, no char above 255 -/
theorem backArv {p : Program} {l : Launch} {e : Env} {R : Room} {s : State} {args : Array Value} {below : List Frame} {len W : Nat} {Z : State} {a0 : Array Value} {h : Heap} (hZ : Z.Warmed39 s.vm) (hw : ∀ d ∈ words, d.before a0 Z = true) {kI : Nat} (wi : (Jvm.Cond.instantiable ST kI).before a0 Z = true)
    {x b : Addr} {k : ClassId} {zn z : Int32} {cs : List Int32} {dv v0 c0 : Value} (E : RoadKit.Exa Z h x ST) (V : RoadKit.Fld Z h x ST "value" "[B" v0) (C : RoadKit.Fld Z h x ST "coder" "B" c0) (K : RoadKit.Arv Z h b k .char zn (cs.map Value.int) dv) (S : RoadKit.Sta Z h ST "COMPACT_STRINGS" "Z" (.int z)) (hz : ¬ z = 0)
    (hlen : zn.toNatClampNeg = cs.length) (h0 : 0 < cs.length) (hbig : cs.length ≤ 536870912) (hall : ∀ c ∈ cs, ¬ 255 < c) (hfr : 4 ≤ R.frames) (hlo : W + 65 ≤ R.locals) :
    Back l R p e below s args New1.yN len W (fun P a => a = #[.ref x, .ref b] ∧ P.U.heap = h ∧ P.cells + 1 ≤ R.cells ∧ P.slots + cs.length ≤ R.slots)
      (fun P _ v B => ∃ L, QA Z x zn cs h v B.U.heap L ∧ B.locs = P.locs ++ L ∧ B.cells = P.cells + 1 ∧ B.slots = P.slots + cs.length) := by
  obtain ⟨A, K1, K2, K3, K4, K5, K6⟩ := K
  have e : A.slots.size = cs.length := K3.trans hlen
  have hat : ∀ (i : Nat) (hi : i < cs.length), A.slots[i]? = some (.int cs[i]) := fun i hi => by rw [K5 i (by omega)]; simp [List.getD_eq_getElem?_getD, hi]
  have hcv : ∀ (i : Nat) (hi : i < cs.length), cv A i = cs[i] := fun i hi => by unfold cv; rw [hat i hi]
  have hty : Typed .char A := fun i v hv => by
    have hi : i < A.slots.size := (Array.getElem?_eq_some_iff.mp hv).1
    have q := K5 i hi
    rw [hv] at q
    rw [Option.some.inj q]
    exact K6 i hi
  refine Back.mono (back hZ hw wi E V C K1 hty S hz (by omega) (by omega) (fun i hi => by rw [hcv i (by omega)]; exact hall _ (List.getElem_mem _)) hfr hlo) (fun P a hp => ⟨hp.1, hp.2.1, hp.2.2.1, by rw [e]; exact hp.2.2.2⟩) (fun P a v B hp hq => ?_)
  obtain ⟨L, ⟨q1, q2, q3, q4, q5, q6, q7, ⟨V', v1, v2, v3, v4, v5⟩, q9⟩, hl, hc, hs⟩ := hq
  refine ⟨L, ⟨q1, q2, q3, q4, q5, q6, q7, ⟨V'.cls, v3, V', v1, rfl, by rw [v4, e, hlen], K4, fun i hi => ?_, fun i hi => ?_⟩, q9⟩, hl, hc, by rw [hs, e]⟩
  · have hi' : i < cs.length := by omega
    rw [v5 i (by omega), hcv i hi']; simp [List.getD_eq_getElem?_getD, hi']
  · have hi' : i < cs.length := by omega
    simp only [List.getD_eq_getElem?_getD, List.getElem?_map, List.getElem?_eq_getElem hi', Option.map_some, Option.getD_some]
    exact fits_lo8 _
end StrChars.Road
namespace StrChars.Road
open Jvm Sem ClassFile Op Lib Jvm.Stand Jvm.Free Jvm.Free.XT
/-- WHAT COMES BACK, in the writer's own shape -/
def QV (Z : State) (x : Addr) (N : Int32) (bs : List Int32) (h : Heap) (n0 : Nat) (v : Option Value) (h' : Heap) (L : List Loc) : Prop := v = none ∧ RoadKit.Fr n0 L ∧ RoadKit.Keep h h' [x] ∧ RoadKit.Exa Z h' x ST ∧ RoadKit.Fld Z h' x ST "coder" "B" (.int 0) ∧
  ∃ (t : Addr) (kb : ClassId), n0 ≤ t ∧ h.size ≤ t ∧ ¬ t = x ∧ RoadKit.Fld Z h' x ST "value" "[B" (.ref t) ∧ RoadKit.Arv Z h' t kb .byte N (bs.map Value.int) (.int 0)
/-- **new String(chars) AT A CALL, FOR THE WRITER**: a char[] of n known ints, each 0 to 255 -/
theorem backV {p : Program} {l : Launch} {e : Env} {R : Room} {s : State} {args : Array Value} {below : List Frame} {len W : Nat} {Z : State} {a0 : Array Value} {h : Heap} (hZ : Z.Warmed39 s.vm) (hw : ∀ d ∈ words, d.before a0 Z = true) {kI : Nat} (wi : (Jvm.Cond.instantiable ST kI).before a0 Z = true)
    {x b : Addr} {kC : ClassId} {cs bs : List Int32} {d v0 c0 : Value} {z N : Int32} {n n0 : Nat} (hx0 : n0 ≤ x) (hh0 : n0 ≤ h.size) (E : RoadKit.Exa Z h x ST) (V : RoadKit.Fld Z h x ST "value" "[B" v0) (C : RoadKit.Fld Z h x ST "coder" "B" c0) (K : RoadKit.Arv Z h b kC .char N (cs.map Value.int) d) (S : RoadKit.Sta Z h ST "COMPACT_STRINGS" "Z" (.int z)) (hz : ¬ z = 0)
    (hn : cs.length = n) (hN : N = Int32.ofNat n) (l0 : 0 < n) (l2 : n ≤ 4000) (hp : ∀ c ∈ cs, ¬ c < 0 ∧ ¬ (255 : Int32) < c) (hb : bs = cs.map (fun c => c.toInt8.toInt32)) (hfr : 4 ≤ R.frames) (hlo : W + 65 ≤ R.locals) :
    Back l R p e below s args (⟨"java/lang/String", "<init>", "([C)V"⟩ : MethodName) len W (fun P a => a = #[.ref x, .ref b] ∧ P.U.heap = h ∧ P.cells + 1 ≤ R.cells ∧ P.slots + n ≤ R.slots)
      (fun P _ v B => ∃ L, QV Z x N bs h n0 v B.U.heap L ∧ B.locs = P.locs ++ L ∧ B.cells = P.cells + 1 ∧ B.slots = P.slots + n) := by
  subst hn hN hb
  refine Back.mono (backArv hZ hw wi E V C K S hz (n32 (by omega)) l0 (by omega) (fun c hc => (hp c hc).2) hfr hlo) (fun P a hp => hp) (fun P a v B hp hq => ?_)
  obtain ⟨L, ⟨q1, q2, q3, q4, q5, q6, q7, ⟨kb, v1, v2⟩, q9⟩, hl, hc, hs⟩ := hq
  exact ⟨L, ⟨q1, fun y hy => by rw [q2 y hy]; exact hx0, q3, q5, q7, h.size, kb, hh0, Nat.le_refl _, Nat.ne_of_gt E.lt, q6, by rw [List.map_map]; exact v2⟩, hl, hc, hs⟩
end StrChars.Road
namespace StrChars
open Jvm Sem ClassFile Op Lib Jvm.Stand Jvm.Free.XT Jvm.Free.ALB Jvm.Free.JM Jvm.Free
open Jvm.Lib.Cold (StaticIs)
def hi8 (x : Int32) : Int32 := lo8 (x >>> ((8 : Int32) &&& 31))
/-- what StringUTF16.getChar makes of two bytes -/
def pairCh (u v : Int32) : Int32 := (((u &&& 255) <<< ((0 : Int32) &&& 31)) ||| ((v &&& 255) <<< ((8 : Int32) &&& 31))).toUInt32.toUInt16.toUInt32.toInt32
theorem lo8_and (x : Int32) : (lo8 x &&& 255).toBitVec.toNat = x.toBitVec.toNat % 256 := by
  have h : (lo8 x).toBitVec = (x.toBitVec.signExtend 8).signExtend 32 := by rw [lo8, Int8.toBitVec_toInt32, Int32.toBitVec_toInt8]
  rw [Int32.toBitVec_and, BitVec.toNat_and, h]
  have e : ((x.toBitVec.signExtend 8).signExtend 32).toNat % 256 = x.toBitVec.toNat % 256 := by
    rw [BitVec.toNat_signExtend]
    have hlt := x.toBitVec.isLt
    simp only [BitVec.toNat_setWidth, BitVec.toNat_signExtend]
    split <;> split <;> omega
  rw [← e]
  exact Nat.and_two_pow_sub_one_eq_mod _ 8
theorem pair_says {c : Int32} (h0 : ¬ c < 0) (h1 : ¬ 65535 < c) : pairCh (lo8 c) (hi8 c) = c := by
  rw [Int32.lt_iff_toInt_lt] at h0 h1
  have e0 : (0 : Int32).toInt = 0 := rfl
  have e1 : (65535 : Int32).toInt = 65535 := rfl
  have hc : c.toInt = c.toBitVec.toNat := by
    have := c.toBitVec.isLt
    have e : c.toInt = c.toBitVec.toInt := rfl
    rw [e] at h0 h1
    rw [e]
    rw [BitVec.toInt_eq_toNat_cond] at h0 h1 ⊢
    split at h0 <;> split <;> omega
  have hn : c.toBitVec.toNat < 65536 := by omega
  have a1 := lo8_and c
  have a2 : (hi8 c &&& 255).toBitVec.toNat = c.toBitVec.toNat / 256 := by
    rw [hi8, lo8_and]
    have e : ((8 : Int32) &&& 31) = 8 := by decide
    rw [e, Int32.toBitVec_shiftRight]
    have e2 : ((8 : Int32).toBitVec.smod 32) = 8#32 := by decide
    rw [e2, BitVec.sshiftRight_eq', BitVec.toNat_sshiftRight_of_msb_false (by rw [BitVec.msb_eq_false_iff_two_mul_lt]; omega)]
    show c.toBitVec.toNat >>> 8 % 256 = _
    rw [Nat.shiftRight_eq_div_pow]
    omega
  unfold pairCh
  apply Int32.toBitVec_inj.mp
  apply BitVec.eq_of_toNat_eq
  have f0 : ((0 : Int32) &&& 31) = 0 := by decide
  have f8 : ((8 : Int32) &&& 31) = 8 := by decide
  rw [f0, f8]
  have g : (((lo8 c &&& 255) <<< (0 : Int32)) ||| ((hi8 c &&& 255) <<< (8 : Int32))).toBitVec.toNat = c.toBitVec.toNat := by
    rw [Int32.toBitVec_or, Int32.toBitVec_shiftLeft, Int32.toBitVec_shiftLeft]
    have s0 : ((0 : Int32).toBitVec.smod 32) = 0#32 := by decide
    have s8 : ((8 : Int32).toBitVec.smod 32) = 8#32 := by decide
    rw [s0, s8, BitVec.toNat_or]
    simp only [BitVec.shiftLeft_eq', BitVec.toNat_shiftLeft, a1, a2]
    show (c.toBitVec.toNat % 256) <<< 0 % 2 ^ 32 ||| (c.toBitVec.toNat / 256) <<< 8 % 2 ^ 32 = _
    rw [Nat.shiftLeft_zero, Nat.mod_eq_of_lt (show c.toBitVec.toNat % 256 < 2 ^ 32 by omega), Nat.mod_eq_of_lt (show (c.toBitVec.toNat / 256) <<< 8 < 2 ^ 32 by rw [Nat.shiftLeft_eq]; omega), Nat.or_comm, ← Nat.shiftLeft_add_eq_or_of_lt (by omega), Nat.shiftLeft_eq]
    omega
  show BitVec.toNat (((((lo8 c &&& 255) <<< (0 : Int32)) ||| ((hi8 c &&& 255) <<< (8 : Int32))).toBitVec.setWidth 16).setWidth 32) = _
  rw [BitVec.toNat_setWidth, BitVec.toNat_setWidth, g]
  omega
end StrChars
namespace StrChars
open Jvm Sem ClassFile Op Lib Jvm.Stand Jvm.Free.XT Jvm.Free.ALB Jvm.Free.JM Jvm.Free
open Jvm.Lib.Cold (StaticIs)
/-- the array's cell V codes the n chars f 0 .. f (n - 1) by the coder cd, as the JDK does: coder 1 just where some char is above 255 -/
def Cod (cd : Int32) (n : Nat) (f : Nat → Int32) (V : Cell) : Prop := (cd = 0 ∧ V.slots.size = n ∧ ∀ j, j < n → V.slots[j]? = some (.int (lo8 (f j))) ∧ ¬ 255 < f j) ∨ (cd = 1 ∧ V.slots.size = 2 * n ∧ (∀ j, j < n → V.slots[2 * j]? = some (.int (lo8 (f j))) ∧ V.slots[2 * j + 1]? = some (.int (hi8 (f j)))) ∧ ∃ j, j < n ∧ 255 < f j)
/-- **x is a String of the n chars f 0 .. f (n - 1)**, Latin-1 or UTF-16; its array at t has the cell V -/
def Txt (x t : Addr) (V : Cell) (cd : Int32) (n : Nat) (f : Nat → Int32) (U : State) : Prop := Exact "java/lang/String" x U ∧ Has x "java/lang/String" "value" "[B" (.ref t) U ∧ Has x "java/lang/String" "coder" "B" (.int cd) U ∧ XT.Arr .byte t V U ∧ Cod cd n f V ∧ ∀ j, j < n → ¬ f j < 0 ∧ ¬ 65535 < f j
theorem Txt.mv {x t : Addr} {V : Cell} {cd : Int32} {n : Nat} {f : Nat → Int32} {U U' : State} (h : Txt x t V cd n f U) (hal : U.vm.Alike U'.vm) (hh : U'.heap = U.heap) : Txt x t V cd n f U' := ⟨h.1.mv hal hh, h.2.1.mv hal hh, h.2.2.1.mv hal hh, h.2.2.2.1.mv hal hh, h.2.2.2.2⟩
end StrChars
namespace StrChars.Road
open Jvm Sem ClassFile Op Lib Jvm.Stand Jvm.Free Jvm.Free.XT
open Jvm.Lib.Cold (StaticIs)
theorem consq {a : Array Value} {s : State} {c : Jvm.Cond} {L : List Jvm.Cond} (h0 : c.before a s = true) (h : ∀ w ∈ L, w.before a s = true) : ∀ w ∈ c :: L, w.before a s = true := fun w hw => (List.mem_cons.mp hw).elim (fun e => e ▸ h0) (h w)
/-- the bytes of the chars cs, low before high -/
def wideBytes : List Int32 → List Value
  | [] => []
  | c :: cs => .int (lo8 c) :: .int (hi8 c) :: wideBytes cs
theorem wide_lo (d : Value) : ∀ (cs : List Int32) (j : Nat), j < cs.length → (wideBytes cs).getD (2 * j) d = .int (lo8 (cs.getD j 0))
  | [], j, h => absurd h (Nat.not_lt_zero j)
  | c :: cs, 0, _ => rfl
  | c :: cs, j + 1, h => by
    have q := wide_lo d cs j (by simpa using h)
    rw [show 2 * (j + 1) = 2 * j + 1 + 1 from by omega]
    simpa [wideBytes] using q
theorem wide_hi (d : Value) : ∀ (cs : List Int32) (j : Nat), j < cs.length → (wideBytes cs).getD (2 * j + 1) d = .int (hi8 (cs.getD j 0))
  | [], j, h => absurd h (Nat.not_lt_zero j)
  | c :: cs, 0, _ => rfl
  | c :: cs, j + 1, h => by
    have q := wide_hi d cs j (by simpa using h)
    rw [show 2 * (j + 1) + 1 = 2 * j + 1 + 1 + 1 from by omega]
    simpa [wideBytes] using q
theorem low_at (d : Value) (cs : List Int32) (j : Nat) (h : j < cs.length) : (cs.map fun c => Value.int (lo8 c)).getD j d = .int (lo8 (cs.getD j 0)) := by
  simp [List.getD_eq_getElem?_getD, h]
/-- an array of N2 bytes vs codes the chars cs by the coder cd -/
def CodA (cs : List Int32) (cd N2 : Int32) (vs : List Value) : Prop := (cd = 0 ∧ N2 = Int32.ofNat cs.length ∧ vs = (cs.map fun c => Value.int (lo8 c)) ∧ ∀ c ∈ cs, ¬ 255 < c) ∨ (cd = 1 ∧ N2 = Int32.ofNat (2 * cs.length) ∧ vs = wideBytes cs ∧ ∃ c ∈ cs, 255 < c)
theorem CodA.cod {cs : List Int32} {cd N2 : Int32} {vs : List Value} {V : Cell} (h : CodA cs cd N2 vs) (hn : 2 * cs.length < 2 ^ 31) (hs : V.slots.size = N2.toNatClampNeg) (hv : RoadKit.Has V vs (.int 0)) : Cod cd cs.length (fun j => cs.getD j 0) V := by
  rcases h with ⟨rfl, rfl, rfl, h⟩ | ⟨rfl, rfl, rfl, c, hc, hw⟩
  · rw [n32 (by omega)] at hs
    exact Or.inl ⟨rfl, hs, fun j hj => ⟨by rw [hv j (by omega), low_at _ _ _ hj], by
      have e : cs.getD j 0 = cs[j] := by simp [List.getD_eq_getElem?_getD, hj]
      show ¬ 255 < cs.getD j 0
      rw [e]; exact h _ (List.getElem_mem _)⟩⟩
  · rw [n32 (by omega)] at hs
    obtain ⟨j, hj, rfl⟩ := List.getElem_of_mem hc
    exact Or.inr ⟨rfl, hs, fun j hj => ⟨by rw [hv _ (by omega), wide_lo _ _ _ hj], by rw [hv _ (by omega), wide_hi _ _ _ hj]⟩, j, hj, by
      have e : cs.getD j 0 = cs[j] := by simp [List.getD_eq_getElem?_getD, hj]
      show 255 < cs.getD j 0
      rw [e]; exact hw⟩
/-- an object of exactly java/lang/String, its two fields found: as the laws ask it -/
theorem strObj {Z U : State} {a0 : Array Value} {kI : Nat} (wi : (Jvm.Cond.instantiable ST kI).before a0 Z = true) (al : Z.vm.Alike U.vm) {x : Addr} {v0 c0 : Value} (E : RoadKit.Exa Z U.heap x ST) (V : RoadKit.Fld Z U.heap x ST "value" "[B" v0) (C : RoadKit.Fld Z U.heap x ST "coder" "B" c0) :
    ∃ (D : Cell) (fV fC : Field), Blank ST x D U ∧ Found ST "value" "[B" fV U ∧ Found ST "coder" "B" fC U ∧ D.slots[fV.slot]? = some v0 ∧ D.slots[fC.slot]? = some c0 ∧ RoadKit.slotOf Z ST "value" "[B" = fV.slot ∧ RoadKit.slotOf Z ST "coder" "B" = fC.slot := by
  obtain ⟨D, cfV, kV, iV, fV, hD, gV, stV, knV, obV, asV, slV⟩ := V
  obtain ⟨D', cfC, kC, iC, fC, hD', gC, stC, -, -, asC, slC⟩ := C
  cases hD.symm.trans hD'
  obtain ⟨D2, kD, e1, e2, e3, e4, e5⟩ := E
  cases hD.symm.trans e1
  obtain ⟨c2, k2, i1, i2, i3, -⟩ := Cond.instantiable_spec wi
  cases e2.symm.trans i1
  cases e3.symm.trans i2
  obtain ⟨kU, u1, u2⟩ := al.2.2 _ _ e3
  exact ⟨D, fV, fC, ⟨hD, ⟨knV, fun q hq => by rw [hq] at obV; cases obV⟩, by rw [al.findClass]; exact e2, kU, u1, by rw [u2]; exact i3, by rw [u2]; exact e5 i3⟩, ⟨SBG.found_only al ⟨cfV, kV, iV, gV⟩, stV⟩, ⟨SBG.found_only al ⟨cfC, kC, iC, gC⟩, stC⟩, slV, slC, by simp [RoadKit.slotOf, gV], by simp [RoadKit.slotOf, gC]⟩
theorem sta_is {Z U : State} (al : Z.vm.Alike U.vm) {C n d : String} {v : Value} (S : RoadKit.Sta Z U.heap C n d v) : StaticIs U C n d v := by
  obtain ⟨cfS, iS, kS, fS, st, cS, t1, t2, t3, t4, t5, t6, t7⟩ := S
  exact StaticIs.there (s := { Z with heap := U.heap }) ⟨cfS, iS, kS, fS, st, cS, t1, t2, t3, t4, t5, (fun q => by rw [q] at t6; cases t6), t7⟩ al rfl
end StrChars.Road
namespace StrChars
open Jvm Sem ClassFile Op Lib Jvm.Stand Jvm.Free.XT Jvm.Free.ALB Jvm.Free.JM Jvm.Free
open Jvm.Lib.Cold (StaticIs)
/-- what place i of a byte[]'s cell holds -/
def yv (A : Cell) (i : Nat) : Int32 := match A.slots[i]? with | some (.int x) => x | _ => 0
theorem yv_get {a : Addr} {A : Cell} {U : State} (h : XT.Arr .byte a A U) (ht : Typed .byte A) {i : Nat} (hi : i < A.slots.size) : A.slots[i]? = some (.int (yv A i)) := by
  have e := Array.getElem?_eq_getElem hi
  have f := ht i _ e
  unfold yv; rw [e]
  generalize A.slots[i] = v at f
  cases v <;> simp [fits] at f ⊢
/-- the two arrays are equal, place for place -/
def EqC (A B : Cell) : Prop := A.slots.size = B.slots.size ∧ ∀ i, i < A.slots.size → yv A i = yv B i
/-- a boolean that says whether p -/
def Says01 (q : Prop) (r : Option Value) (s u : State) : Prop := ∃ v : Int32, r = some (.int v) ∧ u.heap = s.heap ∧ ((v = 1 ∧ q) ∨ (v = 0 ∧ ¬ q))
theorem Says01.mv {q : Prop} : ∀ r (U U' V V' : State), U'.heap = U.heap → V.vm.Alike V'.vm → V'.heap = V.heap → Says01 q r U V → Says01 q r U' V' :=
  fun r U U' V V' h1 _ h2 ⟨v, a, b, c⟩ => ⟨v, a, by rw [h1, h2]; exact b, c⟩
namespace LEq
def yN : MethodName := ⟨"java/lang/StringLatin1", "equals", "([B[B)Z"⟩
abbrev yB : ByteArray := jdk_43_method_13_code
theorem d0 : decode yB 0 = .ok (.aload_n 0, 1) := by decide +kernel
theorem d1 : decode yB 1 = .ok (.arraylength, 1) := by decide +kernel
theorem d2 : decode yB 2 = .ok (.aload_n 1, 1) := by decide +kernel
theorem d3 : decode yB 3 = .ok (.arraylength, 1) := by decide +kernel
theorem d4 : decode yB 4 = .ok (.if_icmp (.ne) 30, 3) := by decide +kernel
theorem d7 : decode yB 7 = .ok (.iconst 0, 1) := by decide +kernel
theorem d8 : decode yB 8 = .ok (.istore_n 2, 1) := by decide +kernel
theorem d9 : decode yB 9 = .ok (.iload_n 2, 1) := by decide +kernel
theorem d10 : decode yB 10 = .ok (.aload_n 0, 1) := by decide +kernel
theorem d11 : decode yB 11 = .ok (.arraylength, 1) := by decide +kernel
theorem d12 : decode yB 12 = .ok (.if_icmp (.ge) 20, 3) := by decide +kernel
theorem d15 : decode yB 15 = .ok (.aload_n 0, 1) := by decide +kernel
theorem d16 : decode yB 16 = .ok (.iload_n 2, 1) := by decide +kernel
theorem d17 : decode yB 17 = .ok (.baload, 1) := by decide +kernel
theorem d18 : decode yB 18 = .ok (.aload_n 1, 1) := by decide +kernel
theorem d19 : decode yB 19 = .ok (.iload_n 2, 1) := by decide +kernel
theorem d20 : decode yB 20 = .ok (.baload, 1) := by decide +kernel
theorem d21 : decode yB 21 = .ok (.if_icmp (.eq) 5, 3) := by decide +kernel
theorem d24 : decode yB 24 = .ok (.iconst 0, 1) := by decide +kernel
theorem d25 : decode yB 25 = .ok (.ireturn, 1) := by decide +kernel
theorem d26 : decode yB 26 = .ok (.iinc 2 1, 3) := by decide +kernel
theorem d29 : decode yB 29 = .ok (.goto (-20), 3) := by decide +kernel
theorem d32 : decode yB 32 = .ok (.iconst 1, 1) := by decide +kernel
theorem d33 : decode yB 33 = .ok (.ireturn, 1) := by decide +kernel
theorem d34 : decode yB 34 = .ok (.iconst 0, 1) := by decide +kernel
theorem d35 : decode yB 35 = .ok (.ireturn, 1) := by decide +kernel
def site : List Cond := []
def tab : Cond := tabOf yN yB 3 (some .boolean) site
def P (a : Addr) (A : Cell) (b : Addr) (B : Cell) (args : Array Value) (s : State) : Prop := args = #[.ref a, .ref b] ∧ XT.Arr .byte a A s ∧ Typed .byte A ∧ XT.Arr .byte b B s ∧ Typed .byte B
/-- whether two byte[] are equal, place for place -/
theorem law (l : Launch) (a : Addr) (A : Cell) (b : Addr) (B : Cell) : Law l yN 2 2 0 0 yB 3 (some .boolean) site (P a A b B) (Says01 (EqC A B)) [] 0 0 := by
  refine Law.of_walk (plainFor_of_name (by decide +kernel)) (by decide +kernel) (by decide +kernel) (by decide) (fun _ _ h => by rw [h.1]; rfl) (fun _ U U' hal hh h => ⟨h.1, h.2.1.mv hal hh, h.2.2.1, h.2.2.2.1.mv hal hh, h.2.2.2.2⟩) (fun r U U' V V' h1 hal h2 h => Says01.mv r U U' V V' h1 hal h2 h) ?_
  intro p e s m args below meth c s₁ X0 hexec hbytes hml hret hlk hnm hown hh0 W hP
  obtain ⟨rfl, hA, tA, hB, tB⟩ := hP
  have a31 := hA.2.2.2
  have b31 := hB.2.2.2
  have hA0 := hA.mv X0.warmed.alike hh0
  have hB0 := hB.mv X0.warmed.alike hh0
  have c1 : Steps p.tables e below (s₁.setTop (entryFrame m #[.ref a, .ref b] 3)) (s₁.setTop (mkF m 0 #[.val (.ref a), .val (.ref b), .unset] [])) := entry rfl
  have c2 : Steps p.tables e below (s₁.setTop (entryFrame m #[.ref a, .ref b] 3)) (s₁.setTop (mkF m 4 #[.val (.ref a), .val (.ref b), .unset] [.int (Int32.ofNat B.slots.size), .int (Int32.ofNat A.slots.size)])) := c1.trans (by
    refine XS.aloadN X0.here hexec rfl (hb hbytes d0) rfl rfl ?_
    refine X0.alen hexec hA0 rfl rfl (hb hbytes d1) ?_
    refine XS.aloadN X0.here hexec rfl (hb hbytes d2) rfl rfl ?_
    refine X0.alen hexec hB0 rfl rfl (hb hbytes d3) ?_
    exact Steps.refl _)
  by_cases hs : A.slots.size = B.slots.size
  · have c3 : Steps p.tables e below (s₁.setTop (entryFrame m #[.ref a, .ref b] 3)) (s₁.setTop (mkF m 9 #[.val (.ref a), .val (.ref b), .val (.int 0)] [])) := c2.trans (by
      refine XS.icmpNo X0.here hexec rfl (hb hbytes d4) rfl (ii_ne_f (by rw [hs])) ?_
      refine iconstV X0.here hexec rfl 0 (hb hbytes d7) (by decide) ?_
      refine XS.istoreN X0.here hexec rfl (hb hbytes d8) rfl rfl ?_
      exact Steps.refl _)
    have loop : ∀ (r i : Nat), i + r = A.slots.size → (∀ j, j < i → yv A j = yv B j) → Steps p.tables e below (s₁.setTop (entryFrame m #[.ref a, .ref b] 3)) (s₁.setTop (mkF m 9 #[.val (.ref a), .val (.ref b), .val (.int (Int32.ofNat i))] [])) → ∃ (pc : Nat) (Ls : Array Slot) (v : Int32), (pc = 25 ∨ pc = 33) ∧ ((v = 1 ∧ EqC A B) ∨ (v = 0 ∧ ¬ EqC A B)) ∧ Steps p.tables e below (s₁.setTop (entryFrame m #[.ref a, .ref b] 3)) (s₁.setTop (mkF m pc Ls [.int v])) := by
      intro r
      induction r with
      | zero =>
        intro i hi he cl
        exact ⟨33, _, 1, Or.inr rfl, Or.inl ⟨rfl, hs, fun j hj => he j (by omega)⟩, cl.trans (by
          refine XS.iloadN X0.here hexec rfl (hb hbytes d9) rfl ?_
          refine XS.aloadN X0.here hexec rfl (hb hbytes d10) rfl rfl ?_
          refine X0.alen hexec hA0 rfl rfl (hb hbytes d11) ?_
          refine XS.icmpYes X0.here hexec rfl (pc0 := 12) rfl (hb hbytes d12) rfl (ii_ge_t (nlt32 (by omega) (by omega))) (by decide) rfl ?_
          refine iconstV X0.here hexec rfl 1 (hb hbytes d32) (by decide) ?_
          exact Steps.refl _)⟩
      | succ r ih =>
        intro i hi he cl
        have c4 : Steps p.tables e below (s₁.setTop (entryFrame m #[.ref a, .ref b] 3)) (s₁.setTop (mkF m 21 #[.val (.ref a), .val (.ref b), .val (.int (Int32.ofNat i))] [.int (yv B i), .int (yv A i)])) := cl.trans (by
          refine XS.iloadN X0.here hexec rfl (hb hbytes d9) rfl ?_
          refine XS.aloadN X0.here hexec rfl (hb hbytes d10) rfl rfl ?_
          refine X0.alen hexec hA0 rfl rfl (hb hbytes d11) ?_
          refine XS.icmpNo X0.here hexec rfl (hb hbytes d12) rfl (ii_ge_f (lt32 (by omega) (by omega))) ?_
          refine XS.aloadN X0.here hexec rfl (hb hbytes d15) rfl rfl ?_
          refine XS.iloadN X0.here hexec rfl (hb hbytes d16) rfl ?_
          refine X0.aget hexec hA0 rfl (yv_get hA tA (i := i) (by omega)) rfl rfl (hb hbytes d17) ?_
          refine XS.aloadN X0.here hexec rfl (hb hbytes d18) rfl rfl ?_
          refine XS.iloadN X0.here hexec rfl (hb hbytes d19) rfl ?_
          refine X0.aget hexec hB0 rfl (yv_get hB tB (i := i) (by omega)) rfl rfl (hb hbytes d20) ?_
          exact Steps.refl _)
        by_cases hv : yv A i = yv B i
        · have c5 : Steps p.tables e below (s₁.setTop (entryFrame m #[.ref a, .ref b] 3)) (s₁.setTop (mkF m 9 #[.val (.ref a), .val (.ref b), .val (.int (Int32.ofNat i + 1))] [])) := c4.trans (by
            refine XS.icmpYes X0.here hexec rfl (pc0 := 21) rfl (hb hbytes d21) rfl (ii_eq_t hv) (by decide) rfl ?_
            refine iincV X0.here hexec rfl 1 (hb hbytes d26) (by decide) rfl rfl ?_
            refine XS.goto X0.here hexec rfl (pc0 := 29) rfl (hb hbytes d29) (by decide) rfl ?_
            exact Steps.refl _)
          rw [succ32] at c5
          exact ih (i + 1) (by omega) (fun j hj => by
            by_cases e : j = i
            · rw [e]; exact hv
            · exact he j (by omega)) c5
        · exact ⟨25, _, 0, Or.inl rfl, Or.inr ⟨rfl, fun q => hv (q.2 i (by omega))⟩, c4.trans (by
            refine XS.icmpNo X0.here hexec rfl (hb hbytes d21) rfl (ii_eq_f hv) ?_
            refine iconstV X0.here hexec rfl 0 (hb hbytes d24) (by decide) ?_
            exact Steps.refl _)⟩
    obtain ⟨pc, Ls, v, hpc, hv, cz⟩ := loop A.slots.size 0 (by omega) (fun j hj => absurd hj (Nat.not_lt_zero j)) c3
    have nv : narrow .boolean (.int v) = .int v := by rcases hv with ⟨rfl, -⟩ | ⟨rfl, -⟩ <;> rfl
    rcases hpc with rfl | rfl
    · exact ⟨s₁, some (.int v), _, _, _, X0, rfl, rfl, rfl, (fun h => by cases h), ⟨v, rfl, hh0, hv⟩, fun fs hl => cz.trans (X0.ireturnOut hexec hret nv (Or.inr (Or.inl rfl)) (hb hbytes d25) hl)⟩
    · exact ⟨s₁, some (.int v), _, _, _, X0, rfl, rfl, rfl, (fun h => by cases h), ⟨v, rfl, hh0, hv⟩, fun fs hl => cz.trans (X0.ireturnOut hexec hret nv (Or.inr (Or.inl rfl)) (hb hbytes d33) hl)⟩
  · have c3 : Steps p.tables e below (s₁.setTop (entryFrame m #[.ref a, .ref b] 3)) (s₁.setTop (mkF m 35 #[.val (.ref a), .val (.ref b), .unset] [.int 0])) := c2.trans (by
      refine XS.icmpYes X0.here hexec rfl (pc0 := 4) rfl (hb hbytes d4) rfl (ii_ne_t (ne32 a31 b31 hs)) (by decide) rfl ?_
      refine iconstV X0.here hexec rfl 0 (hb hbytes d34) (by decide) ?_
      exact Steps.refl _)
    exact ⟨s₁, some (.int 0), _, _, _, X0, rfl, rfl, rfl, (fun h => by cases h), ⟨0, rfl, hh0, Or.inr ⟨rfl, fun q => hs q.1⟩⟩, fun fs hl => c3.trans (X0.ireturnOut hexec hret rfl (Or.inr (Or.inl rfl)) (hb hbytes d35) hl)⟩
end LEq
theorem Cod.ty {cd : Int32} {n : Nat} {f : Nat → Int32} {V : Cell} (h : Cod cd n f V) : Typed .byte V := fun i v hv => by
  have hi : i < V.slots.size := (Array.getElem?_eq_some_iff.mp hv).1
  rcases h with ⟨-, k1, k2⟩ | ⟨-, k1, k2, -⟩
  · rw [(k2 i (by omega)).1] at hv; cases hv; exact fits_lo8 _
  · rcases Nat.mod_two_eq_zero_or_one i with e | e
    · obtain ⟨j, rfl⟩ : ∃ j, i = 2 * j := ⟨i / 2, by omega⟩
      rw [(k2 j (by omega)).1] at hv; cases hv; exact fits_lo8 _
    · obtain ⟨j, rfl⟩ : ∃ j, i = 2 * j + 1 := ⟨i / 2, by omega⟩
      rw [(k2 j (by omega)).2] at hv; cases hv; exact fits_lo8 _
/-- the same text -/
def SameT (n : Nat) (f : Nat → Int32) (k : Nat) (g : Nat → Int32) : Prop := n = k ∧ ∀ j, j < n → f j = g j
theorem lo8_inj {x y : Int32} (h0 : ¬ x < 0) (h1 : ¬ 255 < x) (k0 : ¬ y < 0) (k1 : ¬ 255 < y) (h : lo8 x = lo8 y) : x = y := by
  rw [← lo8_mask h0 h1, ← lo8_mask k0 k1, h]
/-- arrays coded by one coder are equal just where the texts are -/
theorem Cod.eqv {cd : Int32} {n k : Nat} {f g : Nat → Int32} {V V' : Cell} (h : Cod cd n f V) (h' : Cod cd k g V') (hf : ∀ j, j < n → ¬ f j < 0 ∧ ¬ 65535 < f j) (hg : ∀ j, j < k → ¬ g j < 0 ∧ ¬ 65535 < g j) : EqC V V' ↔ SameT n f k g := by
  have yvv : ∀ {W : Cell} {i : Nat} {x : Int32}, W.slots[i]? = some (.int x) → yv W i = x := fun q => by unfold yv; rw [q]
  rcases h with ⟨rfl, k1, k2⟩ | ⟨rfl, k1, k2, -⟩
  · rcases h' with ⟨-, m1, m2⟩ | ⟨e, -⟩
    · constructor
      · rintro ⟨e1, e2⟩
        refine ⟨by omega, fun j hj => ?_⟩
        have q := e2 j (by omega)
        rw [yvv (k2 j hj).1, yvv (m2 j (by omega)).1] at q
        exact lo8_inj (hf j hj).1 (k2 j hj).2 (hg j (by omega)).1 (m2 j (by omega)).2 q
      · rintro ⟨rfl, e2⟩
        refine ⟨by omega, fun j hj => ?_⟩
        rw [yvv (k2 j (by omega)).1, yvv (m2 j (by omega)).1, e2 j (by omega)]
    · exact absurd e (by decide)
  · rcases h' with ⟨e, -⟩ | ⟨-, m1, m2, -⟩
    · exact absurd e (by decide)
    · constructor
      · rintro ⟨e1, e2⟩
        refine ⟨by omega, fun j hj => ?_⟩
        have q1 := e2 (2 * j) (by omega)
        have q2 := e2 (2 * j + 1) (by omega)
        rw [yvv (k2 j hj).1, yvv (m2 j (by omega)).1] at q1
        rw [yvv (k2 j hj).2, yvv (m2 j (by omega)).2] at q2
        rw [← pair_says (hf j hj).1 (hf j hj).2, ← pair_says (hg j (by omega)).1 (hg j (by omega)).2, q1, q2]
      · rintro ⟨rfl, e2⟩
        refine ⟨by omega, fun i hi => ?_⟩
        rcases Nat.mod_two_eq_zero_or_one i with e | e
        · obtain ⟨j, rfl⟩ : ∃ j, i = 2 * j := ⟨i / 2, by omega⟩
          rw [yvv (k2 j (by omega)).1, yvv (m2 j (by omega)).1, e2 j (by omega)]
        · obtain ⟨j, rfl⟩ : ∃ j, i = 2 * j + 1 := ⟨i / 2, by omega⟩
          rw [yvv (k2 j (by omega)).2, yvv (m2 j (by omega)).2, e2 j (by omega)]
/-- two codings differ: so do the texts -/
theorem Cod.dif {cd cd' : Int32} {n k : Nat} {f g : Nat → Int32} {V V' : Cell} (h : Cod cd n f V) (h' : Cod cd' k g V') (hne : ¬ cd = cd') : ¬ SameT n f k g := by
  rintro ⟨rfl, e⟩
  rcases h with ⟨rfl, -, k2⟩ | ⟨rfl, -, -, j, hj, hw⟩
  · rcases h' with ⟨rfl, -⟩ | ⟨-, -, -, j, hj, hw⟩
    · exact hne rfl
    · exact (k2 j hj).2 (by rw [e j hj]; exact hw)
  · rcases h' with ⟨-, -, m2⟩ | ⟨rfl, -⟩
    · exact (m2 j hj).2 (by rw [← e j hj]; exact hw)
    · exact hne rfl
/-- an object of exactly C is an instance of C -/
theorem cinst {p : Program} {l : Launch} {e : Env} {R : Room} {s : State} {m : MethodId} {args : Array Value} {below : List Frame} {meth : Method} {c : Code} {T : State} {locs : List Loc} {cells slots : Nat} (X : Stand p l e R s m args below meth c T locs cells slots) (hexec : p.tables.exec = Jvm.exec) {own C : String} {index : Nat} (hown : s.vm.findClass own = some m.cls) (hlink : (Cond.classLink own index C).before args s = true) {a : Addr} (hE : Exact C a T)
    {g : JFrame} (hg : g.method = m) {rest : List Value} (hstack : g.stack = .ref a :: rest) (hdg : decode c.code g.pc = .ok (.instanceof index, 3)) :
    ∃ T', Stand p l e R s m args below meth c T' locs cells slots ∧ T'.heap = T.heap ∧ ∀ target, Steps p.tables e below (T'.setTop { g with pc := g.pc + 3, stack := .int 1 :: rest }) target → Steps p.tables e below (T.setTop g) target := by
  obtain ⟨cB, h1, D, h2, h3, h4⟩ := hE
  have h1' : s.vm.findClass C = some cB := by rw [← X.warmed.alike.findClass]; exact h1
  obtain ⟨vm', X', st⟩ := X.instanceofYes hexec hown hlink h2 h4 h1' (by rw [h3]; exact Jvm.Free.SB.assignable_self _ _) hg hstack hdg
  exact ⟨_, X', rfl, st⟩
theorem cself {p : Program} {l : Launch} {e : Env} {R : Room} {s : State} {m : MethodId} {args : Array Value} {below : List Frame} {meth : Method} {c : Code} {T : State} {locs : List Loc} {cells slots : Nat} (X : Stand p l e R s m args below meth c T locs cells slots) (hexec : p.tables.exec = Jvm.exec) {own C : String} {index : Nat} (hown : s.vm.findClass own = some m.cls) (hlink : (Cond.classLink own index C).before args s = true) {a : Addr} (hE : Exact C a T)
    {g : JFrame} (hg : g.method = m) {rest : List Value} (hstack : g.stack = .ref a :: rest) (hdg : decode c.code g.pc = .ok (.checkcast index, 3)) :
    ∃ T', Stand p l e R s m args below meth c T' locs cells slots ∧ T'.heap = T.heap ∧ ∀ target, Steps p.tables e below (T'.setTop { g with pc := g.pc + 3, stack := .ref a :: rest }) target → Steps p.tables e below (T.setTop g) target := by
  obtain ⟨cB, h1, D, h2, h3, h4⟩ := hE
  have h1' : s.vm.findClass C = some cB := by rw [← X.warmed.alike.findClass]; exact h1
  obtain ⟨vm', X', st⟩ := X.checkcastYes hexec hown hlink h2 h4 h1' (by rw [h3]; exact Jvm.Free.SB.assignable_self _ _) hg hstack hdg
  exact ⟨_, X', rfl, fun t h => st t (by rw [← hstack] at h; exact h)⟩
namespace SEq
def yN : MethodName := ⟨"java/lang/String", "equals", "(Ljava/lang/Object;)Z"⟩
abbrev yB : ByteArray := jdk_42_method_66_code
theorem d0 : decode yB 0 = .ok (.aload_n 0, 1) := by decide +kernel
theorem d1 : decode yB 1 = .ok (.aload_n 1, 1) := by decide +kernel
theorem d2 : decode yB 2 = .ok (.if_acmp (.ne) 5, 3) := by decide +kernel
theorem d5 : decode yB 5 = .ok (.iconst 1, 1) := by decide +kernel
theorem d6 : decode yB 6 = .ok (.ireturn, 1) := by decide +kernel
theorem d7 : decode yB 7 = .ok (.aload_n 1, 1) := by decide +kernel
theorem d8 : decode yB 8 = .ok (.instanceof 10, 3) := by decide +kernel
theorem d11 : decode yB 11 = .ok (.ifCond (.eq) 43, 3) := by decide +kernel
theorem d14 : decode yB 14 = .ok (.aload_n 1, 1) := by decide +kernel
theorem d15 : decode yB 15 = .ok (.checkcast 10, 3) := by decide +kernel
theorem d18 : decode yB 18 = .ok (.astore_n 2, 1) := by decide +kernel
theorem d19 : decode yB 19 = .ok (.getstatic 38, 3) := by decide +kernel
theorem d22 : decode yB 22 = .ok (.ifCond (.eq) 14, 3) := by decide +kernel
theorem d25 : decode yB 25 = .ok (.aload_n 0, 1) := by decide +kernel
theorem d26 : decode yB 26 = .ok (.getfield 15, 3) := by decide +kernel
theorem d29 : decode yB 29 = .ok (.aload_n 2, 1) := by decide +kernel
theorem d30 : decode yB 30 = .ok (.getfield 15, 3) := by decide +kernel
theorem d33 : decode yB 33 = .ok (.if_icmp (.ne) 21, 3) := by decide +kernel
theorem d36 : decode yB 36 = .ok (.aload_n 0, 1) := by decide +kernel
theorem d37 : decode yB 37 = .ok (.getfield 9, 3) := by decide +kernel
theorem d40 : decode yB 40 = .ok (.aload_n 2, 1) := by decide +kernel
theorem d41 : decode yB 41 = .ok (.getfield 9, 3) := by decide +kernel
theorem d44 : decode yB 44 = .ok (.invokestatic 541, 3) := by decide +kernel
theorem d47 : decode yB 47 = .ok (.ifCond (.eq) 7, 3) := by decide +kernel
theorem d50 : decode yB 50 = .ok (.iconst 1, 1) := by decide +kernel
theorem d51 : decode yB 51 = .ok (.goto 4, 3) := by decide +kernel
theorem d54 : decode yB 54 = .ok (.iconst 0, 1) := by decide +kernel
theorem d55 : decode yB 55 = .ok (.ireturn, 1) := by decide +kernel
def site : List Cond := [.classLink "java/lang/String" 10 "java/lang/String", .fieldLink "java/lang/String" 38 "java/lang/String" "COMPACT_STRINGS" "Z", .fieldLink "java/lang/String" 15 "java/lang/String" "coder" "B", .fieldLink "java/lang/String" 9 "java/lang/String" "value" "[B", LEq.tab] ++ staticW "java/lang/String" 541 LEq.yN
def tab : Cond := tabOf yN yB 3 (some .boolean) site
def P (x t : Addr) (V : Cell) (cd : Int32) (n : Nat) (f : Nat → Int32) (y t' : Addr) (V' : Cell) (cd' : Int32) (k : Nat) (g : Nat → Int32) (z : Int32) (args : Array Value) (s : State) : Prop := args = #[.ref x, .ref y] ∧ Txt x t V cd n f s ∧ Txt y t' V' cd' k g s ∧ StaticIs s "java/lang/String" "COMPACT_STRINGS" "Z" (.int z) ∧ ¬ z = 0
/-- equals(Object) of two Strings: whether the texts are the same -/
theorem law (l : Launch) (x t : Addr) (V : Cell) (cd : Int32) (n : Nat) (f : Nat → Int32) (y t' : Addr) (V' : Cell) (cd' : Int32) (k : Nat) (g : Nat → Int32) (z : Int32) : Law l yN 2 1 1 14 yB 3 (some .boolean) site (P x t V cd n f y t' V' cd' k g z) (Says01 (SameT n f k g)) [] 0 0 := by
  refine Law.of_walk (plainFor_of_name (by decide +kernel)) (by decide +kernel) (by decide +kernel) (by decide) (fun _ _ h => by rw [h.1]; rfl) (fun _ U U' hal hh h => ⟨h.1, h.2.1.mv hal hh, h.2.2.1.mv hal hh, h.2.2.2.1.there hal hh, h.2.2.2.2⟩) (fun r U U' V V' h1 hal h2 h => Says01.mv r U U' V V' h1 hal h2 h) ?_
  intro p e s m args below meth c s₁ X0 hexec hbytes hml hret hlk hnm hown hh0 W hP
  obtain ⟨rfl, hx, hy, s1, hz⟩ := hP
  have c1 : Steps p.tables e below (s₁.setTop (entryFrame m #[.ref x, .ref y] 3)) (s₁.setTop (mkF m 2 #[.val (.ref x), .val (.ref y), .unset] [.ref y, .ref x])) := Steps.trans (entry rfl) (by
    show Steps p.tables e below (s₁.setTop (mkF m 0 #[.val (.ref x), .val (.ref y), .unset] [])) _
    refine XS.aloadN X0.here hexec rfl (hb hbytes d0) rfl rfl ?_
    refine XS.aloadN X0.here hexec rfl (hb hbytes d1) rfl rfl ?_
    exact Steps.refl _)
  by_cases hxy : x = y
  · have c2 : Steps p.tables e below (s₁.setTop (entryFrame m #[.ref x, .ref y] 3)) (s₁.setTop (mkF m 6 #[.val (.ref x), .val (.ref y), .unset] [.int 1])) := c1.trans (by
      refine acmpNo X0.here hexec rfl (hb hbytes d2) rfl rfl rfl (by simp [acmp, hxy]) ?_
      refine iconstV X0.here hexec rfl 1 (hb hbytes d5) (by decide) ?_
      exact Steps.refl _)
    subst hxy
    have ec : cd = cd' := by
      obtain ⟨D, fd, a1, a2, a3⟩ := hx.2.2.1
      obtain ⟨D', fd', b1, b2, b3⟩ := hy.2.2.1
      cases a1.symm.trans b1
      obtain ⟨q1, q2, q3, q4⟩ := a2.1
      obtain ⟨r1, r2, r3, r4⟩ := b2.1
      cases q4.symm.trans r4
      cases a3.symm.trans b3; rfl
    have et : t = t' := by
      obtain ⟨D, fd, a1, a2, a3⟩ := hx.2.1
      obtain ⟨D', fd', b1, b2, b3⟩ := hy.2.1
      cases a1.symm.trans b1
      obtain ⟨q1, q2, q3, q4⟩ := a2.1
      obtain ⟨r1, r2, r3, r4⟩ := b2.1
      cases q4.symm.trans r4
      cases a3.symm.trans b3; rfl
    subst ec et
    have ev : V = V' := by cases hx.2.2.2.1.1.symm.trans hy.2.2.2.1.1; rfl
    subst ev
    have hs : SameT n f k g := (Cod.eqv hx.2.2.2.2.1 hy.2.2.2.2.1 hx.2.2.2.2.2 hy.2.2.2.2.2).mp ⟨rfl, fun _ _ => rfl⟩
    exact ⟨s₁, some (.int 1), _, _, _, X0, rfl, rfl, rfl, (fun h => by cases h), ⟨1, rfl, hh0, Or.inl ⟨rfl, hs⟩⟩, fun fs hl => c2.trans (X0.ireturnOut hexec hret rfl (Or.inr (Or.inl rfl)) (hb hbytes d6) hl)⟩
  · have c2 : Steps p.tables e below (s₁.setTop (entryFrame m #[.ref x, .ref y] 3)) (s₁.setTop (mkF m 8 #[.val (.ref x), .val (.ref y), .unset] [.ref y])) := c1.trans (by
      refine acmpYes X0.here hexec rfl (pc0 := 2) rfl (hb hbytes d2) rfl rfl rfl (by simp [acmp, hxy]) (by decide) rfl ?_
      refine XS.aloadN X0.here hexec rfl (hb hbytes d7) rfl rfl ?_
      exact Steps.refl _)
    obtain ⟨T3, X3, q3, st3⟩ := cinst X0 hexec hown (wk W (.classLink "java/lang/String" 10 "java/lang/String")) (hy.mv X0.warmed.alike hh0).1 (g := (mkF m 8 #[.val (.ref x), .val (.ref y), .unset] [.ref y])) rfl (rest := []) rfl (hb hbytes d8)
    have hh3 := q3.trans hh0
    have c4 : Steps p.tables e below (s₁.setTop (entryFrame m #[.ref x, .ref y] 3)) (T3.setTop (mkF m 15 #[.val (.ref x), .val (.ref y), .unset] [.ref y])) := (c2.trans (st3 _ (Steps.refl _))).trans (by
      refine XS.ifNo X3.here hexec rfl (hb hbytes d11) rfl (i0_eq_f (by decide)) ?_
      refine XS.aloadN X3.here hexec rfl (hb hbytes d14) rfl rfl ?_
      exact Steps.refl _)
    obtain ⟨T5, X5, q5, st5⟩ := cself X3 hexec hown (wk W (.classLink "java/lang/String" 10 "java/lang/String")) (hy.mv X3.warmed.alike hh3).1 (g := (mkF m 15 #[.val (.ref x), .val (.ref y), .unset] [.ref y])) rfl (rest := []) rfl (hb hbytes d15)
    have hh5 := q5.trans hh3
    have c6 : Steps p.tables e below (s₁.setTop (entryFrame m #[.ref x, .ref y] 3)) (T5.setTop (mkF m 19 #[.val (.ref x), .val (.ref y), .val (.ref y)] [])) := (c4.trans (st5 _ (Steps.refl _))).trans (by
      refine XS.astoreN X5.here hexec rfl (hb hbytes d18) rfl rfl rfl ?_
      exact Steps.refl _)
    obtain ⟨T7, X7, q7, st7⟩ := X5.sget hexec hown (wk W (.fieldLink "java/lang/String" 38 "java/lang/String" "COMPACT_STRINGS" "Z")) s1 (fun _ _ h => by rw [hh5]; exact h) (g := (mkF m 19 #[.val (.ref x), .val (.ref y), .val (.ref y)] [])) rfl (hb hbytes d19)
    have hh7 := q7.trans hh5
    have c8 : Steps p.tables e below (s₁.setTop (entryFrame m #[.ref x, .ref y] 3)) (T7.setTop (mkF m 26 #[.val (.ref x), .val (.ref y), .val (.ref y)] [.ref x])) := (c6.trans (st7 _ (Steps.refl _))).trans (by
      refine XS.ifNo X7.here hexec rfl (hb hbytes d22) rfl (i0_eq_f hz) ?_
      refine XS.aloadN X7.here hexec rfl (hb hbytes d25) rfl rfl ?_
      exact Steps.refl _)
    obtain ⟨T9, X9, q9, st9⟩ := X7.hget hexec hown (wk W (.fieldLink "java/lang/String" 15 "java/lang/String" "coder" "B")) (hx.mv X7.warmed.alike hh7).2.2.1 (g := (mkF m 26 #[.val (.ref x), .val (.ref y), .val (.ref y)] [.ref x])) rfl (rest := []) rfl (hb hbytes d26)
    have hh9 := q9.trans hh7
    have c10 : Steps p.tables e below (s₁.setTop (entryFrame m #[.ref x, .ref y] 3)) (T9.setTop (mkF m 30 #[.val (.ref x), .val (.ref y), .val (.ref y)] [.ref y, .int cd])) := (c8.trans (st9 _ (Steps.refl _))).trans (by
      refine XS.aloadN X9.here hexec rfl (hb hbytes d29) rfl rfl ?_
      exact Steps.refl _)
    obtain ⟨T11, X11, q11, st11⟩ := X9.hget hexec hown (wk W (.fieldLink "java/lang/String" 15 "java/lang/String" "coder" "B")) (hy.mv X9.warmed.alike hh9).2.2.1 (g := (mkF m 30 #[.val (.ref x), .val (.ref y), .val (.ref y)] [.ref y, .int cd])) rfl (rest := [.int cd]) rfl (hb hbytes d30)
    have hh11 := q11.trans hh9
    have c12 : Steps p.tables e below (s₁.setTop (entryFrame m #[.ref x, .ref y] 3)) (T11.setTop (mkF m 33 #[.val (.ref x), .val (.ref y), .val (.ref y)] [.int cd', .int cd])) := c10.trans (st11 _ (Steps.refl _))
    by_cases hcd : cd = cd'
    · subst hcd
      have c13 : Steps p.tables e below (s₁.setTop (entryFrame m #[.ref x, .ref y] 3)) (T11.setTop (mkF m 37 #[.val (.ref x), .val (.ref y), .val (.ref y)] [.ref x])) := c12.trans (by
        refine XS.icmpNo X11.here hexec rfl (hb hbytes d33) rfl (ii_ne_f rfl) ?_
        refine XS.aloadN X11.here hexec rfl (hb hbytes d36) rfl rfl ?_
        exact Steps.refl _)
      obtain ⟨T14, X14, q14, st14⟩ := X11.hget hexec hown (wk W (.fieldLink "java/lang/String" 9 "java/lang/String" "value" "[B")) (hx.mv X11.warmed.alike hh11).2.1 (g := (mkF m 37 #[.val (.ref x), .val (.ref y), .val (.ref y)] [.ref x])) rfl (rest := []) rfl (hb hbytes d37)
      have hh14 := q14.trans hh11
      have c15 : Steps p.tables e below (s₁.setTop (entryFrame m #[.ref x, .ref y] 3)) (T14.setTop (mkF m 41 #[.val (.ref x), .val (.ref y), .val (.ref y)] [.ref y, .ref t])) := (c13.trans (st14 _ (Steps.refl _))).trans (by
        refine XS.aloadN X14.here hexec rfl (hb hbytes d40) rfl rfl ?_
        exact Steps.refl _)
      obtain ⟨T16, X16, q16, st16⟩ := X14.hget hexec hown (wk W (.fieldLink "java/lang/String" 9 "java/lang/String" "value" "[B")) (hy.mv X14.warmed.alike hh14).2.1 (g := (mkF m 41 #[.val (.ref x), .val (.ref y), .val (.ref y)] [.ref y, .ref t])) rfl (rest := [.ref t]) rfl (hb hbytes d41)
      have hh16 := q16.trans hh14
      have c17 : Steps p.tables e below (s₁.setTop (entryFrame m #[.ref x, .ref y] 3)) (T16.setTop (mkF m 44 #[.val (.ref x), .val (.ref y), .val (.ref y)] [.ref t', .ref t])) := c15.trans (st16 _ (Steps.refl _))
      obtain ⟨v18, T18, X18, E18, g18⟩ := X16.callS hexec (LEq.law l t V t' V') hown (wks W (staticW "java/lang/String" 541 LEq.yN)) (wk W LEq.tab) (W := 0) (Nat.le_of_ble_eq_true rfl) (Nat.le_of_ble_eq_true rfl) (Nat.le_refl _) (Nat.le_refl _) (g := (mkF m 44 #[.val (.ref x), .val (.ref y), .val (.ref y)] [.ref t', .ref t])) rfl (by rw [hml]; rfl) c17 (argsL := [.ref t, .ref t']) (rest := []) rfl rfl (by show 2 * 0 + 0 ≤ _; decide) (hb hbytes d44) (⟨rfl, hx.2.2.2.1.mv X16.warmed.alike hh16, hx.2.2.2.2.1.ty, hy.2.2.2.1.mv X16.warmed.alike hh16, hy.2.2.2.2.1.ty⟩)
      obtain ⟨v, rfl, q18, hv⟩ := E18
      have iff := Cod.eqv hx.2.2.2.2.1 hy.2.2.2.2.1 hx.2.2.2.2.2 hy.2.2.2.2.2
      rcases hv with ⟨rfl, he⟩ | ⟨rfl, he⟩
      · have c19 : Steps p.tables e below (s₁.setTop (entryFrame m #[.ref x, .ref y] 3)) (T18.setTop (mkF m 55 #[.val (.ref x), .val (.ref y), .val (.ref y)] [.int 1])) := Steps.trans g18 (by
          refine XS.ifNo X18.here hexec rfl (hb hbytes d47) rfl (i0_eq_f (by decide)) ?_
          refine iconstV X18.here hexec rfl 1 (hb hbytes d50) (by decide) ?_
          refine XS.goto X18.here hexec rfl (pc0 := 51) rfl (hb hbytes d51) (by decide) rfl ?_
          exact Steps.refl _)
        exact ⟨T18, some (.int 1), _, _, _, X18, rfl, rfl, rfl, (fun h => by cases h), ⟨1, rfl, q18.trans hh16, Or.inl ⟨rfl, iff.mp he⟩⟩, fun fs hl => c19.trans (X18.ireturnOut hexec hret rfl (Or.inr (Or.inl rfl)) (hb hbytes d55) hl)⟩
      · have c19 : Steps p.tables e below (s₁.setTop (entryFrame m #[.ref x, .ref y] 3)) (T18.setTop (mkF m 55 #[.val (.ref x), .val (.ref y), .val (.ref y)] [.int 0])) := Steps.trans g18 (by
          refine XS.ifYes X18.here hexec rfl (pc0 := 47) rfl (hb hbytes d47) rfl (i0_eq_t rfl) (by decide) rfl ?_
          refine iconstV X18.here hexec rfl 0 (hb hbytes d54) (by decide) ?_
          exact Steps.refl _)
        exact ⟨T18, some (.int 0), _, _, _, X18, rfl, rfl, rfl, (fun h => by cases h), ⟨0, rfl, q18.trans hh16, Or.inr ⟨rfl, fun q => he (iff.mpr q)⟩⟩, fun fs hl => c19.trans (X18.ireturnOut hexec hret rfl (Or.inr (Or.inl rfl)) (hb hbytes d55) hl)⟩
    · have c13 : Steps p.tables e below (s₁.setTop (entryFrame m #[.ref x, .ref y] 3)) (T11.setTop (mkF m 55 #[.val (.ref x), .val (.ref y), .val (.ref y)] [.int 0])) := c12.trans (by
        refine XS.icmpYes X11.here hexec rfl (pc0 := 33) rfl (hb hbytes d33) rfl (ii_ne_t hcd) (by decide) rfl ?_
        refine iconstV X11.here hexec rfl 0 (hb hbytes d54) (by decide) ?_
        exact Steps.refl _)
      exact ⟨T11, some (.int 0), _, _, _, X11, rfl, rfl, rfl, (fun h => by cases h), ⟨0, rfl, hh11, Or.inr ⟨rfl, Cod.dif hx.2.2.2.2.1 hy.2.2.2.2.1 hcd⟩⟩, fun fs hl => c13.trans (X11.ireturnOut hexec hret rfl (Or.inr (Or.inl rfl)) (hb hbytes d55) hl)⟩
theorem pays {l : Launch} {R : Room} {p : Program} {e : Env} {below : List Frame} {s : State} {sargs : Array Value} {len W : Nat} (x t : Addr) (V : Cell) (cd : Int32) (n : Nat) (f : Nat → Int32) (y t' : Addr) (V' : Cell) (cd' : Int32) (k : Nat) (g : Nat → Int32) (z : Int32) (htab : tab.before sargs s = true) (hfr : 2 ≤ R.frames) (hlo : W + 28 ≤ R.locals) :
    Back l R p e below s sargs yN len W (fun A₁ a₁ => A₁.cells + 0 ≤ R.cells ∧ A₁.slots + 0 ≤ R.slots ∧ P x t V cd n f y t' V' cd' k g z a₁ A₁.U) (fun A₁ _ v₁ B₁ => Says01 (SameT n f k g) v₁ A₁.U B₁.U ∧ B₁.locs = A₁.locs ++ [] ∧ B₁.cells = A₁.cells + 0 ∧ B₁.slots = A₁.slots + 0) :=
  (law l x t V cd n f y t' V' cd' k g z).pays htab hfr (by omega)
end SEq
end StrChars
namespace StrChars.Road
open Jvm Sem ClassFile Op Lib Jvm.Stand Jvm.Free Jvm.Free.XT
open Jvm.Lib.Cold (StaticIs)
/-- the words of String.equals(Object) -/
abbrev wordsEq : List Jvm.Cond := [.code SEq.yN SEq.yB 3 (some .boolean), .initialized ST, .classLink ST 10 ST, .fieldLink ST 38 ST "COMPACT_STRINGS" "Z", .fieldLink ST 15 ST "coder" "B", .fieldLink ST 9 ST "value" "[B", .methodLink ST 541 LEq.yN, .static LEq.yN, .code LEq.yN LEq.yB 3 (some .boolean), .initialized "java/lang/StringLatin1"]
theorem tabEq_of {a : Array Value} {s : State} (h : ∀ w ∈ wordsEq, w.before a s = true) : SEq.tab.before a s = true := by
  have hl : LEq.tab.before a s = true := unparts (wk h (.code LEq.yN LEq.yB 3 (some .boolean))) (wks h (.initialized LEq.yN.cls :: LEq.site))
  have q := consq hl h
  exact unparts (wk q (.code SEq.yN SEq.yB 3 (some .boolean))) (wks q (.initialized SEq.yN.cls :: SEq.site))
theorem movedEq {Z s : State} {a0 args : Array Value} (hZ : Z.Warmed39 s.vm) (hw : ∀ d ∈ wordsEq, d.before a0 Z = true) : ∀ d ∈ wordsEq, d.before args s = true := fun d hd => by
  have t : ∀ d ∈ wordsEq, (d.onTables && d.keepsFace) = true := by decide +kernel
  exact RoadKit.mv hZ (hw d hd) (t d hd)
/-- the road's facts of a String, as the laws ask it -/
theorem txt_of {Z U : State} {a0 : Array Value} {kI : Nat} (wi : (Jvm.Cond.instantiable ST kI).before a0 Z = true) (al : Z.vm.Alike U.vm) {x t : Addr} {kb : ClassId} {cs : List Int32} {cd N2 : Int32} {vs : List Value} (E : RoadKit.Exa Z U.heap x ST) (V : RoadKit.Fld Z U.heap x ST "value" "[B" (.ref t)) (C : RoadKit.Fld Z U.heap x ST "coder" "B" (.int cd)) (K : RoadKit.Arv Z U.heap t kb .byte N2 vs (.int 0)) (hc : CodA cs cd N2 vs) (hb : ∀ c ∈ cs, ¬ c < 0 ∧ ¬ (65535 : Int32) < c) (l2 : cs.length ≤ 4000) :
    ∃ A, Txt x t A cd cs.length (fun j => cs.getD j 0) U := by
  obtain ⟨A, K1, K2, K3, K4, K5, K6⟩ := K
  have hcod := hc.cod (by omega) K3 K5
  obtain ⟨D, fV, fC, hB, F1, F2, g1, g2, -, -⟩ := strObj wi al E V C
  exact ⟨A, ⟨_, hB.2.2.1, D, hB.1, rfl, by cases q : D.vm <;> first | rfl | exact absurd q (hB.2.1.2 _)⟩, Has.of hB F1 g1, Has.of hB F2 g2, ⟨K1.1, State.isArrayOf_alike al K1.2.1, K1.2.2, by rcases hcod with ⟨-, q, -⟩ | ⟨-, q, -⟩ <;> omega⟩, hcod, fun j hj => by
    have e : cs.getD j 0 = cs[j] := by simp [List.getD_eq_getElem?_getD, hj]
    show ¬ cs.getD j 0 < 0 ∧ ¬ 65535 < cs.getD j 0
    rw [e]; exact hb _ (List.getElem_mem _)⟩
theorem same_list (cs ds : List Int32) : SameT cs.length (fun j => cs.getD j 0) ds.length (fun j => ds.getD j 0) ↔ cs = ds := by
  constructor
  · rintro ⟨e, q⟩
    refine List.ext_getElem e fun j h1 h2 => ?_
    have := q j h1
    simpa [List.getD_eq_getElem?_getD, h1, h2] using this
  · rintro rfl
    exact ⟨rfl, fun _ _ => rfl⟩
/-- **equals(Object) OF TWO SUCH STRINGS**: 1 just where the chars are the same -/
theorem eqW {p : Program} {l : Launch} {e : Env} {R : Room} {s : State} {args : Array Value} {below : List Frame} {len W : Nat} {Z : State} {a0 : Array Value} {h : Heap} (hZ : Z.Warmed39 s.vm) (hw : ∀ d ∈ wordsEq, d.before a0 Z = true) {kI : Nat} (wi : (Jvm.Cond.instantiable ST kI).before a0 Z = true)
    {x t : Addr} {kb : ClassId} {cs : List Int32} {cd N2 : Int32} {vs : List Value} (E : RoadKit.Exa Z h x ST) (V : RoadKit.Fld Z h x ST "value" "[B" (.ref t)) (C : RoadKit.Fld Z h x ST "coder" "B" (.int cd)) (K : RoadKit.Arv Z h t kb .byte N2 vs (.int 0)) (hc : CodA cs cd N2 vs) (hb : ∀ c ∈ cs, ¬ c < 0 ∧ ¬ (65535 : Int32) < c) (l2 : cs.length ≤ 4000)
    {y t' : Addr} {kb' : ClassId} {ds : List Int32} {cd' N2' : Int32} {vs' : List Value} (E' : RoadKit.Exa Z h y ST) (V' : RoadKit.Fld Z h y ST "value" "[B" (.ref t')) (C' : RoadKit.Fld Z h y ST "coder" "B" (.int cd')) (K' : RoadKit.Arv Z h t' kb' .byte N2' vs' (.int 0)) (hc' : CodA ds cd' N2' vs') (hb' : ∀ c ∈ ds, ¬ c < 0 ∧ ¬ (65535 : Int32) < c) (l2' : ds.length ≤ 4000)
    {z : Int32} (S : RoadKit.Sta Z h ST "COMPACT_STRINGS" "Z" (.int z)) (hz : ¬ z = 0) (hfr : 2 ≤ R.frames) (hlo : W + 28 ≤ R.locals) :
    Back l R p e below s args (⟨"java/lang/String", "equals", "(Ljava/lang/Object;)Z"⟩ : MethodName) len W (fun P a => a = #[.ref x, .ref y] ∧ P.U.heap = h ∧ P.cells + 0 ≤ R.cells ∧ P.slots + 0 ≤ R.slots)
      (fun P _ v B => ∃ L, (((v = some (.int 1) ∧ cs = ds) ∨ (v = some (.int 0) ∧ ¬ cs = ds)) ∧ L = [] ∧ B.U.heap = h) ∧ B.locs = P.locs ++ L ∧ B.cells = P.cells + 0 ∧ B.slots = P.slots + 0) := by
  intro m meth c P g ig mk a X hg hsize hdg hW hn hp'
  obtain ⟨rfl, rfl, r1, r2⟩ := hp'
  have al : Z.vm.Alike P.U.vm := hZ.alike.trans X.warmed.alike
  obtain ⟨A, hx⟩ := txt_of wi al E V C K hc hb l2
  obtain ⟨A', hy⟩ := txt_of wi al E' V' C' K' hc' hb' l2'
  obtain ⟨v, B, X', ⟨⟨w, hv, hh, hq⟩, hl, hk, hs⟩, st⟩ := SEq.pays x t A cd cs.length (fun j => cs.getD j 0) y t' A' cd' ds.length (fun j => ds.getD j 0) z (tabEq_of (movedEq hZ hw)) hfr hlo m meth c P g ig mk _ X hg hsize hdg hW hn ⟨r1, r2, rfl, hx, hy, sta_is al S, hz⟩
  refine ⟨v, B, X', ⟨[], ⟨?_, rfl, hh⟩, hl, hk, hs⟩, st⟩
  rcases hq with ⟨rfl, q⟩ | ⟨rfl, q⟩
  · exact Or.inl ⟨hv, (same_list cs ds).mp q⟩
  · exact Or.inr ⟨hv, fun e => q ((same_list cs ds).mpr e)⟩
end StrChars.Road
namespace StrChars.Road
open Jvm Sem ClassFile Op Lib Jvm.Stand Jvm.Free Jvm.Free.XT
open Jvm.Lib.Cold (StaticIs)
/-- what backV says of its String, as the contracts of this text ask it: cs's low bytes, coder 0 -/
theorem codOf {cs : List Int32} {n : Nat} (hn : cs.length = n) (hb : ∀ c ∈ cs, ¬ 255 < c) : CodA cs 0 (Int32.ofNat n) ((cs.map lo8).map Value.int) := Or.inl ⟨rfl, by rw [hn], by simp [List.map_map, Function.comp_def], hb⟩
end StrChars.Road
end Jvm.Pilot.@@N@@

namespace Jvm.Pilot.@@N@@
open Jvm Jvm.ClassFile Sem Op Lib Jvm.Free Jvm.Stand Jvm.LawKit Jvm.RoadKit Bundle Jvm.Pilot.@@N@@.Jvm.D
theorem ow {Z : State} {a0 : Array Value} (hw : ∀ d ∈ tables_1, d.before a0 Z = true) (i : Nat) {d : Jvm.Cond} (h : tables_1[i]? = some d) : d.before a0 Z = true := hw _ (List.mem_of_getElem? h)
theorem own_irr {x : Int32} : ¬ x < x := fun h => Int.lt_irrefl _ (Int32.lt_iff_toInt_lt.mp h)
theorem own_neA {Z : State} {h : Heap} {a b : Addr} {k k' : ClassId} {ty ty' : FieldType} {z z' : Int32} {vs vs' : List Value} {d d' : Value} (A : Arv Z h a k ty z vs d) (B : Arv Z h b k' ty' z' vs' d') (hn : ty ≠ ty') : a ≠ b := fun q => by
  subst q
  obtain ⟨c1, ⟨e1, hA, -⟩, -⟩ := A
  obtain ⟨c2, ⟨e2, hB, -⟩, -⟩ := B
  cases e1.symm.trans e2
  obtain ⟨-, k1, g1, comp, hk⟩ := hA
  obtain ⟨-, k2, g2, comp', hk'⟩ := hB
  cases g1.symm.trans g2
  rw [hk] at hk'
  injection hk' with h1 h2
  exact hn h2
section Own
variable {p : Program} {l : Launch} {e : Env} {R : Room} {s : State} {m : MethodId} {args : Array Value} {below : List Frame} {meth : Method} {c : Code} {T : State} {locs : List Loc} {cells slots : Nat} {Z : State} {a0 : Array Value} {h : Heap} {vm0 : Vm} {EL : List (String × Nat)}
/-! own layer: contracts in CPS form. G is the goal at a state; go takes steps backwards, fin ends the walk. -/
def own_MetN (l : Launch) (Z : State) (y : MethodName) (bytes : ByteArray) (maxL : Nat) (ret : Option FieldType) (ws : List Jvm.Cond) (rm : Room) (as' : Array Value) (h0 : Heap) (Q : Option Value → Heap → List Loc → Prop) : Prop :=
  MetFree l y (head1 (Jvm.Cond.code y bytes maxL ret :: ws) rm) (fun a U => a = as' ∧ Z.Warmed39 U.vm ∧ U.heap = h0) (fun _ _ _ _ _ => True) (fun _ U o U' => ∃ v L, o = .returned v ∧ Q v U'.heap L ∧ FrameEnd U o U' L rm.cells rm.slots)
def own_MetH (l : Launch) (Z : State) (EL : List (String × Nat)) (y : MethodName) (bytes : ByteArray) (maxL : Nat) (ret : Option FieldType) (ws : List Jvm.Cond) (rm : Room) (as' : Array Value) (h0 : Heap) (Q : Option Value → Heap → List Loc → Prop) : Prop :=
  MetFree l y (head1 (Jvm.Cond.code y bytes maxL ret :: ws) rm) (fun a U => a = as' ∧ Z.Warmed39 U.vm ∧ U.heap = h0 ∧ CHv Z EL U.vm h0) (fun _ _ _ _ _ => True) (fun _ U o U' => ∃ v L, o = .returned v ∧ Q v U'.heap L ∧ CHr Z EL U.vm U.heap U'.vm U'.heap ∧ ReturnedEndW U o U' L rm.cells rm.slots)
def own_Go (p : Program) (e : Env) (below : List Frame) (G : State → Prop) : Prop := ∀ A B, (∀ t, Steps p.tables e below B t → Steps p.tables e below A t) → G B → G A
def own_Ret (p : Program) (e : Env) (below : List Frame) (m : MethodId) (T : State) (v : Option Value) (g : JFrame) : Prop :=
  ∀ fs, (∀ (f : JFrame) (acts : List Action), f.method = m → f.locked = none → f.entered = [] → (doReturn e (T.setTop f) acts v).1 = T.setFrames fs) → Steps p.tables e below (T.setTop g) (T.setFrames fs)
theorem own_metN {y : MethodName} {bytes : ByteArray} {maxL : Nat} {ret : Option FieldType} {ws : List Jvm.Cond} {rm : Room} {as' : Array Value} {h0 : Heap} {Q : Option Value → Heap → List Loc → Prop} (pn : plainFor y = true)
    (K : ∀ (p : Program) (e : Env) (s : State) (m : MethodId) (below : List Frame) (meth : Method) (c : Code) (s₁ : State) (G : State → Prop), p.tables.exec = Jvm.exec → c.code = bytes → c.maxLocals = maxL → Z.Warmed39 s.vm → s.vm.findClass y.cls = some m.cls → meth.name = y.name → meth.sig.returnType = ret →
      Stand p l e rm s m as' below meth c s₁ [] 0 0 → s₁.heap = h0 → own_Go p e below G →
      (∀ (T : State) (L : List Loc) (cells slots : Nat) (v : Option Value), Stand p l e rm s m as' below meth c T L cells slots → (ret = none → v = none) → cells ≤ rm.cells → slots ≤ rm.slots → Q v T.heap L → ∀ g : JFrame, own_Ret p e below m T v g → G (T.setTop g)) →
      G (s₁.setTop (entryFrame m as' maxL))) :
    own_MetN l Z y bytes maxL ret ws rm as' h0 Q := by
  refine MetFree.of_bodySF pn hisR ?_
  intro p e s m args below meth c s₁ Bd hml0 hP hK
  obtain ⟨rfl, hZ, hh⟩ := hP
  refine K p e s m below meth c s₁ (fun A => ∃ s₂ o, Steps p.tables e below A s₂ ∧ s₂.status = .running ∧ Ended s₂ below o ∧ ∃ v L, o = .returned v ∧ Q v s₂.heap L ∧ FrameEnd s o s₂ L rm.cells rm.slots) Bd.exec Bd.bytes hml0 hZ (findClass_of_methodNamed Bd.named) (name_of_methodNamed Bd.named Bd.method).1 Bd.returns (Stand.of_body Bd) (by rw [← hh, Bd.state]; rfl) ?_ ?_
  · rintro A B st ⟨s₂, o, h1, h2⟩; exact ⟨s₂, o, st _ h1, h2⟩
  · intro T L cells slots v X hv hc hs hq g hg
    obtain ⟨fs, hr, hrun, hended, hW, hsame⟩ := X.leave (v := v) (fun q => hv (Bd.returns.symm.trans q))
    exact ⟨_, _, hg fs hr, hrun, hended, _, _, rfl, hq, ⟨_, rfl⟩, hW, hsame.mono hc hs⟩
theorem own_metH {y : MethodName} {bytes : ByteArray} {maxL : Nat} {ret : Option FieldType} {ws : List Jvm.Cond} {rm : Room} {as' : Array Value} {h0 : Heap} {Q : Option Value → Heap → List Loc → Prop} (pn : plainFor y = true) (hEL : EW Z a0 EL)
    (K : ∀ (p : Program) (e : Env) (s : State) (m : MethodId) (below : List Frame) (meth : Method) (c : Code) (s₁ : State) (G : State → Prop), p.tables.exec = Jvm.exec → c.code = bytes → c.maxLocals = maxL → Z.Warmed39 s.vm → s.vm.findClass y.cls = some m.cls → meth.name = y.name → meth.sig.returnType = ret →
      Stand p l e rm (s.setVm s.vm) m as' below meth c s₁ [] 0 0 → s₁.heap = h0 → s.Since s.vm h0.size → CHr Z EL s.vm h0 s.vm h0 → own_Go p e below G →
      (∀ (T : State) (L : List Loc) (cells slots : Nat) (v : Option Value) (vm0 : Vm) (k0 : Nat), Stand p l e rm (s.setVm vm0) m as' below meth c T L cells slots → Z.Warmed39 vm0 → s.Since vm0 k0 → k0 ≤ T.heap.size → CHr Z EL s.vm h0 vm0 T.heap → (ret = none → v = none) → cells ≤ rm.cells → slots ≤ rm.slots → Q v T.heap L → ∀ g : JFrame, own_Ret p e below m T v g → G (T.setTop g)) →
      G (s₁.setTop (entryFrame m as' maxL))) :
    own_MetH l Z EL y bytes maxL ret ws rm as' h0 Q := by
  refine MetFree.of_bodySF pn hisR ?_
  intro p e s m args below meth c s₁ Bd hml0 hP hK
  obtain ⟨rfl, hZ, hh, hC⟩ := hP
  refine K p e s m below meth c s₁ (fun A => ∃ s₂ o, Steps p.tables e below A s₂ ∧ s₂.status = .running ∧ Ended s₂ below o ∧ ∃ v L, o = .returned v ∧ Q v s₂.heap L ∧ CHr Z EL s.vm s.heap s₂.vm s₂.heap ∧ ReturnedEndW s o s₂ L rm.cells rm.slots) Bd.exec Bd.bytes hml0 hZ (findClass_of_methodNamed Bd.named) (name_of_methodNamed Bd.named Bd.method).1 Bd.returns (Stand.of_body Bd) (by rw [← hh, Bd.state]; rfl) ((State.WarmedH.refl s).since _) (CHr.refl hC) ?_ ?_
  · rintro A B st ⟨s₂, o, h1, h2⟩; exact ⟨s₂, o, st _ h1, h2⟩
  · intro T L cells slots v vm0 k0 X hZ0 hS hk hR hv hc hs hq g hg
    obtain ⟨fs, hr, hrun, hended, e1, e2, e3, e4⟩ := X.leaveW (v := v) hS hk (fun q => hv (Bd.returns.symm.trans q))
    refine ⟨_, _, hg fs hr, hrun, hended, _, _, rfl, hq, ?_, e1, e2, e3, e4.mono hc hs⟩
    rw [hh]
    show CHr Z EL s.vm h0 T.vm T.heap
    exact hR.trans (CHv.at X hZ0 hEL hR.1)
theorem own_nfS {y y' z' : MethodName} {C' : String} {as' : Array Value} (hc : z'.cls = y.cls) (ws : (Jvm.Cond.selects C' y' z').before as' s = true) : NotFace s y := fun r0 h0 => by
  obtain ⟨c2, r2, m2, -, -, q3, -, kP, hkP, hkPi⟩ := Cond.selects_spec ws
  have f1 := findClass_of_methodNamed h0
  have f2 := findClass_of_methodNamed q3
  rw [hc] at f2
  have e : m2.cls = r0.cls := Option.some.inj (f2.symm.trans f1)
  rw [e] at hkP
  exact ⟨kP, hkP, hkPi⟩
/-! calls: the callee's law in backOf's shape pays -/
theorem own_bkN {y : MethodName} {bytes : ByteArray} {maxL : Nat} {ret : Option FieldType} {rm : Room} {len W : Nat} {as' : Array Value} {Q : Option Value → Heap → List Loc → Prop} (hM : own_MetN l Z y bytes maxL ret [] rm as' h Q)
    (hZ : Z.Warmed39 s.vm) (wc : (Jvm.Cond.code y bytes maxL ret).before a0 Z = true) (wz : (Jvm.Cond.initialized y.cls).before a0 Z = true) (hf : rm.frames + 1 ≤ R.frames) (hl : W + (maxL + 11) + rm.locals ≤ R.locals) :
    Back l R p e below s args y len W (fun A a => a = as' ∧ A.U.heap = h ∧ A.cells + rm.cells ≤ R.cells ∧ A.slots + rm.slots ≤ R.slots) (fun A _ v B => ∃ L, Q v B.U.heap L ∧ B.locs = A.locs ++ L ∧ B.cells = A.cells + rm.cells ∧ B.slots = A.slots + rm.slots) :=
  backOf (Q := Q) hM hZ wc wz hf hl
theorem own_bkH {y : MethodName} {bytes : ByteArray} {maxL : Nat} {ret : Option FieldType} {rm : Room} {len W : Nat} {as' : Array Value} {Q : Option Value → Heap → List Loc → Prop} (hM : own_MetH l Z EL y bytes maxL ret [] rm as' h Q)
    (hZ : Z.Warmed39 vm0) (wc : (Jvm.Cond.code y bytes maxL ret).before a0 Z = true) (wz : (Jvm.Cond.initialized y.cls).before a0 Z = true) (hf : rm.frames + 1 ≤ R.frames) (hl : W + (maxL + 11) + rm.locals ≤ R.locals) (hEL : EW Z a0 EL) (H : CHv Z EL vm0 h) :
    BackS l R p e below (s.setVm vm0) args y len W (fun A a => a = as' ∧ A.U.heap = h ∧ A.cells + rm.cells ≤ R.cells ∧ A.slots + rm.slots ≤ R.slots) (fun A _ v B => ∃ L, Q v B.U.heap L ∧ B.locs = A.locs ++ L ∧ B.cells = A.cells + rm.cells ∧ B.slots = A.slots + rm.slots ∧ CHr Z EL vm0 h B.U.vm B.U.heap) :=
  backOfSH (Q := Q) hM hZ wc wz hf hl hEL H
theorem own_st (X : Stand p l e R s m args below meth c T locs cells slots) (hx : p.tables.exec = Jvm.exec) (hZ : Z.Warmed39 s.vm) {own : String} {index : Nat} {y : MethodName} {bytes : ByteArray} {maxL : Nat} {ret : Option FieldType}
    (hown : s.vm.findClass own = some m.cls) (w1 : (Jvm.Cond.methodLink own index y).before a0 Z = true) (w2 : (Jvm.Cond.static y).before a0 Z = true) (w3 : (Jvm.Cond.initialized y.cls).before a0 Z = true) (w4 : (Jvm.Cond.code y bytes maxL ret).before a0 Z = true)
    (hy : y.cls ≠ "java/lang/invoke/MethodHandle" ∧ y.cls ≠ "java/lang/invoke/VarHandle") {W kc ks : Nat} {as' : Array Value} {Q : Option Value → Heap → List Loc → Prop}
    (hK : Back l R p e below s args y 3 W (fun A a => a = as' ∧ A.U.heap = h ∧ A.cells + kc ≤ R.cells ∧ A.slots + ks ≤ R.slots) (fun A _ v B => ∃ L, Q v B.U.heap L ∧ B.locs = A.locs ++ L ∧ B.cells = A.cells + kc ∧ B.slots = A.slots + ks))
    (eT : T.heap = h) {g : JFrame} (hg : g.method = m) (hsize : g.locals.size = c.maxLocals) {argsL rest : List Value} (ha : argsL.toArray = as') (hlen : ∀ sig, parseMethodDescriptor y.desc = some sig → argsL.length = sig.parameters.length)
    (hstack : g.stack = argsL.reverse ++ rest) (hW : 2 * g.monitorRoom + (rest.map fun v => v.category).sum ≤ W) (hdg : decode c.code g.pc = .ok (.invokestatic index, 3)) (hc : cells + kc ≤ R.cells) (hs : slots + ks ≤ R.slots) :
    ∃ (v : Option Value) (T' : State) (L : List Loc), Stand p l e R s m args below meth c T' (locs ++ L) (cells + kc) (slots + ks) ∧ Q v T'.heap L ∧ ∀ t, Steps p.tables e below (T'.setTop { g with pc := g.pc + 3, stack := v.toList ++ rest }) t → Steps p.tables e below (T.setTop g) t := by
  obtain ⟨v, vm₁, ⟨T', L', k', n'⟩, -, X', ⟨L, hq, hl, hk, hn⟩, st⟩ := Jvm.LawKit.callS X hx hown (mvT hZ w1) (mvT hZ w2) (mvT hZ w3) (mvT hZ w4) hy hK hg hsize hlen hstack hW hdg (fun _ _ => ⟨ha, eT, hc, hs⟩)
  dsimp only [Pt.U, Pt.locs, Pt.cells, Pt.slots] at X' hq hl hk hn st
  subst hl hk hn
  exact ⟨v, T', L, X', hq, st⟩
theorem own_sp (X : Stand p l e R s m args below meth c T locs cells slots) (hx : p.tables.exec = Jvm.exec) (hZ : Z.Warmed39 s.vm) {own : String} {index : Nat} {y : MethodName} {bytes : ByteArray} {maxL : Nat} (hy1 : y.name = "<init>")
    (hown : s.vm.findClass own = some m.cls) (w1 : (Jvm.Cond.methodLink own index y).before a0 Z = true) (w2 : (Jvm.Cond.instanceMethod y).before a0 Z = true) (w4 : (Jvm.Cond.code y bytes maxL none).before a0 Z = true)
    (hy : y.cls ≠ "java/lang/invoke/MethodHandle" ∧ y.cls ≠ "java/lang/invoke/VarHandle") {W kc ks : Nat} {as' : Array Value} {Q : Option Value → Heap → List Loc → Prop}
    (hK : Back l R p e below s args y 3 W (fun A a => a = as' ∧ A.U.heap = h ∧ A.cells + kc ≤ R.cells ∧ A.slots + ks ≤ R.slots) (fun A _ v B => ∃ L, Q v B.U.heap L ∧ B.locs = A.locs ++ L ∧ B.cells = A.cells + kc ∧ B.slots = A.slots + ks))
    (eT : T.heap = h) {g : JFrame} (hg : g.method = m) (hsize : g.locals.size = c.maxLocals) {a : Addr} {argsL rest : List Value} (ha : (.ref a :: argsL).toArray = as') (hlen : ∀ sig, parseMethodDescriptor y.desc = some sig → argsL.length = sig.parameters.length)
    (hstack : g.stack = argsL.reverse ++ .ref a :: rest) (hW : 2 * g.monitorRoom + (rest.map fun v => v.category).sum ≤ W) (hdg : decode c.code g.pc = .ok (.invokespecial index, 3)) (hc : cells + kc ≤ R.cells) (hs : slots + ks ≤ R.slots) :
    ∃ (v : Option Value) (T' : State) (L : List Loc), Stand p l e R s m args below meth c T' (locs ++ L) (cells + kc) (slots + ks) ∧ Q v T'.heap L ∧ ∀ t, Steps p.tables e below (T'.setTop { g with pc := g.pc + 3, stack := v.toList ++ rest }) t → Steps p.tables e below (T.setTop g) t := by
  obtain ⟨v, vm₁, ⟨T', L', k', n'⟩, -, X', ⟨L, hq, hl, hk, hn⟩, st⟩ := X.specialBack hx hy1 hown (mvT hZ w1) (mvT hZ w2) (mvT hZ w4) hy hK hg hsize (Steps.refl _) hlen hstack hW hdg (fun _ _ => ⟨ha, eT, hc, hs⟩)
  dsimp only [Pt.U, Pt.locs, Pt.cells, Pt.slots] at X' hq hl hk hn st
  subst hl hk hn
  exact ⟨v, T', L, X', hq, fun _ k => st.trans k⟩
theorem own_vi (X : Stand p l e R s m args below meth c T locs cells slots) (hx : p.tables.exec = Jvm.exec) (hZ : Z.Warmed39 s.vm) {own C : String} {index : Nat} {y z : MethodName}
    (hown : s.vm.findClass own = some m.cls) (w1 : (Jvm.Cond.methodLink own index y).before a0 Z = true) (w2 : (Jvm.Cond.declares y).before a0 Z = true) (w3 : (Jvm.Cond.selects C y z).before a0 Z = true) (w4 : (Jvm.Cond.instanceMethod z).before a0 Z = true) (hn : z = y ∨ (∃ S, (Jvm.Cond.superclass y.cls S).before a0 Z = true) ∨ (Jvm.Cond.noSuperclass y.cls).before a0 Z = true ∨ ∃ C' y' z', z'.cls = y.cls ∧ (Jvm.Cond.selects C' y' z').before a0 Z = true)
    (hy : y.cls ≠ "java/lang/invoke/MethodHandle" ∧ y.cls ≠ "java/lang/invoke/VarHandle") {W kc ks : Nat} {as' : Array Value} {Q : Option Value → Heap → List Loc → Prop}
    (hK : Back l R p e below s args z 3 W (fun A a => a = as' ∧ A.U.heap = h ∧ A.cells + kc ≤ R.cells ∧ A.slots + ks ≤ R.slots) (fun A _ v B => ∃ L, Q v B.U.heap L ∧ B.locs = A.locs ++ L ∧ B.cells = A.cells + kc ∧ B.slots = A.slots + ks))
    (eT : T.heap = h) {b : Addr} (E : Exa Z h b C) {g : JFrame} (hg : g.method = m) (hsize : g.locals.size = c.maxLocals) {argsL rest : List Value} (ha : (.ref b :: argsL).toArray = as') (hlen : ∀ sig, parseMethodDescriptor y.desc = some sig → argsL.length = sig.parameters.length)
    (hstack : g.stack = argsL.reverse ++ .ref b :: rest) (hW : 2 * g.monitorRoom + (rest.map fun v => v.category).sum ≤ W) (hdg : decode c.code g.pc = .ok (.invokevirtual index, 3)) (hc : cells + kc ≤ R.cells) (hs : slots + ks ≤ R.slots) :
    ∃ (v : Option Value) (T' : State) (L : List Loc), Stand p l e R s m args below meth c T' (locs ++ L) (cells + kc) (slots + ks) ∧ Q v T'.heap L ∧ ∀ t, Steps p.tables e below (T'.setTop { g with pc := g.pc + 3, stack := v.toList ++ rest }) t → Steps p.tables e below (T.setTop g) t := by
  have hnf : NotFace s y := by
    rcases hn with rfl | ⟨S, w⟩ | w | ⟨C', y', z', hc, w⟩
    · exact notFace_of_selects (args := #[]) (mvT hZ w3)
    · exact nf_super (args := #[]) (mvT hZ w)
    · exact nf_top (args := #[]) (mvT hZ w)
    · exact own_nfS hc (mvT (args := #[]) hZ w)
  obtain ⟨cq, kq, qa, qb, qc⟩ := isOf hZ eT E
  obtain ⟨v, vm₁, ⟨T', L', k', n'⟩, -, X', ⟨L, hq, hl, hk, hn⟩, st⟩ := X.virtualBack hx (y := y) (z := z) hown (mvT hZ w1) (mvT hZ w2) hnf (mvT hZ w3) (mvT hZ w4) hy hK qa qc hg hsize (Steps.refl _) hlen hstack hW hdg (fun _ _ => ⟨ha, eT, hc, hs⟩)
  dsimp only [Pt.U, Pt.locs, Pt.cells, Pt.slots] at X' hq hl hk hn st
  subst hl hk hn
  exact ⟨v, T', L, X', hq, fun _ k => st.trans k⟩
/-! .. of a callee that may load String constants: the walk goes on over the tables at hand -/
theorem own_stW (X : Stand p l e R (s.setVm vm0) m args below meth c T locs cells slots) (hx : p.tables.exec = Jvm.exec) (hZ : Z.Warmed39 vm0) {own : String} {index : Nat} {y : MethodName} {bytes : ByteArray} {maxL : Nat} {ret : Option FieldType}
    (hown : vm0.findClass own = some m.cls) (w1 : (Jvm.Cond.methodLink own index y).before a0 Z = true) (w2 : (Jvm.Cond.static y).before a0 Z = true) (w3 : (Jvm.Cond.initialized y.cls).before a0 Z = true) (w4 : (Jvm.Cond.code y bytes maxL ret).before a0 Z = true)
    (hy : y.cls ≠ "java/lang/invoke/MethodHandle" ∧ y.cls ≠ "java/lang/invoke/VarHandle") {W kc ks : Nat} {as' : Array Value} {Q : Option Value → Heap → List Loc → Prop}
    (hK : BackS l R p e below (s.setVm vm0) args y 3 W (fun A a => a = as' ∧ A.U.heap = h ∧ A.cells + kc ≤ R.cells ∧ A.slots + ks ≤ R.slots) (fun A _ v B => ∃ L, Q v B.U.heap L ∧ B.locs = A.locs ++ L ∧ B.cells = A.cells + kc ∧ B.slots = A.slots + ks ∧ CHr Z EL vm0 h B.U.vm B.U.heap))
    (eT : T.heap = h) {k0 : Nat} (hS : s.Since vm0 k0) (hk0 : k0 ≤ h.size) {g : JFrame} (hg : g.method = m) (hsize : g.locals.size = c.maxLocals) {argsL rest : List Value} (ha : argsL.toArray = as') (hlen : ∀ sig, parseMethodDescriptor y.desc = some sig → argsL.length = sig.parameters.length)
    (hstack : g.stack = argsL.reverse ++ rest) (hW : 2 * g.monitorRoom + (rest.map fun v => v.category).sum ≤ W) (hdg : decode c.code g.pc = .ok (.invokestatic index, 3)) (hc : cells + kc ≤ R.cells) (hs : slots + ks ≤ R.slots) :
    ∃ (v : Option Value) (T' : State) (L : List Loc), Stand p l e R (s.setVm T'.vm) m args below meth c T' (locs ++ L) (cells + kc) (slots + ks) ∧ Q v T'.heap L ∧ Z.Warmed39 T'.vm ∧ T'.vm.findClass own = some m.cls ∧ s.Since T'.vm T'.heap.size ∧ CHr Z EL vm0 h T'.vm T'.heap ∧ ∀ t, Steps p.tables e below (T'.setTop { g with pc := g.pc + 3, stack := v.toList ++ rest }) t → Steps p.tables e below (T.setTop g) t := by
  have hZ' : Z.Warmed39 (s.setVm vm0).vm := hZ
  obtain ⟨v, vm₁, ⟨T', L', k', n'⟩, -, X', hS', hg', ⟨L, hq, hl, hk, hn, hC⟩, st⟩ := callSS X hx (own := own) (index := index) hown (mvT hZ' w1) (mvT hZ' w2) (mvT hZ' w3) (mvT hZ' w4) hy hK hg hsize hlen hstack hW hdg (fun _ _ => ⟨ha, eT, hc, hs⟩)
  dsimp only [Pt.U, Pt.locs, Pt.cells, Pt.slots] at X' hS' hg' hq hl hk hn hC st
  subst hl hk hn eT
  obtain ⟨Y, hS2, hZ2, hown2⟩ := rebS hS hk0 X' hS' hg' hZ' hown
  exact ⟨v, T', L, Y, hq, hZ2, hown2, hS2, hC, fun _ k => st.trans k⟩
theorem own_spW (X : Stand p l e R (s.setVm vm0) m args below meth c T locs cells slots) (hx : p.tables.exec = Jvm.exec) (hZ : Z.Warmed39 vm0) {own : String} {index : Nat} {y : MethodName} {bytes : ByteArray} {maxL : Nat} (hy1 : y.name = "<init>")
    (hown : vm0.findClass own = some m.cls) (w1 : (Jvm.Cond.methodLink own index y).before a0 Z = true) (w2 : (Jvm.Cond.instanceMethod y).before a0 Z = true) (w4 : (Jvm.Cond.code y bytes maxL none).before a0 Z = true)
    (hy : y.cls ≠ "java/lang/invoke/MethodHandle" ∧ y.cls ≠ "java/lang/invoke/VarHandle") {W kc ks : Nat} {as' : Array Value} {Q : Option Value → Heap → List Loc → Prop}
    (hK : BackS l R p e below (s.setVm vm0) args y 3 W (fun A a => a = as' ∧ A.U.heap = h ∧ A.cells + kc ≤ R.cells ∧ A.slots + ks ≤ R.slots) (fun A _ v B => ∃ L, Q v B.U.heap L ∧ B.locs = A.locs ++ L ∧ B.cells = A.cells + kc ∧ B.slots = A.slots + ks ∧ CHr Z EL vm0 h B.U.vm B.U.heap))
    (eT : T.heap = h) {k0 : Nat} (hS : s.Since vm0 k0) (hk0 : k0 ≤ h.size) {g : JFrame} (hg : g.method = m) (hsize : g.locals.size = c.maxLocals) {a : Addr} {argsL rest : List Value} (ha : (.ref a :: argsL).toArray = as') (hlen : ∀ sig, parseMethodDescriptor y.desc = some sig → argsL.length = sig.parameters.length)
    (hstack : g.stack = argsL.reverse ++ .ref a :: rest) (hW : 2 * g.monitorRoom + (rest.map fun v => v.category).sum ≤ W) (hdg : decode c.code g.pc = .ok (.invokespecial index, 3)) (hc : cells + kc ≤ R.cells) (hs : slots + ks ≤ R.slots) :
    ∃ (v : Option Value) (T' : State) (L : List Loc), Stand p l e R (s.setVm T'.vm) m args below meth c T' (locs ++ L) (cells + kc) (slots + ks) ∧ Q v T'.heap L ∧ Z.Warmed39 T'.vm ∧ T'.vm.findClass own = some m.cls ∧ s.Since T'.vm T'.heap.size ∧ CHr Z EL vm0 h T'.vm T'.heap ∧ ∀ t, Steps p.tables e below (T'.setTop { g with pc := g.pc + 3, stack := v.toList ++ rest }) t → Steps p.tables e below (T.setTop g) t := by
  have hZ' : Z.Warmed39 (s.setVm vm0).vm := hZ
  obtain ⟨v, vm₁, ⟨T', L', k', n'⟩, -, X', hS', hg', ⟨L, hq, hl, hk, hn, hC⟩, st⟩ := X.specialBackS hx hy1 (own := own) (index := index) hown (mvT hZ' w1) (mvT hZ' w2) (mvT hZ' w4) hy hK hg hsize (Steps.refl _) hlen hstack hW hdg (fun _ _ => ⟨ha, eT, hc, hs⟩)
  dsimp only [Pt.U, Pt.locs, Pt.cells, Pt.slots] at X' hS' hg' hq hl hk hn hC st
  subst hl hk hn eT
  obtain ⟨Y, hS2, hZ2, hown2⟩ := rebS hS hk0 X' hS' hg' hZ' hown
  exact ⟨v, T', L, Y, hq, hZ2, hown2, hS2, hC, fun _ k => st.trans k⟩
theorem own_viW (X : Stand p l e R (s.setVm vm0) m args below meth c T locs cells slots) (hx : p.tables.exec = Jvm.exec) (hZ : Z.Warmed39 vm0) {own C : String} {index : Nat} {y z : MethodName}
    (hown : vm0.findClass own = some m.cls) (w1 : (Jvm.Cond.methodLink own index y).before a0 Z = true) (w2 : (Jvm.Cond.declares y).before a0 Z = true) (w3 : (Jvm.Cond.selects C y z).before a0 Z = true) (w4 : (Jvm.Cond.instanceMethod z).before a0 Z = true) (hn : z = y ∨ (∃ S, (Jvm.Cond.superclass y.cls S).before a0 Z = true) ∨ (Jvm.Cond.noSuperclass y.cls).before a0 Z = true ∨ ∃ C' y' z', z'.cls = y.cls ∧ (Jvm.Cond.selects C' y' z').before a0 Z = true)
    (hy : y.cls ≠ "java/lang/invoke/MethodHandle" ∧ y.cls ≠ "java/lang/invoke/VarHandle") {W kc ks : Nat} {as' : Array Value} {Q : Option Value → Heap → List Loc → Prop}
    (hK : BackS l R p e below (s.setVm vm0) args z 3 W (fun A a => a = as' ∧ A.U.heap = h ∧ A.cells + kc ≤ R.cells ∧ A.slots + ks ≤ R.slots) (fun A _ v B => ∃ L, Q v B.U.heap L ∧ B.locs = A.locs ++ L ∧ B.cells = A.cells + kc ∧ B.slots = A.slots + ks ∧ CHr Z EL vm0 h B.U.vm B.U.heap))
    (eT : T.heap = h) {k0 : Nat} (hS : s.Since vm0 k0) (hk0 : k0 ≤ h.size) {b : Addr} (E : Exa Z h b C) {g : JFrame} (hg : g.method = m) (hsize : g.locals.size = c.maxLocals) {argsL rest : List Value} (ha : (.ref b :: argsL).toArray = as') (hlen : ∀ sig, parseMethodDescriptor y.desc = some sig → argsL.length = sig.parameters.length)
    (hstack : g.stack = argsL.reverse ++ .ref b :: rest) (hW : 2 * g.monitorRoom + (rest.map fun v => v.category).sum ≤ W) (hdg : decode c.code g.pc = .ok (.invokevirtual index, 3)) (hc : cells + kc ≤ R.cells) (hs : slots + ks ≤ R.slots) :
    ∃ (v : Option Value) (T' : State) (L : List Loc), Stand p l e R (s.setVm T'.vm) m args below meth c T' (locs ++ L) (cells + kc) (slots + ks) ∧ Q v T'.heap L ∧ Z.Warmed39 T'.vm ∧ T'.vm.findClass own = some m.cls ∧ s.Since T'.vm T'.heap.size ∧ CHr Z EL vm0 h T'.vm T'.heap ∧ ∀ t, Steps p.tables e below (T'.setTop { g with pc := g.pc + 3, stack := v.toList ++ rest }) t → Steps p.tables e below (T.setTop g) t := by
  have hZ' : Z.Warmed39 (s.setVm vm0).vm := hZ
  have hnf : NotFace (s.setVm vm0) y := by
    rcases hn with rfl | ⟨S, w⟩ | w | ⟨C', y', z', hc, w⟩
    · exact notFace_of_selects (args := #[]) (mvT hZ' w3)
    · exact nf_super (args := #[]) (mvT hZ' w)
    · exact nf_top (args := #[]) (mvT hZ' w)
    · exact own_nfS hc (mvT (args := #[]) hZ' w)
  obtain ⟨cq, kq, qa, qb, qc⟩ := isOf hZ' eT E
  obtain ⟨v, vm₁, ⟨T', L', k', n'⟩, -, X', hS', hg', ⟨L, hq, hl, hk, hn, hC⟩, st⟩ := X.virtualBackS hx (y := y) (z := z) (own := own) (index := index) hown (mvT hZ' w1) (mvT hZ' w2) hnf (mvT hZ' w3) (mvT hZ' w4) hy hK qa qc hg hsize (Steps.refl _) hlen hstack hW hdg (fun _ _ => ⟨ha, eT, hc, hs⟩)
  dsimp only [Pt.U, Pt.locs, Pt.cells, Pt.slots] at X' hS' hg' hq hl hk hn hC st
  subst hl hk hn eT
  obtain ⟨Y, hS2, hZ2, hown2⟩ := rebS hS hk0 X' hS' hg' hZ' hown
  exact ⟨v, T', L, Y, hq, hZ2, hown2, hS2, hC, fun _ k => st.trans k⟩
theorem own_catR {a : Addr} : (Value.ref a).category = 1 := rfl
theorem own_catI {a : Int32} : (Value.int a).category = 1 := rfl
theorem own_catJ {a : Int64} : (Value.long a).category = 2 := rfl
theorem own_cat {v : Value} (hv : v.isRef = true) : v.category = 1 := by rcases ref_cases hv with rfl | ⟨a, rfl⟩ <;> rfl
theorem own_narR {v : Value} {C : String} : narrow (.object C) v = v := by cases v <;> rfl
theorem own_fitR {v : Value} {C : String} (hv : v.isRef = true) : fits (.object C) v = true := by rcases ref_cases hv with rfl | ⟨a, rfl⟩ <;> rfl
theorem own_retA (X : Stand p l e R s m args below meth c T locs cells slots) (hx : p.tables.exec = Jvm.exec) {pc : Nat} {Ls : Array Slot} {w : Value} {t : FieldType} {rest : List Value} (hret : meth.sig.returnType = some t) (ht : t.isReference = true) (hw : w.isRef = true) (hn : narrow t w = w) (hd : decode c.code pc = .ok (.areturn, 1)) :
    own_Ret p e below m T (some w) (mkF m pc Ls (w :: rest)) := fun _ hl => retOut X hx hret hn (Or.inr (Or.inr (Or.inr (Or.inr ⟨rfl, ht, hw⟩)))) hd hl
theorem own_retI (X : Stand p l e R s m args below meth c T locs cells slots) (hx : p.tables.exec = Jvm.exec) {pc : Nat} {Ls : Array Slot} {z : Int32} {rest : List Value} (hret : meth.sig.returnType = some .int) (hd : decode c.code pc = .ok (.ireturn, 1)) :
    own_Ret p e below m T (some (.int z)) (mkF m pc Ls (.int z :: rest)) := fun _ hl => retOut X hx hret rfl (Or.inl ⟨rfl, Or.inl rfl, z, rfl⟩) hd hl
theorem own_retN (X : Stand p l e R s m args below meth c T locs cells slots) (hx : p.tables.exec = Jvm.exec) {pc : Nat} {Ls : Array Slot} {z : Int32} {t : FieldType} {rest : List Value} (hret : meth.sig.returnType = some t) (ht : t = .boolean ∨ t = .byte ∨ t = .char ∨ t = .short) (hd : decode c.code pc = .ok (.ireturn, 1)) :
    own_Ret p e below m T (some (.int (nar t z))) (mkF m pc Ls (.int z :: rest)) := fun _ hl => retN X hx hret ht hd hl
theorem own_retV (X : Stand p l e R s m args below meth c T locs cells slots) (hx : p.tables.exec = Jvm.exec) {pc : Nat} {Ls : Array Slot} (hret : meth.sig.returnType = none) (hd : decode c.code pc = .ok (.return_, 1)) :
    own_Ret p e below m T none (mkF m pc Ls []) := fun _ hl => X.returnOut hx hret hd hl
theorem own_in (X : Stand p l e R s m args below meth c T locs cells slots) (hx : p.tables.exec = Jvm.exec) (hZ : Z.Warmed39 s.vm) {own C : String} {index count : Nat} {xi y : MethodName}
    (hown : s.vm.findClass own = some m.cls) (w1 : (Jvm.Cond.methodLink own index xi).before a0 Z = true) (w2 : (Jvm.Cond.declares xi).before a0 Z = true) (w3 : (Jvm.Cond.interfaceMethod xi.cls xi.cls xi.name xi.desc).before a0 Z = true) (w4 : (Jvm.Cond.selects C xi y).before a0 Z = true) (w5 : (Jvm.Cond.instanceMethod y).before a0 Z = true)
    (w6 : (Jvm.Cond.publicMethod y).before a0 Z = true) (w7 : (Jvm.Cond.unhidden C xi.name xi.desc).before a0 Z = true) (w8 : (Jvm.Cond.castable C xi.cls).before a0 Z = true)
    (hy : xi.cls ≠ "java/lang/invoke/MethodHandle" ∧ xi.cls ≠ "java/lang/invoke/VarHandle") {W kc ks : Nat} {as' : Array Value} {Q : Option Value → Heap → List Loc → Prop}
    (hK : Back l R p e below s args y 5 W (fun A a => a = as' ∧ A.U.heap = h ∧ A.cells + kc ≤ R.cells ∧ A.slots + ks ≤ R.slots) (fun A _ v B => ∃ L, Q v B.U.heap L ∧ B.locs = A.locs ++ L ∧ B.cells = A.cells + kc ∧ B.slots = A.slots + ks))
    (eT : T.heap = h) {b : Addr} (E : Exa Z h b C) {g : JFrame} (hg : g.method = m) (hsize : g.locals.size = c.maxLocals) {argsL rest : List Value} (ha : (.ref b :: argsL).toArray = as') (hlen : ∀ sig, parseMethodDescriptor xi.desc = some sig → argsL.length = sig.parameters.length)
    (hstack : g.stack = argsL.reverse ++ .ref b :: rest) (hW : 2 * g.monitorRoom + (rest.map fun v => v.category).sum ≤ W) (hdg : decode c.code g.pc = .ok (.invokeinterface index count, 5)) (hc : cells + kc ≤ R.cells) (hs : slots + ks ≤ R.slots) :
    ∃ (v : Option Value) (T' : State) (L : List Loc), Stand p l e R s m args below meth c T' (locs ++ L) (cells + kc) (slots + ks) ∧ Q v T'.heap L ∧ ∀ t, Steps p.tables e below (T'.setTop { g with pc := g.pc + 5, stack := v.toList ++ rest }) t → Steps p.tables e below (T.setTop g) t := by
  obtain ⟨cq, kq, qa, qb, qc⟩ := isOf hZ eT E
  obtain ⟨v, vm₁, ⟨T', L', k', n'⟩, -, X', ⟨L, hq, hl, hk, hn⟩, st⟩ := X.interfaceBack hx (xi := xi) (y := y) hown (mvT hZ w1) (mvT hZ w2) (mvT hZ w3 (by simp [Cond.onTables, Cond.keepsFace, Cond.keeps, Cond.steady, Cond.faceAtom, hy.1, hy.2])) (mvT hZ w4) (mvT hZ w5) (mvT hZ w6) (mvT hZ w7) (mvT hZ w8) hy hK qa qb qc hg hsize (Steps.refl _) hlen hstack hW hdg (fun _ _ => ⟨ha, eT, hc, hs⟩)
  dsimp only [Pt.U, Pt.locs, Pt.cells, Pt.slots] at X' hq hl hk hn st
  subst hl hk hn
  exact ⟨v, T', L, X', hq, fun _ k => st.trans k⟩
/-- instanceof, whatever it says -/
theorem own_inst (X : Stand p l e R s m args below meth c T locs cells slots) (hx : p.tables.exec = Jvm.exec) (hZ : Z.Warmed39 s.vm) {own K C : String} {index : Nat} (hown : s.vm.findClass own = some m.cls) (w : (Jvm.Cond.classLink own index K).before a0 Z = true) (eT : T.heap = h) {a : Addr} (E : Exa Z h a C)
    {g : JFrame} (hg : g.method = m) {rest : List Value} (hs : g.stack = .ref a :: rest) (hd : decode c.code g.pc = .ok (.instanceof index, 3)) :
    ∃ (z : Int32) (T' : State), (z = 0 ∨ z = 1) ∧ Stand p l e R s m args below meth c T' locs cells slots ∧ T'.heap = h ∧ ∀ t, Steps p.tables e below (T'.setTop { g with pc := g.pc + 3, stack := .int z :: rest }) t → Steps p.tables e below (T.setTop g) t := by
  obtain ⟨cell, k, e1, e2, e3, e4, e5⟩ := E
  have w' : (Jvm.Cond.classLink own index K).before args s = true := mv hZ w
  have hpl : e.platform.magicAccessors = ({} : Platform).magicAccessors := by rw [X.admits.platform]
  obtain ⟨cT, hcT, -⟩ := Cond.classLink_spec hown w' e.platform hpl
  obtain ⟨k', q, -⟩ := hZ.alike.2.2 _ _ e3
  cases hb : s.vm.assignable cell.cls cT with
  | true =>
    obtain ⟨vm', X', st⟩ := X.instanceofYes hx hown w' (by rw [eT]; exact e1) e4 hcT hb hg hs hd
    exact ⟨1, _, Or.inr rfl, X', eT, st⟩
  | false =>
    obtain ⟨T', X', e', st⟩ := instNo X hx hZ hown w eT (C := C) ⟨cell, k, e1, e2, e3, e4, e5⟩ ⟨cell.cls, cT, e2, by rw [← hZ.alike.findClass]; exact hcT, by rw [← hZ.alike.assignable]; exact hb⟩ hg hs hd
    exact ⟨0, _, Or.inl rfl, X', e', st⟩
/-- a class that isn't among the superclasses and is no interface (the word instantiable says so) -/
theorem own_NSroot {O K : String} {n : Nat} (w : (Jvm.Cond.noSuperclass O).before a0 Z = true) (wk : (Jvm.Cond.instantiable K n).before a0 Z = true) (hn : O ≠ K) : NS Z O K := by
  obtain ⟨c, k, h1, h2, h3, -, -⟩ := Cond.noSuperclass_spec w
  obtain ⟨t, kt, g1, -⟩ := Cond.instantiable_spec wk
  have ne := ids_ne h1 g1 hn
  refine ⟨c, t, h1, g1, fun fuel => ?_⟩
  cases fuel with
  | zero => rfl
  | succ f => simp [Vm.isSubclassAux, ne, h2, h3]
theorem own_NSno {C S K : String} {n : Nat} (w : (Jvm.Cond.superclass C S).before a0 Z = true) (wk : (Jvm.Cond.instantiable K n).before a0 Z = true) (q : NS Z C K) (hn : C ≠ K) : ∃ c t, Z.vm.findClass C = some c ∧ Z.vm.findClass K = some t ∧ Z.vm.assignable c t = false := by
  obtain ⟨c, t, h0, g0, n3⟩ := q
  obtain ⟨p, k, kp, h1, h2, h3, h4, h5, -, h7⟩ := Cond.superclass_spec h0 w
  obtain ⟨t', kt, g1, g2, g3, g4, -⟩ := Cond.instantiable_spec wk
  cases g0.symm.trans g1
  have g5 : kt.isInterface = false := by simp only [Bool.or_eq_false_iff] at g4; exact g4.1
  have ne := ids_ne h0 g0 hn
  refine ⟨c, t, h0, g0, ?_⟩
  show Z.vm.assignableAux (255 + 1) c t = false
  simp [Vm.assignableAux, ne, h2, g2, h5, g3, g5, Vm.isSubclass, n3]
theorem own_pr (X : Stand p l e R s m args below meth c T locs cells slots) (hx : p.tables.exec = Jvm.exec) (hZ : Z.Warmed39 s.vm) {own C : String} {index : Nat} {y : MethodName} {bytes : ByteArray} {maxL : Nat} {ret : Option FieldType}
    (hown : s.vm.findClass own = some m.cls) (w1 : (Jvm.Cond.methodLink own index y).before a0 Z = true) (w2 : (Jvm.Cond.instanceMethod y).before a0 Z = true) (w3 : (Jvm.Cond.selects C y y).before a0 Z = true) (w4 : (Jvm.Cond.privateMethod y).before a0 Z = true) (w5 : (Jvm.Cond.code y bytes maxL ret).before a0 Z = true)
    (hy : y.cls ≠ "java/lang/invoke/MethodHandle" ∧ y.cls ≠ "java/lang/invoke/VarHandle") {W kc ks : Nat} {as' : Array Value} {Q : Option Value → Heap → List Loc → Prop}
    (hK : Back l R p e below s args y 3 W (fun A a => a = as' ∧ A.U.heap = h ∧ A.cells + kc ≤ R.cells ∧ A.slots + ks ≤ R.slots) (fun A _ v B => ∃ L, Q v B.U.heap L ∧ B.locs = A.locs ++ L ∧ B.cells = A.cells + kc ∧ B.slots = A.slots + ks))
    (eT : T.heap = h) {b : Addr} {C' : String} (E : Exa Z h b C') {g : JFrame} (hg : g.method = m) (hsize : g.locals.size = c.maxLocals) {argsL rest : List Value} (ha : (.ref b :: argsL).toArray = as') (hlen : ∀ sig, parseMethodDescriptor y.desc = some sig → argsL.length = sig.parameters.length)
    (hstack : g.stack = argsL.reverse ++ .ref b :: rest) (hW : 2 * g.monitorRoom + (rest.map fun v => v.category).sum ≤ W) (hdg : decode c.code g.pc = .ok (.invokevirtual index, 3)) (hc : cells + kc ≤ R.cells) (hs : slots + ks ≤ R.slots) :
    ∃ (v : Option Value) (T' : State) (L : List Loc), Stand p l e R s m args below meth c T' (locs ++ L) (cells + kc) (slots + ks) ∧ Q v T'.heap L ∧ ∀ t, Steps p.tables e below (T'.setTop { g with pc := g.pc + 3, stack := v.toList ++ rest }) t → Steps p.tables e below (T.setTop g) t := by
  obtain ⟨cq, q, q'⟩ := E.cell
  have hpriv : s.PrivateAt y := Cond.privateMethod_at (mvP hZ w4 (args := #[]))
  obtain ⟨mk, methM, hnamed, hmethM, hstM, habM⟩ := Cond.instanceMethod_spec (mvT (args := args) hZ w2)
  obtain ⟨methM', cM, hmethM', -, -, -, -, -, -, hsigM⟩ := Cond.code_spec hnamed (mvT (args := args) hZ w5)
  cases hmethM.symm.trans hmethM'
  obtain ⟨c2, r2, m2, -, -, q3, -, kP, hkP, hkPi⟩ := Cond.selects_spec (mvT (args := args) hZ w3)
  cases hnamed.symm.trans q3
  have hselP : selectMethod e.platform s.vm cq.cls mk = .method mk := selectMethod_private hmethM (hpriv mk methM hnamed hmethM)
  obtain ⟨vm₁, X₁, hstep₁⟩ := X.invokevirtual hx hown (mvT hZ w1) hnamed hmethM hstM hkP hkPi hy (a := b) (cell := cq) (by rw [eT]; exact q) q' hselP hmethM habM hkP hkPi (g := g) hg (argsL := argsL) (rest := rest) (hlen _ hsigM) hstack hdg
  obtain ⟨v, ⟨T', L', k', n'⟩, X', ⟨L, hq, hl, hk, hn⟩, hsteps⟩ := hK m meth c ⟨T.setVm vm₁, locs, cells, slots⟩ { g with stack := rest } (.invokevirtual index) mk (.ref b :: argsL).toArray X₁ hg hsize hdg hW (X₁.named hnamed) ⟨ha, eT, hc, hs⟩
  dsimp only [Pt.U, Pt.locs, Pt.cells, Pt.slots] at X' hq hl hk hn hsteps
  subst hl hk hn
  exact ⟨v, T', L, X', hq, fun _ k => (hstep₁ _ fun acts => by rw [doInvoke_state]; exact Steps.refl _).trans (hsteps.trans k)⟩
theorem own_selfp {y : MethodName} {n : Nat} (w3 : (Jvm.Cond.privateMethod y).before a0 Z = true) (wi : (Jvm.Cond.instanceMethod y).before a0 Z = true) (wk : (Jvm.Cond.instantiable y.cls n).before a0 Z = true) (hy : y.cls ≠ "java/lang/invoke/MethodHandle" ∧ y.cls ≠ "java/lang/invoke/VarHandle") : (Jvm.Cond.selects y.cls y y).before a0 Z = true := by
  obtain ⟨t, kt, g1, g2, g3, g4, -⟩ := Cond.instantiable_spec wk
  have g5 : kt.isInterface = false := by simp only [Bool.or_eq_false_iff] at g4; exact g4.1
  exact selects_self_of_private g1 g2 g5 (Cond.privateMethod_at w3) wi hy
/-- the entry's class has the method itself, and it is no interface: a 'selects' word of another method of that class says so -/
theorem own_same {y y' z : MethodName} {C : String} (hy : y.cls ≠ "java/lang/invoke/MethodHandle" ∧ y.cls ≠ "java/lang/invoke/VarHandle") (hc : z.cls = y.cls) (ws : (Jvm.Cond.selects C y' z).before a0 Z = true) (wi : (Jvm.Cond.instanceMethod y).before a0 Z = true) : (Jvm.Cond.sameMethod y.cls y.cls y.name y.desc).before a0 Z = true := by
  obtain ⟨mk, methM, hnamed, -⟩ := Cond.instanceMethod_spec wi
  obtain ⟨c2, r2, m2, -, -, q3, -, kP, hkP, hkPi⟩ := Cond.selects_spec ws
  have f1 := findClass_of_methodNamed hnamed
  have f2 := findClass_of_methodNamed q3
  rw [hc] at f2
  have e : m2.cls = mk.cls := Option.some.inj (f2.symm.trans f1)
  have f3 : Z.methodFound? y.cls y.name y.desc = some mk := State.methodFound?_of_named hnamed hy
  have f4 : Z.methodNamed? (⟨y.cls, y.name, y.desc⟩ : MethodName) = some mk := hnamed
  rw [e] at hkP
  simp [Cond.before, Cond.holds, Cond.value, f1, f3, f4, hkP, hkPi]
theorem own_su (X : Stand p l e R s m args below meth c T locs cells slots) (hx : p.tables.exec = Jvm.exec) (hZ : Z.Warmed39 s.vm) {own C : String} {index : Nat} {y : MethodName} {bytes : ByteArray} {maxL : Nat} {ret : Option FieldType}
    (hown : s.vm.findClass own = some m.cls) (w1 : (Jvm.Cond.methodLink own index y).before a0 Z = true) (w2 : (Jvm.Cond.sameMethod y.cls y.cls y.name y.desc).before a0 Z = true) (w3 : (Jvm.Cond.instanceMethod y).before a0 Z = true) (w4 : (Jvm.Cond.superclass own y.cls).before a0 Z = true) (hn : y.name ≠ "<init>") (w5 : (Jvm.Cond.code y bytes maxL ret).before a0 Z = true)
    {W kc ks : Nat} {as' : Array Value} {Q : Option Value → Heap → List Loc → Prop}
    (hK : Back l R p e below s args y 3 W (fun A a => a = as' ∧ A.U.heap = h ∧ A.cells + kc ≤ R.cells ∧ A.slots + ks ≤ R.slots) (fun A _ v B => ∃ L, Q v B.U.heap L ∧ B.locs = A.locs ++ L ∧ B.cells = A.cells + kc ∧ B.slots = A.slots + ks))
    (eT : T.heap = h) {b : Addr} (E : Exa Z h b C) {g : JFrame} (hg : g.method = m) (hsize : g.locals.size = c.maxLocals) {argsL rest : List Value} (ha : (.ref b :: argsL).toArray = as') (hlen : ∀ sig, parseMethodDescriptor y.desc = some sig → argsL.length = sig.parameters.length)
    (hstack : g.stack = argsL.reverse ++ .ref b :: rest) (hW : 2 * g.monitorRoom + (rest.map fun v => v.category).sum ≤ W) (hdg : decode c.code g.pc = .ok (.invokespecial index, 3)) (hc : cells + kc ≤ R.cells) (hs : slots + ks ≤ R.slots) :
    ∃ (v : Option Value) (T' : State) (L : List Loc), Stand p l e R s m args below meth c T' (locs ++ L) (cells + kc) (slots + ks) ∧ Q v T'.heap L ∧ ∀ t, Steps p.tables e below (T'.setTop { g with pc := g.pc + 3, stack := v.toList ++ rest }) t → Steps p.tables e below (T.setTop g) t := by
  obtain ⟨v, vm₁, ⟨T', L', k', n'⟩, -, X', ⟨L, hq, hl, hk, hn'⟩, st⟩ := superBack X hx hZ hown w1 w2 w3 w4 hn hK eT (Ins.self E) hg hsize w5 hlen hstack hW hdg (fun _ _ => ⟨ha, eT, hc, hs⟩)
  dsimp only [Pt.U, Pt.locs, Pt.cells, Pt.slots] at X' hq hl hk hn' st
  subst hl hk hn'
  exact ⟨v, T', L, X', hq, fun _ k => st.trans k⟩
end Own

theorem own_sat_in : ∀ d ∈ Bundle.stringAtoms, d ∈ tables_1 := by decide +kernel
theorem own_sat {Z : State} {a0 : Array Value} (hw : ∀ d ∈ tables_1, d.before a0 Z = true) : ∀ d ∈ Bundle.stringAtoms, d.before a0 Z = true := fun d hd => hw d (own_sat_in d hd)
theorem own_i2c (x : Int32) : nar .char (x.toUInt32.toUInt16.toUInt32.toInt32) = x.toUInt32.toUInt16.toUInt32.toInt32 := by
  have a := c_i2c x
  have b := c_i2c (x.toUInt32.toUInt16.toUInt32.toInt32)
  apply Int32.toInt_inj.mp
  show ((x.toUInt32.toUInt16.toUInt32.toInt32).toUInt32.toUInt16.toUInt32.toInt32).toInt = _
  omega
theorem own_i2b (x : Int32) : nar .byte (x.toInt8.toInt32) = x.toInt8.toInt32 := by
  simp [nar]
theorem own_c255 (x : Int32) : ¬ (x &&& (255 : Int32)) < 0 ∧ ¬ (255 : Int32) < (x &&& (255 : Int32)) := by
  have a := c_and x 255 (by decide)
  have e : (255 : Int32).toInt = 255 := rfl
  have z : (0 : Int32).toInt = 0 := rfl
  rw [Int32.lt_iff_toInt_lt, Int32.lt_iff_toInt_lt]
  omega
theorem own_and255 (x : Int32) : ¬ ((x &&& (255 : Int32)).toUInt32.toUInt16.toUInt32.toInt32) < 0 ∧ ¬ (255 : Int32) < ((x &&& (255 : Int32)).toUInt32.toUInt16.toUInt32.toInt32) := by
  rw [i2c_mask]; exact own_c255 x
theorem own_narc {x : Int32} (h1 : ¬ x < (0 : Int32)) (h2 : ¬ (255 : Int32) < x) : nar .char x = x := by
  have a := c_i2c x
  have e : (255 : Int32).toInt = 255 := rfl
  have z : (0 : Int32).toInt = 0 := rfl
  rw [Int32.lt_iff_toInt_lt] at h1 h2
  apply Int32.toInt_inj.mp
  show x.toUInt32.toUInt16.toUInt32.toInt32.toInt = x.toInt
  omega
theorem own_one {x : Int32} (h1 : ¬ x < (0 : Int32)) (h2 : ¬ (255 : Int32) < x) : ∀ c ∈ ([x] : List Int32), ¬ c < 0 ∧ ¬ (255 : Int32) < c := fun c hc => by rw [List.mem_singleton.mp hc]; exact ⟨h1, h2⟩
/-- the String at a spells cs (Latin-1) -/
def own_Str (Z : State) (h : Heap) (a : Addr) (cs : List Int32) : Prop := ∃ (t : Addr) (kb : ClassId), Exa Z h a "java/lang/String" ∧ Fld Z h a "java/lang/String" "value" "[B" (.ref t) ∧ Fld Z h a "java/lang/String" "coder" "B" (.int 0) ∧ Arv Z h t kb .byte (Int32.ofNat cs.length) ((cs.map fun c => c.toInt8.toInt32).map Value.int) (.int 0) ∧ (∀ c ∈ cs, ¬ c < 0 ∧ ¬ (255 : Int32) < c) ∧ cs.length ≤ 4000
theorem own_Str_keep {Z : State} {h h' : Heap} {a : Addr} {cs : List Int32} (F : own_Str Z h a cs) (K : Keep h h' []) : own_Str Z h' a cs := by
  obtain ⟨t, kb, E, V, C, A, r⟩ := F
  exact ⟨t, kb, E.keep K, V.keep K nin0, C.keep K nin0, A.keep K nin0, r⟩
theorem own_up {cs : List Int32} (h : ∀ c ∈ cs, ¬ c < 0 ∧ ¬ (255 : Int32) < c) : ∀ c ∈ cs, ¬ c < 0 ∧ ¬ (65535 : Int32) < c := fun c hc => ⟨(h c hc).1, fun q => (h c hc).2 (by rw [Int32.lt_iff_toInt_lt] at q ⊢; have e1 : (65535 : Int32).toInt = 65535 := rfl; have e2 : (255 : Int32).toInt = 255 := rfl; omega)⟩
set_option maxRecDepth 65536 in
theorem own_hws_in : ∀ d ∈ StrChars.Road.words, d ∈ tables_1 := by decide +kernel
theorem own_hws {Z : State} {a0 : Array Value} (hw : ∀ d ∈ tables_1, d.before a0 Z = true) : ∀ d ∈ StrChars.Road.words, d.before a0 Z = true := fun d hd => hw d (own_hws_in d hd)
set_option maxRecDepth 65536 in
theorem own_heq_in : ∀ d ∈ StrChars.Road.wordsEq, d ∈ tables_1 := by decide +kernel
theorem own_heq {Z : State} {a0 : Array Value} (hw : ∀ d ∈ tables_1, d.before a0 Z = true) : ∀ d ∈ StrChars.Road.wordsEq, d.before a0 Z = true := fun d hd => hw d (own_heq_in d hd)
theorem own_Str_W {Z : State} {h : Heap} {a : Addr} {cs : List Int32} (F : own_Str Z h a cs) : ∃ (t : Addr) (kb : ClassId), Exa Z h a "java/lang/String" ∧ Fld Z h a "java/lang/String" "value" "[B" (.ref t) ∧ Fld Z h a "java/lang/String" "coder" "B" (.int 0) ∧ Arv Z h t kb .byte (Int32.ofNat cs.length) ((cs.map fun c => c.toInt8.toInt32).map Value.int) (.int 0) ∧ StrChars.Road.CodA cs 0 (Int32.ofNat cs.length) ((cs.map fun c => c.toInt8.toInt32).map Value.int) ∧ (∀ c ∈ cs, ¬ c < 0 ∧ ¬ (65535 : Int32) < c) ∧ cs.length ≤ 4000 := by
  obtain ⟨t, kb, E, V, C, A, b, n⟩ := F
  exact ⟨t, kb, E, V, C, A, StrChars.Road.codOf rfl (fun c hc => (b c hc).2), own_up b, n⟩
def own_012 (z : Int32) : Prop := z = 0 ∨ z = 1 ∨ z = 2
def own_cs (n x y : Int32) : List Int32 := if n = 0 then [] else if n = 1 then [x] else [x, y]
theorem own_cs0 {n x y : Int32} (h : n = (0 : Int32)) : own_cs n x y = ([] : List Int32) := by simp [own_cs, h]
theorem own_cs1 {n x y : Int32} (h0 : ¬ n = (0 : Int32)) (h : n = (1 : Int32)) : own_cs n x y = ([x] : List Int32) := by simp [own_cs, h]
theorem own_cs2 {n x y : Int32} (h0 : ¬ n = (0 : Int32)) (h : ¬ n = (1 : Int32)) : own_cs n x y = ([x, y] : List Int32) := by simp [own_cs, h0, h]
theorem own_s_n {n m x y u v : Int32} (hn : own_012 n) (hm : own_012 m) (h : ¬ n = m) : ¬ own_cs n x y = own_cs m u v := by
  rcases hn with rfl | rfl | rfl <;> rcases hm with rfl | rfl | rfl <;> first | exact absurd rfl h | simp [own_cs]
theorem own_s_x {n m x y u v : Int32} (hn : own_012 n) (h : n = m) (h1 : ¬ n < (1 : Int32)) (hx : ¬ x = u) : ¬ own_cs n x y = own_cs m u v := by
  subst h
  rcases hn with rfl | rfl | rfl
  · exact absurd (by decide) h1
  · simp [own_cs, hx]
  · simp [own_cs, hx]
theorem own_s_y {n m x y u v : Int32} (hn : own_012 n) (h : n = m) (h1 : ¬ n < (2 : Int32)) (hx : ¬ y = v) : ¬ own_cs n x y = own_cs m u v := by
  subst h
  rcases hn with rfl | rfl | rfl
  · exact absurd (by decide) h1
  · exact absurd (by decide) h1
  · simp [own_cs, hx]
theorem own_s_t {n m x y u v : Int32} (hn : own_012 n) (h : n = m) (h1 : n < (1 : Int32) ∨ x = u) (h2 : n < (2 : Int32) ∨ y = v) : own_cs n x y = own_cs m u v := by
  subst h
  rcases hn with rfl | rfl | rfl
  · rfl
  · rcases h1 with h1 | h1
    · exact absurd h1 (by decide)
    · simp [own_cs, h1]
  · rcases h1 with h1 | h1
    · exact absurd h1 (by decide)
    · rcases h2 with h2 | h2
      · exact absurd h2 (by decide)
      · simp [own_cs, h1, h2]
theorem own_len3 (x : Int32) : own_012 ((x &&& (3 : Int32)) % (3 : Int32)) := by
  have a := c_and x 3 (by decide)
  have e3 : (3 : Int32).toInt = 3 := rfl
  have c := (c_iremV (x &&& 3) 3).1 a.1 (by rw [e3]; decide)
  rw [e3] at c
  generalize (x &&& (3 : Int32)) % (3 : Int32) = z at c ⊢
  have t1 : (1 : Int32).toInt = 1 := rfl
  have t2 : (2 : Int32).toInt = 2 := rfl
  have t0 : (0 : Int32).toInt = 0 := rfl
  have h : z.toInt = 0 ∨ z.toInt = 1 ∨ z.toInt = 2 := by omega
  rcases h with h | h | h
  · exact Or.inl (Int32.toInt_inj.mp (by rw [h, t0]))
  · exact Or.inr (Or.inl (Int32.toInt_inj.mp (by rw [h, t1])))
  · exact Or.inr (Or.inr (Int32.toInt_inj.mp (by rw [h, t2])))
theorem own_nat8 {x : Int32} (h1 : ¬ x < (0 : Int32)) (h2 : ¬ (255 : Int32) < x) : x.toBitVec.toNat < 256 := by
  rw [Int32.lt_iff_toInt_lt] at h1 h2
  have e : (255 : Int32).toInt = 255 := rfl
  have z : (0 : Int32).toInt = 0 := rfl
  have q : x.toInt = x.toBitVec.toInt := rfl
  rw [e] at h2; rw [z] at h1; rw [q, BitVec.toInt_eq_toNat_cond] at h1 h2
  have := x.toBitVec.isLt
  split at h1 <;> omega
theorem own_xor {x y : Int32} (h1 : ¬ x < (0 : Int32)) (h2 : ¬ (255 : Int32) < x) (g1 : ¬ y < (0 : Int32)) (g2 : ¬ (255 : Int32) < y) : ¬ ((x ^^^ y).toUInt32.toUInt16.toUInt32.toInt32) < (0 : Int32) ∧ ¬ (255 : Int32) < ((x ^^^ y).toUInt32.toUInt16.toUInt32.toInt32) := by
  have hx := own_nat8 h1 h2
  have hy := own_nat8 g1 g2
  have hn : (x ^^^ y).toBitVec.toNat < 256 := by
    rw [Int32.toBitVec_xor, BitVec.toNat_xor]
    exact Nat.xor_lt_two_pow (n := 8) hx hy
  have e : (x ^^^ y) = (x ^^^ y) &&& (255 : Int32) := by
    apply Int32.toBitVec_inj.mp
    apply BitVec.eq_of_toNat_eq
    rw [Int32.toBitVec_and, BitVec.toNat_and]
    show _ = _ &&& 255
    rw [Nat.and_two_pow_sub_one_eq_mod _ 8, Nat.mod_eq_of_lt hn]
  rw [e]
  exact own_and255 _

abbrev own_EL : List (String × Nat) := [("com/example/hatoyama/hatoyama/ObjectMethodEqualsPinLaw", 7)]
theorem own_hEL {Z : State} {a0 : Array Value} (hw : ∀ d ∈ tables_1, d.before a0 Z = true) : EW Z a0 own_EL := (EW.cons (ow hw 10 rfl) (by decide) EW.nil)
theorem own_d0_0 : decode method_2_code 0 = .ok (.iload_n 0, 1) := by decide +kernel
theorem own_d0_1 : decode method_2_code 1 = .ok (.bipush 16, 2) := by decide +kernel
theorem own_d0_3 : decode method_2_code 3 = .ok (.iushr, 1) := by decide +kernel
theorem own_d0_4 : decode method_2_code 4 = .ok (.iconst 3, 1) := by decide +kernel
theorem own_d0_5 : decode method_2_code 5 = .ok (.iand, 1) := by decide +kernel
theorem own_d0_6 : decode method_2_code 6 = .ok (.iconst 3, 1) := by decide +kernel
theorem own_d0_7 : decode method_2_code 7 = .ok (.irem, 1) := by decide +kernel
theorem own_d0_8 : decode method_2_code 8 = .ok (.ireturn, 1) := by decide +kernel
theorem own_pn0 : plainName "com/example/hatoyama/hatoyama/ObjectMethodEqualsPinLaw" = true := by decide +kernel
set_option maxHeartbeats 4000000 in
theorem own_ef_rm0 (m : MethodId) (x0 : Int32) : entryFrame m #[(.int x0)] 1 = mkF m 0 #[.val (.int x0)] [] := by rfl
set_option maxRecDepth 65536 in
set_option maxHeartbeats 40000000 in
theorem rm0 (l : Launch) (Z : State) (a0 : Array Value) (hw : ∀ d ∈ tables_1, d.before a0 Z = true) (z0 : Int32) (O2 : Sta Z Z.heap "java/lang/String" "COMPACT_STRINGS" "Z" (.int z0)) (P5 : ¬ z0 = (0 : Int32)) (ws : List Jvm.Cond) (q : Int32) (h0 : Heap) (n0 : Nat) (Z0 : n0 ≤ h0.size) :
    own_MetN l Z (⟨"com/example/hatoyama/hatoyama/ObjectMethodEqualsPinLaw", "len", "(I)I"⟩ : MethodName) method_2_code 1 (some .int) ws ({ frames := 0, cells := 0, slots := 0, locals := 0 } : Room) #[(.int q)] h0 (fun v h L => Fr n0 L ∧ h = h0 ∧ ((∃ (z : Int32), (v = some (.int z)) ∧ (own_012 z)))) := by
  refine own_metN (plainFor_of_name own_pn0) ?_
  intro p e s m below meth c s₁ G hx hby hml hZ hown hnm hret X0 e0 go fin
  have N0 := Fr.nil n0
  refine go _ _ (fun _ k => castTop (own_ef_rm0 m q) k) ?_
  show G (s₁.setTop (mkF m 0 #[.val (.int q)] []))
  refine go _ _ (fun _ k => XS.iloadN X0.here hx rfl (hb hby own_d0_0) rfl (XS.bipush X0.here hx rfl (hb hby own_d0_1) (XS.iushr X0.here hx rfl (hb hby own_d0_3) rfl (XS.iconst X0.here hx rfl (hb hby own_d0_4) (XS.iand X0.here hx rfl (hb hby own_d0_5) rfl (XS.iconst X0.here hx rfl (hb hby own_d0_6) k)))))) ?_
  show G (s₁.setTop (mkF m 7 #[.val (.int q)] [(.int (3 : Int32)), (.int (((q.toUInt32 >>> ((16 : Int32) &&& 31).toUInt32).toInt32) &&& (3 : Int32)))]))
  refine go _ _ (fun _ k => iremM X0 hx rfl (hb hby own_d0_7) rfl (by decide) k) ?_
  show G (s₁.setTop (mkF m 8 #[.val (.int q)] [(.int ((((q.toUInt32 >>> ((16 : Int32) &&& 31).toUInt32).toInt32) &&& (3 : Int32)) % (3 : Int32)))]))
  refine fin s₁ _ _ _ (some (.int ((((q.toUInt32 >>> ((16 : Int32) &&& 31).toUInt32).toInt32) &&& (3 : Int32)) % (3 : Int32)))) X0 (fun q => nomatch q) (by decide) (by decide) (by rw [e0]; exact ⟨N0, rfl, ⟨((((q.toUInt32 >>> ((16 : Int32) &&& 31).toUInt32).toInt32) &&& (3 : Int32)) % (3 : Int32)), rfl, (own_len3 _)⟩⟩) _ (own_retI X0 hx hret (hb hby own_d0_8))
theorem own_d1_0 : decode method_3_code 0 = .ok (.iload_n 0, 1) := by decide +kernel
theorem own_d1_1 : decode method_3_code 1 = .ok (.iload_n 1, 1) := by decide +kernel
theorem own_d1_2 : decode method_3_code 2 = .ok (.iushr, 1) := by decide +kernel
theorem own_d1_3 : decode method_3_code 3 = .ok (.sipush 255, 3) := by decide +kernel
theorem own_d1_6 : decode method_3_code 6 = .ok (.iand, 1) := by decide +kernel
theorem own_d1_7 : decode method_3_code 7 = .ok (.i2c, 1) := by decide +kernel
theorem own_d1_8 : decode method_3_code 8 = .ok (.ireturn, 1) := by decide +kernel
set_option maxHeartbeats 4000000 in
theorem own_ef_rm1 (m : MethodId) (x0 : Int32) (x1 : Int32) : entryFrame m #[(.int x0), (.int x1)] 2 = mkF m 0 #[.val (.int x0), .val (.int x1)] [] := by rfl
set_option maxRecDepth 65536 in
set_option maxHeartbeats 40000000 in
theorem rm1 (l : Launch) (Z : State) (a0 : Array Value) (hw : ∀ d ∈ tables_1, d.before a0 Z = true) (z0 : Int32) (O2 : Sta Z Z.heap "java/lang/String" "COMPACT_STRINGS" "Z" (.int z0)) (P5 : ¬ z0 = (0 : Int32)) (ws : List Jvm.Cond) (q : Int32) (sh : Int32) (h0 : Heap) (n0 : Nat) (Z0 : n0 ≤ h0.size) :
    own_MetN l Z (⟨"com/example/hatoyama/hatoyama/ObjectMethodEqualsPinLaw", "ch", "(II)C"⟩ : MethodName) method_3_code 2 (some .char) ws ({ frames := 0, cells := 0, slots := 0, locals := 0 } : Room) #[(.int q), (.int sh)] h0 (fun v h L => Fr n0 L ∧ h = h0 ∧ ((∃ (z : Int32), (v = some (.int z)) ∧ (¬ z < (0 : Int32)) ∧ (¬ (255 : Int32) < z)))) := by
  refine own_metN (plainFor_of_name own_pn0) ?_
  intro p e s m below meth c s₁ G hx hby hml hZ hown hnm hret X0 e0 go fin
  have N0 := Fr.nil n0
  refine go _ _ (fun _ k => castTop (own_ef_rm1 m q sh) k) ?_
  show G (s₁.setTop (mkF m 0 #[.val (.int q), .val (.int sh)] []))
  refine go _ _ (fun _ k => XS.iloadN X0.here hx rfl (hb hby own_d1_0) rfl (XS.iloadN X0.here hx rfl (hb hby own_d1_1) rfl (XS.iushr X0.here hx rfl (hb hby own_d1_2) rfl (XS.sipush X0.here hx rfl (hb hby own_d1_3) (XS.iand X0.here hx rfl (hb hby own_d1_6) rfl (XS.i2c X0.here hx rfl (hb hby own_d1_7) rfl k)))))) ?_
  show G (s₁.setTop (mkF m 8 #[.val (.int q), .val (.int sh)] [(.int ((((q.toUInt32 >>> (sh &&& 31).toUInt32).toInt32) &&& (255 : Int32)).toUInt32.toUInt16.toUInt32.toInt32))]))
  refine fin s₁ _ _ _ (some (.int (nar .char ((((q.toUInt32 >>> (sh &&& 31).toUInt32).toInt32) &&& (255 : Int32)).toUInt32.toUInt16.toUInt32.toInt32)))) X0 (fun q => nomatch q) (by decide) (by decide) (by rw [e0]; exact ⟨N0, rfl, ⟨((((q.toUInt32 >>> (sh &&& 31).toUInt32).toInt32) &&& (255 : Int32)).toUInt32.toUInt16.toUInt32.toInt32), (congrArg (fun z => some (Value.int z)) (own_i2c (((q.toUInt32 >>> (sh &&& 31).toUInt32).toInt32) &&& (255 : Int32)))), (own_and255 _).1, (own_and255 _).2⟩⟩) _ (own_retN X0 hx (z := ((((q.toUInt32 >>> (sh &&& 31).toUInt32).toInt32) &&& (255 : Int32)).toUInt32.toUInt16.toUInt32.toInt32)) (t := .char) hret (by simp) (hb hby own_d1_8))
theorem own_d15_0 : decode jdk_43_method_3_code 0 = .ok (.iload_n 0, 1) := by decide +kernel
theorem own_d15_1 : decode jdk_43_method_3_code 1 = .ok (.sipush 255, 3) := by decide +kernel
theorem own_d15_4 : decode jdk_43_method_3_code 4 = .ok (.if_icmp .gt 7, 3) := by decide +kernel
theorem own_d15_7 : decode jdk_43_method_3_code 7 = .ok (.iconst 1, 1) := by decide +kernel
theorem own_d15_8 : decode jdk_43_method_3_code 8 = .ok (.goto 4, 3) := by decide +kernel
theorem own_d15_11 : decode jdk_43_method_3_code 11 = .ok (.iconst 0, 1) := by decide +kernel
theorem own_d15_12 : decode jdk_43_method_3_code 12 = .ok (.ireturn, 1) := by decide +kernel
theorem own_pn1 : plainName "java/lang/StringLatin1" = true := by decide +kernel
set_option maxHeartbeats 4000000 in
theorem own_ef_rm15 (m : MethodId) (x0 : Int32) : entryFrame m #[(.int x0)] 1 = mkF m 0 #[.val (.int x0)] [] := by rfl
set_option maxRecDepth 65536 in
set_option maxHeartbeats 40000000 in
theorem rm15 (l : Launch) (Z : State) (a0 : Array Value) (hw : ∀ d ∈ tables_1, d.before a0 Z = true) (z0 : Int32) (O2 : Sta Z Z.heap "java/lang/String" "COMPACT_STRINGS" "Z" (.int z0)) (P5 : ¬ z0 = (0 : Int32)) (ws : List Jvm.Cond) (q : Int32) (h0 : Heap) (n0 : Nat) (Z0 : n0 ≤ h0.size) (h2 : ¬ (255 : Int32) < q) :
    own_MetN l Z (⟨"java/lang/StringLatin1", "canEncode", "(C)Z"⟩ : MethodName) jdk_43_method_3_code 1 (some .boolean) ws ({ frames := 0, cells := 0, slots := 0, locals := 0 } : Room) #[(.int q)] h0 (fun v h L => Fr n0 L ∧ h = h0 ∧ (((v = some (.int (1 : Int32)))))) := by
  refine own_metN (plainFor_of_name own_pn1) ?_
  intro p e s m below meth c s₁ G hx hby hml hZ hown hnm hret X0 e0 go fin
  have N0 := Fr.nil n0
  refine go _ _ (fun _ k => castTop (own_ef_rm15 m q) k) ?_
  show G (s₁.setTop (mkF m 0 #[.val (.int q)] []))
  refine go _ _ (fun _ k => XS.iloadN X0.here hx rfl (hb hby own_d15_0) rfl (XS.sipush X0.here hx rfl (hb hby own_d15_1) k)) ?_
  show G (s₁.setTop (mkF m 4 #[.val (.int q)] [(.int (255 : Int32)), (.int q)]))
  refine go _ _ (fun _ k => XS.icmpNo X0.here hx rfl (hb hby own_d15_4) rfl (flt h2).2.2.1 k) ?_
  show G (s₁.setTop (mkF m 7 #[.val (.int q)] []))
  refine go _ _ (fun _ k => XS.iconst X0.here hx rfl (hb hby own_d15_7) k) ?_
  show G (s₁.setTop (mkF m 8 #[.val (.int q)] [(.int (1 : Int32))]))
  refine go _ _ (fun _ k => XS.goto X0.here hx rfl (pc0 := 8) (pc' := 12) rfl (hb hby own_d15_8) (by decide) (by decide) k) ?_
  show G (s₁.setTop (mkF m 12 #[.val (.int q)] [(.int (1 : Int32))]))
  refine fin s₁ _ _ _ (some (.int (1 : Int32))) X0 (fun q => nomatch q) (by decide) (by decide) (by rw [e0]; exact ⟨N0, rfl, rfl⟩) _ (own_retN X0 hx (z := (1 : Int32)) (t := .boolean) hret (by simp) (hb hby own_d15_12))
theorem own_d16_0 : decode jdk_43_method_46_code 0 = .ok (.iconst 1, 1) := by decide +kernel
theorem own_d16_1 : decode jdk_43_method_46_code 1 = .ok (.newarray .byte, 2) := by decide +kernel
theorem own_d16_3 : decode jdk_43_method_46_code 3 = .ok (.dup, 1) := by decide +kernel
theorem own_d16_4 : decode jdk_43_method_46_code 4 = .ok (.iconst 0, 1) := by decide +kernel
theorem own_d16_5 : decode jdk_43_method_46_code 5 = .ok (.iload_n 0, 1) := by decide +kernel
theorem own_d16_6 : decode jdk_43_method_46_code 6 = .ok (.i2b, 1) := by decide +kernel
theorem own_d16_7 : decode jdk_43_method_46_code 7 = .ok (.bastore, 1) := by decide +kernel
theorem own_d16_8 : decode jdk_43_method_46_code 8 = .ok (.areturn, 1) := by decide +kernel
set_option maxHeartbeats 4000000 in
theorem own_ef_rm16 (m : MethodId) (x0 : Int32) : entryFrame m #[(.int x0)] 1 = mkF m 0 #[.val (.int x0)] [] := by rfl
set_option maxRecDepth 65536 in
set_option maxHeartbeats 40000000 in
theorem rm16 (l : Launch) (Z : State) (a0 : Array Value) (hw : ∀ d ∈ tables_1, d.before a0 Z = true) (z0 : Int32) (O2 : Sta Z Z.heap "java/lang/String" "COMPACT_STRINGS" "Z" (.int z0)) (P5 : ¬ z0 = (0 : Int32)) (ws : List Jvm.Cond) (q : Int32) (h0 : Heap) (n0 : Nat) (Z0 : n0 ≤ h0.size) :
    own_MetN l Z (⟨"java/lang/StringLatin1", "toBytes", "(C)[B"⟩ : MethodName) jdk_43_method_46_code 1 (some (.array .byte)) ws ({ frames := 0, cells := 1, slots := 1, locals := 0 } : Room) #[(.int q)] h0 (fun v h L => Fr n0 L ∧ Keep h0 h [] ∧ ((∃ (b : Addr) (kb : ClassId), (v = some (.ref b)) ∧ (h0.size ≤ b) ∧ (Arv Z h b kb .byte (1 : Int32) [(.int (q.toInt8.toInt32))] (.int (0 : Int32)))))) := by
  refine own_metN (plainFor_of_name own_pn1) ?_
  intro p e s m below meth c s₁ G hx hby hml hZ hown hnm hret X0 e0 go fin
  have N0 := Fr.nil n0
  refine go _ _ (fun _ k => castTop (own_ef_rm16 m q) k) ?_
  show G (s₁.setTop (mkF m 0 #[.val (.int q)] []))
  refine go _ _ (fun _ k => XS.iconst X0.here hx rfl (hb hby own_d16_0) k) ?_
  show G (s₁.setTop (mkF m 1 #[.val (.int q)] [(.int (1 : Int32))]))
  obtain ⟨T101, h101, k101, X101, e101, E101, A101, st101⟩ := newP X0 hx hZ (ow hw 13 rfl) e0 (g := (mkF m 1 #[.val (.int q)] [(.int (1 : Int32))])) rfl (hb hby own_d16_1) rfl (by decide) (cap := 1) (by decide) (by decide) (by decide) (by decide)
  obtain ⟨b101, g101⟩ : ∃ z, z = h0.size := ⟨_, rfl⟩
  rw [← g101] at A101 st101
  have V101 : Arv Z h101 b101 k101 .byte (1 : Int32) [(.int (0 : Int32))] (.int (0 : Int32)) := (Arv.new A101 (by decide)).pad (pad_rep [] (.int (0 : Int32)) 1)
  refine go _ _ (st101) ?_
  show G (T101.setTop (mkF m 3 #[.val (.int q)] [(.ref b101)]))
  refine go _ _ (fun _ k => XS.dup X101.here hx rfl (hb hby own_d16_3) rfl rfl (XS.iconst X101.here hx rfl (hb hby own_d16_4) (XS.iloadN X101.here hx rfl (hb hby own_d16_5) rfl (XS.i2b X101.here hx rfl (hb hby own_d16_6) rfl k)))) ?_
  show G (T101.setTop (mkF m 7 #[.val (.int q)] [(.int (q.toInt8.toInt32)), (.int (0 : Int32)), (.ref b101), (.ref b101)]))
  obtain ⟨cl102, Ar102, q102, S102, M102, H102, U102⟩ := id V101
  obtain ⟨T102, h102, X102, e102, W102, st102⟩ := stB X101 hx hZ e101 Ar102 (j := (0 : Int32)) (inb_of S102 ⟨by decide, by decide⟩) (g := (mkF m 7 #[.val (.int q)] [(.int (q.toInt8.toInt32)), (.int (0 : Int32)), (.ref b101), (.ref b101)])) rfl rfl (hb hby own_d16_7)
  have V102 : Arv Z h102 b101 k101 .byte (1 : Int32) [(.int (nar .byte (q.toInt8.toInt32)))] (.int (0 : Int32)) := Arv.set Ar102 q102 S102 M102 H102 U102 (fits_nar_byte _) W102 0 rfl (Nat.le_of_ble_eq_true rfl)
  rw [(own_i2b q)] at V102
  have N102 := Fr.snoc X102 N0 (Nat.le_trans Z0 (Nat.le_of_eq g101.symm))
  refine go _ _ (st102) ?_
  show G (T102.setTop (mkF m 8 #[.val (.int q)] [(.ref b101)]))
  have K103 : Keep h0 h101 [] := (Keep.refl h0 []).ext E101
  have K104 : Keep h0 h102 [] := K103.wr W102 (Or.inr (Nat.le_of_eq g101.symm))
  refine fin T102 _ _ _ (some (.ref b101)) X102 (fun q => nomatch q) (by decide) (by decide) (by rw [e102]; exact ⟨N102, K104, ⟨b101, k101, rfl, (Nat.le_of_eq g101.symm), V102⟩⟩) _ (own_retA X102 hx hret rfl rfl rfl (hb hby own_d16_8))
theorem own_d17_0 : decode jdk_42_method_151_code 0 = .ok (.aload_n 0, 1) := by decide +kernel
theorem own_d17_1 : decode jdk_42_method_151_code 1 = .ok (.invokespecial 1, 3) := by decide +kernel
theorem own_d17_4 : decode jdk_42_method_151_code 4 = .ok (.aload_n 0, 1) := by decide +kernel
theorem own_d17_5 : decode jdk_42_method_151_code 5 = .ok (.aload_n 1, 1) := by decide +kernel
theorem own_d17_6 : decode jdk_42_method_151_code 6 = .ok (.putfield 9, 3) := by decide +kernel
theorem own_d17_9 : decode jdk_42_method_151_code 9 = .ok (.aload_n 0, 1) := by decide +kernel
theorem own_d17_10 : decode jdk_42_method_151_code 10 = .ok (.iload_n 2, 1) := by decide +kernel
theorem own_d17_11 : decode jdk_42_method_151_code 11 = .ok (.putfield 15, 3) := by decide +kernel
theorem own_d17_14 : decode jdk_42_method_151_code 14 = .ok (.return_, 1) := by decide +kernel
theorem own_pn2 : plainName "java/lang/String" = true := by decide +kernel
set_option maxHeartbeats 4000000 in
theorem own_ef_rm17 (m : MethodId) (x0 : Addr) (x1 : Addr) (x2 : Int32) : entryFrame m #[(.ref x0), (.ref x1), (.int x2)] 3 = mkF m 0 #[.val (.ref x0), .val (.ref x1), .val (.int x2)] [] := by rfl
set_option maxRecDepth 65536 in
set_option maxHeartbeats 40000000 in
theorem rm17 (l : Launch) (Z : State) (a0 : Array Value) (hw : ∀ d ∈ tables_1, d.before a0 Z = true) (z0 : Int32) (O2 : Sta Z Z.heap "java/lang/String" "COMPACT_STRINGS" "Z" (.int z0)) (P5 : ¬ z0 = (0 : Int32)) (ws : List Jvm.Cond) (a : Addr) (b : Addr) (h0 : Heap) (n0 : Nat) (Z0 : n0 ≤ h0.size) (Ea : Exa Z h0 a "java/lang/String") (Fv : Fld Z h0 a "java/lang/String" "value" "[B" .null) (Fc : Fld Z h0 a "java/lang/String" "coder" "B" (.int (0 : Int32))) (gz_a : n0 ≤ a) :
    own_MetN l Z (⟨"java/lang/String", "<init>", "([BB)V"⟩ : MethodName) jdk_42_method_151_code 3 none ws ({ frames := 1, cells := 0, slots := 0, locals := 12 } : Room) #[(.ref a), (.ref b), (.int (0 : Int32))] h0 (fun v h L => Fr n0 L ∧ Keep h0 h [a] ∧ (((v = none) ∧ (Exa Z h a "java/lang/String") ∧ (Fld Z h a "java/lang/String" "value" "[B" (.ref b)) ∧ (Fld Z h a "java/lang/String" "coder" "B" (.int (0 : Int32)))))) := by
  refine own_metN (plainFor_of_name own_pn2) ?_
  intro p e s m below meth c s₁ G hx hby hml hZ hown hnm hret X0 e0 go fin
  have N0 := Fr.nil n0
  refine go _ _ (fun _ k => castTop (own_ef_rm17 m a b (0 : Int32)) k) ?_
  show G (s₁.setTop (mkF m 0 #[.val (.ref a), .val (.ref b), .val (.int (0 : Int32))] []))
  refine go _ _ (fun _ k => XS.aloadN X0.here hx rfl (hb hby own_d17_0) rfl rfl k) ?_
  show G (s₁.setTop (mkF m 1 #[.val (.ref a), .val (.ref b), .val (.int (0 : Int32))] [(.ref a)]))
  obtain ⟨T101, X101, e101, st101⟩ := initO X0 hx hZ hown (ow hw 62 rfl) (ow hw 25 rfl) (ow hw 26 rfl) e0 (g := (mkF m 1 #[.val (.ref a), .val (.ref b), .val (.int (0 : Int32))] [(.ref a)])) rfl (by rw [hml]; rfl) rfl (hb hby own_d17_1) (by decide) (W := 0) (by show 2 * 0 + _ ≤ _; exact Nat.le_of_eq rfl) (by decide)
  refine go _ _ (st101) ?_
  show G (T101.setTop (mkF m 4 #[.val (.ref a), .val (.ref b), .val (.int (0 : Int32))] []))
  refine go _ _ (fun _ k => XS.aloadN X101.here hx rfl (hb hby own_d17_4) rfl rfl (XS.aloadN X101.here hx rfl (hb hby own_d17_5) rfl rfl k)) ?_
  show G (T101.setTop (mkF m 6 #[.val (.ref a), .val (.ref b), .val (.int (0 : Int32))] [(.ref b), (.ref a)]))
  obtain ⟨T102, h102, X102, e102, W102, st102⟩ := putF X101 hx hZ hown (host := "") (Or.inl (ow hw 75 rfl)) Via.refl e101 Fv Ea (Or.inr ⟨(ow hw 14 rfl), rfl, hnm⟩) (ow hw 12 rfl) (ty := (.array .byte)) (by decide) rfl rfl (g := (mkF m 6 #[.val (.ref a), .val (.ref b), .val (.int (0 : Int32))] [(.ref b), (.ref a)])) rfl rfl (hb hby own_d17_6)
  have N102 := Fr.snoc X102 N0 gz_a
  refine go _ _ (st102) ?_
  show G (T102.setTop (mkF m 9 #[.val (.ref a), .val (.ref b), .val (.int (0 : Int32))] []))
  refine go _ _ (fun _ k => XS.aloadN X102.here hx rfl (hb hby own_d17_9) rfl rfl (XS.iloadN X102.here hx rfl (hb hby own_d17_10) rfl k)) ?_
  show G (T102.setTop (mkF m 11 #[.val (.ref a), .val (.ref b), .val (.int (0 : Int32))] [(.int (0 : Int32)), (.ref a)]))
  obtain ⟨T103, h103, X103, e103, W103, st103⟩ := putF X102 hx hZ hown (host := "") (Or.inl (ow hw 74 rfl)) Via.refl e102 (Fc.other W102 (Or.inr (RoadKit.slot_ne (t := .byte) (t' := (.array .byte)) (Or.inr (ow hw 15 rfl)) (Or.inr (ow hw 14 rfl)) (by decide) (by decide) (by decide)))) (Ea.wr W102) (Or.inr ⟨(ow hw 15 rfl), rfl, hnm⟩) (ow hw 12 rfl) (ty := .byte) (by decide) rfl rfl (g := (mkF m 11 #[.val (.ref a), .val (.ref b), .val (.int (0 : Int32))] [(.int (0 : Int32)), (.ref a)])) rfl rfl (hb hby own_d17_11)
  have N103 := Fr.snoc X103 N102 gz_a
  refine go _ _ (st103) ?_
  show G (T103.setTop (mkF m 14 #[.val (.ref a), .val (.ref b), .val (.int (0 : Int32))] []))
  have K104 : Keep h0 h102 [a] := (Keep.refl h0 [a]).wr W102 (Or.inl (List.mem_of_getElem? (i := 0) rfl))
  have K105 : Keep h0 h103 [a] := K104.wr W103 (Or.inl (List.mem_of_getElem? (i := 0) rfl))
  refine fin T103 _ _ _ none X103 (fun _ => rfl) (by decide) (by decide) (by rw [e103]; exact ⟨N103, K105, ⟨rfl, ((Ea.wr W102).wr W103), ((Fv.same W102).other W103 (Or.inr (RoadKit.slot_ne (t := (.array .byte)) (t' := .byte) (Or.inr (ow hw 14 rfl)) (Or.inr (ow hw 15 rfl)) (by decide) (by decide) (by decide)))), ((Fc.other W102 (Or.inr (RoadKit.slot_ne (t := .byte) (t' := (.array .byte)) (Or.inr (ow hw 15 rfl)) (Or.inr (ow hw 14 rfl)) (by decide) (by decide) (by decide)))).same W103)⟩⟩) _ (own_retV X103 hx hret (hb hby own_d17_14))
theorem own_d14_0 : decode jdk_42_method_139_code 0 = .ok (.getstatic 38, 3) := by decide +kernel
theorem own_d14_3 : decode jdk_42_method_139_code 3 = .ok (.ifCond .eq 23, 3) := by decide +kernel
theorem own_d14_6 : decode jdk_42_method_139_code 6 = .ok (.iload_n 0, 1) := by decide +kernel
theorem own_d14_7 : decode jdk_42_method_139_code 7 = .ok (.invokestatic 1015, 3) := by decide +kernel
theorem own_d14_10 : decode jdk_42_method_139_code 10 = .ok (.ifCond .eq 16, 3) := by decide +kernel
theorem own_d14_13 : decode jdk_42_method_139_code 13 = .ok (.new 10, 3) := by decide +kernel
theorem own_d14_16 : decode jdk_42_method_139_code 16 = .ok (.dup, 1) := by decide +kernel
theorem own_d14_17 : decode jdk_42_method_139_code 17 = .ok (.iload_n 0, 1) := by decide +kernel
theorem own_d14_18 : decode jdk_42_method_139_code 18 = .ok (.invokestatic 1018, 3) := by decide +kernel
theorem own_d14_21 : decode jdk_42_method_139_code 21 = .ok (.iconst 0, 1) := by decide +kernel
theorem own_d14_22 : decode jdk_42_method_139_code 22 = .ok (.invokespecial 209, 3) := by decide +kernel
theorem own_d14_25 : decode jdk_42_method_139_code 25 = .ok (.areturn, 1) := by decide +kernel
theorem own_d14_26 : decode jdk_42_method_139_code 26 = .ok (.new 10, 3) := by decide +kernel
theorem own_d14_29 : decode jdk_42_method_139_code 29 = .ok (.dup, 1) := by decide +kernel
theorem own_d14_30 : decode jdk_42_method_139_code 30 = .ok (.iload_n 0, 1) := by decide +kernel
theorem own_d14_31 : decode jdk_42_method_139_code 31 = .ok (.invokestatic 1021, 3) := by decide +kernel
theorem own_d14_34 : decode jdk_42_method_139_code 34 = .ok (.iconst 1, 1) := by decide +kernel
theorem own_d14_35 : decode jdk_42_method_139_code 35 = .ok (.invokespecial 209, 3) := by decide +kernel
theorem own_d14_38 : decode jdk_42_method_139_code 38 = .ok (.areturn, 1) := by decide +kernel
theorem own_pd0 : parseMethodDescriptor "(C)Z" = some ⟨[.char], some .boolean⟩ := by decide +kernel
theorem own_pd1 : parseMethodDescriptor "(C)[B" = some ⟨[.char], some (.array .byte)⟩ := by decide +kernel
theorem own_pd2 : parseMethodDescriptor "([BB)V" = some ⟨[(.array .byte), .byte], none⟩ := by decide +kernel
set_option maxHeartbeats 4000000 in
theorem own_ef_rm14 (m : MethodId) (x0 : Int32) : entryFrame m #[(.int x0)] 1 = mkF m 0 #[.val (.int x0)] [] := by rfl
set_option maxRecDepth 65536 in
set_option maxHeartbeats 40000000 in
theorem rm14 (l : Launch) (Z : State) (a0 : Array Value) (hw : ∀ d ∈ tables_1, d.before a0 Z = true) (z0 : Int32) (O2 : Sta Z Z.heap "java/lang/String" "COMPACT_STRINGS" "Z" (.int z0)) (P5 : ¬ z0 = (0 : Int32)) (ws : List Jvm.Cond) (q : Int32) (h0 : Heap) (n0 : Nat) (Z0 : n0 ≤ h0.size) (Xo : Old Z n0 h0) (h1 : ¬ q < (0 : Int32)) (h2 : ¬ (255 : Int32) < q) :
    own_MetN l Z (⟨"java/lang/String", "valueOf", "(C)Ljava/lang/String;"⟩ : MethodName) jdk_42_method_139_code 1 (some (.object "java/lang/String")) ws ({ frames := 2, cells := 2, slots := 5, locals := 27 } : Room) #[(.int q)] h0 (fun v h L => Fr n0 L ∧ Keep h0 h [] ∧ ((∃ (b : Addr), (v = some (.ref b)) ∧ (h0.size ≤ b) ∧ (Exa Z h b "java/lang/String") ∧ (own_Str Z h b ([q] : List Int32))))) := by
  refine own_metN (plainFor_of_name own_pn2) ?_
  intro p e s m below meth c s₁ G hx hby hml hZ hown hnm hret X0 e0 go fin
  have N0 := Fr.nil n0
  refine go _ _ (fun _ k => castTop (own_ef_rm14 m q) k) ?_
  show G (s₁.setTop (mkF m 0 #[.val (.int q)] []))
  obtain ⟨T101, X101, e101, st101⟩ := getS2 X0 hx hZ (host := "") hown (Or.inl (ow hw 63 rfl)) Via.refl e0 (O2.ext Xo.2) (g := (mkF m 0 #[.val (.int q)] [])) rfl (hb hby own_d14_0)
  refine go _ _ (st101) ?_
  show G (T101.setTop (mkF m 3 #[.val (.int q)] [(.int z0)]))
  refine go _ _ (fun _ k => XS.ifNo X101.here hx rfl (hb hby own_d14_3) rfl ((if0 _ _).trans (feq P5).1) k) ?_
  show G (T101.setTop (mkF m 6 #[.val (.int q)] []))
  refine go _ _ (fun _ k => XS.iloadN X101.here hx rfl (hb hby own_d14_6) rfl k) ?_
  show G (T101.setTop (mkF m 7 #[.val (.int q)] [(.int q)]))
  obtain ⟨rv102, T102, L102, X102, q102, st102⟩ := own_st X101 hx hZ (y := (⟨"java/lang/StringLatin1", "canEncode", "(C)Z"⟩ : MethodName)) hown (ow hw 79 rfl) (ow hw 80 rfl) (ow hw 81 rfl) (ow hw 82 rfl) (by decide) (own_bkN (W := 0) (rm15 l Z a0 hw z0 O2 P5 [] q h0 n0 Z0 h2) hZ (ow hw 82 rfl) (ow hw 81 rfl) (by decide) (by decide)) e101 (g := (mkF m 7 #[.val (.int q)] [(.int q)])) rfl (by rw [hml]; rfl) (argsL := [(.int q)]) (rest := []) rfl (lenOf own_pd0 rfl) rfl (by show 2 * 0 + _ ≤ _; exact Nat.le_of_eq rfl) (hb hby own_d14_7) (by decide) (by decide)
  obtain ⟨Nq102, e102, rfl⟩ := q102
  have N102 := Fr.app N0 Nq102
  refine go _ _ (st102) ?_
  show G (T102.setTop (mkF m 10 #[.val (.int q)] [(.int (1 : Int32))]))
  refine go _ _ (fun _ k => XS.ifNo X102.here hx rfl (hb hby own_d14_10) rfl (by decide) k) ?_
  show G (T102.setTop (mkF m 13 #[.val (.int q)] []))
  obtain ⟨T103, h103, X103, e103, E103, A103, D103, -, st103⟩ := newO X102 hx hZ hown (ow hw 83 rfl) (ow hw 12 rfl) (ow hw 11 rfl) e102 (g := (mkF m 13 #[.val (.int q)] [])) rfl (hb hby own_d14_13) (by decide) (by decide)
  obtain ⟨b103, g103⟩ : ∃ z, z = h0.size := ⟨_, rfl⟩
  rw [← g103] at A103 D103 st103
  refine go _ _ (st103) ?_
  show G (T103.setTop (mkF m 16 #[.val (.int q)] [(.ref b103)]))
  refine go _ _ (fun _ k => XS.dup X103.here hx rfl (hb hby own_d14_16) rfl rfl (XS.iloadN X103.here hx rfl (hb hby own_d14_17) rfl k)) ?_
  show G (T103.setTop (mkF m 18 #[.val (.int q)] [(.int q), (.ref b103), (.ref b103)]))
  have Z105 : h0.size ≤ h103.size := E103.1
  obtain ⟨rv104, T104, L104, X104, q104, st104⟩ := own_st X103 hx hZ (y := (⟨"java/lang/StringLatin1", "toBytes", "(C)[B"⟩ : MethodName)) hown (ow hw 84 rfl) (ow hw 85 rfl) (ow hw 81 rfl) (ow hw 86 rfl) (by decide) (own_bkN (W := 2) (rm16 l Z a0 hw z0 O2 P5 [] q h103 n0 (Nat.le_trans Z0 Z105)) hZ (ow hw 86 rfl) (ow hw 81 rfl) (by decide) (by decide)) e103 (g := (mkF m 18 #[.val (.int q)] [(.int q), (.ref b103), (.ref b103)])) rfl (by rw [hml]; rfl) (argsL := [(.int q)]) (rest := [(.ref b103), (.ref b103)]) rfl (lenOf own_pd1 rfl) rfl (by show 2 * 0 + _ ≤ _; exact Nat.le_of_eq rfl) (hb hby own_d14_18) (by decide) (by decide)
  obtain ⟨Nq104, Kp104, ⟨b_106, kb_107, rfl, z108, f109⟩⟩ := q104
  have N104 := Fr.app N102 Nq104
  refine go _ _ (st104) ?_
  show G (T104.setTop (mkF m 21 #[.val (.int q)] [(.ref b_106), (.ref b103), (.ref b103)]))
  refine go _ _ (fun _ k => XS.iconst X104.here hx rfl (hb hby own_d14_21) k) ?_
  show G (T104.setTop (mkF m 22 #[.val (.int q)] [(.int (0 : Int32)), (.ref b_106), (.ref b103), (.ref b103)]))
  have K111 : Keep h103 T104.heap [] := (Keep.refl h103 []).trans Kp104 all0
  have F112 : Exa Z T104.heap b103 "java/lang/String" := (A103.keep K111)
  have F113 : Fld Z T104.heap b103 "java/lang/String" "value" "[B" .null := ((D103 (Or.inr (ow hw 14 rfl)) (ty := (.array .byte)) (by decide)).keep K111 nin0)
  have F114 : Fld Z T104.heap b103 "java/lang/String" "coder" "B" (.int (0 : Int32)) := ((D103 (Or.inr (ow hw 15 rfl)) (ty := .byte) (by decide)).keep K111 nin0)
  have Z115 : h0.size ≤ T104.heap.size := Nat.le_trans Z105 Kp104.1
  obtain ⟨rv110, T110, L110, X110, q110, st110⟩ := own_sp X104 hx hZ (y := (⟨"java/lang/String", "<init>", "([BB)V"⟩ : MethodName)) rfl hown (ow hw 87 rfl) (ow hw 88 rfl) (ow hw 89 rfl) (by decide) (own_bkN (W := 1) (rm17 l Z a0 hw z0 O2 P5 [] b103 b_106 T104.heap n0 (Nat.le_trans Z0 Z115) F112 F113 F114 (Nat.le_trans Z0 (Nat.le_of_eq g103.symm))) hZ (ow hw 89 rfl) (ow hw 11 rfl) (by decide) (by decide)) rfl (g := (mkF m 22 #[.val (.int q)] [(.int (0 : Int32)), (.ref b_106), (.ref b103), (.ref b103)])) rfl (by rw [hml]; rfl) (a := b103) (argsL := [(.ref b_106), (.int (0 : Int32))]) (rest := [(.ref b103)]) rfl (lenOf own_pd2 rfl) rfl (by show 2 * 0 + _ ≤ _; exact Nat.le_of_eq rfl) (hb hby own_d14_22) (by decide) (by decide)
  obtain ⟨Nq110, Kp110, ⟨rfl, f116, f117, f118⟩⟩ := q110
  have N110 := Fr.app N104 Nq110
  refine go _ _ (st110) ?_
  show G (T110.setTop (mkF m 25 #[.val (.int q)] [(.ref b103)]))
  have K119 : Keep h0 h103 [] := (Keep.refl h0 []).ext E103
  have K120 : Keep h0 T104.heap [] := K119.trans Kp104 all0
  have K121 : Keep h0 T110.heap [] := K120.trans Kp110 (allS (Or.inr (Nat.le_of_eq g103.symm)) all0)
  have K122 : Keep T104.heap T110.heap [b103] := (Keep.refl T104.heap [b103]).trans Kp110 (allS (Or.inl (List.mem_of_getElem? (i := 0) rfl)) all0)
  have F123 : Arv Z T110.heap b_106 kb_107 .byte (1 : Int32) [(.int (q.toInt8.toInt32))] (.int (0 : Int32)) := (f109.keep K122 (ninS (Ne.symm (Nat.ne_of_lt (Nat.lt_of_lt_of_le A103.lt z108))) nin0))
  have Sx : own_Str Z T110.heap b103 ([q] : List Int32) := ⟨_, _, f116, f117, f118, F123, own_one h1 h2, (Nat.le_of_ble_eq_true rfl)⟩
  refine fin T110 _ _ _ (some (.ref b103)) X110 (fun q => nomatch q) (by decide) (by decide) ⟨N110, K121, ⟨b103, rfl, (Nat.le_of_eq g103.symm), f116, Sx⟩⟩ _ (own_retA X110 hx hret rfl rfl rfl (hb hby own_d14_25))
theorem own_d2_0 : decode method_4_code 0 = .ok (.iload_n 0, 1) := by decide +kernel
theorem own_d2_1 : decode method_4_code 1 = .ok (.ifCond .ne 6, 3) := by decide +kernel
theorem own_d2_4 : decode method_4_code 4 = .ok (.ldc 7, 2) := by decide +kernel
theorem own_d2_6 : decode method_4_code 6 = .ok (.areturn, 1) := by decide +kernel
theorem own_d2_7 : decode method_4_code 7 = .ok (.iload_n 0, 1) := by decide +kernel
theorem own_d2_8 : decode method_4_code 8 = .ok (.iconst 1, 1) := by decide +kernel
theorem own_d2_9 : decode method_4_code 9 = .ok (.if_icmp .ne 8, 3) := by decide +kernel
theorem own_d2_12 : decode method_4_code 12 = .ok (.iload_n 1, 1) := by decide +kernel
theorem own_d2_13 : decode method_4_code 13 = .ok (.invokestatic 9, 3) := by decide +kernel
theorem own_d2_16 : decode method_4_code 16 = .ok (.areturn, 1) := by decide +kernel
theorem own_d2_17 : decode method_4_code 17 = .ok (.iconst 2, 1) := by decide +kernel
theorem own_d2_18 : decode method_4_code 18 = .ok (.newarray .char, 2) := by decide +kernel
theorem own_d2_20 : decode method_4_code 20 = .ok (.astore_n 3, 1) := by decide +kernel
theorem own_d2_21 : decode method_4_code 21 = .ok (.aload_n 3, 1) := by decide +kernel
theorem own_d2_22 : decode method_4_code 22 = .ok (.iconst 0, 1) := by decide +kernel
theorem own_d2_23 : decode method_4_code 23 = .ok (.iload_n 1, 1) := by decide +kernel
theorem own_d2_24 : decode method_4_code 24 = .ok (.castore, 1) := by decide +kernel
theorem own_d2_25 : decode method_4_code 25 = .ok (.aload_n 3, 1) := by decide +kernel
theorem own_d2_26 : decode method_4_code 26 = .ok (.iconst 1, 1) := by decide +kernel
theorem own_d2_27 : decode method_4_code 27 = .ok (.iload_n 2, 1) := by decide +kernel
theorem own_d2_28 : decode method_4_code 28 = .ok (.castore, 1) := by decide +kernel
theorem own_d2_29 : decode method_4_code 29 = .ok (.new 10, 3) := by decide +kernel
theorem own_d2_32 : decode method_4_code 32 = .ok (.dup, 1) := by decide +kernel
theorem own_d2_33 : decode method_4_code 33 = .ok (.aload_n 3, 1) := by decide +kernel
theorem own_d2_34 : decode method_4_code 34 = .ok (.invokespecial 15, 3) := by decide +kernel
theorem own_d2_37 : decode method_4_code 37 = .ok (.areturn, 1) := by decide +kernel
theorem own_pd3 : parseMethodDescriptor "(C)Ljava/lang/String;" = some ⟨[.char], some (.object "java/lang/String")⟩ := by decide +kernel
theorem own_pd4 : parseMethodDescriptor "([C)V" = some ⟨[(.array .char)], none⟩ := by decide +kernel
set_option maxHeartbeats 4000000 in
theorem own_ef_rm2 (m : MethodId) (x0 : Int32) (x1 : Int32) (x2 : Int32) : entryFrame m #[(.int x0), (.int x1), (.int x2)] 4 = mkF m 0 #[.val (.int x0), .val (.int x1), .val (.int x2), .unset] [] := by rfl
set_option maxRecDepth 65536 in
set_option maxHeartbeats 40000000 in
theorem rm2 (l : Launch) (Z : State) (a0 : Array Value) (hw : ∀ d ∈ tables_1, d.before a0 Z = true) (z0 : Int32) (O2 : Sta Z Z.heap "java/lang/String" "COMPACT_STRINGS" "Z" (.int z0)) (P5 : ¬ z0 = (0 : Int32)) (ws : List Jvm.Cond) (n : Int32) (c1 : Int32) (c2 : Int32) (h0 : Heap) (n0 : Nat) (Z0 : n0 ≤ h0.size) (Xo : Old Z n0 h0) (h10 : ¬ c1 < (0 : Int32)) (h11 : ¬ (255 : Int32) < c1) (h20 : ¬ c2 < (0 : Int32)) (h21 : ¬ (255 : Int32) < c2) :
    own_MetH l Z own_EL (⟨"com/example/hatoyama/hatoyama/ObjectMethodEqualsPinLaw", "mk", "(ICC)Ljava/lang/String;"⟩ : MethodName) method_4_code 4 (some (.object "java/lang/String")) ws ({ frames := 4, cells := 3, slots := 8, locals := 66 } : Room) #[(.int n), (.int c1), (.int c2)] h0 (fun v h L => Fr n0 L ∧ Keep h0 h [] ∧ ((∃ (b : Addr), (v = some (.ref b)) ∧ (Exa Z h b "java/lang/String") ∧ (own_Str Z h b (own_cs n c1 c2))))) := by
  refine own_metH (plainFor_of_name own_pn0) (own_hEL hw) ?_
  intro p e s m below meth c s₁ G hx hby hml hZ hown hnm hret X0 e0 hS C0 go fin
  have N0 := Fr.nil n0
  refine go _ _ (fun _ k => castTop (own_ef_rm2 m n c1 c2) k) ?_
  show G (s₁.setTop (mkF m 0 #[.val (.int n), .val (.int c1), .val (.int c2), .unset] []))
  refine go _ _ (fun _ k => XS.iloadN X0.here hx rfl (hb hby own_d2_0) rfl k) ?_
  show G (s₁.setTop (mkF m 1 #[.val (.int n), .val (.int c1), .val (.int c2), .unset] [(.int n)]))
  by_cases hc1_101 : n = (0 : Int32)
  · refine go _ _ (fun _ k => XS.ifNo X0.here hx rfl (hb hby own_d2_1) rfl ((if0 _ _).trans (teq hc1_101).2) k) ?_
    show G (s₁.setTop (mkF m 4 #[.val (.int n), .val (.int c1), .val (.int c2), .unset] []))
    obtain ⟨b102, T102, h102, k102, t102, kb102, X102, e102, E102, hS102, hk102, hZ102, hown102, A102, Fc102, Fv102, V102, -, -, C102, -, -, st102⟩ := ldcCH X0 hx hZ hown (ow hw 10 rfl) (own_sat hw) e0 hS (Nat.le_refl _) (own_hEL hw) (List.mem_of_getElem? (i := 0) rfl) C0.1 (vs := []) (z := (0 : Int32)) (by decide) (by decide) (by decide) (g := (mkF m 4 #[.val (.int n), .val (.int c1), .val (.int c2), .unset] [])) rfl (hb hby own_d2_4) (n := 0) (by decide) (by decide) (by decide) (by decide)
    have Sx102 : own_Str Z h102 b102 ([] : List Int32) := ⟨t102, kb102, A102, Fv102, Fc102, V102, (by decide), (by decide)⟩
    refine go _ _ (st102) ?_
    show G (T102.setTop (mkF m 6 #[.val (.int n), .val (.int c1), .val (.int c2), .unset] [(.ref b102)]))
    have K103 : Keep h0 h102 [] := (Keep.refl h0 []).ext E102
    have Sy : own_Str Z h102 b102 (own_cs n c1 c2) := by rw [own_cs0 hc1_101]; exact Sx102
    have C104 : CHr Z own_EL s.vm h0 T102.vm h102 := C0.trans C102
    refine fin T102 _ _ _ (some (.ref b102)) T102.vm _ X102 hZ102 hS102 (by rw [e102]; exact hk102) (by rw [e102]; exact C104) (fun q => nomatch q) (by decide) (by decide) (by rw [e102]; exact ⟨N0, K103, ⟨b102, rfl, A102, Sy⟩⟩) _ (own_retA X102 hx hret rfl rfl rfl (hb hby own_d2_6))
  · refine go _ _ (fun _ k => XS.ifYes X0.here hx rfl (pc0 := 1) (pc' := 7) rfl (hb hby own_d2_1) rfl ((if0 _ _).trans (feq hc1_101).2) (by decide) (by decide) k) ?_
    show G (s₁.setTop (mkF m 7 #[.val (.int n), .val (.int c1), .val (.int c2), .unset] []))
    refine go _ _ (fun _ k => XS.iloadN X0.here hx rfl (hb hby own_d2_7) rfl (XS.iconst X0.here hx rfl (hb hby own_d2_8) k)) ?_
    show G (s₁.setTop (mkF m 9 #[.val (.int n), .val (.int c1), .val (.int c2), .unset] [(.int (1 : Int32)), (.int n)]))
    by_cases hc9_105 : n = (1 : Int32)
    · refine go _ _ (fun _ k => XS.icmpNo X0.here hx rfl (hb hby own_d2_9) rfl (teq hc9_105).2 k) ?_
      show G (s₁.setTop (mkF m 12 #[.val (.int n), .val (.int c1), .val (.int c2), .unset] []))
      refine go _ _ (fun _ k => XS.iloadN X0.here hx rfl (hb hby own_d2_12) rfl k) ?_
      show G (s₁.setTop (mkF m 13 #[.val (.int n), .val (.int c1), .val (.int c2), .unset] [(.int c1)]))
      obtain ⟨rv106, T106, L106, X106, q106, st106⟩ := own_st X0 hx hZ (y := (⟨"java/lang/String", "valueOf", "(C)Ljava/lang/String;"⟩ : MethodName)) hown (ow hw 76 rfl) (ow hw 77 rfl) (ow hw 11 rfl) (ow hw 78 rfl) (by decide) (own_bkN (W := 0) (rm14 l Z a0 hw z0 O2 P5 [] c1 h0 n0 Z0 Xo h10 h11) hZ (ow hw 78 rfl) (ow hw 11 rfl) (by decide) (by decide)) e0 (g := (mkF m 13 #[.val (.int n), .val (.int c1), .val (.int c2), .unset] [(.int c1)])) rfl (by rw [hml]; rfl) (argsL := [(.int c1)]) (rest := []) rfl (lenOf own_pd3 rfl) rfl (by show 2 * 0 + _ ≤ _; exact Nat.le_of_eq rfl) (hb hby own_d2_13) (by decide) (by decide)
      obtain ⟨Nq106, Kp106, ⟨b_107, rfl, z108, f109, f110⟩⟩ := q106
      have N106 := Fr.app N0 Nq106
      refine go _ _ (st106) ?_
      show G (T106.setTop (mkF m 16 #[.val (.int n), .val (.int c1), .val (.int c2), .unset] [(.ref b_107)]))
      have K111 : Keep h0 T106.heap [] := (Keep.refl h0 []).trans Kp106 all0
      have Sy : own_Str Z T106.heap b_107 (own_cs n c1 c2) := by rw [own_cs1 hc1_101 hc9_105]; exact f110
      have C112 : CHr Z own_EL s.vm h0 s.vm T106.heap := C0.trans (CHr.keep K111 sf0 C0.1)
      have Z113 : h0.size ≤ T106.heap.size := Kp106.1
      refine fin T106 _ _ _ (some (.ref b_107)) s.vm _ X106 hZ hS Z113 C112 (fun q => nomatch q) (by decide) (by decide) ⟨N106, K111, ⟨b_107, rfl, f109, Sy⟩⟩ _ (own_retA X106 hx hret rfl rfl rfl (hb hby own_d2_16))
    · refine go _ _ (fun _ k => XS.icmpYes X0.here hx rfl (pc0 := 9) (pc' := 17) rfl (hb hby own_d2_9) rfl (feq hc9_105).2 (by decide) (by decide) k) ?_
      show G (s₁.setTop (mkF m 17 #[.val (.int n), .val (.int c1), .val (.int c2), .unset] []))
      refine go _ _ (fun _ k => XS.iconst X0.here hx rfl (hb hby own_d2_17) k) ?_
      show G (s₁.setTop (mkF m 18 #[.val (.int n), .val (.int c1), .val (.int c2), .unset] [(.int (2 : Int32))]))
      obtain ⟨T114, h114, k114, X114, e114, E114, A114, st114⟩ := newP X0 hx hZ (ow hw 54 rfl) e0 (g := (mkF m 18 #[.val (.int n), .val (.int c1), .val (.int c2), .unset] [(.int (2 : Int32))])) rfl (hb hby own_d2_18) rfl (by decide) (cap := 2) (by decide) (by decide) (by decide) (by decide)
      obtain ⟨b114, g114⟩ : ∃ z, z = h0.size := ⟨_, rfl⟩
      rw [← g114] at A114 st114
      have V114 : Arv Z h114 b114 k114 .char (2 : Int32) [(.int (0 : Int32)), (.int (0 : Int32))] (.int (0 : Int32)) := (Arv.new A114 (by decide)).pad (pad_rep [] (.int (0 : Int32)) 2)
      refine go _ _ (st114) ?_
      show G (T114.setTop (mkF m 20 #[.val (.int n), .val (.int c1), .val (.int c2), .unset] [(.ref b114)]))
      refine go _ _ (fun _ k => XS.astoreN X114.here hx rfl (hb hby own_d2_20) rfl rfl (l' := #[.val (.int n), .val (.int c1), .val (.int c2), .val (.ref b114)]) rfl (XS.aloadN X114.here hx rfl (hb hby own_d2_21) rfl rfl (XS.iconst X114.here hx rfl (hb hby own_d2_22) (XS.iloadN X114.here hx rfl (hb hby own_d2_23) rfl k)))) ?_
      show G (T114.setTop (mkF m 24 #[.val (.int n), .val (.int c1), .val (.int c2), .val (.ref b114)] [(.int c1), (.int (0 : Int32)), (.ref b114)]))
      obtain ⟨cl115, Ar115, q115, S115, M115, H115, U115⟩ := id V114
      obtain ⟨T115, h115, X115, e115, W115, st115⟩ := stC X114 hx hZ e114 Ar115 (j := (0 : Int32)) (inb_of S115 ⟨by decide, by decide⟩) (g := (mkF m 24 #[.val (.int n), .val (.int c1), .val (.int c2), .val (.ref b114)] [(.int c1), (.int (0 : Int32)), (.ref b114)])) rfl rfl (hb hby own_d2_24)
      have V115 : Arv Z h115 b114 k114 .char (2 : Int32) [(.int (nar .char c1)), (.int (0 : Int32))] (.int (0 : Int32)) := Arv.set Ar115 q115 S115 M115 H115 U115 (fits_nar_char _) W115 0 rfl (Nat.le_of_ble_eq_true rfl)
      rw [(own_narc h10 h11)] at V115
      have N115 := Fr.snoc X115 N0 (Nat.le_trans Z0 (Nat.le_of_eq g114.symm))
      refine go _ _ (st115) ?_
      show G (T115.setTop (mkF m 25 #[.val (.int n), .val (.int c1), .val (.int c2), .val (.ref b114)] []))
      refine go _ _ (fun _ k => XS.aloadN X115.here hx rfl (hb hby own_d2_25) rfl rfl (XS.iconst X115.here hx rfl (hb hby own_d2_26) (XS.iloadN X115.here hx rfl (hb hby own_d2_27) rfl k))) ?_
      show G (T115.setTop (mkF m 28 #[.val (.int n), .val (.int c1), .val (.int c2), .val (.ref b114)] [(.int c2), (.int (1 : Int32)), (.ref b114)]))
      obtain ⟨cl116, Ar116, q116, S116, M116, H116, U116⟩ := id V115
      obtain ⟨T116, h116, X116, e116, W116, st116⟩ := stC X115 hx hZ e115 Ar116 (j := (1 : Int32)) (inb_of S116 ⟨by decide, by decide⟩) (g := (mkF m 28 #[.val (.int n), .val (.int c1), .val (.int c2), .val (.ref b114)] [(.int c2), (.int (1 : Int32)), (.ref b114)])) rfl rfl (hb hby own_d2_28)
      have V116 : Arv Z h116 b114 k114 .char (2 : Int32) [(.int c1), (.int (nar .char c2))] (.int (0 : Int32)) := Arv.set Ar116 q116 S116 M116 H116 U116 (fits_nar_char _) W116 1 rfl (Nat.le_of_ble_eq_true rfl)
      rw [(own_narc h20 h21)] at V116
      have N116 := Fr.snoc X116 N115 (Nat.le_trans Z0 (Nat.le_of_eq g114.symm))
      refine go _ _ (st116) ?_
      show G (T116.setTop (mkF m 29 #[.val (.int n), .val (.int c1), .val (.int c2), .val (.ref b114)] []))
      obtain ⟨T117, h117, X117, e117, E117, A117, D117, -, st117⟩ := newO X116 hx hZ hown (ow hw 55 rfl) (ow hw 12 rfl) (ow hw 11 rfl) e116 (g := (mkF m 29 #[.val (.int n), .val (.int c1), .val (.int c2), .val (.ref b114)] [])) rfl (hb hby own_d2_29) (by decide) (by decide)
      obtain ⟨b117, g117⟩ : ∃ z, z = h116.size := ⟨_, rfl⟩
      rw [← g117] at A117 D117 st117
      refine go _ _ (st117) ?_
      show G (T117.setTop (mkF m 32 #[.val (.int n), .val (.int c1), .val (.int c2), .val (.ref b114)] [(.ref b117)]))
      refine go _ _ (fun _ k => XS.dup X117.here hx rfl (hb hby own_d2_32) rfl rfl (XS.aloadN X117.here hx rfl (hb hby own_d2_33) rfl rfl k)) ?_
      show G (T117.setTop (mkF m 34 #[.val (.int n), .val (.int c1), .val (.int c2), .val (.ref b114)] [(.ref b114), (.ref b117), (.ref b117)]))
      have K119 : Keep h116 h117 [] := (Keep.refl h116 []).ext E117
      have F120 : Arv Z h117 b114 k114 .char (2 : Int32) [(.int c1), (.int c2)] (.int (0 : Int32)) := (V116.keep K119 nin0)
      have K121 : Keep h0 h114 [] := (Keep.refl h0 []).ext E114
      have K122 : Keep h0 h115 [] := K121.wr W115 (Or.inr (Nat.le_of_eq g114.symm))
      have K123 : Keep h0 h116 [] := K122.wr W116 (Or.inr (Nat.le_of_eq g114.symm))
      have K124 : Keep h0 h117 [] := K123.ext E117
      have F125 : Old Z n0 h117 := (Xo.keep K124 all0)
      have hp118 : ∀ c ∈ ([c1, c2] : List Int32), ¬ c < 0 ∧ ¬ (255 : Int32) < c := by
        intro c hc
        simp only [List.mem_cons, List.not_mem_nil, or_false] at hc
        rcases hc with rfl | rfl
        · exact ⟨h10, h11⟩
        · exact ⟨h20, h21⟩
      have Z126 : h0.size ≤ h114.size := E114.1
      have Z127 : h0.size ≤ h115.size := Nat.le_trans Z126 (Keep.of_wr W115).1
      have Z128 : h0.size ≤ h116.size := Nat.le_trans Z127 (Keep.of_wr W116).1
      have Z129 : h0.size ≤ h117.size := Nat.le_trans Z128 E117.1
      obtain ⟨rv118, T118, L118, X118, q118, st118⟩ := own_sp X117 hx hZ (y := (⟨"java/lang/String", "<init>", "([C)V"⟩ : MethodName)) rfl hown (ow hw 56 rfl) (ow hw 57 rfl) (ow hw 58 rfl) (by decide) (StrChars.Road.backV (W := 1) hZ (own_hws hw) (kI := 4) (ow hw 12 rfl) (cs := ([c1, c2] : List Int32)) (bs := ([c1, c2] : List Int32).map (fun c => c.toInt8.toInt32)) (n := 2) (Nat.le_trans (Nat.le_trans Z0 Z128) (Nat.le_of_eq g117.symm)) (Nat.le_trans Z0 Z129) A117 (D117 (Or.inr (ow hw 14 rfl)) (ty := (.array .byte)) (by decide)) (D117 (Or.inr (ow hw 15 rfl)) (ty := .byte) (by decide)) F120 (O2.ext F125.2) P5 rfl rfl (by decide) (by decide) hp118 rfl (by decide) (by decide)) e117 (g := (mkF m 34 #[.val (.int n), .val (.int c1), .val (.int c2), .val (.ref b114)] [(.ref b114), (.ref b117), (.ref b117)])) rfl (by rw [hml]; rfl) (a := b117) (argsL := [(.ref b114)]) (rest := [(.ref b117)]) rfl (lenOf own_pd4 rfl) rfl (by show 2 * 0 + _ ≤ _; exact Nat.le_of_eq rfl) (hb hby own_d2_34) (by decide) (by decide)
      obtain ⟨rfl, Nq118, Kp118, Es118, Cs118, t118, kb118, u118a, u118b, u118c, Vs118, As118⟩ := q118
      have N118 := Fr.app N116 Nq118
      have Sx118 : own_Str Z T118.heap b117 ([c1, c2] : List Int32) := ⟨t118, kb118, Es118, Vs118, Cs118, As118, hp118, (Nat.le_of_ble_eq_true rfl)⟩
      refine go _ _ (st118) ?_
      show G (T118.setTop (mkF m 37 #[.val (.int n), .val (.int c1), .val (.int c2), .val (.ref b114)] [(.ref b117)]))
      have K130 : Keep h0 T118.heap [] := K124.trans Kp118 (allS (Or.inr (Nat.le_trans Z128 (Nat.le_of_eq g117.symm))) all0)
      have Sy : own_Str Z T118.heap b117 (own_cs n c1 c2) := by rw [own_cs2 hc1_101 hc9_105]; exact Sx118
      have C131 : CHr Z own_EL s.vm h0 s.vm T118.heap := C0.trans (CHr.keep K130 sf0 C0.1)
      have Z132 : h0.size ≤ T118.heap.size := Nat.le_trans Z129 Kp118.1
      refine fin T118 _ _ _ (some (.ref b117)) s.vm _ X118 hZ hS Z132 C131 (fun q => nomatch q) (by decide) (by decide) ⟨N118, K130, ⟨b117, rfl, Es118, Sy⟩⟩ _ (own_retA X118 hx hret rfl rfl rfl (hb hby own_d2_37))
theorem own_d5_0 : decode jdk_31_method_11_code 0 = .ok (.aload_n 0, 1) := by decide +kernel
theorem own_d5_1 : decode jdk_31_method_11_code 1 = .ok (.ifnonnull 12, 3) := by decide +kernel
theorem own_d5_4 : decode jdk_31_method_11_code 4 = .ok (.new 84, 3) := by decide +kernel
theorem own_d5_7 : decode jdk_31_method_11_code 7 = .ok (.dup, 1) := by decide +kernel
theorem own_d5_8 : decode jdk_31_method_11_code 8 = .ok (.aload_n 1, 1) := by decide +kernel
theorem own_d5_9 : decode jdk_31_method_11_code 9 = .ok (.invokespecial 87, 3) := by decide +kernel
theorem own_d5_12 : decode jdk_31_method_11_code 12 = .ok (.athrow, 1) := by decide +kernel
theorem own_d5_13 : decode jdk_31_method_11_code 13 = .ok (.aload_n 0, 1) := by decide +kernel
theorem own_d5_14 : decode jdk_31_method_11_code 14 = .ok (.areturn, 1) := by decide +kernel
theorem own_pn3 : plainName "java/util/Objects" = true := by decide +kernel
set_option maxHeartbeats 4000000 in
theorem own_ef_rm5 (m : MethodId) (x0 : Addr) (x1 : Value) (q1 : x1.isRef = true) : entryFrame m #[(.ref x0), x1] 2 = mkF m 0 #[.val (.ref x0), .val x1] [] := by simp [entryFrame, mkF, argsToLocals, own_catR, own_catI, own_catJ, own_cat q1]
set_option maxRecDepth 65536 in
set_option maxHeartbeats 40000000 in
theorem rm5 (l : Launch) (Z : State) (a0 : Array Value) (hw : ∀ d ∈ tables_1, d.before a0 Z = true) (z0 : Int32) (O2 : Sta Z Z.heap "java/lang/String" "COMPACT_STRINGS" "Z" (.int z0)) (P5 : ¬ z0 = (0 : Int32)) (ws : List Jvm.Cond) (a : Addr) (v1 : Value) (h0 : Heap) (n0 : Nat) (Z0 : n0 ≤ h0.size) (r1 : v1.isRef = true) :
    own_MetN l Z (⟨"java/util/Objects", "requireNonNull", "(Ljava/lang/Object;Ljava/lang/String;)Ljava/lang/Object;"⟩ : MethodName) jdk_31_method_11_code 2 (some (.object "java/lang/Object")) ws ({ frames := 0, cells := 0, slots := 0, locals := 0 } : Room) #[(.ref a), v1] h0 (fun v h L => Fr n0 L ∧ h = h0 ∧ (((v = some (.ref a))))) := by
  refine own_metN (plainFor_of_name own_pn3) ?_
  intro p e s m below meth c s₁ G hx hby hml hZ hown hnm hret X0 e0 go fin
  have N0 := Fr.nil n0
  refine go _ _ (fun _ k => castTop (own_ef_rm5 m a v1 r1) k) ?_
  show G (s₁.setTop (mkF m 0 #[.val (.ref a), .val v1] []))
  refine go _ _ (fun _ k => XS.aloadN X0.here hx rfl (hb hby own_d5_0) rfl rfl k) ?_
  show G (s₁.setTop (mkF m 1 #[.val (.ref a), .val v1] [(.ref a)]))
  refine go _ _ (fun _ k => XS.ifnonnullYes X0.here hx rfl (pc0 := 1) (pc' := 13) rfl (hb hby own_d5_1) rfl (by decide) (by decide) k) ?_
  show G (s₁.setTop (mkF m 13 #[.val (.ref a), .val v1] []))
  refine go _ _ (fun _ k => XS.aloadN X0.here hx rfl (hb hby own_d5_13) rfl rfl k) ?_
  show G (s₁.setTop (mkF m 14 #[.val (.ref a), .val v1] [(.ref a)]))
  refine fin s₁ _ _ _ (some (.ref a)) X0 (fun q => nomatch q) (by decide) (by decide) (by rw [e0]; exact ⟨N0, rfl, rfl⟩) _ (own_retA X0 hx hret rfl rfl rfl (hb hby own_d5_14))
theorem own_d3_0 : decode prog_10_method_1_code 0 = .ok (.aload_n 0, 1) := by decide +kernel
theorem own_d3_1 : decode prog_10_method_1_code 1 = .ok (.invokespecial 1, 3) := by decide +kernel
theorem own_d3_4 : decode prog_10_method_1_code 4 = .ok (.aload_n 0, 1) := by decide +kernel
theorem own_d3_5 : decode prog_10_method_1_code 5 = .ok (.aload_n 1, 1) := by decide +kernel
theorem own_d3_6 : decode prog_10_method_1_code 6 = .ok (.ldc 7, 2) := by decide +kernel
theorem own_d3_8 : decode prog_10_method_1_code 8 = .ok (.invokestatic 9, 3) := by decide +kernel
theorem own_d3_11 : decode prog_10_method_1_code 11 = .ok (.checkcast 15, 3) := by decide +kernel
theorem own_d3_14 : decode prog_10_method_1_code 14 = .ok (.putfield 17, 3) := by decide +kernel
theorem own_d3_17 : decode prog_10_method_1_code 17 = .ok (.aload_n 0, 1) := by decide +kernel
theorem own_d3_18 : decode prog_10_method_1_code 18 = .ok (.aload_n 2, 1) := by decide +kernel
theorem own_d3_19 : decode prog_10_method_1_code 19 = .ok (.ldc 22, 2) := by decide +kernel
theorem own_d3_21 : decode prog_10_method_1_code 21 = .ok (.invokestatic 9, 3) := by decide +kernel
theorem own_d3_24 : decode prog_10_method_1_code 24 = .ok (.checkcast 15, 3) := by decide +kernel
theorem own_d3_27 : decode prog_10_method_1_code 27 = .ok (.putfield 24, 3) := by decide +kernel
theorem own_d3_30 : decode prog_10_method_1_code 30 = .ok (.return_, 1) := by decide +kernel
theorem own_pn4 : plainName "com/example/hatoyama/hatoyama/ObjectMethod" = true := by decide +kernel
theorem own_pd5 : parseMethodDescriptor "(Ljava/lang/Object;Ljava/lang/String;)Ljava/lang/Object;" = some ⟨[(.object "java/lang/Object"), (.object "java/lang/String")], some (.object "java/lang/Object")⟩ := by decide +kernel
set_option maxHeartbeats 4000000 in
theorem own_ef_rm3 (m : MethodId) (x0 : Addr) (x1 : Addr) (x2 : Addr) : entryFrame m #[(.ref x0), (.ref x1), (.ref x2)] 3 = mkF m 0 #[.val (.ref x0), .val (.ref x1), .val (.ref x2)] [] := by rfl
set_option maxRecDepth 65536 in
set_option maxHeartbeats 40000000 in
theorem rm3 (l : Launch) (Z : State) (a0 : Array Value) (hw : ∀ d ∈ tables_1, d.before a0 Z = true) (z0 : Int32) (O2 : Sta Z Z.heap "java/lang/String" "COMPACT_STRINGS" "Z" (.int z0)) (P5 : ¬ z0 = (0 : Int32)) (ws : List Jvm.Cond) (a : Addr) (o : Addr) (mm : Addr) (h0 : Heap) (n0 : Nat) (Z0 : n0 ≤ h0.size) (Ea : Exa Z h0 a "com/example/hatoyama/hatoyama/ObjectMethod") (Fo : Fld Z h0 a "com/example/hatoyama/hatoyama/ObjectMethod" "object" "Ljava/lang/String;" .null) (Fm : Fld Z h0 a "com/example/hatoyama/hatoyama/ObjectMethod" "method" "Ljava/lang/String;" .null) (Eo : Exa Z h0 o "java/lang/String") (Em : Exa Z h0 mm "java/lang/String") (gz_a : n0 ≤ a) :
    own_MetH l Z own_EL (⟨"com/example/hatoyama/hatoyama/ObjectMethod", "<init>", "(Ljava/lang/String;Ljava/lang/String;)V"⟩ : MethodName) prog_10_method_1_code 3 none ws ({ frames := 1, cells := 4, slots := 56, locals := 14 } : Room) #[(.ref a), (.ref o), (.ref mm)] h0 (fun v h L => Fr n0 L ∧ Keep h0 h [a] ∧ (((v = none) ∧ (Exa Z h a "com/example/hatoyama/hatoyama/ObjectMethod") ∧ (Fld Z h a "com/example/hatoyama/hatoyama/ObjectMethod" "object" "Ljava/lang/String;" (.ref o)) ∧ (Fld Z h a "com/example/hatoyama/hatoyama/ObjectMethod" "method" "Ljava/lang/String;" (.ref mm))))) := by
  refine own_metH (plainFor_of_name own_pn4) (own_hEL hw) ?_
  intro p e s m below meth c s₁ G hx hby hml hZ hown hnm hret X0 e0 hS C0 go fin
  have N0 := Fr.nil n0
  refine go _ _ (fun _ k => castTop (own_ef_rm3 m a o mm) k) ?_
  show G (s₁.setTop (mkF m 0 #[.val (.ref a), .val (.ref o), .val (.ref mm)] []))
  refine go _ _ (fun _ k => XS.aloadN X0.here hx rfl (hb hby own_d3_0) rfl rfl k) ?_
  show G (s₁.setTop (mkF m 1 #[.val (.ref a), .val (.ref o), .val (.ref mm)] [(.ref a)]))
  obtain ⟨T101, X101, e101, st101⟩ := initO X0 hx hZ hown (ow hw 24 rfl) (ow hw 25 rfl) (ow hw 26 rfl) e0 (g := (mkF m 1 #[.val (.ref a), .val (.ref o), .val (.ref mm)] [(.ref a)])) rfl (by rw [hml]; rfl) rfl (hb hby own_d3_1) (by decide) (W := 0) (by show 2 * 0 + _ ≤ _; exact Nat.le_of_eq rfl) (by decide)
  refine go _ _ (st101) ?_
  show G (T101.setTop (mkF m 4 #[.val (.ref a), .val (.ref o), .val (.ref mm)] []))
  refine go _ _ (fun _ k => XS.aloadN X101.here hx rfl (hb hby own_d3_4) rfl rfl (XS.aloadN X101.here hx rfl (hb hby own_d3_5) rfl rfl k)) ?_
  show G (T101.setTop (mkF m 6 #[.val (.ref a), .val (.ref o), .val (.ref mm)] [(.ref o), (.ref a)]))
  obtain ⟨b102, T102, h102, k102, X102, e102, E102, hS102, hk102, hZ102, hown102, C102, -, st102⟩ := ldcOH X101 hx hZ hown (ow hw 27 rfl) (own_sat hw) e101 hS (Nat.le_refl _) (own_hEL hw) C0.1 (g := (mkF m 6 #[.val (.ref a), .val (.ref o), .val (.ref mm)] [(.ref o), (.ref a)])) rfl (hb hby own_d3_6) (n := 24) (by decide) (by decide) (by decide) (by decide)
  refine go _ _ (st102) ?_
  show G (T102.setTop (mkF m 8 #[.val (.ref a), .val (.ref o), .val (.ref mm)] [(.ref b102), (.ref o), (.ref a)]))
  have Z104 : h0.size ≤ h102.size := E102.1
  obtain ⟨rv103, T103, L103, X103, q103, st103⟩ := own_st X102 hx hZ102 (y := (⟨"java/util/Objects", "requireNonNull", "(Ljava/lang/Object;Ljava/lang/String;)Ljava/lang/Object;"⟩ : MethodName)) hown102 (ow hw 28 rfl) (ow hw 29 rfl) (ow hw 30 rfl) (ow hw 31 rfl) (by decide) (own_bkN (W := 1) (rm5 l Z a0 hw z0 O2 P5 [] o (.ref b102) h102 n0 (Nat.le_trans Z0 Z104) rfl) hZ102 (ow hw 31 rfl) (ow hw 30 rfl) (by decide) (by decide)) e102 (g := (mkF m 8 #[.val (.ref a), .val (.ref o), .val (.ref mm)] [(.ref b102), (.ref o), (.ref a)])) rfl (by rw [hml]; rfl) (argsL := [(.ref o), (.ref b102)]) (rest := [(.ref a)]) rfl (lenOf own_pd5 rfl) rfl (by show 2 * 0 + _ ≤ _; exact Nat.le_of_eq rfl) (hb hby own_d3_8) (by decide) (by decide)
  obtain ⟨Nq103, e103, rfl⟩ := q103
  have N103 := Fr.app N0 Nq103
  refine go _ _ (st103) ?_
  show G (T103.setTop (mkF m 11 #[.val (.ref a), .val (.ref o), .val (.ref mm)] [(.ref o), (.ref a)]))
  have K106 : Keep h0 h102 [] := (Keep.refl h0 []).ext E102
  have F107 : Exa Z h102 o "java/lang/String" := (Eo.keep K106)
  obtain ⟨T105, X105, e105, st105⟩ := castY X103 hx hZ102 hown102 (ow hw 32 rfl) e103 (Ins.self F107) (g := (mkF m 11 #[.val (.ref a), .val (.ref o), .val (.ref mm)] [(.ref o), (.ref a)])) rfl rfl (hb hby own_d3_11)
  refine go _ _ (st105) ?_
  show G (T105.setTop (mkF m 14 #[.val (.ref a), .val (.ref o), .val (.ref mm)] [(.ref o), (.ref a)]))
  have F109 : Fld Z h102 a "com/example/hatoyama/hatoyama/ObjectMethod" "object" "Ljava/lang/String;" .null := (Fo.keep K106 nin0)
  have F110 : Exa Z h102 a "com/example/hatoyama/hatoyama/ObjectMethod" := (Ea.keep K106)
  obtain ⟨T108, h108, X108, e108, W108, st108⟩ := putF X105 hx hZ102 hown102 (host := "") (Or.inl (ow hw 34 rfl)) Via.refl e105 F109 F110 (Or.inr ⟨(ow hw 35 rfl), rfl, hnm⟩) (ow hw 19 rfl) (ty := (.object "java/lang/String")) (by decide) rfl rfl (g := (mkF m 14 #[.val (.ref a), .val (.ref o), .val (.ref mm)] [(.ref o), (.ref a)])) rfl rfl (hb hby own_d3_14)
  have F111 : Fld Z h102 a "com/example/hatoyama/hatoyama/ObjectMethod" "method" "Ljava/lang/String;" .null := (Fm.keep K106 nin0)
  have N108 := Fr.snoc X108 N103 gz_a
  refine go _ _ (st108) ?_
  show G (T108.setTop (mkF m 17 #[.val (.ref a), .val (.ref o), .val (.ref mm)] []))
  refine go _ _ (fun _ k => XS.aloadN X108.here hx rfl (hb hby own_d3_17) rfl rfl (XS.aloadN X108.here hx rfl (hb hby own_d3_18) rfl rfl k)) ?_
  show G (T108.setTop (mkF m 19 #[.val (.ref a), .val (.ref o), .val (.ref mm)] [(.ref mm), (.ref a)]))
  have C113 : CHr Z own_EL s.vm h0 T102.vm h102 := C0.trans C102
  have Sf114 : Safe Z own_EL T102.vm h102 a := Safe.exa hZ102.alike F110 (by decide) (by decide)
  have C115 : CHr Z own_EL s.vm h0 T102.vm h108 := C113.trans (CHr.wr W108 Sf114 C113.1)
  have Z116 : h102.size ≤ h108.size := (Keep.of_wr W108).1
  obtain ⟨b112, T112, h112, k112, X112, e112, E112, hS112, hk112, hZ112, hown112, C112, -, st112⟩ := ldcOH X108 hx hZ102 hown102 (ow hw 36 rfl) (own_sat hw) e108 hS102 (Nat.le_trans hk102 Z116) (own_hEL hw) C115.1 (g := (mkF m 19 #[.val (.ref a), .val (.ref o), .val (.ref mm)] [(.ref mm), (.ref a)])) rfl (hb hby own_d3_19) (n := 24) (by decide) (by decide) (by decide) (by decide)
  refine go _ _ (st112) ?_
  show G (T112.setTop (mkF m 21 #[.val (.ref a), .val (.ref o), .val (.ref mm)] [(.ref b112), (.ref mm), (.ref a)]))
  have Z118 : h0.size ≤ h108.size := Nat.le_trans Z104 (Keep.of_wr W108).1
  have Z119 : h0.size ≤ h112.size := Nat.le_trans Z118 E112.1
  obtain ⟨rv117, T117, L117, X117, q117, st117⟩ := own_st X112 hx hZ112 (y := (⟨"java/util/Objects", "requireNonNull", "(Ljava/lang/Object;Ljava/lang/String;)Ljava/lang/Object;"⟩ : MethodName)) hown112 (ow hw 28 rfl) (ow hw 29 rfl) (ow hw 30 rfl) (ow hw 31 rfl) (by decide) (own_bkN (W := 1) (rm5 l Z a0 hw z0 O2 P5 [] mm (.ref b112) h112 n0 (Nat.le_trans Z0 Z119) rfl) hZ112 (ow hw 31 rfl) (ow hw 30 rfl) (by decide) (by decide)) e112 (g := (mkF m 21 #[.val (.ref a), .val (.ref o), .val (.ref mm)] [(.ref b112), (.ref mm), (.ref a)])) rfl (by rw [hml]; rfl) (argsL := [(.ref mm), (.ref b112)]) (rest := [(.ref a)]) rfl (lenOf own_pd5 rfl) rfl (by show 2 * 0 + _ ≤ _; exact Nat.le_of_eq rfl) (hb hby own_d3_21) (by decide) (by decide)
  obtain ⟨Nq117, e117, rfl⟩ := q117
  have N117 := Fr.app N108 Nq117
  refine go _ _ (st117) ?_
  show G (T117.setTop (mkF m 24 #[.val (.ref a), .val (.ref o), .val (.ref mm)] [(.ref mm), (.ref a)]))
  have K121 : Keep h0 h102 [a] := (Keep.refl h0 [a]).ext E102
  have K122 : Keep h0 h108 [a] := K121.wr W108 (Or.inl (List.mem_of_getElem? (i := 0) rfl))
  have K123 : Keep h0 h112 [a] := K122.ext E112
  have F124 : Exa Z h112 mm "java/lang/String" := (Em.keep K123)
  obtain ⟨T120, X120, e120, st120⟩ := castY X117 hx hZ112 hown112 (ow hw 32 rfl) e117 (Ins.self F124) (g := (mkF m 24 #[.val (.ref a), .val (.ref o), .val (.ref mm)] [(.ref mm), (.ref a)])) rfl rfl (hb hby own_d3_24)
  refine go _ _ (st120) ?_
  show G (T120.setTop (mkF m 27 #[.val (.ref a), .val (.ref o), .val (.ref mm)] [(.ref mm), (.ref a)]))
  have K126 : Keep h108 h112 [] := (Keep.refl h108 []).ext E112
  have F127 : Fld Z h112 a "com/example/hatoyama/hatoyama/ObjectMethod" "method" "Ljava/lang/String;" .null := ((F111.other W108 (Or.inr (RoadKit.slot_ne (t := (.object "java/lang/String")) (t' := (.object "java/lang/String")) (Or.inr (ow hw 38 rfl)) (Or.inr (ow hw 35 rfl)) (by decide) (by decide) (by decide)))).keep K126 nin0)
  have F128 : Exa Z h112 a "com/example/hatoyama/hatoyama/ObjectMethod" := ((F110.wr W108).keep K126)
  obtain ⟨T125, h125, X125, e125, W125, st125⟩ := putF X120 hx hZ112 hown112 (host := "") (Or.inl (ow hw 37 rfl)) Via.refl e120 F127 F128 (Or.inr ⟨(ow hw 38 rfl), rfl, hnm⟩) (ow hw 19 rfl) (ty := (.object "java/lang/String")) (by decide) rfl rfl (g := (mkF m 27 #[.val (.ref a), .val (.ref o), .val (.ref mm)] [(.ref mm), (.ref a)])) rfl rfl (hb hby own_d3_27)
  have F129 : Fld Z h112 a "com/example/hatoyama/hatoyama/ObjectMethod" "object" "Ljava/lang/String;" (.ref o) := ((F109.same W108).keep K126 nin0)
  have N125 := Fr.snoc X125 N117 gz_a
  refine go _ _ (st125) ?_
  show G (T125.setTop (mkF m 30 #[.val (.ref a), .val (.ref o), .val (.ref mm)] []))
  have K130 : Keep h0 h125 [a] := K123.wr W125 (Or.inl (List.mem_of_getElem? (i := 0) rfl))
  have C131 : CHr Z own_EL s.vm h0 T112.vm h112 := C115.trans C112
  have Sf132 : Safe Z own_EL T112.vm h112 a := Safe.exa hZ112.alike F128 (by decide) (by decide)
  have C133 : CHr Z own_EL s.vm h0 T112.vm h125 := C131.trans (CHr.wr W125 Sf132 C131.1)
  have Z134 : h112.size ≤ h125.size := (Keep.of_wr W125).1
  refine fin T125 _ _ _ none T112.vm _ X125 hZ112 hS112 (by rw [e125]; exact (Nat.le_trans hk112 Z134)) (by rw [e125]; exact C133) (fun _ => rfl) (by decide) (by decide) (by rw [e125]; exact ⟨N125, K130, ⟨rfl, (F128.wr W125), (F129.other W125 (Or.inr (RoadKit.slot_ne (t := (.object "java/lang/String")) (t' := (.object "java/lang/String")) (Or.inr (ow hw 35 rfl)) (Or.inr (ow hw 38 rfl)) (by decide) (by decide) (by decide)))), (F127.same W125)⟩⟩) _ (own_retV X125 hx hret (hb hby own_d3_30))
theorem own_d7_0 : decode prog_10_method_4_code 0 = .ok (.aload_n 1, 1) := by decide +kernel
theorem own_d7_1 : decode prog_10_method_4_code 1 = .ok (.instanceof 18, 3) := by decide +kernel
theorem own_d7_4 : decode prog_10_method_4_code 4 = .ok (.ifCond .eq 41, 3) := by decide +kernel
theorem own_d7_7 : decode prog_10_method_4_code 7 = .ok (.aload_n 0, 1) := by decide +kernel
theorem own_d7_8 : decode prog_10_method_4_code 8 = .ok (.getfield 17, 3) := by decide +kernel
theorem own_d7_11 : decode prog_10_method_4_code 11 = .ok (.aload_n 1, 1) := by decide +kernel
theorem own_d7_12 : decode prog_10_method_4_code 12 = .ok (.checkcast 18, 3) := by decide +kernel
theorem own_d7_15 : decode prog_10_method_4_code 15 = .ok (.getfield 17, 3) := by decide +kernel
theorem own_d7_18 : decode prog_10_method_4_code 18 = .ok (.invokevirtual 26, 3) := by decide +kernel
theorem own_d7_21 : decode prog_10_method_4_code 21 = .ok (.ifCond .eq 24, 3) := by decide +kernel
theorem own_d7_24 : decode prog_10_method_4_code 24 = .ok (.aload_n 0, 1) := by decide +kernel
theorem own_d7_25 : decode prog_10_method_4_code 25 = .ok (.getfield 24, 3) := by decide +kernel
theorem own_d7_28 : decode prog_10_method_4_code 28 = .ok (.aload_n 1, 1) := by decide +kernel
theorem own_d7_29 : decode prog_10_method_4_code 29 = .ok (.checkcast 18, 3) := by decide +kernel
theorem own_d7_32 : decode prog_10_method_4_code 32 = .ok (.getfield 24, 3) := by decide +kernel
theorem own_d7_35 : decode prog_10_method_4_code 35 = .ok (.invokevirtual 26, 3) := by decide +kernel
theorem own_d7_38 : decode prog_10_method_4_code 38 = .ok (.ifCond .eq 7, 3) := by decide +kernel
theorem own_d7_41 : decode prog_10_method_4_code 41 = .ok (.iconst 1, 1) := by decide +kernel
theorem own_d7_42 : decode prog_10_method_4_code 42 = .ok (.goto 4, 3) := by decide +kernel
theorem own_d7_45 : decode prog_10_method_4_code 45 = .ok (.iconst 0, 1) := by decide +kernel
theorem own_d7_46 : decode prog_10_method_4_code 46 = .ok (.ireturn, 1) := by decide +kernel
set_option maxHeartbeats 4000000 in
theorem own_ef_rmEqN (m : MethodId) (x0 : Addr) : entryFrame m #[(.ref x0), .null] 2 = mkF m 0 #[.val (.ref x0), .val .null] [] := by rfl
set_option maxRecDepth 65536 in
set_option maxHeartbeats 40000000 in
theorem rmEqN (l : Launch) (Z : State) (a0 : Array Value) (hw : ∀ d ∈ tables_1, d.before a0 Z = true) (z0 : Int32) (O2 : Sta Z Z.heap "java/lang/String" "COMPACT_STRINGS" "Z" (.int z0)) (P5 : ¬ z0 = (0 : Int32)) (ws : List Jvm.Cond) (a : Addr) (h0 : Heap) (n0 : Nat) (Z0 : n0 ≤ h0.size) :
    own_MetN l Z (⟨"com/example/hatoyama/hatoyama/ObjectMethod", "equals", "(Ljava/lang/Object;)Z"⟩ : MethodName) prog_10_method_4_code 2 (some .boolean) ws ({ frames := 0, cells := 0, slots := 0, locals := 0 } : Room) #[(.ref a), .null] h0 (fun v h L => Fr n0 L ∧ h = h0 ∧ (((v = some (.int (0 : Int32)))))) := by
  refine own_metN (plainFor_of_name own_pn4) ?_
  intro p e s m below meth c s₁ G hx hby hml hZ hown hnm hret X0 e0 go fin
  have N0 := Fr.nil n0
  refine go _ _ (fun _ k => castTop (own_ef_rmEqN m a) k) ?_
  show G (s₁.setTop (mkF m 0 #[.val (.ref a), .val .null] []))
  refine go _ _ (fun _ k => XS.aloadN X0.here hx rfl (hb hby own_d7_0) rfl rfl k) ?_
  show G (s₁.setTop (mkF m 1 #[.val (.ref a), .val .null] [.null]))
  refine go _ _ (fun _ k => X0.instanceofNull hx (g := (mkF m 1 #[.val (.ref a), .val .null] [.null])) rfl rfl (hb hby own_d7_1) _ k) ?_
  show G (s₁.setTop (mkF m 4 #[.val (.ref a), .val .null] [(.int (0 : Int32))]))
  refine go _ _ (fun _ k => XS.ifYes X0.here hx rfl (pc0 := 4) (pc' := 45) rfl (hb hby own_d7_4) rfl (by decide) (by decide) (by decide) k) ?_
  show G (s₁.setTop (mkF m 45 #[.val (.ref a), .val .null] []))
  refine go _ _ (fun _ k => XS.iconst X0.here hx rfl (hb hby own_d7_45) k) ?_
  show G (s₁.setTop (mkF m 46 #[.val (.ref a), .val .null] [(.int (0 : Int32))]))
  refine fin s₁ _ _ _ (some (.int (0 : Int32))) X0 (fun q => nomatch q) (by decide) (by decide) (by rw [e0]; exact ⟨N0, rfl, rfl⟩) _ (own_retN X0 hx (z := (0 : Int32)) (t := .boolean) hret (by simp) (hb hby own_d7_46))
set_option maxHeartbeats 4000000 in
theorem own_ef_rmEqS (m : MethodId) (x0 : Addr) (x1 : Addr) : entryFrame m #[(.ref x0), (.ref x1)] 2 = mkF m 0 #[.val (.ref x0), .val (.ref x1)] [] := by rfl
set_option maxRecDepth 65536 in
set_option maxHeartbeats 40000000 in
theorem rmEqS (l : Launch) (Z : State) (a0 : Array Value) (hw : ∀ d ∈ tables_1, d.before a0 Z = true) (z0 : Int32) (O2 : Sta Z Z.heap "java/lang/String" "COMPACT_STRINGS" "Z" (.int z0)) (P5 : ¬ z0 = (0 : Int32)) (ws : List Jvm.Cond) (a : Addr) (b : Addr) (h0 : Heap) (n0 : Nat) (Z0 : n0 ≤ h0.size) (Eb : Exa Z h0 b "java/lang/String") :
    own_MetN l Z (⟨"com/example/hatoyama/hatoyama/ObjectMethod", "equals", "(Ljava/lang/Object;)Z"⟩ : MethodName) prog_10_method_4_code 2 (some .boolean) ws ({ frames := 0, cells := 0, slots := 0, locals := 0 } : Room) #[(.ref a), (.ref b)] h0 (fun v h L => Fr n0 L ∧ h = h0 ∧ (((v = some (.int (0 : Int32)))))) := by
  refine own_metN (plainFor_of_name own_pn4) ?_
  intro p e s m below meth c s₁ G hx hby hml hZ hown hnm hret X0 e0 go fin
  have N0 := Fr.nil n0
  refine go _ _ (fun _ k => castTop (own_ef_rmEqS m a b) k) ?_
  show G (s₁.setTop (mkF m 0 #[.val (.ref a), .val (.ref b)] []))
  refine go _ _ (fun _ k => XS.aloadN X0.here hx rfl (hb hby own_d7_0) rfl rfl k) ?_
  show G (s₁.setTop (mkF m 1 #[.val (.ref a), .val (.ref b)] [(.ref b)]))
  obtain ⟨T101, X101, e101, st101⟩ := instNo X0 hx hZ hown (ow hw 47 rfl) e0 Eb (own_NSno (ow hw 93 rfl) (ow hw 19 rfl) (NS.step (ow hw 93 rfl) (own_NSroot (ow hw 94 rfl) (ow hw 19 rfl) (by decide)) (by decide)) (by decide)) (g := (mkF m 1 #[.val (.ref a), .val (.ref b)] [(.ref b)])) rfl rfl (hb hby own_d7_1)
  refine go _ _ (st101) ?_
  show G (T101.setTop (mkF m 4 #[.val (.ref a), .val (.ref b)] [(.int (0 : Int32))]))
  refine go _ _ (fun _ k => XS.ifYes X101.here hx rfl (pc0 := 4) (pc' := 45) rfl (hb hby own_d7_4) rfl (by decide) (by decide) (by decide) k) ?_
  show G (T101.setTop (mkF m 45 #[.val (.ref a), .val (.ref b)] []))
  refine go _ _ (fun _ k => XS.iconst X101.here hx rfl (hb hby own_d7_45) k) ?_
  show G (T101.setTop (mkF m 46 #[.val (.ref a), .val (.ref b)] [(.int (0 : Int32))]))
  refine fin T101 _ _ _ (some (.int (0 : Int32))) X101 (fun q => nomatch q) (by decide) (by decide) (by rw [e101]; exact ⟨N0, rfl, rfl⟩) _ (own_retN X101 hx (z := (0 : Int32)) (t := .boolean) hret (by simp) (hb hby own_d7_46))
theorem own_pd6 : parseMethodDescriptor "(Ljava/lang/Object;)Z" = some ⟨[(.object "java/lang/Object")], some .boolean⟩ := by decide +kernel
set_option maxHeartbeats 4000000 in
theorem own_ef_rmEqO (m : MethodId) (x0 : Addr) (x1 : Addr) : entryFrame m #[(.ref x0), (.ref x1)] 2 = mkF m 0 #[.val (.ref x0), .val (.ref x1)] [] := by rfl
set_option maxRecDepth 65536 in
set_option maxHeartbeats 40000000 in
theorem rmEqO (l : Launch) (Z : State) (a0 : Array Value) (hw : ∀ d ∈ tables_1, d.before a0 Z = true) (z0 : Int32) (O2 : Sta Z Z.heap "java/lang/String" "COMPACT_STRINGS" "Z" (.int z0)) (P5 : ¬ z0 = (0 : Int32)) (ws : List Jvm.Cond) (a : Addr) (b : Addr) (o1 : Addr) (m1 : Addr) (o2 : Addr) (m2 : Addr) (c1 : List Int32) (c2 : List Int32) (d1 : List Int32) (d2 : List Int32) (h0 : Heap) (n0 : Nat) (Z0 : n0 ≤ h0.size) (Xo : Old Z n0 h0) (Eb : Exa Z h0 b "com/example/hatoyama/hatoyama/ObjectMethod") (F1 : Fld Z h0 a "com/example/hatoyama/hatoyama/ObjectMethod" "object" "Ljava/lang/String;" (.ref o1)) (F2 : Fld Z h0 a "com/example/hatoyama/hatoyama/ObjectMethod" "method" "Ljava/lang/String;" (.ref m1)) (F3 : Fld Z h0 b "com/example/hatoyama/hatoyama/ObjectMethod" "object" "Ljava/lang/String;" (.ref o2)) (F4 : Fld Z h0 b "com/example/hatoyama/hatoyama/ObjectMethod" "method" "Ljava/lang/String;" (.ref m2)) (Eo1 : Exa Z h0 o1 "java/lang/String") (Em1 : Exa Z h0 m1 "java/lang/String") (Eo2 : Exa Z h0 o2 "java/lang/String") (Em2 : Exa Z h0 m2 "java/lang/String") (So1 : own_Str Z h0 o1 c1) (Sm1 : own_Str Z h0 m1 c2) (So2 : own_Str Z h0 o2 d1) (Sm2 : own_Str Z h0 m2 d2) :
    own_MetN l Z (⟨"com/example/hatoyama/hatoyama/ObjectMethod", "equals", "(Ljava/lang/Object;)Z"⟩ : MethodName) prog_10_method_4_code 2 (some .boolean) ws ({ frames := 2, cells := 0, slots := 0, locals := 28 } : Room) #[(.ref a), (.ref b)] h0 (fun v h L => Fr n0 L ∧ h = h0 ∧ (((v = some (.int (1 : Int32))) ∧ (c1 = d1) ∧ (c2 = d2)) ∨ ((v = some (.int (0 : Int32))) ∧ (¬ (c1 = d1 ∧ c2 = d2))))) := by
  refine own_metN (plainFor_of_name own_pn4) ?_
  intro p e s m below meth c s₁ G hx hby hml hZ hown hnm hret X0 e0 go fin
  have N0 := Fr.nil n0
  refine go _ _ (fun _ k => castTop (own_ef_rmEqO m a b) k) ?_
  show G (s₁.setTop (mkF m 0 #[.val (.ref a), .val (.ref b)] []))
  refine go _ _ (fun _ k => XS.aloadN X0.here hx rfl (hb hby own_d7_0) rfl rfl k) ?_
  show G (s₁.setTop (mkF m 1 #[.val (.ref a), .val (.ref b)] [(.ref b)]))
  obtain ⟨T101, X101, e101, st101⟩ := instY X0 hx hZ hown (ow hw 47 rfl) e0 (Ins.self Eb) (g := (mkF m 1 #[.val (.ref a), .val (.ref b)] [(.ref b)])) rfl rfl (hb hby own_d7_1)
  refine go _ _ (st101) ?_
  show G (T101.setTop (mkF m 4 #[.val (.ref a), .val (.ref b)] [(.int (1 : Int32))]))
  refine go _ _ (fun _ k => XS.ifNo X101.here hx rfl (hb hby own_d7_4) rfl (by decide) k) ?_
  show G (T101.setTop (mkF m 7 #[.val (.ref a), .val (.ref b)] []))
  refine go _ _ (fun _ k => XS.aloadN X101.here hx rfl (hb hby own_d7_7) rfl rfl k) ?_
  show G (T101.setTop (mkF m 8 #[.val (.ref a), .val (.ref b)] [(.ref a)]))
  obtain ⟨T102, X102, e102, st102⟩ := getF X101 hx hZ hown (host := "") (Or.inl (ow hw 34 rfl)) Via.refl e101 F1 (g := (mkF m 8 #[.val (.ref a), .val (.ref b)] [(.ref a)])) rfl rfl (hb hby own_d7_8)
  refine go _ _ (st102) ?_
  show G (T102.setTop (mkF m 11 #[.val (.ref a), .val (.ref b)] [(.ref o1)]))
  refine go _ _ (fun _ k => XS.aloadN X102.here hx rfl (hb hby own_d7_11) rfl rfl k) ?_
  show G (T102.setTop (mkF m 12 #[.val (.ref a), .val (.ref b)] [(.ref b), (.ref o1)]))
  obtain ⟨T103, X103, e103, st103⟩ := castY X102 hx hZ hown (ow hw 47 rfl) e102 (Ins.self Eb) (g := (mkF m 12 #[.val (.ref a), .val (.ref b)] [(.ref b), (.ref o1)])) rfl rfl (hb hby own_d7_12)
  refine go _ _ (st103) ?_
  show G (T103.setTop (mkF m 15 #[.val (.ref a), .val (.ref b)] [(.ref b), (.ref o1)]))
  obtain ⟨T104, X104, e104, st104⟩ := getF X103 hx hZ hown (host := "") (Or.inl (ow hw 34 rfl)) Via.refl e103 F3 (g := (mkF m 15 #[.val (.ref a), .val (.ref b)] [(.ref b), (.ref o1)])) rfl rfl (hb hby own_d7_15)
  refine go _ _ (st104) ?_
  show G (T104.setTop (mkF m 18 #[.val (.ref a), .val (.ref b)] [(.ref o2), (.ref o1)]))
  obtain ⟨tx105, kbx105, Esx105, Vsx105, Csx105, Asx105, cdx105, bdx105, lnx105⟩ := own_Str_W So1
  obtain ⟨ty105, kby105, Esy105, Vsy105, Csy105, Asy105, cdy105, bdy105, lny105⟩ := own_Str_W So2
  obtain ⟨rv105, T105, L105, X105, q105, st105⟩ := own_vi X104 hx hZ (Q := fun v h L => ((v = some (.int 1) ∧ c1 = d1) ∨ (v = some (.int 0) ∧ ¬ c1 = d1)) ∧ L = [] ∧ h = h0) (kc := 0) (ks := 0) (y := (⟨"java/lang/String", "equals", "(Ljava/lang/Object;)Z"⟩ : MethodName)) (z := (⟨"java/lang/String", "equals", "(Ljava/lang/Object;)Z"⟩ : MethodName)) hown (ow hw 49 rfl) (ow hw 50 rfl) (ow hw 52 rfl) (ow hw 51 rfl) (Or.inl rfl) (by decide) (StrChars.Road.eqW (W := 0) hZ (own_heq hw) (kI := 4) (ow hw 12 rfl) Esx105 Vsx105 Csx105 Asx105 cdx105 bdx105 lnx105 Esy105 Vsy105 Csy105 Asy105 cdy105 bdy105 lny105 (O2.ext Xo.2) P5 (by decide) (by decide)) e104 Eo1 (g := (mkF m 18 #[.val (.ref a), .val (.ref b)] [(.ref o2), (.ref o1)])) rfl (by rw [hml]; rfl) (argsL := [(.ref o2)]) (rest := []) rfl (lenOf own_pd6 rfl) rfl (by show 2 * 0 + _ ≤ _; exact Nat.le_of_eq rfl) (hb hby own_d7_18) (by decide) (by decide)
  obtain ⟨q105, rfl, e105⟩ := q105
  have N105 := Fr.app N0 (Fr.nil n0)
  rcases q105 with ⟨rfl, pe105⟩ | ⟨rfl, pe105⟩
  · refine go _ _ (st105) ?_
    show G (T105.setTop (mkF m 21 #[.val (.ref a), .val (.ref b)] [(.int (1 : Int32))]))
    refine go _ _ (fun _ k => XS.ifNo X105.here hx rfl (hb hby own_d7_21) rfl (by decide) k) ?_
    show G (T105.setTop (mkF m 24 #[.val (.ref a), .val (.ref b)] []))
    refine go _ _ (fun _ k => XS.aloadN X105.here hx rfl (hb hby own_d7_24) rfl rfl k) ?_
    show G (T105.setTop (mkF m 25 #[.val (.ref a), .val (.ref b)] [(.ref a)]))
    obtain ⟨T106, X106, e106, st106⟩ := getF X105 hx hZ hown (host := "") (Or.inl (ow hw 37 rfl)) Via.refl e105 F2 (g := (mkF m 25 #[.val (.ref a), .val (.ref b)] [(.ref a)])) rfl rfl (hb hby own_d7_25)
    refine go _ _ (st106) ?_
    show G (T106.setTop (mkF m 28 #[.val (.ref a), .val (.ref b)] [(.ref m1)]))
    refine go _ _ (fun _ k => XS.aloadN X106.here hx rfl (hb hby own_d7_28) rfl rfl k) ?_
    show G (T106.setTop (mkF m 29 #[.val (.ref a), .val (.ref b)] [(.ref b), (.ref m1)]))
    obtain ⟨T107, X107, e107, st107⟩ := castY X106 hx hZ hown (ow hw 47 rfl) e106 (Ins.self Eb) (g := (mkF m 29 #[.val (.ref a), .val (.ref b)] [(.ref b), (.ref m1)])) rfl rfl (hb hby own_d7_29)
    refine go _ _ (st107) ?_
    show G (T107.setTop (mkF m 32 #[.val (.ref a), .val (.ref b)] [(.ref b), (.ref m1)]))
    obtain ⟨T108, X108, e108, st108⟩ := getF X107 hx hZ hown (host := "") (Or.inl (ow hw 37 rfl)) Via.refl e107 F4 (g := (mkF m 32 #[.val (.ref a), .val (.ref b)] [(.ref b), (.ref m1)])) rfl rfl (hb hby own_d7_32)
    refine go _ _ (st108) ?_
    show G (T108.setTop (mkF m 35 #[.val (.ref a), .val (.ref b)] [(.ref m2), (.ref m1)]))
    obtain ⟨tx109, kbx109, Esx109, Vsx109, Csx109, Asx109, cdx109, bdx109, lnx109⟩ := own_Str_W Sm1
    obtain ⟨ty109, kby109, Esy109, Vsy109, Csy109, Asy109, cdy109, bdy109, lny109⟩ := own_Str_W Sm2
    obtain ⟨rv109, T109, L109, X109, q109, st109⟩ := own_vi X108 hx hZ (Q := fun v h L => ((v = some (.int 1) ∧ c2 = d2) ∨ (v = some (.int 0) ∧ ¬ c2 = d2)) ∧ L = [] ∧ h = h0) (kc := 0) (ks := 0) (y := (⟨"java/lang/String", "equals", "(Ljava/lang/Object;)Z"⟩ : MethodName)) (z := (⟨"java/lang/String", "equals", "(Ljava/lang/Object;)Z"⟩ : MethodName)) hown (ow hw 49 rfl) (ow hw 50 rfl) (ow hw 52 rfl) (ow hw 51 rfl) (Or.inl rfl) (by decide) (StrChars.Road.eqW (W := 0) hZ (own_heq hw) (kI := 4) (ow hw 12 rfl) Esx109 Vsx109 Csx109 Asx109 cdx109 bdx109 lnx109 Esy109 Vsy109 Csy109 Asy109 cdy109 bdy109 lny109 (O2.ext Xo.2) P5 (by decide) (by decide)) e108 Em1 (g := (mkF m 35 #[.val (.ref a), .val (.ref b)] [(.ref m2), (.ref m1)])) rfl (by rw [hml]; rfl) (argsL := [(.ref m2)]) (rest := []) rfl (lenOf own_pd6 rfl) rfl (by show 2 * 0 + _ ≤ _; exact Nat.le_of_eq rfl) (hb hby own_d7_35) (by decide) (by decide)
    obtain ⟨q109, rfl, e109⟩ := q109
    have N109 := Fr.app N105 (Fr.nil n0)
    rcases q109 with ⟨rfl, pe109⟩ | ⟨rfl, pe109⟩
    · refine go _ _ (st109) ?_
      show G (T109.setTop (mkF m 38 #[.val (.ref a), .val (.ref b)] [(.int (1 : Int32))]))
      refine go _ _ (fun _ k => XS.ifNo X109.here hx rfl (hb hby own_d7_38) rfl (by decide) k) ?_
      show G (T109.setTop (mkF m 41 #[.val (.ref a), .val (.ref b)] []))
      refine go _ _ (fun _ k => XS.iconst X109.here hx rfl (hb hby own_d7_41) k) ?_
      show G (T109.setTop (mkF m 42 #[.val (.ref a), .val (.ref b)] [(.int (1 : Int32))]))
      refine go _ _ (fun _ k => XS.goto X109.here hx rfl (pc0 := 42) (pc' := 46) rfl (hb hby own_d7_42) (by decide) (by decide) k) ?_
      show G (T109.setTop (mkF m 46 #[.val (.ref a), .val (.ref b)] [(.int (1 : Int32))]))
      refine fin T109 _ _ _ (some (.int (1 : Int32))) X109 (fun q => nomatch q) (by decide) (by decide) (by rw [e109]; exact ⟨N109, rfl, (Or.inl ⟨rfl, pe105, pe109⟩)⟩) _ (own_retN X109 hx (z := (1 : Int32)) (t := .boolean) hret (by simp) (hb hby own_d7_46))
    · refine go _ _ (st109) ?_
      show G (T109.setTop (mkF m 38 #[.val (.ref a), .val (.ref b)] [(.int (0 : Int32))]))
      refine go _ _ (fun _ k => XS.ifYes X109.here hx rfl (pc0 := 38) (pc' := 45) rfl (hb hby own_d7_38) rfl (by decide) (by decide) (by decide) k) ?_
      show G (T109.setTop (mkF m 45 #[.val (.ref a), .val (.ref b)] []))
      refine go _ _ (fun _ k => XS.iconst X109.here hx rfl (hb hby own_d7_45) k) ?_
      show G (T109.setTop (mkF m 46 #[.val (.ref a), .val (.ref b)] [(.int (0 : Int32))]))
      refine fin T109 _ _ _ (some (.int (0 : Int32))) X109 (fun q => nomatch q) (by decide) (by decide) (by rw [e109]; exact ⟨N109, rfl, (Or.inr ⟨rfl, (fun q => pe109 q.2)⟩)⟩) _ (own_retN X109 hx (z := (0 : Int32)) (t := .boolean) hret (by simp) (hb hby own_d7_46))
  · refine go _ _ (st105) ?_
    show G (T105.setTop (mkF m 21 #[.val (.ref a), .val (.ref b)] [(.int (0 : Int32))]))
    refine go _ _ (fun _ k => XS.ifYes X105.here hx rfl (pc0 := 21) (pc' := 45) rfl (hb hby own_d7_21) rfl (by decide) (by decide) (by decide) k) ?_
    show G (T105.setTop (mkF m 45 #[.val (.ref a), .val (.ref b)] []))
    refine go _ _ (fun _ k => XS.iconst X105.here hx rfl (hb hby own_d7_45) k) ?_
    show G (T105.setTop (mkF m 46 #[.val (.ref a), .val (.ref b)] [(.int (0 : Int32))]))
    refine fin T105 _ _ _ (some (.int (0 : Int32))) X105 (fun q => nomatch q) (by decide) (by decide) (by rw [e105]; exact ⟨N105, rfl, (Or.inr ⟨rfl, (fun q => pe105 q.1)⟩)⟩) _ (own_retN X105 hx (z := (0 : Int32)) (t := .boolean) hret (by simp) (hb hby own_d7_46))
theorem own_d6_0 : decode method_5_code 0 = .ok (.iload_n 0, 1) := by decide +kernel
theorem own_d6_1 : decode method_5_code 1 = .ok (.iload_n 3, 1) := by decide +kernel
theorem own_d6_2 : decode method_5_code 2 = .ok (.if_icmp .eq 5, 3) := by decide +kernel
theorem own_d6_5 : decode method_5_code 5 = .ok (.iconst 0, 1) := by decide +kernel
theorem own_d6_6 : decode method_5_code 6 = .ok (.ireturn, 1) := by decide +kernel
theorem own_d6_7 : decode method_5_code 7 = .ok (.iload_n 0, 1) := by decide +kernel
theorem own_d6_8 : decode method_5_code 8 = .ok (.iconst 1, 1) := by decide +kernel
theorem own_d6_9 : decode method_5_code 9 = .ok (.if_icmp .lt 11, 3) := by decide +kernel
theorem own_d6_12 : decode method_5_code 12 = .ok (.iload_n 1, 1) := by decide +kernel
theorem own_d6_13 : decode method_5_code 13 = .ok (.iload 4, 2) := by decide +kernel
theorem own_d6_15 : decode method_5_code 15 = .ok (.if_icmp .eq 5, 3) := by decide +kernel
theorem own_d6_18 : decode method_5_code 18 = .ok (.iconst 0, 1) := by decide +kernel
theorem own_d6_19 : decode method_5_code 19 = .ok (.ireturn, 1) := by decide +kernel
theorem own_d6_20 : decode method_5_code 20 = .ok (.iload_n 0, 1) := by decide +kernel
theorem own_d6_21 : decode method_5_code 21 = .ok (.iconst 2, 1) := by decide +kernel
theorem own_d6_22 : decode method_5_code 22 = .ok (.if_icmp .lt 11, 3) := by decide +kernel
theorem own_d6_25 : decode method_5_code 25 = .ok (.iload_n 2, 1) := by decide +kernel
theorem own_d6_26 : decode method_5_code 26 = .ok (.iload 5, 2) := by decide +kernel
theorem own_d6_28 : decode method_5_code 28 = .ok (.if_icmp .eq 5, 3) := by decide +kernel
theorem own_d6_31 : decode method_5_code 31 = .ok (.iconst 0, 1) := by decide +kernel
theorem own_d6_32 : decode method_5_code 32 = .ok (.ireturn, 1) := by decide +kernel
theorem own_d6_33 : decode method_5_code 33 = .ok (.iconst 1, 1) := by decide +kernel
theorem own_d6_34 : decode method_5_code 34 = .ok (.ireturn, 1) := by decide +kernel
set_option maxHeartbeats 4000000 in
theorem own_ef_rm6 (m : MethodId) (x0 : Int32) (x1 : Int32) (x2 : Int32) (x3 : Int32) (x4 : Int32) (x5 : Int32) : entryFrame m #[(.int x0), (.int x1), (.int x2), (.int x3), (.int x4), (.int x5)] 6 = mkF m 0 #[.val (.int x0), .val (.int x1), .val (.int x2), .val (.int x3), .val (.int x4), .val (.int x5)] [] := by rfl
set_option maxRecDepth 65536 in
set_option maxHeartbeats 40000000 in
theorem rm6 (l : Launch) (Z : State) (a0 : Array Value) (hw : ∀ d ∈ tables_1, d.before a0 Z = true) (z0 : Int32) (O2 : Sta Z Z.heap "java/lang/String" "COMPACT_STRINGS" "Z" (.int z0)) (P5 : ¬ z0 = (0 : Int32)) (ws : List Jvm.Cond) (n : Int32) (x0 : Int32) (x1 : Int32) (mm : Int32) (y0 : Int32) (y1 : Int32) (h0 : Heap) (n0 : Nat) (Z0 : n0 ≤ h0.size) (hn : own_012 n) (hm : own_012 mm) :
    own_MetN l Z (⟨"com/example/hatoyama/hatoyama/ObjectMethodEqualsPinLaw", "same", "(ICCICC)Z"⟩ : MethodName) method_5_code 6 (some .boolean) ws ({ frames := 0, cells := 0, slots := 0, locals := 0 } : Room) #[(.int n), (.int x0), (.int x1), (.int mm), (.int y0), (.int y1)] h0 (fun v h L => Fr n0 L ∧ h = h0 ∧ (((v = some (.int (1 : Int32))) ∧ ((own_cs n x0 x1) = (own_cs mm y0 y1))) ∨ ((v = some (.int (0 : Int32))) ∧ (¬ (own_cs n x0 x1) = (own_cs mm y0 y1))))) := by
  refine own_metN (plainFor_of_name own_pn0) ?_
  intro p e s m below meth c s₁ G hx hby hml hZ hown hnm hret X0 e0 go fin
  have N0 := Fr.nil n0
  refine go _ _ (fun _ k => castTop (own_ef_rm6 m n x0 x1 mm y0 y1) k) ?_
  show G (s₁.setTop (mkF m 0 #[.val (.int n), .val (.int x0), .val (.int x1), .val (.int mm), .val (.int y0), .val (.int y1)] []))
  refine go _ _ (fun _ k => XS.iloadN X0.here hx rfl (hb hby own_d6_0) rfl (XS.iloadN X0.here hx rfl (hb hby own_d6_1) rfl k)) ?_
  show G (s₁.setTop (mkF m 2 #[.val (.int n), .val (.int x0), .val (.int x1), .val (.int mm), .val (.int y0), .val (.int y1)] [(.int mm), (.int n)]))
  by_cases hc2_101 : n = mm
  · refine go _ _ (fun _ k => XS.icmpYes X0.here hx rfl (pc0 := 2) (pc' := 7) rfl (hb hby own_d6_2) rfl (teq hc2_101).1 (by decide) (by decide) k) ?_
    show G (s₁.setTop (mkF m 7 #[.val (.int n), .val (.int x0), .val (.int x1), .val (.int mm), .val (.int y0), .val (.int y1)] []))
    refine go _ _ (fun _ k => XS.iloadN X0.here hx rfl (hb hby own_d6_7) rfl (XS.iconst X0.here hx rfl (hb hby own_d6_8) k)) ?_
    show G (s₁.setTop (mkF m 9 #[.val (.int n), .val (.int x0), .val (.int x1), .val (.int mm), .val (.int y0), .val (.int y1)] [(.int (1 : Int32)), (.int n)]))
    by_cases hc9_102 : n < (1 : Int32)
    · refine go _ _ (fun _ k => XS.icmpYes X0.here hx rfl (pc0 := 9) (pc' := 20) rfl (hb hby own_d6_9) rfl (tlt hc9_102).1 (by decide) (by decide) k) ?_
      show G (s₁.setTop (mkF m 20 #[.val (.int n), .val (.int x0), .val (.int x1), .val (.int mm), .val (.int y0), .val (.int y1)] []))
      refine go _ _ (fun _ k => XS.iloadN X0.here hx rfl (hb hby own_d6_20) rfl (XS.iconst X0.here hx rfl (hb hby own_d6_21) k)) ?_
      show G (s₁.setTop (mkF m 22 #[.val (.int n), .val (.int x0), .val (.int x1), .val (.int mm), .val (.int y0), .val (.int y1)] [(.int (2 : Int32)), (.int n)]))
      by_cases hc22_103 : n < (2 : Int32)
      · refine go _ _ (fun _ k => XS.icmpYes X0.here hx rfl (pc0 := 22) (pc' := 33) rfl (hb hby own_d6_22) rfl (tlt hc22_103).1 (by decide) (by decide) k) ?_
        show G (s₁.setTop (mkF m 33 #[.val (.int n), .val (.int x0), .val (.int x1), .val (.int mm), .val (.int y0), .val (.int y1)] []))
        refine go _ _ (fun _ k => XS.iconst X0.here hx rfl (hb hby own_d6_33) k) ?_
        show G (s₁.setTop (mkF m 34 #[.val (.int n), .val (.int x0), .val (.int x1), .val (.int mm), .val (.int y0), .val (.int y1)] [(.int (1 : Int32))]))
        refine fin s₁ _ _ _ (some (.int (1 : Int32))) X0 (fun q => nomatch q) (by decide) (by decide) (by rw [e0]; exact ⟨N0, rfl, (Or.inl ⟨rfl, (own_s_t hn hc2_101 (Or.inl hc9_102) (Or.inl hc22_103))⟩)⟩) _ (own_retN X0 hx (z := (1 : Int32)) (t := .boolean) hret (by simp) (hb hby own_d6_34))
      · refine go _ _ (fun _ k => XS.icmpNo X0.here hx rfl (hb hby own_d6_22) rfl (flt hc22_103).1 k) ?_
        show G (s₁.setTop (mkF m 25 #[.val (.int n), .val (.int x0), .val (.int x1), .val (.int mm), .val (.int y0), .val (.int y1)] []))
        refine go _ _ (fun _ k => XS.iloadN X0.here hx rfl (hb hby own_d6_25) rfl (XS.iload X0.here hx rfl (hb hby own_d6_26) rfl k)) ?_
        show G (s₁.setTop (mkF m 28 #[.val (.int n), .val (.int x0), .val (.int x1), .val (.int mm), .val (.int y0), .val (.int y1)] [(.int y1), (.int x1)]))
        by_cases hc28_104 : x1 = y1
        · refine go _ _ (fun _ k => XS.icmpYes X0.here hx rfl (pc0 := 28) (pc' := 33) rfl (hb hby own_d6_28) rfl (teq hc28_104).1 (by decide) (by decide) k) ?_
          show G (s₁.setTop (mkF m 33 #[.val (.int n), .val (.int x0), .val (.int x1), .val (.int mm), .val (.int y0), .val (.int y1)] []))
          refine go _ _ (fun _ k => XS.iconst X0.here hx rfl (hb hby own_d6_33) k) ?_
          show G (s₁.setTop (mkF m 34 #[.val (.int n), .val (.int x0), .val (.int x1), .val (.int mm), .val (.int y0), .val (.int y1)] [(.int (1 : Int32))]))
          refine fin s₁ _ _ _ (some (.int (1 : Int32))) X0 (fun q => nomatch q) (by decide) (by decide) (by rw [e0]; exact ⟨N0, rfl, (Or.inl ⟨rfl, (own_s_t hn hc2_101 (Or.inl hc9_102) (Or.inr hc28_104))⟩)⟩) _ (own_retN X0 hx (z := (1 : Int32)) (t := .boolean) hret (by simp) (hb hby own_d6_34))
        · refine go _ _ (fun _ k => XS.icmpNo X0.here hx rfl (hb hby own_d6_28) rfl (feq hc28_104).1 k) ?_
          show G (s₁.setTop (mkF m 31 #[.val (.int n), .val (.int x0), .val (.int x1), .val (.int mm), .val (.int y0), .val (.int y1)] []))
          refine go _ _ (fun _ k => XS.iconst X0.here hx rfl (hb hby own_d6_31) k) ?_
          show G (s₁.setTop (mkF m 32 #[.val (.int n), .val (.int x0), .val (.int x1), .val (.int mm), .val (.int y0), .val (.int y1)] [(.int (0 : Int32))]))
          refine fin s₁ _ _ _ (some (.int (0 : Int32))) X0 (fun q => nomatch q) (by decide) (by decide) (by rw [e0]; exact ⟨N0, rfl, (Or.inr ⟨rfl, (own_s_y hn hc2_101 hc22_103 hc28_104)⟩)⟩) _ (own_retN X0 hx (z := (0 : Int32)) (t := .boolean) hret (by simp) (hb hby own_d6_32))
    · refine go _ _ (fun _ k => XS.icmpNo X0.here hx rfl (hb hby own_d6_9) rfl (flt hc9_102).1 k) ?_
      show G (s₁.setTop (mkF m 12 #[.val (.int n), .val (.int x0), .val (.int x1), .val (.int mm), .val (.int y0), .val (.int y1)] []))
      refine go _ _ (fun _ k => XS.iloadN X0.here hx rfl (hb hby own_d6_12) rfl (XS.iload X0.here hx rfl (hb hby own_d6_13) rfl k)) ?_
      show G (s₁.setTop (mkF m 15 #[.val (.int n), .val (.int x0), .val (.int x1), .val (.int mm), .val (.int y0), .val (.int y1)] [(.int y0), (.int x0)]))
      by_cases hc15_105 : x0 = y0
      · refine go _ _ (fun _ k => XS.icmpYes X0.here hx rfl (pc0 := 15) (pc' := 20) rfl (hb hby own_d6_15) rfl (teq hc15_105).1 (by decide) (by decide) k) ?_
        show G (s₁.setTop (mkF m 20 #[.val (.int n), .val (.int x0), .val (.int x1), .val (.int mm), .val (.int y0), .val (.int y1)] []))
        refine go _ _ (fun _ k => XS.iloadN X0.here hx rfl (hb hby own_d6_20) rfl (XS.iconst X0.here hx rfl (hb hby own_d6_21) k)) ?_
        show G (s₁.setTop (mkF m 22 #[.val (.int n), .val (.int x0), .val (.int x1), .val (.int mm), .val (.int y0), .val (.int y1)] [(.int (2 : Int32)), (.int n)]))
        by_cases hc22_106 : n < (2 : Int32)
        · refine go _ _ (fun _ k => XS.icmpYes X0.here hx rfl (pc0 := 22) (pc' := 33) rfl (hb hby own_d6_22) rfl (tlt hc22_106).1 (by decide) (by decide) k) ?_
          show G (s₁.setTop (mkF m 33 #[.val (.int n), .val (.int x0), .val (.int x1), .val (.int mm), .val (.int y0), .val (.int y1)] []))
          refine go _ _ (fun _ k => XS.iconst X0.here hx rfl (hb hby own_d6_33) k) ?_
          show G (s₁.setTop (mkF m 34 #[.val (.int n), .val (.int x0), .val (.int x1), .val (.int mm), .val (.int y0), .val (.int y1)] [(.int (1 : Int32))]))
          refine fin s₁ _ _ _ (some (.int (1 : Int32))) X0 (fun q => nomatch q) (by decide) (by decide) (by rw [e0]; exact ⟨N0, rfl, (Or.inl ⟨rfl, (own_s_t hn hc2_101 (Or.inr hc15_105) (Or.inl hc22_106))⟩)⟩) _ (own_retN X0 hx (z := (1 : Int32)) (t := .boolean) hret (by simp) (hb hby own_d6_34))
        · refine go _ _ (fun _ k => XS.icmpNo X0.here hx rfl (hb hby own_d6_22) rfl (flt hc22_106).1 k) ?_
          show G (s₁.setTop (mkF m 25 #[.val (.int n), .val (.int x0), .val (.int x1), .val (.int mm), .val (.int y0), .val (.int y1)] []))
          refine go _ _ (fun _ k => XS.iloadN X0.here hx rfl (hb hby own_d6_25) rfl (XS.iload X0.here hx rfl (hb hby own_d6_26) rfl k)) ?_
          show G (s₁.setTop (mkF m 28 #[.val (.int n), .val (.int x0), .val (.int x1), .val (.int mm), .val (.int y0), .val (.int y1)] [(.int y1), (.int x1)]))
          by_cases hc28_107 : x1 = y1
          · refine go _ _ (fun _ k => XS.icmpYes X0.here hx rfl (pc0 := 28) (pc' := 33) rfl (hb hby own_d6_28) rfl (teq hc28_107).1 (by decide) (by decide) k) ?_
            show G (s₁.setTop (mkF m 33 #[.val (.int n), .val (.int x0), .val (.int x1), .val (.int mm), .val (.int y0), .val (.int y1)] []))
            refine go _ _ (fun _ k => XS.iconst X0.here hx rfl (hb hby own_d6_33) k) ?_
            show G (s₁.setTop (mkF m 34 #[.val (.int n), .val (.int x0), .val (.int x1), .val (.int mm), .val (.int y0), .val (.int y1)] [(.int (1 : Int32))]))
            refine fin s₁ _ _ _ (some (.int (1 : Int32))) X0 (fun q => nomatch q) (by decide) (by decide) (by rw [e0]; exact ⟨N0, rfl, (Or.inl ⟨rfl, (own_s_t hn hc2_101 (Or.inr hc15_105) (Or.inr hc28_107))⟩)⟩) _ (own_retN X0 hx (z := (1 : Int32)) (t := .boolean) hret (by simp) (hb hby own_d6_34))
          · refine go _ _ (fun _ k => XS.icmpNo X0.here hx rfl (hb hby own_d6_28) rfl (feq hc28_107).1 k) ?_
            show G (s₁.setTop (mkF m 31 #[.val (.int n), .val (.int x0), .val (.int x1), .val (.int mm), .val (.int y0), .val (.int y1)] []))
            refine go _ _ (fun _ k => XS.iconst X0.here hx rfl (hb hby own_d6_31) k) ?_
            show G (s₁.setTop (mkF m 32 #[.val (.int n), .val (.int x0), .val (.int x1), .val (.int mm), .val (.int y0), .val (.int y1)] [(.int (0 : Int32))]))
            refine fin s₁ _ _ _ (some (.int (0 : Int32))) X0 (fun q => nomatch q) (by decide) (by decide) (by rw [e0]; exact ⟨N0, rfl, (Or.inr ⟨rfl, (own_s_y hn hc2_101 hc22_106 hc28_107)⟩)⟩) _ (own_retN X0 hx (z := (0 : Int32)) (t := .boolean) hret (by simp) (hb hby own_d6_32))
      · refine go _ _ (fun _ k => XS.icmpNo X0.here hx rfl (hb hby own_d6_15) rfl (feq hc15_105).1 k) ?_
        show G (s₁.setTop (mkF m 18 #[.val (.int n), .val (.int x0), .val (.int x1), .val (.int mm), .val (.int y0), .val (.int y1)] []))
        refine go _ _ (fun _ k => XS.iconst X0.here hx rfl (hb hby own_d6_18) k) ?_
        show G (s₁.setTop (mkF m 19 #[.val (.int n), .val (.int x0), .val (.int x1), .val (.int mm), .val (.int y0), .val (.int y1)] [(.int (0 : Int32))]))
        refine fin s₁ _ _ _ (some (.int (0 : Int32))) X0 (fun q => nomatch q) (by decide) (by decide) (by rw [e0]; exact ⟨N0, rfl, (Or.inr ⟨rfl, (own_s_x hn hc2_101 hc9_102 hc15_105)⟩)⟩) _ (own_retN X0 hx (z := (0 : Int32)) (t := .boolean) hret (by simp) (hb hby own_d6_19))
  · refine go _ _ (fun _ k => XS.icmpNo X0.here hx rfl (hb hby own_d6_2) rfl (feq hc2_101).1 k) ?_
    show G (s₁.setTop (mkF m 5 #[.val (.int n), .val (.int x0), .val (.int x1), .val (.int mm), .val (.int y0), .val (.int y1)] []))
    refine go _ _ (fun _ k => XS.iconst X0.here hx rfl (hb hby own_d6_5) k) ?_
    show G (s₁.setTop (mkF m 6 #[.val (.int n), .val (.int x0), .val (.int x1), .val (.int mm), .val (.int y0), .val (.int y1)] [(.int (0 : Int32))]))
    refine fin s₁ _ _ _ (some (.int (0 : Int32))) X0 (fun q => nomatch q) (by decide) (by decide) (by rw [e0]; exact ⟨N0, rfl, (Or.inr ⟨rfl, (own_s_n hn hm hc2_101)⟩)⟩) _ (own_retN X0 hx (z := (0 : Int32)) (t := .boolean) hret (by simp) (hb hby own_d6_6))
theorem own_pd7 : parseMethodDescriptor "(I)I" = some ⟨[.int], some .int⟩ := by decide +kernel
theorem own_pd8 : parseMethodDescriptor "(II)C" = some ⟨[.int, .int], some .char⟩ := by decide +kernel
theorem own_pd9 : parseMethodDescriptor "(ICC)Ljava/lang/String;" = some ⟨[.int, .char, .char], some (.object "java/lang/String")⟩ := by decide +kernel
theorem own_pd10 : parseMethodDescriptor "(Ljava/lang/String;Ljava/lang/String;)V" = some ⟨[(.object "java/lang/String"), (.object "java/lang/String")], none⟩ := by decide +kernel
theorem own_pd11 : parseMethodDescriptor "(ICCICC)Z" = some ⟨[.int, .char, .char, .int, .char, .char], some .boolean⟩ := by decide +kernel
set_option maxHeartbeats 4000000 in
theorem own_ef_rmLaw (m : MethodId) (x0 : Int32) (x1 : Int32) (x2 : Int32) (x3 : Int32) (x4 : Int32) : entryFrame m #[(.int x0), (.int x1), (.int x2), (.int x3), (.int x4)] maxLocals = mkF m 0 #[.val (.int x0), .val (.int x1), .val (.int x2), .val (.int x3), .val (.int x4), .unset, .unset, .unset, .unset, .unset, .unset, .unset, .unset, .unset, .unset, .unset, .unset, .unset, .unset, .unset, .unset, .unset, .unset, .unset, .unset] [] := by simp [entryFrame, mkF, argsToLocals, Value.category, maxLocals]
set_option maxRecDepth 65536 in
set_option maxHeartbeats 40000000 in
theorem rmLaw (l : Launch) (Z : State) (a0 : Array Value) (hw : ∀ d ∈ tables_1, d.before a0 Z = true) (z0 : Int32) (O2 : Sta Z Z.heap "java/lang/String" "COMPACT_STRINGS" "Z" (.int z0)) (P5 : ¬ z0 = (0 : Int32)) (ws : List Jvm.Cond) (p0 : Int32) (p1 : Int32) (p2 : Int32) (p3 : Int32) (p4 : Int32) (h0 : Heap) (n0 : Nat) (Z0 : n0 ≤ h0.size) (Xo : Old Z n0 h0) :
    own_MetH l Z own_EL x code maxLocals ret ws room_1 #[(.int p0), (.int p1), (.int p2), (.int p3), (.int p4)] h0 (fun v h L => Fr n0 L ∧ Keep h0 h [] ∧ (((v = some (.int (1 : Int32)))))) := by
  refine own_metH (plainFor_of_name own_pn0) (own_hEL hw) ?_
  intro p e s m below meth c s₁ G hx hby hml hZ hown hnm hret X0 e0 hS C0 go fin
  have N0 := Fr.nil n0
  refine go _ _ (fun _ k => castTop (own_ef_rmLaw m p0 p1 p2 p3 p4) k) ?_
  show G (s₁.setTop (mkF m 0 #[.val (.int p0), .val (.int p1), .val (.int p2), .val (.int p3), .val (.int p4), .unset, .unset, .unset, .unset, .unset, .unset, .unset, .unset, .unset, .unset, .unset, .unset, .unset, .unset, .unset, .unset, .unset, .unset, .unset, .unset] []))
  refine go _ _ (fun _ k => XS.iloadN X0.here hx rfl (hb hby at_0) rfl k) ?_
  show G (s₁.setTop (mkF m 1 #[.val (.int p0), .val (.int p1), .val (.int p2), .val (.int p3), .val (.int p4), .unset, .unset, .unset, .unset, .unset, .unset, .unset, .unset, .unset, .unset, .unset, .unset, .unset, .unset, .unset, .unset, .unset, .unset, .unset, .unset] [(.int p0)]))
  obtain ⟨rv101, T101, L101, X101, q101, st101⟩ := own_st X0 hx hZ (y := (⟨"com/example/hatoyama/hatoyama/ObjectMethodEqualsPinLaw", "len", "(I)I"⟩ : MethodName)) hown (ow hw 0 rfl) (ow hw 1 rfl) (ow hw 2 rfl) (ow hw 3 rfl) (by decide) (own_bkN (W := 0) (rm0 l Z a0 hw z0 O2 P5 [] p0 h0 n0 Z0) hZ (ow hw 3 rfl) (ow hw 2 rfl) (by decide) (by decide)) e0 (g := (mkF m 1 #[.val (.int p0), .val (.int p1), .val (.int p2), .val (.int p3), .val (.int p4), .unset, .unset, .unset, .unset, .unset, .unset, .unset, .unset, .unset, .unset, .unset, .unset, .unset, .unset, .unset, .unset, .unset, .unset, .unset, .unset] [(.int p0)])) rfl (by rw [hml]; rfl) (argsL := [(.int p0)]) (rest := []) rfl (lenOf own_pd7 rfl) rfl (by show 2 * 0 + _ ≤ _; exact Nat.le_of_eq rfl) (hb hby at_1) (by decide) (by decide)
  obtain ⟨Nq101, e101, ⟨z_102, rfl, p103⟩⟩ := q101
  have N101 := Fr.app N0 Nq101
  refine go _ _ (st101) ?_
  show G (T101.setTop (mkF m 4 #[.val (.int p0), .val (.int p1), .val (.int p2), .val (.int p3), .val (.int p4), .unset, .unset, .unset, .unset, .unset, .unset, .unset, .unset, .unset, .unset, .unset, .unset, .unset, .unset, .unset, .unset, .unset, .unset, .unset, .unset] [(.int z_102)]))
  refine go _ _ (fun _ k => XS.istore X101.here hx rfl (hb hby at_4) rfl (l' := #[.val (.int p0), .val (.int p1), .val (.int p2), .val (.int p3), .val (.int p4), .val (.int z_102), .unset, .unset, .unset, .unset, .unset, .unset, .unset, .unset, .unset, .unset, .unset, .unset, .unset, .unset, .unset, .unset, .unset, .unset, .unset]) rfl (XS.iloadN X101.here hx rfl (hb hby at_6) rfl (XS.iconst X101.here hx rfl (hb hby at_7) k))) ?_
  show G (T101.setTop (mkF m 8 #[.val (.int p0), .val (.int p1), .val (.int p2), .val (.int p3), .val (.int p4), .val (.int z_102), .unset, .unset, .unset, .unset, .unset, .unset, .unset, .unset, .unset, .unset, .unset, .unset, .unset, .unset, .unset, .unset, .unset, .unset, .unset] [(.int (0 : Int32)), (.int p0)]))
  obtain ⟨rv104, T104, L104, X104, q104, st104⟩ := own_st X101 hx hZ (y := (⟨"com/example/hatoyama/hatoyama/ObjectMethodEqualsPinLaw", "ch", "(II)C"⟩ : MethodName)) hown (ow hw 4 rfl) (ow hw 5 rfl) (ow hw 2 rfl) (ow hw 6 rfl) (by decide) (own_bkN (W := 0) (rm1 l Z a0 hw z0 O2 P5 [] p0 (0 : Int32) h0 n0 Z0) hZ (ow hw 6 rfl) (ow hw 2 rfl) (by decide) (by decide)) e101 (g := (mkF m 8 #[.val (.int p0), .val (.int p1), .val (.int p2), .val (.int p3), .val (.int p4), .val (.int z_102), .unset, .unset, .unset, .unset, .unset, .unset, .unset, .unset, .unset, .unset, .unset, .unset, .unset, .unset, .unset, .unset, .unset, .unset, .unset] [(.int (0 : Int32)), (.int p0)])) rfl (by rw [hml]; rfl) (argsL := [(.int p0), (.int (0 : Int32))]) (rest := []) rfl (lenOf own_pd8 rfl) rfl (by show 2 * 0 + _ ≤ _; exact Nat.le_of_eq rfl) (hb hby at_8) (by decide) (by decide)
  obtain ⟨Nq104, e104, ⟨z_105, rfl, p106, p107⟩⟩ := q104
  have N104 := Fr.app N101 Nq104
  refine go _ _ (st104) ?_
  show G (T104.setTop (mkF m 11 #[.val (.int p0), .val (.int p1), .val (.int p2), .val (.int p3), .val (.int p4), .val (.int z_102), .unset, .unset, .unset, .unset, .unset, .unset, .unset, .unset, .unset, .unset, .unset, .unset, .unset, .unset, .unset, .unset, .unset, .unset, .unset] [(.int z_105)]))
  refine go _ _ (fun _ k => XS.istore X104.here hx rfl (hb hby at_11) rfl (l' := #[.val (.int p0), .val (.int p1), .val (.int p2), .val (.int p3), .val (.int p4), .val (.int z_102), .val (.int z_105), .unset, .unset, .unset, .unset, .unset, .unset, .unset, .unset, .unset, .unset, .unset, .unset, .unset, .unset, .unset, .unset, .unset, .unset]) rfl (XS.iloadN X104.here hx rfl (hb hby at_13) rfl (XS.bipush X104.here hx rfl (hb hby at_14) k))) ?_
  show G (T104.setTop (mkF m 16 #[.val (.int p0), .val (.int p1), .val (.int p2), .val (.int p3), .val (.int p4), .val (.int z_102), .val (.int z_105), .unset, .unset, .unset, .unset, .unset, .unset, .unset, .unset, .unset, .unset, .unset, .unset, .unset, .unset, .unset, .unset, .unset, .unset] [(.int (8 : Int32)), (.int p0)]))
  obtain ⟨rv108, T108, L108, X108, q108, st108⟩ := own_st X104 hx hZ (y := (⟨"com/example/hatoyama/hatoyama/ObjectMethodEqualsPinLaw", "ch", "(II)C"⟩ : MethodName)) hown (ow hw 4 rfl) (ow hw 5 rfl) (ow hw 2 rfl) (ow hw 6 rfl) (by decide) (own_bkN (W := 0) (rm1 l Z a0 hw z0 O2 P5 [] p0 (8 : Int32) h0 n0 Z0) hZ (ow hw 6 rfl) (ow hw 2 rfl) (by decide) (by decide)) e104 (g := (mkF m 16 #[.val (.int p0), .val (.int p1), .val (.int p2), .val (.int p3), .val (.int p4), .val (.int z_102), .val (.int z_105), .unset, .unset, .unset, .unset, .unset, .unset, .unset, .unset, .unset, .unset, .unset, .unset, .unset, .unset, .unset, .unset, .unset, .unset] [(.int (8 : Int32)), (.int p0)])) rfl (by rw [hml]; rfl) (argsL := [(.int p0), (.int (8 : Int32))]) (rest := []) rfl (lenOf own_pd8 rfl) rfl (by show 2 * 0 + _ ≤ _; exact Nat.le_of_eq rfl) (hb hby at_16) (by decide) (by decide)
  obtain ⟨Nq108, e108, ⟨z_109, rfl, p110, p111⟩⟩ := q108
  have N108 := Fr.app N104 Nq108
  refine go _ _ (st108) ?_
  show G (T108.setTop (mkF m 19 #[.val (.int p0), .val (.int p1), .val (.int p2), .val (.int p3), .val (.int p4), .val (.int z_102), .val (.int z_105), .unset, .unset, .unset, .unset, .unset, .unset, .unset, .unset, .unset, .unset, .unset, .unset, .unset, .unset, .unset, .unset, .unset, .unset] [(.int z_109)]))
  refine go _ _ (fun _ k => XS.istore X108.here hx rfl (hb hby at_19) rfl (l' := #[.val (.int p0), .val (.int p1), .val (.int p2), .val (.int p3), .val (.int p4), .val (.int z_102), .val (.int z_105), .val (.int z_109), .unset, .unset, .unset, .unset, .unset, .unset, .unset, .unset, .unset, .unset, .unset, .unset, .unset, .unset, .unset, .unset, .unset]) rfl (XS.iloadN X108.here hx rfl (hb hby at_21) rfl k)) ?_
  show G (T108.setTop (mkF m 22 #[.val (.int p0), .val (.int p1), .val (.int p2), .val (.int p3), .val (.int p4), .val (.int z_102), .val (.int z_105), .val (.int z_109), .unset, .unset, .unset, .unset, .unset, .unset, .unset, .unset, .unset, .unset, .unset, .unset, .unset, .unset, .unset, .unset, .unset] [(.int p1)]))
  obtain ⟨rv112, T112, L112, X112, q112, st112⟩ := own_st X108 hx hZ (y := (⟨"com/example/hatoyama/hatoyama/ObjectMethodEqualsPinLaw", "len", "(I)I"⟩ : MethodName)) hown (ow hw 0 rfl) (ow hw 1 rfl) (ow hw 2 rfl) (ow hw 3 rfl) (by decide) (own_bkN (W := 0) (rm0 l Z a0 hw z0 O2 P5 [] p1 h0 n0 Z0) hZ (ow hw 3 rfl) (ow hw 2 rfl) (by decide) (by decide)) e108 (g := (mkF m 22 #[.val (.int p0), .val (.int p1), .val (.int p2), .val (.int p3), .val (.int p4), .val (.int z_102), .val (.int z_105), .val (.int z_109), .unset, .unset, .unset, .unset, .unset, .unset, .unset, .unset, .unset, .unset, .unset, .unset, .unset, .unset, .unset, .unset, .unset] [(.int p1)])) rfl (by rw [hml]; rfl) (argsL := [(.int p1)]) (rest := []) rfl (lenOf own_pd7 rfl) rfl (by show 2 * 0 + _ ≤ _; exact Nat.le_of_eq rfl) (hb hby at_22) (by decide) (by decide)
  obtain ⟨Nq112, e112, ⟨z_113, rfl, p114⟩⟩ := q112
  have N112 := Fr.app N108 Nq112
  refine go _ _ (st112) ?_
  show G (T112.setTop (mkF m 25 #[.val (.int p0), .val (.int p1), .val (.int p2), .val (.int p3), .val (.int p4), .val (.int z_102), .val (.int z_105), .val (.int z_109), .unset, .unset, .unset, .unset, .unset, .unset, .unset, .unset, .unset, .unset, .unset, .unset, .unset, .unset, .unset, .unset, .unset] [(.int z_113)]))
  refine go _ _ (fun _ k => XS.istore X112.here hx rfl (hb hby at_25) rfl (l' := #[.val (.int p0), .val (.int p1), .val (.int p2), .val (.int p3), .val (.int p4), .val (.int z_102), .val (.int z_105), .val (.int z_109), .val (.int z_113), .unset, .unset, .unset, .unset, .unset, .unset, .unset, .unset, .unset, .unset, .unset, .unset, .unset, .unset, .unset, .unset]) rfl (XS.iloadN X112.here hx rfl (hb hby at_27) rfl (XS.iconst X112.here hx rfl (hb hby at_28) k))) ?_
  show G (T112.setTop (mkF m 29 #[.val (.int p0), .val (.int p1), .val (.int p2), .val (.int p3), .val (.int p4), .val (.int z_102), .val (.int z_105), .val (.int z_109), .val (.int z_113), .unset, .unset, .unset, .unset, .unset, .unset, .unset, .unset, .unset, .unset, .unset, .unset, .unset, .unset, .unset, .unset] [(.int (0 : Int32)), (.int p1)]))
  obtain ⟨rv115, T115, L115, X115, q115, st115⟩ := own_st X112 hx hZ (y := (⟨"com/example/hatoyama/hatoyama/ObjectMethodEqualsPinLaw", "ch", "(II)C"⟩ : MethodName)) hown (ow hw 4 rfl) (ow hw 5 rfl) (ow hw 2 rfl) (ow hw 6 rfl) (by decide) (own_bkN (W := 0) (rm1 l Z a0 hw z0 O2 P5 [] p1 (0 : Int32) h0 n0 Z0) hZ (ow hw 6 rfl) (ow hw 2 rfl) (by decide) (by decide)) e112 (g := (mkF m 29 #[.val (.int p0), .val (.int p1), .val (.int p2), .val (.int p3), .val (.int p4), .val (.int z_102), .val (.int z_105), .val (.int z_109), .val (.int z_113), .unset, .unset, .unset, .unset, .unset, .unset, .unset, .unset, .unset, .unset, .unset, .unset, .unset, .unset, .unset, .unset] [(.int (0 : Int32)), (.int p1)])) rfl (by rw [hml]; rfl) (argsL := [(.int p1), (.int (0 : Int32))]) (rest := []) rfl (lenOf own_pd8 rfl) rfl (by show 2 * 0 + _ ≤ _; exact Nat.le_of_eq rfl) (hb hby at_29) (by decide) (by decide)
  obtain ⟨Nq115, e115, ⟨z_116, rfl, p117, p118⟩⟩ := q115
  have N115 := Fr.app N112 Nq115
  refine go _ _ (st115) ?_
  show G (T115.setTop (mkF m 32 #[.val (.int p0), .val (.int p1), .val (.int p2), .val (.int p3), .val (.int p4), .val (.int z_102), .val (.int z_105), .val (.int z_109), .val (.int z_113), .unset, .unset, .unset, .unset, .unset, .unset, .unset, .unset, .unset, .unset, .unset, .unset, .unset, .unset, .unset, .unset] [(.int z_116)]))
  refine go _ _ (fun _ k => XS.istore X115.here hx rfl (hb hby at_32) rfl (l' := #[.val (.int p0), .val (.int p1), .val (.int p2), .val (.int p3), .val (.int p4), .val (.int z_102), .val (.int z_105), .val (.int z_109), .val (.int z_113), .val (.int z_116), .unset, .unset, .unset, .unset, .unset, .unset, .unset, .unset, .unset, .unset, .unset, .unset, .unset, .unset, .unset]) rfl (XS.iloadN X115.here hx rfl (hb hby at_34) rfl (XS.bipush X115.here hx rfl (hb hby at_35) k))) ?_
  show G (T115.setTop (mkF m 37 #[.val (.int p0), .val (.int p1), .val (.int p2), .val (.int p3), .val (.int p4), .val (.int z_102), .val (.int z_105), .val (.int z_109), .val (.int z_113), .val (.int z_116), .unset, .unset, .unset, .unset, .unset, .unset, .unset, .unset, .unset, .unset, .unset, .unset, .unset, .unset, .unset] [(.int (8 : Int32)), (.int p1)]))
  obtain ⟨rv119, T119, L119, X119, q119, st119⟩ := own_st X115 hx hZ (y := (⟨"com/example/hatoyama/hatoyama/ObjectMethodEqualsPinLaw", "ch", "(II)C"⟩ : MethodName)) hown (ow hw 4 rfl) (ow hw 5 rfl) (ow hw 2 rfl) (ow hw 6 rfl) (by decide) (own_bkN (W := 0) (rm1 l Z a0 hw z0 O2 P5 [] p1 (8 : Int32) h0 n0 Z0) hZ (ow hw 6 rfl) (ow hw 2 rfl) (by decide) (by decide)) e115 (g := (mkF m 37 #[.val (.int p0), .val (.int p1), .val (.int p2), .val (.int p3), .val (.int p4), .val (.int z_102), .val (.int z_105), .val (.int z_109), .val (.int z_113), .val (.int z_116), .unset, .unset, .unset, .unset, .unset, .unset, .unset, .unset, .unset, .unset, .unset, .unset, .unset, .unset, .unset] [(.int (8 : Int32)), (.int p1)])) rfl (by rw [hml]; rfl) (argsL := [(.int p1), (.int (8 : Int32))]) (rest := []) rfl (lenOf own_pd8 rfl) rfl (by show 2 * 0 + _ ≤ _; exact Nat.le_of_eq rfl) (hb hby at_37) (by decide) (by decide)
  obtain ⟨Nq119, e119, ⟨z_120, rfl, p121, p122⟩⟩ := q119
  have N119 := Fr.app N115 Nq119
  refine go _ _ (st119) ?_
  show G (T119.setTop (mkF m 40 #[.val (.int p0), .val (.int p1), .val (.int p2), .val (.int p3), .val (.int p4), .val (.int z_102), .val (.int z_105), .val (.int z_109), .val (.int z_113), .val (.int z_116), .unset, .unset, .unset, .unset, .unset, .unset, .unset, .unset, .unset, .unset, .unset, .unset, .unset, .unset, .unset] [(.int z_120)]))
  refine go _ _ (fun _ k => XS.istore X119.here hx rfl (hb hby at_40) rfl (l' := #[.val (.int p0), .val (.int p1), .val (.int p2), .val (.int p3), .val (.int p4), .val (.int z_102), .val (.int z_105), .val (.int z_109), .val (.int z_113), .val (.int z_116), .val (.int z_120), .unset, .unset, .unset, .unset, .unset, .unset, .unset, .unset, .unset, .unset, .unset, .unset, .unset, .unset]) rfl (XS.iloadN X119.here hx rfl (hb hby at_42) rfl (XS.bipush X119.here hx rfl (hb hby at_43) (XS.iushr X119.here hx rfl (hb hby at_45) rfl (XS.iconst X119.here hx rfl (hb hby at_46) (XS.iand X119.here hx rfl (hb hby at_47) rfl k)))))) ?_
  show G (T119.setTop (mkF m 48 #[.val (.int p0), .val (.int p1), .val (.int p2), .val (.int p3), .val (.int p4), .val (.int z_102), .val (.int z_105), .val (.int z_109), .val (.int z_113), .val (.int z_116), .val (.int z_120), .unset, .unset, .unset, .unset, .unset, .unset, .unset, .unset, .unset, .unset, .unset, .unset, .unset, .unset] [(.int (((p2.toUInt32 >>> ((24 : Int32) &&& 31).toUInt32).toInt32) &&& (1 : Int32)))]))
  have J123 : ∀ (T123 : State) (L123 : List Loc) (X123 : Stand p l e room_1 (s.setVm s.vm) m #[(.int p0), (.int p1), (.int p2), (.int p3), (.int p4)] below meth c T123 L123 0 0) (e123 : T123.heap = h0) (N123 : Fr n0 L123) (z_123 : Int32) (pj123_z0 : own_012 z_123), G (T123.setTop (mkF m 60 #[.val (.int p0), .val (.int p1), .val (.int p2), .val (.int p3), .val (.int p4), .val (.int z_102), .val (.int z_105), .val (.int z_109), .val (.int z_113), .val (.int z_116), .val (.int z_120), .unset, .unset, .unset, .unset, .unset, .unset, .unset, .unset, .unset, .unset, .unset, .unset, .unset, .unset] [(.int z_123)])) := by
    intro T123 L123 X123 e123 N123 z_123 pj123_z0
    show G (T123.setTop (mkF m 60 #[.val (.int p0), .val (.int p1), .val (.int p2), .val (.int p3), .val (.int p4), .val (.int z_102), .val (.int z_105), .val (.int z_109), .val (.int z_113), .val (.int z_116), .val (.int z_120), .unset, .unset, .unset, .unset, .unset, .unset, .unset, .unset, .unset, .unset, .unset, .unset, .unset, .unset] [(.int z_123)]))
    refine go _ _ (fun _ k => XS.istore X123.here hx rfl (hb hby at_60) rfl (l' := #[.val (.int p0), .val (.int p1), .val (.int p2), .val (.int p3), .val (.int p4), .val (.int z_102), .val (.int z_105), .val (.int z_109), .val (.int z_113), .val (.int z_116), .val (.int z_120), .val (.int z_123), .unset, .unset, .unset, .unset, .unset, .unset, .unset, .unset, .unset, .unset, .unset, .unset, .unset]) rfl (XS.iload X123.here hx rfl (hb hby at_62) rfl (XS.iloadN X123.here hx rfl (hb hby at_64) rfl (XS.bipush X123.here hx rfl (hb hby at_65) (XS.iushr X123.here hx rfl (hb hby at_67) rfl (XS.iconst X123.here hx rfl (hb hby at_68) k)))))) ?_
    show G (T123.setTop (mkF m 69 #[.val (.int p0), .val (.int p1), .val (.int p2), .val (.int p3), .val (.int p4), .val (.int z_102), .val (.int z_105), .val (.int z_109), .val (.int z_113), .val (.int z_116), .val (.int z_120), .val (.int z_123), .unset, .unset, .unset, .unset, .unset, .unset, .unset, .unset, .unset, .unset, .unset, .unset, .unset] [(.int (1 : Int32)), (.int ((p2.toUInt32 >>> ((18 : Int32) &&& 31).toUInt32).toInt32)), (.int z_105)]))
    refine go _ _ (fun _ k => XS.iand X123.here hx rfl (hb hby at_69) rfl k) ?_
    show G (T123.setTop (mkF m 70 #[.val (.int p0), .val (.int p1), .val (.int p2), .val (.int p3), .val (.int p4), .val (.int z_102), .val (.int z_105), .val (.int z_109), .val (.int z_113), .val (.int z_116), .val (.int z_120), .val (.int z_123), .unset, .unset, .unset, .unset, .unset, .unset, .unset, .unset, .unset, .unset, .unset, .unset, .unset] [(.int (((p2.toUInt32 >>> ((18 : Int32) &&& 31).toUInt32).toInt32) &&& (1 : Int32))), (.int z_105)]))
    have J124 : ∀ (T124 : State) (L124 : List Loc) (X124 : Stand p l e room_1 (s.setVm s.vm) m #[(.int p0), (.int p1), (.int p2), (.int p3), (.int p4)] below meth c T124 L124 0 0) (e124 : T124.heap = h0) (N124 : Fr n0 L124) (z_124 : Int32) (pj124_z0 : ¬ z_124 < (0 : Int32)) (pj124_z1 : ¬ (255 : Int32) < z_124), G (T124.setTop (mkF m 82 #[.val (.int p0), .val (.int p1), .val (.int p2), .val (.int p3), .val (.int p4), .val (.int z_102), .val (.int z_105), .val (.int z_109), .val (.int z_113), .val (.int z_116), .val (.int z_120), .val (.int z_123), .unset, .unset, .unset, .unset, .unset, .unset, .unset, .unset, .unset, .unset, .unset, .unset, .unset] [(.int z_124), (.int z_105)])) := by
      intro T124 L124 X124 e124 N124 z_124 pj124_z0 pj124_z1
      show G (T124.setTop (mkF m 82 #[.val (.int p0), .val (.int p1), .val (.int p2), .val (.int p3), .val (.int p4), .val (.int z_102), .val (.int z_105), .val (.int z_109), .val (.int z_113), .val (.int z_116), .val (.int z_120), .val (.int z_123), .unset, .unset, .unset, .unset, .unset, .unset, .unset, .unset, .unset, .unset, .unset, .unset, .unset] [(.int z_124), (.int z_105)]))
      refine go _ _ (fun _ k => XS.ixor X124.here hx rfl (hb hby at_82) rfl (XS.i2c X124.here hx rfl (hb hby at_83) rfl k)) ?_
      show G (T124.setTop (mkF m 84 #[.val (.int p0), .val (.int p1), .val (.int p2), .val (.int p3), .val (.int p4), .val (.int z_102), .val (.int z_105), .val (.int z_109), .val (.int z_113), .val (.int z_116), .val (.int z_120), .val (.int z_123), .unset, .unset, .unset, .unset, .unset, .unset, .unset, .unset, .unset, .unset, .unset, .unset, .unset] [(.int ((z_105 ^^^ z_124).toUInt32.toUInt16.toUInt32.toInt32))]))
      obtain ⟨c_125, pa125_0, pa125_1, ea125⟩ : ∃ z : Int32, (¬ z < (0 : Int32)) ∧ (¬ (255 : Int32) < z) ∧ ((z_105 ^^^ z_124).toUInt32.toUInt16.toUInt32.toInt32) = z := ⟨_, (own_xor p106 p107 pj124_z0 pj124_z1).1, (own_xor p106 p107 pj124_z0 pj124_z1).2, rfl⟩
      rw [ea125]
      show G (T124.setTop (mkF m 84 #[.val (.int p0), .val (.int p1), .val (.int p2), .val (.int p3), .val (.int p4), .val (.int z_102), .val (.int z_105), .val (.int z_109), .val (.int z_113), .val (.int z_116), .val (.int z_120), .val (.int z_123), .unset, .unset, .unset, .unset, .unset, .unset, .unset, .unset, .unset, .unset, .unset, .unset, .unset] [(.int c_125)]))
      refine go _ _ (fun _ k => XS.istore X124.here hx rfl (hb hby at_84) rfl (l' := #[.val (.int p0), .val (.int p1), .val (.int p2), .val (.int p3), .val (.int p4), .val (.int z_102), .val (.int z_105), .val (.int z_109), .val (.int z_113), .val (.int z_116), .val (.int z_120), .val (.int z_123), .val (.int c_125), .unset, .unset, .unset, .unset, .unset, .unset, .unset, .unset, .unset, .unset, .unset, .unset]) rfl (XS.iload X124.here hx rfl (hb hby at_86) rfl (XS.iloadN X124.here hx rfl (hb hby at_88) rfl (XS.bipush X124.here hx rfl (hb hby at_89) (XS.iushr X124.here hx rfl (hb hby at_91) rfl (XS.iconst X124.here hx rfl (hb hby at_92) k)))))) ?_
      show G (T124.setTop (mkF m 93 #[.val (.int p0), .val (.int p1), .val (.int p2), .val (.int p3), .val (.int p4), .val (.int z_102), .val (.int z_105), .val (.int z_109), .val (.int z_113), .val (.int z_116), .val (.int z_120), .val (.int z_123), .val (.int c_125), .unset, .unset, .unset, .unset, .unset, .unset, .unset, .unset, .unset, .unset, .unset, .unset] [(.int (1 : Int32)), (.int ((p2.toUInt32 >>> ((19 : Int32) &&& 31).toUInt32).toInt32)), (.int z_109)]))
      refine go _ _ (fun _ k => XS.iand X124.here hx rfl (hb hby at_93) rfl k) ?_
      show G (T124.setTop (mkF m 94 #[.val (.int p0), .val (.int p1), .val (.int p2), .val (.int p3), .val (.int p4), .val (.int z_102), .val (.int z_105), .val (.int z_109), .val (.int z_113), .val (.int z_116), .val (.int z_120), .val (.int z_123), .val (.int c_125), .unset, .unset, .unset, .unset, .unset, .unset, .unset, .unset, .unset, .unset, .unset, .unset] [(.int (((p2.toUInt32 >>> ((19 : Int32) &&& 31).toUInt32).toInt32) &&& (1 : Int32))), (.int z_109)]))
      have J126 : ∀ (T126 : State) (L126 : List Loc) (X126 : Stand p l e room_1 (s.setVm s.vm) m #[(.int p0), (.int p1), (.int p2), (.int p3), (.int p4)] below meth c T126 L126 0 0) (e126 : T126.heap = h0) (N126 : Fr n0 L126) (z_126 : Int32) (pj126_z0 : ¬ z_126 < (0 : Int32)) (pj126_z1 : ¬ (255 : Int32) < z_126), G (T126.setTop (mkF m 109 #[.val (.int p0), .val (.int p1), .val (.int p2), .val (.int p3), .val (.int p4), .val (.int z_102), .val (.int z_105), .val (.int z_109), .val (.int z_113), .val (.int z_116), .val (.int z_120), .val (.int z_123), .val (.int c_125), .unset, .unset, .unset, .unset, .unset, .unset, .unset, .unset, .unset, .unset, .unset, .unset] [(.int z_126), (.int z_109)])) := by
        intro T126 L126 X126 e126 N126 z_126 pj126_z0 pj126_z1
        show G (T126.setTop (mkF m 109 #[.val (.int p0), .val (.int p1), .val (.int p2), .val (.int p3), .val (.int p4), .val (.int z_102), .val (.int z_105), .val (.int z_109), .val (.int z_113), .val (.int z_116), .val (.int z_120), .val (.int z_123), .val (.int c_125), .unset, .unset, .unset, .unset, .unset, .unset, .unset, .unset, .unset, .unset, .unset, .unset] [(.int z_126), (.int z_109)]))
        refine go _ _ (fun _ k => XS.ixor X126.here hx rfl (hb hby at_109) rfl (XS.i2c X126.here hx rfl (hb hby at_110) rfl k)) ?_
        show G (T126.setTop (mkF m 111 #[.val (.int p0), .val (.int p1), .val (.int p2), .val (.int p3), .val (.int p4), .val (.int z_102), .val (.int z_105), .val (.int z_109), .val (.int z_113), .val (.int z_116), .val (.int z_120), .val (.int z_123), .val (.int c_125), .unset, .unset, .unset, .unset, .unset, .unset, .unset, .unset, .unset, .unset, .unset, .unset] [(.int ((z_109 ^^^ z_126).toUInt32.toUInt16.toUInt32.toInt32))]))
        obtain ⟨c_127, pa127_0, pa127_1, ea127⟩ : ∃ z : Int32, (¬ z < (0 : Int32)) ∧ (¬ (255 : Int32) < z) ∧ ((z_109 ^^^ z_126).toUInt32.toUInt16.toUInt32.toInt32) = z := ⟨_, (own_xor p110 p111 pj126_z0 pj126_z1).1, (own_xor p110 p111 pj126_z0 pj126_z1).2, rfl⟩
        rw [ea127]
        show G (T126.setTop (mkF m 111 #[.val (.int p0), .val (.int p1), .val (.int p2), .val (.int p3), .val (.int p4), .val (.int z_102), .val (.int z_105), .val (.int z_109), .val (.int z_113), .val (.int z_116), .val (.int z_120), .val (.int z_123), .val (.int c_125), .unset, .unset, .unset, .unset, .unset, .unset, .unset, .unset, .unset, .unset, .unset, .unset] [(.int c_127)]))
        refine go _ _ (fun _ k => XS.istore X126.here hx rfl (hb hby at_111) rfl (l' := #[.val (.int p0), .val (.int p1), .val (.int p2), .val (.int p3), .val (.int p4), .val (.int z_102), .val (.int z_105), .val (.int z_109), .val (.int z_113), .val (.int z_116), .val (.int z_120), .val (.int z_123), .val (.int c_125), .val (.int c_127), .unset, .unset, .unset, .unset, .unset, .unset, .unset, .unset, .unset, .unset, .unset]) rfl (XS.iloadN X126.here hx rfl (hb hby at_113) rfl (XS.bipush X126.here hx rfl (hb hby at_114) (XS.iushr X126.here hx rfl (hb hby at_116) rfl (XS.iconst X126.here hx rfl (hb hby at_117) (XS.iand X126.here hx rfl (hb hby at_118) rfl k)))))) ?_
        show G (T126.setTop (mkF m 119 #[.val (.int p0), .val (.int p1), .val (.int p2), .val (.int p3), .val (.int p4), .val (.int z_102), .val (.int z_105), .val (.int z_109), .val (.int z_113), .val (.int z_116), .val (.int z_120), .val (.int z_123), .val (.int c_125), .val (.int c_127), .unset, .unset, .unset, .unset, .unset, .unset, .unset, .unset, .unset, .unset, .unset] [(.int (((p3.toUInt32 >>> ((24 : Int32) &&& 31).toUInt32).toInt32) &&& (1 : Int32)))]))
        have J128 : ∀ (T128 : State) (L128 : List Loc) (X128 : Stand p l e room_1 (s.setVm s.vm) m #[(.int p0), (.int p1), (.int p2), (.int p3), (.int p4)] below meth c T128 L128 0 0) (e128 : T128.heap = h0) (N128 : Fr n0 L128) (z_128 : Int32) (pj128_z0 : own_012 z_128), G (T128.setTop (mkF m 131 #[.val (.int p0), .val (.int p1), .val (.int p2), .val (.int p3), .val (.int p4), .val (.int z_102), .val (.int z_105), .val (.int z_109), .val (.int z_113), .val (.int z_116), .val (.int z_120), .val (.int z_123), .val (.int c_125), .val (.int c_127), .unset, .unset, .unset, .unset, .unset, .unset, .unset, .unset, .unset, .unset, .unset] [(.int z_128)])) := by
          intro T128 L128 X128 e128 N128 z_128 pj128_z0
          show G (T128.setTop (mkF m 131 #[.val (.int p0), .val (.int p1), .val (.int p2), .val (.int p3), .val (.int p4), .val (.int z_102), .val (.int z_105), .val (.int z_109), .val (.int z_113), .val (.int z_116), .val (.int z_120), .val (.int z_123), .val (.int c_125), .val (.int c_127), .unset, .unset, .unset, .unset, .unset, .unset, .unset, .unset, .unset, .unset, .unset] [(.int z_128)]))
          refine go _ _ (fun _ k => XS.istore X128.here hx rfl (hb hby at_131) rfl (l' := #[.val (.int p0), .val (.int p1), .val (.int p2), .val (.int p3), .val (.int p4), .val (.int z_102), .val (.int z_105), .val (.int z_109), .val (.int z_113), .val (.int z_116), .val (.int z_120), .val (.int z_123), .val (.int c_125), .val (.int c_127), .val (.int z_128), .unset, .unset, .unset, .unset, .unset, .unset, .unset, .unset, .unset, .unset]) rfl (XS.iload X128.here hx rfl (hb hby at_133) rfl (XS.iloadN X128.here hx rfl (hb hby at_135) rfl (XS.bipush X128.here hx rfl (hb hby at_136) (XS.iushr X128.here hx rfl (hb hby at_138) rfl (XS.iconst X128.here hx rfl (hb hby at_139) k)))))) ?_
          show G (T128.setTop (mkF m 140 #[.val (.int p0), .val (.int p1), .val (.int p2), .val (.int p3), .val (.int p4), .val (.int z_102), .val (.int z_105), .val (.int z_109), .val (.int z_113), .val (.int z_116), .val (.int z_120), .val (.int z_123), .val (.int c_125), .val (.int c_127), .val (.int z_128), .unset, .unset, .unset, .unset, .unset, .unset, .unset, .unset, .unset, .unset] [(.int (1 : Int32)), (.int ((p3.toUInt32 >>> ((18 : Int32) &&& 31).toUInt32).toInt32)), (.int z_116)]))
          refine go _ _ (fun _ k => XS.iand X128.here hx rfl (hb hby at_140) rfl k) ?_
          show G (T128.setTop (mkF m 141 #[.val (.int p0), .val (.int p1), .val (.int p2), .val (.int p3), .val (.int p4), .val (.int z_102), .val (.int z_105), .val (.int z_109), .val (.int z_113), .val (.int z_116), .val (.int z_120), .val (.int z_123), .val (.int c_125), .val (.int c_127), .val (.int z_128), .unset, .unset, .unset, .unset, .unset, .unset, .unset, .unset, .unset, .unset] [(.int (((p3.toUInt32 >>> ((18 : Int32) &&& 31).toUInt32).toInt32) &&& (1 : Int32))), (.int z_116)]))
          have J129 : ∀ (T129 : State) (L129 : List Loc) (X129 : Stand p l e room_1 (s.setVm s.vm) m #[(.int p0), (.int p1), (.int p2), (.int p3), (.int p4)] below meth c T129 L129 0 0) (e129 : T129.heap = h0) (N129 : Fr n0 L129) (z_129 : Int32) (pj129_z0 : ¬ z_129 < (0 : Int32)) (pj129_z1 : ¬ (255 : Int32) < z_129), G (T129.setTop (mkF m 153 #[.val (.int p0), .val (.int p1), .val (.int p2), .val (.int p3), .val (.int p4), .val (.int z_102), .val (.int z_105), .val (.int z_109), .val (.int z_113), .val (.int z_116), .val (.int z_120), .val (.int z_123), .val (.int c_125), .val (.int c_127), .val (.int z_128), .unset, .unset, .unset, .unset, .unset, .unset, .unset, .unset, .unset, .unset] [(.int z_129), (.int z_116)])) := by
            intro T129 L129 X129 e129 N129 z_129 pj129_z0 pj129_z1
            show G (T129.setTop (mkF m 153 #[.val (.int p0), .val (.int p1), .val (.int p2), .val (.int p3), .val (.int p4), .val (.int z_102), .val (.int z_105), .val (.int z_109), .val (.int z_113), .val (.int z_116), .val (.int z_120), .val (.int z_123), .val (.int c_125), .val (.int c_127), .val (.int z_128), .unset, .unset, .unset, .unset, .unset, .unset, .unset, .unset, .unset, .unset] [(.int z_129), (.int z_116)]))
            refine go _ _ (fun _ k => XS.ixor X129.here hx rfl (hb hby at_153) rfl (XS.i2c X129.here hx rfl (hb hby at_154) rfl k)) ?_
            show G (T129.setTop (mkF m 155 #[.val (.int p0), .val (.int p1), .val (.int p2), .val (.int p3), .val (.int p4), .val (.int z_102), .val (.int z_105), .val (.int z_109), .val (.int z_113), .val (.int z_116), .val (.int z_120), .val (.int z_123), .val (.int c_125), .val (.int c_127), .val (.int z_128), .unset, .unset, .unset, .unset, .unset, .unset, .unset, .unset, .unset, .unset] [(.int ((z_116 ^^^ z_129).toUInt32.toUInt16.toUInt32.toInt32))]))
            obtain ⟨c_130, pa130_0, pa130_1, ea130⟩ : ∃ z : Int32, (¬ z < (0 : Int32)) ∧ (¬ (255 : Int32) < z) ∧ ((z_116 ^^^ z_129).toUInt32.toUInt16.toUInt32.toInt32) = z := ⟨_, (own_xor p117 p118 pj129_z0 pj129_z1).1, (own_xor p117 p118 pj129_z0 pj129_z1).2, rfl⟩
            rw [ea130]
            show G (T129.setTop (mkF m 155 #[.val (.int p0), .val (.int p1), .val (.int p2), .val (.int p3), .val (.int p4), .val (.int z_102), .val (.int z_105), .val (.int z_109), .val (.int z_113), .val (.int z_116), .val (.int z_120), .val (.int z_123), .val (.int c_125), .val (.int c_127), .val (.int z_128), .unset, .unset, .unset, .unset, .unset, .unset, .unset, .unset, .unset, .unset] [(.int c_130)]))
            refine go _ _ (fun _ k => XS.istore X129.here hx rfl (hb hby at_155) rfl (l' := #[.val (.int p0), .val (.int p1), .val (.int p2), .val (.int p3), .val (.int p4), .val (.int z_102), .val (.int z_105), .val (.int z_109), .val (.int z_113), .val (.int z_116), .val (.int z_120), .val (.int z_123), .val (.int c_125), .val (.int c_127), .val (.int z_128), .val (.int c_130), .unset, .unset, .unset, .unset, .unset, .unset, .unset, .unset, .unset]) rfl (XS.iload X129.here hx rfl (hb hby at_157) rfl (XS.iloadN X129.here hx rfl (hb hby at_159) rfl (XS.bipush X129.here hx rfl (hb hby at_160) (XS.iushr X129.here hx rfl (hb hby at_162) rfl (XS.iconst X129.here hx rfl (hb hby at_163) k)))))) ?_
            show G (T129.setTop (mkF m 164 #[.val (.int p0), .val (.int p1), .val (.int p2), .val (.int p3), .val (.int p4), .val (.int z_102), .val (.int z_105), .val (.int z_109), .val (.int z_113), .val (.int z_116), .val (.int z_120), .val (.int z_123), .val (.int c_125), .val (.int c_127), .val (.int z_128), .val (.int c_130), .unset, .unset, .unset, .unset, .unset, .unset, .unset, .unset, .unset] [(.int (1 : Int32)), (.int ((p3.toUInt32 >>> ((19 : Int32) &&& 31).toUInt32).toInt32)), (.int z_120)]))
            refine go _ _ (fun _ k => XS.iand X129.here hx rfl (hb hby at_164) rfl k) ?_
            show G (T129.setTop (mkF m 165 #[.val (.int p0), .val (.int p1), .val (.int p2), .val (.int p3), .val (.int p4), .val (.int z_102), .val (.int z_105), .val (.int z_109), .val (.int z_113), .val (.int z_116), .val (.int z_120), .val (.int z_123), .val (.int c_125), .val (.int c_127), .val (.int z_128), .val (.int c_130), .unset, .unset, .unset, .unset, .unset, .unset, .unset, .unset, .unset] [(.int (((p3.toUInt32 >>> ((19 : Int32) &&& 31).toUInt32).toInt32) &&& (1 : Int32))), (.int z_120)]))
            have J131 : ∀ (T131 : State) (L131 : List Loc) (X131 : Stand p l e room_1 (s.setVm s.vm) m #[(.int p0), (.int p1), (.int p2), (.int p3), (.int p4)] below meth c T131 L131 0 0) (e131 : T131.heap = h0) (N131 : Fr n0 L131) (z_131 : Int32) (pj131_z0 : ¬ z_131 < (0 : Int32)) (pj131_z1 : ¬ (255 : Int32) < z_131), G (T131.setTop (mkF m 180 #[.val (.int p0), .val (.int p1), .val (.int p2), .val (.int p3), .val (.int p4), .val (.int z_102), .val (.int z_105), .val (.int z_109), .val (.int z_113), .val (.int z_116), .val (.int z_120), .val (.int z_123), .val (.int c_125), .val (.int c_127), .val (.int z_128), .val (.int c_130), .unset, .unset, .unset, .unset, .unset, .unset, .unset, .unset, .unset] [(.int z_131), (.int z_120)])) := by
              intro T131 L131 X131 e131 N131 z_131 pj131_z0 pj131_z1
              show G (T131.setTop (mkF m 180 #[.val (.int p0), .val (.int p1), .val (.int p2), .val (.int p3), .val (.int p4), .val (.int z_102), .val (.int z_105), .val (.int z_109), .val (.int z_113), .val (.int z_116), .val (.int z_120), .val (.int z_123), .val (.int c_125), .val (.int c_127), .val (.int z_128), .val (.int c_130), .unset, .unset, .unset, .unset, .unset, .unset, .unset, .unset, .unset] [(.int z_131), (.int z_120)]))
              refine go _ _ (fun _ k => XS.ixor X131.here hx rfl (hb hby at_180) rfl (XS.i2c X131.here hx rfl (hb hby at_181) rfl k)) ?_
              show G (T131.setTop (mkF m 182 #[.val (.int p0), .val (.int p1), .val (.int p2), .val (.int p3), .val (.int p4), .val (.int z_102), .val (.int z_105), .val (.int z_109), .val (.int z_113), .val (.int z_116), .val (.int z_120), .val (.int z_123), .val (.int c_125), .val (.int c_127), .val (.int z_128), .val (.int c_130), .unset, .unset, .unset, .unset, .unset, .unset, .unset, .unset, .unset] [(.int ((z_120 ^^^ z_131).toUInt32.toUInt16.toUInt32.toInt32))]))
              obtain ⟨c_132, pa132_0, pa132_1, ea132⟩ : ∃ z : Int32, (¬ z < (0 : Int32)) ∧ (¬ (255 : Int32) < z) ∧ ((z_120 ^^^ z_131).toUInt32.toUInt16.toUInt32.toInt32) = z := ⟨_, (own_xor p121 p122 pj131_z0 pj131_z1).1, (own_xor p121 p122 pj131_z0 pj131_z1).2, rfl⟩
              rw [ea132]
              show G (T131.setTop (mkF m 182 #[.val (.int p0), .val (.int p1), .val (.int p2), .val (.int p3), .val (.int p4), .val (.int z_102), .val (.int z_105), .val (.int z_109), .val (.int z_113), .val (.int z_116), .val (.int z_120), .val (.int z_123), .val (.int c_125), .val (.int c_127), .val (.int z_128), .val (.int c_130), .unset, .unset, .unset, .unset, .unset, .unset, .unset, .unset, .unset] [(.int c_132)]))
              refine go _ _ (fun _ k => XS.istore X131.here hx rfl (hb hby at_182) rfl (l' := #[.val (.int p0), .val (.int p1), .val (.int p2), .val (.int p3), .val (.int p4), .val (.int z_102), .val (.int z_105), .val (.int z_109), .val (.int z_113), .val (.int z_116), .val (.int z_120), .val (.int z_123), .val (.int c_125), .val (.int c_127), .val (.int z_128), .val (.int c_130), .val (.int c_132), .unset, .unset, .unset, .unset, .unset, .unset, .unset, .unset]) rfl (XS.iload X131.here hx rfl (hb hby at_184) rfl (XS.iload X131.here hx rfl (hb hby at_186) rfl (XS.iload X131.here hx rfl (hb hby at_188) rfl k)))) ?_
              show G (T131.setTop (mkF m 190 #[.val (.int p0), .val (.int p1), .val (.int p2), .val (.int p3), .val (.int p4), .val (.int z_102), .val (.int z_105), .val (.int z_109), .val (.int z_113), .val (.int z_116), .val (.int z_120), .val (.int z_123), .val (.int c_125), .val (.int c_127), .val (.int z_128), .val (.int c_130), .val (.int c_132), .unset, .unset, .unset, .unset, .unset, .unset, .unset, .unset] [(.int z_109), (.int z_105), (.int z_102)]))
              obtain ⟨rv133, T133, L133, X133, q133, hZ133, hown133, hS133, C133, st133⟩ := own_stW X131 hx hZ (y := (⟨"com/example/hatoyama/hatoyama/ObjectMethodEqualsPinLaw", "mk", "(ICC)Ljava/lang/String;"⟩ : MethodName)) hown (ow hw 7 rfl) (ow hw 8 rfl) (ow hw 2 rfl) (ow hw 9 rfl) (by decide) (own_bkH (W := 0) (rm2 l Z a0 hw z0 O2 P5 [] z_102 z_105 z_109 h0 n0 Z0 Xo p106 p107 p110 p111) hZ (ow hw 9 rfl) (ow hw 2 rfl) (by decide) (by decide) (own_hEL hw) C0.1) e131 hS (Nat.le_refl _) (g := (mkF m 190 #[.val (.int p0), .val (.int p1), .val (.int p2), .val (.int p3), .val (.int p4), .val (.int z_102), .val (.int z_105), .val (.int z_109), .val (.int z_113), .val (.int z_116), .val (.int z_120), .val (.int z_123), .val (.int c_125), .val (.int c_127), .val (.int z_128), .val (.int c_130), .val (.int c_132), .unset, .unset, .unset, .unset, .unset, .unset, .unset, .unset] [(.int z_109), (.int z_105), (.int z_102)])) rfl (by rw [hml]; rfl) (argsL := [(.int z_102), (.int z_105), (.int z_109)]) (rest := []) rfl (lenOf own_pd9 rfl) rfl (by show 2 * 0 + _ ≤ _; exact Nat.le_of_eq rfl) (hb hby at_190) (by decide) (by decide)
              obtain ⟨Nq133, Kp133, ⟨b_134, rfl, f135, f136⟩⟩ := q133
              have N133 := Fr.app N131 Nq133
              refine go _ _ (st133) ?_
              show G (T133.setTop (mkF m 193 #[.val (.int p0), .val (.int p1), .val (.int p2), .val (.int p3), .val (.int p4), .val (.int z_102), .val (.int z_105), .val (.int z_109), .val (.int z_113), .val (.int z_116), .val (.int z_120), .val (.int z_123), .val (.int c_125), .val (.int c_127), .val (.int z_128), .val (.int c_130), .val (.int c_132), .unset, .unset, .unset, .unset, .unset, .unset, .unset, .unset] [(.ref b_134)]))
              refine go _ _ (fun _ k => XS.astore X133.here hx rfl (hb hby at_193) rfl rfl (l' := #[.val (.int p0), .val (.int p1), .val (.int p2), .val (.int p3), .val (.int p4), .val (.int z_102), .val (.int z_105), .val (.int z_109), .val (.int z_113), .val (.int z_116), .val (.int z_120), .val (.int z_123), .val (.int c_125), .val (.int c_127), .val (.int z_128), .val (.int c_130), .val (.int c_132), .val (.ref b_134), .unset, .unset, .unset, .unset, .unset, .unset, .unset]) rfl (XS.iload X133.here hx rfl (hb hby at_195) rfl (XS.iload X133.here hx rfl (hb hby at_197) rfl (XS.iload X133.here hx rfl (hb hby at_199) rfl k)))) ?_
              show G (T133.setTop (mkF m 201 #[.val (.int p0), .val (.int p1), .val (.int p2), .val (.int p3), .val (.int p4), .val (.int z_102), .val (.int z_105), .val (.int z_109), .val (.int z_113), .val (.int z_116), .val (.int z_120), .val (.int z_123), .val (.int c_125), .val (.int c_127), .val (.int z_128), .val (.int c_130), .val (.int c_132), .val (.ref b_134), .unset, .unset, .unset, .unset, .unset, .unset, .unset] [(.int z_120), (.int z_116), (.int z_113)]))
              have K138 : Keep h0 T133.heap [] := (Keep.refl h0 []).trans Kp133 all0
              have F139 : Old Z n0 T133.heap := (Xo.keep K138 all0)
              have Z140 : h0.size ≤ T133.heap.size := Kp133.1
              have C141 : CHr Z own_EL s.vm h0 T133.vm T133.heap := C0.trans C133
              obtain ⟨rv137, T137, L137, X137, q137, hZ137, hown137, hS137, C137, st137⟩ := own_stW X133 hx hZ133 (y := (⟨"com/example/hatoyama/hatoyama/ObjectMethodEqualsPinLaw", "mk", "(ICC)Ljava/lang/String;"⟩ : MethodName)) hown133 (ow hw 7 rfl) (ow hw 8 rfl) (ow hw 2 rfl) (ow hw 9 rfl) (by decide) (own_bkH (W := 0) (rm2 l Z a0 hw z0 O2 P5 [] z_113 z_116 z_120 T133.heap n0 (Nat.le_trans Z0 Z140) F139 p117 p118 p121 p122) hZ133 (ow hw 9 rfl) (ow hw 2 rfl) (by decide) (by decide) (own_hEL hw) C141.1) rfl hS133 (Nat.le_refl _) (g := (mkF m 201 #[.val (.int p0), .val (.int p1), .val (.int p2), .val (.int p3), .val (.int p4), .val (.int z_102), .val (.int z_105), .val (.int z_109), .val (.int z_113), .val (.int z_116), .val (.int z_120), .val (.int z_123), .val (.int c_125), .val (.int c_127), .val (.int z_128), .val (.int c_130), .val (.int c_132), .val (.ref b_134), .unset, .unset, .unset, .unset, .unset, .unset, .unset] [(.int z_120), (.int z_116), (.int z_113)])) rfl (by rw [hml]; rfl) (argsL := [(.int z_113), (.int z_116), (.int z_120)]) (rest := []) rfl (lenOf own_pd9 rfl) rfl (by show 2 * 0 + _ ≤ _; exact Nat.le_of_eq rfl) (hb hby at_201) (by decide) (by decide)
              obtain ⟨Nq137, Kp137, ⟨b_142, rfl, f143, f144⟩⟩ := q137
              have N137 := Fr.app N133 Nq137
              refine go _ _ (st137) ?_
              show G (T137.setTop (mkF m 204 #[.val (.int p0), .val (.int p1), .val (.int p2), .val (.int p3), .val (.int p4), .val (.int z_102), .val (.int z_105), .val (.int z_109), .val (.int z_113), .val (.int z_116), .val (.int z_120), .val (.int z_123), .val (.int c_125), .val (.int c_127), .val (.int z_128), .val (.int c_130), .val (.int c_132), .val (.ref b_134), .unset, .unset, .unset, .unset, .unset, .unset, .unset] [(.ref b_142)]))
              refine go _ _ (fun _ k => XS.astore X137.here hx rfl (hb hby at_204) rfl rfl (l' := #[.val (.int p0), .val (.int p1), .val (.int p2), .val (.int p3), .val (.int p4), .val (.int z_102), .val (.int z_105), .val (.int z_109), .val (.int z_113), .val (.int z_116), .val (.int z_120), .val (.int z_123), .val (.int c_125), .val (.int c_127), .val (.int z_128), .val (.int c_130), .val (.int c_132), .val (.ref b_134), .val (.ref b_142), .unset, .unset, .unset, .unset, .unset, .unset]) rfl (XS.iload X137.here hx rfl (hb hby at_206) rfl (XS.iload X137.here hx rfl (hb hby at_208) rfl (XS.iload X137.here hx rfl (hb hby at_210) rfl k)))) ?_
              show G (T137.setTop (mkF m 212 #[.val (.int p0), .val (.int p1), .val (.int p2), .val (.int p3), .val (.int p4), .val (.int z_102), .val (.int z_105), .val (.int z_109), .val (.int z_113), .val (.int z_116), .val (.int z_120), .val (.int z_123), .val (.int c_125), .val (.int c_127), .val (.int z_128), .val (.int c_130), .val (.int c_132), .val (.ref b_134), .val (.ref b_142), .unset, .unset, .unset, .unset, .unset, .unset] [(.int c_127), (.int c_125), (.int z_123)]))
              have K146 : Keep T133.heap T137.heap [] := (Keep.refl T133.heap []).trans Kp137 all0
              have F147 : Old Z n0 T137.heap := (F139.keep K146 all0)
              have Z148 : h0.size ≤ T137.heap.size := Nat.le_trans Z140 Kp137.1
              have C149 : CHr Z own_EL s.vm h0 T137.vm T137.heap := C141.trans C137
              obtain ⟨rv145, T145, L145, X145, q145, hZ145, hown145, hS145, C145, st145⟩ := own_stW X137 hx hZ137 (y := (⟨"com/example/hatoyama/hatoyama/ObjectMethodEqualsPinLaw", "mk", "(ICC)Ljava/lang/String;"⟩ : MethodName)) hown137 (ow hw 7 rfl) (ow hw 8 rfl) (ow hw 2 rfl) (ow hw 9 rfl) (by decide) (own_bkH (W := 0) (rm2 l Z a0 hw z0 O2 P5 [] z_123 c_125 c_127 T137.heap n0 (Nat.le_trans Z0 Z148) F147 pa125_0 pa125_1 pa127_0 pa127_1) hZ137 (ow hw 9 rfl) (ow hw 2 rfl) (by decide) (by decide) (own_hEL hw) C149.1) rfl hS137 (Nat.le_refl _) (g := (mkF m 212 #[.val (.int p0), .val (.int p1), .val (.int p2), .val (.int p3), .val (.int p4), .val (.int z_102), .val (.int z_105), .val (.int z_109), .val (.int z_113), .val (.int z_116), .val (.int z_120), .val (.int z_123), .val (.int c_125), .val (.int c_127), .val (.int z_128), .val (.int c_130), .val (.int c_132), .val (.ref b_134), .val (.ref b_142), .unset, .unset, .unset, .unset, .unset, .unset] [(.int c_127), (.int c_125), (.int z_123)])) rfl (by rw [hml]; rfl) (argsL := [(.int z_123), (.int c_125), (.int c_127)]) (rest := []) rfl (lenOf own_pd9 rfl) rfl (by show 2 * 0 + _ ≤ _; exact Nat.le_of_eq rfl) (hb hby at_212) (by decide) (by decide)
              obtain ⟨Nq145, Kp145, ⟨b_150, rfl, f151, f152⟩⟩ := q145
              have N145 := Fr.app N137 Nq145
              refine go _ _ (st145) ?_
              show G (T145.setTop (mkF m 215 #[.val (.int p0), .val (.int p1), .val (.int p2), .val (.int p3), .val (.int p4), .val (.int z_102), .val (.int z_105), .val (.int z_109), .val (.int z_113), .val (.int z_116), .val (.int z_120), .val (.int z_123), .val (.int c_125), .val (.int c_127), .val (.int z_128), .val (.int c_130), .val (.int c_132), .val (.ref b_134), .val (.ref b_142), .unset, .unset, .unset, .unset, .unset, .unset] [(.ref b_150)]))
              refine go _ _ (fun _ k => XS.astore X145.here hx rfl (hb hby at_215) rfl rfl (l' := #[.val (.int p0), .val (.int p1), .val (.int p2), .val (.int p3), .val (.int p4), .val (.int z_102), .val (.int z_105), .val (.int z_109), .val (.int z_113), .val (.int z_116), .val (.int z_120), .val (.int z_123), .val (.int c_125), .val (.int c_127), .val (.int z_128), .val (.int c_130), .val (.int c_132), .val (.ref b_134), .val (.ref b_142), .val (.ref b_150), .unset, .unset, .unset, .unset, .unset]) rfl (XS.iload X145.here hx rfl (hb hby at_217) rfl (XS.iload X145.here hx rfl (hb hby at_219) rfl (XS.iload X145.here hx rfl (hb hby at_221) rfl k)))) ?_
              show G (T145.setTop (mkF m 223 #[.val (.int p0), .val (.int p1), .val (.int p2), .val (.int p3), .val (.int p4), .val (.int z_102), .val (.int z_105), .val (.int z_109), .val (.int z_113), .val (.int z_116), .val (.int z_120), .val (.int z_123), .val (.int c_125), .val (.int c_127), .val (.int z_128), .val (.int c_130), .val (.int c_132), .val (.ref b_134), .val (.ref b_142), .val (.ref b_150), .unset, .unset, .unset, .unset, .unset] [(.int c_132), (.int c_130), (.int z_128)]))
              have K154 : Keep T137.heap T145.heap [] := (Keep.refl T137.heap []).trans Kp145 all0
              have F155 : Old Z n0 T145.heap := (F147.keep K154 all0)
              have Z156 : h0.size ≤ T145.heap.size := Nat.le_trans Z148 Kp145.1
              have C157 : CHr Z own_EL s.vm h0 T145.vm T145.heap := C149.trans C145
              obtain ⟨rv153, T153, L153, X153, q153, hZ153, hown153, hS153, C153, st153⟩ := own_stW X145 hx hZ145 (y := (⟨"com/example/hatoyama/hatoyama/ObjectMethodEqualsPinLaw", "mk", "(ICC)Ljava/lang/String;"⟩ : MethodName)) hown145 (ow hw 7 rfl) (ow hw 8 rfl) (ow hw 2 rfl) (ow hw 9 rfl) (by decide) (own_bkH (W := 0) (rm2 l Z a0 hw z0 O2 P5 [] z_128 c_130 c_132 T145.heap n0 (Nat.le_trans Z0 Z156) F155 pa130_0 pa130_1 pa132_0 pa132_1) hZ145 (ow hw 9 rfl) (ow hw 2 rfl) (by decide) (by decide) (own_hEL hw) C157.1) rfl hS145 (Nat.le_refl _) (g := (mkF m 223 #[.val (.int p0), .val (.int p1), .val (.int p2), .val (.int p3), .val (.int p4), .val (.int z_102), .val (.int z_105), .val (.int z_109), .val (.int z_113), .val (.int z_116), .val (.int z_120), .val (.int z_123), .val (.int c_125), .val (.int c_127), .val (.int z_128), .val (.int c_130), .val (.int c_132), .val (.ref b_134), .val (.ref b_142), .val (.ref b_150), .unset, .unset, .unset, .unset, .unset] [(.int c_132), (.int c_130), (.int z_128)])) rfl (by rw [hml]; rfl) (argsL := [(.int z_128), (.int c_130), (.int c_132)]) (rest := []) rfl (lenOf own_pd9 rfl) rfl (by show 2 * 0 + _ ≤ _; exact Nat.le_of_eq rfl) (hb hby at_223) (by decide) (by decide)
              obtain ⟨Nq153, Kp153, ⟨b_158, rfl, f159, f160⟩⟩ := q153
              have N153 := Fr.app N145 Nq153
              refine go _ _ (st153) ?_
              show G (T153.setTop (mkF m 226 #[.val (.int p0), .val (.int p1), .val (.int p2), .val (.int p3), .val (.int p4), .val (.int z_102), .val (.int z_105), .val (.int z_109), .val (.int z_113), .val (.int z_116), .val (.int z_120), .val (.int z_123), .val (.int c_125), .val (.int c_127), .val (.int z_128), .val (.int c_130), .val (.int c_132), .val (.ref b_134), .val (.ref b_142), .val (.ref b_150), .unset, .unset, .unset, .unset, .unset] [(.ref b_158)]))
              refine go _ _ (fun _ k => XS.astore X153.here hx rfl (hb hby at_226) rfl rfl (l' := #[.val (.int p0), .val (.int p1), .val (.int p2), .val (.int p3), .val (.int p4), .val (.int z_102), .val (.int z_105), .val (.int z_109), .val (.int z_113), .val (.int z_116), .val (.int z_120), .val (.int z_123), .val (.int c_125), .val (.int c_127), .val (.int z_128), .val (.int c_130), .val (.int c_132), .val (.ref b_134), .val (.ref b_142), .val (.ref b_150), .val (.ref b_158), .unset, .unset, .unset, .unset]) rfl k) ?_
              show G (T153.setTop (mkF m 228 #[.val (.int p0), .val (.int p1), .val (.int p2), .val (.int p3), .val (.int p4), .val (.int z_102), .val (.int z_105), .val (.int z_109), .val (.int z_113), .val (.int z_116), .val (.int z_120), .val (.int z_123), .val (.int c_125), .val (.int c_127), .val (.int z_128), .val (.int c_130), .val (.int c_132), .val (.ref b_134), .val (.ref b_142), .val (.ref b_150), .val (.ref b_158), .unset, .unset, .unset, .unset] []))
              obtain ⟨T161, h161, X161, e161, E161, A161, D161, -, st161⟩ := newO X153 hx hZ153 hown153 (ow hw 18 rfl) (ow hw 19 rfl) (ow hw 20 rfl) rfl (g := (mkF m 228 #[.val (.int p0), .val (.int p1), .val (.int p2), .val (.int p3), .val (.int p4), .val (.int z_102), .val (.int z_105), .val (.int z_109), .val (.int z_113), .val (.int z_116), .val (.int z_120), .val (.int z_123), .val (.int c_125), .val (.int c_127), .val (.int z_128), .val (.int c_130), .val (.int c_132), .val (.ref b_134), .val (.ref b_142), .val (.ref b_150), .val (.ref b_158), .unset, .unset, .unset, .unset] [])) rfl (hb hby at_228) (by decide) (by decide)
              obtain ⟨b161, g161⟩ : ∃ z, z = T153.heap.size := ⟨_, rfl⟩
              rw [← g161] at A161 D161 st161
              refine go _ _ (st161) ?_
              show G (T161.setTop (mkF m 231 #[.val (.int p0), .val (.int p1), .val (.int p2), .val (.int p3), .val (.int p4), .val (.int z_102), .val (.int z_105), .val (.int z_109), .val (.int z_113), .val (.int z_116), .val (.int z_120), .val (.int z_123), .val (.int c_125), .val (.int c_127), .val (.int z_128), .val (.int c_130), .val (.int c_132), .val (.ref b_134), .val (.ref b_142), .val (.ref b_150), .val (.ref b_158), .unset, .unset, .unset, .unset] [(.ref b161)]))
              refine go _ _ (fun _ k => XS.dup X161.here hx rfl (hb hby at_231) rfl rfl (XS.aload X161.here hx rfl (hb hby at_232) rfl rfl (XS.aload X161.here hx rfl (hb hby at_234) rfl rfl k))) ?_
              show G (T161.setTop (mkF m 236 #[.val (.int p0), .val (.int p1), .val (.int p2), .val (.int p3), .val (.int p4), .val (.int z_102), .val (.int z_105), .val (.int z_109), .val (.int z_113), .val (.int z_116), .val (.int z_120), .val (.int z_123), .val (.int c_125), .val (.int c_127), .val (.int z_128), .val (.int c_130), .val (.int c_132), .val (.ref b_134), .val (.ref b_142), .val (.ref b_150), .val (.ref b_158), .unset, .unset, .unset, .unset] [(.ref b_142), (.ref b_134), (.ref b161), (.ref b161)]))
              have K163 : Keep T133.heap T145.heap [] := K146.trans Kp145 all0
              have K164 : Keep T133.heap T153.heap [] := K163.trans Kp153 all0
              have K165 : Keep T133.heap h161 [] := K164.ext E161
              have F166 : Exa Z h161 b_134 "java/lang/String" := (f135.keep K165)
              have K167 : Keep T137.heap T153.heap [] := K154.trans Kp153 all0
              have K168 : Keep T137.heap h161 [] := K167.ext E161
              have F169 : Exa Z h161 b_142 "java/lang/String" := (f143.keep K168)
              have Z170 : h0.size ≤ T153.heap.size := Nat.le_trans Z156 Kp153.1
              have Z171 : h0.size ≤ h161.size := Nat.le_trans Z170 E161.1
              have C172 : CHr Z own_EL s.vm h0 T153.vm T153.heap := C157.trans C153
              have K173 : Keep T153.heap h161 [] := (Keep.refl T153.heap []).ext E161
              have C174 : CHr Z own_EL s.vm h0 T153.vm h161 := C172.trans (CHr.keep K173 sf0 C172.1)
              have Z175 : T153.heap.size ≤ h161.size := E161.1
              obtain ⟨rv162, T162, L162, X162, q162, hZ162, hown162, hS162, C162, st162⟩ := own_spW X161 hx hZ153 (y := (⟨"com/example/hatoyama/hatoyama/ObjectMethod", "<init>", "(Ljava/lang/String;Ljava/lang/String;)V"⟩ : MethodName)) rfl hown153 (ow hw 21 rfl) (ow hw 22 rfl) (ow hw 23 rfl) (by decide) (own_bkH (W := 1) (rm3 l Z a0 hw z0 O2 P5 [] b161 b_134 b_142 h161 n0 (Nat.le_trans Z0 Z171) A161 (D161 (Or.inr (ow hw 35 rfl)) (ty := (.object "java/lang/String")) (by decide)) (D161 (Or.inr (ow hw 38 rfl)) (ty := (.object "java/lang/String")) (by decide)) F166 F169 (Nat.le_trans (Nat.le_trans Z0 Z170) (Nat.le_of_eq g161.symm))) hZ153 (ow hw 23 rfl) (ow hw 20 rfl) (by decide) (by decide) (own_hEL hw) C174.1) e161 hS153 (Nat.le_trans (Nat.le_refl _) Z175) (g := (mkF m 236 #[.val (.int p0), .val (.int p1), .val (.int p2), .val (.int p3), .val (.int p4), .val (.int z_102), .val (.int z_105), .val (.int z_109), .val (.int z_113), .val (.int z_116), .val (.int z_120), .val (.int z_123), .val (.int c_125), .val (.int c_127), .val (.int z_128), .val (.int c_130), .val (.int c_132), .val (.ref b_134), .val (.ref b_142), .val (.ref b_150), .val (.ref b_158), .unset, .unset, .unset, .unset] [(.ref b_142), (.ref b_134), (.ref b161), (.ref b161)])) rfl (by rw [hml]; rfl) (a := b161) (argsL := [(.ref b_134), (.ref b_142)]) (rest := [(.ref b161)]) rfl (lenOf own_pd10 rfl) rfl (by show 2 * 0 + _ ≤ _; exact Nat.le_of_eq rfl) (hb hby at_236) (by decide) (by decide)
              obtain ⟨Nq162, Kp162, ⟨rfl, f176, f177, f178⟩⟩ := q162
              have N162 := Fr.app N153 Nq162
              refine go _ _ (st162) ?_
              show G (T162.setTop (mkF m 239 #[.val (.int p0), .val (.int p1), .val (.int p2), .val (.int p3), .val (.int p4), .val (.int z_102), .val (.int z_105), .val (.int z_109), .val (.int z_113), .val (.int z_116), .val (.int z_120), .val (.int z_123), .val (.int c_125), .val (.int c_127), .val (.int z_128), .val (.int c_130), .val (.int c_132), .val (.ref b_134), .val (.ref b_142), .val (.ref b_150), .val (.ref b_158), .unset, .unset, .unset, .unset] [(.ref b161)]))
              refine go _ _ (fun _ k => XS.astore X162.here hx rfl (hb hby at_239) rfl rfl (l' := #[.val (.int p0), .val (.int p1), .val (.int p2), .val (.int p3), .val (.int p4), .val (.int z_102), .val (.int z_105), .val (.int z_109), .val (.int z_113), .val (.int z_116), .val (.int z_120), .val (.int z_123), .val (.int c_125), .val (.int c_127), .val (.int z_128), .val (.int c_130), .val (.int c_132), .val (.ref b_134), .val (.ref b_142), .val (.ref b_150), .val (.ref b_158), .val (.ref b161), .unset, .unset, .unset]) rfl (XS.iload X162.here hx rfl (hb hby at_241) rfl (XS.iconst X162.here hx rfl (hb hby at_243) (XS.iand X162.here hx rfl (hb hby at_244) rfl (XS.istore X162.here hx rfl (hb hby at_245) rfl (l' := #[.val (.int p0), .val (.int p1), .val (.int p2), .val (.int p3), .val (.int p4), .val (.int z_102), .val (.int z_105), .val (.int z_109), .val (.int z_113), .val (.int z_116), .val (.int z_120), .val (.int z_123), .val (.int c_125), .val (.int c_127), .val (.int z_128), .val (.int c_130), .val (.int c_132), .val (.ref b_134), .val (.ref b_142), .val (.ref b_150), .val (.ref b_158), .val (.ref b161), .val (.int (p4 &&& (3 : Int32))), .unset, .unset]) rfl (XS.iload X162.here hx rfl (hb hby at_247) rfl k)))))) ?_
              show G (T162.setTop (mkF m 249 #[.val (.int p0), .val (.int p1), .val (.int p2), .val (.int p3), .val (.int p4), .val (.int z_102), .val (.int z_105), .val (.int z_109), .val (.int z_113), .val (.int z_116), .val (.int z_120), .val (.int z_123), .val (.int c_125), .val (.int c_127), .val (.int z_128), .val (.int c_130), .val (.int c_132), .val (.ref b_134), .val (.ref b_142), .val (.ref b_150), .val (.ref b_158), .val (.ref b161), .val (.int (p4 &&& (3 : Int32))), .unset, .unset] [(.int (p4 &&& (3 : Int32)))]))
              by_cases hc249_179 : (p4 &&& (3 : Int32)) = (0 : Int32)
              · refine go _ _ (fun _ k => XS.ifNo X162.here hx rfl (hb hby at_249) rfl ((if0 _ _).trans (teq hc249_179).2) k) ?_
                show G (T162.setTop (mkF m 252 #[.val (.int p0), .val (.int p1), .val (.int p2), .val (.int p3), .val (.int p4), .val (.int z_102), .val (.int z_105), .val (.int z_109), .val (.int z_113), .val (.int z_116), .val (.int z_120), .val (.int z_123), .val (.int c_125), .val (.int c_127), .val (.int z_128), .val (.int c_130), .val (.int c_132), .val (.ref b_134), .val (.ref b_142), .val (.ref b_150), .val (.ref b_158), .val (.ref b161), .val (.int (p4 &&& (3 : Int32))), .unset, .unset] []))
                obtain ⟨T180, h180, X180, e180, E180, A180, D180, -, st180⟩ := newO X162 hx hZ162 hown162 (ow hw 18 rfl) (ow hw 19 rfl) (ow hw 20 rfl) rfl (g := (mkF m 252 #[.val (.int p0), .val (.int p1), .val (.int p2), .val (.int p3), .val (.int p4), .val (.int z_102), .val (.int z_105), .val (.int z_109), .val (.int z_113), .val (.int z_116), .val (.int z_120), .val (.int z_123), .val (.int c_125), .val (.int c_127), .val (.int z_128), .val (.int c_130), .val (.int c_132), .val (.ref b_134), .val (.ref b_142), .val (.ref b_150), .val (.ref b_158), .val (.ref b161), .val (.int (p4 &&& (3 : Int32))), .unset, .unset] [])) rfl (hb hby at_252) (by decide) (by decide)
                obtain ⟨b180, g180⟩ : ∃ z, z = T162.heap.size := ⟨_, rfl⟩
                rw [← g180] at A180 D180 st180
                refine go _ _ (st180) ?_
                show G (T180.setTop (mkF m 255 #[.val (.int p0), .val (.int p1), .val (.int p2), .val (.int p3), .val (.int p4), .val (.int z_102), .val (.int z_105), .val (.int z_109), .val (.int z_113), .val (.int z_116), .val (.int z_120), .val (.int z_123), .val (.int c_125), .val (.int c_127), .val (.int z_128), .val (.int c_130), .val (.int c_132), .val (.ref b_134), .val (.ref b_142), .val (.ref b_150), .val (.ref b_158), .val (.ref b161), .val (.int (p4 &&& (3 : Int32))), .unset, .unset] [(.ref b180)]))
                refine go _ _ (fun _ k => XS.dup X180.here hx rfl (hb hby at_255) rfl rfl (XS.aload X180.here hx rfl (hb hby at_256) rfl rfl (XS.aload X180.here hx rfl (hb hby at_258) rfl rfl k))) ?_
                show G (T180.setTop (mkF m 260 #[.val (.int p0), .val (.int p1), .val (.int p2), .val (.int p3), .val (.int p4), .val (.int z_102), .val (.int z_105), .val (.int z_109), .val (.int z_113), .val (.int z_116), .val (.int z_120), .val (.int z_123), .val (.int c_125), .val (.int c_127), .val (.int z_128), .val (.int c_130), .val (.int c_132), .val (.ref b_134), .val (.ref b_142), .val (.ref b_150), .val (.ref b_158), .val (.ref b161), .val (.int (p4 &&& (3 : Int32))), .unset, .unset] [(.ref b_158), (.ref b_150), (.ref b180), (.ref b180)]))
                have Z182 : T145.heap.size ≤ T153.heap.size := Kp153.1
                have K183 : Keep T145.heap T153.heap [] := (Keep.refl T145.heap []).trans Kp153 all0
                have K184 : Keep T145.heap h161 [] := K183.ext E161
                have K185 : Keep T145.heap T162.heap [] := K184.trans Kp162 (allS (Or.inr (Nat.le_trans Z182 (Nat.le_of_eq g161.symm))) all0)
                have K186 : Keep T145.heap h180 [] := K185.ext E180
                have F187 : Exa Z h180 b_150 "java/lang/String" := (f151.keep K186)
                have K188 : Keep T153.heap T162.heap [] := K173.trans Kp162 (allS (Or.inr (Nat.le_of_eq g161.symm)) all0)
                have K189 : Keep T153.heap h180 [] := K188.ext E180
                have F190 : Exa Z h180 b_158 "java/lang/String" := (f159.keep K189)
                have Z191 : h0.size ≤ T162.heap.size := Nat.le_trans Z171 Kp162.1
                have Z192 : h0.size ≤ h180.size := Nat.le_trans Z191 E180.1
                have C193 : CHr Z own_EL s.vm h0 T162.vm T162.heap := C174.trans C162
                have K194 : Keep T162.heap h180 [] := (Keep.refl T162.heap []).ext E180
                have C195 : CHr Z own_EL s.vm h0 T162.vm h180 := C193.trans (CHr.keep K194 sf0 C193.1)
                have Z196 : T162.heap.size ≤ h180.size := E180.1
                obtain ⟨rv181, T181, L181, X181, q181, hZ181, hown181, hS181, C181, st181⟩ := own_spW X180 hx hZ162 (y := (⟨"com/example/hatoyama/hatoyama/ObjectMethod", "<init>", "(Ljava/lang/String;Ljava/lang/String;)V"⟩ : MethodName)) rfl hown162 (ow hw 21 rfl) (ow hw 22 rfl) (ow hw 23 rfl) (by decide) (own_bkH (W := 1) (rm3 l Z a0 hw z0 O2 P5 [] b180 b_150 b_158 h180 n0 (Nat.le_trans Z0 Z192) A180 (D180 (Or.inr (ow hw 35 rfl)) (ty := (.object "java/lang/String")) (by decide)) (D180 (Or.inr (ow hw 38 rfl)) (ty := (.object "java/lang/String")) (by decide)) F187 F190 (Nat.le_trans (Nat.le_trans Z0 Z191) (Nat.le_of_eq g180.symm))) hZ162 (ow hw 23 rfl) (ow hw 20 rfl) (by decide) (by decide) (own_hEL hw) C195.1) e180 hS162 (Nat.le_trans (Nat.le_refl _) Z196) (g := (mkF m 260 #[.val (.int p0), .val (.int p1), .val (.int p2), .val (.int p3), .val (.int p4), .val (.int z_102), .val (.int z_105), .val (.int z_109), .val (.int z_113), .val (.int z_116), .val (.int z_120), .val (.int z_123), .val (.int c_125), .val (.int c_127), .val (.int z_128), .val (.int c_130), .val (.int c_132), .val (.ref b_134), .val (.ref b_142), .val (.ref b_150), .val (.ref b_158), .val (.ref b161), .val (.int (p4 &&& (3 : Int32))), .unset, .unset] [(.ref b_158), (.ref b_150), (.ref b180), (.ref b180)])) rfl (by rw [hml]; rfl) (a := b180) (argsL := [(.ref b_150), (.ref b_158)]) (rest := [(.ref b180)]) rfl (lenOf own_pd10 rfl) rfl (by show 2 * 0 + _ ≤ _; exact Nat.le_of_eq rfl) (hb hby at_260) (by decide) (by decide)
                obtain ⟨Nq181, Kp181, ⟨rfl, f197, f198, f199⟩⟩ := q181
                have N181 := Fr.app N162 Nq181
                refine go _ _ (st181) ?_
                show G (T181.setTop (mkF m 263 #[.val (.int p0), .val (.int p1), .val (.int p2), .val (.int p3), .val (.int p4), .val (.int z_102), .val (.int z_105), .val (.int z_109), .val (.int z_113), .val (.int z_116), .val (.int z_120), .val (.int z_123), .val (.int c_125), .val (.int c_127), .val (.int z_128), .val (.int c_130), .val (.int c_132), .val (.ref b_134), .val (.ref b_142), .val (.ref b_150), .val (.ref b_158), .val (.ref b161), .val (.int (p4 &&& (3 : Int32))), .unset, .unset] [(.ref b180)]))
                refine go _ _ (fun _ k => XS.astore X181.here hx rfl (hb hby at_263) rfl rfl (l' := #[.val (.int p0), .val (.int p1), .val (.int p2), .val (.int p3), .val (.int p4), .val (.int z_102), .val (.int z_105), .val (.int z_109), .val (.int z_113), .val (.int z_116), .val (.int z_120), .val (.int z_123), .val (.int c_125), .val (.int c_127), .val (.int z_128), .val (.int c_130), .val (.int c_132), .val (.ref b_134), .val (.ref b_142), .val (.ref b_150), .val (.ref b_158), .val (.ref b161), .val (.int (p4 &&& (3 : Int32))), .val (.ref b180), .unset]) rfl (XS.iload X181.here hx rfl (hb hby at_265) rfl (XS.iload X181.here hx rfl (hb hby at_267) rfl (XS.iload X181.here hx rfl (hb hby at_269) rfl (XS.iload X181.here hx rfl (hb hby at_271) rfl (XS.iload X181.here hx rfl (hb hby at_273) rfl k)))))) ?_
                show G (T181.setTop (mkF m 275 #[.val (.int p0), .val (.int p1), .val (.int p2), .val (.int p3), .val (.int p4), .val (.int z_102), .val (.int z_105), .val (.int z_109), .val (.int z_113), .val (.int z_116), .val (.int z_120), .val (.int z_123), .val (.int c_125), .val (.int c_127), .val (.int z_128), .val (.int c_130), .val (.int c_132), .val (.ref b_134), .val (.ref b_142), .val (.ref b_150), .val (.ref b_158), .val (.ref b161), .val (.int (p4 &&& (3 : Int32))), .val (.ref b180), .unset] [(.int c_125), (.int z_123), (.int z_109), (.int z_105), (.int z_102)]))
                refine go _ _ (fun _ k => XS.iload X181.here hx rfl (hb hby at_275) rfl k) ?_
                show G (T181.setTop (mkF m 277 #[.val (.int p0), .val (.int p1), .val (.int p2), .val (.int p3), .val (.int p4), .val (.int z_102), .val (.int z_105), .val (.int z_109), .val (.int z_113), .val (.int z_116), .val (.int z_120), .val (.int z_123), .val (.int c_125), .val (.int c_127), .val (.int z_128), .val (.int c_130), .val (.int c_132), .val (.ref b_134), .val (.ref b_142), .val (.ref b_150), .val (.ref b_158), .val (.ref b161), .val (.int (p4 &&& (3 : Int32))), .val (.ref b180), .unset] [(.int c_127), (.int c_125), (.int z_123), (.int z_109), (.int z_105), (.int z_102)]))
                have Z201 : h0.size ≤ T181.heap.size := Nat.le_trans Z192 Kp181.1
                obtain ⟨rv200, T200, L200, X200, q200, st200⟩ := own_st X181 hx hZ181 (y := (⟨"com/example/hatoyama/hatoyama/ObjectMethodEqualsPinLaw", "same", "(ICCICC)Z"⟩ : MethodName)) hown181 (ow hw 39 rfl) (ow hw 40 rfl) (ow hw 2 rfl) (ow hw 41 rfl) (by decide) (own_bkN (W := 0) (rm6 l Z a0 hw z0 O2 P5 [] z_102 z_105 z_109 z_123 c_125 c_127 T181.heap n0 (Nat.le_trans Z0 Z201) p103 pj123_z0) hZ181 (ow hw 41 rfl) (ow hw 2 rfl) (by decide) (by decide)) rfl (g := (mkF m 277 #[.val (.int p0), .val (.int p1), .val (.int p2), .val (.int p3), .val (.int p4), .val (.int z_102), .val (.int z_105), .val (.int z_109), .val (.int z_113), .val (.int z_116), .val (.int z_120), .val (.int z_123), .val (.int c_125), .val (.int c_127), .val (.int z_128), .val (.int c_130), .val (.int c_132), .val (.ref b_134), .val (.ref b_142), .val (.ref b_150), .val (.ref b_158), .val (.ref b161), .val (.int (p4 &&& (3 : Int32))), .val (.ref b180), .unset] [(.int c_127), (.int c_125), (.int z_123), (.int z_109), (.int z_105), (.int z_102)])) rfl (by rw [hml]; rfl) (argsL := [(.int z_102), (.int z_105), (.int z_109), (.int z_123), (.int c_125), (.int c_127)]) (rest := []) rfl (lenOf own_pd11 rfl) rfl (by show 2 * 0 + _ ≤ _; exact Nat.le_of_eq rfl) (hb hby at_277) (by decide) (by decide)
                obtain ⟨Nq200, e200, q200⟩ := q200
                have N200 := Fr.app N181 Nq200
                rcases q200 with ⟨rfl, p202⟩ | ⟨rfl, p203⟩
                · refine go _ _ (st200) ?_
                  show G (T200.setTop (mkF m 280 #[.val (.int p0), .val (.int p1), .val (.int p2), .val (.int p3), .val (.int p4), .val (.int z_102), .val (.int z_105), .val (.int z_109), .val (.int z_113), .val (.int z_116), .val (.int z_120), .val (.int z_123), .val (.int c_125), .val (.int c_127), .val (.int z_128), .val (.int c_130), .val (.int c_132), .val (.ref b_134), .val (.ref b_142), .val (.ref b_150), .val (.ref b_158), .val (.ref b161), .val (.int (p4 &&& (3 : Int32))), .val (.ref b180), .unset] [(.int (1 : Int32))]))
                  refine go _ _ (fun _ k => XS.ifNo X200.here hx rfl (hb hby at_280) rfl (by decide) k) ?_
                  show G (T200.setTop (mkF m 283 #[.val (.int p0), .val (.int p1), .val (.int p2), .val (.int p3), .val (.int p4), .val (.int z_102), .val (.int z_105), .val (.int z_109), .val (.int z_113), .val (.int z_116), .val (.int z_120), .val (.int z_123), .val (.int c_125), .val (.int c_127), .val (.int z_128), .val (.int c_130), .val (.int c_132), .val (.ref b_134), .val (.ref b_142), .val (.ref b_150), .val (.ref b_158), .val (.ref b161), .val (.int (p4 &&& (3 : Int32))), .val (.ref b180), .unset] []))
                  refine go _ _ (fun _ k => XS.iload X200.here hx rfl (hb hby at_283) rfl (XS.iload X200.here hx rfl (hb hby at_285) rfl (XS.iload X200.here hx rfl (hb hby at_287) rfl (XS.iload X200.here hx rfl (hb hby at_289) rfl (XS.iload X200.here hx rfl (hb hby at_291) rfl (XS.iload X200.here hx rfl (hb hby at_293) rfl k)))))) ?_
                  show G (T200.setTop (mkF m 295 #[.val (.int p0), .val (.int p1), .val (.int p2), .val (.int p3), .val (.int p4), .val (.int z_102), .val (.int z_105), .val (.int z_109), .val (.int z_113), .val (.int z_116), .val (.int z_120), .val (.int z_123), .val (.int c_125), .val (.int c_127), .val (.int z_128), .val (.int c_130), .val (.int c_132), .val (.ref b_134), .val (.ref b_142), .val (.ref b_150), .val (.ref b_158), .val (.ref b161), .val (.int (p4 &&& (3 : Int32))), .val (.ref b180), .unset] [(.int c_132), (.int c_130), (.int z_128), (.int z_120), (.int z_116), (.int z_113)]))
                  obtain ⟨rv204, T204, L204, X204, q204, st204⟩ := own_st X200 hx hZ181 (y := (⟨"com/example/hatoyama/hatoyama/ObjectMethodEqualsPinLaw", "same", "(ICCICC)Z"⟩ : MethodName)) hown181 (ow hw 39 rfl) (ow hw 40 rfl) (ow hw 2 rfl) (ow hw 41 rfl) (by decide) (own_bkN (W := 0) (rm6 l Z a0 hw z0 O2 P5 [] z_113 z_116 z_120 z_128 c_130 c_132 T181.heap n0 (Nat.le_trans Z0 Z201) p114 pj128_z0) hZ181 (ow hw 41 rfl) (ow hw 2 rfl) (by decide) (by decide)) e200 (g := (mkF m 295 #[.val (.int p0), .val (.int p1), .val (.int p2), .val (.int p3), .val (.int p4), .val (.int z_102), .val (.int z_105), .val (.int z_109), .val (.int z_113), .val (.int z_116), .val (.int z_120), .val (.int z_123), .val (.int c_125), .val (.int c_127), .val (.int z_128), .val (.int c_130), .val (.int c_132), .val (.ref b_134), .val (.ref b_142), .val (.ref b_150), .val (.ref b_158), .val (.ref b161), .val (.int (p4 &&& (3 : Int32))), .val (.ref b180), .unset] [(.int c_132), (.int c_130), (.int z_128), (.int z_120), (.int z_116), (.int z_113)])) rfl (by rw [hml]; rfl) (argsL := [(.int z_113), (.int z_116), (.int z_120), (.int z_128), (.int c_130), (.int c_132)]) (rest := []) rfl (lenOf own_pd11 rfl) rfl (by show 2 * 0 + _ ≤ _; exact Nat.le_of_eq rfl) (hb hby at_295) (by decide) (by decide)
                  obtain ⟨Nq204, e204, q204⟩ := q204
                  have N204 := Fr.app N200 Nq204
                  rcases q204 with ⟨rfl, p205⟩ | ⟨rfl, p206⟩
                  · refine go _ _ (st204) ?_
                    show G (T204.setTop (mkF m 298 #[.val (.int p0), .val (.int p1), .val (.int p2), .val (.int p3), .val (.int p4), .val (.int z_102), .val (.int z_105), .val (.int z_109), .val (.int z_113), .val (.int z_116), .val (.int z_120), .val (.int z_123), .val (.int c_125), .val (.int c_127), .val (.int z_128), .val (.int c_130), .val (.int c_132), .val (.ref b_134), .val (.ref b_142), .val (.ref b_150), .val (.ref b_158), .val (.ref b161), .val (.int (p4 &&& (3 : Int32))), .val (.ref b180), .unset] [(.int (1 : Int32))]))
                    refine go _ _ (fun _ k => XS.ifNo X204.here hx rfl (hb hby at_298) rfl (by decide) k) ?_
                    show G (T204.setTop (mkF m 301 #[.val (.int p0), .val (.int p1), .val (.int p2), .val (.int p3), .val (.int p4), .val (.int z_102), .val (.int z_105), .val (.int z_109), .val (.int z_113), .val (.int z_116), .val (.int z_120), .val (.int z_123), .val (.int c_125), .val (.int c_127), .val (.int z_128), .val (.int c_130), .val (.int c_132), .val (.ref b_134), .val (.ref b_142), .val (.ref b_150), .val (.ref b_158), .val (.ref b161), .val (.int (p4 &&& (3 : Int32))), .val (.ref b180), .unset] []))
                    refine go _ _ (fun _ k => XS.iconst X204.here hx rfl (hb hby at_301) k) ?_
                    show G (T204.setTop (mkF m 302 #[.val (.int p0), .val (.int p1), .val (.int p2), .val (.int p3), .val (.int p4), .val (.int z_102), .val (.int z_105), .val (.int z_109), .val (.int z_113), .val (.int z_116), .val (.int z_120), .val (.int z_123), .val (.int c_125), .val (.int c_127), .val (.int z_128), .val (.int c_130), .val (.int c_132), .val (.ref b_134), .val (.ref b_142), .val (.ref b_150), .val (.ref b_158), .val (.ref b161), .val (.int (p4 &&& (3 : Int32))), .val (.ref b180), .unset] [(.int (1 : Int32))]))
                    refine go _ _ (fun _ k => XS.goto X204.here hx rfl (pc0 := 302) (pc' := 306) rfl (hb hby at_302) (by decide) (by decide) k) ?_
                    show G (T204.setTop (mkF m 306 #[.val (.int p0), .val (.int p1), .val (.int p2), .val (.int p3), .val (.int p4), .val (.int z_102), .val (.int z_105), .val (.int z_109), .val (.int z_113), .val (.int z_116), .val (.int z_120), .val (.int z_123), .val (.int c_125), .val (.int c_127), .val (.int z_128), .val (.int c_130), .val (.int c_132), .val (.ref b_134), .val (.ref b_142), .val (.ref b_150), .val (.ref b_158), .val (.ref b161), .val (.int (p4 &&& (3 : Int32))), .val (.ref b180), .unset] [(.int (1 : Int32))]))
                    refine go _ _ (fun _ k => XS.istore X204.here hx rfl (hb hby at_306) rfl (l' := #[.val (.int p0), .val (.int p1), .val (.int p2), .val (.int p3), .val (.int p4), .val (.int z_102), .val (.int z_105), .val (.int z_109), .val (.int z_113), .val (.int z_116), .val (.int z_120), .val (.int z_123), .val (.int c_125), .val (.int c_127), .val (.int z_128), .val (.int c_130), .val (.int c_132), .val (.ref b_134), .val (.ref b_142), .val (.ref b_150), .val (.ref b_158), .val (.ref b161), .val (.int (p4 &&& (3 : Int32))), .val (.ref b180), .val (.int (1 : Int32))]) rfl k) ?_
                    show G (T204.setTop (mkF m 308 #[.val (.int p0), .val (.int p1), .val (.int p2), .val (.int p3), .val (.int p4), .val (.int z_102), .val (.int z_105), .val (.int z_109), .val (.int z_113), .val (.int z_116), .val (.int z_120), .val (.int z_123), .val (.int c_125), .val (.int c_127), .val (.int z_128), .val (.int c_130), .val (.int c_132), .val (.ref b_134), .val (.ref b_142), .val (.ref b_150), .val (.ref b_158), .val (.ref b161), .val (.int (p4 &&& (3 : Int32))), .val (.ref b180), .val (.int (1 : Int32))] []))
                    refine go _ _ (fun _ k => XS.goto X204.here hx rfl (pc0 := 308) (pc' := 349) rfl (hb hby at_308) (by decide) (by decide) k) ?_
                    show G (T204.setTop (mkF m 349 #[.val (.int p0), .val (.int p1), .val (.int p2), .val (.int p3), .val (.int p4), .val (.int z_102), .val (.int z_105), .val (.int z_109), .val (.int z_113), .val (.int z_116), .val (.int z_120), .val (.int z_123), .val (.int c_125), .val (.int c_127), .val (.int z_128), .val (.int c_130), .val (.int c_132), .val (.ref b_134), .val (.ref b_142), .val (.ref b_150), .val (.ref b_158), .val (.ref b161), .val (.int (p4 &&& (3 : Int32))), .val (.ref b180), .val (.int (1 : Int32))] []))
                    refine go _ _ (fun _ k => XS.aload X204.here hx rfl (hb hby at_349) rfl rfl (XS.aload X204.here hx rfl (hb hby at_351) rfl rfl k)) ?_
                    show G (T204.setTop (mkF m 353 #[.val (.int p0), .val (.int p1), .val (.int p2), .val (.int p3), .val (.int p4), .val (.int z_102), .val (.int z_105), .val (.int z_109), .val (.int z_113), .val (.int z_116), .val (.int z_120), .val (.int z_123), .val (.int c_125), .val (.int c_127), .val (.int z_128), .val (.int c_130), .val (.int c_132), .val (.ref b_134), .val (.ref b_142), .val (.ref b_150), .val (.ref b_158), .val (.ref b161), .val (.int (p4 &&& (3 : Int32))), .val (.ref b180), .val (.int (1 : Int32))] [(.ref b180), (.ref b161)]))
                    have Z208 : T145.heap.size ≤ h161.size := Nat.le_trans Z182 E161.1
                    have Z209 : T145.heap.size ≤ T162.heap.size := Nat.le_trans Z208 Kp162.1
                    have K210 : Keep T145.heap T181.heap [] := K186.trans Kp181 (allS (Or.inr (Nat.le_trans Z209 (Nat.le_of_eq g180.symm))) all0)
                    have F211 : Old Z n0 T181.heap := (F155.keep K210 all0)
                    have K212 : Keep T162.heap T181.heap [] := K194.trans Kp181 (allS (Or.inr (Nat.le_of_eq g180.symm)) all0)
                    have F213 : Fld Z T181.heap b161 "com/example/hatoyama/hatoyama/ObjectMethod" "object" "Ljava/lang/String;" (.ref b_134) := (f177.keep K212 nin0)
                    have F214 : Fld Z T181.heap b161 "com/example/hatoyama/hatoyama/ObjectMethod" "method" "Ljava/lang/String;" (.ref b_142) := (f178.keep K212 nin0)
                    have Z215 : h161.size ≤ T162.heap.size := Kp162.1
                    have K216 : Keep h161 T162.heap [b161] := (Keep.refl h161 [b161]).trans Kp162 (allS (Or.inl (List.mem_of_getElem? (i := 0) rfl)) all0)
                    have K217 : Keep h161 h180 [b161] := K216.ext E180
                    have K218 : Keep h161 T181.heap [b161] := K217.trans Kp181 (allS (Or.inr (Nat.le_trans Z215 (Nat.le_of_eq g180.symm))) all0)
                    have F219 : Exa Z T181.heap b_134 "java/lang/String" := (F166.keep K218)
                    have F220 : Exa Z T181.heap b_142 "java/lang/String" := (F169.keep K218)
                    have K221 : Keep h180 T181.heap [b180] := (Keep.refl h180 [b180]).trans Kp181 (allS (Or.inl (List.mem_of_getElem? (i := 0) rfl)) all0)
                    have F222 : Exa Z T181.heap b_150 "java/lang/String" := (F187.keep K221)
                    have F223 : Exa Z T181.heap b_158 "java/lang/String" := (F190.keep K221)
                    have Z224 : T133.heap.size ≤ T137.heap.size := Kp137.1
                    have Z225 : T133.heap.size ≤ T145.heap.size := Nat.le_trans Z224 Kp145.1
                    have Z226 : T133.heap.size ≤ T153.heap.size := Nat.le_trans Z225 Kp153.1
                    have Z227 : T133.heap.size ≤ h161.size := Nat.le_trans Z226 E161.1
                    have Z228 : T133.heap.size ≤ T162.heap.size := Nat.le_trans Z227 Kp162.1
                    have K229 : Keep T133.heap T162.heap [] := K165.trans Kp162 (allS (Or.inr (Nat.le_trans Z226 (Nat.le_of_eq g161.symm))) all0)
                    have K230 : Keep T133.heap h180 [] := K229.ext E180
                    have K231 : Keep T133.heap T181.heap [] := K230.trans Kp181 (allS (Or.inr (Nat.le_trans Z228 (Nat.le_of_eq g180.symm))) all0)
                    have F232 : own_Str Z T181.heap b_134 (own_cs z_102 z_105 z_109) := (own_Str_keep f136 K231)
                    have Z233 : T137.heap.size ≤ T145.heap.size := Kp145.1
                    have Z234 : T137.heap.size ≤ T153.heap.size := Nat.le_trans Z233 Kp153.1
                    have Z235 : T137.heap.size ≤ h161.size := Nat.le_trans Z234 E161.1
                    have Z236 : T137.heap.size ≤ T162.heap.size := Nat.le_trans Z235 Kp162.1
                    have K237 : Keep T137.heap T162.heap [] := K168.trans Kp162 (allS (Or.inr (Nat.le_trans Z234 (Nat.le_of_eq g161.symm))) all0)
                    have K238 : Keep T137.heap h180 [] := K237.ext E180
                    have K239 : Keep T137.heap T181.heap [] := K238.trans Kp181 (allS (Or.inr (Nat.le_trans Z236 (Nat.le_of_eq g180.symm))) all0)
                    have F240 : own_Str Z T181.heap b_142 (own_cs z_113 z_116 z_120) := (own_Str_keep f144 K239)
                    have F241 : own_Str Z T181.heap b_150 (own_cs z_123 c_125 c_127) := (own_Str_keep f152 K210)
                    have Z242 : T153.heap.size ≤ T162.heap.size := Nat.le_trans Z175 Kp162.1
                    have K243 : Keep T153.heap T181.heap [] := K189.trans Kp181 (allS (Or.inr (Nat.le_trans Z242 (Nat.le_of_eq g180.symm))) all0)
                    have F244 : own_Str Z T181.heap b_158 (own_cs z_128 c_130 c_132) := (own_Str_keep f160 K243)
                    have F245 : Exa Z T181.heap b161 "com/example/hatoyama/hatoyama/ObjectMethod" := (f176.keep K212)
                    obtain ⟨rv207, T207, L207, X207, q207, st207⟩ := own_vi X204 hx hZ181 (y := (⟨"com/example/hatoyama/hatoyama/ObjectMethod", "equals", "(Ljava/lang/Object;)Z"⟩ : MethodName)) (z := (⟨"com/example/hatoyama/hatoyama/ObjectMethod", "equals", "(Ljava/lang/Object;)Z"⟩ : MethodName)) hown181 (ow hw 42 rfl) (ow hw 43 rfl) (ow hw 45 rfl) (ow hw 44 rfl) (Or.inl rfl) (by decide) (own_bkN (W := 0) (rmEqO l Z a0 hw z0 O2 P5 [] b161 b180 b_134 b_142 b_150 b_158 (own_cs z_102 z_105 z_109) (own_cs z_113 z_116 z_120) (own_cs z_123 c_125 c_127) (own_cs z_128 c_130 c_132) T181.heap n0 (Nat.le_trans Z0 Z201) F211 f197 F213 F214 f198 f199 F219 F220 F222 F223 F232 F240 F241 F244) hZ181 (ow hw 46 rfl) (ow hw 20 rfl) (by decide) (by decide)) e204 F245 (g := (mkF m 353 #[.val (.int p0), .val (.int p1), .val (.int p2), .val (.int p3), .val (.int p4), .val (.int z_102), .val (.int z_105), .val (.int z_109), .val (.int z_113), .val (.int z_116), .val (.int z_120), .val (.int z_123), .val (.int c_125), .val (.int c_127), .val (.int z_128), .val (.int c_130), .val (.int c_132), .val (.ref b_134), .val (.ref b_142), .val (.ref b_150), .val (.ref b_158), .val (.ref b161), .val (.int (p4 &&& (3 : Int32))), .val (.ref b180), .val (.int (1 : Int32))] [(.ref b180), (.ref b161)])) rfl (by rw [hml]; rfl) (argsL := [(.ref b180)]) (rest := []) rfl (lenOf own_pd6 rfl) rfl (by show 2 * 0 + _ ≤ _; exact Nat.le_of_eq rfl) (hb hby at_353) (by decide) (by decide)
                    obtain ⟨Nq207, e207, q207⟩ := q207
                    have N207 := Fr.app N204 Nq207
                    rcases q207 with ⟨rfl, p246, p247⟩ | ⟨rfl, p248⟩
                    · refine go _ _ (st207) ?_
                      show G (T207.setTop (mkF m 356 #[.val (.int p0), .val (.int p1), .val (.int p2), .val (.int p3), .val (.int p4), .val (.int z_102), .val (.int z_105), .val (.int z_109), .val (.int z_113), .val (.int z_116), .val (.int z_120), .val (.int z_123), .val (.int c_125), .val (.int c_127), .val (.int z_128), .val (.int c_130), .val (.int c_132), .val (.ref b_134), .val (.ref b_142), .val (.ref b_150), .val (.ref b_158), .val (.ref b161), .val (.int (p4 &&& (3 : Int32))), .val (.ref b180), .val (.int (1 : Int32))] [(.int (1 : Int32))]))
                      refine go _ _ (fun _ k => XS.iload X207.here hx rfl (hb hby at_356) rfl k) ?_
                      show G (T207.setTop (mkF m 358 #[.val (.int p0), .val (.int p1), .val (.int p2), .val (.int p3), .val (.int p4), .val (.int z_102), .val (.int z_105), .val (.int z_109), .val (.int z_113), .val (.int z_116), .val (.int z_120), .val (.int z_123), .val (.int c_125), .val (.int c_127), .val (.int z_128), .val (.int c_130), .val (.int c_132), .val (.ref b_134), .val (.ref b_142), .val (.ref b_150), .val (.ref b_158), .val (.ref b161), .val (.int (p4 &&& (3 : Int32))), .val (.ref b180), .val (.int (1 : Int32))] [(.int (1 : Int32)), (.int (1 : Int32))]))
                      refine go _ _ (fun _ k => XS.icmpNo X207.here hx rfl (hb hby at_358) rfl (by decide) k) ?_
                      show G (T207.setTop (mkF m 361 #[.val (.int p0), .val (.int p1), .val (.int p2), .val (.int p3), .val (.int p4), .val (.int z_102), .val (.int z_105), .val (.int z_109), .val (.int z_113), .val (.int z_116), .val (.int z_120), .val (.int z_123), .val (.int c_125), .val (.int c_127), .val (.int z_128), .val (.int c_130), .val (.int c_132), .val (.ref b_134), .val (.ref b_142), .val (.ref b_150), .val (.ref b_158), .val (.ref b161), .val (.int (p4 &&& (3 : Int32))), .val (.ref b180), .val (.int (1 : Int32))] []))
                      refine go _ _ (fun _ k => XS.iconst X207.here hx rfl (hb hby at_361) k) ?_
                      show G (T207.setTop (mkF m 362 #[.val (.int p0), .val (.int p1), .val (.int p2), .val (.int p3), .val (.int p4), .val (.int z_102), .val (.int z_105), .val (.int z_109), .val (.int z_113), .val (.int z_116), .val (.int z_120), .val (.int z_123), .val (.int c_125), .val (.int c_127), .val (.int z_128), .val (.int c_130), .val (.int c_132), .val (.ref b_134), .val (.ref b_142), .val (.ref b_150), .val (.ref b_158), .val (.ref b161), .val (.int (p4 &&& (3 : Int32))), .val (.ref b180), .val (.int (1 : Int32))] [(.int (1 : Int32))]))
                      refine go _ _ (fun _ k => XS.goto X207.here hx rfl (pc0 := 362) (pc' := 366) rfl (hb hby at_362) (by decide) (by decide) k) ?_
                      show G (T207.setTop (mkF m 366 #[.val (.int p0), .val (.int p1), .val (.int p2), .val (.int p3), .val (.int p4), .val (.int z_102), .val (.int z_105), .val (.int z_109), .val (.int z_113), .val (.int z_116), .val (.int z_120), .val (.int z_123), .val (.int c_125), .val (.int c_127), .val (.int z_128), .val (.int c_130), .val (.int c_132), .val (.ref b_134), .val (.ref b_142), .val (.ref b_150), .val (.ref b_158), .val (.ref b161), .val (.int (p4 &&& (3 : Int32))), .val (.ref b180), .val (.int (1 : Int32))] [(.int (1 : Int32))]))
                      have K249 : Keep h0 T137.heap [] := K138.trans Kp137 all0
                      have K250 : Keep h0 T145.heap [] := K249.trans Kp145 all0
                      have K251 : Keep h0 T153.heap [] := K250.trans Kp153 all0
                      have K252 : Keep h0 h161 [] := K251.ext E161
                      have K253 : Keep h0 T162.heap [] := K252.trans Kp162 (allS (Or.inr (Nat.le_trans Z170 (Nat.le_of_eq g161.symm))) all0)
                      have K254 : Keep h0 h180 [] := K253.ext E180
                      have K255 : Keep h0 T181.heap [] := K254.trans Kp181 (allS (Or.inr (Nat.le_trans Z191 (Nat.le_of_eq g180.symm))) all0)
                      have C256 : CHr Z own_EL s.vm h0 T181.vm T181.heap := C195.trans C181
                      refine fin T207 _ _ _ (some (.int (1 : Int32))) T181.vm _ X207 hZ181 hS181 (by rw [e207]; exact (Nat.le_refl _)) (by rw [e207]; exact C256) (fun q => nomatch q) (by decide) (by decide) (by rw [e207]; exact ⟨N207, K255, rfl⟩) _ (own_retN X207 hx (z := (1 : Int32)) (t := .boolean) hret (by simp) (hb hby at_366))
                    · refine go _ _ (st207) ?_
                      show G (T207.setTop (mkF m 356 #[.val (.int p0), .val (.int p1), .val (.int p2), .val (.int p3), .val (.int p4), .val (.int z_102), .val (.int z_105), .val (.int z_109), .val (.int z_113), .val (.int z_116), .val (.int z_120), .val (.int z_123), .val (.int c_125), .val (.int c_127), .val (.int z_128), .val (.int c_130), .val (.int c_132), .val (.ref b_134), .val (.ref b_142), .val (.ref b_150), .val (.ref b_158), .val (.ref b161), .val (.int (p4 &&& (3 : Int32))), .val (.ref b180), .val (.int (1 : Int32))] [(.int (0 : Int32))]))
                      refine go _ _ (fun _ k => XS.iload X207.here hx rfl (hb hby at_356) rfl k) ?_
                      show G (T207.setTop (mkF m 358 #[.val (.int p0), .val (.int p1), .val (.int p2), .val (.int p3), .val (.int p4), .val (.int z_102), .val (.int z_105), .val (.int z_109), .val (.int z_113), .val (.int z_116), .val (.int z_120), .val (.int z_123), .val (.int c_125), .val (.int c_127), .val (.int z_128), .val (.int c_130), .val (.int c_132), .val (.ref b_134), .val (.ref b_142), .val (.ref b_150), .val (.ref b_158), .val (.ref b161), .val (.int (p4 &&& (3 : Int32))), .val (.ref b180), .val (.int (1 : Int32))] [(.int (1 : Int32)), (.int (0 : Int32))]))
                      exact absurd ⟨p202, p205⟩ p248
                  · refine go _ _ (st204) ?_
                    show G (T204.setTop (mkF m 298 #[.val (.int p0), .val (.int p1), .val (.int p2), .val (.int p3), .val (.int p4), .val (.int z_102), .val (.int z_105), .val (.int z_109), .val (.int z_113), .val (.int z_116), .val (.int z_120), .val (.int z_123), .val (.int c_125), .val (.int c_127), .val (.int z_128), .val (.int c_130), .val (.int c_132), .val (.ref b_134), .val (.ref b_142), .val (.ref b_150), .val (.ref b_158), .val (.ref b161), .val (.int (p4 &&& (3 : Int32))), .val (.ref b180), .unset] [(.int (0 : Int32))]))
                    refine go _ _ (fun _ k => XS.ifYes X204.here hx rfl (pc0 := 298) (pc' := 305) rfl (hb hby at_298) rfl (by decide) (by decide) (by decide) k) ?_
                    show G (T204.setTop (mkF m 305 #[.val (.int p0), .val (.int p1), .val (.int p2), .val (.int p3), .val (.int p4), .val (.int z_102), .val (.int z_105), .val (.int z_109), .val (.int z_113), .val (.int z_116), .val (.int z_120), .val (.int z_123), .val (.int c_125), .val (.int c_127), .val (.int z_128), .val (.int c_130), .val (.int c_132), .val (.ref b_134), .val (.ref b_142), .val (.ref b_150), .val (.ref b_158), .val (.ref b161), .val (.int (p4 &&& (3 : Int32))), .val (.ref b180), .unset] []))
                    refine go _ _ (fun _ k => XS.iconst X204.here hx rfl (hb hby at_305) (XS.istore X204.here hx rfl (hb hby at_306) rfl (l' := #[.val (.int p0), .val (.int p1), .val (.int p2), .val (.int p3), .val (.int p4), .val (.int z_102), .val (.int z_105), .val (.int z_109), .val (.int z_113), .val (.int z_116), .val (.int z_120), .val (.int z_123), .val (.int c_125), .val (.int c_127), .val (.int z_128), .val (.int c_130), .val (.int c_132), .val (.ref b_134), .val (.ref b_142), .val (.ref b_150), .val (.ref b_158), .val (.ref b161), .val (.int (p4 &&& (3 : Int32))), .val (.ref b180), .val (.int (0 : Int32))]) rfl k)) ?_
                    show G (T204.setTop (mkF m 308 #[.val (.int p0), .val (.int p1), .val (.int p2), .val (.int p3), .val (.int p4), .val (.int z_102), .val (.int z_105), .val (.int z_109), .val (.int z_113), .val (.int z_116), .val (.int z_120), .val (.int z_123), .val (.int c_125), .val (.int c_127), .val (.int z_128), .val (.int c_130), .val (.int c_132), .val (.ref b_134), .val (.ref b_142), .val (.ref b_150), .val (.ref b_158), .val (.ref b161), .val (.int (p4 &&& (3 : Int32))), .val (.ref b180), .val (.int (0 : Int32))] []))
                    refine go _ _ (fun _ k => XS.goto X204.here hx rfl (pc0 := 308) (pc' := 349) rfl (hb hby at_308) (by decide) (by decide) k) ?_
                    show G (T204.setTop (mkF m 349 #[.val (.int p0), .val (.int p1), .val (.int p2), .val (.int p3), .val (.int p4), .val (.int z_102), .val (.int z_105), .val (.int z_109), .val (.int z_113), .val (.int z_116), .val (.int z_120), .val (.int z_123), .val (.int c_125), .val (.int c_127), .val (.int z_128), .val (.int c_130), .val (.int c_132), .val (.ref b_134), .val (.ref b_142), .val (.ref b_150), .val (.ref b_158), .val (.ref b161), .val (.int (p4 &&& (3 : Int32))), .val (.ref b180), .val (.int (0 : Int32))] []))
                    refine go _ _ (fun _ k => XS.aload X204.here hx rfl (hb hby at_349) rfl rfl (XS.aload X204.here hx rfl (hb hby at_351) rfl rfl k)) ?_
                    show G (T204.setTop (mkF m 353 #[.val (.int p0), .val (.int p1), .val (.int p2), .val (.int p3), .val (.int p4), .val (.int z_102), .val (.int z_105), .val (.int z_109), .val (.int z_113), .val (.int z_116), .val (.int z_120), .val (.int z_123), .val (.int c_125), .val (.int c_127), .val (.int z_128), .val (.int c_130), .val (.int c_132), .val (.ref b_134), .val (.ref b_142), .val (.ref b_150), .val (.ref b_158), .val (.ref b161), .val (.int (p4 &&& (3 : Int32))), .val (.ref b180), .val (.int (0 : Int32))] [(.ref b180), (.ref b161)]))
                    have Z258 : T145.heap.size ≤ h161.size := Nat.le_trans Z182 E161.1
                    have Z259 : T145.heap.size ≤ T162.heap.size := Nat.le_trans Z258 Kp162.1
                    have K260 : Keep T145.heap T181.heap [] := K186.trans Kp181 (allS (Or.inr (Nat.le_trans Z259 (Nat.le_of_eq g180.symm))) all0)
                    have F261 : Old Z n0 T181.heap := (F155.keep K260 all0)
                    have K262 : Keep T162.heap T181.heap [] := K194.trans Kp181 (allS (Or.inr (Nat.le_of_eq g180.symm)) all0)
                    have F263 : Fld Z T181.heap b161 "com/example/hatoyama/hatoyama/ObjectMethod" "object" "Ljava/lang/String;" (.ref b_134) := (f177.keep K262 nin0)
                    have F264 : Fld Z T181.heap b161 "com/example/hatoyama/hatoyama/ObjectMethod" "method" "Ljava/lang/String;" (.ref b_142) := (f178.keep K262 nin0)
                    have Z265 : h161.size ≤ T162.heap.size := Kp162.1
                    have K266 : Keep h161 T162.heap [b161] := (Keep.refl h161 [b161]).trans Kp162 (allS (Or.inl (List.mem_of_getElem? (i := 0) rfl)) all0)
                    have K267 : Keep h161 h180 [b161] := K266.ext E180
                    have K268 : Keep h161 T181.heap [b161] := K267.trans Kp181 (allS (Or.inr (Nat.le_trans Z265 (Nat.le_of_eq g180.symm))) all0)
                    have F269 : Exa Z T181.heap b_134 "java/lang/String" := (F166.keep K268)
                    have F270 : Exa Z T181.heap b_142 "java/lang/String" := (F169.keep K268)
                    have K271 : Keep h180 T181.heap [b180] := (Keep.refl h180 [b180]).trans Kp181 (allS (Or.inl (List.mem_of_getElem? (i := 0) rfl)) all0)
                    have F272 : Exa Z T181.heap b_150 "java/lang/String" := (F187.keep K271)
                    have F273 : Exa Z T181.heap b_158 "java/lang/String" := (F190.keep K271)
                    have Z274 : T133.heap.size ≤ T137.heap.size := Kp137.1
                    have Z275 : T133.heap.size ≤ T145.heap.size := Nat.le_trans Z274 Kp145.1
                    have Z276 : T133.heap.size ≤ T153.heap.size := Nat.le_trans Z275 Kp153.1
                    have Z277 : T133.heap.size ≤ h161.size := Nat.le_trans Z276 E161.1
                    have Z278 : T133.heap.size ≤ T162.heap.size := Nat.le_trans Z277 Kp162.1
                    have K279 : Keep T133.heap T162.heap [] := K165.trans Kp162 (allS (Or.inr (Nat.le_trans Z276 (Nat.le_of_eq g161.symm))) all0)
                    have K280 : Keep T133.heap h180 [] := K279.ext E180
                    have K281 : Keep T133.heap T181.heap [] := K280.trans Kp181 (allS (Or.inr (Nat.le_trans Z278 (Nat.le_of_eq g180.symm))) all0)
                    have F282 : own_Str Z T181.heap b_134 (own_cs z_102 z_105 z_109) := (own_Str_keep f136 K281)
                    have Z283 : T137.heap.size ≤ T145.heap.size := Kp145.1
                    have Z284 : T137.heap.size ≤ T153.heap.size := Nat.le_trans Z283 Kp153.1
                    have Z285 : T137.heap.size ≤ h161.size := Nat.le_trans Z284 E161.1
                    have Z286 : T137.heap.size ≤ T162.heap.size := Nat.le_trans Z285 Kp162.1
                    have K287 : Keep T137.heap T162.heap [] := K168.trans Kp162 (allS (Or.inr (Nat.le_trans Z284 (Nat.le_of_eq g161.symm))) all0)
                    have K288 : Keep T137.heap h180 [] := K287.ext E180
                    have K289 : Keep T137.heap T181.heap [] := K288.trans Kp181 (allS (Or.inr (Nat.le_trans Z286 (Nat.le_of_eq g180.symm))) all0)
                    have F290 : own_Str Z T181.heap b_142 (own_cs z_113 z_116 z_120) := (own_Str_keep f144 K289)
                    have F291 : own_Str Z T181.heap b_150 (own_cs z_123 c_125 c_127) := (own_Str_keep f152 K260)
                    have Z292 : T153.heap.size ≤ T162.heap.size := Nat.le_trans Z175 Kp162.1
                    have K293 : Keep T153.heap T181.heap [] := K189.trans Kp181 (allS (Or.inr (Nat.le_trans Z292 (Nat.le_of_eq g180.symm))) all0)
                    have F294 : own_Str Z T181.heap b_158 (own_cs z_128 c_130 c_132) := (own_Str_keep f160 K293)
                    have F295 : Exa Z T181.heap b161 "com/example/hatoyama/hatoyama/ObjectMethod" := (f176.keep K262)
                    obtain ⟨rv257, T257, L257, X257, q257, st257⟩ := own_vi X204 hx hZ181 (y := (⟨"com/example/hatoyama/hatoyama/ObjectMethod", "equals", "(Ljava/lang/Object;)Z"⟩ : MethodName)) (z := (⟨"com/example/hatoyama/hatoyama/ObjectMethod", "equals", "(Ljava/lang/Object;)Z"⟩ : MethodName)) hown181 (ow hw 42 rfl) (ow hw 43 rfl) (ow hw 45 rfl) (ow hw 44 rfl) (Or.inl rfl) (by decide) (own_bkN (W := 0) (rmEqO l Z a0 hw z0 O2 P5 [] b161 b180 b_134 b_142 b_150 b_158 (own_cs z_102 z_105 z_109) (own_cs z_113 z_116 z_120) (own_cs z_123 c_125 c_127) (own_cs z_128 c_130 c_132) T181.heap n0 (Nat.le_trans Z0 Z201) F261 f197 F263 F264 f198 f199 F269 F270 F272 F273 F282 F290 F291 F294) hZ181 (ow hw 46 rfl) (ow hw 20 rfl) (by decide) (by decide)) e204 F295 (g := (mkF m 353 #[.val (.int p0), .val (.int p1), .val (.int p2), .val (.int p3), .val (.int p4), .val (.int z_102), .val (.int z_105), .val (.int z_109), .val (.int z_113), .val (.int z_116), .val (.int z_120), .val (.int z_123), .val (.int c_125), .val (.int c_127), .val (.int z_128), .val (.int c_130), .val (.int c_132), .val (.ref b_134), .val (.ref b_142), .val (.ref b_150), .val (.ref b_158), .val (.ref b161), .val (.int (p4 &&& (3 : Int32))), .val (.ref b180), .val (.int (0 : Int32))] [(.ref b180), (.ref b161)])) rfl (by rw [hml]; rfl) (argsL := [(.ref b180)]) (rest := []) rfl (lenOf own_pd6 rfl) rfl (by show 2 * 0 + _ ≤ _; exact Nat.le_of_eq rfl) (hb hby at_353) (by decide) (by decide)
                    obtain ⟨Nq257, e257, q257⟩ := q257
                    have N257 := Fr.app N204 Nq257
                    rcases q257 with ⟨rfl, p296, p297⟩ | ⟨rfl, p298⟩
                    · exact absurd p297 p206
                    · refine go _ _ (st257) ?_
                      show G (T257.setTop (mkF m 356 #[.val (.int p0), .val (.int p1), .val (.int p2), .val (.int p3), .val (.int p4), .val (.int z_102), .val (.int z_105), .val (.int z_109), .val (.int z_113), .val (.int z_116), .val (.int z_120), .val (.int z_123), .val (.int c_125), .val (.int c_127), .val (.int z_128), .val (.int c_130), .val (.int c_132), .val (.ref b_134), .val (.ref b_142), .val (.ref b_150), .val (.ref b_158), .val (.ref b161), .val (.int (p4 &&& (3 : Int32))), .val (.ref b180), .val (.int (0 : Int32))] [(.int (0 : Int32))]))
                      refine go _ _ (fun _ k => XS.iload X257.here hx rfl (hb hby at_356) rfl k) ?_
                      show G (T257.setTop (mkF m 358 #[.val (.int p0), .val (.int p1), .val (.int p2), .val (.int p3), .val (.int p4), .val (.int z_102), .val (.int z_105), .val (.int z_109), .val (.int z_113), .val (.int z_116), .val (.int z_120), .val (.int z_123), .val (.int c_125), .val (.int c_127), .val (.int z_128), .val (.int c_130), .val (.int c_132), .val (.ref b_134), .val (.ref b_142), .val (.ref b_150), .val (.ref b_158), .val (.ref b161), .val (.int (p4 &&& (3 : Int32))), .val (.ref b180), .val (.int (0 : Int32))] [(.int (0 : Int32)), (.int (0 : Int32))]))
                      refine go _ _ (fun _ k => XS.icmpNo X257.here hx rfl (hb hby at_358) rfl (by decide) k) ?_
                      show G (T257.setTop (mkF m 361 #[.val (.int p0), .val (.int p1), .val (.int p2), .val (.int p3), .val (.int p4), .val (.int z_102), .val (.int z_105), .val (.int z_109), .val (.int z_113), .val (.int z_116), .val (.int z_120), .val (.int z_123), .val (.int c_125), .val (.int c_127), .val (.int z_128), .val (.int c_130), .val (.int c_132), .val (.ref b_134), .val (.ref b_142), .val (.ref b_150), .val (.ref b_158), .val (.ref b161), .val (.int (p4 &&& (3 : Int32))), .val (.ref b180), .val (.int (0 : Int32))] []))
                      refine go _ _ (fun _ k => XS.iconst X257.here hx rfl (hb hby at_361) k) ?_
                      show G (T257.setTop (mkF m 362 #[.val (.int p0), .val (.int p1), .val (.int p2), .val (.int p3), .val (.int p4), .val (.int z_102), .val (.int z_105), .val (.int z_109), .val (.int z_113), .val (.int z_116), .val (.int z_120), .val (.int z_123), .val (.int c_125), .val (.int c_127), .val (.int z_128), .val (.int c_130), .val (.int c_132), .val (.ref b_134), .val (.ref b_142), .val (.ref b_150), .val (.ref b_158), .val (.ref b161), .val (.int (p4 &&& (3 : Int32))), .val (.ref b180), .val (.int (0 : Int32))] [(.int (1 : Int32))]))
                      refine go _ _ (fun _ k => XS.goto X257.here hx rfl (pc0 := 362) (pc' := 366) rfl (hb hby at_362) (by decide) (by decide) k) ?_
                      show G (T257.setTop (mkF m 366 #[.val (.int p0), .val (.int p1), .val (.int p2), .val (.int p3), .val (.int p4), .val (.int z_102), .val (.int z_105), .val (.int z_109), .val (.int z_113), .val (.int z_116), .val (.int z_120), .val (.int z_123), .val (.int c_125), .val (.int c_127), .val (.int z_128), .val (.int c_130), .val (.int c_132), .val (.ref b_134), .val (.ref b_142), .val (.ref b_150), .val (.ref b_158), .val (.ref b161), .val (.int (p4 &&& (3 : Int32))), .val (.ref b180), .val (.int (0 : Int32))] [(.int (1 : Int32))]))
                      have K299 : Keep h0 T137.heap [] := K138.trans Kp137 all0
                      have K300 : Keep h0 T145.heap [] := K299.trans Kp145 all0
                      have K301 : Keep h0 T153.heap [] := K300.trans Kp153 all0
                      have K302 : Keep h0 h161 [] := K301.ext E161
                      have K303 : Keep h0 T162.heap [] := K302.trans Kp162 (allS (Or.inr (Nat.le_trans Z170 (Nat.le_of_eq g161.symm))) all0)
                      have K304 : Keep h0 h180 [] := K303.ext E180
                      have K305 : Keep h0 T181.heap [] := K304.trans Kp181 (allS (Or.inr (Nat.le_trans Z191 (Nat.le_of_eq g180.symm))) all0)
                      have C306 : CHr Z own_EL s.vm h0 T181.vm T181.heap := C195.trans C181
                      refine fin T257 _ _ _ (some (.int (1 : Int32))) T181.vm _ X257 hZ181 hS181 (by rw [e257]; exact (Nat.le_refl _)) (by rw [e257]; exact C306) (fun q => nomatch q) (by decide) (by decide) (by rw [e257]; exact ⟨N257, K305, rfl⟩) _ (own_retN X257 hx (z := (1 : Int32)) (t := .boolean) hret (by simp) (hb hby at_366))
                · refine go _ _ (st200) ?_
                  show G (T200.setTop (mkF m 280 #[.val (.int p0), .val (.int p1), .val (.int p2), .val (.int p3), .val (.int p4), .val (.int z_102), .val (.int z_105), .val (.int z_109), .val (.int z_113), .val (.int z_116), .val (.int z_120), .val (.int z_123), .val (.int c_125), .val (.int c_127), .val (.int z_128), .val (.int c_130), .val (.int c_132), .val (.ref b_134), .val (.ref b_142), .val (.ref b_150), .val (.ref b_158), .val (.ref b161), .val (.int (p4 &&& (3 : Int32))), .val (.ref b180), .unset] [(.int (0 : Int32))]))
                  refine go _ _ (fun _ k => XS.ifYes X200.here hx rfl (pc0 := 280) (pc' := 305) rfl (hb hby at_280) rfl (by decide) (by decide) (by decide) k) ?_
                  show G (T200.setTop (mkF m 305 #[.val (.int p0), .val (.int p1), .val (.int p2), .val (.int p3), .val (.int p4), .val (.int z_102), .val (.int z_105), .val (.int z_109), .val (.int z_113), .val (.int z_116), .val (.int z_120), .val (.int z_123), .val (.int c_125), .val (.int c_127), .val (.int z_128), .val (.int c_130), .val (.int c_132), .val (.ref b_134), .val (.ref b_142), .val (.ref b_150), .val (.ref b_158), .val (.ref b161), .val (.int (p4 &&& (3 : Int32))), .val (.ref b180), .unset] []))
                  refine go _ _ (fun _ k => XS.iconst X200.here hx rfl (hb hby at_305) (XS.istore X200.here hx rfl (hb hby at_306) rfl (l' := #[.val (.int p0), .val (.int p1), .val (.int p2), .val (.int p3), .val (.int p4), .val (.int z_102), .val (.int z_105), .val (.int z_109), .val (.int z_113), .val (.int z_116), .val (.int z_120), .val (.int z_123), .val (.int c_125), .val (.int c_127), .val (.int z_128), .val (.int c_130), .val (.int c_132), .val (.ref b_134), .val (.ref b_142), .val (.ref b_150), .val (.ref b_158), .val (.ref b161), .val (.int (p4 &&& (3 : Int32))), .val (.ref b180), .val (.int (0 : Int32))]) rfl k)) ?_
                  show G (T200.setTop (mkF m 308 #[.val (.int p0), .val (.int p1), .val (.int p2), .val (.int p3), .val (.int p4), .val (.int z_102), .val (.int z_105), .val (.int z_109), .val (.int z_113), .val (.int z_116), .val (.int z_120), .val (.int z_123), .val (.int c_125), .val (.int c_127), .val (.int z_128), .val (.int c_130), .val (.int c_132), .val (.ref b_134), .val (.ref b_142), .val (.ref b_150), .val (.ref b_158), .val (.ref b161), .val (.int (p4 &&& (3 : Int32))), .val (.ref b180), .val (.int (0 : Int32))] []))
                  refine go _ _ (fun _ k => XS.goto X200.here hx rfl (pc0 := 308) (pc' := 349) rfl (hb hby at_308) (by decide) (by decide) k) ?_
                  show G (T200.setTop (mkF m 349 #[.val (.int p0), .val (.int p1), .val (.int p2), .val (.int p3), .val (.int p4), .val (.int z_102), .val (.int z_105), .val (.int z_109), .val (.int z_113), .val (.int z_116), .val (.int z_120), .val (.int z_123), .val (.int c_125), .val (.int c_127), .val (.int z_128), .val (.int c_130), .val (.int c_132), .val (.ref b_134), .val (.ref b_142), .val (.ref b_150), .val (.ref b_158), .val (.ref b161), .val (.int (p4 &&& (3 : Int32))), .val (.ref b180), .val (.int (0 : Int32))] []))
                  refine go _ _ (fun _ k => XS.aload X200.here hx rfl (hb hby at_349) rfl rfl (XS.aload X200.here hx rfl (hb hby at_351) rfl rfl k)) ?_
                  show G (T200.setTop (mkF m 353 #[.val (.int p0), .val (.int p1), .val (.int p2), .val (.int p3), .val (.int p4), .val (.int z_102), .val (.int z_105), .val (.int z_109), .val (.int z_113), .val (.int z_116), .val (.int z_120), .val (.int z_123), .val (.int c_125), .val (.int c_127), .val (.int z_128), .val (.int c_130), .val (.int c_132), .val (.ref b_134), .val (.ref b_142), .val (.ref b_150), .val (.ref b_158), .val (.ref b161), .val (.int (p4 &&& (3 : Int32))), .val (.ref b180), .val (.int (0 : Int32))] [(.ref b180), (.ref b161)]))
                  have Z308 : T145.heap.size ≤ h161.size := Nat.le_trans Z182 E161.1
                  have Z309 : T145.heap.size ≤ T162.heap.size := Nat.le_trans Z308 Kp162.1
                  have K310 : Keep T145.heap T181.heap [] := K186.trans Kp181 (allS (Or.inr (Nat.le_trans Z309 (Nat.le_of_eq g180.symm))) all0)
                  have F311 : Old Z n0 T181.heap := (F155.keep K310 all0)
                  have K312 : Keep T162.heap T181.heap [] := K194.trans Kp181 (allS (Or.inr (Nat.le_of_eq g180.symm)) all0)
                  have F313 : Fld Z T181.heap b161 "com/example/hatoyama/hatoyama/ObjectMethod" "object" "Ljava/lang/String;" (.ref b_134) := (f177.keep K312 nin0)
                  have F314 : Fld Z T181.heap b161 "com/example/hatoyama/hatoyama/ObjectMethod" "method" "Ljava/lang/String;" (.ref b_142) := (f178.keep K312 nin0)
                  have Z315 : h161.size ≤ T162.heap.size := Kp162.1
                  have K316 : Keep h161 T162.heap [b161] := (Keep.refl h161 [b161]).trans Kp162 (allS (Or.inl (List.mem_of_getElem? (i := 0) rfl)) all0)
                  have K317 : Keep h161 h180 [b161] := K316.ext E180
                  have K318 : Keep h161 T181.heap [b161] := K317.trans Kp181 (allS (Or.inr (Nat.le_trans Z315 (Nat.le_of_eq g180.symm))) all0)
                  have F319 : Exa Z T181.heap b_134 "java/lang/String" := (F166.keep K318)
                  have F320 : Exa Z T181.heap b_142 "java/lang/String" := (F169.keep K318)
                  have K321 : Keep h180 T181.heap [b180] := (Keep.refl h180 [b180]).trans Kp181 (allS (Or.inl (List.mem_of_getElem? (i := 0) rfl)) all0)
                  have F322 : Exa Z T181.heap b_150 "java/lang/String" := (F187.keep K321)
                  have F323 : Exa Z T181.heap b_158 "java/lang/String" := (F190.keep K321)
                  have Z324 : T133.heap.size ≤ T137.heap.size := Kp137.1
                  have Z325 : T133.heap.size ≤ T145.heap.size := Nat.le_trans Z324 Kp145.1
                  have Z326 : T133.heap.size ≤ T153.heap.size := Nat.le_trans Z325 Kp153.1
                  have Z327 : T133.heap.size ≤ h161.size := Nat.le_trans Z326 E161.1
                  have Z328 : T133.heap.size ≤ T162.heap.size := Nat.le_trans Z327 Kp162.1
                  have K329 : Keep T133.heap T162.heap [] := K165.trans Kp162 (allS (Or.inr (Nat.le_trans Z326 (Nat.le_of_eq g161.symm))) all0)
                  have K330 : Keep T133.heap h180 [] := K329.ext E180
                  have K331 : Keep T133.heap T181.heap [] := K330.trans Kp181 (allS (Or.inr (Nat.le_trans Z328 (Nat.le_of_eq g180.symm))) all0)
                  have F332 : own_Str Z T181.heap b_134 (own_cs z_102 z_105 z_109) := (own_Str_keep f136 K331)
                  have Z333 : T137.heap.size ≤ T145.heap.size := Kp145.1
                  have Z334 : T137.heap.size ≤ T153.heap.size := Nat.le_trans Z333 Kp153.1
                  have Z335 : T137.heap.size ≤ h161.size := Nat.le_trans Z334 E161.1
                  have Z336 : T137.heap.size ≤ T162.heap.size := Nat.le_trans Z335 Kp162.1
                  have K337 : Keep T137.heap T162.heap [] := K168.trans Kp162 (allS (Or.inr (Nat.le_trans Z334 (Nat.le_of_eq g161.symm))) all0)
                  have K338 : Keep T137.heap h180 [] := K337.ext E180
                  have K339 : Keep T137.heap T181.heap [] := K338.trans Kp181 (allS (Or.inr (Nat.le_trans Z336 (Nat.le_of_eq g180.symm))) all0)
                  have F340 : own_Str Z T181.heap b_142 (own_cs z_113 z_116 z_120) := (own_Str_keep f144 K339)
                  have F341 : own_Str Z T181.heap b_150 (own_cs z_123 c_125 c_127) := (own_Str_keep f152 K310)
                  have Z342 : T153.heap.size ≤ T162.heap.size := Nat.le_trans Z175 Kp162.1
                  have K343 : Keep T153.heap T181.heap [] := K189.trans Kp181 (allS (Or.inr (Nat.le_trans Z342 (Nat.le_of_eq g180.symm))) all0)
                  have F344 : own_Str Z T181.heap b_158 (own_cs z_128 c_130 c_132) := (own_Str_keep f160 K343)
                  have F345 : Exa Z T181.heap b161 "com/example/hatoyama/hatoyama/ObjectMethod" := (f176.keep K312)
                  obtain ⟨rv307, T307, L307, X307, q307, st307⟩ := own_vi X200 hx hZ181 (y := (⟨"com/example/hatoyama/hatoyama/ObjectMethod", "equals", "(Ljava/lang/Object;)Z"⟩ : MethodName)) (z := (⟨"com/example/hatoyama/hatoyama/ObjectMethod", "equals", "(Ljava/lang/Object;)Z"⟩ : MethodName)) hown181 (ow hw 42 rfl) (ow hw 43 rfl) (ow hw 45 rfl) (ow hw 44 rfl) (Or.inl rfl) (by decide) (own_bkN (W := 0) (rmEqO l Z a0 hw z0 O2 P5 [] b161 b180 b_134 b_142 b_150 b_158 (own_cs z_102 z_105 z_109) (own_cs z_113 z_116 z_120) (own_cs z_123 c_125 c_127) (own_cs z_128 c_130 c_132) T181.heap n0 (Nat.le_trans Z0 Z201) F311 f197 F313 F314 f198 f199 F319 F320 F322 F323 F332 F340 F341 F344) hZ181 (ow hw 46 rfl) (ow hw 20 rfl) (by decide) (by decide)) e200 F345 (g := (mkF m 353 #[.val (.int p0), .val (.int p1), .val (.int p2), .val (.int p3), .val (.int p4), .val (.int z_102), .val (.int z_105), .val (.int z_109), .val (.int z_113), .val (.int z_116), .val (.int z_120), .val (.int z_123), .val (.int c_125), .val (.int c_127), .val (.int z_128), .val (.int c_130), .val (.int c_132), .val (.ref b_134), .val (.ref b_142), .val (.ref b_150), .val (.ref b_158), .val (.ref b161), .val (.int (p4 &&& (3 : Int32))), .val (.ref b180), .val (.int (0 : Int32))] [(.ref b180), (.ref b161)])) rfl (by rw [hml]; rfl) (argsL := [(.ref b180)]) (rest := []) rfl (lenOf own_pd6 rfl) rfl (by show 2 * 0 + _ ≤ _; exact Nat.le_of_eq rfl) (hb hby at_353) (by decide) (by decide)
                  obtain ⟨Nq307, e307, q307⟩ := q307
                  have N307 := Fr.app N200 Nq307
                  rcases q307 with ⟨rfl, p346, p347⟩ | ⟨rfl, p348⟩
                  · exact absurd p346 p203
                  · refine go _ _ (st307) ?_
                    show G (T307.setTop (mkF m 356 #[.val (.int p0), .val (.int p1), .val (.int p2), .val (.int p3), .val (.int p4), .val (.int z_102), .val (.int z_105), .val (.int z_109), .val (.int z_113), .val (.int z_116), .val (.int z_120), .val (.int z_123), .val (.int c_125), .val (.int c_127), .val (.int z_128), .val (.int c_130), .val (.int c_132), .val (.ref b_134), .val (.ref b_142), .val (.ref b_150), .val (.ref b_158), .val (.ref b161), .val (.int (p4 &&& (3 : Int32))), .val (.ref b180), .val (.int (0 : Int32))] [(.int (0 : Int32))]))
                    refine go _ _ (fun _ k => XS.iload X307.here hx rfl (hb hby at_356) rfl k) ?_
                    show G (T307.setTop (mkF m 358 #[.val (.int p0), .val (.int p1), .val (.int p2), .val (.int p3), .val (.int p4), .val (.int z_102), .val (.int z_105), .val (.int z_109), .val (.int z_113), .val (.int z_116), .val (.int z_120), .val (.int z_123), .val (.int c_125), .val (.int c_127), .val (.int z_128), .val (.int c_130), .val (.int c_132), .val (.ref b_134), .val (.ref b_142), .val (.ref b_150), .val (.ref b_158), .val (.ref b161), .val (.int (p4 &&& (3 : Int32))), .val (.ref b180), .val (.int (0 : Int32))] [(.int (0 : Int32)), (.int (0 : Int32))]))
                    refine go _ _ (fun _ k => XS.icmpNo X307.here hx rfl (hb hby at_358) rfl (by decide) k) ?_
                    show G (T307.setTop (mkF m 361 #[.val (.int p0), .val (.int p1), .val (.int p2), .val (.int p3), .val (.int p4), .val (.int z_102), .val (.int z_105), .val (.int z_109), .val (.int z_113), .val (.int z_116), .val (.int z_120), .val (.int z_123), .val (.int c_125), .val (.int c_127), .val (.int z_128), .val (.int c_130), .val (.int c_132), .val (.ref b_134), .val (.ref b_142), .val (.ref b_150), .val (.ref b_158), .val (.ref b161), .val (.int (p4 &&& (3 : Int32))), .val (.ref b180), .val (.int (0 : Int32))] []))
                    refine go _ _ (fun _ k => XS.iconst X307.here hx rfl (hb hby at_361) k) ?_
                    show G (T307.setTop (mkF m 362 #[.val (.int p0), .val (.int p1), .val (.int p2), .val (.int p3), .val (.int p4), .val (.int z_102), .val (.int z_105), .val (.int z_109), .val (.int z_113), .val (.int z_116), .val (.int z_120), .val (.int z_123), .val (.int c_125), .val (.int c_127), .val (.int z_128), .val (.int c_130), .val (.int c_132), .val (.ref b_134), .val (.ref b_142), .val (.ref b_150), .val (.ref b_158), .val (.ref b161), .val (.int (p4 &&& (3 : Int32))), .val (.ref b180), .val (.int (0 : Int32))] [(.int (1 : Int32))]))
                    refine go _ _ (fun _ k => XS.goto X307.here hx rfl (pc0 := 362) (pc' := 366) rfl (hb hby at_362) (by decide) (by decide) k) ?_
                    show G (T307.setTop (mkF m 366 #[.val (.int p0), .val (.int p1), .val (.int p2), .val (.int p3), .val (.int p4), .val (.int z_102), .val (.int z_105), .val (.int z_109), .val (.int z_113), .val (.int z_116), .val (.int z_120), .val (.int z_123), .val (.int c_125), .val (.int c_127), .val (.int z_128), .val (.int c_130), .val (.int c_132), .val (.ref b_134), .val (.ref b_142), .val (.ref b_150), .val (.ref b_158), .val (.ref b161), .val (.int (p4 &&& (3 : Int32))), .val (.ref b180), .val (.int (0 : Int32))] [(.int (1 : Int32))]))
                    have K349 : Keep h0 T137.heap [] := K138.trans Kp137 all0
                    have K350 : Keep h0 T145.heap [] := K349.trans Kp145 all0
                    have K351 : Keep h0 T153.heap [] := K350.trans Kp153 all0
                    have K352 : Keep h0 h161 [] := K351.ext E161
                    have K353 : Keep h0 T162.heap [] := K352.trans Kp162 (allS (Or.inr (Nat.le_trans Z170 (Nat.le_of_eq g161.symm))) all0)
                    have K354 : Keep h0 h180 [] := K353.ext E180
                    have K355 : Keep h0 T181.heap [] := K354.trans Kp181 (allS (Or.inr (Nat.le_trans Z191 (Nat.le_of_eq g180.symm))) all0)
                    have C356 : CHr Z own_EL s.vm h0 T181.vm T181.heap := C195.trans C181
                    refine fin T307 _ _ _ (some (.int (1 : Int32))) T181.vm _ X307 hZ181 hS181 (by rw [e307]; exact (Nat.le_refl _)) (by rw [e307]; exact C356) (fun q => nomatch q) (by decide) (by decide) (by rw [e307]; exact ⟨N307, K355, rfl⟩) _ (own_retN X307 hx (z := (1 : Int32)) (t := .boolean) hret (by simp) (hb hby at_366))
              · refine go _ _ (fun _ k => XS.ifYes X162.here hx rfl (pc0 := 249) (pc' := 311) rfl (hb hby at_249) rfl ((if0 _ _).trans (feq hc249_179).2) (by decide) (by decide) k) ?_
                show G (T162.setTop (mkF m 311 #[.val (.int p0), .val (.int p1), .val (.int p2), .val (.int p3), .val (.int p4), .val (.int z_102), .val (.int z_105), .val (.int z_109), .val (.int z_113), .val (.int z_116), .val (.int z_120), .val (.int z_123), .val (.int c_125), .val (.int c_127), .val (.int z_128), .val (.int c_130), .val (.int c_132), .val (.ref b_134), .val (.ref b_142), .val (.ref b_150), .val (.ref b_158), .val (.ref b161), .val (.int (p4 &&& (3 : Int32))), .unset, .unset] []))
                refine go _ _ (fun _ k => XS.iload X162.here hx rfl (hb hby at_311) rfl (XS.iconst X162.here hx rfl (hb hby at_313) k)) ?_
                show G (T162.setTop (mkF m 314 #[.val (.int p0), .val (.int p1), .val (.int p2), .val (.int p3), .val (.int p4), .val (.int z_102), .val (.int z_105), .val (.int z_109), .val (.int z_113), .val (.int z_116), .val (.int z_120), .val (.int z_123), .val (.int c_125), .val (.int c_127), .val (.int z_128), .val (.int c_130), .val (.int c_132), .val (.ref b_134), .val (.ref b_142), .val (.ref b_150), .val (.ref b_158), .val (.ref b161), .val (.int (p4 &&& (3 : Int32))), .unset, .unset] [(.int (1 : Int32)), (.int (p4 &&& (3 : Int32)))]))
                by_cases hc314_357 : (p4 &&& (3 : Int32)) = (1 : Int32)
                · refine go _ _ (fun _ k => XS.icmpNo X162.here hx rfl (hb hby at_314) rfl (teq hc314_357).2 k) ?_
                  show G (T162.setTop (mkF m 317 #[.val (.int p0), .val (.int p1), .val (.int p2), .val (.int p3), .val (.int p4), .val (.int z_102), .val (.int z_105), .val (.int z_109), .val (.int z_113), .val (.int z_116), .val (.int z_120), .val (.int z_123), .val (.int c_125), .val (.int c_127), .val (.int z_128), .val (.int c_130), .val (.int c_132), .val (.ref b_134), .val (.ref b_142), .val (.ref b_150), .val (.ref b_158), .val (.ref b161), .val (.int (p4 &&& (3 : Int32))), .unset, .unset] []))
                  refine go _ _ (fun _ k => XS.aconstNull X162.here hx rfl (hb hby at_317) (XS.astore X162.here hx rfl (hb hby at_318) rfl rfl (l' := #[.val (.int p0), .val (.int p1), .val (.int p2), .val (.int p3), .val (.int p4), .val (.int z_102), .val (.int z_105), .val (.int z_109), .val (.int z_113), .val (.int z_116), .val (.int z_120), .val (.int z_123), .val (.int c_125), .val (.int c_127), .val (.int z_128), .val (.int c_130), .val (.int c_132), .val (.ref b_134), .val (.ref b_142), .val (.ref b_150), .val (.ref b_158), .val (.ref b161), .val (.int (p4 &&& (3 : Int32))), .val .null, .unset]) rfl (XS.iconst X162.here hx rfl (hb hby at_320) (XS.istore X162.here hx rfl (hb hby at_321) rfl (l' := #[.val (.int p0), .val (.int p1), .val (.int p2), .val (.int p3), .val (.int p4), .val (.int z_102), .val (.int z_105), .val (.int z_109), .val (.int z_113), .val (.int z_116), .val (.int z_120), .val (.int z_123), .val (.int c_125), .val (.int c_127), .val (.int z_128), .val (.int c_130), .val (.int c_132), .val (.ref b_134), .val (.ref b_142), .val (.ref b_150), .val (.ref b_158), .val (.ref b161), .val (.int (p4 &&& (3 : Int32))), .val .null, .val (.int (0 : Int32))]) rfl k)))) ?_
                  show G (T162.setTop (mkF m 323 #[.val (.int p0), .val (.int p1), .val (.int p2), .val (.int p3), .val (.int p4), .val (.int z_102), .val (.int z_105), .val (.int z_109), .val (.int z_113), .val (.int z_116), .val (.int z_120), .val (.int z_123), .val (.int c_125), .val (.int c_127), .val (.int z_128), .val (.int c_130), .val (.int c_132), .val (.ref b_134), .val (.ref b_142), .val (.ref b_150), .val (.ref b_158), .val (.ref b161), .val (.int (p4 &&& (3 : Int32))), .val .null, .val (.int (0 : Int32))] []))
                  refine go _ _ (fun _ k => XS.goto X162.here hx rfl (pc0 := 323) (pc' := 349) rfl (hb hby at_323) (by decide) (by decide) k) ?_
                  show G (T162.setTop (mkF m 349 #[.val (.int p0), .val (.int p1), .val (.int p2), .val (.int p3), .val (.int p4), .val (.int z_102), .val (.int z_105), .val (.int z_109), .val (.int z_113), .val (.int z_116), .val (.int z_120), .val (.int z_123), .val (.int c_125), .val (.int c_127), .val (.int z_128), .val (.int c_130), .val (.int c_132), .val (.ref b_134), .val (.ref b_142), .val (.ref b_150), .val (.ref b_158), .val (.ref b161), .val (.int (p4 &&& (3 : Int32))), .val .null, .val (.int (0 : Int32))] []))
                  refine go _ _ (fun _ k => XS.aload X162.here hx rfl (hb hby at_349) rfl rfl (XS.aload X162.here hx rfl (hb hby at_351) rfl rfl k)) ?_
                  show G (T162.setTop (mkF m 353 #[.val (.int p0), .val (.int p1), .val (.int p2), .val (.int p3), .val (.int p4), .val (.int z_102), .val (.int z_105), .val (.int z_109), .val (.int z_113), .val (.int z_116), .val (.int z_120), .val (.int z_123), .val (.int c_125), .val (.int c_127), .val (.int z_128), .val (.int c_130), .val (.int c_132), .val (.ref b_134), .val (.ref b_142), .val (.ref b_150), .val (.ref b_158), .val (.ref b161), .val (.int (p4 &&& (3 : Int32))), .val .null, .val (.int (0 : Int32))] [.null, (.ref b161)]))
                  have Z359 : h0.size ≤ T162.heap.size := Nat.le_trans Z171 Kp162.1
                  obtain ⟨rv358, T358, L358, X358, q358, st358⟩ := own_vi X162 hx hZ162 (y := (⟨"com/example/hatoyama/hatoyama/ObjectMethod", "equals", "(Ljava/lang/Object;)Z"⟩ : MethodName)) (z := (⟨"com/example/hatoyama/hatoyama/ObjectMethod", "equals", "(Ljava/lang/Object;)Z"⟩ : MethodName)) hown162 (ow hw 42 rfl) (ow hw 43 rfl) (ow hw 45 rfl) (ow hw 44 rfl) (Or.inl rfl) (by decide) (own_bkN (W := 0) (rmEqN l Z a0 hw z0 O2 P5 [] b161 T162.heap n0 (Nat.le_trans Z0 Z359)) hZ162 (ow hw 46 rfl) (ow hw 20 rfl) (by decide) (by decide)) rfl f176 (g := (mkF m 353 #[.val (.int p0), .val (.int p1), .val (.int p2), .val (.int p3), .val (.int p4), .val (.int z_102), .val (.int z_105), .val (.int z_109), .val (.int z_113), .val (.int z_116), .val (.int z_120), .val (.int z_123), .val (.int c_125), .val (.int c_127), .val (.int z_128), .val (.int c_130), .val (.int c_132), .val (.ref b_134), .val (.ref b_142), .val (.ref b_150), .val (.ref b_158), .val (.ref b161), .val (.int (p4 &&& (3 : Int32))), .val .null, .val (.int (0 : Int32))] [.null, (.ref b161)])) rfl (by rw [hml]; rfl) (argsL := [.null]) (rest := []) rfl (lenOf own_pd6 rfl) rfl (by show 2 * 0 + _ ≤ _; exact Nat.le_of_eq rfl) (hb hby at_353) (by decide) (by decide)
                  obtain ⟨Nq358, e358, rfl⟩ := q358
                  have N358 := Fr.app N162 Nq358
                  refine go _ _ (st358) ?_
                  show G (T358.setTop (mkF m 356 #[.val (.int p0), .val (.int p1), .val (.int p2), .val (.int p3), .val (.int p4), .val (.int z_102), .val (.int z_105), .val (.int z_109), .val (.int z_113), .val (.int z_116), .val (.int z_120), .val (.int z_123), .val (.int c_125), .val (.int c_127), .val (.int z_128), .val (.int c_130), .val (.int c_132), .val (.ref b_134), .val (.ref b_142), .val (.ref b_150), .val (.ref b_158), .val (.ref b161), .val (.int (p4 &&& (3 : Int32))), .val .null, .val (.int (0 : Int32))] [(.int (0 : Int32))]))
                  refine go _ _ (fun _ k => XS.iload X358.here hx rfl (hb hby at_356) rfl k) ?_
                  show G (T358.setTop (mkF m 358 #[.val (.int p0), .val (.int p1), .val (.int p2), .val (.int p3), .val (.int p4), .val (.int z_102), .val (.int z_105), .val (.int z_109), .val (.int z_113), .val (.int z_116), .val (.int z_120), .val (.int z_123), .val (.int c_125), .val (.int c_127), .val (.int z_128), .val (.int c_130), .val (.int c_132), .val (.ref b_134), .val (.ref b_142), .val (.ref b_150), .val (.ref b_158), .val (.ref b161), .val (.int (p4 &&& (3 : Int32))), .val .null, .val (.int (0 : Int32))] [(.int (0 : Int32)), (.int (0 : Int32))]))
                  refine go _ _ (fun _ k => XS.icmpNo X358.here hx rfl (hb hby at_358) rfl (by decide) k) ?_
                  show G (T358.setTop (mkF m 361 #[.val (.int p0), .val (.int p1), .val (.int p2), .val (.int p3), .val (.int p4), .val (.int z_102), .val (.int z_105), .val (.int z_109), .val (.int z_113), .val (.int z_116), .val (.int z_120), .val (.int z_123), .val (.int c_125), .val (.int c_127), .val (.int z_128), .val (.int c_130), .val (.int c_132), .val (.ref b_134), .val (.ref b_142), .val (.ref b_150), .val (.ref b_158), .val (.ref b161), .val (.int (p4 &&& (3 : Int32))), .val .null, .val (.int (0 : Int32))] []))
                  refine go _ _ (fun _ k => XS.iconst X358.here hx rfl (hb hby at_361) k) ?_
                  show G (T358.setTop (mkF m 362 #[.val (.int p0), .val (.int p1), .val (.int p2), .val (.int p3), .val (.int p4), .val (.int z_102), .val (.int z_105), .val (.int z_109), .val (.int z_113), .val (.int z_116), .val (.int z_120), .val (.int z_123), .val (.int c_125), .val (.int c_127), .val (.int z_128), .val (.int c_130), .val (.int c_132), .val (.ref b_134), .val (.ref b_142), .val (.ref b_150), .val (.ref b_158), .val (.ref b161), .val (.int (p4 &&& (3 : Int32))), .val .null, .val (.int (0 : Int32))] [(.int (1 : Int32))]))
                  refine go _ _ (fun _ k => XS.goto X358.here hx rfl (pc0 := 362) (pc' := 366) rfl (hb hby at_362) (by decide) (by decide) k) ?_
                  show G (T358.setTop (mkF m 366 #[.val (.int p0), .val (.int p1), .val (.int p2), .val (.int p3), .val (.int p4), .val (.int z_102), .val (.int z_105), .val (.int z_109), .val (.int z_113), .val (.int z_116), .val (.int z_120), .val (.int z_123), .val (.int c_125), .val (.int c_127), .val (.int z_128), .val (.int c_130), .val (.int c_132), .val (.ref b_134), .val (.ref b_142), .val (.ref b_150), .val (.ref b_158), .val (.ref b161), .val (.int (p4 &&& (3 : Int32))), .val .null, .val (.int (0 : Int32))] [(.int (1 : Int32))]))
                  have K360 : Keep h0 T137.heap [] := K138.trans Kp137 all0
                  have K361 : Keep h0 T145.heap [] := K360.trans Kp145 all0
                  have K362 : Keep h0 T153.heap [] := K361.trans Kp153 all0
                  have K363 : Keep h0 h161 [] := K362.ext E161
                  have K364 : Keep h0 T162.heap [] := K363.trans Kp162 (allS (Or.inr (Nat.le_trans Z170 (Nat.le_of_eq g161.symm))) all0)
                  have C365 : CHr Z own_EL s.vm h0 T162.vm T162.heap := C174.trans C162
                  refine fin T358 _ _ _ (some (.int (1 : Int32))) T162.vm _ X358 hZ162 hS162 (by rw [e358]; exact (Nat.le_refl _)) (by rw [e358]; exact C365) (fun q => nomatch q) (by decide) (by decide) (by rw [e358]; exact ⟨N358, K364, rfl⟩) _ (own_retN X358 hx (z := (1 : Int32)) (t := .boolean) hret (by simp) (hb hby at_366))
                · refine go _ _ (fun _ k => XS.icmpYes X162.here hx rfl (pc0 := 314) (pc' := 326) rfl (hb hby at_314) rfl (feq hc314_357).2 (by decide) (by decide) k) ?_
                  show G (T162.setTop (mkF m 326 #[.val (.int p0), .val (.int p1), .val (.int p2), .val (.int p3), .val (.int p4), .val (.int z_102), .val (.int z_105), .val (.int z_109), .val (.int z_113), .val (.int z_116), .val (.int z_120), .val (.int z_123), .val (.int c_125), .val (.int c_127), .val (.int z_128), .val (.int c_130), .val (.int c_132), .val (.ref b_134), .val (.ref b_142), .val (.ref b_150), .val (.ref b_158), .val (.ref b161), .val (.int (p4 &&& (3 : Int32))), .unset, .unset] []))
                  refine go _ _ (fun _ k => XS.iload X162.here hx rfl (hb hby at_326) rfl (XS.iconst X162.here hx rfl (hb hby at_328) k)) ?_
                  show G (T162.setTop (mkF m 329 #[.val (.int p0), .val (.int p1), .val (.int p2), .val (.int p3), .val (.int p4), .val (.int z_102), .val (.int z_105), .val (.int z_109), .val (.int z_113), .val (.int z_116), .val (.int z_120), .val (.int z_123), .val (.int c_125), .val (.int c_127), .val (.int z_128), .val (.int c_130), .val (.int c_132), .val (.ref b_134), .val (.ref b_142), .val (.ref b_150), .val (.ref b_158), .val (.ref b161), .val (.int (p4 &&& (3 : Int32))), .unset, .unset] [(.int (2 : Int32)), (.int (p4 &&& (3 : Int32)))]))
                  by_cases hc329_366 : (p4 &&& (3 : Int32)) = (2 : Int32)
                  · refine go _ _ (fun _ k => XS.icmpNo X162.here hx rfl (hb hby at_329) rfl (teq hc329_366).2 k) ?_
                    show G (T162.setTop (mkF m 332 #[.val (.int p0), .val (.int p1), .val (.int p2), .val (.int p3), .val (.int p4), .val (.int z_102), .val (.int z_105), .val (.int z_109), .val (.int z_113), .val (.int z_116), .val (.int z_120), .val (.int z_123), .val (.int c_125), .val (.int c_127), .val (.int z_128), .val (.int c_130), .val (.int c_132), .val (.ref b_134), .val (.ref b_142), .val (.ref b_150), .val (.ref b_158), .val (.ref b161), .val (.int (p4 &&& (3 : Int32))), .unset, .unset] []))
                    refine go _ _ (fun _ k => XS.aload X162.here hx rfl (hb hby at_332) rfl rfl (XS.astore X162.here hx rfl (hb hby at_334) rfl rfl (l' := #[.val (.int p0), .val (.int p1), .val (.int p2), .val (.int p3), .val (.int p4), .val (.int z_102), .val (.int z_105), .val (.int z_109), .val (.int z_113), .val (.int z_116), .val (.int z_120), .val (.int z_123), .val (.int c_125), .val (.int c_127), .val (.int z_128), .val (.int c_130), .val (.int c_132), .val (.ref b_134), .val (.ref b_142), .val (.ref b_150), .val (.ref b_158), .val (.ref b161), .val (.int (p4 &&& (3 : Int32))), .val (.ref b_134), .unset]) rfl (XS.iconst X162.here hx rfl (hb hby at_336) (XS.istore X162.here hx rfl (hb hby at_337) rfl (l' := #[.val (.int p0), .val (.int p1), .val (.int p2), .val (.int p3), .val (.int p4), .val (.int z_102), .val (.int z_105), .val (.int z_109), .val (.int z_113), .val (.int z_116), .val (.int z_120), .val (.int z_123), .val (.int c_125), .val (.int c_127), .val (.int z_128), .val (.int c_130), .val (.int c_132), .val (.ref b_134), .val (.ref b_142), .val (.ref b_150), .val (.ref b_158), .val (.ref b161), .val (.int (p4 &&& (3 : Int32))), .val (.ref b_134), .val (.int (0 : Int32))]) rfl k)))) ?_
                    show G (T162.setTop (mkF m 339 #[.val (.int p0), .val (.int p1), .val (.int p2), .val (.int p3), .val (.int p4), .val (.int z_102), .val (.int z_105), .val (.int z_109), .val (.int z_113), .val (.int z_116), .val (.int z_120), .val (.int z_123), .val (.int c_125), .val (.int c_127), .val (.int z_128), .val (.int c_130), .val (.int c_132), .val (.ref b_134), .val (.ref b_142), .val (.ref b_150), .val (.ref b_158), .val (.ref b161), .val (.int (p4 &&& (3 : Int32))), .val (.ref b_134), .val (.int (0 : Int32))] []))
                    refine go _ _ (fun _ k => XS.goto X162.here hx rfl (pc0 := 339) (pc' := 349) rfl (hb hby at_339) (by decide) (by decide) k) ?_
                    show G (T162.setTop (mkF m 349 #[.val (.int p0), .val (.int p1), .val (.int p2), .val (.int p3), .val (.int p4), .val (.int z_102), .val (.int z_105), .val (.int z_109), .val (.int z_113), .val (.int z_116), .val (.int z_120), .val (.int z_123), .val (.int c_125), .val (.int c_127), .val (.int z_128), .val (.int c_130), .val (.int c_132), .val (.ref b_134), .val (.ref b_142), .val (.ref b_150), .val (.ref b_158), .val (.ref b161), .val (.int (p4 &&& (3 : Int32))), .val (.ref b_134), .val (.int (0 : Int32))] []))
                    refine go _ _ (fun _ k => XS.aload X162.here hx rfl (hb hby at_349) rfl rfl (XS.aload X162.here hx rfl (hb hby at_351) rfl rfl k)) ?_
                    show G (T162.setTop (mkF m 353 #[.val (.int p0), .val (.int p1), .val (.int p2), .val (.int p3), .val (.int p4), .val (.int z_102), .val (.int z_105), .val (.int z_109), .val (.int z_113), .val (.int z_116), .val (.int z_120), .val (.int z_123), .val (.int c_125), .val (.int c_127), .val (.int z_128), .val (.int c_130), .val (.int c_132), .val (.ref b_134), .val (.ref b_142), .val (.ref b_150), .val (.ref b_158), .val (.ref b161), .val (.int (p4 &&& (3 : Int32))), .val (.ref b_134), .val (.int (0 : Int32))] [(.ref b_134), (.ref b161)]))
                    have K368 : Keep h161 T162.heap [b161] := (Keep.refl h161 [b161]).trans Kp162 (allS (Or.inl (List.mem_of_getElem? (i := 0) rfl)) all0)
                    have F369 : Exa Z T162.heap b_134 "java/lang/String" := (F166.keep K368)
                    have Z370 : h0.size ≤ T162.heap.size := Nat.le_trans Z171 Kp162.1
                    obtain ⟨rv367, T367, L367, X367, q367, st367⟩ := own_vi X162 hx hZ162 (y := (⟨"com/example/hatoyama/hatoyama/ObjectMethod", "equals", "(Ljava/lang/Object;)Z"⟩ : MethodName)) (z := (⟨"com/example/hatoyama/hatoyama/ObjectMethod", "equals", "(Ljava/lang/Object;)Z"⟩ : MethodName)) hown162 (ow hw 42 rfl) (ow hw 43 rfl) (ow hw 45 rfl) (ow hw 44 rfl) (Or.inl rfl) (by decide) (own_bkN (W := 0) (rmEqS l Z a0 hw z0 O2 P5 [] b161 b_134 T162.heap n0 (Nat.le_trans Z0 Z370) F369) hZ162 (ow hw 46 rfl) (ow hw 20 rfl) (by decide) (by decide)) rfl f176 (g := (mkF m 353 #[.val (.int p0), .val (.int p1), .val (.int p2), .val (.int p3), .val (.int p4), .val (.int z_102), .val (.int z_105), .val (.int z_109), .val (.int z_113), .val (.int z_116), .val (.int z_120), .val (.int z_123), .val (.int c_125), .val (.int c_127), .val (.int z_128), .val (.int c_130), .val (.int c_132), .val (.ref b_134), .val (.ref b_142), .val (.ref b_150), .val (.ref b_158), .val (.ref b161), .val (.int (p4 &&& (3 : Int32))), .val (.ref b_134), .val (.int (0 : Int32))] [(.ref b_134), (.ref b161)])) rfl (by rw [hml]; rfl) (argsL := [(.ref b_134)]) (rest := []) rfl (lenOf own_pd6 rfl) rfl (by show 2 * 0 + _ ≤ _; exact Nat.le_of_eq rfl) (hb hby at_353) (by decide) (by decide)
                    obtain ⟨Nq367, e367, rfl⟩ := q367
                    have N367 := Fr.app N162 Nq367
                    refine go _ _ (st367) ?_
                    show G (T367.setTop (mkF m 356 #[.val (.int p0), .val (.int p1), .val (.int p2), .val (.int p3), .val (.int p4), .val (.int z_102), .val (.int z_105), .val (.int z_109), .val (.int z_113), .val (.int z_116), .val (.int z_120), .val (.int z_123), .val (.int c_125), .val (.int c_127), .val (.int z_128), .val (.int c_130), .val (.int c_132), .val (.ref b_134), .val (.ref b_142), .val (.ref b_150), .val (.ref b_158), .val (.ref b161), .val (.int (p4 &&& (3 : Int32))), .val (.ref b_134), .val (.int (0 : Int32))] [(.int (0 : Int32))]))
                    refine go _ _ (fun _ k => XS.iload X367.here hx rfl (hb hby at_356) rfl k) ?_
                    show G (T367.setTop (mkF m 358 #[.val (.int p0), .val (.int p1), .val (.int p2), .val (.int p3), .val (.int p4), .val (.int z_102), .val (.int z_105), .val (.int z_109), .val (.int z_113), .val (.int z_116), .val (.int z_120), .val (.int z_123), .val (.int c_125), .val (.int c_127), .val (.int z_128), .val (.int c_130), .val (.int c_132), .val (.ref b_134), .val (.ref b_142), .val (.ref b_150), .val (.ref b_158), .val (.ref b161), .val (.int (p4 &&& (3 : Int32))), .val (.ref b_134), .val (.int (0 : Int32))] [(.int (0 : Int32)), (.int (0 : Int32))]))
                    refine go _ _ (fun _ k => XS.icmpNo X367.here hx rfl (hb hby at_358) rfl (by decide) k) ?_
                    show G (T367.setTop (mkF m 361 #[.val (.int p0), .val (.int p1), .val (.int p2), .val (.int p3), .val (.int p4), .val (.int z_102), .val (.int z_105), .val (.int z_109), .val (.int z_113), .val (.int z_116), .val (.int z_120), .val (.int z_123), .val (.int c_125), .val (.int c_127), .val (.int z_128), .val (.int c_130), .val (.int c_132), .val (.ref b_134), .val (.ref b_142), .val (.ref b_150), .val (.ref b_158), .val (.ref b161), .val (.int (p4 &&& (3 : Int32))), .val (.ref b_134), .val (.int (0 : Int32))] []))
                    refine go _ _ (fun _ k => XS.iconst X367.here hx rfl (hb hby at_361) k) ?_
                    show G (T367.setTop (mkF m 362 #[.val (.int p0), .val (.int p1), .val (.int p2), .val (.int p3), .val (.int p4), .val (.int z_102), .val (.int z_105), .val (.int z_109), .val (.int z_113), .val (.int z_116), .val (.int z_120), .val (.int z_123), .val (.int c_125), .val (.int c_127), .val (.int z_128), .val (.int c_130), .val (.int c_132), .val (.ref b_134), .val (.ref b_142), .val (.ref b_150), .val (.ref b_158), .val (.ref b161), .val (.int (p4 &&& (3 : Int32))), .val (.ref b_134), .val (.int (0 : Int32))] [(.int (1 : Int32))]))
                    refine go _ _ (fun _ k => XS.goto X367.here hx rfl (pc0 := 362) (pc' := 366) rfl (hb hby at_362) (by decide) (by decide) k) ?_
                    show G (T367.setTop (mkF m 366 #[.val (.int p0), .val (.int p1), .val (.int p2), .val (.int p3), .val (.int p4), .val (.int z_102), .val (.int z_105), .val (.int z_109), .val (.int z_113), .val (.int z_116), .val (.int z_120), .val (.int z_123), .val (.int c_125), .val (.int c_127), .val (.int z_128), .val (.int c_130), .val (.int c_132), .val (.ref b_134), .val (.ref b_142), .val (.ref b_150), .val (.ref b_158), .val (.ref b161), .val (.int (p4 &&& (3 : Int32))), .val (.ref b_134), .val (.int (0 : Int32))] [(.int (1 : Int32))]))
                    have K371 : Keep h0 T137.heap [] := K138.trans Kp137 all0
                    have K372 : Keep h0 T145.heap [] := K371.trans Kp145 all0
                    have K373 : Keep h0 T153.heap [] := K372.trans Kp153 all0
                    have K374 : Keep h0 h161 [] := K373.ext E161
                    have K375 : Keep h0 T162.heap [] := K374.trans Kp162 (allS (Or.inr (Nat.le_trans Z170 (Nat.le_of_eq g161.symm))) all0)
                    have C376 : CHr Z own_EL s.vm h0 T162.vm T162.heap := C174.trans C162
                    refine fin T367 _ _ _ (some (.int (1 : Int32))) T162.vm _ X367 hZ162 hS162 (by rw [e367]; exact (Nat.le_refl _)) (by rw [e367]; exact C376) (fun q => nomatch q) (by decide) (by decide) (by rw [e367]; exact ⟨N367, K375, rfl⟩) _ (own_retN X367 hx (z := (1 : Int32)) (t := .boolean) hret (by simp) (hb hby at_366))
                  · refine go _ _ (fun _ k => XS.icmpYes X162.here hx rfl (pc0 := 329) (pc' := 342) rfl (hb hby at_329) rfl (feq hc329_366).2 (by decide) (by decide) k) ?_
                    show G (T162.setTop (mkF m 342 #[.val (.int p0), .val (.int p1), .val (.int p2), .val (.int p3), .val (.int p4), .val (.int z_102), .val (.int z_105), .val (.int z_109), .val (.int z_113), .val (.int z_116), .val (.int z_120), .val (.int z_123), .val (.int c_125), .val (.int c_127), .val (.int z_128), .val (.int c_130), .val (.int c_132), .val (.ref b_134), .val (.ref b_142), .val (.ref b_150), .val (.ref b_158), .val (.ref b161), .val (.int (p4 &&& (3 : Int32))), .unset, .unset] []))
                    refine go _ _ (fun _ k => XS.aload X162.here hx rfl (hb hby at_342) rfl rfl (XS.astore X162.here hx rfl (hb hby at_344) rfl rfl (l' := #[.val (.int p0), .val (.int p1), .val (.int p2), .val (.int p3), .val (.int p4), .val (.int z_102), .val (.int z_105), .val (.int z_109), .val (.int z_113), .val (.int z_116), .val (.int z_120), .val (.int z_123), .val (.int c_125), .val (.int c_127), .val (.int z_128), .val (.int c_130), .val (.int c_132), .val (.ref b_134), .val (.ref b_142), .val (.ref b_150), .val (.ref b_158), .val (.ref b161), .val (.int (p4 &&& (3 : Int32))), .val (.ref b161), .unset]) rfl (XS.iconst X162.here hx rfl (hb hby at_346) (XS.istore X162.here hx rfl (hb hby at_347) rfl (l' := #[.val (.int p0), .val (.int p1), .val (.int p2), .val (.int p3), .val (.int p4), .val (.int z_102), .val (.int z_105), .val (.int z_109), .val (.int z_113), .val (.int z_116), .val (.int z_120), .val (.int z_123), .val (.int c_125), .val (.int c_127), .val (.int z_128), .val (.int c_130), .val (.int c_132), .val (.ref b_134), .val (.ref b_142), .val (.ref b_150), .val (.ref b_158), .val (.ref b161), .val (.int (p4 &&& (3 : Int32))), .val (.ref b161), .val (.int (1 : Int32))]) rfl (XS.aload X162.here hx rfl (hb hby at_349) rfl rfl (XS.aload X162.here hx rfl (hb hby at_351) rfl rfl k)))))) ?_
                    show G (T162.setTop (mkF m 353 #[.val (.int p0), .val (.int p1), .val (.int p2), .val (.int p3), .val (.int p4), .val (.int z_102), .val (.int z_105), .val (.int z_109), .val (.int z_113), .val (.int z_116), .val (.int z_120), .val (.int z_123), .val (.int c_125), .val (.int c_127), .val (.int z_128), .val (.int c_130), .val (.int c_132), .val (.ref b_134), .val (.ref b_142), .val (.ref b_150), .val (.ref b_158), .val (.ref b161), .val (.int (p4 &&& (3 : Int32))), .val (.ref b161), .val (.int (1 : Int32))] [(.ref b161), (.ref b161)]))
                    have Z378 : T145.heap.size ≤ T153.heap.size := Kp153.1
                    have K379 : Keep T145.heap T153.heap [] := (Keep.refl T145.heap []).trans Kp153 all0
                    have K380 : Keep T145.heap h161 [] := K379.ext E161
                    have K381 : Keep T145.heap T162.heap [] := K380.trans Kp162 (allS (Or.inr (Nat.le_trans Z378 (Nat.le_of_eq g161.symm))) all0)
                    have F382 : Old Z n0 T162.heap := (F155.keep K381 all0)
                    have K383 : Keep h161 T162.heap [b161] := (Keep.refl h161 [b161]).trans Kp162 (allS (Or.inl (List.mem_of_getElem? (i := 0) rfl)) all0)
                    have F384 : Exa Z T162.heap b_134 "java/lang/String" := (F166.keep K383)
                    have F385 : Exa Z T162.heap b_142 "java/lang/String" := (F169.keep K383)
                    have Z386 : T133.heap.size ≤ T137.heap.size := Kp137.1
                    have Z387 : T133.heap.size ≤ T145.heap.size := Nat.le_trans Z386 Kp145.1
                    have Z388 : T133.heap.size ≤ T153.heap.size := Nat.le_trans Z387 Kp153.1
                    have K389 : Keep T133.heap T162.heap [] := K165.trans Kp162 (allS (Or.inr (Nat.le_trans Z388 (Nat.le_of_eq g161.symm))) all0)
                    have F390 : own_Str Z T162.heap b_134 (own_cs z_102 z_105 z_109) := (own_Str_keep f136 K389)
                    have Z391 : T137.heap.size ≤ T145.heap.size := Kp145.1
                    have Z392 : T137.heap.size ≤ T153.heap.size := Nat.le_trans Z391 Kp153.1
                    have K393 : Keep T137.heap T162.heap [] := K168.trans Kp162 (allS (Or.inr (Nat.le_trans Z392 (Nat.le_of_eq g161.symm))) all0)
                    have F394 : own_Str Z T162.heap b_142 (own_cs z_113 z_116 z_120) := (own_Str_keep f144 K393)
                    have Z395 : h0.size ≤ T162.heap.size := Nat.le_trans Z171 Kp162.1
                    obtain ⟨rv377, T377, L377, X377, q377, st377⟩ := own_vi X162 hx hZ162 (y := (⟨"com/example/hatoyama/hatoyama/ObjectMethod", "equals", "(Ljava/lang/Object;)Z"⟩ : MethodName)) (z := (⟨"com/example/hatoyama/hatoyama/ObjectMethod", "equals", "(Ljava/lang/Object;)Z"⟩ : MethodName)) hown162 (ow hw 42 rfl) (ow hw 43 rfl) (ow hw 45 rfl) (ow hw 44 rfl) (Or.inl rfl) (by decide) (own_bkN (W := 0) (rmEqO l Z a0 hw z0 O2 P5 [] b161 b161 b_134 b_142 b_134 b_142 (own_cs z_102 z_105 z_109) (own_cs z_113 z_116 z_120) (own_cs z_102 z_105 z_109) (own_cs z_113 z_116 z_120) T162.heap n0 (Nat.le_trans Z0 Z395) F382 f176 f177 f178 f177 f178 F384 F385 F384 F385 F390 F394 F390 F394) hZ162 (ow hw 46 rfl) (ow hw 20 rfl) (by decide) (by decide)) rfl f176 (g := (mkF m 353 #[.val (.int p0), .val (.int p1), .val (.int p2), .val (.int p3), .val (.int p4), .val (.int z_102), .val (.int z_105), .val (.int z_109), .val (.int z_113), .val (.int z_116), .val (.int z_120), .val (.int z_123), .val (.int c_125), .val (.int c_127), .val (.int z_128), .val (.int c_130), .val (.int c_132), .val (.ref b_134), .val (.ref b_142), .val (.ref b_150), .val (.ref b_158), .val (.ref b161), .val (.int (p4 &&& (3 : Int32))), .val (.ref b161), .val (.int (1 : Int32))] [(.ref b161), (.ref b161)])) rfl (by rw [hml]; rfl) (argsL := [(.ref b161)]) (rest := []) rfl (lenOf own_pd6 rfl) rfl (by show 2 * 0 + _ ≤ _; exact Nat.le_of_eq rfl) (hb hby at_353) (by decide) (by decide)
                    obtain ⟨Nq377, e377, q377⟩ := q377
                    have N377 := Fr.app N162 Nq377
                    rcases q377 with ⟨rfl, p396, p397⟩ | ⟨rfl, p398⟩
                    · refine go _ _ (st377) ?_
                      show G (T377.setTop (mkF m 356 #[.val (.int p0), .val (.int p1), .val (.int p2), .val (.int p3), .val (.int p4), .val (.int z_102), .val (.int z_105), .val (.int z_109), .val (.int z_113), .val (.int z_116), .val (.int z_120), .val (.int z_123), .val (.int c_125), .val (.int c_127), .val (.int z_128), .val (.int c_130), .val (.int c_132), .val (.ref b_134), .val (.ref b_142), .val (.ref b_150), .val (.ref b_158), .val (.ref b161), .val (.int (p4 &&& (3 : Int32))), .val (.ref b161), .val (.int (1 : Int32))] [(.int (1 : Int32))]))
                      refine go _ _ (fun _ k => XS.iload X377.here hx rfl (hb hby at_356) rfl k) ?_
                      show G (T377.setTop (mkF m 358 #[.val (.int p0), .val (.int p1), .val (.int p2), .val (.int p3), .val (.int p4), .val (.int z_102), .val (.int z_105), .val (.int z_109), .val (.int z_113), .val (.int z_116), .val (.int z_120), .val (.int z_123), .val (.int c_125), .val (.int c_127), .val (.int z_128), .val (.int c_130), .val (.int c_132), .val (.ref b_134), .val (.ref b_142), .val (.ref b_150), .val (.ref b_158), .val (.ref b161), .val (.int (p4 &&& (3 : Int32))), .val (.ref b161), .val (.int (1 : Int32))] [(.int (1 : Int32)), (.int (1 : Int32))]))
                      refine go _ _ (fun _ k => XS.icmpNo X377.here hx rfl (hb hby at_358) rfl (by decide) k) ?_
                      show G (T377.setTop (mkF m 361 #[.val (.int p0), .val (.int p1), .val (.int p2), .val (.int p3), .val (.int p4), .val (.int z_102), .val (.int z_105), .val (.int z_109), .val (.int z_113), .val (.int z_116), .val (.int z_120), .val (.int z_123), .val (.int c_125), .val (.int c_127), .val (.int z_128), .val (.int c_130), .val (.int c_132), .val (.ref b_134), .val (.ref b_142), .val (.ref b_150), .val (.ref b_158), .val (.ref b161), .val (.int (p4 &&& (3 : Int32))), .val (.ref b161), .val (.int (1 : Int32))] []))
                      refine go _ _ (fun _ k => XS.iconst X377.here hx rfl (hb hby at_361) k) ?_
                      show G (T377.setTop (mkF m 362 #[.val (.int p0), .val (.int p1), .val (.int p2), .val (.int p3), .val (.int p4), .val (.int z_102), .val (.int z_105), .val (.int z_109), .val (.int z_113), .val (.int z_116), .val (.int z_120), .val (.int z_123), .val (.int c_125), .val (.int c_127), .val (.int z_128), .val (.int c_130), .val (.int c_132), .val (.ref b_134), .val (.ref b_142), .val (.ref b_150), .val (.ref b_158), .val (.ref b161), .val (.int (p4 &&& (3 : Int32))), .val (.ref b161), .val (.int (1 : Int32))] [(.int (1 : Int32))]))
                      refine go _ _ (fun _ k => XS.goto X377.here hx rfl (pc0 := 362) (pc' := 366) rfl (hb hby at_362) (by decide) (by decide) k) ?_
                      show G (T377.setTop (mkF m 366 #[.val (.int p0), .val (.int p1), .val (.int p2), .val (.int p3), .val (.int p4), .val (.int z_102), .val (.int z_105), .val (.int z_109), .val (.int z_113), .val (.int z_116), .val (.int z_120), .val (.int z_123), .val (.int c_125), .val (.int c_127), .val (.int z_128), .val (.int c_130), .val (.int c_132), .val (.ref b_134), .val (.ref b_142), .val (.ref b_150), .val (.ref b_158), .val (.ref b161), .val (.int (p4 &&& (3 : Int32))), .val (.ref b161), .val (.int (1 : Int32))] [(.int (1 : Int32))]))
                      have K399 : Keep h0 T137.heap [] := K138.trans Kp137 all0
                      have K400 : Keep h0 T145.heap [] := K399.trans Kp145 all0
                      have K401 : Keep h0 T153.heap [] := K400.trans Kp153 all0
                      have K402 : Keep h0 h161 [] := K401.ext E161
                      have K403 : Keep h0 T162.heap [] := K402.trans Kp162 (allS (Or.inr (Nat.le_trans Z170 (Nat.le_of_eq g161.symm))) all0)
                      have C404 : CHr Z own_EL s.vm h0 T162.vm T162.heap := C174.trans C162
                      refine fin T377 _ _ _ (some (.int (1 : Int32))) T162.vm _ X377 hZ162 hS162 (by rw [e377]; exact (Nat.le_refl _)) (by rw [e377]; exact C404) (fun q => nomatch q) (by decide) (by decide) (by rw [e377]; exact ⟨N377, K403, rfl⟩) _ (own_retN X377 hx (z := (1 : Int32)) (t := .boolean) hret (by simp) (hb hby at_366))
                    · refine go _ _ (st377) ?_
                      show G (T377.setTop (mkF m 356 #[.val (.int p0), .val (.int p1), .val (.int p2), .val (.int p3), .val (.int p4), .val (.int z_102), .val (.int z_105), .val (.int z_109), .val (.int z_113), .val (.int z_116), .val (.int z_120), .val (.int z_123), .val (.int c_125), .val (.int c_127), .val (.int z_128), .val (.int c_130), .val (.int c_132), .val (.ref b_134), .val (.ref b_142), .val (.ref b_150), .val (.ref b_158), .val (.ref b161), .val (.int (p4 &&& (3 : Int32))), .val (.ref b161), .val (.int (1 : Int32))] [(.int (0 : Int32))]))
                      refine go _ _ (fun _ k => XS.iload X377.here hx rfl (hb hby at_356) rfl k) ?_
                      show G (T377.setTop (mkF m 358 #[.val (.int p0), .val (.int p1), .val (.int p2), .val (.int p3), .val (.int p4), .val (.int z_102), .val (.int z_105), .val (.int z_109), .val (.int z_113), .val (.int z_116), .val (.int z_120), .val (.int z_123), .val (.int c_125), .val (.int c_127), .val (.int z_128), .val (.int c_130), .val (.int c_132), .val (.ref b_134), .val (.ref b_142), .val (.ref b_150), .val (.ref b_158), .val (.ref b161), .val (.int (p4 &&& (3 : Int32))), .val (.ref b161), .val (.int (1 : Int32))] [(.int (1 : Int32)), (.int (0 : Int32))]))
                      exact absurd ⟨rfl, rfl⟩ p398
            by_cases hc165_405 : (((p3.toUInt32 >>> ((19 : Int32) &&& 31).toUInt32).toInt32) &&& (1 : Int32)) = (0 : Int32)
            · refine go _ _ (fun _ k => XS.ifYes X129.here hx rfl (pc0 := 165) (pc' := 179) rfl (hb hby at_165) rfl ((if0 _ _).trans (teq hc165_405).1) (by decide) (by decide) k) ?_
              show G (T129.setTop (mkF m 179 #[.val (.int p0), .val (.int p1), .val (.int p2), .val (.int p3), .val (.int p4), .val (.int z_102), .val (.int z_105), .val (.int z_109), .val (.int z_113), .val (.int z_116), .val (.int z_120), .val (.int z_123), .val (.int c_125), .val (.int c_127), .val (.int z_128), .val (.int c_130), .unset, .unset, .unset, .unset, .unset, .unset, .unset, .unset, .unset] [(.int z_120)]))
              refine go _ _ (fun _ k => XS.iconst X129.here hx rfl (hb hby at_179) k) ?_
              show G (T129.setTop (mkF m 180 #[.val (.int p0), .val (.int p1), .val (.int p2), .val (.int p3), .val (.int p4), .val (.int z_102), .val (.int z_105), .val (.int z_109), .val (.int z_113), .val (.int z_116), .val (.int z_120), .val (.int z_123), .val (.int c_125), .val (.int c_127), .val (.int z_128), .val (.int c_130), .unset, .unset, .unset, .unset, .unset, .unset, .unset, .unset, .unset] [(.int (0 : Int32)), (.int z_120)]))
              exact J131 _ _ (X129.more (by decide) (by decide)) e129 N129 (0 : Int32) (by decide) (by decide)
            · refine go _ _ (fun _ k => XS.ifNo X129.here hx rfl (hb hby at_165) rfl ((if0 _ _).trans (feq hc165_405).1) k) ?_
              show G (T129.setTop (mkF m 168 #[.val (.int p0), .val (.int p1), .val (.int p2), .val (.int p3), .val (.int p4), .val (.int z_102), .val (.int z_105), .val (.int z_109), .val (.int z_113), .val (.int z_116), .val (.int z_120), .val (.int z_123), .val (.int c_125), .val (.int c_127), .val (.int z_128), .val (.int c_130), .unset, .unset, .unset, .unset, .unset, .unset, .unset, .unset, .unset] [(.int z_120)]))
              refine go _ _ (fun _ k => XS.iloadN X129.here hx rfl (hb hby at_168) rfl (XS.bipush X129.here hx rfl (hb hby at_169) (XS.iushr X129.here hx rfl (hb hby at_171) rfl (XS.sipush X129.here hx rfl (hb hby at_172) (XS.iand X129.here hx rfl (hb hby at_175) rfl k))))) ?_
              show G (T129.setTop (mkF m 176 #[.val (.int p0), .val (.int p1), .val (.int p2), .val (.int p3), .val (.int p4), .val (.int z_102), .val (.int z_105), .val (.int z_109), .val (.int z_113), .val (.int z_116), .val (.int z_120), .val (.int z_123), .val (.int c_125), .val (.int c_127), .val (.int z_128), .val (.int c_130), .unset, .unset, .unset, .unset, .unset, .unset, .unset, .unset, .unset] [(.int (((p3.toUInt32 >>> ((8 : Int32) &&& 31).toUInt32).toInt32) &&& (255 : Int32))), (.int z_120)]))
              refine go _ _ (fun _ k => XS.goto X129.here hx rfl (pc0 := 176) (pc' := 180) rfl (hb hby at_176) (by decide) (by decide) k) ?_
              show G (T129.setTop (mkF m 180 #[.val (.int p0), .val (.int p1), .val (.int p2), .val (.int p3), .val (.int p4), .val (.int z_102), .val (.int z_105), .val (.int z_109), .val (.int z_113), .val (.int z_116), .val (.int z_120), .val (.int z_123), .val (.int c_125), .val (.int c_127), .val (.int z_128), .val (.int c_130), .unset, .unset, .unset, .unset, .unset, .unset, .unset, .unset, .unset] [(.int (((p3.toUInt32 >>> ((8 : Int32) &&& 31).toUInt32).toInt32) &&& (255 : Int32))), (.int z_120)]))
              exact J131 _ _ (X129.more (by decide) (by decide)) e129 N129 (((p3.toUInt32 >>> ((8 : Int32) &&& 31).toUInt32).toInt32) &&& (255 : Int32)) ((own_c255 _).1) ((own_c255 _).2)
          by_cases hc141_406 : (((p3.toUInt32 >>> ((18 : Int32) &&& 31).toUInt32).toInt32) &&& (1 : Int32)) = (0 : Int32)
          · refine go _ _ (fun _ k => XS.ifYes X128.here hx rfl (pc0 := 141) (pc' := 152) rfl (hb hby at_141) rfl ((if0 _ _).trans (teq hc141_406).1) (by decide) (by decide) k) ?_
            show G (T128.setTop (mkF m 152 #[.val (.int p0), .val (.int p1), .val (.int p2), .val (.int p3), .val (.int p4), .val (.int z_102), .val (.int z_105), .val (.int z_109), .val (.int z_113), .val (.int z_116), .val (.int z_120), .val (.int z_123), .val (.int c_125), .val (.int c_127), .val (.int z_128), .unset, .unset, .unset, .unset, .unset, .unset, .unset, .unset, .unset, .unset] [(.int z_116)]))
            refine go _ _ (fun _ k => XS.iconst X128.here hx rfl (hb hby at_152) k) ?_
            show G (T128.setTop (mkF m 153 #[.val (.int p0), .val (.int p1), .val (.int p2), .val (.int p3), .val (.int p4), .val (.int z_102), .val (.int z_105), .val (.int z_109), .val (.int z_113), .val (.int z_116), .val (.int z_120), .val (.int z_123), .val (.int c_125), .val (.int c_127), .val (.int z_128), .unset, .unset, .unset, .unset, .unset, .unset, .unset, .unset, .unset, .unset] [(.int (0 : Int32)), (.int z_116)]))
            exact J129 _ _ (X128.more (by decide) (by decide)) e128 N128 (0 : Int32) (by decide) (by decide)
          · refine go _ _ (fun _ k => XS.ifNo X128.here hx rfl (hb hby at_141) rfl ((if0 _ _).trans (feq hc141_406).1) k) ?_
            show G (T128.setTop (mkF m 144 #[.val (.int p0), .val (.int p1), .val (.int p2), .val (.int p3), .val (.int p4), .val (.int z_102), .val (.int z_105), .val (.int z_109), .val (.int z_113), .val (.int z_116), .val (.int z_120), .val (.int z_123), .val (.int c_125), .val (.int c_127), .val (.int z_128), .unset, .unset, .unset, .unset, .unset, .unset, .unset, .unset, .unset, .unset] [(.int z_116)]))
            refine go _ _ (fun _ k => XS.iloadN X128.here hx rfl (hb hby at_144) rfl (XS.sipush X128.here hx rfl (hb hby at_145) (XS.iand X128.here hx rfl (hb hby at_148) rfl k))) ?_
            show G (T128.setTop (mkF m 149 #[.val (.int p0), .val (.int p1), .val (.int p2), .val (.int p3), .val (.int p4), .val (.int z_102), .val (.int z_105), .val (.int z_109), .val (.int z_113), .val (.int z_116), .val (.int z_120), .val (.int z_123), .val (.int c_125), .val (.int c_127), .val (.int z_128), .unset, .unset, .unset, .unset, .unset, .unset, .unset, .unset, .unset, .unset] [(.int (p3 &&& (255 : Int32))), (.int z_116)]))
            refine go _ _ (fun _ k => XS.goto X128.here hx rfl (pc0 := 149) (pc' := 153) rfl (hb hby at_149) (by decide) (by decide) k) ?_
            show G (T128.setTop (mkF m 153 #[.val (.int p0), .val (.int p1), .val (.int p2), .val (.int p3), .val (.int p4), .val (.int z_102), .val (.int z_105), .val (.int z_109), .val (.int z_113), .val (.int z_116), .val (.int z_120), .val (.int z_123), .val (.int c_125), .val (.int c_127), .val (.int z_128), .unset, .unset, .unset, .unset, .unset, .unset, .unset, .unset, .unset, .unset] [(.int (p3 &&& (255 : Int32))), (.int z_116)]))
            exact J129 _ _ (X128.more (by decide) (by decide)) e128 N128 (p3 &&& (255 : Int32)) ((own_c255 _).1) ((own_c255 _).2)
        by_cases hc119_407 : (((p3.toUInt32 >>> ((24 : Int32) &&& 31).toUInt32).toInt32) &&& (1 : Int32)) = (0 : Int32)
        · refine go _ _ (fun _ k => XS.ifYes X126.here hx rfl (pc0 := 119) (pc' := 129) rfl (hb hby at_119) rfl ((if0 _ _).trans (teq hc119_407).1) (by decide) (by decide) k) ?_
          show G (T126.setTop (mkF m 129 #[.val (.int p0), .val (.int p1), .val (.int p2), .val (.int p3), .val (.int p4), .val (.int z_102), .val (.int z_105), .val (.int z_109), .val (.int z_113), .val (.int z_116), .val (.int z_120), .val (.int z_123), .val (.int c_125), .val (.int c_127), .unset, .unset, .unset, .unset, .unset, .unset, .unset, .unset, .unset, .unset, .unset] []))
          refine go _ _ (fun _ k => XS.iload X126.here hx rfl (hb hby at_129) rfl k) ?_
          show G (T126.setTop (mkF m 131 #[.val (.int p0), .val (.int p1), .val (.int p2), .val (.int p3), .val (.int p4), .val (.int z_102), .val (.int z_105), .val (.int z_109), .val (.int z_113), .val (.int z_116), .val (.int z_120), .val (.int z_123), .val (.int c_125), .val (.int c_127), .unset, .unset, .unset, .unset, .unset, .unset, .unset, .unset, .unset, .unset, .unset] [(.int z_113)]))
          exact J128 _ _ (X126.more (by decide) (by decide)) e126 N126 z_113 p114
        · refine go _ _ (fun _ k => XS.ifNo X126.here hx rfl (hb hby at_119) rfl ((if0 _ _).trans (feq hc119_407).1) k) ?_
          show G (T126.setTop (mkF m 122 #[.val (.int p0), .val (.int p1), .val (.int p2), .val (.int p3), .val (.int p4), .val (.int z_102), .val (.int z_105), .val (.int z_109), .val (.int z_113), .val (.int z_116), .val (.int z_120), .val (.int z_123), .val (.int c_125), .val (.int c_127), .unset, .unset, .unset, .unset, .unset, .unset, .unset, .unset, .unset, .unset, .unset] []))
          refine go _ _ (fun _ k => XS.iloadN X126.here hx rfl (hb hby at_122) rfl k) ?_
          show G (T126.setTop (mkF m 123 #[.val (.int p0), .val (.int p1), .val (.int p2), .val (.int p3), .val (.int p4), .val (.int z_102), .val (.int z_105), .val (.int z_109), .val (.int z_113), .val (.int z_116), .val (.int z_120), .val (.int z_123), .val (.int c_125), .val (.int c_127), .unset, .unset, .unset, .unset, .unset, .unset, .unset, .unset, .unset, .unset, .unset] [(.int p3)]))
          obtain ⟨rv408, T408, L408, X408, q408, st408⟩ := own_st X126 hx hZ (y := (⟨"com/example/hatoyama/hatoyama/ObjectMethodEqualsPinLaw", "len", "(I)I"⟩ : MethodName)) hown (ow hw 0 rfl) (ow hw 1 rfl) (ow hw 2 rfl) (ow hw 3 rfl) (by decide) (own_bkN (W := 0) (rm0 l Z a0 hw z0 O2 P5 [] p3 h0 n0 Z0) hZ (ow hw 3 rfl) (ow hw 2 rfl) (by decide) (by decide)) e126 (g := (mkF m 123 #[.val (.int p0), .val (.int p1), .val (.int p2), .val (.int p3), .val (.int p4), .val (.int z_102), .val (.int z_105), .val (.int z_109), .val (.int z_113), .val (.int z_116), .val (.int z_120), .val (.int z_123), .val (.int c_125), .val (.int c_127), .unset, .unset, .unset, .unset, .unset, .unset, .unset, .unset, .unset, .unset, .unset] [(.int p3)])) rfl (by rw [hml]; rfl) (argsL := [(.int p3)]) (rest := []) rfl (lenOf own_pd7 rfl) rfl (by show 2 * 0 + _ ≤ _; exact Nat.le_of_eq rfl) (hb hby at_123) (by decide) (by decide)
          obtain ⟨Nq408, e408, ⟨z_409, rfl, p410⟩⟩ := q408
          have N408 := Fr.app N126 Nq408
          refine go _ _ (st408) ?_
          show G (T408.setTop (mkF m 126 #[.val (.int p0), .val (.int p1), .val (.int p2), .val (.int p3), .val (.int p4), .val (.int z_102), .val (.int z_105), .val (.int z_109), .val (.int z_113), .val (.int z_116), .val (.int z_120), .val (.int z_123), .val (.int c_125), .val (.int c_127), .unset, .unset, .unset, .unset, .unset, .unset, .unset, .unset, .unset, .unset, .unset] [(.int z_409)]))
          refine go _ _ (fun _ k => XS.goto X408.here hx rfl (pc0 := 126) (pc' := 131) rfl (hb hby at_126) (by decide) (by decide) k) ?_
          show G (T408.setTop (mkF m 131 #[.val (.int p0), .val (.int p1), .val (.int p2), .val (.int p3), .val (.int p4), .val (.int z_102), .val (.int z_105), .val (.int z_109), .val (.int z_113), .val (.int z_116), .val (.int z_120), .val (.int z_123), .val (.int c_125), .val (.int c_127), .unset, .unset, .unset, .unset, .unset, .unset, .unset, .unset, .unset, .unset, .unset] [(.int z_409)]))
          exact J128 _ _ (X408.more (by decide) (by decide)) e408 N408 z_409 p410
      by_cases hc94_411 : (((p2.toUInt32 >>> ((19 : Int32) &&& 31).toUInt32).toInt32) &&& (1 : Int32)) = (0 : Int32)
      · refine go _ _ (fun _ k => XS.ifYes X124.here hx rfl (pc0 := 94) (pc' := 108) rfl (hb hby at_94) rfl ((if0 _ _).trans (teq hc94_411).1) (by decide) (by decide) k) ?_
        show G (T124.setTop (mkF m 108 #[.val (.int p0), .val (.int p1), .val (.int p2), .val (.int p3), .val (.int p4), .val (.int z_102), .val (.int z_105), .val (.int z_109), .val (.int z_113), .val (.int z_116), .val (.int z_120), .val (.int z_123), .val (.int c_125), .unset, .unset, .unset, .unset, .unset, .unset, .unset, .unset, .unset, .unset, .unset, .unset] [(.int z_109)]))
        refine go _ _ (fun _ k => XS.iconst X124.here hx rfl (hb hby at_108) k) ?_
        show G (T124.setTop (mkF m 109 #[.val (.int p0), .val (.int p1), .val (.int p2), .val (.int p3), .val (.int p4), .val (.int z_102), .val (.int z_105), .val (.int z_109), .val (.int z_113), .val (.int z_116), .val (.int z_120), .val (.int z_123), .val (.int c_125), .unset, .unset, .unset, .unset, .unset, .unset, .unset, .unset, .unset, .unset, .unset, .unset] [(.int (0 : Int32)), (.int z_109)]))
        exact J126 _ _ (X124.more (by decide) (by decide)) e124 N124 (0 : Int32) (by decide) (by decide)
      · refine go _ _ (fun _ k => XS.ifNo X124.here hx rfl (hb hby at_94) rfl ((if0 _ _).trans (feq hc94_411).1) k) ?_
        show G (T124.setTop (mkF m 97 #[.val (.int p0), .val (.int p1), .val (.int p2), .val (.int p3), .val (.int p4), .val (.int z_102), .val (.int z_105), .val (.int z_109), .val (.int z_113), .val (.int z_116), .val (.int z_120), .val (.int z_123), .val (.int c_125), .unset, .unset, .unset, .unset, .unset, .unset, .unset, .unset, .unset, .unset, .unset, .unset] [(.int z_109)]))
        refine go _ _ (fun _ k => XS.iloadN X124.here hx rfl (hb hby at_97) rfl (XS.bipush X124.here hx rfl (hb hby at_98) (XS.iushr X124.here hx rfl (hb hby at_100) rfl (XS.sipush X124.here hx rfl (hb hby at_101) (XS.iand X124.here hx rfl (hb hby at_104) rfl k))))) ?_
        show G (T124.setTop (mkF m 105 #[.val (.int p0), .val (.int p1), .val (.int p2), .val (.int p3), .val (.int p4), .val (.int z_102), .val (.int z_105), .val (.int z_109), .val (.int z_113), .val (.int z_116), .val (.int z_120), .val (.int z_123), .val (.int c_125), .unset, .unset, .unset, .unset, .unset, .unset, .unset, .unset, .unset, .unset, .unset, .unset] [(.int (((p2.toUInt32 >>> ((8 : Int32) &&& 31).toUInt32).toInt32) &&& (255 : Int32))), (.int z_109)]))
        refine go _ _ (fun _ k => XS.goto X124.here hx rfl (pc0 := 105) (pc' := 109) rfl (hb hby at_105) (by decide) (by decide) k) ?_
        show G (T124.setTop (mkF m 109 #[.val (.int p0), .val (.int p1), .val (.int p2), .val (.int p3), .val (.int p4), .val (.int z_102), .val (.int z_105), .val (.int z_109), .val (.int z_113), .val (.int z_116), .val (.int z_120), .val (.int z_123), .val (.int c_125), .unset, .unset, .unset, .unset, .unset, .unset, .unset, .unset, .unset, .unset, .unset, .unset] [(.int (((p2.toUInt32 >>> ((8 : Int32) &&& 31).toUInt32).toInt32) &&& (255 : Int32))), (.int z_109)]))
        exact J126 _ _ (X124.more (by decide) (by decide)) e124 N124 (((p2.toUInt32 >>> ((8 : Int32) &&& 31).toUInt32).toInt32) &&& (255 : Int32)) ((own_c255 _).1) ((own_c255 _).2)
    by_cases hc70_412 : (((p2.toUInt32 >>> ((18 : Int32) &&& 31).toUInt32).toInt32) &&& (1 : Int32)) = (0 : Int32)
    · refine go _ _ (fun _ k => XS.ifYes X123.here hx rfl (pc0 := 70) (pc' := 81) rfl (hb hby at_70) rfl ((if0 _ _).trans (teq hc70_412).1) (by decide) (by decide) k) ?_
      show G (T123.setTop (mkF m 81 #[.val (.int p0), .val (.int p1), .val (.int p2), .val (.int p3), .val (.int p4), .val (.int z_102), .val (.int z_105), .val (.int z_109), .val (.int z_113), .val (.int z_116), .val (.int z_120), .val (.int z_123), .unset, .unset, .unset, .unset, .unset, .unset, .unset, .unset, .unset, .unset, .unset, .unset, .unset] [(.int z_105)]))
      refine go _ _ (fun _ k => XS.iconst X123.here hx rfl (hb hby at_81) k) ?_
      show G (T123.setTop (mkF m 82 #[.val (.int p0), .val (.int p1), .val (.int p2), .val (.int p3), .val (.int p4), .val (.int z_102), .val (.int z_105), .val (.int z_109), .val (.int z_113), .val (.int z_116), .val (.int z_120), .val (.int z_123), .unset, .unset, .unset, .unset, .unset, .unset, .unset, .unset, .unset, .unset, .unset, .unset, .unset] [(.int (0 : Int32)), (.int z_105)]))
      exact J124 _ _ (X123.more (by decide) (by decide)) e123 N123 (0 : Int32) (by decide) (by decide)
    · refine go _ _ (fun _ k => XS.ifNo X123.here hx rfl (hb hby at_70) rfl ((if0 _ _).trans (feq hc70_412).1) k) ?_
      show G (T123.setTop (mkF m 73 #[.val (.int p0), .val (.int p1), .val (.int p2), .val (.int p3), .val (.int p4), .val (.int z_102), .val (.int z_105), .val (.int z_109), .val (.int z_113), .val (.int z_116), .val (.int z_120), .val (.int z_123), .unset, .unset, .unset, .unset, .unset, .unset, .unset, .unset, .unset, .unset, .unset, .unset, .unset] [(.int z_105)]))
      refine go _ _ (fun _ k => XS.iloadN X123.here hx rfl (hb hby at_73) rfl (XS.sipush X123.here hx rfl (hb hby at_74) (XS.iand X123.here hx rfl (hb hby at_77) rfl k))) ?_
      show G (T123.setTop (mkF m 78 #[.val (.int p0), .val (.int p1), .val (.int p2), .val (.int p3), .val (.int p4), .val (.int z_102), .val (.int z_105), .val (.int z_109), .val (.int z_113), .val (.int z_116), .val (.int z_120), .val (.int z_123), .unset, .unset, .unset, .unset, .unset, .unset, .unset, .unset, .unset, .unset, .unset, .unset, .unset] [(.int (p2 &&& (255 : Int32))), (.int z_105)]))
      refine go _ _ (fun _ k => XS.goto X123.here hx rfl (pc0 := 78) (pc' := 82) rfl (hb hby at_78) (by decide) (by decide) k) ?_
      show G (T123.setTop (mkF m 82 #[.val (.int p0), .val (.int p1), .val (.int p2), .val (.int p3), .val (.int p4), .val (.int z_102), .val (.int z_105), .val (.int z_109), .val (.int z_113), .val (.int z_116), .val (.int z_120), .val (.int z_123), .unset, .unset, .unset, .unset, .unset, .unset, .unset, .unset, .unset, .unset, .unset, .unset, .unset] [(.int (p2 &&& (255 : Int32))), (.int z_105)]))
      exact J124 _ _ (X123.more (by decide) (by decide)) e123 N123 (p2 &&& (255 : Int32)) ((own_c255 _).1) ((own_c255 _).2)
  by_cases hc48_413 : (((p2.toUInt32 >>> ((24 : Int32) &&& 31).toUInt32).toInt32) &&& (1 : Int32)) = (0 : Int32)
  · refine go _ _ (fun _ k => XS.ifYes X119.here hx rfl (pc0 := 48) (pc' := 58) rfl (hb hby at_48) rfl ((if0 _ _).trans (teq hc48_413).1) (by decide) (by decide) k) ?_
    show G (T119.setTop (mkF m 58 #[.val (.int p0), .val (.int p1), .val (.int p2), .val (.int p3), .val (.int p4), .val (.int z_102), .val (.int z_105), .val (.int z_109), .val (.int z_113), .val (.int z_116), .val (.int z_120), .unset, .unset, .unset, .unset, .unset, .unset, .unset, .unset, .unset, .unset, .unset, .unset, .unset, .unset] []))
    refine go _ _ (fun _ k => XS.iload X119.here hx rfl (hb hby at_58) rfl k) ?_
    show G (T119.setTop (mkF m 60 #[.val (.int p0), .val (.int p1), .val (.int p2), .val (.int p3), .val (.int p4), .val (.int z_102), .val (.int z_105), .val (.int z_109), .val (.int z_113), .val (.int z_116), .val (.int z_120), .unset, .unset, .unset, .unset, .unset, .unset, .unset, .unset, .unset, .unset, .unset, .unset, .unset, .unset] [(.int z_102)]))
    exact J123 _ _ (X119.more (by decide) (by decide)) e119 N119 z_102 p103
  · refine go _ _ (fun _ k => XS.ifNo X119.here hx rfl (hb hby at_48) rfl ((if0 _ _).trans (feq hc48_413).1) k) ?_
    show G (T119.setTop (mkF m 51 #[.val (.int p0), .val (.int p1), .val (.int p2), .val (.int p3), .val (.int p4), .val (.int z_102), .val (.int z_105), .val (.int z_109), .val (.int z_113), .val (.int z_116), .val (.int z_120), .unset, .unset, .unset, .unset, .unset, .unset, .unset, .unset, .unset, .unset, .unset, .unset, .unset, .unset] []))
    refine go _ _ (fun _ k => XS.iloadN X119.here hx rfl (hb hby at_51) rfl k) ?_
    show G (T119.setTop (mkF m 52 #[.val (.int p0), .val (.int p1), .val (.int p2), .val (.int p3), .val (.int p4), .val (.int z_102), .val (.int z_105), .val (.int z_109), .val (.int z_113), .val (.int z_116), .val (.int z_120), .unset, .unset, .unset, .unset, .unset, .unset, .unset, .unset, .unset, .unset, .unset, .unset, .unset, .unset] [(.int p2)]))
    obtain ⟨rv414, T414, L414, X414, q414, st414⟩ := own_st X119 hx hZ (y := (⟨"com/example/hatoyama/hatoyama/ObjectMethodEqualsPinLaw", "len", "(I)I"⟩ : MethodName)) hown (ow hw 0 rfl) (ow hw 1 rfl) (ow hw 2 rfl) (ow hw 3 rfl) (by decide) (own_bkN (W := 0) (rm0 l Z a0 hw z0 O2 P5 [] p2 h0 n0 Z0) hZ (ow hw 3 rfl) (ow hw 2 rfl) (by decide) (by decide)) e119 (g := (mkF m 52 #[.val (.int p0), .val (.int p1), .val (.int p2), .val (.int p3), .val (.int p4), .val (.int z_102), .val (.int z_105), .val (.int z_109), .val (.int z_113), .val (.int z_116), .val (.int z_120), .unset, .unset, .unset, .unset, .unset, .unset, .unset, .unset, .unset, .unset, .unset, .unset, .unset, .unset] [(.int p2)])) rfl (by rw [hml]; rfl) (argsL := [(.int p2)]) (rest := []) rfl (lenOf own_pd7 rfl) rfl (by show 2 * 0 + _ ≤ _; exact Nat.le_of_eq rfl) (hb hby at_52) (by decide) (by decide)
    obtain ⟨Nq414, e414, ⟨z_415, rfl, p416⟩⟩ := q414
    have N414 := Fr.app N119 Nq414
    refine go _ _ (st414) ?_
    show G (T414.setTop (mkF m 55 #[.val (.int p0), .val (.int p1), .val (.int p2), .val (.int p3), .val (.int p4), .val (.int z_102), .val (.int z_105), .val (.int z_109), .val (.int z_113), .val (.int z_116), .val (.int z_120), .unset, .unset, .unset, .unset, .unset, .unset, .unset, .unset, .unset, .unset, .unset, .unset, .unset, .unset] [(.int z_415)]))
    refine go _ _ (fun _ k => XS.goto X414.here hx rfl (pc0 := 55) (pc' := 60) rfl (hb hby at_55) (by decide) (by decide) k) ?_
    show G (T414.setTop (mkF m 60 #[.val (.int p0), .val (.int p1), .val (.int p2), .val (.int p3), .val (.int p4), .val (.int z_102), .val (.int z_105), .val (.int z_109), .val (.int z_113), .val (.int z_116), .val (.int z_120), .unset, .unset, .unset, .unset, .unset, .unset, .unset, .unset, .unset, .unset, .unset, .unset, .unset, .unset] [(.int z_415)]))
    exact J123 _ _ (X414.more (by decide) (by decide)) e414 N414 z_415 p416
theorem own_EL_in : ∀ q ∈ own_EL, q ∈ consts_1 := by decide
set_option maxRecDepth 65536 in
set_option maxHeartbeats 40000000 in
theorem comes_1 {Post : Tables → Env → Array Value → State → Outcome → State → Prop} (hpost : ∀ tb e args s v u, (limb_1_1.after args s (.returned v) u = true ∧ limb_1_2.after args s (.returned v) u = true ∧ True) → ReturnedEndW s (.returned v) u (Jvm.fieldLocs frame_1_writes args s ++ Jvm.arrayLocs frame_1_arrays args s ++ Jvm.staticLocs frame_1_statics s) 48 3264 → Post tb e args s (.returned v) u) :
    ArmFor flags0 classFile x code maxLocals ret World_1 tables_1 room_1 Calls_1 rest_1 Pre_1 Post := by
  intro l hfl _ _ p e ha hc hk s m args below hf hA hF happ hP
  obtain ⟨hcalls, hrest, hpre⟩ := hP
  obtain ⟨-, -, -, hnamed, -, -, -, hat⟩ := (Spec.applies_iff hf).mp happ
  obtain ⟨hg, hn⟩ := and_e (Cond.before_iff.mp (show (Jvm.Cond.and given_1 narrow_1).before args s = true from hpre))
  obtain ⟨h1, g0⟩ := and_e hg
  obtain ⟨ga0, g1⟩ := and_e g0
  obtain ⟨ga1, g2⟩ := and_e g1
  obtain ⟨ga2, g3⟩ := and_e g2
  obtain ⟨ga3, g4⟩ := and_e g3
  have ga4 := g4
  obtain ⟨w0, w1, w2, w3, w4, rfl⟩ : ∃ w0 w1 w2 w3 w4 : Value, args = #[w0, w1, w2, w3, w4] := by
    have hs : args.size = 5 := by simpa [Cond.value, given_1] using h1
    obtain ⟨L⟩ := args
    match L, hs with
    | [w0, w1, w2, w3, w4], _ => exact ⟨w0, w1, w2, w3, w4, rfl⟩
  have hw := fun d (hd : d ∈ tables_1) => atoms_spec (ws := Jvm.Cond.code x code maxLocals ret :: tables_1) hat d (List.mem_cons_of_mem _ hd)
  obtain ⟨hsets, hown0⟩ := atoms_of _ (rest_1_c_eq ▸ (show rest_1_c.before _ s = true from hrest))
  have hfit : Fit s := fun {y c} hc i hi => by
    obtain ⟨ha, rfl⟩ := Array.getElem?_eq_some_iff.mp hc
    have q := List.all_eq_true.mp ((Array.all_eq_true_iff_forall_mem.mp hF) _ (Array.getElem_mem ha)) i (List.mem_range.mpr hi)
    simpa [Array.getElem?_eq_getElem hi] using q
  obtain ⟨i0, ea0⟩ := is_v ga0
  obtain rfl : w0 = (.int i0) := Option.some.inj ea0
  obtain ⟨i1, ea1⟩ := is_v ga1
  obtain rfl : w1 = (.int i1) := Option.some.inj ea1
  obtain ⟨i2, ea2⟩ := is_v ga2
  obtain rfl : w2 = (.int i2) := Option.some.inj ea2
  obtain ⟨i3, ea3⟩ := is_v ga3
  obtain rfl : w3 = (.int i3) := Option.some.inj ea3
  obtain ⟨i4, ea4⟩ := is_v ga4
  obtain rfl : w4 = (.int i4) := Option.some.inj ea4
  have n3 := not_v (Cond.before_iff.mp (hsets _ (List.mem_of_getElem? (i := 2) rfl)))
  obtain ⟨iz, ez⟩ := is_v (Cond.before_iff.mp (hsets _ (List.mem_of_getElem? (i := 1) rfl)))
  have S8 : Sta s s.heap "java/lang/String" "COMPACT_STRINGS" "Z" (.int iz) := Sta.start ez (Or.inl (hsets _ (List.mem_of_getElem? (i := 0) rfl)))
  have c13 : ¬ (iz = (0 : Int32)) := gotF (Cond.eq_ints ez (Term.int_eval (0))) n3
  have CHv0 : CHv s own_EL s.vm s.heap := CHv.start (own_hEL hw) (fun q hq => hcalls.1 q (own_EL_in q hq)) (hsets _ (List.mem_of_getElem? (i := 2) rfl)) (ow hw 13 rfl) (ow hw 12 rfl)
  obtain ⟨n, o, h1, h2, h3, v, L, rfl, ⟨N, -, q⟩, -, hq⟩ := rmLaw l s _ hw iz S8 c13 tables_1 i0 i1 i2 i3 i4 s.heap s.heap.size (Nat.le_refl _) (Old.start s) p e ha hc hk s m _ below hf ((Spec.applies_iff_loose hf).mp happ).1 ⟨rfl, State.Warmed39.refl s, rfl, CHv0⟩ trivial
  subst q
  refine ⟨n, _, h1, h2, h3, hpost _ _ _ _ _ _ ⟨Cond.after_iff.mpr rfl, Cond.after_iff.mpr (eq_i res_at (Term.int_eval (1)) rfl), trivial⟩ ⟨hq.1, hq.2.1, hq.2.2.1, (hq.2.2.2.sift fun y hy => Or.inr (N y hy)).mono (by decide) (by decide)⟩⟩
theorem main_1_1 : Claimed_1_1 := comes_1 fun _ _ _ _ _ _ h hF => ⟨h.1, hF⟩
theorem main_1_2 : Claimed_1_2 := comes_1 fun _ _ _ _ _ _ h hF => ⟨h.2.1, hF⟩
end Jvm.Pilot.@@N@@
namespace Jvm.Pilot.@@N@@
open Jvm Jvm.ClassFile Sem Op Lib Jvm.Free Jvm.Stand Jvm.Pilot.@@N@@.Jvm.D
/-! MADE BY PROGRAM (witnessworld.py) out of the Statement's table words and the real class files: 21 classes; the members and pool entries that the words name. The judged class is class 1, her method 5. -/
namespace start1
open Jvm.ClassFile
def u (s : String) : CpInfo := .utf8 (stringToUtf16 s)
/-- a pool by its gaps: so many unusable entries, then the entry; so many at the end -/
def gap : Nat → List CpInfo → List CpInfo
  | 0, r => r
  | n + 1, r => .unusable :: gap n r
def poolList (es : List (Nat × CpInfo)) (last : Nat) : List CpInfo := es.foldr (fun e r => gap e.1 (e.2 :: r)) (gap last [])
def pool (es : List (Nat × CpInfo)) (last : Nat) : Array CpInfo := ⟨poolList es last⟩
def fileOf (pool : Array CpInfo) (this : Nat) (attrs : Array Attribute := #[]) (ms : Array MethodInfo := #[]) (fl : Nat := 33) (sup : Nat := 0) (ifs : Array Nat := #[]) (fds : Array FieldInfo := #[]) : ClassFile where
  minorVersion := 0
  majorVersion := 65
  constantPool := pool
  accessFlags := fl
  thisClass := this
  superClass := sup
  interfaces := ifs
  fields := fds
  methods := ms
  attributes := attrs
def plain (name : String) (sup : Option ClassId) : Class where
  name := name
  kind := .ordinary
  loader := none
  accessFlags := 33
  super := sup
  interfaces := #[]
  cf := none
  fields := #[]
  methods := #[]
  instanceTypes := #[]
  staticTypes := #[]
  resolved := #[]
  callSites := []
  init := .initialized
  statics := none
  mirror := none

def pool0 : Array CpInfo := pool [(5, u "<init>"), (0, u "()V"), (1, .class_ 10), (1, u "java/lang/Object")] 113

def k0c0 : Code := { maxStack := 0, maxLocals := 1, code := object_method_1_code, exceptionTable := #[], attributes := #[] }
def k0m0 : Method := { name := "<init>", desc := "()V", sig := { parameters := [], returnType := none }, accessFlags := 1, code := some k0c0 }
/-- java/lang/Object -/
def k0 : Class := { plain "java/lang/Object" none with
  accessFlags := 33
  interfaces := #[]
  cf := some (fileOf pool0 8 #[] #[{ accessFlags := 1, nameIndex := 5, descriptorIndex := 6, attributes := #[] }] 33 0 #[] #[])
  fields := #[]
  methods := #[k0m0]
  instanceTypes := #[]
  staticTypes := #[]
  resolved := Array.replicate 124 none
  statics := none }

def pool1 : Array CpInfo := pool [(2, .class_ 4), (1, u "java/lang/Object"), (0, u "<init>"), (0, u "()V"), (0, .string 8), (0, u ""), (0, .methodref 10 11), (0, .class_ 12), (0, .nameAndType 13 14), (0, u "java/lang/String"), (0, u "valueOf"), (0, u "(C)Ljava/lang/String;"), (0, .methodref 10 16), (0, .nameAndType 5 17), (0, u "([C)V"), (0, .methodref 19 20), (0, .class_ 21), (0, .nameAndType 22 23), (0, u "com/example/hatoyama/hatoyama/ObjectMethodEqualsPinLaw"), (0, u "len"), (0, u "(I)I"), (0, .methodref 19 25), (0, .nameAndType 26 27), (0, u "ch"), (0, u "(II)C"), (0, .methodref 19 29), (0, .nameAndType 30 31), (0, u "mk"), (0, u "(ICC)Ljava/lang/String;"), (0, .class_ 33), (0, u "com/example/hatoyama/hatoyama/ObjectMethod"), (0, .methodref 32 35), (0, .nameAndType 5 36), (0, u "(Ljava/lang/String;Ljava/lang/String;)V"), (0, .methodref 19 38), (0, .nameAndType 39 40), (0, u "same"), (0, u "(ICCICC)Z"), (0, .methodref 32 42), (0, .nameAndType 43 44), (0, u "equals"), (0, u "(Ljava/lang/Object;)Z"), (3, u "law"), (0, u "(IIIII)Z")] 2

def k1m0 : Method := { name := "<init>", desc := "()V", sig := { parameters := [], returnType := none }, accessFlags := 1, code := none }
def k1c1 : Code := { maxStack := 2, maxLocals := 1, code := method_2_code, exceptionTable := #[], attributes := #[] }
def k1m1 : Method := { name := "len", desc := "(I)I", sig := { parameters := [.int], returnType := some .int }, accessFlags := 10, code := some k1c1 }
def k1c2 : Code := { maxStack := 2, maxLocals := 2, code := method_3_code, exceptionTable := #[], attributes := #[] }
def k1m2 : Method := { name := "ch", desc := "(II)C", sig := { parameters := [.int, .int], returnType := some .char }, accessFlags := 10, code := some k1c2 }
def k1c3 : Code := { maxStack := 3, maxLocals := 4, code := method_4_code, exceptionTable := #[], attributes := #[] }
def k1m3 : Method := { name := "mk", desc := "(ICC)Ljava/lang/String;", sig := { parameters := [.int, .char, .char], returnType := some (.object "java/lang/String") }, accessFlags := 10, code := some k1c3 }
def k1c4 : Code := { maxStack := 2, maxLocals := 6, code := method_5_code, exceptionTable := #[], attributes := #[] }
def k1m4 : Method := { name := "same", desc := "(ICCICC)Z", sig := { parameters := [.int, .char, .char, .int, .char, .char], returnType := some .boolean }, accessFlags := 10, code := some k1c4 }
def k1c5 : Code := { maxStack := 6, maxLocals := 25, code := code, exceptionTable := #[], attributes := #[] }
def k1m5 : Method := { name := "law", desc := "(IIIII)Z", sig := { parameters := [.int, .int, .int, .int, .int], returnType := some .boolean }, accessFlags := 9, code := some k1c5 }
/-- com/example/hatoyama/hatoyama/ObjectMethodEqualsPinLaw -/
def k1 : Class := { plain "com/example/hatoyama/hatoyama/ObjectMethodEqualsPinLaw" (some 0) with
  accessFlags := 49
  interfaces := #[]
  cf := some (fileOf pool1 19 #[] #[{ accessFlags := 1, nameIndex := 5, descriptorIndex := 6, attributes := #[] }, { accessFlags := 10, nameIndex := 22, descriptorIndex := 23, attributes := #[] }, { accessFlags := 10, nameIndex := 26, descriptorIndex := 27, attributes := #[] }, { accessFlags := 10, nameIndex := 30, descriptorIndex := 31, attributes := #[] }, { accessFlags := 10, nameIndex := 39, descriptorIndex := 40, attributes := #[] }, { accessFlags := 9, nameIndex := 48, descriptorIndex := 49, attributes := #[] }] 49 2 #[] #[])
  fields := #[]
  methods := #[k1m0, k1m1, k1m2, k1m3, k1m4, k1m5]
  instanceTypes := #[]
  staticTypes := #[]
  resolved := Array.replicate 52 none
  statics := none }

def pool2 : Array CpInfo := pool [(1, .class_ 2), (0, u "java/io/Serializable"), (0, .class_ 4), (0, u "java/lang/Object")] 2

/-- java/io/Serializable -/
def k2 : Class := { plain "java/io/Serializable" (some 0) with
  accessFlags := 1537
  interfaces := #[]
  cf := some (fileOf pool2 1 #[] #[] 1537 3 #[] #[])
  fields := #[]
  methods := #[]
  instanceTypes := #[]
  staticTypes := #[]
  resolved := Array.replicate 7 none
  statics := none }

def pool3 : Array CpInfo := pool [(1, .class_ 2), (0, u "java/lang/Comparable"), (0, .class_ 4), (0, u "java/lang/Object")] 7

/-- java/lang/Comparable -/
def k3 : Class := { plain "java/lang/Comparable" (some 0) with
  accessFlags := 1537
  interfaces := #[]
  cf := some (fileOf pool3 1 #[] #[] 1537 3 #[] #[])
  fields := #[]
  methods := #[]
  instanceTypes := #[]
  staticTypes := #[]
  resolved := Array.replicate 12 none
  statics := none }

def pool4 : Array CpInfo := pool [(2, .class_ 4), (1, u "java/lang/CharSequence"), (42, .class_ 48), (0, u "java/lang/CharSequence$1CodePointIterator"), (10, .class_ 60), (0, u "java/lang/CharSequence$1CharIterator"), (5, .class_ 67), (0, u "java/lang/Object")] 63

/-- java/lang/CharSequence -/
def k4 : Class := { plain "java/lang/CharSequence" (some 0) with
  accessFlags := 1537
  interfaces := #[]
  cf := some (fileOf pool4 2 #[.nestMembers #[47, 59]] #[] 1537 66 #[] #[])
  fields := #[]
  methods := #[]
  instanceTypes := #[]
  staticTypes := #[]
  resolved := Array.replicate 131 none
  statics := none }

def pool5 : Array CpInfo := pool [(1, .class_ 2), (0, u "java/lang/constant/Constable"), (0, .class_ 4), (0, u "java/lang/Object")] 6

/-- java/lang/constant/Constable -/
def k5 : Class := { plain "java/lang/constant/Constable" (some 0) with
  accessFlags := 1537
  interfaces := #[]
  cf := some (fileOf pool5 1 #[] #[] 1537 3 #[] #[])
  fields := #[]
  methods := #[]
  instanceTypes := #[]
  staticTypes := #[]
  resolved := Array.replicate 11 none
  statics := none }

def pool6 : Array CpInfo := pool [(1, .class_ 2), (0, u "java/lang/constant/ConstantDesc"), (0, .class_ 4), (0, u "java/lang/Object")] 32

/-- java/lang/constant/ConstantDesc -/
def k6 : Class := { plain "java/lang/constant/ConstantDesc" (some 0) with
  accessFlags := 1537
  interfaces := #[]
  cf := some (fileOf pool6 1 #[] #[] 1537 3 #[] #[])
  fields := #[]
  methods := #[]
  instanceTypes := #[]
  staticTypes := #[]
  resolved := Array.replicate 37 none
  statics := none }

def pool7 : Array CpInfo := pool [(1, .methodref 2 3), (0, .class_ 4), (0, .nameAndType 5 6), (0, u "java/lang/Object"), (0, u "<init>"), (0, u "()V"), (2, .fieldref 10 11), (0, .class_ 12), (0, .nameAndType 13 14), (0, u "java/lang/String"), (0, u "value"), (0, u "[B"), (0, .fieldref 10 16), (0, .nameAndType 17 18), (0, u "coder"), (0, u "B"), (2, u "hash"), (0, u "I"), (2, u "hashIsZero"), (0, u "Z"), (0, .methodref 10 28), (0, .nameAndType 5 29), (0, u "([CIILjava/lang/Void;)V"), (8, .fieldref 10 39), (0, .nameAndType 40 26), (0, u "COMPACT_STRINGS"), (1, .class_ 44), (1, u "java/lang/StringUTF16"), (0, u "compress"), (1, .methodref 42 48), (0, .nameAndType 49 50), (0, u "coderFromArrayLen"), (0, u "([BI)B"), (2, u "toBytes"), (53, .class_ 109), (1, u "java/lang/StringLatin1"), (67, .methodref 42 178), (0, .nameAndType 45 179), (0, u "([CII)[B"), (29, .methodref 10 210), (0, .nameAndType 5 211), (0, u "([BB)V"), (157, u "(C)Z"), (171, .methodref 107 542), (0, .nameAndType 543 544), (0, u "equals"), (0, u "([B[B)Z"), (28, u "(Ljava/lang/Object;)Z"), (1, .class_ 576), (0, u "java/lang/CharSequence"), (22, u "CASE_INSENSITIVE_ORDER"), (0, u "Ljava/util/Comparator;"), (181, u "valueOf"), (0, u "(C)Ljava/lang/String;"), (226, u "([C)V"), (4, .methodref 107 1016), (0, .nameAndType 1017 369), (0, u "canEncode"), (0, .methodref 107 1019), (0, .nameAndType 53 1020), (0, u "(C)[B"), (80, u "serialPersistentFields"), (0, u "[Ljava/io/ObjectStreamField;"), (0, .class_ 1104), (0, u "java/lang/String$CaseInsensitiveComparator"), (1, .class_ 1107), (0, u "java/io/Serializable"), (0, .class_ 1109), (0, u "java/lang/Comparable"), (0, .class_ 1111), (0, u "java/lang/constant/Constable"), (0, .class_ 1113), (0, u "java/lang/constant/ConstantDesc"), (2, u "serialVersionUID"), (0, u "J"), (3, u "REPL"), (0, u "C"), (2, u "LATIN1"), (1, u "UTF16")] 323

def k7m0 : Method := { name := "<init>", desc := "()V", sig := { parameters := [], returnType := none }, accessFlags := 1, code := none }
def k7c1 : Code := { maxStack := 5, maxLocals := 2, code := jdk_42_method_3_code, exceptionTable := #[], attributes := #[] }
def k7m1 : Method := { name := "<init>", desc := "([C)V", sig := { parameters := [(.array .char)], returnType := none }, accessFlags := 1, code := some k7c1 }
def k7c2 : Code := { maxStack := 2, maxLocals := 3, code := jdk_42_method_66_code, exceptionTable := #[], attributes := #[] }
def k7m2 : Method := { name := "equals", desc := "(Ljava/lang/Object;)Z", sig := { parameters := [(.object "java/lang/Object")], returnType := some .boolean }, accessFlags := 1, code := some k7c2 }
def k7c3 : Code := { maxStack := 4, maxLocals := 1, code := jdk_42_method_139_code, exceptionTable := #[], attributes := #[] }
def k7m3 : Method := { name := "valueOf", desc := "(C)Ljava/lang/String;", sig := { parameters := [.char], returnType := some (.object "java/lang/String") }, accessFlags := 9, code := some k7c3 }
def k7c4 : Code := { maxStack := 4, maxLocals := 6, code := jdk_42_method_149_code, exceptionTable := #[], attributes := #[] }
def k7m4 : Method := { name := "<init>", desc := "([CIILjava/lang/Void;)V", sig := { parameters := [(.array .char), .int, .int, (.object "java/lang/Void")], returnType := none }, accessFlags := 2, code := some k7c4 }
def k7c5 : Code := { maxStack := 2, maxLocals := 3, code := jdk_42_method_151_code, exceptionTable := #[], attributes := #[] }
def k7m5 : Method := { name := "<init>", desc := "([BB)V", sig := { parameters := [(.array .byte), .byte], returnType := none }, accessFlags := 0, code := some k7c5 }
/-- java/lang/String -/
def k7 : Class := { plain "java/lang/String" (some 0) with
  accessFlags := 49
  interfaces := #[2, 3, 4, 5, 6]
  cf := some (fileOf pool7 10 #[.nestMembers #[1103]] #[{ accessFlags := 1, nameIndex := 5, descriptorIndex := 6, attributes := #[] }, { accessFlags := 1, nameIndex := 5, descriptorIndex := 1010, attributes := #[] }, { accessFlags := 1, nameIndex := 543, descriptorIndex := 573, attributes := #[] }, { accessFlags := 9, nameIndex := 782, descriptorIndex := 783, attributes := #[] }, { accessFlags := 2, nameIndex := 5, descriptorIndex := 29, attributes := #[] }, { accessFlags := 0, nameIndex := 5, descriptorIndex := 211, attributes := #[] }] 49 2 #[1106, 1108, 575, 1110, 1112] #[{ accessFlags := 18, nameIndex := 13, descriptorIndex := 14, attributes := #[] }, { accessFlags := 18, nameIndex := 17, descriptorIndex := 18, attributes := #[] }, { accessFlags := 2, nameIndex := 21, descriptorIndex := 22, attributes := #[] }, { accessFlags := 2, nameIndex := 25, descriptorIndex := 26, attributes := #[] }, { accessFlags := 26, nameIndex := 1116, descriptorIndex := 1117, attributes := #[] }, { accessFlags := 24, nameIndex := 40, descriptorIndex := 26, attributes := #[] }, { accessFlags := 26, nameIndex := 1101, descriptorIndex := 1102, attributes := #[] }, { accessFlags := 26, nameIndex := 1121, descriptorIndex := 1122, attributes := #[] }, { accessFlags := 25, nameIndex := 599, descriptorIndex := 600, attributes := #[] }, { accessFlags := 24, nameIndex := 1125, descriptorIndex := 18, attributes := #[] }, { accessFlags := 24, nameIndex := 1127, descriptorIndex := 18, attributes := #[] }])
  fields := #[{ name := "value", type := (.array .byte), accessFlags := 18, slot := 0, constantValue := 0 }, { name := "coder", type := .byte, accessFlags := 18, slot := 1, constantValue := 0 }, { name := "hash", type := .int, accessFlags := 2, slot := 2, constantValue := 0 }, { name := "hashIsZero", type := .boolean, accessFlags := 2, slot := 3, constantValue := 0 }, { name := "serialVersionUID", type := .long, accessFlags := 26, slot := 0, constantValue := 0 }, { name := "COMPACT_STRINGS", type := .boolean, accessFlags := 24, slot := 1, constantValue := 0 }, { name := "serialPersistentFields", type := (.array (.object "java/io/ObjectStreamField")), accessFlags := 26, slot := 2, constantValue := 0 }, { name := "REPL", type := .char, accessFlags := 26, slot := 3, constantValue := 0 }, { name := "CASE_INSENSITIVE_ORDER", type := (.object "java/util/Comparator"), accessFlags := 25, slot := 4, constantValue := 0 }, { name := "LATIN1", type := .byte, accessFlags := 24, slot := 5, constantValue := 0 }, { name := "UTF16", type := .byte, accessFlags := 24, slot := 6, constantValue := 0 }]
  methods := #[k7m0, k7m1, k7m2, k7m3, k7m4, k7m5]
  instanceTypes := #[(.array .byte), .byte, .int, .boolean]
  staticTypes := #[.long, .boolean, (.array (.object "java/io/ObjectStreamField")), .char, (.object "java/util/Comparator"), .byte, .byte]
  resolved := Array.replicate 1451 none
  statics := some 0 }

def pool8 : Array CpInfo := pool [(1, .methodref 2 3), (0, .class_ 4), (0, .nameAndType 5 6), (0, u "java/lang/Object"), (0, u "<init>"), (0, u "()V"), (0, .string 8), (0, u "object"), (0, .methodref 10 11), (0, .class_ 12), (0, .nameAndType 13 14), (0, u "java/util/Objects"), (0, u "requireNonNull"), (0, u "(Ljava/lang/Object;Ljava/lang/String;)Ljava/lang/Object;"), (0, .class_ 16), (0, u "java/lang/String"), (0, .fieldref 18 19), (0, .class_ 20), (0, .nameAndType 8 21), (0, u "com/example/hatoyama/hatoyama/ObjectMethod"), (0, u "Ljava/lang/String;"), (0, .string 23), (0, u "method"), (0, .fieldref 18 25), (0, .nameAndType 23 21), (0, .methodref 15 27), (0, .nameAndType 28 29), (0, u "equals"), (0, u "(Ljava/lang/Object;)Z"), (4, u "(Ljava/lang/String;Ljava/lang/String;)V")] 8

def k8c0 : Code := { maxStack := 3, maxLocals := 3, code := prog_10_method_1_code, exceptionTable := #[], attributes := #[] }
def k8m0 : Method := { name := "<init>", desc := "(Ljava/lang/String;Ljava/lang/String;)V", sig := { parameters := [(.object "java/lang/String"), (.object "java/lang/String")], returnType := none }, accessFlags := 1, code := some k8c0 }
def k8c1 : Code := { maxStack := 2, maxLocals := 2, code := prog_10_method_4_code, exceptionTable := #[], attributes := #[] }
def k8m1 : Method := { name := "equals", desc := "(Ljava/lang/Object;)Z", sig := { parameters := [(.object "java/lang/Object")], returnType := some .boolean }, accessFlags := 1, code := some k8c1 }
/-- com/example/hatoyama/hatoyama/ObjectMethod -/
def k8 : Class := { plain "com/example/hatoyama/hatoyama/ObjectMethod" (some 0) with
  accessFlags := 49
  interfaces := #[]
  cf := some (fileOf pool8 18 #[] #[{ accessFlags := 1, nameIndex := 5, descriptorIndex := 34, attributes := #[] }, { accessFlags := 1, nameIndex := 28, descriptorIndex := 29, attributes := #[] }] 49 2 #[] #[{ accessFlags := 18, nameIndex := 8, descriptorIndex := 21, attributes := #[] }, { accessFlags := 18, nameIndex := 23, descriptorIndex := 21, attributes := #[] }])
  fields := #[{ name := "object", type := (.object "java/lang/String"), accessFlags := 18, slot := 0, constantValue := 0 }, { name := "method", type := (.object "java/lang/String"), accessFlags := 18, slot := 1, constantValue := 0 }]
  methods := #[k8m0, k8m1]
  instanceTypes := #[(.object "java/lang/String"), (.object "java/lang/String")]
  staticTypes := #[]
  resolved := Array.replicate 43 none
  statics := none }

def pool9 : Array CpInfo := pool [(2, .class_ 4), (1, u "java/lang/Object"), (0, u "<init>"), (0, u "()V"), (35, .class_ 44), (1, u "java/util/Objects"), (0, u "requireNonNull"), (48, u "(Ljava/lang/Object;Ljava/lang/String;)Ljava/lang/Object;")] 89

def k9m0 : Method := { name := "<init>", desc := "()V", sig := { parameters := [], returnType := none }, accessFlags := 2, code := none }
def k9c1 : Code := { maxStack := 3, maxLocals := 2, code := jdk_31_method_11_code, exceptionTable := #[], attributes := #[] }
def k9m1 : Method := { name := "requireNonNull", desc := "(Ljava/lang/Object;Ljava/lang/String;)Ljava/lang/Object;", sig := { parameters := [(.object "java/lang/Object"), (.object "java/lang/String")], returnType := some (.object "java/lang/Object") }, accessFlags := 9, code := some k9c1 }
/-- java/util/Objects -/
def k9 : Class := { plain "java/util/Objects" (some 0) with
  accessFlags := 49
  interfaces := #[]
  cf := some (fileOf pool9 42 #[] #[{ accessFlags := 2, nameIndex := 5, descriptorIndex := 6, attributes := #[] }, { accessFlags := 9, nameIndex := 45, descriptorIndex := 94, attributes := #[] }] 49 2 #[] #[])
  fields := #[]
  methods := #[k9m0, k9m1]
  instanceTypes := #[]
  staticTypes := #[]
  resolved := Array.replicate 184 none
  statics := none }

def pool10 : Array CpInfo := pool [(6, .class_ 8), (1, u "java/lang/Object"), (0, u "<init>"), (0, u "()V"), (1, .class_ 14), (1, u "java/lang/StringUTF16"), (31, u "$assertionsDisabled"), (0, u "Z"), (13, u "HI_BYTE_SHIFT"), (0, u "I"), (2, u "LO_BYTE_SHIFT"), (49, .methodref 12 116), (0, .nameAndType 117 118), (0, u "compress"), (0, u "([CI[BII)I"), (3, u "([CII)[B"), (138, u "coderFromArrayLen"), (0, u "([BI)B"), (106, .class_ 371), (1, u "java/lang/StringUTF16$LinesSpliterator"), (58, u "MAX_LENGTH"), (196, .class_ 628), (0, u "java/lang/StringUTF16$CodePointsSpliterator"), (0, .class_ 630), (0, u "java/lang/StringUTF16$CharsSpliterator")] 4

def k10m0 : Method := { name := "<init>", desc := "()V", sig := { parameters := [], returnType := none }, accessFlags := 0, code := none }
def k10c1 : Code := { maxStack := 2, maxLocals := 2, code := jdk_52_method_15_code, exceptionTable := #[], attributes := #[] }
def k10m1 : Method := { name := "coderFromArrayLen", desc := "([BI)B", sig := { parameters := [(.array .byte), .int], returnType := some .byte }, accessFlags := 8, code := some k10c1 }
def k10c2 : Code := { maxStack := 5, maxLocals := 6, code := jdk_52_method_16_code, exceptionTable := #[], attributes := #[] }
def k10m2 : Method := { name := "compress", desc := "([CII)[B", sig := { parameters := [(.array .char), .int, .int], returnType := some (.array .byte) }, accessFlags := 9, code := some k10c2 }
def k10c3 : Code := { maxStack := 3, maxLocals := 7, code := jdk_52_method_21_code, exceptionTable := #[], attributes := #[] }
def k10m3 : Method := { name := "compress", desc := "([CI[BII)I", sig := { parameters := [(.array .char), .int, (.array .byte), .int, .int], returnType := some .int }, accessFlags := 9, code := some k10c3 }
/-- java/lang/StringUTF16 -/
def k10 : Class := { plain "java/lang/StringUTF16" (some 0) with
  accessFlags := 48
  interfaces := #[]
  cf := some (fileOf pool10 12 #[.nestMembers #[627, 629, 369]] #[{ accessFlags := 0, nameIndex := 9, descriptorIndex := 10, attributes := #[] }, { accessFlags := 8, nameIndex := 261, descriptorIndex := 262, attributes := #[] }, { accessFlags := 9, nameIndex := 117, descriptorIndex := 122, attributes := #[] }, { accessFlags := 9, nameIndex := 117, descriptorIndex := 118, attributes := #[] }] 48 6 #[] #[{ accessFlags := 26, nameIndex := 61, descriptorIndex := 62, attributes := #[] }, { accessFlags := 26, nameIndex := 65, descriptorIndex := 62, attributes := #[] }, { accessFlags := 24, nameIndex := 430, descriptorIndex := 62, attributes := #[] }, { accessFlags := 4120, nameIndex := 46, descriptorIndex := 47, attributes := #[] }])
  fields := #[{ name := "HI_BYTE_SHIFT", type := .int, accessFlags := 26, slot := 0, constantValue := 0 }, { name := "LO_BYTE_SHIFT", type := .int, accessFlags := 26, slot := 1, constantValue := 0 }, { name := "MAX_LENGTH", type := .int, accessFlags := 24, slot := 2, constantValue := 0 }, { name := "$assertionsDisabled", type := .boolean, accessFlags := 4120, slot := 3, constantValue := 0 }]
  methods := #[k10m0, k10m1, k10m2, k10m3]
  instanceTypes := #[]
  staticTypes := #[.int, .int, .int, .boolean]
  resolved := Array.replicate 635 none
  statics := none }

def pool11 : Array CpInfo := pool [(4, .class_ 6), (1, u "java/lang/Object"), (0, u "<init>"), (0, u "()V"), (5, .class_ 16), (1, u "java/lang/StringLatin1"), (73, u "canEncode"), (14, u "(C)Z"), (15, u "$assertionsDisabled"), (0, u "Z"), (98, .class_ 223), (1, u "java/lang/StringLatin1$LinesSpliterator"), (57, u "equals"), (0, u "([B[B)Z"), (97, u "toBytes"), (1, u "(C)[B"), (7, .class_ 391), (0, u "java/lang/StringLatin1$CharsSpliterator")] 3

def k11m0 : Method := { name := "<init>", desc := "()V", sig := { parameters := [], returnType := none }, accessFlags := 0, code := none }
def k11c1 : Code := { maxStack := 2, maxLocals := 1, code := jdk_43_method_3_code, exceptionTable := #[], attributes := #[] }
def k11m1 : Method := { name := "canEncode", desc := "(C)Z", sig := { parameters := [.char], returnType := some .boolean }, accessFlags := 9, code := some k11c1 }
def k11c2 : Code := { maxStack := 3, maxLocals := 3, code := jdk_43_method_13_code, exceptionTable := #[], attributes := #[] }
def k11m2 : Method := { name := "equals", desc := "([B[B)Z", sig := { parameters := [(.array .byte), (.array .byte)], returnType := some .boolean }, accessFlags := 9, code := some k11c2 }
def k11c3 : Code := { maxStack := 4, maxLocals := 1, code := jdk_43_method_46_code, exceptionTable := #[], attributes := #[] }
def k11m3 : Method := { name := "toBytes", desc := "(C)[B", sig := { parameters := [.char], returnType := some (.array .byte) }, accessFlags := 9, code := some k11c3 }
/-- java/lang/StringLatin1 -/
def k11 : Class := { plain "java/lang/StringLatin1" (some 0) with
  accessFlags := 48
  interfaces := #[]
  cf := some (fileOf pool11 14 #[.nestMembers #[390, 221]] #[{ accessFlags := 0, nameIndex := 7, descriptorIndex := 8, attributes := #[] }, { accessFlags := 9, nameIndex := 90, descriptorIndex := 105, attributes := #[] }, { accessFlags := 9, nameIndex := 281, descriptorIndex := 282, attributes := #[] }, { accessFlags := 9, nameIndex := 380, descriptorIndex := 382, attributes := #[] }] 48 4 #[] #[{ accessFlags := 4120, nameIndex := 121, descriptorIndex := 122, attributes := #[] }])
  fields := #[{ name := "$assertionsDisabled", type := .boolean, accessFlags := 4120, slot := 0, constantValue := 0 }]
  methods := #[k11m0, k11m1, k11m2, k11m3]
  instanceTypes := #[]
  staticTypes := #[.boolean]
  resolved := Array.replicate 395 none
  statics := none }

def pool12 : Array CpInfo := pool [(2, .class_ 4), (1, u "java/lang/Object"), (0, u "<init>"), (0, u "()V"), (17, .class_ 26), (1, u "jdk/internal/util/Preconditions"), (28, .class_ 56), (0, u "jdk/internal/util/Preconditions$4"), (57, .class_ 115), (0, u "jdk/internal/util/Preconditions$1"), (7, u "SIOOBE_FORMATTER"), (0, u "Ljava/util/function/BiFunction;"), (0, .class_ 126), (0, u "jdk/internal/util/Preconditions$2"), (3, u "AIOOBE_FORMATTER"), (0, .class_ 132), (0, u "jdk/internal/util/Preconditions$3"), (3, u "IOOBE_FORMATTER")] 57

def k12m0 : Method := { name := "<init>", desc := "()V", sig := { parameters := [], returnType := none }, accessFlags := 1, code := none }
/-- jdk/internal/util/Preconditions -/
def k12 : Class := { plain "jdk/internal/util/Preconditions" (some 0) with
  accessFlags := 33
  interfaces := #[]
  cf := some (fileOf pool12 24 #[.nestMembers #[55, 131, 125, 114]] #[{ accessFlags := 1, nameIndex := 5, descriptorIndex := 6, attributes := #[] }] 33 2 #[] #[{ accessFlags := 25, nameIndex := 123, descriptorIndex := 124, attributes := #[] }, { accessFlags := 25, nameIndex := 130, descriptorIndex := 124, attributes := #[] }, { accessFlags := 25, nameIndex := 136, descriptorIndex := 124, attributes := #[] }])
  fields := #[{ name := "SIOOBE_FORMATTER", type := (.object "java/util/function/BiFunction"), accessFlags := 25, slot := 0, constantValue := 0 }, { name := "AIOOBE_FORMATTER", type := (.object "java/util/function/BiFunction"), accessFlags := 25, slot := 1, constantValue := 0 }, { name := "IOOBE_FORMATTER", type := (.object "java/util/function/BiFunction"), accessFlags := 25, slot := 2, constantValue := 0 }]
  methods := #[k12m0]
  instanceTypes := #[]
  staticTypes := #[(.object "java/util/function/BiFunction"), (.object "java/util/function/BiFunction"), (.object "java/util/function/BiFunction")]
  resolved := Array.replicate 194 none
  statics := some 1 }

def pool13 : Array CpInfo := pool [(9, u "<init>"), (6, .class_ 18), (1, u "java/lang/Object"), (0, u "()V"), (1, .class_ 23), (1, u "jdk/internal/util/ArraysSupport"), (0, u "LOG2_ARRAY_LONG_INDEX_SCALE"), (0, u "I"), (2, u "U"), (0, u "Ljdk/internal/misc/Unsafe;"), (8, u "BIG_ENDIAN"), (0, u "Z"), (8, u "LOG2_BYTE_BIT_SIZE"), (4, u "LOG2_ARRAY_INT_INDEX_SCALE"), (54, u "JLA"), (0, u "Ljdk/internal/access/JavaLangAccess;"), (11, u "LOG2_ARRAY_BOOLEAN_INDEX_SCALE"), (9, u "LOG2_ARRAY_BYTE_INDEX_SCALE"), (5, u "LOG2_ARRAY_CHAR_INDEX_SCALE"), (5, u "LOG2_ARRAY_SHORT_INDEX_SCALE"), (18, u "LOG2_ARRAY_FLOAT_INDEX_SCALE"), (24, u "LOG2_ARRAY_DOUBLE_INDEX_SCALE"), (89, u "T_BOOLEAN"), (2, u "T_CHAR"), (1, u "T_FLOAT"), (1, u "T_DOUBLE"), (1, u "T_BYTE"), (1, u "T_SHORT"), (1, u "T_INT"), (1, u "T_LONG"), (1, u "SOFT_MAX_ARRAY_LENGTH")] 83

def k13m0 : Method := { name := "<init>", desc := "()V", sig := { parameters := [], returnType := none }, accessFlags := 2, code := none }
/-- jdk/internal/util/ArraysSupport -/
def k13 : Class := { plain "jdk/internal/util/ArraysSupport" (some 0) with
  accessFlags := 33
  interfaces := #[]
  cf := some (fileOf pool13 21 #[] #[{ accessFlags := 2, nameIndex := 9, descriptorIndex := 19, attributes := #[] }] 33 16 #[] #[{ accessFlags := 24, nameIndex := 28, descriptorIndex := 29, attributes := #[] }, { accessFlags := 26, nameIndex := 38, descriptorIndex := 39, attributes := #[] }, { accessFlags := 25, nameIndex := 121, descriptorIndex := 25, attributes := #[] }, { accessFlags := 25, nameIndex := 131, descriptorIndex := 25, attributes := #[] }, { accessFlags := 25, nameIndex := 137, descriptorIndex := 25, attributes := #[] }, { accessFlags := 25, nameIndex := 143, descriptorIndex := 25, attributes := #[] }, { accessFlags := 25, nameIndex := 53, descriptorIndex := 25, attributes := #[] }, { accessFlags := 25, nameIndex := 24, descriptorIndex := 25, attributes := #[] }, { accessFlags := 25, nameIndex := 162, descriptorIndex := 25, attributes := #[] }, { accessFlags := 25, nameIndex := 187, descriptorIndex := 25, attributes := #[] }, { accessFlags := 26, nameIndex := 48, descriptorIndex := 25, attributes := #[] }, { accessFlags := 25, nameIndex := 277, descriptorIndex := 25, attributes := #[] }, { accessFlags := 25, nameIndex := 280, descriptorIndex := 25, attributes := #[] }, { accessFlags := 25, nameIndex := 282, descriptorIndex := 25, attributes := #[] }, { accessFlags := 25, nameIndex := 284, descriptorIndex := 25, attributes := #[] }, { accessFlags := 25, nameIndex := 286, descriptorIndex := 25, attributes := #[] }, { accessFlags := 25, nameIndex := 288, descriptorIndex := 25, attributes := #[] }, { accessFlags := 25, nameIndex := 290, descriptorIndex := 25, attributes := #[] }, { accessFlags := 25, nameIndex := 292, descriptorIndex := 25, attributes := #[] }, { accessFlags := 26, nameIndex := 108, descriptorIndex := 109, attributes := #[] }, { accessFlags := 25, nameIndex := 294, descriptorIndex := 25, attributes := #[] }])
  fields := #[{ name := "U", type := (.object "jdk/internal/misc/Unsafe"), accessFlags := 24, slot := 0, constantValue := 0 }, { name := "BIG_ENDIAN", type := .boolean, accessFlags := 26, slot := 1, constantValue := 0 }, { name := "LOG2_ARRAY_BOOLEAN_INDEX_SCALE", type := .int, accessFlags := 25, slot := 2, constantValue := 0 }, { name := "LOG2_ARRAY_BYTE_INDEX_SCALE", type := .int, accessFlags := 25, slot := 3, constantValue := 0 }, { name := "LOG2_ARRAY_CHAR_INDEX_SCALE", type := .int, accessFlags := 25, slot := 4, constantValue := 0 }, { name := "LOG2_ARRAY_SHORT_INDEX_SCALE", type := .int, accessFlags := 25, slot := 5, constantValue := 0 }, { name := "LOG2_ARRAY_INT_INDEX_SCALE", type := .int, accessFlags := 25, slot := 6, constantValue := 0 }, { name := "LOG2_ARRAY_LONG_INDEX_SCALE", type := .int, accessFlags := 25, slot := 7, constantValue := 0 }, { name := "LOG2_ARRAY_FLOAT_INDEX_SCALE", type := .int, accessFlags := 25, slot := 8, constantValue := 0 }, { name := "LOG2_ARRAY_DOUBLE_INDEX_SCALE", type := .int, accessFlags := 25, slot := 9, constantValue := 0 }, { name := "LOG2_BYTE_BIT_SIZE", type := .int, accessFlags := 26, slot := 10, constantValue := 0 }, { name := "T_BOOLEAN", type := .int, accessFlags := 25, slot := 11, constantValue := 0 }, { name := "T_CHAR", type := .int, accessFlags := 25, slot := 12, constantValue := 0 }, { name := "T_FLOAT", type := .int, accessFlags := 25, slot := 13, constantValue := 0 }, { name := "T_DOUBLE", type := .int, accessFlags := 25, slot := 14, constantValue := 0 }, { name := "T_BYTE", type := .int, accessFlags := 25, slot := 15, constantValue := 0 }, { name := "T_SHORT", type := .int, accessFlags := 25, slot := 16, constantValue := 0 }, { name := "T_INT", type := .int, accessFlags := 25, slot := 17, constantValue := 0 }, { name := "T_LONG", type := .int, accessFlags := 25, slot := 18, constantValue := 0 }, { name := "JLA", type := (.object "jdk/internal/access/JavaLangAccess"), accessFlags := 26, slot := 19, constantValue := 0 }, { name := "SOFT_MAX_ARRAY_LENGTH", type := .int, accessFlags := 25, slot := 20, constantValue := 0 }]
  methods := #[k13m0]
  instanceTypes := #[]
  staticTypes := #[(.object "jdk/internal/misc/Unsafe"), .boolean, .int, .int, .int, .int, .int, .int, .int, .int, .int, .int, .int, .int, .int, .int, .int, .int, .int, (.object "jdk/internal/access/JavaLangAccess"), .int]
  resolved := Array.replicate 378 none
  statics := none }

def pool14 : Array CpInfo := pool [(1, u "java/lang/Cloneable"), (0, .class_ 1), (0, u "java/lang/Object"), (0, .class_ 3)] 3

/-- java/lang/Cloneable -/
def k14 : Class := { plain "java/lang/Cloneable" (some 0) with
  accessFlags := 1537
  interfaces := #[]
  cf := some (fileOf pool14 2 #[] #[] 1537 4 #[] #[])
  fields := #[]
  methods := #[]
  instanceTypes := #[]
  staticTypes := #[]
  resolved := Array.replicate 8 none
  statics := none }

/-- the primitive byte -/
def k15 : Class := { plain "byte" none with kind := .primitive 'B', accessFlags := 0x411 }
/-- [B -/
def k16 : Class := { plain "[B" (some 0) with kind := .array 15 .byte, interfaces := #[14, 2], accessFlags := 1041 }

/-- the primitive char -/
def k17 : Class := { plain "char" none with kind := .primitive 'C', accessFlags := 0x411 }
/-- [C -/
def k18 : Class := { plain "[C" (some 0) with kind := .array 17 .char, interfaces := #[14, 2], accessFlags := 1041 }

/-- the primitive int -/
def k19 : Class := { plain "int" none with kind := .primitive 'I', accessFlags := 0x411 }
/-- [I -/
def k20 : Class := { plain "[I" (some 0) with kind := .array 19 .int, interfaces := #[14, 2], accessFlags := 1041 }

def heap : Heap := #[{ cls := 7, slots := #[.long 0, .int 1, .null, .int 0, .null, .int 0, .int 0], vm := .statics 7 },
  { cls := 12, slots := #[.null, .null, .null], vm := .statics 12 }]
def classes : Array Class := #[k0, k1, k2, k3, k4, k5, k6, k7, k8, k9, k10, k11, k12, k13, k14, k15, k16, k17, k18, k19, k20]
def interned : List (Array UInt16 × Addr) := []
def slotsUsed : Nat := 10
def theMethod : MethodId := ⟨1, 5⟩
def args0 : Array Value := #[.int 5, .int 5, .int 5, .int 5, .int 5]
def aboutOver (below : List Frame) : State where
  vm := { classes := classes, interned := interned.toArray }
  heap := heap
  slotsUsed := slotsUsed
  threads := #[{ frames := .invoking theMethod args0 :: below }]
def below0 : List Frame := [.native { method := ⟨0, 0⟩, args := #[] }]
def about1 : State := aboutOver below0
def p0 : Program := .bare "" "" ""
def e0 : Env := launch0.env 0 0 0
theorem w_frames : about1.frames = Frame.invoking theMethod args0 :: below0 := rfl
set_option maxRecDepth 65536 in
theorem w_args : argsFit about1.vm theMethod args0 = true := by decide +kernel
set_option maxRecDepth 65536 in
theorem w_heap : heapFits about1 = true := by decide +kernel
set_option maxRecDepth 65536 in
theorem w_runnable : about1.curStatus? = some .runnable := by decide +kernel
set_option maxRecDepth 65536 in
theorem w_alone : about1.alone = true := by decide +kernel
set_option maxRecDepth 65536 in
theorem w_named : about1.methodNamed? x = some theMethod := by decide +kernel
set_option maxRecDepth 65536 in
theorem w_hears : about1.hears theMethod below0 = true := by decide +kernel
set_option maxRecDepth 65536 in
theorem w_ripe : about1.ripe theMethod args0 below0 = true := by decide +kernel
theorem w_running : about1.status = .running := rfl
set_option maxRecDepth 65536 in
theorem w_room : about1.hasRoom e0.platform room_1 = true :=
  launch0.hasRoom_least _ room_1 (by decide +kernel) (by decide +kernel) (by decide +kernel) (by decide +kernel) (by decide +kernel) (by decide +kernel)
theorem allAtoms_all (ts : List Jvm.Cond) (a : Array Jvm.Value) (st : Jvm.State) : (allAtoms ts).before a st = ts.all (fun c => c.before a st) := by
  induction ts with
  | nil => rfl
  | cons c t ih =>
    show (Jvm.Cond.and c (allAtoms t)).before a st = _
    rw [Jvm.Cond.before_and, ih, List.all_cons]
def words1 : List Jvm.Cond := Jvm.Cond.code x code maxLocals ret :: tables_1
/-- a 'code' word, met by the world's own term for the bytes: nothing is compared byte by byte -/
theorem code_word {y : MethodName} {bytes : ByteArray} {mx : Nat} {rt : Option FieldType} {a : Array Value} {s : State} {m : MethodId} {meth : Method} {c : Code} (h1 : s.methodNamed? y = some m) (h2 : s.vm.method? m = some meth) (h3 : meth.code = some c) (h4 : c.code = bytes)
    (h5 : (c.maxLocals == mx && c.exceptionTable.isEmpty && decide (c.maxStack ≤ mostOperands) && decide (meth.sig.returnType = rt) && !meth.locks && decide (parseMethodDescriptor y.desc = some meth.sig)) = true) : (Jvm.Cond.code y bytes mx rt).before a s = true := by
  simp only [Bool.and_eq_true, beq_iff_eq, Bool.not_eq_true', decide_eq_true_eq] at h5
  obtain ⟨⟨⟨⟨⟨g1, g2⟩, g3⟩, g4⟩, g5⟩, g6⟩ := h5
  simp [Cond.before, Cond.holds, Cond.value, h1, h2, h3, h4, g1, g2, g3, g4, g5, g6]
def isCode : Jvm.Cond → Bool
  | .code _ _ _ _ => true
  | _ => false
theorem all_split {L : List Jvm.Cond} {P : Jvm.Cond → Bool} (h1 : L.all (fun c => isCode c || P c) = true) (h2 : ∀ c ∈ L.filter isCode, P c = true) : L.all P = true := by
  refine List.all_eq_true.mpr fun c hc => ?_
  have h := List.all_eq_true.mp h1 c hc
  rcases Bool.eq_false_or_eq_true (isCode c) with hi | hi
  · exact h2 c (List.mem_filter.mpr ⟨hc, hi⟩)
  · simpa [hi] using h
set_option maxRecDepth 65536 in
theorem w_c0 : (Jvm.Cond.code x code maxLocals ret).before args0 about1 = true := code_word (m := ⟨1, 5⟩) (meth := k1m5) (c := k1c5) (by decide +kernel) rfl rfl rfl (by decide +kernel)
set_option maxRecDepth 65536 in
theorem w_c1 : (Jvm.Cond.code ({ cls := "com/example/hatoyama/hatoyama/ObjectMethodEqualsPinLaw", name := "len", desc := "(I)I" } : Jvm.MethodName) method_2_code (1 : Nat) (Option.some Jvm.ClassFile.FieldType.int)).before args0 about1 = true := code_word (m := ⟨1, 1⟩) (meth := k1m1) (c := k1c1) (by decide +kernel) rfl rfl rfl (by decide +kernel)
set_option maxRecDepth 65536 in
theorem w_c2 : (Jvm.Cond.code ({ cls := "com/example/hatoyama/hatoyama/ObjectMethodEqualsPinLaw", name := "ch", desc := "(II)C" } : Jvm.MethodName) method_3_code (2 : Nat) (Option.some Jvm.ClassFile.FieldType.char)).before args0 about1 = true := code_word (m := ⟨1, 2⟩) (meth := k1m2) (c := k1c2) (by decide +kernel) rfl rfl rfl (by decide +kernel)
set_option maxRecDepth 65536 in
theorem w_c3 : (Jvm.Cond.code ({ cls := "com/example/hatoyama/hatoyama/ObjectMethodEqualsPinLaw", name := "mk", desc := "(ICC)Ljava/lang/String;" } : Jvm.MethodName) method_4_code (4 : Nat) (Option.some (Jvm.ClassFile.FieldType.object "java/lang/String"))).before args0 about1 = true := code_word (m := ⟨1, 3⟩) (meth := k1m3) (c := k1c3) (by decide +kernel) rfl rfl rfl (by decide +kernel)
set_option maxRecDepth 65536 in
theorem w_c4 : (Jvm.Cond.code ({ cls := "com/example/hatoyama/hatoyama/ObjectMethod", name := "<init>", desc := "(Ljava/lang/String;Ljava/lang/String;)V" } : Jvm.MethodName) prog_10_method_1_code (3 : Nat) (Option.none : Option Jvm.ClassFile.FieldType)).before args0 about1 = true := code_word (m := ⟨8, 0⟩) (meth := k8m0) (c := k8c0) (by decide +kernel) rfl rfl rfl (by decide +kernel)
set_option maxRecDepth 65536 in
theorem w_c5 : (Jvm.Cond.code ({ cls := "java/lang/Object", name := "<init>", desc := "()V" } : Jvm.MethodName) object_method_1_code (1 : Nat) (Option.none : Option Jvm.ClassFile.FieldType)).before args0 about1 = true := code_word (m := ⟨0, 0⟩) (meth := k0m0) (c := k0c0) (by decide +kernel) rfl rfl rfl (by decide +kernel)
set_option maxRecDepth 65536 in
theorem w_c6 : (Jvm.Cond.code ({ cls := "java/util/Objects", name := "requireNonNull", desc := "(Ljava/lang/Object;Ljava/lang/String;)Ljava/lang/Object;" } : Jvm.MethodName) jdk_31_method_11_code (2 : Nat) (Option.some (Jvm.ClassFile.FieldType.object "java/lang/Object"))).before args0 about1 = true := code_word (m := ⟨9, 1⟩) (meth := k9m1) (c := k9c1) (by decide +kernel) rfl rfl rfl (by decide +kernel)
set_option maxRecDepth 65536 in
theorem w_c7 : (Jvm.Cond.code ({ cls := "com/example/hatoyama/hatoyama/ObjectMethodEqualsPinLaw", name := "same", desc := "(ICCICC)Z" } : Jvm.MethodName) method_5_code (6 : Nat) (Option.some Jvm.ClassFile.FieldType.boolean)).before args0 about1 = true := code_word (m := ⟨1, 4⟩) (meth := k1m4) (c := k1c4) (by decide +kernel) rfl rfl rfl (by decide +kernel)
set_option maxRecDepth 65536 in
theorem w_c8 : (Jvm.Cond.code ({ cls := "com/example/hatoyama/hatoyama/ObjectMethod", name := "equals", desc := "(Ljava/lang/Object;)Z" } : Jvm.MethodName) prog_10_method_4_code (2 : Nat) (Option.some Jvm.ClassFile.FieldType.boolean)).before args0 about1 = true := code_word (m := ⟨8, 1⟩) (meth := k8m1) (c := k8c1) (by decide +kernel) rfl rfl rfl (by decide +kernel)
set_option maxRecDepth 65536 in
theorem w_c9 : (Jvm.Cond.code ({ cls := "java/lang/String", name := "equals", desc := "(Ljava/lang/Object;)Z" } : Jvm.MethodName) jdk_42_method_66_code (3 : Nat) (Option.some Jvm.ClassFile.FieldType.boolean)).before args0 about1 = true := code_word (m := ⟨7, 2⟩) (meth := k7m2) (c := k7c2) (by decide +kernel) rfl rfl rfl (by decide +kernel)
set_option maxRecDepth 65536 in
theorem w_c10 : (Jvm.Cond.code ({ cls := "java/lang/String", name := "<init>", desc := "([C)V" } : Jvm.MethodName) jdk_42_method_3_code (2 : Nat) (Option.none : Option Jvm.ClassFile.FieldType)).before args0 about1 = true := code_word (m := ⟨7, 1⟩) (meth := k7m1) (c := k7c1) (by decide +kernel) rfl rfl rfl (by decide +kernel)
set_option maxRecDepth 65536 in
theorem w_c11 : (Jvm.Cond.code ({ cls := "java/lang/String", name := "<init>", desc := "([CIILjava/lang/Void;)V" } : Jvm.MethodName) jdk_42_method_149_code (6 : Nat) (Option.none : Option Jvm.ClassFile.FieldType)).before args0 about1 = true := code_word (m := ⟨7, 4⟩) (meth := k7m4) (c := k7c4) (by decide +kernel) rfl rfl rfl (by decide +kernel)
set_option maxRecDepth 65536 in
theorem w_c12 : (Jvm.Cond.code ({ cls := "java/lang/StringUTF16", name := "compress", desc := "([CII)[B" } : Jvm.MethodName) jdk_52_method_16_code (6 : Nat) (Option.some (Jvm.ClassFile.FieldType.array Jvm.ClassFile.FieldType.byte))).before args0 about1 = true := code_word (m := ⟨10, 2⟩) (meth := k10m2) (c := k10c2) (by decide +kernel) rfl rfl rfl (by decide +kernel)
set_option maxRecDepth 65536 in
theorem w_c13 : (Jvm.Cond.code ({ cls := "java/lang/StringUTF16", name := "compress", desc := "([CI[BII)I" } : Jvm.MethodName) jdk_52_method_21_code (7 : Nat) (Option.some Jvm.ClassFile.FieldType.int)).before args0 about1 = true := code_word (m := ⟨10, 3⟩) (meth := k10m3) (c := k10c3) (by decide +kernel) rfl rfl rfl (by decide +kernel)
set_option maxRecDepth 65536 in
theorem w_c14 : (Jvm.Cond.code ({ cls := "java/lang/StringUTF16", name := "coderFromArrayLen", desc := "([BI)B" } : Jvm.MethodName) jdk_52_method_15_code (2 : Nat) (Option.some Jvm.ClassFile.FieldType.byte)).before args0 about1 = true := code_word (m := ⟨10, 1⟩) (meth := k10m1) (c := k10c1) (by decide +kernel) rfl rfl rfl (by decide +kernel)
set_option maxRecDepth 65536 in
theorem w_c15 : (Jvm.Cond.code ({ cls := "java/lang/String", name := "valueOf", desc := "(C)Ljava/lang/String;" } : Jvm.MethodName) jdk_42_method_139_code (1 : Nat) (Option.some (Jvm.ClassFile.FieldType.object "java/lang/String"))).before args0 about1 = true := code_word (m := ⟨7, 3⟩) (meth := k7m3) (c := k7c3) (by decide +kernel) rfl rfl rfl (by decide +kernel)
set_option maxRecDepth 65536 in
theorem w_c16 : (Jvm.Cond.code ({ cls := "java/lang/StringLatin1", name := "canEncode", desc := "(C)Z" } : Jvm.MethodName) jdk_43_method_3_code (1 : Nat) (Option.some Jvm.ClassFile.FieldType.boolean)).before args0 about1 = true := code_word (m := ⟨11, 1⟩) (meth := k11m1) (c := k11c1) (by decide +kernel) rfl rfl rfl (by decide +kernel)
set_option maxRecDepth 65536 in
theorem w_c17 : (Jvm.Cond.code ({ cls := "java/lang/StringLatin1", name := "toBytes", desc := "(C)[B" } : Jvm.MethodName) jdk_43_method_46_code (1 : Nat) (Option.some (Jvm.ClassFile.FieldType.array Jvm.ClassFile.FieldType.byte))).before args0 about1 = true := code_word (m := ⟨11, 3⟩) (meth := k11m3) (c := k11c3) (by decide +kernel) rfl rfl rfl (by decide +kernel)
set_option maxRecDepth 65536 in
theorem w_c18 : (Jvm.Cond.code ({ cls := "java/lang/String", name := "<init>", desc := "([BB)V" } : Jvm.MethodName) jdk_42_method_151_code (3 : Nat) (Option.none : Option Jvm.ClassFile.FieldType)).before args0 about1 = true := code_word (m := ⟨7, 5⟩) (meth := k7m5) (c := k7c5) (by decide +kernel) rfl rfl rfl (by decide +kernel)
set_option maxRecDepth 65536 in
theorem w_c19 : (Jvm.Cond.code ({ cls := "java/lang/StringLatin1", name := "equals", desc := "([B[B)Z" } : Jvm.MethodName) jdk_43_method_13_code (3 : Nat) (Option.some Jvm.ClassFile.FieldType.boolean)).before args0 about1 = true := code_word (m := ⟨11, 2⟩) (meth := k11m2) (c := k11c2) (by decide +kernel) rfl rfl rfl (by decide +kernel)
def codes1 : List Jvm.Cond := [Jvm.Cond.code x code maxLocals ret, Jvm.Cond.code ({ cls := "com/example/hatoyama/hatoyama/ObjectMethodEqualsPinLaw", name := "len", desc := "(I)I" } : Jvm.MethodName) method_2_code (1 : Nat) (Option.some Jvm.ClassFile.FieldType.int), Jvm.Cond.code ({ cls := "com/example/hatoyama/hatoyama/ObjectMethodEqualsPinLaw", name := "ch", desc := "(II)C" } : Jvm.MethodName) method_3_code (2 : Nat) (Option.some Jvm.ClassFile.FieldType.char), Jvm.Cond.code ({ cls := "com/example/hatoyama/hatoyama/ObjectMethodEqualsPinLaw", name := "mk", desc := "(ICC)Ljava/lang/String;" } : Jvm.MethodName) method_4_code (4 : Nat) (Option.some (Jvm.ClassFile.FieldType.object "java/lang/String")), Jvm.Cond.code ({ cls := "com/example/hatoyama/hatoyama/ObjectMethod", name := "<init>", desc := "(Ljava/lang/String;Ljava/lang/String;)V" } : Jvm.MethodName) prog_10_method_1_code (3 : Nat) (Option.none : Option Jvm.ClassFile.FieldType), Jvm.Cond.code ({ cls := "java/lang/Object", name := "<init>", desc := "()V" } : Jvm.MethodName) object_method_1_code (1 : Nat) (Option.none : Option Jvm.ClassFile.FieldType), Jvm.Cond.code ({ cls := "java/util/Objects", name := "requireNonNull", desc := "(Ljava/lang/Object;Ljava/lang/String;)Ljava/lang/Object;" } : Jvm.MethodName) jdk_31_method_11_code (2 : Nat) (Option.some (Jvm.ClassFile.FieldType.object "java/lang/Object")), Jvm.Cond.code ({ cls := "com/example/hatoyama/hatoyama/ObjectMethodEqualsPinLaw", name := "same", desc := "(ICCICC)Z" } : Jvm.MethodName) method_5_code (6 : Nat) (Option.some Jvm.ClassFile.FieldType.boolean), Jvm.Cond.code ({ cls := "com/example/hatoyama/hatoyama/ObjectMethod", name := "equals", desc := "(Ljava/lang/Object;)Z" } : Jvm.MethodName) prog_10_method_4_code (2 : Nat) (Option.some Jvm.ClassFile.FieldType.boolean), Jvm.Cond.code ({ cls := "java/lang/String", name := "equals", desc := "(Ljava/lang/Object;)Z" } : Jvm.MethodName) jdk_42_method_66_code (3 : Nat) (Option.some Jvm.ClassFile.FieldType.boolean), Jvm.Cond.code ({ cls := "java/lang/String", name := "<init>", desc := "([C)V" } : Jvm.MethodName) jdk_42_method_3_code (2 : Nat) (Option.none : Option Jvm.ClassFile.FieldType), Jvm.Cond.code ({ cls := "java/lang/String", name := "<init>", desc := "([CIILjava/lang/Void;)V" } : Jvm.MethodName) jdk_42_method_149_code (6 : Nat) (Option.none : Option Jvm.ClassFile.FieldType), Jvm.Cond.code ({ cls := "java/lang/StringUTF16", name := "compress", desc := "([CII)[B" } : Jvm.MethodName) jdk_52_method_16_code (6 : Nat) (Option.some (Jvm.ClassFile.FieldType.array Jvm.ClassFile.FieldType.byte)), Jvm.Cond.code ({ cls := "java/lang/StringUTF16", name := "compress", desc := "([CI[BII)I" } : Jvm.MethodName) jdk_52_method_21_code (7 : Nat) (Option.some Jvm.ClassFile.FieldType.int), Jvm.Cond.code ({ cls := "java/lang/StringUTF16", name := "coderFromArrayLen", desc := "([BI)B" } : Jvm.MethodName) jdk_52_method_15_code (2 : Nat) (Option.some Jvm.ClassFile.FieldType.byte), Jvm.Cond.code ({ cls := "java/lang/String", name := "valueOf", desc := "(C)Ljava/lang/String;" } : Jvm.MethodName) jdk_42_method_139_code (1 : Nat) (Option.some (Jvm.ClassFile.FieldType.object "java/lang/String")), Jvm.Cond.code ({ cls := "java/lang/StringLatin1", name := "canEncode", desc := "(C)Z" } : Jvm.MethodName) jdk_43_method_3_code (1 : Nat) (Option.some Jvm.ClassFile.FieldType.boolean), Jvm.Cond.code ({ cls := "java/lang/StringLatin1", name := "toBytes", desc := "(C)[B" } : Jvm.MethodName) jdk_43_method_46_code (1 : Nat) (Option.some (Jvm.ClassFile.FieldType.array Jvm.ClassFile.FieldType.byte)), Jvm.Cond.code ({ cls := "java/lang/String", name := "<init>", desc := "([BB)V" } : Jvm.MethodName) jdk_42_method_151_code (3 : Nat) (Option.none : Option Jvm.ClassFile.FieldType), Jvm.Cond.code ({ cls := "java/lang/StringLatin1", name := "equals", desc := "([B[B)Z" } : Jvm.MethodName) jdk_43_method_13_code (3 : Nat) (Option.some Jvm.ClassFile.FieldType.boolean)]
set_option maxRecDepth 65536 in
theorem codes_eq : words1.filter isCode = codes1 := rfl
theorem w_codes : ∀ c ∈ words1.filter isCode, c.before args0 about1 = true := by
  rw [codes_eq]
  intro c hc
  simp only [codes1, List.mem_cons, List.not_mem_nil, or_false] at hc
  rcases hc with rfl | rfl | rfl | rfl | rfl | rfl | rfl | rfl | rfl | rfl | rfl | rfl | rfl | rfl | rfl | rfl | rfl | rfl | rfl | rfl
  · exact w_c0
  · exact w_c1
  · exact w_c2
  · exact w_c3
  · exact w_c4
  · exact w_c5
  · exact w_c6
  · exact w_c7
  · exact w_c8
  · exact w_c9
  · exact w_c10
  · exact w_c11
  · exact w_c12
  · exact w_c13
  · exact w_c14
  · exact w_c15
  · exact w_c16
  · exact w_c17
  · exact w_c18
  · exact w_c19
set_option maxRecDepth 65536 in
theorem w_t1 : (words1.take 24).all (fun c => isCode c || c.before args0 about1) = true := by decide +kernel
set_option maxRecDepth 65536 in
theorem w_t2 : ((words1.drop 24).take 24).all (fun c => isCode c || c.before args0 about1) = true := by decide +kernel
set_option maxRecDepth 65536 in
theorem w_t3 : (((words1.drop 24).drop 24).take 24).all (fun c => isCode c || c.before args0 about1) = true := by decide +kernel
set_option maxRecDepth 65536 in
theorem w_t4 : (((words1.drop 24).drop 24).drop 24).all (fun c => isCode c || c.before args0 about1) = true := by decide +kernel
theorem w_tables : (allAtoms (Jvm.Cond.code x code maxLocals ret :: tables_1)).before args0 about1 = true := by
  rw [allAtoms_all]
  show words1.all (fun c => c.before args0 about1) = true
  refine all_split ?_ w_codes
  rw [← List.take_append_drop 24 words1, List.all_append, w_t1, ← List.take_append_drop 24 (words1.drop 24), List.all_append, w_t2, ← List.take_append_drop 24 ((words1.drop 24).drop 24), List.all_append, w_t3, w_t4]
  rfl
set_option maxRecDepth 65536 in
theorem w_rest : rest_1_c.before args0 about1 = true := by decide +kernel
set_option maxRecDepth 65536 in
theorem w_case : (Jvm.Cond.and given_1 narrow_1).before args0 about1 = true := by decide +kernel
set_option maxRecDepth 65536 in
theorem w_consts : constsHeld consts_1 about1 := Jvm.Lit.constsHeldB_iff.mp (by decide +kernel)
theorem w_applies : (headSpec (Jvm.Cond.code x code maxLocals ret :: tables_1) room_1).applies x e0.platform about1 = true :=
  (Spec.applies_iff w_frames).mpr ⟨w_running, w_runnable, w_alone, w_named, w_hears, w_ripe, w_room, w_tables⟩
theorem atStart : AtStart classFile x code maxLocals ret World_1 tables_1 room_1 Calls_1 rest_1 Pre_1 launch0 p0 e0 about1 theMethod args0 below0 :=
  ⟨lists_1, trivial, launch0.admits_env _ _ _, launch0.least_env, fairChoices_fair.cas, fairChoices_fair.clock, w_frames, w_args, w_heap, w_applies, ⟨w_consts, trivial⟩, w_rest, w_case⟩
end start1
theorem witness_1 : WitnessClaimed_1 := ⟨start1.p0, start1.e0, start1.about1, start1.theMethod, start1.args0, start1.below0, start1.atStart⟩
end Jvm.Pilot.@@N@@
