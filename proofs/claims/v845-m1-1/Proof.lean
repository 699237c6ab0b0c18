import JvmDerived
import JvmDerived.Pilot.@@N@@Statement
import JvmDerived.Pilot.@@N@@Code
set_option linter.unusedVariables false
set_option linter.unusedSimpArgs false
/- laws to paste: Road.backV, Road.eqW, Road.codOf (cut by pick.py; bodies as the Statement names them) -/
namespace Jvm.Pilot.@@N@@
namespace StrChars
open Jvm Sem ClassFile Op Lib Jvm.Stand Jvm.Free.XT Jvm.Free.ALB Jvm.Free.JM Jvm.Free
open Jvm.Lib.Cold (StaticIs)
/-- a char array whose places are chars -/
def Ch (a : Addr) (A : Cell) (U : State) : Prop := Arr .char a A U ∧ Typed .char A
theorem Ch.mv {a : Addr} {A : Cell} {U U' : State} (h : Ch a A U) (hal : U.vm.Alike U'.vm) (hh : U'.heap = U.heap) : Ch a A U' := ⟨h.1.mv hal hh, h.2⟩
theorem Ch.keep {a : Addr} {A : Cell} {U U' : State} (h : Ch a A U) (hal : U.vm.Alike U'.vm) (hk : U'.heap[a]? = some A) : Ch a A U' := ⟨h.1.keep hal hk, h.2⟩
/-- what place i of a char[]'s cell holds -/
def cv (A : Cell) (i : Nat) : Int32 := match A.slots[i]? with | some (.int x) => x | _ => 0
theorem Ch.get {a : Addr} {A : Cell} {U : State} (h : Ch a A U) {i : Nat} (hi : i < A.slots.size) : A.slots[i]? = some (.int (cv A i)) := by
  have e := Array.getElem?_eq_getElem hi
  have f := h.2 i _ e
  unfold cv; rw [e]
  generalize A.slots[i] = v at f
  cases v <;> simp [fits] at f ⊢
/-- the byte that i2b leaves of a char -/
def lo8 (x : Int32) : Int32 := x.toInt8.toInt32
theorem fits_lo8 (y : Int32) : fits .byte (.int (lo8 y)) = true := by
  have h1 := y.toInt8.le_toInt
  have h2 := y.toInt8.toInt_lt
  simp only [lo8, fits, Bool.and_eq_true, decide_eq_true_eq, Int32.le_iff_toInt_le, Int8.toInt_toInt32, show (-128 : Int32).toInt = -128 from by decide, show (127 : Int32).toInt = 127 from by decide]
  omega
/-- A' is A but that each place j of lo .. hi - 1 holds f j -/
def Laid (A A' : Cell) (lo hi : Nat) (f : Nat → Value) : Prop := A'.cls = A.cls ∧ A'.vm = A.vm ∧ A'.slots.size = A.slots.size ∧ ∀ i, A'.slots[i]? = if lo ≤ i ∧ i < hi then some (f i) else A.slots[i]?
theorem Laid.zero (A : Cell) (lo : Nat) (f : Nat → Value) : Laid A A lo (lo + 0) f := ⟨rfl, rfl, rfl, fun i => by rw [if_neg (by omega)]⟩
theorem Laid.step {A Ak : Cell} {lo k : Nat} {f : Nat → Value} {v : Value} (h : Laid A Ak lo k f) (hlo : lo ≤ k) (hk : k < Ak.slots.size) (hv : v = f k) : Laid A (Ak.setSlot k v) lo (k + 1) f := by
  refine ⟨h.1, h.2.1, by simpa [Cell.setSlot] using h.2.2.1, fun i => ?_⟩
  by_cases e : k = i
  · subst e; rw [Cell.slots_setSlot_self v hk, if_pos (by omega), hv]
  · rw [Cell.slots_setSlot_ne v e, h.2.2.2 i]
    by_cases q : lo ≤ i ∧ i < k
    · rw [if_pos q, if_pos (by omega)]
    · rw [if_neg q, if_neg (by omega)]
def U16 : String := "java/lang/StringUTF16"
namespace Cmp5
def yN : MethodName := ⟨"java/lang/StringUTF16", "compress", "([CI[BII)I"⟩
abbrev yB : ByteArray := jdk_52_method_21_code
theorem d0 : decode yB 0 = .ok (.iconst 0, 1) := by decide +kernel
theorem d1 : decode yB 1 = .ok (.istore 5, 2) := by decide +kernel
theorem d3 : decode yB 3 = .ok (.iload 5, 2) := by decide +kernel
theorem d5 : decode yB 5 = .ok (.iload 4, 2) := by decide +kernel
theorem d7 : decode yB 7 = .ok (.if_icmp (.ge) 37, 3) := by decide +kernel
theorem d10 : decode yB 10 = .ok (.aload_n 0, 1) := by decide +kernel
theorem d11 : decode yB 11 = .ok (.iload_n 1, 1) := by decide +kernel
theorem d12 : decode yB 12 = .ok (.caload, 1) := by decide +kernel
theorem d13 : decode yB 13 = .ok (.istore 6, 2) := by decide +kernel
theorem d15 : decode yB 15 = .ok (.iload 6, 2) := by decide +kernel
theorem d17 : decode yB 17 = .ok (.sipush 255, 3) := by decide +kernel
theorem d20 : decode yB 20 = .ok (.if_icmp (.le) 6, 3) := by decide +kernel
theorem d26 : decode yB 26 = .ok (.aload_n 2, 1) := by decide +kernel
theorem d27 : decode yB 27 = .ok (.iload_n 3, 1) := by decide +kernel
theorem d28 : decode yB 28 = .ok (.iload 6, 2) := by decide +kernel
theorem d30 : decode yB 30 = .ok (.i2b, 1) := by decide +kernel
theorem d31 : decode yB 31 = .ok (.bastore, 1) := by decide +kernel
theorem d32 : decode yB 32 = .ok (.iinc 1 1, 3) := by decide +kernel
theorem d35 : decode yB 35 = .ok (.iinc 3 1, 3) := by decide +kernel
theorem d38 : decode yB 38 = .ok (.iinc 5 1, 3) := by decide +kernel
theorem d41 : decode yB 41 = .ok (.goto (-38), 3) := by decide +kernel
theorem d44 : decode yB 44 = .ok (.iload 4, 2) := by decide +kernel
theorem d46 : decode yB 46 = .ok (.ireturn, 1) := by decide +kernel
def site : List Cond := []
def tab : Cond := tabOf yN yB 7 (some .int) site
def P (b : Addr) (A : Cell) (d : Addr) (B : Cell) (o q len : Nat) (args : Array Value) (s : State) : Prop := args = #[.ref b, .int (Int32.ofNat o), .ref d, .int (Int32.ofNat q), .int (Int32.ofNat len)] ∧ Ch b A s ∧ Arr .byte d B s ∧ b ≠ d ∧ o + len ≤ A.slots.size ∧ q + len ≤ B.slots.size ∧ ∀ i, i < len → ¬ 255 < cv A (o + i)
def E (b : Addr) (A : Cell) (d : Addr) (B : Cell) (o q len : Nat) (r : Option Value) (s u : State) : Prop := r = some (.int (Int32.ofNat len)) ∧ ∃ B', Put d B' s u ∧ Laid B B' q (q + len) (fun j => Value.int (lo8 (cv A (o + (j - q)))))
/-- no char of the range above 255: len; the places written hold each char's low byte -/
theorem law (l : Launch) (b : Addr) (A : Cell) (d : Addr) (B : Cell) (o q len : Nat) : Law l yN 5 5 0 0 yB 7 (some .int) site (P b A d B o q len) (E b A d B o q len) (copyLocs d q len) 0 0 := by
  refine Law.of_walk (plainFor_of_name (by decide +kernel)) (by decide +kernel) (by decide +kernel) (by decide) (fun _ _ h => by rw [h.1]; rfl) (fun _ U U' hal hh h => ⟨h.1, h.2.1.mv hal hh, h.2.2.1.mv hal hh, h.2.2.2⟩) (fun r U U' V V' h1 hal h2 h => ⟨h.1, h.2.elim fun B' q => ⟨B', q.1.mv h1 h2, q.2⟩⟩) ?_
  intro p e s m args below meth c s₁ X0 hexec hbytes hml hret hlk hnm hown hh0 W hP
  obtain ⟨rfl, hA, hB, hne, l1, l2, hp⟩ := hP
  have c1 : Steps p.tables e below (s₁.setTop (entryFrame m #[.ref b, .int (Int32.ofNat o), .ref d, .int (Int32.ofNat q), .int (Int32.ofNat len)] 7)) (s₁.setTop (mkF m 0 #[.val (.ref b), .val (.int (Int32.ofNat o)), .val (.ref d), .val (.int (Int32.ofNat q)), .val (.int (Int32.ofNat len)), .unset, .unset] [])) := entry rfl
  have hA0 := hA.1.mv X0.warmed.alike hh0
  have hB0 := hB.mv X0.warmed.alike hh0
  have a31 := hA.1.2.2.2
  have c2 : Steps p.tables e below (s₁.setTop (entryFrame m #[.ref b, .int (Int32.ofNat o), .ref d, .int (Int32.ofNat q), .int (Int32.ofNat len)] 7)) (s₁.setTop (mkF m 3 #[.val (.ref b), .val (.int (Int32.ofNat o)), .val (.ref d), .val (.int (Int32.ofNat q)), .val (.int (Int32.ofNat len)), .val (.int 0), .unset] [])) := c1.trans (by
    refine iconstV X0.here hexec rfl 0 (hb hbytes d0) (by decide) ?_
    refine XS.istore X0.here hexec rfl (hb hbytes d1) rfl rfl ?_
    exact Steps.refl _)
  have loop : ∀ (r i : Nat), i + r = len → ∀ (z : Slot), (z = .unset ∨ ∃ w, z = .val w ∧ w.category = 1) → ∀ (Tl : State) (Bk : Cell), Stand p l e { frames := 0, locals := 0, cells := 0, slots := 0 } s m #[.ref b, .int (Int32.ofNat o), .ref d, .int (Int32.ofNat q), .int (Int32.ofNat len)] below meth c Tl ([] ++ copyLocs d q i) 0 0 → Put d Bk s₁ Tl → Laid B Bk q (q + i) (fun j => Value.int (lo8 (cv A (o + (j - q))))) →
      Steps p.tables e below (s₁.setTop (entryFrame m #[.ref b, .int (Int32.ofNat o), .ref d, .int (Int32.ofNat q), .int (Int32.ofNat len)] 7)) (Tl.setTop (mkF m 3 #[.val (.ref b), .val (.int (Int32.ofNat (o + i))), .val (.ref d), .val (.int (Int32.ofNat (q + i))), .val (.int (Int32.ofNat len)), .val (.int (Int32.ofNat i)), z] [])) → ∃ (T' : State) (B' : Cell) (z' : Slot), Stand p l e { frames := 0, locals := 0, cells := 0, slots := 0 } s m #[.ref b, .int (Int32.ofNat o), .ref d, .int (Int32.ofNat q), .int (Int32.ofNat len)] below meth c T' ([] ++ copyLocs d q len) 0 0 ∧ Put d B' s₁ T' ∧ Laid B B' q (q + len) (fun j => Value.int (lo8 (cv A (o + (j - q))))) ∧
      Steps p.tables e below (s₁.setTop (entryFrame m #[.ref b, .int (Int32.ofNat o), .ref d, .int (Int32.ofNat q), .int (Int32.ofNat len)] 7)) (T'.setTop (mkF m 3 #[.val (.ref b), .val (.int (Int32.ofNat (o + len))), .val (.ref d), .val (.int (Int32.ofNat (q + len))), .val (.int (Int32.ofNat len)), .val (.int (Int32.ofNat len)), z'] [])) := by
    intro r
    induction r with
    | zero =>
      intro i hi z hz Tl Bk Xl pl fl cl
      have hil : i = len := by omega
      rw [hil] at Xl fl cl
      exact ⟨Tl, Bk, z, Xl, pl, fl, cl⟩
    | succ r ih =>
      intro i hi z hz Tl Bk Xl pl fl cl
      have all := X0.warmed.alike.symm.trans Xl.warmed.alike
      have hAl := hA0.keep all (pl.other hne hA0.1)
      have hBk := hB0.like all pl.1 fl.1 fl.2.1 fl.2.2.1
      have hlt : q + i < Bk.slots.size := by rw [fl.2.2.1]; omega
      have c3 : Steps p.tables e below (s₁.setTop (entryFrame m #[.ref b, .int (Int32.ofNat o), .ref d, .int (Int32.ofNat q), .int (Int32.ofNat len)] 7)) (Tl.setTop (mkF m 12 #[.val (.ref b), .val (.int (Int32.ofNat (o + i))), .val (.ref d), .val (.int (Int32.ofNat (q + i))), .val (.int (Int32.ofNat len)), .val (.int (Int32.ofNat i)), z] [.int (Int32.ofNat (o + i)), .ref b])) := cl.trans (by
        refine XS.iload Xl.here hexec rfl (hb hbytes d3) rfl ?_
        refine XS.iload Xl.here hexec rfl (hb hbytes d5) rfl ?_
        refine XS.icmpNo Xl.here hexec rfl (hb hbytes d7) rfl (ii_ge_f (lt32 (by omega) (by omega))) ?_
        refine XS.aloadN Xl.here hexec rfl (hb hbytes d10) rfl rfl ?_
        refine XS.iloadN Xl.here hexec rfl (hb hbytes d11) rfl ?_
        exact Steps.refl _)
      have c4 : Steps p.tables e below (s₁.setTop (entryFrame m #[.ref b, .int (Int32.ofNat o), .ref d, .int (Int32.ofNat q), .int (Int32.ofNat len)] 7)) (Tl.setTop (mkF m 13 #[.val (.ref b), .val (.int (Int32.ofNat (o + i))), .val (.ref d), .val (.int (Int32.ofNat (q + i))), .val (.int (Int32.ofNat len)), .val (.int (Int32.ofNat i)), z] [.int (cv A (o + i))])) := c3.trans (by
        refine Xl.aget hexec hAl rfl (hA.get (i := o + i) (by omega)) rfl rfl (hb hbytes d12) ?_
        exact Steps.refl _)
      have c5 : Steps p.tables e below (s₁.setTop (entryFrame m #[.ref b, .int (Int32.ofNat o), .ref d, .int (Int32.ofNat q), .int (Int32.ofNat len)] 7)) (Tl.setTop (mkF m 15 #[.val (.ref b), .val (.int (Int32.ofNat (o + i))), .val (.ref d), .val (.int (Int32.ofNat (q + i))), .val (.int (Int32.ofNat len)), .val (.int (Int32.ofNat i)), .val (.int (cv A (o + i)))] [])) := c4.trans (by
        refine XS.istoreS Xl.here hexec rfl (hb hbytes d13) rfl rfl hz ?_
        exact Steps.refl _)
      have c6 : Steps p.tables e below (s₁.setTop (entryFrame m #[.ref b, .int (Int32.ofNat o), .ref d, .int (Int32.ofNat q), .int (Int32.ofNat len)] 7)) (Tl.setTop (mkF m 31 #[.val (.ref b), .val (.int (Int32.ofNat (o + i))), .val (.ref d), .val (.int (Int32.ofNat (q + i))), .val (.int (Int32.ofNat len)), .val (.int (Int32.ofNat i)), .val (.int (cv A (o + i)))] [.int (lo8 (cv A (o + i))), .int (Int32.ofNat (q + i)), .ref d])) := c5.trans (by
        refine XS.iload Xl.here hexec rfl (hb hbytes d15) rfl ?_
        refine sipushV Xl.here hexec rfl 255 (hb hbytes d17) (by decide) ?_
        refine XS.icmpYes Xl.here hexec rfl (pc0 := 20) rfl (hb hbytes d20) rfl (ii_le_t (hp i (by omega))) (by decide) rfl ?_
        refine XS.aloadN Xl.here hexec rfl (hb hbytes d26) rfl rfl ?_
        refine XS.iloadN Xl.here hexec rfl (hb hbytes d27) rfl ?_
        refine XS.iload Xl.here hexec rfl (hb hbytes d28) rfl ?_
        refine i2b Xl.here hexec rfl (hb hbytes d30) rfl ?_
        exact Steps.refl _)
      obtain ⟨T7, X7, p7, st7⟩ := Xl.aput hexec hBk rfl hlt rfl (fits_lo8 (cv A (o + i))) (g := (mkF m 31 #[.val (.ref b), .val (.int (Int32.ofNat (o + i))), .val (.ref d), .val (.int (Int32.ofNat (q + i))), .val (.int (Int32.ofNat len)), .val (.int (Int32.ofNat i)), .val (.int (cv A (o + i)))] [.int (lo8 (cv A (o + i))), .int (Int32.ofNat (q + i)), .ref d])) rfl (rest := []) rfl (hb hbytes d31)
      have c8 : Steps p.tables e below (s₁.setTop (entryFrame m #[.ref b, .int (Int32.ofNat o), .ref d, .int (Int32.ofNat q), .int (Int32.ofNat len)] 7)) (T7.setTop (mkF m 32 #[.val (.ref b), .val (.int (Int32.ofNat (o + i))), .val (.ref d), .val (.int (Int32.ofNat (q + i))), .val (.int (Int32.ofNat len)), .val (.int (Int32.ofNat i)), .val (.int (cv A (o + i)))] [])) := c6.trans (st7 _ (Steps.refl _))
      have c9 : Steps p.tables e below (s₁.setTop (entryFrame m #[.ref b, .int (Int32.ofNat o), .ref d, .int (Int32.ofNat q), .int (Int32.ofNat len)] 7)) (T7.setTop (mkF m 3 #[.val (.ref b), .val (.int (Int32.ofNat (o + i) + 1)), .val (.ref d), .val (.int (Int32.ofNat (q + i) + 1)), .val (.int (Int32.ofNat len)), .val (.int (Int32.ofNat i + 1)), .val (.int (cv A (o + i)))] [])) := c8.trans (by
        refine iincV X7.here hexec rfl 1 (hb hbytes d32) (by decide) rfl rfl ?_
        refine iincV X7.here hexec rfl 1 (hb hbytes d35) (by decide) rfl rfl ?_
        refine iincV X7.here hexec rfl 1 (hb hbytes d38) (by decide) rfl rfl ?_
        refine XS.goto X7.here hexec rfl (pc0 := 41) rfl (hb hbytes d41) (by decide) rfl ?_
        exact Steps.refl _)
      have c10 : Steps p.tables e below (s₁.setTop (entryFrame m #[.ref b, .int (Int32.ofNat o), .ref d, .int (Int32.ofNat q), .int (Int32.ofNat len)] 7)) (T7.setTop (mkF m 3 #[.val (.ref b), .val (.int (Int32.ofNat (o + (i + 1)))), .val (.ref d), .val (.int (Int32.ofNat (q + (i + 1)))), .val (.int (Int32.ofNat len)), .val (.int (Int32.ofNat (i + 1))), .val (.int (cv A (o + i)))] [])) := by
        have := c9
        rw [succ32, succ32, succ32] at this
        exact this
      exact ih (i + 1) (by omega) _ (Or.inr ⟨_, rfl, rfl⟩) T7 _ (by rw [copyLocs_step, ← List.append_assoc]; exact X7) (pl.trans p7) (fl.step (by omega) hlt (by simp)) c10
  obtain ⟨T9, B9, z9, X9, p9, f9, g9⟩ := loop len 0 (by omega) .unset (Or.inl rfl) s₁ B (by simpa [copyLocs] using X0) ⟨hB0.1, fun _ _ => rfl, rfl⟩ (Laid.zero _ _ _) c2
  have c11 : Steps p.tables e below (s₁.setTop (entryFrame m #[.ref b, .int (Int32.ofNat o), .ref d, .int (Int32.ofNat q), .int (Int32.ofNat len)] 7)) (T9.setTop (mkF m 46 #[.val (.ref b), .val (.int (Int32.ofNat (o + len))), .val (.ref d), .val (.int (Int32.ofNat (q + len))), .val (.int (Int32.ofNat len)), .val (.int (Int32.ofNat len)), z9] [.int (Int32.ofNat len)])) := g9.trans (by
    refine XS.iload X9.here hexec rfl (hb hbytes d3) rfl ?_
    refine XS.iload X9.here hexec rfl (hb hbytes d5) rfl ?_
    refine XS.icmpYes X9.here hexec rfl (pc0 := 7) rfl (hb hbytes d7) rfl (ii_ge_t (nlt32 (by omega) (Nat.le_refl _))) (by decide) rfl ?_
    refine XS.iload X9.here hexec rfl (hb hbytes d44) rfl ?_
    exact Steps.refl _)
  exact ⟨T9, some (.int (Int32.ofNat len)), _, _, _, X9, by simp, rfl, rfl, (fun h => by cases h), ⟨rfl, B9, p9.from hh0, f9⟩, fun fs hl => c11.trans (X9.ireturnOut hexec hret rfl (Or.inl rfl) (hb hbytes d46) hl)⟩
end Cmp5
namespace Cmp3
def yN : MethodName := ⟨"java/lang/StringUTF16", "compress", "([CII)[B"⟩
abbrev yB : ByteArray := jdk_52_method_16_code
theorem d0 : decode yB 0 = .ok (.iload_n 2, 1) := by decide +kernel
theorem d1 : decode yB 1 = .ok (.newarray .byte, 2) := by decide +kernel
theorem d3 : decode yB 3 = .ok (.astore_n 3, 1) := by decide +kernel
theorem d4 : decode yB 4 = .ok (.aload_n 0, 1) := by decide +kernel
theorem d5 : decode yB 5 = .ok (.iload_n 1, 1) := by decide +kernel
theorem d6 : decode yB 6 = .ok (.aload_n 3, 1) := by decide +kernel
theorem d7 : decode yB 7 = .ok (.iconst 0, 1) := by decide +kernel
theorem d8 : decode yB 8 = .ok (.iload_n 2, 1) := by decide +kernel
theorem d9 : decode yB 9 = .ok (.invokestatic 115, 3) := by decide +kernel
theorem d12 : decode yB 12 = .ok (.istore 4, 2) := by decide +kernel
theorem d14 : decode yB 14 = .ok (.iload 4, 2) := by decide +kernel
theorem d16 : decode yB 16 = .ok (.iload_n 2, 1) := by decide +kernel
theorem d17 : decode yB 17 = .ok (.if_icmp (.eq) 40, 3) := by decide +kernel
theorem d57 : decode yB 57 = .ok (.aload_n 3, 1) := by decide +kernel
theorem d58 : decode yB 58 = .ok (.areturn, 1) := by decide +kernel
def site : List Cond := [.arrayClass .byte, Cmp5.tab] ++ staticW U16 115 Cmp5.yN
def tab : Cond := tabOf yN yB 6 (some (.array .byte)) site
def P (b : Addr) (A : Cell) (o len : Nat) (args : Array Value) (s : State) : Prop := args = #[.ref b, .int (Int32.ofNat o), .int (Int32.ofNat len)] ∧ Ch b A s ∧ o + len ≤ A.slots.size ∧ len ≤ 536870912 ∧ ∀ i, i < len → ¬ 255 < cv A (o + i)
def E (b : Addr) (A : Cell) (o len : Nat) (r : Option Value) (s u : State) : Prop := NewArr .byte "[B" len (fun j => .int (lo8 (cv A (o + j)))) r s u ∧ u.heap.size = s.heap.size + 1
/-- no char of the range above 255: a new byte[] of their low bytes -/
theorem law (l : Launch) (b : Addr) (A : Cell) (o len : Nat) : Law l yN 3 3 1 18 yB 6 (some (.array .byte)) site (P b A o len) (E b A o len) [] 1 len := by
  refine Law.of_walk (plainFor_of_name (by decide +kernel)) (by decide +kernel) (by decide +kernel) (by decide) (fun _ _ h => by rw [h.1]; rfl) (fun _ U U' hal hh h => ⟨h.1, h.2.1.mv hal hh, h.2.2⟩) (fun r U U' V V' h1 hal h2 h => ⟨NewArr.mv r U U' V V' h1 hal h2 h.1, by rw [h1, h2]; exact h.2⟩) ?_
  intro p e s m args below meth c s₁ X0 hexec hbytes hml hret hlk hnm hown hh0 W hP
  obtain ⟨rfl, hA, l1, l2, hp⟩ := hP
  have a31 := hA.1.2.2.2
  have c1 : Steps p.tables e below (s₁.setTop (entryFrame m #[.ref b, .int (Int32.ofNat o), .int (Int32.ofNat len)] 6)) (s₁.setTop (mkF m 0 #[.val (.ref b), .val (.int (Int32.ofNat o)), .val (.int (Int32.ofNat len)), .unset, .unset, .unset] [])) := entry rfl
  have c2 : Steps p.tables e below (s₁.setTop (entryFrame m #[.ref b, .int (Int32.ofNat o), .int (Int32.ofNat len)] 6)) (s₁.setTop (mkF m 1 #[.val (.ref b), .val (.int (Int32.ofNat o)), .val (.int (Int32.ofNat len)), .unset, .unset, .unset] [.int (Int32.ofNat len)])) := c1.trans (by
    refine XS.iloadN X0.here hexec rfl (hb hbytes d0) rfl ?_
    exact Steps.refl _)
  obtain ⟨T3, B3, X3, ba3, bs3, bv3, bh3, bf3, st3⟩ := X0.anew hexec (atype := .byte) (wk W (.arrayClass .byte)) rfl (by show len * 1 ≤ _; omega) (by omega) (g := (mkF m 1 #[.val (.ref b), .val (.int (Int32.ofNat o)), .val (.int (Int32.ofNat len)), .unset, .unset, .unset] [.int (Int32.ofNat len)])) rfl (hb hbytes d1) (rest := []) rfl (Nat.le_refl _) (by show 0 + len ≤ len; omega)
  rw [hh0] at ba3 st3
  have kp3 : XT.Kept s T3 := (XT.Kept.of_eq hh0).push bh3
  have hA3 := hA.keep X3.warmed.alike (kp3 _ _ hA.1.1)
  have hne : b ≠ s.heap.size := hA.1.ne
  have c4 : Steps p.tables e below (s₁.setTop (entryFrame m #[.ref b, .int (Int32.ofNat o), .int (Int32.ofNat len)] 6)) (T3.setTop (mkF m 3 #[.val (.ref b), .val (.int (Int32.ofNat o)), .val (.int (Int32.ofNat len)), .unset, .unset, .unset] [.ref s.heap.size])) := c2.trans (st3 _ (Steps.refl _))
  have c5 : Steps p.tables e below (s₁.setTop (entryFrame m #[.ref b, .int (Int32.ofNat o), .int (Int32.ofNat len)] 6)) (T3.setTop (mkF m 9 #[.val (.ref b), .val (.int (Int32.ofNat o)), .val (.int (Int32.ofNat len)), .val (.ref s.heap.size), .unset, .unset] [.int (Int32.ofNat len), .int 0, .ref s.heap.size, .int (Int32.ofNat o), .ref b])) := c4.trans (by
    refine XS.astoreN X3.here hexec rfl (hb hbytes d3) rfl rfl rfl ?_
    refine XS.aloadN X3.here hexec rfl (hb hbytes d4) rfl rfl ?_
    refine XS.iloadN X3.here hexec rfl (hb hbytes d5) rfl ?_
    refine XS.aloadN X3.here hexec rfl (hb hbytes d6) rfl rfl ?_
    refine iconstV X3.here hexec rfl 0 (hb hbytes d7) (by decide) ?_
    refine XS.iloadN X3.here hexec rfl (hb hbytes d8) rfl ?_
    exact Steps.refl _)
  obtain ⟨v6, T6, X6, E6, g6⟩ := X3.callS hexec (Cmp5.law l b A s.heap.size B3 o 0 len) hown (wks W (staticW U16 115 Cmp5.yN)) (wk W Cmp5.tab) (W := 0) (Nat.le_of_ble_eq_true rfl) (Nat.le_of_ble_eq_true rfl) (Nat.le_refl _) (by show 0 + len + 0 ≤ len; omega) (g := (mkF m 9 #[.val (.ref b), .val (.int (Int32.ofNat o)), .val (.int (Int32.ofNat len)), .val (.ref s.heap.size), .unset, .unset] [.int (Int32.ofNat len), .int (Int32.ofNat 0), .ref s.heap.size, .int (Int32.ofNat o), .ref b])) rfl (by rw [hml]; rfl) c5 (argsL := [.ref b, .int (Int32.ofNat o), .ref s.heap.size, .int (Int32.ofNat 0), .int (Int32.ofNat len)]) (rest := []) rfl rfl (by show 2 * 0 + 0 ≤ _; decide) (hb hbytes d9) (⟨rfl, hA3, ba3, hne, l1, by rw [bs3]; simp, hp⟩)
  obtain ⟨rfl, B6, p6, f6⟩ := E6
  have c7 : Steps p.tables e below (s₁.setTop (entryFrame m #[.ref b, .int (Int32.ofNat o), .int (Int32.ofNat len)] 6)) (T6.setTop (mkF m 12 #[.val (.ref b), .val (.int (Int32.ofNat o)), .val (.int (Int32.ofNat len)), .val (.ref s.heap.size), .unset, .unset] [.int (Int32.ofNat len)])) := g6
  have c8 : Steps p.tables e below (s₁.setTop (entryFrame m #[.ref b, .int (Int32.ofNat o), .int (Int32.ofNat len)] 6)) (T6.setTop (mkF m 58 #[.val (.ref b), .val (.int (Int32.ofNat o)), .val (.int (Int32.ofNat len)), .val (.ref s.heap.size), .val (.int (Int32.ofNat len)), .unset] [.ref s.heap.size])) := c7.trans (by
    refine XS.istore X6.here hexec rfl (hb hbytes d12) rfl rfl ?_
    refine XS.iload X6.here hexec rfl (hb hbytes d14) rfl ?_
    refine XS.iloadN X6.here hexec rfl (hb hbytes d16) rfl ?_
    refine XS.icmpYes X6.here hexec rfl (pc0 := 17) rfl (hb hbytes d17) rfl (ii_eq_t rfl) (by decide) rfl ?_
    refine XS.aloadN X6.here hexec rfl (hb hbytes d57) rfl rfl ?_
    exact Steps.refl _)
  have X8 := X6.wide (L' := []) (cells' := 1) (slots' := len) (fun x hx hlt => by
    simp only [List.nil_append, copyLocs, List.mem_map, List.mem_range] at hx
    obtain ⟨i, -, rfl⟩ := hx
    exact absurd hlt (Nat.lt_irrefl _)) (Nat.le_refl _) (by omega)
  exact ⟨T6, some (.ref s.heap.size), _, _, _, X8, rfl, rfl, rfl, (fun h => by cases h), ⟨⟨rfl, B6, ba3.like (X3.warmed.alike.symm.trans X6.warmed.alike) p6.1 f6.1 f6.2.1 f6.2.2.1, f6.2.1.trans bv3, by rw [X6.warmed.alike.findClass, f6.1]; exact bf3, by rw [f6.2.2.1, bs3]; simp, fun j hj => by rw [f6.2.2.2 j, if_pos (by omega)]; rfl, kp3.put p6 (Nat.le_refl _)⟩, by rw [p6.2.2, bh3, hh0]; simp⟩, fun fs hl => c8.trans (X8.areturnOut hexec rfl hret rfl (hb hbytes d58) hl)⟩
end Cmp3
namespace CodL
def yN : MethodName := ⟨"java/lang/StringUTF16", "coderFromArrayLen", "([BI)B"⟩
abbrev yB : ByteArray := jdk_52_method_15_code
theorem d0 : decode yB 0 = .ok (.iload_n 1, 1) := by decide +kernel
theorem d1 : decode yB 1 = .ok (.aload_n 0, 1) := by decide +kernel
theorem d2 : decode yB 2 = .ok (.arraylength, 1) := by decide +kernel
theorem d3 : decode yB 3 = .ok (.isub, 1) := by decide +kernel
theorem d4 : decode yB 4 = .ok (.bipush 31, 2) := by decide +kernel
theorem d6 : decode yB 6 = .ok (.iushr, 1) := by decide +kernel
theorem d7 : decode yB 7 = .ok (.i2b, 1) := by decide +kernel
theorem d8 : decode yB 8 = .ok (.ireturn, 1) := by decide +kernel
def site : List Cond := []
def tab : Cond := tabOf yN yB 2 (some .byte) site
def P (d : Addr) (B : Cell) (args : Array Value) (s : State) : Prop := args = #[.ref d, .int (Int32.ofNat B.slots.size)] ∧ Arr .byte d B s
def E (r : Option Value) (s u : State) : Prop := XT.PureE (some (.int 0)) r s u
/-- an array as long as the number of chars: LATIN1 -/
theorem law (l : Launch) (d : Addr) (B : Cell) : Law l yN 2 2 0 0 yB 2 (some .byte) site (P d B) E [] 0 0 := by
  refine Law.of_walk (plainFor_of_name (by decide +kernel)) (by decide +kernel) (by decide +kernel) (by decide) (fun _ _ h => by rw [h.1]; rfl) (fun _ U U' hal hh h => ⟨h.1, h.2.mv hal hh⟩) (fun r U U' V V' h1 hal h2 h => XT.PureE.mv r U U' V V' h1 hal h2 h) ?_
  intro p e s m args below meth c s₁ X0 hexec hbytes hml hret hlk hnm hown hh0 W hP
  obtain ⟨rfl, hB⟩ := hP
  have hB0 := hB.mv X0.warmed.alike hh0
  have c1 : Steps p.tables e below (s₁.setTop (entryFrame m #[.ref d, .int (Int32.ofNat B.slots.size)] 2)) (s₁.setTop (mkF m 0 #[.val (.ref d), .val (.int (Int32.ofNat B.slots.size))] [])) := entry rfl
  have c2 : Steps p.tables e below (s₁.setTop (entryFrame m #[.ref d, .int (Int32.ofNat B.slots.size)] 2)) (s₁.setTop (mkF m 2 #[.val (.ref d), .val (.int (Int32.ofNat B.slots.size))] [.ref d, .int (Int32.ofNat B.slots.size)])) := c1.trans (by
    refine XS.iloadN X0.here hexec rfl (hb hbytes d0) rfl ?_
    refine XS.aloadN X0.here hexec rfl (hb hbytes d1) rfl rfl ?_
    exact Steps.refl _)
  have c3 : Steps p.tables e below (s₁.setTop (entryFrame m #[.ref d, .int (Int32.ofNat B.slots.size)] 2)) (s₁.setTop (mkF m 8 #[.val (.ref d), .val (.int (Int32.ofNat B.slots.size))] [.int (lo8 (ushr (Int32.ofNat B.slots.size - Int32.ofNat B.slots.size) 31))])) := c2.trans (by
    refine X0.alen hexec hB0 rfl rfl (hb hbytes d2) ?_
    refine XS.isub X0.here hexec rfl (hb hbytes d3) rfl ?_
    refine bipushV X0.here hexec rfl 31 (hb hbytes d4) (by decide) ?_
    refine iushr X0.here hexec rfl (hb hbytes d6) rfl ?_
    refine i2b X0.here hexec rfl (hb hbytes d7) rfl ?_
    exact Steps.refl _)
  have e0 : lo8 (ushr (Int32.ofNat B.slots.size - Int32.ofNat B.slots.size) 31) = 0 := by rw [Int32.sub_self]; decide
  rw [e0] at c3
  exact ⟨s₁, some (.int 0), _, _, _, X0, rfl, rfl, rfl, (fun h => by cases h), ⟨rfl, hh0⟩, fun fs hl => c3.trans (X0.ireturnOut hexec hret rfl (Or.inr (Or.inr (Or.inl rfl))) (hb hbytes d8) hl)⟩
end CodL
/-- the String at a is Latin-1 over a new byte[] (the heap's one new cell): the low bytes of the len chars of A from o on; every cell but a is kept -/
def Got (a : Addr) (D : Cell) (fV fC : Field) (A : Cell) (o len : Nat) (r : Option Value) (s u : State) : Prop := r = none ∧ ∃ D' V : Cell, Blank "java/lang/String" a D' u ∧ Same D D' [fV.slot, fC.slot] ∧ D'.slots[fV.slot]? = some (.ref s.heap.size) ∧ D'.slots[fC.slot]? = some (.int 0) ∧ Arr .byte s.heap.size V u ∧ V.vm = .none ∧ u.vm.findClass "[B" = some V.cls ∧ V.slots.size = len ∧ (∀ j, j < len → V.slots[j]? = some (.int (lo8 (cv A (o + j))))) ∧ (∀ (y : Addr) (c : Cell), y ≠ a → s.heap[y]? = some c → u.heap[y]? = some c) ∧ u.heap.size = s.heap.size + 1
theorem Got.mv {a : Addr} {D A : Cell} {fV fC : Field} {o len : Nat} : ∀ r (U U' V V' : State), U'.heap = U.heap → V.vm.Alike V'.vm → V'.heap = V.heap → Got a D fV fC A o len r U V → Got a D fV fC A o len r U' V' :=
  fun r U U' V V' h1 hal h2 ⟨e0, D', X, a1, a2, a3, a4, a5, a6, a7, a8, a9, a10, a11⟩ => ⟨e0, D', X, a1.mv hal h2, a2, by rw [h1]; exact a3, a4, by rw [h1]; exact a5.mv hal h2, a6, by rw [hal.findClass]; exact a7, a8, a9, by rw [h1, h2]; exact a10, by rw [h1, h2]; exact a11⟩
namespace New4
def yN : MethodName := ⟨"java/lang/String", "<init>", "([CIILjava/lang/Void;)V"⟩
abbrev yB : ByteArray := jdk_42_method_149_code
theorem d0 : decode yB 0 = .ok (.aload_n 0, 1) := by decide +kernel
theorem d1 : decode yB 1 = .ok (.invokespecial 1, 3) := by decide +kernel
theorem d4 : decode yB 4 = .ok (.iload_n 3, 1) := by decide +kernel
theorem d5 : decode yB 5 = .ok (.ifCond (.ne) 22, 3) := by decide +kernel
theorem d27 : decode yB 27 = .ok (.getstatic 38, 3) := by decide +kernel
theorem d30 : decode yB 30 = .ok (.ifCond (.eq) 28, 3) := by decide +kernel
theorem d33 : decode yB 33 = .ok (.aload_n 1, 1) := by decide +kernel
theorem d34 : decode yB 34 = .ok (.iload_n 2, 1) := by decide +kernel
theorem d35 : decode yB 35 = .ok (.iload_n 3, 1) := by decide +kernel
theorem d36 : decode yB 36 = .ok (.invokestatic 177, 3) := by decide +kernel
theorem d39 : decode yB 39 = .ok (.astore 5, 2) := by decide +kernel
theorem d41 : decode yB 41 = .ok (.aload_n 0, 1) := by decide +kernel
theorem d42 : decode yB 42 = .ok (.aload 5, 2) := by decide +kernel
theorem d44 : decode yB 44 = .ok (.iload_n 3, 1) := by decide +kernel
theorem d45 : decode yB 45 = .ok (.invokestatic 47, 3) := by decide +kernel
theorem d48 : decode yB 48 = .ok (.putfield 15, 3) := by decide +kernel
theorem d51 : decode yB 51 = .ok (.aload_n 0, 1) := by decide +kernel
theorem d52 : decode yB 52 = .ok (.aload 5, 2) := by decide +kernel
theorem d54 : decode yB 54 = .ok (.putfield 9, 3) := by decide +kernel
theorem d57 : decode yB 57 = .ok (.return_, 1) := by decide +kernel
def site : List Cond := [.fieldLink "java/lang/String" 38 "java/lang/String" "COMPACT_STRINGS" "Z", Cmp3.tab, CodL.tab, .laysFinal "java/lang/String" "java/lang/String" "value" "[B", .fieldLink "java/lang/String" 9 "java/lang/String" "value" "[B", .laysFinal "java/lang/String" "java/lang/String" "coder" "B", .fieldLink "java/lang/String" 15 "java/lang/String" "coder" "B"] ++ objW "java/lang/String" 1 ++ staticW "java/lang/String" 177 Cmp3.yN ++ staticW "java/lang/String" 47 CodL.yN
def tab : Cond := tabOf yN yB 6 none site
def P (a : Addr) (D : Cell) (fV fC : Field) (b : Addr) (A : Cell) (z : Int32) (o len : Nat) (args : Array Value) (s : State) : Prop := args = #[.ref a, .ref b, .int (Int32.ofNat o), .int (Int32.ofNat len), .null] ∧ Blank "java/lang/String" a D s ∧ Found "java/lang/String" "value" "[B" fV s ∧ Found "java/lang/String" "coder" "B" fC s ∧ Ch b A s ∧ StaticIs s "java/lang/String" "COMPACT_STRINGS" "Z" (.int z) ∧ ¬ z = 0 ∧ 0 < len ∧ o + len ≤ A.slots.size ∧ len ≤ 536870912 ∧ ∀ i, i < len → ¬ 255 < cv A (o + i)
def E (a : Addr) (D : Cell) (fV fC : Field) (A : Cell) (o len : Nat) (r : Option Value) (s u : State) : Prop := Got a D fV fC A o len r s u
/-- len > 0, no char of the range above 255: a Latin-1 String of their low bytes -/
theorem law (l : Launch) (a : Addr) (D : Cell) (fV fC : Field) (b : Addr) (A : Cell) (z : Int32) (o len : Nat) : Law l yN 5 4 2 35 yB 6 none site (P a D fV fC b A z o len) (E a D fV fC A o len) [⟨a, fC.slot⟩, ⟨a, fV.slot⟩] 1 len := by
  refine Law.of_walk (plainFor_of_name (by decide +kernel)) (by decide +kernel) (by decide +kernel) (by decide) (fun _ _ h => by rw [h.1]; rfl) (fun _ U U' hal hh h => ⟨h.1, h.2.1.mv hal hh, h.2.2.1.al hal, h.2.2.2.1.al hal, h.2.2.2.2.1.mv hal hh, h.2.2.2.2.2.1.there hal hh, h.2.2.2.2.2.2⟩) (fun r U U' V V' h1 hal h2 h => Got.mv r U U' V V' h1 hal h2 h) ?_
  intro p e s m args below meth c s₁ X0 hexec hbytes hml hret hlk hnm hown hh0 W hP
  obtain ⟨rfl, hB, f1, f2, hA, s1, hz, l0, l1, l2, hp⟩ := hP
  have a31 := hA.1.2.2.2
  have c1 : Steps p.tables e below (s₁.setTop (entryFrame m #[.ref a, .ref b, .int (Int32.ofNat o), .int (Int32.ofNat len), .null] 6)) (s₁.setTop (mkF m 0 #[.val (.ref a), .val (.ref b), .val (.int (Int32.ofNat o)), .val (.int (Int32.ofNat len)), .val .null, .unset] [])) := entry rfl
  have c2 : Steps p.tables e below (s₁.setTop (entryFrame m #[.ref a, .ref b, .int (Int32.ofNat o), .int (Int32.ofNat len), .null] 6)) (s₁.setTop (mkF m 1 #[.val (.ref a), .val (.ref b), .val (.int (Int32.ofNat o)), .val (.int (Int32.ofNat len)), .val .null, .unset] [.ref a])) := c1.trans (by
    refine XS.aloadN X0.here hexec rfl (hb hbytes d0) rfl rfl ?_
    exact Steps.refl _)
  obtain ⟨T3, X3, q3, st3⟩ := X0.oinit hexec hown (wks W (objW "java/lang/String" 1)) (g := (mkF m 1 #[.val (.ref a), .val (.ref b), .val (.int (Int32.ofNat o)), .val (.int (Int32.ofNat len)), .val .null, .unset] [.ref a])) rfl (by rw [hml]; rfl) (rest := []) rfl (hb hbytes d1) (W := 0) (by show 2 * 0 + 0 ≤ _; decide) (Nat.le_of_ble_eq_true rfl) (Nat.le_of_ble_eq_true rfl)
  have hh3 := q3.trans hh0
  have c4 : Steps p.tables e below (s₁.setTop (entryFrame m #[.ref a, .ref b, .int (Int32.ofNat o), .int (Int32.ofNat len), .null] 6)) (T3.setTop (mkF m 27 #[.val (.ref a), .val (.ref b), .val (.int (Int32.ofNat o)), .val (.int (Int32.ofNat len)), .val .null, .unset] [])) := (c2.trans (st3 _ (Steps.refl _))).trans (by
    refine XS.iloadN X3.here hexec rfl (hb hbytes d4) rfl ?_
    refine XS.ifYes X3.here hexec rfl (pc0 := 5) rfl (hb hbytes d5) rfl (i0_ne_t (nz32 (by omega) l0)) (by decide) rfl ?_
    exact Steps.refl _)
  obtain ⟨T5, X5, q5, st5⟩ := X3.sget hexec hown (wk W (.fieldLink "java/lang/String" 38 "java/lang/String" "COMPACT_STRINGS" "Z")) s1 (fun _ _ h => by rw [hh3]; exact h) (g := (mkF m 27 #[.val (.ref a), .val (.ref b), .val (.int (Int32.ofNat o)), .val (.int (Int32.ofNat len)), .val .null, .unset] [])) rfl (hb hbytes d27)
  have hh5 := q5.trans hh3
  have c6 : Steps p.tables e below (s₁.setTop (entryFrame m #[.ref a, .ref b, .int (Int32.ofNat o), .int (Int32.ofNat len), .null] 6)) (T5.setTop (mkF m 30 #[.val (.ref a), .val (.ref b), .val (.int (Int32.ofNat o)), .val (.int (Int32.ofNat len)), .val .null, .unset] [.int z])) := c4.trans (st5 _ (Steps.refl _))
  have c7 : Steps p.tables e below (s₁.setTop (entryFrame m #[.ref a, .ref b, .int (Int32.ofNat o), .int (Int32.ofNat len), .null] 6)) (T5.setTop (mkF m 36 #[.val (.ref a), .val (.ref b), .val (.int (Int32.ofNat o)), .val (.int (Int32.ofNat len)), .val .null, .unset] [.int (Int32.ofNat len), .int (Int32.ofNat o), .ref b])) := c6.trans (by
    refine XS.ifNo X5.here hexec rfl (hb hbytes d30) rfl (i0_eq_f hz) ?_
    refine XS.aloadN X5.here hexec rfl (hb hbytes d33) rfl rfl ?_
    refine XS.iloadN X5.here hexec rfl (hb hbytes d34) rfl ?_
    refine XS.iloadN X5.here hexec rfl (hb hbytes d35) rfl ?_
    exact Steps.refl _)
  obtain ⟨v8, T8, X8, E8, g8⟩ := X5.callS hexec (Cmp3.law l b A o len) hown (wks W (staticW "java/lang/String" 177 Cmp3.yN)) (wk W Cmp3.tab) (W := 0) (Nat.le_of_ble_eq_true rfl) (Nat.le_of_ble_eq_true rfl) (Nat.le_refl _) (by show 0 + len ≤ len; omega) (g := (mkF m 36 #[.val (.ref a), .val (.ref b), .val (.int (Int32.ofNat o)), .val (.int (Int32.ofNat len)), .val .null, .unset] [.int (Int32.ofNat len), .int (Int32.ofNat o), .ref b])) rfl (by rw [hml]; rfl) c7 (argsL := [.ref b, .int (Int32.ofNat o), .int (Int32.ofNat len)]) (rest := []) rfl rfl (by show 2 * 0 + 0 ≤ _; decide) (hb hbytes d36) (⟨rfl, hA.mv X5.warmed.alike hh5, l1, l2, hp⟩)
  obtain ⟨e8, z8⟩ := E8
  obtain ⟨rfl, N, n1, n2, n3, n4, n5, n6⟩ := NewArr.mv _ T5 s _ _ hh5.symm (Vm.Alike.refl _) rfl e8
  rw [hh5] at z8
  have hB1 := hB.keep X8.warmed.alike (n6 _ _ hB.1)
  have hne : s.heap.size ≠ a := (Nat.ne_of_lt (Array.getElem?_eq_some_iff.mp hB.1).1).symm
  have c9 : Steps p.tables e below (s₁.setTop (entryFrame m #[.ref a, .ref b, .int (Int32.ofNat o), .int (Int32.ofNat len), .null] 6)) (T8.setTop (mkF m 39 #[.val (.ref a), .val (.ref b), .val (.int (Int32.ofNat o)), .val (.int (Int32.ofNat len)), .val .null, .unset] [.ref s.heap.size])) := g8
  have c10 : Steps p.tables e below (s₁.setTop (entryFrame m #[.ref a, .ref b, .int (Int32.ofNat o), .int (Int32.ofNat len), .null] 6)) (T8.setTop (mkF m 45 #[.val (.ref a), .val (.ref b), .val (.int (Int32.ofNat o)), .val (.int (Int32.ofNat len)), .val .null, .val (.ref s.heap.size)] [.int (Int32.ofNat N.slots.size), .ref s.heap.size, .ref a])) := by
    have hc : Steps p.tables e below (s₁.setTop (entryFrame m #[.ref a, .ref b, .int (Int32.ofNat o), .int (Int32.ofNat len), .null] 6)) (T8.setTop (mkF m 45 #[.val (.ref a), .val (.ref b), .val (.int (Int32.ofNat o)), .val (.int (Int32.ofNat len)), .val .null, .val (.ref s.heap.size)] [.int (Int32.ofNat len), .ref s.heap.size, .ref a])) := c9.trans (by
      refine XS.astore X8.here hexec rfl (hb hbytes d39) rfl rfl rfl ?_
      refine XS.aloadN X8.here hexec rfl (hb hbytes d41) rfl rfl ?_
      refine XS.aload X8.here hexec rfl (hb hbytes d42) rfl rfl ?_
      refine XS.iloadN X8.here hexec rfl (hb hbytes d44) rfl ?_
      exact Steps.refl _)
    rw [n4]; exact hc
  obtain ⟨v11, T11, X11, E11, g11⟩ := X8.callS hexec (CodL.law l s.heap.size N) hown (wks W (staticW "java/lang/String" 47 CodL.yN)) (wk W CodL.tab) (W := 1) (Nat.le_of_ble_eq_true rfl) (Nat.le_of_ble_eq_true rfl) (Nat.le_refl _) (by show 0 + len + 0 ≤ len; omega) (g := (mkF m 45 #[.val (.ref a), .val (.ref b), .val (.int (Int32.ofNat o)), .val (.int (Int32.ofNat len)), .val .null, .val (.ref s.heap.size)] [.int (Int32.ofNat N.slots.size), .ref s.heap.size, .ref a])) rfl (by rw [hml]; rfl) c10 (argsL := [.ref s.heap.size, .int (Int32.ofNat N.slots.size)]) (rest := [.ref a]) rfl rfl (by show 2 * 0 + (1 + 0) ≤ _; decide) (hb hbytes d45) (⟨rfl, n1⟩)
  obtain ⟨rfl, q11⟩ := E11
  have hB11 := hB1.mv (X8.warmed.alike.symm.trans X11.warmed.alike) q11
  have c12 : Steps p.tables e below (s₁.setTop (entryFrame m #[.ref a, .ref b, .int (Int32.ofNat o), .int (Int32.ofNat len), .null] 6)) (T11.setTop (mkF m 48 #[.val (.ref a), .val (.ref b), .val (.int (Int32.ofNat o)), .val (.int (Int32.ofNat len)), .val .null, .val (.ref s.heap.size)] [.int 0, .ref a])) := g11
  obtain ⟨T13, X13, p13, bl13, sl13, st13⟩ := X11.finit hexec hown (wk W (.fieldLink "java/lang/String" 15 "java/lang/String" "coder" "B")) (Or.inr ⟨_, (wk W (.laysFinal "java/lang/String" "java/lang/String" "coder" "B"))⟩) (Or.inl ⟨rfl, hnm⟩) f2 (Or.inl rfl) hB11 (t := .byte) (by decide +kernel) rfl (g := (mkF m 48 #[.val (.ref a), .val (.ref b), .val (.int (Int32.ofNat o)), .val (.int (Int32.ofNat len)), .val .null, .val (.ref s.heap.size)] [.int 0, .ref a])) rfl (rest := []) rfl (hb hbytes d48)
  have c14 : Steps p.tables e below (s₁.setTop (entryFrame m #[.ref a, .ref b, .int (Int32.ofNat o), .int (Int32.ofNat len), .null] 6)) (T13.setTop (mkF m 54 #[.val (.ref a), .val (.ref b), .val (.int (Int32.ofNat o)), .val (.int (Int32.ofNat len)), .val .null, .val (.ref s.heap.size)] [.ref s.heap.size, .ref a])) := (c12.trans (st13 _ (Steps.refl _))).trans (by
    refine XS.aloadN X13.here hexec rfl (hb hbytes d51) rfl rfl ?_
    refine XS.aload X13.here hexec rfl (hb hbytes d52) rfl rfl ?_
    exact Steps.refl _)
  obtain ⟨T15, X15, p15, bl15, sl15, st15⟩ := X13.finit hexec hown (wk W (.fieldLink "java/lang/String" 9 "java/lang/String" "value" "[B")) (Or.inr ⟨_, (wk W (.laysFinal "java/lang/String" "java/lang/String" "value" "[B"))⟩) (Or.inl ⟨rfl, hnm⟩) f1 (Or.inl rfl) bl13 (t := (.array .byte)) (by decide +kernel) rfl (g := (mkF m 54 #[.val (.ref a), .val (.ref b), .val (.int (Int32.ofNat o)), .val (.int (Int32.ofNat len)), .val .null, .val (.ref s.heap.size)] [.ref s.heap.size, .ref a])) rfl (rest := []) rfl (hb hbytes d54)
  have c16 : Steps p.tables e below (s₁.setTop (entryFrame m #[.ref a, .ref b, .int (Int32.ofNat o), .int (Int32.ofNat len), .null] 6)) (T15.setTop (mkF m 57 #[.val (.ref a), .val (.ref b), .val (.int (Int32.ofNat o)), .val (.int (Int32.ofNat len)), .val .null, .val (.ref s.heap.size)] [])) := c14.trans (st15 _ (Steps.refl _))
  have ap := apart (Or.inr ⟨_, (wk W (.laysFinal "java/lang/String" "java/lang/String" "value" "[B"))⟩) (Or.inr ⟨_, (wk W (.laysFinal "java/lang/String" "java/lang/String" "coder" "B"))⟩) f1 f2 (t₁ := .array .byte) (t₂ := .byte) (by decide +kernel) (by decide +kernel) (by decide)
  have al := X8.warmed.alike.symm.trans X15.warmed.alike
  have n7 : T11.heap[s.heap.size]? = some N := by rw [q11]; exact n1.1
  exact ⟨T15, none, _, _, _, X15, by simp, rfl, by omega, (fun _ => rfl), ⟨rfl, _, N, bl15, ((Same.refl D _).set _ (by simp)).set _ (by simp), sl15, (Cell.slots_setSlot_ne _ ap).trans sl13, n1.keep al (p15.other hne (p13.other hne n7)), n2, by rw [al.findClass]; exact n3, n4, n5, fun y c h1 h2 => p15.other h1 (p13.other h1 (by rw [q11]; exact n6 y c h2)), by rw [p15.2.2, p13.2.2, q11]; exact z8⟩, fun fs hl => c16.trans (X15.returnOut hexec hret (hb hbytes d57) hl)⟩
end New4
namespace New1
def yN : MethodName := ⟨"java/lang/String", "<init>", "([C)V"⟩
abbrev yB : ByteArray := jdk_42_method_3_code
theorem d0 : decode yB 0 = .ok (.aload_n 0, 1) := by decide +kernel
theorem d1 : decode yB 1 = .ok (.aload_n 1, 1) := by decide +kernel
theorem d2 : decode yB 2 = .ok (.iconst 0, 1) := by decide +kernel
theorem d3 : decode yB 3 = .ok (.aload_n 1, 1) := by decide +kernel
theorem d4 : decode yB 4 = .ok (.arraylength, 1) := by decide +kernel
theorem d5 : decode yB 5 = .ok (.aconst_null, 1) := by decide +kernel
theorem d6 : decode yB 6 = .ok (.invokespecial 27, 3) := by decide +kernel
theorem d9 : decode yB 9 = .ok (.return_, 1) := by decide +kernel
def site : List Cond := [New4.tab] ++ initW "java/lang/String" 27 New4.yN
def tab : Cond := tabOf yN yB 2 none site
def P (a : Addr) (D : Cell) (fV fC : Field) (b : Addr) (A : Cell) (z : Int32) (args : Array Value) (s : State) : Prop := args = #[.ref a, .ref b] ∧ Blank "java/lang/String" a D s ∧ Found "java/lang/String" "value" "[B" fV s ∧ Found "java/lang/String" "coder" "B" fC s ∧ Ch b A s ∧ StaticIs s "java/lang/String" "COMPACT_STRINGS" "Z" (.int z) ∧ ¬ z = 0 ∧ 0 < A.slots.size ∧ A.slots.size ≤ 536870912 ∧ ∀ i, i < A.slots.size → ¬ 255 < cv A i
def E (a : Addr) (D : Cell) (fV fC : Field) (A : Cell) (r : Option Value) (s u : State) : Prop := Got a D fV fC A 0 A.slots.size r s u
/-- new String(chars), not empty, no char above 255: a Latin-1 String of their low bytes -/
theorem law (l : Launch) (a : Addr) (D : Cell) (fV fC : Field) (b : Addr) (A : Cell) (z : Int32) : Law l yN 2 1 3 52 yB 2 none site (P a D fV fC b A z) (E a D fV fC A) [⟨a, fC.slot⟩, ⟨a, fV.slot⟩] 1 A.slots.size := by
  refine Law.of_walk (plainFor_of_name (by decide +kernel)) (by decide +kernel) (by decide +kernel) (by decide) (fun _ _ h => by rw [h.1]; rfl) (fun _ U U' hal hh h => ⟨h.1, h.2.1.mv hal hh, h.2.2.1.al hal, h.2.2.2.1.al hal, h.2.2.2.2.1.mv hal hh, h.2.2.2.2.2.1.there hal hh, h.2.2.2.2.2.2⟩) (fun r U U' V V' h1 hal h2 h => Got.mv r U U' V V' h1 hal h2 h) ?_
  intro p e s m args below meth c s₁ X0 hexec hbytes hml hret hlk hnm hown hh0 W hP
  obtain ⟨rfl, hB, f1, f2, hA, s1, hz, l0, l2, hp⟩ := hP
  have c1 : Steps p.tables e below (s₁.setTop (entryFrame m #[.ref a, .ref b] 2)) (s₁.setTop (mkF m 0 #[.val (.ref a), .val (.ref b)] [])) := entry rfl
  have c2 : Steps p.tables e below (s₁.setTop (entryFrame m #[.ref a, .ref b] 2)) (s₁.setTop (mkF m 6 #[.val (.ref a), .val (.ref b)] [.null, .int (Int32.ofNat A.slots.size), .int 0, .ref b, .ref a])) := c1.trans (by
    refine XS.aloadN X0.here hexec rfl (hb hbytes d0) rfl rfl ?_
    refine XS.aloadN X0.here hexec rfl (hb hbytes d1) rfl rfl ?_
    refine iconstV X0.here hexec rfl 0 (hb hbytes d2) (by decide) ?_
    refine XS.aloadN X0.here hexec rfl (hb hbytes d3) rfl rfl ?_
    refine X0.alen hexec (hA.1.mv X0.warmed.alike hh0) rfl rfl (hb hbytes d4) ?_
    refine XS.aconstNull X0.here hexec rfl (hb hbytes d5) ?_
    exact Steps.refl _)
  obtain ⟨v3, T3, X3, E3, g3⟩ := X0.callN hexec (New4.law l a D fV fC b A z 0 A.slots.size) rfl hown (wks W (initW "java/lang/String" 27 New4.yN)) (W New4.tab (by simp only [site, List.mem_cons, List.mem_append, true_or, or_true])) (W := 0) (Nat.le_of_ble_eq_true rfl) (Nat.le_of_ble_eq_true rfl) (Nat.le_refl _) (by show 0 + A.slots.size ≤ A.slots.size; omega) (g := (mkF m 6 #[.val (.ref a), .val (.ref b)] [.null, .int (Int32.ofNat A.slots.size), .int (Int32.ofNat 0), .ref b, .ref a])) rfl (by rw [hml]; rfl) c2 (argsL := [.ref b, .int (Int32.ofNat 0), .int (Int32.ofNat A.slots.size), .null]) (rest := []) rfl rfl (by show 2 * 0 + 0 ≤ _; decide) (hb hbytes d6) (⟨rfl, hB.mv X0.warmed.alike hh0, f1.al X0.warmed.alike, f2.al X0.warmed.alike, hA.mv X0.warmed.alike hh0, s1.there X0.warmed.alike hh0, hz, l0, by omega, l2, fun i hi => by rw [Nat.zero_add]; exact hp i hi⟩)
  have e0 := Got.mv _ s₁ s _ _ hh0.symm (Vm.Alike.refl _) rfl E3
  obtain rfl := e0.1
  have c4 : Steps p.tables e below (s₁.setTop (entryFrame m #[.ref a, .ref b] 2)) (T3.setTop (mkF m 9 #[.val (.ref a), .val (.ref b)] [])) := g3
  exact ⟨T3, none, _, _, _, X3, by simp, rfl, by omega, (fun _ => rfl), e0, fun fs hl => c4.trans (X3.returnOut hexec hret (hb hbytes d9) hl)⟩
theorem pays {l : Launch} {R : Room} {p : Program} {e : Env} {below : List Frame} {s : State} {sargs : Array Value} {len W : Nat} (a : Addr) (D : Cell) (fV fC : Field) (b : Addr) (A : Cell) (z : Int32) (htab : tab.before sargs s = true) (hfr : 4 ≤ R.frames) (hlo : W + 65 ≤ R.locals) :
    Back l R p e below s sargs yN len W (fun A₁ a₁ => A₁.cells + 1 ≤ R.cells ∧ A₁.slots + A.slots.size ≤ R.slots ∧ P a D fV fC b A z a₁ A₁.U) (fun A₁ _ v₁ B₁ => E a D fV fC A v₁ A₁.U B₁.U ∧ B₁.locs = A₁.locs ++ [⟨a, fC.slot⟩, ⟨a, fV.slot⟩] ∧ B₁.cells = A₁.cells + 1 ∧ B₁.slots = A₁.slots + A.slots.size) :=
  (law l a D fV fC b A z).pays htab hfr (by omega)
end New1
/-- the byte, read back as charAt reads it, is the char -/
theorem lo8_mask {x : Int32} (h0 : ¬ x < 0) (h1 : ¬ 255 < x) : lo8 x &&& 255 = x := by
  have t : ∀ k : Fin 256, lo8 (Int32.ofNat k.val) &&& 255 = Int32.ofNat k.val := by decide +kernel
  rw [Int32.lt_iff_toInt_lt] at h0 h1
  have e0 : (0 : Int32).toInt = 0 := rfl
  have e1 : (255 : Int32).toInt = 255 := rfl
  obtain ⟨k, hk⟩ : ∃ k : Nat, x.toInt = k := ⟨x.toInt.toNat, by omega⟩
  have hx : x = Int32.ofNat k := Int32.toInt_inj.mp (by rw [hk, Int32.toInt_ofNat_small (by omega)])
  rw [hx]
  exact t ⟨k, by omega⟩
end StrChars
namespace StrChars.Road
open Jvm Sem ClassFile Op Lib Jvm.Stand Jvm.Free Jvm.Free.XT
open Jvm.Lib.Cold (StaticIs)
abbrev ST : String := "java/lang/String"
/-- every table word that New1's law asks, flat -/
abbrev words : List Jvm.Cond := [.code New1.yN New1.yB 2 none, .initialized ST, .methodLink ST 27 New4.yN, .instanceMethod New4.yN,
  .code New4.yN New4.yB 6 none, .fieldLink ST 38 ST "COMPACT_STRINGS" "Z", .laysFinal ST ST "value" "[B", .fieldLink ST 9 ST "value" "[B", .laysFinal ST ST "coder" "B", .fieldLink ST 15 ST "coder" "B",
  .methodLink ST 1 Lib.objectInit, .instanceMethod Lib.objectInit, .code Lib.objectInit ⟨#[0xb1]⟩ 1 none, .methodLink ST 177 Cmp3.yN, .static Cmp3.yN, .methodLink ST 47 CodL.yN, .static CodL.yN,
  .code Cmp3.yN Cmp3.yB 6 (some (.array .byte)), .initialized U16, .arrayClass .byte, .methodLink U16 115 Cmp5.yN, .static Cmp5.yN, .code Cmp5.yN Cmp5.yB 7 (some .int), .code CodL.yN CodL.yB 2 (some .byte)]
theorem tab_of {a : Array Value} {s : State} (h : ∀ w ∈ words, w.before a s = true) : New1.tab.before a s = true := by
  have h5 : Cmp5.tab.before a s = true := unparts (wk h (.code Cmp5.yN Cmp5.yB 7 (some .int))) (wks h (.initialized Cmp5.yN.cls :: Cmp5.site))
  have hc : CodL.tab.before a s = true := unparts (wk h (.code CodL.yN CodL.yB 2 (some .byte))) (wks h (.initialized CodL.yN.cls :: CodL.site))
  have q5 : ∀ w ∈ Cmp5.tab :: words, w.before a s = true := fun w hw => (List.mem_cons.mp hw).elim (fun e => e ▸ h5) (h w)
  have h3 : Cmp3.tab.before a s = true := unparts (wk q5 (.code Cmp3.yN Cmp3.yB 6 (some (.array .byte)))) (wks q5 (.initialized Cmp3.yN.cls :: Cmp3.site))
  have q3 : ∀ w ∈ Cmp3.tab :: CodL.tab :: words, w.before a s = true := fun w hw => (List.mem_cons.mp hw).elim (fun e => e ▸ h3) fun hw => (List.mem_cons.mp hw).elim (fun e => e ▸ hc) (h w)
  have h4 : New4.tab.before a s = true := unparts (wk q3 (.code New4.yN New4.yB 6 none)) (wks q3 (.initialized New4.yN.cls :: New4.site))
  have q4 : ∀ w ∈ New4.tab :: words, w.before a s = true := fun w hw => (List.mem_cons.mp hw).elim (fun e => e ▸ h4) (h w)
  exact unparts (wk q4 (.code New1.yN New1.yB 2 none)) (wks q4 (.initialized New1.yN.cls :: New1.site))
/-- the words ride from the start Z to the walk's own state -/
theorem moved {Z s : State} {a0 args : Array Value} (hZ : Z.Warmed39 s.vm) (hw : ∀ d ∈ words, d.before a0 Z = true) : ∀ d ∈ words, d.before args s = true := fun d hd => by
  have q := hw d hd
  have t : ∀ d ∈ words, d = .arrayClass .byte ∨ (d.onTables && d.keepsFace) = true := by decide +kernel
  rcases t d hd with rfl | t
  · exact RoadKit.mvA hZ q
  · exact RoadKit.mv hZ q t
/-- WHAT COMES BACK, over the tables of the start Z: h the heap at the call, h' behind it -/
def Q (Z : State) (x : Addr) (A : Cell) (h : Heap) (v : Option Value) (h' : Heap) (L : List Loc) : Prop := v = none ∧ (∀ y ∈ L, y.base = x) ∧ RoadKit.Keep h h' [x] ∧ h'.size = h.size + 1 ∧ RoadKit.Exa Z h' x ST ∧ RoadKit.Fld Z h' x ST "value" "[B" (.ref h.size) ∧ RoadKit.Fld Z h' x ST "coder" "B" (.int 0) ∧
  (∃ V : Cell, RoadKit.Arr Z h' h.size V .byte ∧ V.vm = .none ∧ Z.vm.findClass "[B" = some V.cls ∧ V.slots.size = A.slots.size ∧ ∀ j, j < A.slots.size → V.slots[j]? = some (.int (lo8 (cv A j)))) ∧
  ∀ (O n d : String) (w : Value), RoadKit.Fld Z h x O n d w → RoadKit.slotOf Z O n d ≠ RoadKit.slotOf Z ST "value" "[B" → RoadKit.slotOf Z O n d ≠ RoadKit.slotOf Z ST "coder" "B" → RoadKit.Fld Z h' x O n d w
/-- **new String(chars) AT A CALL, IN THE ROAD'S FORM**: for specialBack behind newO: x the fresh String, b the char[] with the cell A -/
theorem back {p : Program} {l : Launch} {e : Env} {R : Room} {s : State} {args : Array Value} {below : List Frame} {len W : Nat} {Z : State} {a0 : Array Value} {h : Heap} (hZ : Z.Warmed39 s.vm) (hw : ∀ d ∈ words, d.before a0 Z = true) {kI : Nat} (wi : (Jvm.Cond.instantiable ST kI).before a0 Z = true)
    {x b : Addr} {A : Cell} {z : Int32} {v0 c0 : Value} (E : RoadKit.Exa Z h x ST) (V : RoadKit.Fld Z h x ST "value" "[B" v0) (C : RoadKit.Fld Z h x ST "coder" "B" c0) (K : RoadKit.Arr Z h b A .char) (hty : Typed .char A) (S : RoadKit.Sta Z h ST "COMPACT_STRINGS" "Z" (.int z)) (hz : ¬ z = 0)
    (l0 : 0 < A.slots.size) (l2 : A.slots.size ≤ 536870912) (hp : ∀ i, i < A.slots.size → ¬ 255 < cv A i) (hfr : 4 ≤ R.frames) (hlo : W + 65 ≤ R.locals) :
    Back l R p e below s args New1.yN len W (fun P a => a = #[.ref x, .ref b] ∧ P.U.heap = h ∧ P.cells + 1 ≤ R.cells ∧ P.slots + A.slots.size ≤ R.slots)
      (fun P _ v B => ∃ L, Q Z x A h v B.U.heap L ∧ B.locs = P.locs ++ L ∧ B.cells = P.cells + 1 ∧ B.slots = P.slots + A.slots.size) := by
  intro m meth c P g ig mk a X hg hsize hdg hW hn hp'
  obtain ⟨rfl, rfl, r1, r2⟩ := hp'
  have al : Z.vm.Alike P.U.vm := hZ.alike.trans X.warmed.alike
  obtain ⟨D, cfV, kV, iV, fV, hD, gV, stV, knV, obV, asV, slV⟩ := id V
  obtain ⟨D', cfC, kC, iC, fC, hD', gC, stC, -, -, asC, slC⟩ := id C
  cases hD.symm.trans hD'
  obtain ⟨D2, kD, e1, e2, e3, e4, e5⟩ := id E
  cases hD.symm.trans e1
  obtain ⟨c2, k2, i1, i2, i3, -⟩ := Cond.instantiable_spec wi
  cases e2.symm.trans i1
  cases e3.symm.trans i2
  obtain ⟨kU, u1, u2⟩ := al.2.2 _ _ e3
  have hB : Blank ST x D P.U := ⟨hD, ⟨knV, fun q hq => by rw [hq] at obV; cases obV⟩, by rw [al.findClass]; exact e2, kU, u1, by rw [u2]; exact i3, by rw [u2]; exact e5 i3⟩
  have F1 : Found ST "value" "[B" fV P.U := ⟨SBG.found_only al ⟨cfV, kV, iV, gV⟩, stV⟩
  have F2 : Found ST "coder" "B" fC P.U := ⟨SBG.found_only al ⟨cfC, kC, iC, gC⟩, stC⟩
  have hA : Ch b A P.U := ⟨⟨K.1, State.isArrayOf_alike al K.2.1, K.2.2, by omega⟩, hty⟩
  have hS : StaticIs P.U ST "COMPACT_STRINGS" "Z" (.int z) := by
    obtain ⟨cfS, iS, kS, fS, st, cS, t1, t2, t3, t4, t5, t6, t7⟩ := S
    exact StaticIs.there (s := { Z with heap := P.U.heap }) ⟨cfS, iS, kS, fS, st, cS, t1, t2, t3, t4, t5, (fun q => by rw [q] at t6; cases t6), t7⟩ al rfl
  obtain ⟨v, B, X', ⟨⟨hv, E', V', q1, q2, q3, q4, q5, q6, q7, q8, q9, q10, q11⟩, hl, hc, hs⟩, st⟩ := New1.pays x D fV fC b A z (tab_of (moved hZ hw)) hfr hlo m meth c P g ig mk _ X hg hsize hdg hW hn ⟨r1, r2, rfl, hB, F1, F2, hA, hS, hz, l0, l2, hp⟩
  have al' : Z.vm.Alike B.U.vm := hZ.alike.trans X'.warmed.alike
  have hsz : E'.slots.size = D.slots.size := by
    obtain ⟨-, -, -, kB, w1, w2, w3⟩ := q1
    obtain ⟨kB', y1, y2⟩ := al'.2.2 _ _ e3
    rw [q2.2.1] at w1
    cases w1.symm.trans y1
    rw [w3, e5 i3, y2]
  refine ⟨v, B, X', ⟨_, ⟨hv, ?_, ⟨by omega, fun y cy hy hn' => q10 y cy (by simpa using hn') hy, fun y cy hy => ?_⟩, q11, ⟨E', _, q1.1, by rw [q2.2.1]; exact e2, by rw [q2.2.1]; exact e3, by rw [q2.1]; exact obV, fun _ => by rw [hsz]; exact e5 i3⟩,
    ⟨E', cfV, kV, iV, fV, q1.1, gV, stV, by rw [q2.1]; exact knV, by rw [q2.1]; exact obV, by rw [q2.2.1]; exact asV, q3⟩, ⟨E', cfC, kC, iC, fC, q1.1, gC, stC, by rw [q2.1]; exact knV, by rw [q2.1]; exact obV, by rw [q2.2.1]; exact asC, q4⟩,
    ⟨V', ⟨q5.1, State.isArrayOf_alike al'.symm q5.2.1, q5.2.2.1⟩, q6, by rw [← al'.findClass]; exact q7, q8, fun j hj => by have := q9 j hj; rwa [Nat.zero_add] at this⟩, fun O n d w F n1 n2 => ?_⟩, hl, hc, hs⟩, st⟩
  · intro y hy
    simp only [List.mem_cons, List.not_mem_nil, or_false] at hy
    rcases hy with rfl | rfl <;> rfl
  · by_cases q : y = x
    · subst q
      cases hD.symm.trans hy
      exact ⟨E', q1.1, q2.2.1, q2.1, hsz⟩
    · exact ⟨cy, q10 y cy q hy, rfl, rfl, rfl⟩
  · obtain ⟨D3, cf, k, i, f, g1, g2, g3, g4, g5, g6, g7⟩ := F
    cases hD.symm.trans g1
    simp only [RoadKit.slotOf, g2, gV, gC, Option.map_some, Option.getD_some] at n1 n2
    exact ⟨E', cf, k, i, f, q1.1, g2, g3, by rw [q2.1]; exact g4, by rw [q2.1]; exact g5, by rw [q2.2.1]; exact g6, by rw [q2.2.2 f.slot (by simp [n1, n2])]; exact g7⟩
end StrChars.Road
namespace StrChars.Road
open Jvm Sem ClassFile Op Lib Jvm.Stand Jvm.Free Jvm.Free.XT
/-- WHAT COMES BACK, the byte[] as a list of values -/
def QA (Z : State) (x : Addr) (zn : Int32) (cs : List Int32) (h : Heap) (v : Option Value) (h' : Heap) (L : List Loc) : Prop := v = none ∧ (∀ y ∈ L, y.base = x) ∧ RoadKit.Keep h h' [x] ∧ h'.size = h.size + 1 ∧ RoadKit.Exa Z h' x ST ∧ RoadKit.Fld Z h' x ST "value" "[B" (.ref h.size) ∧ RoadKit.Fld Z h' x ST "coder" "B" (.int 0) ∧
  (∃ kb, Z.vm.findClass "[B" = some kb ∧ RoadKit.Arv Z h' h.size kb .byte zn (cs.map fun c => .int (lo8 c)) (.int 0)) ∧
  ∀ (O n d : String) (w : Value), RoadKit.Fld Z h x O n d w → RoadKit.slotOf Z O n d ≠ RoadKit.slotOf Z ST "value" "[B" → RoadKit.slotOf Z O n d ≠ RoadKit.slotOf Z ST "coder" "B" → RoadKit.Fld Z h' x O n d w
/-- **new String(chars) AT A CALL, THE ARRAYS AS LISTS**: the char[] at b holds cs, not empty, no char above 255 -/
theorem backArv {p : Program} {l : Launch} {e : Env} {R : Room} {s : State} {args : Array Value} {below : List Frame} {len W : Nat} {Z : State} {a0 : Array Value} {h : Heap} (hZ : Z.Warmed39 s.vm) (hw : ∀ d ∈ words, d.before a0 Z = true) {kI : Nat} (wi : (Jvm.Cond.instantiable ST kI).before a0 Z = true)
    {x b : Addr} {k : ClassId} {zn z : Int32} {cs : List Int32} {dv v0 c0 : Value} (E : RoadKit.Exa Z h x ST) (V : RoadKit.Fld Z h x ST "value" "[B" v0) (C : RoadKit.Fld Z h x ST "coder" "B" c0) (K : RoadKit.Arv Z h b k .char zn (cs.map Value.int) dv) (S : RoadKit.Sta Z h ST "COMPACT_STRINGS" "Z" (.int z)) (hz : ¬ z = 0)
    (hlen : zn.toNatClampNeg = cs.length) (h0 : 0 < cs.length) (hbig : cs.length ≤ 536870912) (hall : ∀ c ∈ cs, ¬ 255 < c) (hfr : 4 ≤ R.frames) (hlo : W + 65 ≤ R.locals) :
    Back l R p e below s args New1.yN len W (fun P a => a = #[.ref x, .ref b] ∧ P.U.heap = h ∧ P.cells + 1 ≤ R.cells ∧ P.slots + cs.length ≤ R.slots)
      (fun P _ v B => ∃ L, QA Z x zn cs h v B.U.heap L ∧ B.locs = P.locs ++ L ∧ B.cells = P.cells + 1 ∧ B.slots = P.slots + cs.length) := by
  obtain ⟨A, K1, K2, K3, K4, K5, K6⟩ := K
  have e : A.slots.size = cs.length := K3.trans hlen
  have hat : ∀ (i : Nat) (hi : i < cs.length), A.slots[i]? = some (.int cs[i]) := fun i hi => by rw [K5 i (by omega)]; simp [List.getD_eq_getElem?_getD, hi]
  have hcv : ∀ (i : Nat) (hi : i < cs.length), cv A i = cs[i] := fun i hi => by unfold cv; rw [hat i hi]
  have hty : Typed .char A := fun i v hv => by
    have hi : i < A.slots.size := (Array.getElem?_eq_some_iff.mp hv).1
    have q := K5 i hi
    rw [hv] at q
    rw [Option.some.inj q]
    exact K6 i hi
  refine Back.mono (back hZ hw wi E V C K1 hty S hz (by omega) (by omega) (fun i hi => by rw [hcv i (by omega)]; exact hall _ (List.getElem_mem _)) hfr hlo) (fun P a hp => ⟨hp.1, hp.2.1, hp.2.2.1, by rw [e]; exact hp.2.2.2⟩) (fun P a v B hp hq => ?_)
  obtain ⟨L, ⟨q1, q2, q3, q4, q5, q6, q7, ⟨V', v1, v2, v3, v4, v5⟩, q9⟩, hl, hc, hs⟩ := hq
  refine ⟨L, ⟨q1, q2, q3, q4, q5, q6, q7, ⟨V'.cls, v3, V', v1, rfl, by rw [v4, e, hlen], K4, fun i hi => ?_, fun i hi => ?_⟩, q9⟩, hl, hc, by rw [hs, e]⟩
  · have hi' : i < cs.length := by omega
    rw [v5 i (by omega), hcv i hi']; simp [List.getD_eq_getElem?_getD, hi']
  · have hi' : i < cs.length := by omega
    simp only [List.getD_eq_getElem?_getD, List.getElem?_map, List.getElem?_eq_getElem hi', Option.map_some, Option.getD_some]
    exact fits_lo8 _
end StrChars.Road
namespace StrChars.Road
open Jvm Sem ClassFile Op Lib Jvm.Stand Jvm.Free Jvm.Free.XT
/-- WHAT COMES BACK, in the writer's own shape -/
def QV (Z : State) (x : Addr) (N : Int32) (bs : List Int32) (h : Heap) (n0 : Nat) (v : Option Value) (h' : Heap) (L : List Loc) : Prop := v = none ∧ RoadKit.Fr n0 L ∧ RoadKit.Keep h h' [x] ∧ RoadKit.Exa Z h' x ST ∧ RoadKit.Fld Z h' x ST "coder" "B" (.int 0) ∧
  ∃ (t : Addr) (kb : ClassId), n0 ≤ t ∧ h.size ≤ t ∧ ¬ t = x ∧ RoadKit.Fld Z h' x ST "value" "[B" (.ref t) ∧ RoadKit.Arv Z h' t kb .byte N (bs.map Value.int) (.int 0)
/-- **new String(chars) AT A CALL, FOR THE WRITER**: a char[] of n known ints, each 0 to 255 -/
theorem backV {p : Program} {l : Launch} {e : Env} {R : Room} {s : State} {args : Array Value} {below : List Frame} {len W : Nat} {Z : State} {a0 : Array Value} {h : Heap} (hZ : Z.Warmed39 s.vm) (hw : ∀ d ∈ words, d.before a0 Z = true) {kI : Nat} (wi : (Jvm.Cond.instantiable ST kI).before a0 Z = true)
    {x b : Addr} {kC : ClassId} {cs bs : List Int32} {d v0 c0 : Value} {z N : Int32} {n n0 : Nat} (hx0 : n0 ≤ x) (hh0 : n0 ≤ h.size) (E : RoadKit.Exa Z h x ST) (V : RoadKit.Fld Z h x ST "value" "[B" v0) (C : RoadKit.Fld Z h x ST "coder" "B" c0) (K : RoadKit.Arv Z h b kC .char N (cs.map Value.int) d) (S : RoadKit.Sta Z h ST "COMPACT_STRINGS" "Z" (.int z)) (hz : ¬ z = 0)
    (hn : cs.length = n) (hN : N = Int32.ofNat n) (l0 : 0 < n) (l2 : n ≤ 4000) (hp : ∀ c ∈ cs, ¬ c < 0 ∧ ¬ (255 : Int32) < c) (hb : bs = cs.map (fun c => c.toInt8.toInt32)) (hfr : 4 ≤ R.frames) (hlo : W + 65 ≤ R.locals) :
    Back l R p e below s args (⟨"java/lang/String", "<init>", "([C)V"⟩ : MethodName) len W (fun P a => a = #[.ref x, .ref b] ∧ P.U.heap = h ∧ P.cells + 1 ≤ R.cells ∧ P.slots + n ≤ R.slots)
      (fun P _ v B => ∃ L, QV Z x N bs h n0 v B.U.heap L ∧ B.locs = P.locs ++ L ∧ B.cells = P.cells + 1 ∧ B.slots = P.slots + n) := by
  subst hn hN hb
  refine Back.mono (backArv hZ hw wi E V C K S hz (n32 (by omega)) l0 (by omega) (fun c hc => (hp c hc).2) hfr hlo) (fun P a hp => hp) (fun P a v B hp hq => ?_)
  obtain ⟨L, ⟨q1, q2, q3, q4, q5, q6, q7, ⟨kb, v1, v2⟩, q9⟩, hl, hc, hs⟩ := hq
  exact ⟨L, ⟨q1, fun y hy => by rw [q2 y hy]; exact hx0, q3, q5, q7, h.size, kb, hh0, Nat.le_refl _, Nat.ne_of_gt E.lt, q6, by rw [List.map_map]; exact v2⟩, hl, hc, hs⟩
end StrChars.Road
namespace StrChars
open Jvm Sem ClassFile Op Lib Jvm.Stand Jvm.Free.XT Jvm.Free.ALB Jvm.Free.JM Jvm.Free
open Jvm.Lib.Cold (StaticIs)
def hi8 (x : Int32) : Int32 := lo8 (x >>> ((8 : Int32) &&& 31))
/-- what StringUTF16.getChar makes of two bytes -/
def pairCh (u v : Int32) : Int32 := (((u &&& 255) <<< ((0 : Int32) &&& 31)) ||| ((v &&& 255) <<< ((8 : Int32) &&& 31))).toUInt32.toUInt16.toUInt32.toInt32
theorem lo8_and (x : Int32) : (lo8 x &&& 255).toBitVec.toNat = x.toBitVec.toNat % 256 := by
  have h : (lo8 x).toBitVec = (x.toBitVec.signExtend 8).signExtend 32 := by rw [lo8, Int8.toBitVec_toInt32, Int32.toBitVec_toInt8]
  rw [Int32.toBitVec_and, BitVec.toNat_and, h]
  have e : ((x.toBitVec.signExtend 8).signExtend 32).toNat % 256 = x.toBitVec.toNat % 256 := by
    rw [BitVec.toNat_signExtend]
    have hlt := x.toBitVec.isLt
    simp only [BitVec.toNat_setWidth, BitVec.toNat_signExtend]
    split <;> split <;> omega
  rw [← e]
  exact Nat.and_two_pow_sub_one_eq_mod _ 8
theorem pair_says {c : Int32} (h0 : ¬ c < 0) (h1 : ¬ 65535 < c) : pairCh (lo8 c) (hi8 c) = c := by
  rw [Int32.lt_iff_toInt_lt] at h0 h1
  have e0 : (0 : Int32).toInt = 0 := rfl
  have e1 : (65535 : Int32).toInt = 65535 := rfl
  have hc : c.toInt = c.toBitVec.toNat := by
    have := c.toBitVec.isLt
    have e : c.toInt = c.toBitVec.toInt := rfl
    rw [e] at h0 h1
    rw [e]
    rw [BitVec.toInt_eq_toNat_cond] at h0 h1 ⊢
    split at h0 <;> split <;> omega
  have hn : c.toBitVec.toNat < 65536 := by omega
  have a1 := lo8_and c
  have a2 : (hi8 c &&& 255).toBitVec.toNat = c.toBitVec.toNat / 256 := by
    rw [hi8, lo8_and]
    have e : ((8 : Int32) &&& 31) = 8 := by decide
    rw [e, Int32.toBitVec_shiftRight]
    have e2 : ((8 : Int32).toBitVec.smod 32) = 8#32 := by decide
    rw [e2, BitVec.sshiftRight_eq', BitVec.toNat_sshiftRight_of_msb_false (by rw [BitVec.msb_eq_false_iff_two_mul_lt]; omega)]
    show c.toBitVec.toNat >>> 8 % 256 = _
    rw [Nat.shiftRight_eq_div_pow]
    omega
  unfold pairCh
  apply Int32.toBitVec_inj.mp
  apply BitVec.eq_of_toNat_eq
  have f0 : ((0 : Int32) &&& 31) = 0 := by decide
  have f8 : ((8 : Int32) &&& 31) = 8 := by decide
  rw [f0, f8]
  have g : (((lo8 c &&& 255) <<< (0 : Int32)) ||| ((hi8 c &&& 255) <<< (8 : Int32))).toBitVec.toNat = c.toBitVec.toNat := by
    rw [Int32.toBitVec_or, Int32.toBitVec_shiftLeft, Int32.toBitVec_shiftLeft]
    have s0 : ((0 : Int32).toBitVec.smod 32) = 0#32 := by decide
    have s8 : ((8 : Int32).toBitVec.smod 32) = 8#32 := by decide
    rw [s0, s8, BitVec.toNat_or]
    simp only [BitVec.shiftLeft_eq', BitVec.toNat_shiftLeft, a1, a2]
    show (c.toBitVec.toNat % 256) <<< 0 % 2 ^ 32 ||| (c.toBitVec.toNat / 256) <<< 8 % 2 ^ 32 = _
    rw [Nat.shiftLeft_zero, Nat.mod_eq_of_lt (show c.toBitVec.toNat % 256 < 2 ^ 32 by omega), Nat.mod_eq_of_lt (show (c.toBitVec.toNat / 256) <<< 8 < 2 ^ 32 by rw [Nat.shiftLeft_eq]; omega), Nat.or_comm, ← Nat.shiftLeft_add_eq_or_of_lt (by omega), Nat.shiftLeft_eq]
    omega
  show BitVec.toNat (((((lo8 c &&& 255) <<< (0 : Int32)) ||| ((hi8 c &&& 255) <<< (8 : Int32))).toBitVec.setWidth 16).setWidth 32) = _
  rw [BitVec.toNat_setWidth, BitVec.toNat_setWidth, g]
  omega
end StrChars
namespace StrChars
open Jvm Sem ClassFile Op Lib Jvm.Stand Jvm.Free.XT Jvm.Free.ALB Jvm.Free.JM Jvm.Free
open Jvm.Lib.Cold (StaticIs)
/-- the array's cell V codes the n chars f 0 .. f (n - 1) by the coder cd, as the JDK does: coder 1 just where some char is above 255 -/
def Cod (cd : Int32) (n : Nat) (f : Nat → Int32) (V : Cell) : Prop := (cd = 0 ∧ V.slots.size = n ∧ ∀ j, j < n → V.slots[j]? = some (.int (lo8 (f j))) ∧ ¬ 255 < f j) ∨ (cd = 1 ∧ V.slots.size = 2 * n ∧ (∀ j, j < n → V.slots[2 * j]? = some (.int (lo8 (f j))) ∧ V.slots[2 * j + 1]? = some (.int (hi8 (f j)))) ∧ ∃ j, j < n ∧ 255 < f j)
/-- **x is a String of the n chars f 0 .. f (n - 1)**, Latin-1 or UTF-16; its array at t has the cell V -/
def Txt (x t : Addr) (V : Cell) (cd : Int32) (n : Nat) (f : Nat → Int32) (U : State) : Prop := Exact "java/lang/String" x U ∧ Has x "java/lang/String" "value" "[B" (.ref t) U ∧ Has x "java/lang/String" "coder" "B" (.int cd) U ∧ XT.Arr .byte t V U ∧ Cod cd n f V ∧ ∀ j, j < n → ¬ f j < 0 ∧ ¬ 65535 < f j
theorem Txt.mv {x t : Addr} {V : Cell} {cd : Int32} {n : Nat} {f : Nat → Int32} {U U' : State} (h : Txt x t V cd n f U) (hal : U.vm.Alike U'.vm) (hh : U'.heap = U.heap) : Txt x t V cd n f U' := ⟨h.1.mv hal hh, h.2.1.mv hal hh, h.2.2.1.mv hal hh, h.2.2.2.1.mv hal hh, h.2.2.2.2⟩
end StrChars
namespace StrChars.Road
open Jvm Sem ClassFile Op Lib Jvm.Stand Jvm.Free Jvm.Free.XT
open Jvm.Lib.Cold (StaticIs)
theorem consq {a : Array Value} {s : State} {c : Jvm.Cond} {L : List Jvm.Cond} (h0 : c.before a s = true) (h : ∀ w ∈ L, w.before a s = true) : ∀ w ∈ c :: L, w.before a s = true := fun w hw => (List.mem_cons.mp hw).elim (fun e => e ▸ h0) (h w)
/-- the bytes of the chars cs, low before high -/
def wideBytes : List Int32 → List Value
  | [] => []
  | c :: cs => .int (lo8 c) :: .int (hi8 c) :: wideBytes cs
theorem wide_lo (d : Value) : ∀ (cs : List Int32) (j : Nat), j < cs.length → (wideBytes cs).getD (2 * j) d = .int (lo8 (cs.getD j 0))
  | [], j, h => absurd h (Nat.not_lt_zero j)
  | c :: cs, 0, _ => rfl
  | c :: cs, j + 1, h => by
    have q := wide_lo d cs j (by simpa using h)
    rw [show 2 * (j + 1) = 2 * j + 1 + 1 from by omega]
    simpa [wideBytes] using q
theorem wide_hi (d : Value) : ∀ (cs : List Int32) (j : Nat), j < cs.length → (wideBytes cs).getD (2 * j + 1) d = .int (hi8 (cs.getD j 0))
  | [], j, h => absurd h (Nat.not_lt_zero j)
  | c :: cs, 0, _ => rfl
  | c :: cs, j + 1, h => by
    have q := wide_hi d cs j (by simpa using h)
    rw [show 2 * (j + 1) + 1 = 2 * j + 1 + 1 + 1 from by omega]
    simpa [wideBytes] using q
theorem low_at (d : Value) (cs : List Int32) (j : Nat) (h : j < cs.length) : (cs.map fun c => Value.int (lo8 c)).getD j d = .int (lo8 (cs.getD j 0)) := by
  simp [List.getD_eq_getElem?_getD, h]
/-- an array of N2 bytes vs codes the chars cs by the coder cd -/
def CodA (cs : List Int32) (cd N2 : Int32) (vs : List Value) : Prop := (cd = 0 ∧ N2 = Int32.ofNat cs.length ∧ vs = (cs.map fun c => Value.int (lo8 c)) ∧ ∀ c ∈ cs, ¬ 255 < c) ∨ (cd = 1 ∧ N2 = Int32.ofNat (2 * cs.length) ∧ vs = wideBytes cs ∧ ∃ c ∈ cs, 255 < c)
theorem CodA.cod {cs : List Int32} {cd N2 : Int32} {vs : List Value} {V : Cell} (h : CodA cs cd N2 vs) (hn : 2 * cs.length < 2 ^ 31) (hs : V.slots.size = N2.toNatClampNeg) (hv : RoadKit.Has V vs (.int 0)) : Cod cd cs.length (fun j => cs.getD j 0) V := by
  rcases h with ⟨rfl, rfl, rfl, h⟩ | ⟨rfl, rfl, rfl, c, hc, hw⟩
  · rw [n32 (by omega)] at hs
    exact Or.inl ⟨rfl, hs, fun j hj => ⟨by rw [hv j (by omega), low_at _ _ _ hj], by
      have e : cs.getD j 0 = cs[j] := by simp [List.getD_eq_getElem?_getD, hj]
      show ¬ 255 < cs.getD j 0
      rw [e]; exact h _ (List.getElem_mem _)⟩⟩
  · rw [n32 (by omega)] at hs
    obtain ⟨j, hj, rfl⟩ := List.getElem_of_mem hc
    exact Or.inr ⟨rfl, hs, fun j hj => ⟨by rw [hv _ (by omega), wide_lo _ _ _ hj], by rw [hv _ (by omega), wide_hi _ _ _ hj]⟩, j, hj, by
      have e : cs.getD j 0 = cs[j] := by simp [List.getD_eq_getElem?_getD, hj]
      show 255 < cs.getD j 0
      rw [e]; exact hw⟩
/-- an object of exactly java/lang/String, its two fields found: as the laws ask it -/
theorem strObj {Z U : State} {a0 : Array Value} {kI : Nat} (wi : (Jvm.Cond.instantiable ST kI).before a0 Z = true) (al : Z.vm.Alike U.vm) {x : Addr} {v0 c0 : Value} (E : RoadKit.Exa Z U.heap x ST) (V : RoadKit.Fld Z U.heap x ST "value" "[B" v0) (C : RoadKit.Fld Z U.heap x ST "coder" "B" c0) :
    ∃ (D : Cell) (fV fC : Field), Blank ST x D U ∧ Found ST "value" "[B" fV U ∧ Found ST "coder" "B" fC U ∧ D.slots[fV.slot]? = some v0 ∧ D.slots[fC.slot]? = some c0 ∧ RoadKit.slotOf Z ST "value" "[B" = fV.slot ∧ RoadKit.slotOf Z ST "coder" "B" = fC.slot := by
  obtain ⟨D, cfV, kV, iV, fV, hD, gV, stV, knV, obV, asV, slV⟩ := V
  obtain ⟨D', cfC, kC, iC, fC, hD', gC, stC, -, -, asC, slC⟩ := C
  cases hD.symm.trans hD'
  obtain ⟨D2, kD, e1, e2, e3, e4, e5⟩ := E
  cases hD.symm.trans e1
  obtain ⟨c2, k2, i1, i2, i3, -⟩ := Cond.instantiable_spec wi
  cases e2.symm.trans i1
  cases e3.symm.trans i2
  obtain ⟨kU, u1, u2⟩ := al.2.2 _ _ e3
  exact ⟨D, fV, fC, ⟨hD, ⟨knV, fun q hq => by rw [hq] at obV; cases obV⟩, by rw [al.findClass]; exact e2, kU, u1, by rw [u2]; exact i3, by rw [u2]; exact e5 i3⟩, ⟨SBG.found_only al ⟨cfV, kV, iV, gV⟩, stV⟩, ⟨SBG.found_only al ⟨cfC, kC, iC, gC⟩, stC⟩, slV, slC, by simp [RoadKit.slotOf, gV], by simp [RoadKit.slotOf, gC]⟩
theorem sta_is {Z U : State} (al : Z.vm.Alike U.vm) {C n d : String} {v : Value} (S : RoadKit.Sta Z U.heap C n d v) : StaticIs U C n d v := by
  obtain ⟨cfS, iS, kS, fS, st, cS, t1, t2, t3, t4, t5, t6, t7⟩ := S
  exact StaticIs.there (s := { Z with heap := U.heap }) ⟨cfS, iS, kS, fS, st, cS, t1, t2, t3, t4, t5, (fun q => by rw [q] at t6; cases t6), t7⟩ al rfl
end StrChars.Road
namespace StrChars
open Jvm Sem ClassFile Op Lib Jvm.Stand Jvm.Free.XT Jvm.Free.ALB Jvm.Free.JM Jvm.Free
open Jvm.Lib.Cold (StaticIs)
/-- what place i of a byte[]'s cell holds -/
def yv (A : Cell) (i : Nat) : Int32 := match A.slots[i]? with | some (.int x) => x | _ => 0
theorem yv_get {a : Addr} {A : Cell} {U : State} (h : XT.Arr .byte a A U) (ht : Typed .byte A) {i : Nat} (hi : i < A.slots.size) : A.slots[i]? = some (.int (yv A i)) := by
  have e := Array.getElem?_eq_getElem hi
  have f := ht i _ e
  unfold yv; rw [e]
  generalize A.slots[i] = v at f
  cases v <;> simp [fits] at f ⊢
/-- the two arrays are equal, place for place -/
def EqC (A B : Cell) : Prop := A.slots.size = B.slots.size ∧ ∀ i, i < A.slots.size → yv A i = yv B i
/-- a boolean that says whether p -/
def Says01 (q : Prop) (r : Option Value) (s u : State) : Prop := ∃ v : Int32, r = some (.int v) ∧ u.heap = s.heap ∧ ((v = 1 ∧ q) ∨ (v = 0 ∧ ¬ q))
theorem Says01.mv {q : Prop} : ∀ r (U U' V V' : State), U'.heap = U.heap → V.vm.Alike V'.vm → V'.heap = V.heap → Says01 q r U V → Says01 q r U' V' :=
  fun r U U' V V' h1 _ h2 ⟨v, a, b, c⟩ => ⟨v, a, by rw [h1, h2]; exact b, c⟩
namespace LEq
def yN : MethodName := ⟨"java/lang/StringLatin1", "equals", "([B[B)Z"⟩
abbrev yB : ByteArray := jdk_43_method_13_code
theorem d0 : decode yB 0 = .ok (.aload_n 0, 1) := by decide +kernel
theorem d1 : decode yB 1 = .ok (.arraylength, 1) := by decide +kernel
theorem d2 : decode yB 2 = .ok (.aload_n 1, 1) := by decide +kernel
theorem d3 : decode yB 3 = .ok (.arraylength, 1) := by decide +kernel
theorem d4 : decode yB 4 = .ok (.if_icmp (.ne) 30, 3) := by decide +kernel
theorem d7 : decode yB 7 = .ok (.iconst 0, 1) := by decide +kernel
theorem d8 : decode yB 8 = .ok (.istore_n 2, 1) := by decide +kernel
theorem d9 : decode yB 9 = .ok (.iload_n 2, 1) := by decide +kernel
theorem d10 : decode yB 10 = .ok (.aload_n 0, 1) := by decide +kernel
theorem d11 : decode yB 11 = .ok (.arraylength, 1) := by decide +kernel
theorem d12 : decode yB 12 = .ok (.if_icmp (.ge) 20, 3) := by decide +kernel
theorem d15 : decode yB 15 = .ok (.aload_n 0, 1) := by decide +kernel
theorem d16 : decode yB 16 = .ok (.iload_n 2, 1) := by decide +kernel
theorem d17 : decode yB 17 = .ok (.baload, 1) := by decide +kernel
theorem d18 : decode yB 18 = .ok (.aload_n 1, 1) := by decide +kernel
theorem d19 : decode yB 19 = .ok (.iload_n 2, 1) := by decide +kernel
theorem d20 : decode yB 20 = .ok (.baload, 1) := by decide +kernel
theorem d21 : decode yB 21 = .ok (.if_icmp (.eq) 5, 3) := by decide +kernel
theorem d24 : decode yB 24 = .ok (.iconst 0, 1) := by decide +kernel
theorem d25 : decode yB 25 = .ok (.ireturn, 1) := by decide +kernel
theorem d26 : decode yB 26 = .ok (.iinc 2 1, 3) := by decide +kernel
theorem d29 : decode yB 29 = .ok (.goto (-20), 3) := by decide +kernel
theorem d32 : decode yB 32 = .ok (.iconst 1, 1) := by decide +kernel
theorem d33 : decode yB 33 = .ok (.ireturn, 1) := by decide +kernel
theorem d34 : decode yB 34 = .ok (.iconst 0, 1) := by decide +kernel
theorem d35 : decode yB 35 = .ok (.ireturn, 1) := by decide +kernel
def site : List Cond := []
def tab : Cond := tabOf yN yB 3 (some .boolean) site
def P (a : Addr) (A : Cell) (b : Addr) (B : Cell) (args : Array Value) (s : State) : Prop := args = #[.ref a, .ref b] ∧ XT.Arr .byte a A s ∧ Typed .byte A ∧ XT.Arr .byte b B s ∧ Typed .byte B
/-- whether two byte[] are equal, place for place -/
theorem law (l : Launch) (a : Addr) (A : Cell) (b : Addr) (B : Cell) : Law l yN 2 2 0 0 yB 3 (some .boolean) site (P a A b B) (Says01 (EqC A B)) [] 0 0 := by
  refine Law.of_walk (plainFor_of_name (by decide +kernel)) (by decide +kernel) (by decide +kernel) (by decide) (fun _ _ h => by rw [h.1]; rfl) (fun _ U U' hal hh h => ⟨h.1, h.2.1.mv hal hh, h.2.2.1, h.2.2.2.1.mv hal hh, h.2.2.2.2⟩) (fun r U U' V V' h1 hal h2 h => Says01.mv r U U' V V' h1 hal h2 h) ?_
  intro p e s m args below meth c s₁ X0 hexec hbytes hml hret hlk hnm hown hh0 W hP
  obtain ⟨rfl, hA, tA, hB, tB⟩ := hP
  have a31 := hA.2.2.2
  have b31 := hB.2.2.2
  have hA0 := hA.mv X0.warmed.alike hh0
  have hB0 := hB.mv X0.warmed.alike hh0
  have c1 : Steps p.tables e below (s₁.setTop (entryFrame m #[.ref a, .ref b] 3)) (s₁.setTop (mkF m 0 #[.val (.ref a), .val (.ref b), .unset] [])) := entry rfl
  have c2 : Steps p.tables e below (s₁.setTop (entryFrame m #[.ref a, .ref b] 3)) (s₁.setTop (mkF m 4 #[.val (.ref a), .val (.ref b), .unset] [.int (Int32.ofNat B.slots.size), .int (Int32.ofNat A.slots.size)])) := c1.trans (by
    refine XS.aloadN X0.here hexec rfl (hb hbytes d0) rfl rfl ?_
    refine X0.alen hexec hA0 rfl rfl (hb hbytes d1) ?_
    refine XS.aloadN X0.here hexec rfl (hb hbytes d2) rfl rfl ?_
    refine X0.alen hexec hB0 rfl rfl (hb hbytes d3) ?_
    exact Steps.refl _)
  by_cases hs : A.slots.size = B.slots.size
  · have c3 : Steps p.tables e below (s₁.setTop (entryFrame m #[.ref a, .ref b] 3)) (s₁.setTop (mkF m 9 #[.val (.ref a), .val (.ref b), .val (.int 0)] [])) := c2.trans (by
      refine XS.icmpNo X0.here hexec rfl (hb hbytes d4) rfl (ii_ne_f (by rw [hs])) ?_
      refine iconstV X0.here hexec rfl 0 (hb hbytes d7) (by decide) ?_
      refine XS.istoreN X0.here hexec rfl (hb hbytes d8) rfl rfl ?_
      exact Steps.refl _)
    have loop : ∀ (r i : Nat), i + r = A.slots.size → (∀ j, j < i → yv A j = yv B j) → Steps p.tables e below (s₁.setTop (entryFrame m #[.ref a, .ref b] 3)) (s₁.setTop (mkF m 9 #[.val (.ref a), .val (.ref b), .val (.int (Int32.ofNat i))] [])) → ∃ (pc : Nat) (Ls : Array Slot) (v : Int32), (pc = 25 ∨ pc = 33) ∧ ((v = 1 ∧ EqC A B) ∨ (v = 0 ∧ ¬ EqC A B)) ∧ Steps p.tables e below (s₁.setTop (entryFrame m #[.ref a, .ref b] 3)) (s₁.setTop (mkF m pc Ls [.int v])) := by
      intro r
      induction r with
      | zero =>
        intro i hi he cl
        exact ⟨33, _, 1, Or.inr rfl, Or.inl ⟨rfl, hs, fun j hj => he j (by omega)⟩, cl.trans (by
          refine XS.iloadN X0.here hexec rfl (hb hbytes d9) rfl ?_
          refine XS.aloadN X0.here hexec rfl (hb hbytes d10) rfl rfl ?_
          refine X0.alen hexec hA0 rfl rfl (hb hbytes d11) ?_
          refine XS.icmpYes X0.here hexec rfl (pc0 := 12) rfl (hb hbytes d12) rfl (ii_ge_t (nlt32 (by omega) (by omega))) (by decide) rfl ?_
          refine iconstV X0.here hexec rfl 1 (hb hbytes d32) (by decide) ?_
          exact Steps.refl _)⟩
      | succ r ih =>
        intro i hi he cl
        have c4 : Steps p.tables e below (s₁.setTop (entryFrame m #[.ref a, .ref b] 3)) (s₁.setTop (mkF m 21 #[.val (.ref a), .val (.ref b), .val (.int (Int32.ofNat i))] [.int (yv B i), .int (yv A i)])) := cl.trans (by
          refine XS.iloadN X0.here hexec rfl (hb hbytes d9) rfl ?_
          refine XS.aloadN X0.here hexec rfl (hb hbytes d10) rfl rfl ?_
          refine X0.alen hexec hA0 rfl rfl (hb hbytes d11) ?_
          refine XS.icmpNo X0.here hexec rfl (hb hbytes d12) rfl (ii_ge_f (lt32 (by omega) (by omega))) ?_
          refine XS.aloadN X0.here hexec rfl (hb hbytes d15) rfl rfl ?_
          refine XS.iloadN X0.here hexec rfl (hb hbytes d16) rfl ?_
          refine X0.aget hexec hA0 rfl (yv_get hA tA (i := i) (by omega)) rfl rfl (hb hbytes d17) ?_
          refine XS.aloadN X0.here hexec rfl (hb hbytes d18) rfl rfl ?_
          refine XS.iloadN X0.here hexec rfl (hb hbytes d19) rfl ?_
          refine X0.aget hexec hB0 rfl (yv_get hB tB (i := i) (by omega)) rfl rfl (hb hbytes d20) ?_
          exact Steps.refl _)
        by_cases hv : yv A i = yv B i
        · have c5 : Steps p.tables e below (s₁.setTop (entryFrame m #[.ref a, .ref b] 3)) (s₁.setTop (mkF m 9 #[.val (.ref a), .val (.ref b), .val (.int (Int32.ofNat i + 1))] [])) := c4.trans (by
            refine XS.icmpYes X0.here hexec rfl (pc0 := 21) rfl (hb hbytes d21) rfl (ii_eq_t hv) (by decide) rfl ?_
            refine iincV X0.here hexec rfl 1 (hb hbytes d26) (by decide) rfl rfl ?_
            refine XS.goto X0.here hexec rfl (pc0 := 29) rfl (hb hbytes d29) (by decide) rfl ?_
            exact Steps.refl _)
          rw [succ32] at c5
          exact ih (i + 1) (by omega) (fun j hj => by
            by_cases e : j = i
            · rw [e]; exact hv
            · exact he j (by omega)) c5
        · exact ⟨25, _, 0, Or.inl rfl, Or.inr ⟨rfl, fun q => hv (q.2 i (by omega))⟩, c4.trans (by
            refine XS.icmpNo X0.here hexec rfl (hb hbytes d21) rfl (ii_eq_f hv) ?_
            refine iconstV X0.here hexec rfl 0 (hb hbytes d24) (by decide) ?_
            exact Steps.refl _)⟩
    obtain ⟨pc, Ls, v, hpc, hv, cz⟩ := loop A.slots.size 0 (by omega) (fun j hj => absurd hj (Nat.not_lt_zero j)) c3
    have nv : narrow .boolean (.int v) = .int v := by rcases hv with ⟨rfl, -⟩ | ⟨rfl, -⟩ <;> rfl
    rcases hpc with rfl | rfl
    · exact ⟨s₁, some (.int v), _, _, _, X0, rfl, rfl, rfl, (fun h => by cases h), ⟨v, rfl, hh0, hv⟩, fun fs hl => cz.trans (X0.ireturnOut hexec hret nv (Or.inr (Or.inl rfl)) (hb hbytes d25) hl)⟩
    · exact ⟨s₁, some (.int v), _, _, _, X0, rfl, rfl, rfl, (fun h => by cases h), ⟨v, rfl, hh0, hv⟩, fun fs hl => cz.trans (X0.ireturnOut hexec hret nv (Or.inr (Or.inl rfl)) (hb hbytes d33) hl)⟩
  · have c3 : Steps p.tables e below (s₁.setTop (entryFrame m #[.ref a, .ref b] 3)) (s₁.setTop (mkF m 35 #[.val (.ref a), .val (.ref b), .unset] [.int 0])) := c2.trans (by
      refine XS.icmpYes X0.here hexec rfl (pc0 := 4) rfl (hb hbytes d4) rfl (ii_ne_t (ne32 a31 b31 hs)) (by decide) rfl ?_
      refine iconstV X0.here hexec rfl 0 (hb hbytes d34) (by decide) ?_
      exact Steps.refl _)
    exact ⟨s₁, some (.int 0), _, _, _, X0, rfl, rfl, rfl, (fun h => by cases h), ⟨0, rfl, hh0, Or.inr ⟨rfl, fun q => hs q.1⟩⟩, fun fs hl => c3.trans (X0.ireturnOut hexec hret rfl (Or.inr (Or.inl rfl)) (hb hbytes d35) hl)⟩
end LEq
theorem Cod.ty {cd : Int32} {n : Nat} {f : Nat → Int32} {V : Cell} (h : Cod cd n f V) : Typed .byte V := fun i v hv => by
  have hi : i < V.slots.size := (Array.getElem?_eq_some_iff.mp hv).1
  rcases h with ⟨-, k1, k2⟩ | ⟨-, k1, k2, -⟩
  · rw [(k2 i (by omega)).1] at hv; cases hv; exact fits_lo8 _
  · rcases Nat.mod_two_eq_zero_or_one i with e | e
    · obtain ⟨j, rfl⟩ : ∃ j, i = 2 * j := ⟨i / 2, by omega⟩
      rw [(k2 j (by omega)).1] at hv; cases hv; exact fits_lo8 _
    · obtain ⟨j, rfl⟩ : ∃ j, i = 2 * j + 1 := ⟨i / 2, by omega⟩
      rw [(k2 j (by omega)).2] at hv; cases hv; exact fits_lo8 _
/-- the same text -/
def SameT (n : Nat) (f : Nat → Int32) (k : Nat) (g : Nat → Int32) : Prop := n = k ∧ ∀ j, j < n → f j = g j
theorem lo8_inj {x y : Int32} (h0 : ¬ x < 0) (h1 : ¬ 255 < x) (k0 : ¬ y < 0) (k1 : ¬ 255 < y) (h : lo8 x = lo8 y) : x = y := by
  rw [← lo8_mask h0 h1, ← lo8_mask k0 k1, h]
/-- arrays coded by one coder are equal just where the texts are -/
theorem Cod.eqv {cd : Int32} {n k : Nat} {f g : Nat → Int32} {V V' : Cell} (h : Cod cd n f V) (h' : Cod cd k g V') (hf : ∀ j, j < n → ¬ f j < 0 ∧ ¬ 65535 < f j) (hg : ∀ j, j < k → ¬ g j < 0 ∧ ¬ 65535 < g j) : EqC V V' ↔ SameT n f k g := by
  have yvv : ∀ {W : Cell} {i : Nat} {x : Int32}, W.slots[i]? = some (.int x) → yv W i = x := fun q => by unfold yv; rw [q]
  rcases h with ⟨rfl, k1, k2⟩ | ⟨rfl, k1, k2, -⟩
  · rcases h' with ⟨-, m1, m2⟩ | ⟨e, -⟩
    · constructor
      · rintro ⟨e1, e2⟩
        refine ⟨by omega, fun j hj => ?_⟩
        have q := e2 j (by omega)
        rw [yvv (k2 j hj).1, yvv (m2 j (by omega)).1] at q
        exact lo8_inj (hf j hj).1 (k2 j hj).2 (hg j (by omega)).1 (m2 j (by omega)).2 q
      · rintro ⟨rfl, e2⟩
        refine ⟨by omega, fun j hj => ?_⟩
        rw [yvv (k2 j (by omega)).1, yvv (m2 j (by omega)).1, e2 j (by omega)]
    · exact absurd e (by decide)
  · rcases h' with ⟨e, -⟩ | ⟨-, m1, m2, -⟩
    · exact absurd e (by decide)
    · constructor
      · rintro ⟨e1, e2⟩
        refine ⟨by omega, fun j hj => ?_⟩
        have q1 := e2 (2 * j) (by omega)
        have q2 := e2 (2 * j + 1) (by omega)
        rw [yvv (k2 j hj).1, yvv (m2 j (by omega)).1] at q1
        rw [yvv (k2 j hj).2, yvv (m2 j (by omega)).2] at q2
        rw [← pair_says (hf j hj).1 (hf j hj).2, ← pair_says (hg j (by omega)).1 (hg j (by omega)).2, q1, q2]
      · rintro ⟨rfl, e2⟩
        refine ⟨by omega, fun i hi => ?_⟩
        rcases Nat.mod_two_eq_zero_or_one i with e | e
        · obtain ⟨j, rfl⟩ : ∃ j, i = 2 * j := ⟨i / 2, by omega⟩
          rw [yvv (k2 j (by omega)).1, yvv (m2 j (by omega)).1, e2 j (by omega)]
        · obtain ⟨j, rfl⟩ : ∃ j, i = 2 * j + 1 := ⟨i / 2, by omega⟩
          rw [yvv (k2 j (by omega)).2, yvv (m2 j (by omega)).2, e2 j (by omega)]
/-- two codings differ: so do the texts -/
theorem Cod.dif {cd cd' : Int32} {n k : Nat} {f g : Nat → Int32} {V V' : Cell} (h : Cod cd n f V) (h' : Cod cd' k g V') (hne : ¬ cd = cd') : ¬ SameT n f k g := by
  rintro ⟨rfl, e⟩
  rcases h with ⟨rfl, -, k2⟩ | ⟨rfl, -, -, j, hj, hw⟩
  · rcases h' with ⟨rfl, -⟩ | ⟨-, -, -, j, hj, hw⟩
    · exact hne rfl
    · exact (k2 j hj).2 (by rw [e j hj]; exact hw)
  · rcases h' with ⟨-, -, m2⟩ | ⟨rfl, -⟩
    · exact (m2 j hj).2 (by rw [← e j hj]; exact hw)
    · exact hne rfl
/-- an object of exactly C is an instance of C -/
theorem cinst {p : Program} {l : Launch} {e : Env} {R : Room} {s : State} {m : MethodId} {args : Array Value} {below : List Frame} {meth : Method} {c : Code} {T : State} {locs : List Loc} {cells slots : Nat} (X : Stand p l e R s m args below meth c T locs cells slots) (hexec : p.tables.exec = Jvm.exec) {own C : String} {index : Nat} (hown : s.vm.findClass own = some m.cls) (hlink : (Cond.classLink own index C).before args s = true) {a : Addr} (hE : Exact C a T)
    {g : JFrame} (hg : g.method = m) {rest : List Value} (hstack : g.stack = .ref a :: rest) (hdg : decode c.code g.pc = .ok (.instanceof index, 3)) :
    ∃ T', Stand p l e R s m args below meth c T' locs cells slots ∧ T'.heap = T.heap ∧ ∀ target, Steps p.tables e below (T'.setTop { g with pc := g.pc + 3, stack := .int 1 :: rest }) target → Steps p.tables e below (T.setTop g) target := by
  obtain ⟨cB, h1, D, h2, h3, h4⟩ := hE
  have h1' : s.vm.findClass C = some cB := by rw [← X.warmed.alike.findClass]; exact h1
  obtain ⟨vm', X', st⟩ := X.instanceofYes hexec hown hlink h2 h4 h1' (by rw [h3]; exact Jvm.Free.SB.assignable_self _ _) hg hstack hdg
  exact ⟨_, X', rfl, st⟩
theorem cself {p : Program} {l : Launch} {e : Env} {R : Room} {s : State} {m : MethodId} {args : Array Value} {below : List Frame} {meth : Method} {c : Code} {T : State} {locs : List Loc} {cells slots : Nat} (X : Stand p l e R s m args below meth c T locs cells slots) (hexec : p.tables.exec = Jvm.exec) {own C : String} {index : Nat} (hown : s.vm.findClass own = some m.cls) (hlink : (Cond.classLink own index C).before args s = true) {a : Addr} (hE : Exact C a T)
    {g : JFrame} (hg : g.method = m) {rest : List Value} (hstack : g.stack = .ref a :: rest) (hdg : decode c.code g.pc = .ok (.checkcast index, 3)) :
    ∃ T', Stand p l e R s m args below meth c T' locs cells slots ∧ T'.heap = T.heap ∧ ∀ target, Steps p.tables e below (T'.setTop { g with pc := g.pc + 3, stack := .ref a :: rest }) target → Steps p.tables e below (T.setTop g) target := by
  obtain ⟨cB, h1, D, h2, h3, h4⟩ := hE
  have h1' : s.vm.findClass C = some cB := by rw [← X.warmed.alike.findClass]; exact h1
  obtain ⟨vm', X', st⟩ := X.checkcastYes hexec hown hlink h2 h4 h1' (by rw [h3]; exact Jvm.Free.SB.assignable_self _ _) hg hstack hdg
  exact ⟨_, X', rfl, fun t h => st t (by rw [← hstack] at h; exact h)⟩
namespace SEq
def yN : MethodName := ⟨"java/lang/String", "equals", "(Ljava/lang/Object;)Z"⟩
abbrev yB : ByteArray := jdk_42_method_66_code
theorem d0 : decode yB 0 = .ok (.aload_n 0, 1) := by decide +kernel
theorem d1 : decode yB 1 = .ok (.aload_n 1, 1) := by decide +kernel
theorem d2 : decode yB 2 = .ok (.if_acmp (.ne) 5, 3) := by decide +kernel
theorem d5 : decode yB 5 = .ok (.iconst 1, 1) := by decide +kernel
theorem d6 : decode yB 6 = .ok (.ireturn, 1) := by decide +kernel
theorem d7 : decode yB 7 = .ok (.aload_n 1, 1) := by decide +kernel
theorem d8 : decode yB 8 = .ok (.instanceof 10, 3) := by decide +kernel
theorem d11 : decode yB 11 = .ok (.ifCond (.eq) 43, 3) := by decide +kernel
theorem d14 : decode yB 14 = .ok (.aload_n 1, 1) := by decide +kernel
theorem d15 : decode yB 15 = .ok (.checkcast 10, 3) := by decide +kernel
theorem d18 : decode yB 18 = .ok (.astore_n 2, 1) := by decide +kernel
theorem d19 : decode yB 19 = .ok (.getstatic 38, 3) := by decide +kernel
theorem d22 : decode yB 22 = .ok (.ifCond (.eq) 14, 3) := by decide +kernel
theorem d25 : decode yB 25 = .ok (.aload_n 0, 1) := by decide +kernel
theorem d26 : decode yB 26 = .ok (.getfield 15, 3) := by decide +kernel
theorem d29 : decode yB 29 = .ok (.aload_n 2, 1) := by decide +kernel
theorem d30 : decode yB 30 = .ok (.getfield 15, 3) := by decide +kernel
theorem d33 : decode yB 33 = .ok (.if_icmp (.ne) 21, 3) := by decide +kernel
theorem d36 : decode yB 36 = .ok (.aload_n 0, 1) := by decide +kernel
theorem d37 : decode yB 37 = .ok (.getfield 9, 3) := by decide +kernel
theorem d40 : decode yB 40 = .ok (.aload_n 2, 1) := by decide +kernel
theorem d41 : decode yB 41 = .ok (.getfield 9, 3) := by decide +kernel
theorem d44 : decode yB 44 = .ok (.invokestatic 541, 3) := by decide +kernel
theorem d47 : decode yB 47 = .ok (.ifCond (.eq) 7, 3) := by decide +kernel
theorem d50 : decode yB 50 = .ok (.iconst 1, 1) := by decide +kernel
theorem d51 : decode yB 51 = .ok (.goto 4, 3) := by decide +kernel
theorem d54 : decode yB 54 = .ok (.iconst 0, 1) := by decide +kernel
theorem d55 : decode yB 55 = .ok (.ireturn, 1) := by decide +kernel
def site : List Cond := [.classLink "java/lang/String" 10 "java/lang/String", .fieldLink "java/lang/String" 38 "java/lang/String" "COMPACT_STRINGS" "Z", .fieldLink "java/lang/String" 15 "java/lang/String" "coder" "B", .fieldLink "java/lang/String" 9 "java/lang/String" "value" "[B", LEq.tab] ++ staticW "java/lang/String" 541 LEq.yN
def tab : Cond := tabOf yN yB 3 (some .boolean) site
def P (x t : Addr) (V : Cell) (cd : Int32) (n : Nat) (f : Nat → Int32) (y t' : Addr) (V' : Cell) (cd' : Int32) (k : Nat) (g : Nat → Int32) (z : Int32) (args : Array Value) (s : State) : Prop := args = #[.ref x, .ref y] ∧ Txt x t V cd n f s ∧ Txt y t' V' cd' k g s ∧ StaticIs s "java/lang/String" "COMPACT_STRINGS" "Z" (.int z) ∧ ¬ z = 0
/-- equals(Object) of two Strings: whether the texts are the same -/
theorem law (l : Launch) (x t : Addr) (V : Cell) (cd : Int32) (n : Nat) (f : Nat → Int32) (y t' : Addr) (V' : Cell) (cd' : Int32) (k : Nat) (g : Nat → Int32) (z : Int32) : Law l yN 2 1 1 14 yB 3 (some .boolean) site (P x t V cd n f y t' V' cd' k g z) (Says01 (SameT n f k g)) [] 0 0 := by
  refine Law.of_walk (plainFor_of_name (by decide +kernel)) (by decide +kernel) (by decide +kernel) (by decide) (fun _ _ h => by rw [h.1]; rfl) (fun _ U U' hal hh h => ⟨h.1, h.2.1.mv hal hh, h.2.2.1.mv hal hh, h.2.2.2.1.there hal hh, h.2.2.2.2⟩) (fun r U U' V V' h1 hal h2 h => Says01.mv r U U' V V' h1 hal h2 h) ?_
  intro p e s m args below meth c s₁ X0 hexec hbytes hml hret hlk hnm hown hh0 W hP
  obtain ⟨rfl, hx, hy, s1, hz⟩ := hP
  have c1 : Steps p.tables e below (s₁.setTop (entryFrame m #[.ref x, .ref y] 3)) (s₁.setTop (mkF m 2 #[.val (.ref x), .val (.ref y), .unset] [.ref y, .ref x])) := Steps.trans (entry rfl) (by
    show Steps p.tables e below (s₁.setTop (mkF m 0 #[.val (.ref x), .val (.ref y), .unset] [])) _
    refine XS.aloadN X0.here hexec rfl (hb hbytes d0) rfl rfl ?_
    refine XS.aloadN X0.here hexec rfl (hb hbytes d1) rfl rfl ?_
    exact Steps.refl _)
  by_cases hxy : x = y
  · have c2 : Steps p.tables e below (s₁.setTop (entryFrame m #[.ref x, .ref y] 3)) (s₁.setTop (mkF m 6 #[.val (.ref x), .val (.ref y), .unset] [.int 1])) := c1.trans (by
      refine acmpNo X0.here hexec rfl (hb hbytes d2) rfl rfl rfl (by simp [acmp, hxy]) ?_
      refine iconstV X0.here hexec rfl 1 (hb hbytes d5) (by decide) ?_
      exact Steps.refl _)
    subst hxy
    have ec : cd = cd' := by
      obtain ⟨D, fd, a1, a2, a3⟩ := hx.2.2.1
      obtain ⟨D', fd', b1, b2, b3⟩ := hy.2.2.1
      cases a1.symm.trans b1
      obtain ⟨q1, q2, q3, q4⟩ := a2.1
      obtain ⟨r1, r2, r3, r4⟩ := b2.1
      cases q4.symm.trans r4
      cases a3.symm.trans b3; rfl
    have et : t = t' := by
      obtain ⟨D, fd, a1, a2, a3⟩ := hx.2.1
      obtain ⟨D', fd', b1, b2, b3⟩ := hy.2.1
      cases a1.symm.trans b1
      obtain ⟨q1, q2, q3, q4⟩ := a2.1
      obtain ⟨r1, r2, r3, r4⟩ := b2.1
      cases q4.symm.trans r4
      cases a3.symm.trans b3; rfl
    subst ec et
    have ev : V = V' := by cases hx.2.2.2.1.1.symm.trans hy.2.2.2.1.1; rfl
    subst ev
    have hs : SameT n f k g := (Cod.eqv hx.2.2.2.2.1 hy.2.2.2.2.1 hx.2.2.2.2.2 hy.2.2.2.2.2).mp ⟨rfl, fun _ _ => rfl⟩
    exact ⟨s₁, some (.int 1), _, _, _, X0, rfl, rfl, rfl, (fun h => by cases h), ⟨1, rfl, hh0, Or.inl ⟨rfl, hs⟩⟩, fun fs hl => c2.trans (X0.ireturnOut hexec hret rfl (Or.inr (Or.inl rfl)) (hb hbytes d6) hl)⟩
  · have c2 : Steps p.tables e below (s₁.setTop (entryFrame m #[.ref x, .ref y] 3)) (s₁.setTop (mkF m 8 #[.val (.ref x), .val (.ref y), .unset] [.ref y])) := c1.trans (by
      refine acmpYes X0.here hexec rfl (pc0 := 2) rfl (hb hbytes d2) rfl rfl rfl (by simp [acmp, hxy]) (by decide) rfl ?_
      refine XS.aloadN X0.here hexec rfl (hb hbytes d7) rfl rfl ?_
      exact Steps.refl _)
    obtain ⟨T3, X3, q3, st3⟩ := cinst X0 hexec hown (wk W (.classLink "java/lang/String" 10 "java/lang/String")) (hy.mv X0.warmed.alike hh0).1 (g := (mkF m 8 #[.val (.ref x), .val (.ref y), .unset] [.ref y])) rfl (rest := []) rfl (hb hbytes d8)
    have hh3 := q3.trans hh0
    have c4 : Steps p.tables e below (s₁.setTop (entryFrame m #[.ref x, .ref y] 3)) (T3.setTop (mkF m 15 #[.val (.ref x), .val (.ref y), .unset] [.ref y])) := (c2.trans (st3 _ (Steps.refl _))).trans (by
      refine XS.ifNo X3.here hexec rfl (hb hbytes d11) rfl (i0_eq_f (by decide)) ?_
      refine XS.aloadN X3.here hexec rfl (hb hbytes d14) rfl rfl ?_
      exact Steps.refl _)
    obtain ⟨T5, X5, q5, st5⟩ := cself X3 hexec hown (wk W (.classLink "java/lang/String" 10 "java/lang/String")) (hy.mv X3.warmed.alike hh3).1 (g := (mkF m 15 #[.val (.ref x), .val (.ref y), .unset] [.ref y])) rfl (rest := []) rfl (hb hbytes d15)
    have hh5 := q5.trans hh3
    have c6 : Steps p.tables e below (s₁.setTop (entryFrame m #[.ref x, .ref y] 3)) (T5.setTop (mkF m 19 #[.val (.ref x), .val (.ref y), .val (.ref y)] [])) := (c4.trans (st5 _ (Steps.refl _))).trans (by
      refine XS.astoreN X5.here hexec rfl (hb hbytes d18) rfl rfl rfl ?_
      exact Steps.refl _)
    obtain ⟨T7, X7, q7, st7⟩ := X5.sget hexec hown (wk W (.fieldLink "java/lang/String" 38 "java/lang/String" "COMPACT_STRINGS" "Z")) s1 (fun _ _ h => by rw [hh5]; exact h) (g := (mkF m 19 #[.val (.ref x), .val (.ref y), .val (.ref y)] [])) rfl (hb hbytes d19)
    have hh7 := q7.trans hh5
    have c8 : Steps p.tables e below (s₁.setTop (entryFrame m #[.ref x, .ref y] 3)) (T7.setTop (mkF m 26 #[.val (.ref x), .val (.ref y), .val (.ref y)] [.ref x])) := (c6.trans (st7 _ (Steps.refl _))).trans (by
      refine XS.ifNo X7.here hexec rfl (hb hbytes d22) rfl (i0_eq_f hz) ?_
      refine XS.aloadN X7.here hexec rfl (hb hbytes d25) rfl rfl ?_
      exact Steps.refl _)
    obtain ⟨T9, X9, q9, st9⟩ := X7.hget hexec hown (wk W (.fieldLink "java/lang/String" 15 "java/lang/String" "coder" "B")) (hx.mv X7.warmed.alike hh7).2.2.1 (g := (mkF m 26 #[.val (.ref x), .val (.ref y), .val (.ref y)] [.ref x])) rfl (rest := []) rfl (hb hbytes d26)
    have hh9 := q9.trans hh7
    have c10 : Steps p.tables e below (s₁.setTop (entryFrame m #[.ref x, .ref y] 3)) (T9.setTop (mkF m 30 #[.val (.ref x), .val (.ref y), .val (.ref y)] [.ref y, .int cd])) := (c8.trans (st9 _ (Steps.refl _))).trans (by
      refine XS.aloadN X9.here hexec rfl (hb hbytes d29) rfl rfl ?_
      exact Steps.refl _)
    obtain ⟨T11, X11, q11, st11⟩ := X9.hget hexec hown (wk W (.fieldLink "java/lang/String" 15 "java/lang/String" "coder" "B")) (hy.mv X9.warmed.alike hh9).2.2.1 (g := (mkF m 30 #[.val (.ref x), .val (.ref y), .val (.ref y)] [.ref y, .int cd])) rfl (rest := [.int cd]) rfl (hb hbytes d30)
    have hh11 := q11.trans hh9
    have c12 : Steps p.tables e below (s₁.setTop (entryFrame m #[.ref x, .ref y] 3)) (T11.setTop (mkF m 33 #[.val (.ref x), .val (.ref y), .val (.ref y)] [.int cd', .int cd])) := c10.trans (st11 _ (Steps.refl _))
    by_cases hcd : cd = cd'
    · subst hcd
      have c13 : Steps p.tables e below (s₁.setTop (entryFrame m #[.ref x, .ref y] 3)) (T11.setTop (mkF m 37 #[.val (.ref x), .val (.ref y), .val (.ref y)] [.ref x])) := c12.trans (by
        refine XS.icmpNo X11.here hexec rfl (hb hbytes d33) rfl (ii_ne_f rfl) ?_
        refine XS.aloadN X11.here hexec rfl (hb hbytes d36) rfl rfl ?_
        exact Steps.refl _)
      obtain ⟨T14, X14, q14, st14⟩ := X11.hget hexec hown (wk W (.fieldLink "java/lang/String" 9 "java/lang/String" "value" "[B")) (hx.mv X11.warmed.alike hh11).2.1 (g := (mkF m 37 #[.val (.ref x), .val (.ref y), .val (.ref y)] [.ref x])) rfl (rest := []) rfl (hb hbytes d37)
      have hh14 := q14.trans hh11
      have c15 : Steps p.tables e below (s₁.setTop (entryFrame m #[.ref x, .ref y] 3)) (T14.setTop (mkF m 41 #[.val (.ref x), .val (.ref y), .val (.ref y)] [.ref y, .ref t])) := (c13.trans (st14 _ (Steps.refl _))).trans (by
        refine XS.aloadN X14.here hexec rfl (hb hbytes d40) rfl rfl ?_
        exact Steps.refl _)
      obtain ⟨T16, X16, q16, st16⟩ := X14.hget hexec hown (wk W (.fieldLink "java/lang/String" 9 "java/lang/String" "value" "[B")) (hy.mv X14.warmed.alike hh14).2.1 (g := (mkF m 41 #[.val (.ref x), .val (.ref y), .val (.ref y)] [.ref y, .ref t])) rfl (rest := [.ref t]) rfl (hb hbytes d41)
      have hh16 := q16.trans hh14
      have c17 : Steps p.tables e below (s₁.setTop (entryFrame m #[.ref x, .ref y] 3)) (T16.setTop (mkF m 44 #[.val (.ref x), .val (.ref y), .val (.ref y)] [.ref t', .ref t])) := c15.trans (st16 _ (Steps.refl _))
      obtain ⟨v18, T18, X18, E18, g18⟩ := X16.callS hexec (LEq.law l t V t' V') hown (wks W (staticW "java/lang/String" 541 LEq.yN)) (wk W LEq.tab) (W := 0) (Nat.le_of_ble_eq_true rfl) (Nat.le_of_ble_eq_true rfl) (Nat.le_refl _) (Nat.le_refl _) (g := (mkF m 44 #[.val (.ref x), .val (.ref y), .val (.ref y)] [.ref t', .ref t])) rfl (by rw [hml]; rfl) c17 (argsL := [.ref t, .ref t']) (rest := []) rfl rfl (by show 2 * 0 + 0 ≤ _; decide) (hb hbytes d44) (⟨rfl, hx.2.2.2.1.mv X16.warmed.alike hh16, hx.2.2.2.2.1.ty, hy.2.2.2.1.mv X16.warmed.alike hh16, hy.2.2.2.2.1.ty⟩)
      obtain ⟨v, rfl, q18, hv⟩ := E18
      have iff := Cod.eqv hx.2.2.2.2.1 hy.2.2.2.2.1 hx.2.2.2.2.2 hy.2.2.2.2.2
      rcases hv with ⟨rfl, he⟩ | ⟨rfl, he⟩
      · have c19 : Steps p.tables e below (s₁.setTop (entryFrame m #[.ref x, .ref y] 3)) (T18.setTop (mkF m 55 #[.val (.ref x), .val (.ref y), .val (.ref y)] [.int 1])) := Steps.trans g18 (by
          refine XS.ifNo X18.here hexec rfl (hb hbytes d47) rfl (i0_eq_f (by decide)) ?_
          refine iconstV X18.here hexec rfl 1 (hb hbytes d50) (by decide) ?_
          refine XS.goto X18.here hexec rfl (pc0 := 51) rfl (hb hbytes d51) (by decide) rfl ?_
          exact Steps.refl _)
        exact ⟨T18, some (.int 1), _, _, _, X18, rfl, rfl, rfl, (fun h => by cases h), ⟨1, rfl, q18.trans hh16, Or.inl ⟨rfl, iff.mp he⟩⟩, fun fs hl => c19.trans (X18.ireturnOut hexec hret rfl (Or.inr (Or.inl rfl)) (hb hbytes d55) hl)⟩
      · have c19 : Steps p.tables e below (s₁.setTop (entryFrame m #[.ref x, .ref y] 3)) (T18.setTop (mkF m 55 #[.val (.ref x), .val (.ref y), .val (.ref y)] [.int 0])) := Steps.trans g18 (by
          refine XS.ifYes X18.here hexec rfl (pc0 := 47) rfl (hb hbytes d47) rfl (i0_eq_t rfl) (by decide) rfl ?_
          refine iconstV X18.here hexec rfl 0 (hb hbytes d54) (by decide) ?_
          exact Steps.refl _)
        exact ⟨T18, some (.int 0), _, _, _, X18, rfl, rfl, rfl, (fun h => by cases h), ⟨0, rfl, q18.trans hh16, Or.inr ⟨rfl, fun q => he (iff.mpr q)⟩⟩, fun fs hl => c19.trans (X18.ireturnOut hexec hret rfl (Or.inr (Or.inl rfl)) (hb hbytes d55) hl)⟩
    · have c13 : Steps p.tables e below (s₁.setTop (entryFrame m #[.ref x, .ref y] 3)) (T11.setTop (mkF m 55 #[.val (.ref x), .val (.ref y), .val (.ref y)] [.int 0])) := c12.trans (by
        refine XS.icmpYes X11.here hexec rfl (pc0 := 33) rfl (hb hbytes d33) rfl (ii_ne_t hcd) (by decide) rfl ?_
        refine iconstV X11.here hexec rfl 0 (hb hbytes d54) (by decide) ?_
        exact Steps.refl _)
      exact ⟨T11, some (.int 0), _, _, _, X11, rfl, rfl, rfl, (fun h => by cases h), ⟨0, rfl, hh11, Or.inr ⟨rfl, Cod.dif hx.2.2.2.2.1 hy.2.2.2.2.1 hcd⟩⟩, fun fs hl => c13.trans (X11.ireturnOut hexec hret rfl (Or.inr (Or.inl rfl)) (hb hbytes d55) hl)⟩
theorem pays {l : Launch} {R : Room} {p : Program} {e : Env} {below : List Frame} {s : State} {sargs : Array Value} {len W : Nat} (x t : Addr) (V : Cell) (cd : Int32) (n : Nat) (f : Nat → Int32) (y t' : Addr) (V' : Cell) (cd' : Int32) (k : Nat) (g : Nat → Int32) (z : Int32) (htab : tab.before sargs s = true) (hfr : 2 ≤ R.frames) (hlo : W + 28 ≤ R.locals) :
    Back l R p e below s sargs yN len W (fun A₁ a₁ => A₁.cells + 0 ≤ R.cells ∧ A₁.slots + 0 ≤ R.slots ∧ P x t V cd n f y t' V' cd' k g z a₁ A₁.U) (fun A₁ _ v₁ B₁ => Says01 (SameT n f k g) v₁ A₁.U B₁.U ∧ B₁.locs = A₁.locs ++ [] ∧ B₁.cells = A₁.cells + 0 ∧ B₁.slots = A₁.slots + 0) :=
  (law l x t V cd n f y t' V' cd' k g z).pays htab hfr (by omega)
end SEq
end StrChars
namespace StrChars.Road
open Jvm Sem ClassFile Op Lib Jvm.Stand Jvm.Free Jvm.Free.XT
open Jvm.Lib.Cold (StaticIs)
/-- the words of String.equals(Object) -/
abbrev wordsEq : List Jvm.Cond := [.code SEq.yN SEq.yB 3 (some .boolean), .initialized ST, .classLink ST 10 ST, .fieldLink ST 38 ST "COMPACT_STRINGS" "Z", .fieldLink ST 15 ST "coder" "B", .fieldLink ST 9 ST "value" "[B", .methodLink ST 541 LEq.yN, .static LEq.yN, .code LEq.yN LEq.yB 3 (some .boolean), .initialized "java/lang/StringLatin1"]
theorem tabEq_of {a : Array Value} {s : State} (h : ∀ w ∈ wordsEq, w.before a s = true) : SEq.tab.before a s = true := by
  have hl : LEq.tab.before a s = true := unparts (wk h (.code LEq.yN LEq.yB 3 (some .boolean))) (wks h (.initialized LEq.yN.cls :: LEq.site))
  have q := consq hl h
  exact unparts (wk q (.code SEq.yN SEq.yB 3 (some .boolean))) (wks q (.initialized SEq.yN.cls :: SEq.site))
theorem movedEq {Z s : State} {a0 args : Array Value} (hZ : Z.Warmed39 s.vm) (hw : ∀ d ∈ wordsEq, d.before a0 Z = true) : ∀ d ∈ wordsEq, d.before args s = true := fun d hd => by
  have t : ∀ d ∈ wordsEq, (d.onTables && d.keepsFace) = true := by decide +kernel
  exact RoadKit.mv hZ (hw d hd) (t d hd)
/-- the road's facts of a String, as the laws ask it -/
theorem txt_of {Z U : State} {a0 : Array Value} {kI : Nat} (wi : (Jvm.Cond.instantiable ST kI).before a0 Z = true) (al : Z.vm.Alike U.vm) {x t : Addr} {kb : ClassId} {cs : List Int32} {cd N2 : Int32} {vs : List Value} (E : RoadKit.Exa Z U.heap x ST) (V : RoadKit.Fld Z U.heap x ST "value" "[B" (.ref t)) (C : RoadKit.Fld Z U.heap x ST "coder" "B" (.int cd)) (K : RoadKit.Arv Z U.heap t kb .byte N2 vs (.int 0)) (hc : CodA cs cd N2 vs) (hb : ∀ c ∈ cs, ¬ c < 0 ∧ ¬ (65535 : Int32) < c) (l2 : cs.length ≤ 4000) :
    ∃ A, Txt x t A cd cs.length (fun j => cs.getD j 0) U := by
  obtain ⟨A, K1, K2, K3, K4, K5, K6⟩ := K
  have hcod := hc.cod (by omega) K3 K5
  obtain ⟨D, fV, fC, hB, F1, F2, g1, g2, -, -⟩ := strObj wi al E V C
  exact ⟨A, ⟨_, hB.2.2.1, D, hB.1, rfl, by cases q : D.vm <;> first | rfl | exact absurd q (hB.2.1.2 _)⟩, Has.of hB F1 g1, Has.of hB F2 g2, ⟨K1.1, State.isArrayOf_alike al K1.2.1, K1.2.2, by rcases hcod with ⟨-, q, -⟩ | ⟨-, q, -⟩ <;> omega⟩, hcod, fun j hj => by
    have e : cs.getD j 0 = cs[j] := by simp [List.getD_eq_getElem?_getD, hj]
    show ¬ cs.getD j 0 < 0 ∧ ¬ 65535 < cs.getD j 0
    rw [e]; exact hb _ (List.getElem_mem _)⟩
theorem same_list (cs ds : List Int32) : SameT cs.length (fun j => cs.getD j 0) ds.length (fun j => ds.getD j 0) ↔ cs = ds := by
  constructor
  · rintro ⟨e, q⟩
    refine List.ext_getElem e fun j h1 h2 => ?_
    have := q j h1
    simpa [List.getD_eq_getElem?_getD, h1, h2] using this
  · rintro rfl
    exact ⟨rfl, fun _ _ => rfl⟩
/-- **equals(Object) OF TWO SUCH STRINGS**: 1 just where the chars are the same -/
theorem eqW {p : Program} {l : Launch} {e : Env} {R : Room} {s : State} {args : Array Value} {below : List Frame} {len W : Nat} {Z : State} {a0 : Array Value} {h : Heap} (hZ : Z.Warmed39 s.vm) (hw : ∀ d ∈ wordsEq, d.before a0 Z = true) {kI : Nat} (wi : (Jvm.Cond.instantiable ST kI).before a0 Z = true)
    {x t : Addr} {kb : ClassId} {cs : List Int32} {cd N2 : Int32} {vs : List Value} (E : RoadKit.Exa Z h x ST) (V : RoadKit.Fld Z h x ST "value" "[B" (.ref t)) (C : RoadKit.Fld Z h x ST "coder" "B" (.int cd)) (K : RoadKit.Arv Z h t kb .byte N2 vs (.int 0)) (hc : CodA cs cd N2 vs) (hb : ∀ c ∈ cs, ¬ c < 0 ∧ ¬ (65535 : Int32) < c) (l2 : cs.length ≤ 4000)
    {y t' : Addr} {kb' : ClassId} {ds : List Int32} {cd' N2' : Int32} {vs' : List Value} (E' : RoadKit.Exa Z h y ST) (V' : RoadKit.Fld Z h y ST "value" "[B" (.ref t')) (C' : RoadKit.Fld Z h y ST "coder" "B" (.int cd')) (K' : RoadKit.Arv Z h t' kb' .byte N2' vs' (.int 0)) (hc' : CodA ds cd' N2' vs') (hb' : ∀ c ∈ ds, ¬ c < 0 ∧ ¬ (65535 : Int32) < c) (l2' : ds.length ≤ 4000)
    {z : Int32} (S : RoadKit.Sta Z h ST "COMPACT_STRINGS" "Z" (.int z)) (hz : ¬ z = 0) (hfr : 2 ≤ R.frames) (hlo : W + 28 ≤ R.locals) :
    Back l R p e below s args (⟨"java/lang/String", "equals", "(Ljava/lang/Object;)Z"⟩ : MethodName) len W (fun P a => a = #[.ref x, .ref y] ∧ P.U.heap = h ∧ P.cells + 0 ≤ R.cells ∧ P.slots + 0 ≤ R.slots)
      (fun P _ v B => ∃ L, (((v = some (.int 1) ∧ cs = ds) ∨ (v = some (.int 0) ∧ ¬ cs = ds)) ∧ L = [] ∧ B.U.heap = h) ∧ B.locs = P.locs ++ L ∧ B.cells = P.cells + 0 ∧ B.slots = P.slots + 0) := by
  intro m meth c P g ig mk a X hg hsize hdg hW hn hp'
  obtain ⟨rfl, rfl, r1, r2⟩ := hp'
  have al : Z.vm.Alike P.U.vm := hZ.alike.trans X.warmed.alike
  obtain ⟨A, hx⟩ := txt_of wi al E V C K hc hb l2
  obtain ⟨A', hy⟩ := txt_of wi al E' V' C' K' hc' hb' l2'
  obtain ⟨v, B, X', ⟨⟨w, hv, hh, hq⟩, hl, hk, hs⟩, st⟩ := SEq.pays x t A cd cs.length (fun j => cs.getD j 0) y t' A' cd' ds.length (fun j => ds.getD j 0) z (tabEq_of (movedEq hZ hw)) hfr hlo m meth c P g ig mk _ X hg hsize hdg hW hn ⟨r1, r2, rfl, hx, hy, sta_is al S, hz⟩
  refine ⟨v, B, X', ⟨[], ⟨?_, rfl, hh⟩, hl, hk, hs⟩, st⟩
  rcases hq with ⟨rfl, q⟩ | ⟨rfl, q⟩
  · exact Or.inl ⟨hv, (same_list cs ds).mp q⟩
  · exact Or.inr ⟨hv, fun e => q ((same_list cs ds).mpr e)⟩
end StrChars.Road
namespace StrChars.Road
open Jvm Sem ClassFile Op Lib Jvm.Stand Jvm.Free Jvm.Free.XT
open Jvm.Lib.Cold (StaticIs)
/-- what backV says of its String, as the contracts of this text ask it: cs's low bytes, coder 0 -/
theorem codOf {cs : List Int32} {n : Nat} (hn : cs.length = n) (hb : ∀ c ∈ cs, ¬ 255 < c) : CodA cs 0 (Int32.ofNat n) ((cs.map lo8).map Value.int) := Or.inl ⟨rfl, by rw [hn], by simp [List.map_map, Function.comp_def], hb⟩
end StrChars.Road
end Jvm.Pilot.@@N@@

namespace Jvm.Pilot.@@N@@
open Jvm Jvm.ClassFile Sem Op Lib Jvm.Free Jvm.Stand Jvm.LawKit Jvm.RoadKit Bundle Jvm.Pilot.@@N@@.Jvm.D
theorem ow {Z : State} {a0 : Array Value} (hw : ∀ d ∈ tables_1, d.before a0 Z = true) (i : Nat) {d : Jvm.Cond} (h : tables_1[i]? = some d) : d.before a0 Z = true := hw _ (List.mem_of_getElem? h)
theorem own_irr {x : Int32} : ¬ x < x := fun h => Int.lt_irrefl _ (Int32.lt_iff_toInt_lt.mp h)
theorem own_neA {Z : State} {h : Heap} {a b : Addr} {k k' : ClassId} {ty ty' : FieldType} {z z' : Int32} {vs vs' : List Value} {d d' : Value} (A : Arv Z h a k ty z vs d) (B : Arv Z h b k' ty' z' vs' d') (hn : ty ≠ ty') : a ≠ b := fun q => by
  subst q
  obtain ⟨c1, ⟨e1, hA, -⟩, -⟩ := A
  obtain ⟨c2, ⟨e2, hB, -⟩, -⟩ := B
  cases e1.symm.trans e2
  obtain ⟨-, k1, g1, comp, hk⟩ := hA
  obtain ⟨-, k2, g2, comp', hk'⟩ := hB
  cases g1.symm.trans g2
  rw [hk] at hk'
  injection hk' with h1 h2
  exact hn h2
section Own
variable {p : Program} {l : Launch} {e : Env} {R : Room} {s : State} {m : MethodId} {args : Array Value} {below : List Frame} {meth : Method} {c : Code} {T : State} {locs : List Loc} {cells slots : Nat} {Z : State} {a0 : Array Value} {h : Heap} {vm0 : Vm} {EL : List (String × Nat)}
/-! own layer: contracts in CPS form. G is the goal at a state; go takes steps backwards, fin ends the walk. -/
def own_MetN (l : Launch) (Z : State) (y : MethodName) (bytes : ByteArray) (maxL : Nat) (ret : Option FieldType) (ws : List Jvm.Cond) (rm : Room) (as' : Array Value) (h0 : Heap) (Q : Option Value → Heap → List Loc → Prop) : Prop :=
  MetFree l y (head1 (Jvm.Cond.code y bytes maxL ret :: ws) rm) (fun a U => a = as' ∧ Z.Warmed39 U.vm ∧ U.heap = h0) (fun _ _ _ _ _ => True) (fun _ U o U' => ∃ v L, o = .returned v ∧ Q v U'.heap L ∧ FrameEnd U o U' L rm.cells rm.slots)
def own_MetH (l : Launch) (Z : State) (EL : List (String × Nat)) (y : MethodName) (bytes : ByteArray) (maxL : Nat) (ret : Option FieldType) (ws : List Jvm.Cond) (rm : Room) (as' : Array Value) (h0 : Heap) (Q : Option Value → Heap → List Loc → Prop) : Prop :=
  MetFree l y (head1 (Jvm.Cond.code y bytes maxL ret :: ws) rm) (fun a U => a = as' ∧ Z.Warmed39 U.vm ∧ U.heap = h0 ∧ CHv Z EL U.vm h0) (fun _ _ _ _ _ => True) (fun _ U o U' => ∃ v L, o = .returned v ∧ Q v U'.heap L ∧ CHr Z EL U.vm U.heap U'.vm U'.heap ∧ ReturnedEndW U o U' L rm.cells rm.slots)
def own_Go (p : Program) (e : Env) (below : List Frame) (G : State → Prop) : Prop := ∀ A B, (∀ t, Steps p.tables e below B t → Steps p.tables e below A t) → G B → G A
def own_Ret (p : Program) (e : Env) (below : List Frame) (m : MethodId) (T : State) (v : Option Value) (g : JFrame) : Prop :=
  ∀ fs, (∀ (f : JFrame) (acts : List Action), f.method = m → f.locked = none → f.entered = [] → (doReturn e (T.setTop f) acts v).1 = T.setFrames fs) → Steps p.tables e below (T.setTop g) (T.setFrames fs)
theorem own_metN {y : MethodName} {bytes : ByteArray} {maxL : Nat} {ret : Option FieldType} {ws : List Jvm.Cond} {rm : Room} {as' : Array Value} {h0 : Heap} {Q : Option Value → Heap → List Loc → Prop} (pn : plainFor y = true)
    (K : ∀ (p : Program) (e : Env) (s : State) (m : MethodId) (below : List Frame) (meth : Method) (c : Code) (s₁ : State) (G : State → Prop), p.tables.exec = Jvm.exec → c.code = bytes → c.maxLocals = maxL → Z.Warmed39 s.vm → s.vm.findClass y.cls = some m.cls → meth.name = y.name → meth.sig.returnType = ret →
      Stand p l e rm s m as' below meth c s₁ [] 0 0 → s₁.heap = h0 → own_Go p e below G →
      (∀ (T : State) (L : List Loc) (cells slots : Nat) (v : Option Value), Stand p l e rm s m as' below meth c T L cells slots → (ret = none → v = none) → cells ≤ rm.cells → slots ≤ rm.slots → Q v T.heap L → ∀ g : JFrame, own_Ret p e below m T v g → G (T.setTop g)) →
      G (s₁.setTop (entryFrame m as' maxL))) :
    own_MetN l Z y bytes maxL ret ws rm as' h0 Q := by
  refine MetFree.of_bodySF pn hisR ?_
  intro p e s m args below meth c s₁ Bd hml0 hP hK
  obtain ⟨rfl, hZ, hh⟩ := hP
  refine K p e s m below meth c s₁ (fun A => ∃ s₂ o, Steps p.tables e below A s₂ ∧ s₂.status = .running ∧ Ended s₂ below o ∧ ∃ v L, o = .returned v ∧ Q v s₂.heap L ∧ FrameEnd s o s₂ L rm.cells rm.slots) Bd.exec Bd.bytes hml0 hZ (findClass_of_methodNamed Bd.named) (name_of_methodNamed Bd.named Bd.method).1 Bd.returns (Stand.of_body Bd) (by rw [← hh, Bd.state]; rfl) ?_ ?_
  · rintro A B st ⟨s₂, o, h1, h2⟩; exact ⟨s₂, o, st _ h1, h2⟩
  · intro T L cells slots v X hv hc hs hq g hg
    obtain ⟨fs, hr, hrun, hended, hW, hsame⟩ := X.leave (v := v) (fun q => hv (Bd.returns.symm.trans q))
    exact ⟨_, _, hg fs hr, hrun, hended, _, _, rfl, hq, ⟨_, rfl⟩, hW, hsame.mono hc hs⟩
theorem own_metH {y : MethodName} {bytes : ByteArray} {maxL : Nat} {ret : Option FieldType} {ws : List Jvm.Cond} {rm : Room} {as' : Array Value} {h0 : Heap} {Q : Option Value → Heap → List Loc → Prop} (pn : plainFor y = true) (hEL : EW Z a0 EL)
    (K : ∀ (p : Program) (e : Env) (s : State) (m : MethodId) (below : List Frame) (meth : Method) (c : Code) (s₁ : State) (G : State → Prop), p.tables.exec = Jvm.exec → c.code = bytes → c.maxLocals = maxL → Z.Warmed39 s.vm → s.vm.findClass y.cls = some m.cls → meth.name = y.name → meth.sig.returnType = ret →
      Stand p l e rm (s.setVm s.vm) m as' below meth c s₁ [] 0 0 → s₁.heap = h0 → s.Since s.vm h0.size → CHr Z EL s.vm h0 s.vm h0 → own_Go p e below G →
      (∀ (T : State) (L : List Loc) (cells slots : Nat) (v : Option Value) (vm0 : Vm) (k0 : Nat), Stand p l e rm (s.setVm vm0) m as' below meth c T L cells slots → Z.Warmed39 vm0 → s.Since vm0 k0 → k0 ≤ T.heap.size → CHr Z EL s.vm h0 vm0 T.heap → (ret = none → v = none) → cells ≤ rm.cells → slots ≤ rm.slots → Q v T.heap L → ∀ g : JFrame, own_Ret p e below m T v g → G (T.setTop g)) →
      G (s₁.setTop (entryFrame m as' maxL))) :
    own_MetH l Z EL y bytes maxL ret ws rm as' h0 Q := by
  refine MetFree.of_bodySF pn hisR ?_
  intro p e s m args below meth c s₁ Bd hml0 hP hK
  obtain ⟨rfl, hZ, hh, hC⟩ := hP
  refine K p e s m below meth c s₁ (fun A => ∃ s₂ o, Steps p.tables e below A s₂ ∧ s₂.status = .running ∧ Ended s₂ below o ∧ ∃ v L, o = .returned v ∧ Q v s₂.heap L ∧ CHr Z EL s.vm s.heap s₂.vm s₂.heap ∧ ReturnedEndW s o s₂ L rm.cells rm.slots) Bd.exec Bd.bytes hml0 hZ (findClass_of_methodNamed Bd.named) (name_of_methodNamed Bd.named Bd.method).1 Bd.returns (Stand.of_body Bd) (by rw [← hh, Bd.state]; rfl) ((State.WarmedH.refl s).since _) (CHr.refl hC) ?_ ?_
  · rintro A B st ⟨s₂, o, h1, h2⟩; exact ⟨s₂, o, st _ h1, h2⟩
  · intro T L cells slots v vm0 k0 X hZ0 hS hk hR hv hc hs hq g hg
    obtain ⟨fs, hr, hrun, hended, e1, e2, e3, e4⟩ := X.leaveW (v := v) hS hk (fun q => hv (Bd.returns.symm.trans q))
    refine ⟨_, _, hg fs hr, hrun, hended, _, _, rfl, hq, ?_, e1, e2, e3, e4.mono hc hs⟩
    rw [hh]
    show CHr Z EL s.vm h0 T.vm T.heap
    exact hR.trans (CHv.at X hZ0 hEL hR.1)
theorem own_nfS {y y' z' : MethodName} {C' : String} {as' : Array Value} (hc : z'.cls = y.cls) (ws : (Jvm.Cond.selects C' y' z').before as' s = true) : NotFace s y := fun r0 h0 => by
  obtain ⟨c2, r2, m2, -, -, q3, -, kP, hkP, hkPi⟩ := Cond.selects_spec ws
  have f1 := findClass_of_methodNamed h0
  have f2 := findClass_of_methodNamed q3
  rw [hc] at f2
  have e : m2.cls = r0.cls := Option.some.inj (f2.symm.trans f1)
  rw [e] at hkP
  exact ⟨kP, hkP, hkPi⟩
/-! calls: the callee's law in backOf's shape pays -/
theorem own_bkN {y : MethodName} {bytes : ByteArray} {maxL : Nat} {ret : Option FieldType} {rm : Room} {len W : Nat} {as' : Array Value} {Q : Option Value → Heap → List Loc → Prop} (hM : own_MetN l Z y bytes maxL ret [] rm as' h Q)
    (hZ : Z.Warmed39 s.vm) (wc : (Jvm.Cond.code y bytes maxL ret).before a0 Z = true) (wz : (Jvm.Cond.initialized y.cls).before a0 Z = true) (hf : rm.frames + 1 ≤ R.frames) (hl : W + (maxL + 11) + rm.locals ≤ R.locals) :
    Back l R p e below s args y len W (fun A a => a = as' ∧ A.U.heap = h ∧ A.cells + rm.cells ≤ R.cells ∧ A.slots + rm.slots ≤ R.slots) (fun A _ v B => ∃ L, Q v B.U.heap L ∧ B.locs = A.locs ++ L ∧ B.cells = A.cells + rm.cells ∧ B.slots = A.slots + rm.slots) :=
  backOf (Q := Q) hM hZ wc wz hf hl
theorem own_bkH {y : MethodName} {bytes : ByteArray} {maxL : Nat} {ret : Option FieldType} {rm : Room} {len W : Nat} {as' : Array Value} {Q : Option Value → Heap → List Loc → Prop} (hM : own_MetH l Z EL y bytes maxL ret [] rm as' h Q)
    (hZ : Z.Warmed39 vm0) (wc : (Jvm.Cond.code y bytes maxL ret).before a0 Z = true) (wz : (Jvm.Cond.initialized y.cls).before a0 Z = true) (hf : rm.frames + 1 ≤ R.frames) (hl : W + (maxL + 11) + rm.locals ≤ R.locals) (hEL : EW Z a0 EL) (H : CHv Z EL vm0 h) :
    BackS l R p e below (s.setVm vm0) args y len W (fun A a => a = as' ∧ A.U.heap = h ∧ A.cells + rm.cells ≤ R.cells ∧ A.slots + rm.slots ≤ R.slots) (fun A _ v B => ∃ L, Q v B.U.heap L ∧ B.locs = A.locs ++ L ∧ B.cells = A.cells + rm.cells ∧ B.slots = A.slots + rm.slots ∧ CHr Z EL vm0 h B.U.vm B.U.heap) :=
  backOfSH (Q := Q) hM hZ wc wz hf hl hEL H
theorem own_st (X : Stand p l e R s m args below meth c T locs cells slots) (hx : p.tables.exec = Jvm.exec) (hZ : Z.Warmed39 s.vm) {own : String} {index : Nat} {y : MethodName} {bytes : ByteArray} {maxL : Nat} {ret : Option FieldType}
    (hown : s.vm.findClass own = some m.cls) (w1 : (Jvm.Cond.methodLink own index y).before a0 Z = true) (w2 : (Jvm.Cond.static y).before a0 Z = true) (w3 : (Jvm.Cond.initialized y.cls).before a0 Z = true) (w4 : (Jvm.Cond.code y bytes maxL ret).before a0 Z = true)
    (hy : y.cls ≠ "java/lang/invoke/MethodHandle" ∧ y.cls ≠ "java/lang/invoke/VarHandle") {W kc ks : Nat} {as' : Array Value} {Q : Option Value → Heap → List Loc → Prop}
    (hK : Back l R p e below s args y 3 W (fun A a => a = as' ∧ A.U.heap = h ∧ A.cells + kc ≤ R.cells ∧ A.slots + ks ≤ R.slots) (fun A _ v B => ∃ L, Q v B.U.heap L ∧ B.locs = A.locs ++ L ∧ B.cells = A.cells + kc ∧ B.slots = A.slots + ks))
    (eT : T.heap = h) {g : JFrame} (hg : g.method = m) (hsize : g.locals.size = c.maxLocals) {argsL rest : List Value} (ha : argsL.toArray = as') (hlen : ∀ sig, parseMethodDescriptor y.desc = some sig → argsL.length = sig.parameters.length)
    (hstack : g.stack = argsL.reverse ++ rest) (hW : 2 * g.monitorRoom + (rest.map fun v => v.category).sum ≤ W) (hdg : decode c.code g.pc = .ok (.invokestatic index, 3)) (hc : cells + kc ≤ R.cells) (hs : slots + ks ≤ R.slots) :
    ∃ (v : Option Value) (T' : State) (L : List Loc), Stand p l e R s m args below meth c T' (locs ++ L) (cells + kc) (slots + ks) ∧ Q v T'.heap L ∧ ∀ t, Steps p.tables e below (T'.setTop { g with pc := g.pc + 3, stack := v.toList ++ rest }) t → Steps p.tables e below (T.setTop g) t := by
  obtain ⟨v, vm₁, ⟨T', L', k', n'⟩, -, X', ⟨L, hq, hl, hk, hn⟩, st⟩ := Jvm.LawKit.callS X hx hown (mvT hZ w1) (mvT hZ w2) (mvT hZ w3) (mvT hZ w4) hy hK hg hsize hlen hstack hW hdg (fun _ _ => ⟨ha, eT, hc, hs⟩)
  dsimp only [Pt.U, Pt.locs, Pt.cells, Pt.slots] at X' hq hl hk hn st
  subst hl hk hn
  exact ⟨v, T', L, X', hq, st⟩
theorem own_sp (X : Stand p l e R s m args below meth c T locs cells slots) (hx : p.tables.exec = Jvm.exec) (hZ : Z.Warmed39 s.vm) {own : String} {index : Nat} {y : MethodName} {bytes : ByteArray} {maxL : Nat} (hy1 : y.name = "<init>")
    (hown : s.vm.findClass own = some m.cls) (w1 : (Jvm.Cond.methodLink own index y).before a0 Z = true) (w2 : (Jvm.Cond.instanceMethod y).before a0 Z = true) (w4 : (Jvm.Cond.code y bytes maxL none).before a0 Z = true)
    (hy : y.cls ≠ "java/lang/invoke/MethodHandle" ∧ y.cls ≠ "java/lang/invoke/VarHandle") {W kc ks : Nat} {as' : Array Value} {Q : Option Value → Heap → List Loc → Prop}
    (hK : Back l R p e below s args y 3 W (fun A a => a = as' ∧ A.U.heap = h ∧ A.cells + kc ≤ R.cells ∧ A.slots + ks ≤ R.slots) (fun A _ v B => ∃ L, Q v B.U.heap L ∧ B.locs = A.locs ++ L ∧ B.cells = A.cells + kc ∧ B.slots = A.slots + ks))
    (eT : T.heap = h) {g : JFrame} (hg : g.method = m) (hsize : g.locals.size = c.maxLocals) {a : Addr} {argsL rest : List Value} (ha : (.ref a :: argsL).toArray = as') (hlen : ∀ sig, parseMethodDescriptor y.desc = some sig → argsL.length = sig.parameters.length)
    (hstack : g.stack = argsL.reverse ++ .ref a :: rest) (hW : 2 * g.monitorRoom + (rest.map fun v => v.category).sum ≤ W) (hdg : decode c.code g.pc = .ok (.invokespecial index, 3)) (hc : cells + kc ≤ R.cells) (hs : slots + ks ≤ R.slots) :
    ∃ (v : Option Value) (T' : State) (L : List Loc), Stand p l e R s m args below meth c T' (locs ++ L) (cells + kc) (slots + ks) ∧ Q v T'.heap L ∧ ∀ t, Steps p.tables e below (T'.setTop { g with pc := g.pc + 3, stack := v.toList ++ rest }) t → Steps p.tables e below (T.setTop g) t := by
  obtain ⟨v, vm₁, ⟨T', L', k', n'⟩, -, X', ⟨L, hq, hl, hk, hn⟩, st⟩ := X.specialBack hx hy1 hown (mvT hZ w1) (mvT hZ w2) (mvT hZ w4) hy hK hg hsize (Steps.refl _) hlen hstack hW hdg (fun _ _ => ⟨ha, eT, hc, hs⟩)
  dsimp only [Pt.U, Pt.locs, Pt.cells, Pt.slots] at X' hq hl hk hn st
  subst hl hk hn
  exact ⟨v, T', L, X', hq, fun _ k => st.trans k⟩
theorem own_vi (X : Stand p l e R s m args below meth c T locs cells slots) (hx : p.tables.exec = Jvm.exec) (hZ : Z.Warmed39 s.vm) {own C : String} {index : Nat} {y z : MethodName}
    (hown : s.vm.findClass own = some m.cls) (w1 : (Jvm.Cond.methodLink own index y).before a0 Z = true) (w2 : (Jvm.Cond.declares y).before a0 Z = true) (w3 : (Jvm.Cond.selects C y z).before a0 Z = true) (w4 : (Jvm.Cond.instanceMethod z).before a0 Z = true) (hn : z = y ∨ (∃ S, (Jvm.Cond.superclass y.cls S).before a0 Z = true) ∨ (Jvm.Cond.noSuperclass y.cls).before a0 Z = true ∨ ∃ C' y' z', z'.cls = y.cls ∧ (Jvm.Cond.selects C' y' z').before a0 Z = true)
    (hy : y.cls ≠ "java/lang/invoke/MethodHandle" ∧ y.cls ≠ "java/lang/invoke/VarHandle") {W kc ks : Nat} {as' : Array Value} {Q : Option Value → Heap → List Loc → Prop}
    (hK : Back l R p e below s args z 3 W (fun A a => a = as' ∧ A.U.heap = h ∧ A.cells + kc ≤ R.cells ∧ A.slots + ks ≤ R.slots) (fun A _ v B => ∃ L, Q v B.U.heap L ∧ B.locs = A.locs ++ L ∧ B.cells = A.cells + kc ∧ B.slots = A.slots + ks))
    (eT : T.heap = h) {b : Addr} (E : Exa Z h b C) {g : JFrame} (hg : g.method = m) (hsize : g.locals.size = c.maxLocals) {argsL rest : List Value} (ha : (.ref b :: argsL).toArray = as') (hlen : ∀ sig, parseMethodDescriptor y.desc = some sig → argsL.length = sig.parameters.length)
    (hstack : g.stack = argsL.reverse ++ .ref b :: rest) (hW : 2 * g.monitorRoom + (rest.map fun v => v.category).sum ≤ W) (hdg : decode c.code g.pc = .ok (.invokevirtual index, 3)) (hc : cells + kc ≤ R.cells) (hs : slots + ks ≤ R.slots) :
    ∃ (v : Option Value) (T' : State) (L : List Loc), Stand p l e R s m args below meth c T' (locs ++ L) (cells + kc) (slots + ks) ∧ Q v T'.heap L ∧ ∀ t, Steps p.tables e below (T'.setTop { g with pc := g.pc + 3, stack := v.toList ++ rest }) t → Steps p.tables e below (T.setTop g) t := by
  have hnf : NotFace s y := by
    rcases hn with rfl | ⟨S, w⟩ | w | ⟨C', y', z', hc, w⟩
    · exact notFace_of_selects (args := #[]) (mvT hZ w3)
    · exact nf_super (args := #[]) (mvT hZ w)
    · exact nf_top (args := #[]) (mvT hZ w)
    · exact own_nfS hc (mvT (args := #[]) hZ w)
  obtain ⟨cq, kq, qa, qb, qc⟩ := isOf hZ eT E
  obtain ⟨v, vm₁, ⟨T', L', k', n'⟩, -, X', ⟨L, hq, hl, hk, hn⟩, st⟩ := X.virtualBack hx (y := y) (z := z) hown (mvT hZ w1) (mvT hZ w2) hnf (mvT hZ w3) (mvT hZ w4) hy hK qa qc hg hsize (Steps.refl _) hlen hstack hW hdg (fun _ _ => ⟨ha, eT, hc, hs⟩)
  dsimp only [Pt.U, Pt.locs, Pt.cells, Pt.slots] at X' hq hl hk hn st
  subst hl hk hn
  exact ⟨v, T', L, X', hq, fun _ k => st.trans k⟩
/-! .. of a callee that may load String constants: the walk goes on over the tables at hand -/
theorem own_stW (X : Stand p l e R (s.setVm vm0) m args below meth c T locs cells slots) (hx : p.tables.exec = Jvm.exec) (hZ : Z.Warmed39 vm0) {own : String} {index : Nat} {y : MethodName} {bytes : ByteArray} {maxL : Nat} {ret : Option FieldType}
    (hown : vm0.findClass own = some m.cls) (w1 : (Jvm.Cond.methodLink own index y).before a0 Z = true) (w2 : (Jvm.Cond.static y).before a0 Z = true) (w3 : (Jvm.Cond.initialized y.cls).before a0 Z = true) (w4 : (Jvm.Cond.code y bytes maxL ret).before a0 Z = true)
    (hy : y.cls ≠ "java/lang/invoke/MethodHandle" ∧ y.cls ≠ "java/lang/invoke/VarHandle") {W kc ks : Nat} {as' : Array Value} {Q : Option Value → Heap → List Loc → Prop}
    (hK : BackS l R p e below (s.setVm vm0) args y 3 W (fun A a => a = as' ∧ A.U.heap = h ∧ A.cells + kc ≤ R.cells ∧ A.slots + ks ≤ R.slots) (fun A _ v B => ∃ L, Q v B.U.heap L ∧ B.locs = A.locs ++ L ∧ B.cells = A.cells + kc ∧ B.slots = A.slots + ks ∧ CHr Z EL vm0 h B.U.vm B.U.heap))
    (eT : T.heap = h) {k0 : Nat} (hS : s.Since vm0 k0) (hk0 : k0 ≤ h.size) {g : JFrame} (hg : g.method = m) (hsize : g.locals.size = c.maxLocals) {argsL rest : List Value} (ha : argsL.toArray = as') (hlen : ∀ sig, parseMethodDescriptor y.desc = some sig → argsL.length = sig.parameters.length)
    (hstack : g.stack = argsL.reverse ++ rest) (hW : 2 * g.monitorRoom + (rest.map fun v => v.category).sum ≤ W) (hdg : decode c.code g.pc = .ok (.invokestatic index, 3)) (hc : cells + kc ≤ R.cells) (hs : slots + ks ≤ R.slots) :
    ∃ (v : Option Value) (T' : State) (L : List Loc), Stand p l e R (s.setVm T'.vm) m args below meth c T' (locs ++ L) (cells + kc) (slots + ks) ∧ Q v T'.heap L ∧ Z.Warmed39 T'.vm ∧ T'.vm.findClass own = some m.cls ∧ s.Since T'.vm T'.heap.size ∧ CHr Z EL vm0 h T'.vm T'.heap ∧ ∀ t, Steps p.tables e below (T'.setTop { g with pc := g.pc + 3, stack := v.toList ++ rest }) t → Steps p.tables e below (T.setTop g) t := by
  have hZ' : Z.Warmed39 (s.setVm vm0).vm := hZ
  obtain ⟨v, vm₁, ⟨T', L', k', n'⟩, -, X', hS', hg', ⟨L, hq, hl, hk, hn, hC⟩, st⟩ := callSS X hx (own := own) (index := index) hown (mvT hZ' w1) (mvT hZ' w2) (mvT hZ' w3) (mvT hZ' w4) hy hK hg hsize hlen hstack hW hdg (fun _ _ => ⟨ha, eT, hc, hs⟩)
  dsimp only [Pt.U, Pt.locs, Pt.cells, Pt.slots] at X' hS' hg' hq hl hk hn hC st
  subst hl hk hn eT
  obtain ⟨Y, hS2, hZ2, hown2⟩ := rebS hS hk0 X' hS' hg' hZ' hown
  exact ⟨v, T', L, Y, hq, hZ2, hown2, hS2, hC, fun _ k => st.trans k⟩
theorem own_spW (X : Stand p l e R (s.setVm vm0) m args below meth c T locs cells slots) (hx : p.tables.exec = Jvm.exec) (hZ : Z.Warmed39 vm0) {own : String} {index : Nat} {y : MethodName} {bytes : ByteArray} {maxL : Nat} (hy1 : y.name = "<init>")
    (hown : vm0.findClass own = some m.cls) (w1 : (Jvm.Cond.methodLink own index y).before a0 Z = true) (w2 : (Jvm.Cond.instanceMethod y).before a0 Z = true) (w4 : (Jvm.Cond.code y bytes maxL none).before a0 Z = true)
    (hy : y.cls ≠ "java/lang/invoke/MethodHandle" ∧ y.cls ≠ "java/lang/invoke/VarHandle") {W kc ks : Nat} {as' : Array Value} {Q : Option Value → Heap → List Loc → Prop}
    (hK : BackS l R p e below (s.setVm vm0) args y 3 W (fun A a => a = as' ∧ A.U.heap = h ∧ A.cells + kc ≤ R.cells ∧ A.slots + ks ≤ R.slots) (fun A _ v B => ∃ L, Q v B.U.heap L ∧ B.locs = A.locs ++ L ∧ B.cells = A.cells + kc ∧ B.slots = A.slots + ks ∧ CHr Z EL vm0 h B.U.vm B.U.heap))
    (eT : T.heap = h) {k0 : Nat} (hS : s.Since vm0 k0) (hk0 : k0 ≤ h.size) {g : JFrame} (hg : g.method = m) (hsize : g.locals.size = c.maxLocals) {a : Addr} {argsL rest : List Value} (ha : (.ref a :: argsL).toArray = as') (hlen : ∀ sig, parseMethodDescriptor y.desc = some sig → argsL.length = sig.parameters.length)
    (hstack : g.stack = argsL.reverse ++ .ref a :: rest) (hW : 2 * g.monitorRoom + (rest.map fun v => v.category).sum ≤ W) (hdg : decode c.code g.pc = .ok (.invokespecial index, 3)) (hc : cells + kc ≤ R.cells) (hs : slots + ks ≤ R.slots) :
    ∃ (v : Option Value) (T' : State) (L : List Loc), Stand p l e R (s.setVm T'.vm) m args below meth c T' (locs ++ L) (cells + kc) (slots + ks) ∧ Q v T'.heap L ∧ Z.Warmed39 T'.vm ∧ T'.vm.findClass own = some m.cls ∧ s.Since T'.vm T'.heap.size ∧ CHr Z EL vm0 h T'.vm T'.heap ∧ ∀ t, Steps p.tables e below (T'.setTop { g with pc := g.pc + 3, stack := v.toList ++ rest }) t → Steps p.tables e below (T.setTop g) t := by
  have hZ' : Z.Warmed39 (s.setVm vm0).vm := hZ
  obtain ⟨v, vm₁, ⟨T', L', k', n'⟩, -, X', hS', hg', ⟨L, hq, hl, hk, hn, hC⟩, st⟩ := X.specialBackS hx hy1 (own := own) (index := index) hown (mvT hZ' w1) (mvT hZ' w2) (mvT hZ' w4) hy hK hg hsize (Steps.refl _) hlen hstack hW hdg (fun _ _ => ⟨ha, eT, hc, hs⟩)
  dsimp only [Pt.U, Pt.locs, Pt.cells, Pt.slots] at X' hS' hg' hq hl hk hn hC st
  subst hl hk hn eT
  obtain ⟨Y, hS2, hZ2, hown2⟩ := rebS hS hk0 X' hS' hg' hZ' hown
  exact ⟨v, T', L, Y, hq, hZ2, hown2, hS2, hC, fun _ k => st.trans k⟩
theorem own_viW (X : Stand p l e R (s.setVm vm0) m args below meth c T locs cells slots) (hx : p.tables.exec = Jvm.exec) (hZ : Z.Warmed39 vm0) {own C : String} {index : Nat} {y z : MethodName}
    (hown : vm0.findClass own = some m.cls) (w1 : (Jvm.Cond.methodLink own index y).before a0 Z = true) (w2 : (Jvm.Cond.declares y).before a0 Z = true) (w3 : (Jvm.Cond.selects C y z).before a0 Z = true) (w4 : (Jvm.Cond.instanceMethod z).before a0 Z = true) (hn : z = y ∨ (∃ S, (Jvm.Cond.superclass y.cls S).before a0 Z = true) ∨ (Jvm.Cond.noSuperclass y.cls).before a0 Z = true ∨ ∃ C' y' z', z'.cls = y.cls ∧ (Jvm.Cond.selects C' y' z').before a0 Z = true)
    (hy : y.cls ≠ "java/lang/invoke/MethodHandle" ∧ y.cls ≠ "java/lang/invoke/VarHandle") {W kc ks : Nat} {as' : Array Value} {Q : Option Value → Heap → List Loc → Prop}
    (hK : BackS l R p e below (s.setVm vm0) args z 3 W (fun A a => a = as' ∧ A.U.heap = h ∧ A.cells + kc ≤ R.cells ∧ A.slots + ks ≤ R.slots) (fun A _ v B => ∃ L, Q v B.U.heap L ∧ B.locs = A.locs ++ L ∧ B.cells = A.cells + kc ∧ B.slots = A.slots + ks ∧ CHr Z EL vm0 h B.U.vm B.U.heap))
    (eT : T.heap = h) {k0 : Nat} (hS : s.Since vm0 k0) (hk0 : k0 ≤ h.size) {b : Addr} (E : Exa Z h b C) {g : JFrame} (hg : g.method = m) (hsize : g.locals.size = c.maxLocals) {argsL rest : List Value} (ha : (.ref b :: argsL).toArray = as') (hlen : ∀ sig, parseMethodDescriptor y.desc = some sig → argsL.length = sig.parameters.length)
    (hstack : g.stack = argsL.reverse ++ .ref b :: rest) (hW : 2 * g.monitorRoom + (rest.map fun v => v.category).sum ≤ W) (hdg : decode c.code g.pc = .ok (.invokevirtual index, 3)) (hc : cells + kc ≤ R.cells) (hs : slots + ks ≤ R.slots) :
    ∃ (v : Option Value) (T' : State) (L : List Loc), Stand p l e R (s.setVm T'.vm) m args below meth c T' (locs ++ L) (cells + kc) (slots + ks) ∧ Q v T'.heap L ∧ Z.Warmed39 T'.vm ∧ T'.vm.findClass own = some m.cls ∧ s.Since T'.vm T'.heap.size ∧ CHr Z EL vm0 h T'.vm T'.heap ∧ ∀ t, Steps p.tables e below (T'.setTop { g with pc := g.pc + 3, stack := v.toList ++ rest }) t → Steps p.tables e below (T.setTop g) t := by
  have hZ' : Z.Warmed39 (s.setVm vm0).vm := hZ
  have hnf : NotFace (s.setVm vm0) y := by
    rcases hn with rfl | ⟨S, w⟩ | w | ⟨C', y', z', hc, w⟩
    · exact notFace_of_selects (args := #[]) (mvT hZ' w3)
    · exact nf_super (args := #[]) (mvT hZ' w)
    · exact nf_top (args := #[]) (mvT hZ' w)
    · exact own_nfS hc (mvT (args := #[]) hZ' w)
  obtain ⟨cq, kq, qa, qb, qc⟩ := isOf hZ' eT E
  obtain ⟨v, vm₁, ⟨T', L', k', n'⟩, -, X', hS', hg', ⟨L, hq, hl, hk, hn, hC⟩, st⟩ := X.virtualBackS hx (y := y) (z := z) (own := own) (index := index) hown (mvT hZ' w1) (mvT hZ' w2) hnf (mvT hZ' w3) (mvT hZ' w4) hy hK qa qc hg hsize (Steps.refl _) hlen hstack hW hdg (fun _ _ => ⟨ha, eT, hc, hs⟩)
  dsimp only [Pt.U, Pt.locs, Pt.cells, Pt.slots] at X' hS' hg' hq hl hk hn hC st
  subst hl hk hn eT
  obtain ⟨Y, hS2, hZ2, hown2⟩ := rebS hS hk0 X' hS' hg' hZ' hown
  exact ⟨v, T', L, Y, hq, hZ2, hown2, hS2, hC, fun _ k => st.trans k⟩
theorem own_catR {a : Addr} : (Value.ref a).category = 1 := rfl
theorem own_catI {a : Int32} : (Value.int a).category = 1 := rfl
theorem own_catN : Value.null.category = 1 := rfl
theorem own_catJ {a : Int64} : (Value.long a).category = 2 := rfl
theorem own_cat {v : Value} (hv : v.isRef = true) : v.category = 1 := by rcases ref_cases hv with rfl | ⟨a, rfl⟩ <;> rfl
theorem own_narR {v : Value} {C : String} : narrow (.object C) v = v := by cases v <;> rfl
theorem own_fitR {v : Value} {C : String} (hv : v.isRef = true) : fits (.object C) v = true := by rcases ref_cases hv with rfl | ⟨a, rfl⟩ <;> rfl
theorem own_retA (X : Stand p l e R s m args below meth c T locs cells slots) (hx : p.tables.exec = Jvm.exec) {pc : Nat} {Ls : Array Slot} {w : Value} {t : FieldType} {rest : List Value} (hret : meth.sig.returnType = some t) (ht : t.isReference = true) (hw : w.isRef = true) (hn : narrow t w = w) (hd : decode c.code pc = .ok (.areturn, 1)) :
    own_Ret p e below m T (some w) (mkF m pc Ls (w :: rest)) := fun _ hl => retOut X hx hret hn (Or.inr (Or.inr (Or.inr (Or.inr ⟨rfl, ht, hw⟩)))) hd hl
theorem own_retI (X : Stand p l e R s m args below meth c T locs cells slots) (hx : p.tables.exec = Jvm.exec) {pc : Nat} {Ls : Array Slot} {z : Int32} {rest : List Value} (hret : meth.sig.returnType = some .int) (hd : decode c.code pc = .ok (.ireturn, 1)) :
    own_Ret p e below m T (some (.int z)) (mkF m pc Ls (.int z :: rest)) := fun _ hl => retOut X hx hret rfl (Or.inl ⟨rfl, Or.inl rfl, z, rfl⟩) hd hl
theorem own_retN (X : Stand p l e R s m args below meth c T locs cells slots) (hx : p.tables.exec = Jvm.exec) {pc : Nat} {Ls : Array Slot} {z : Int32} {t : FieldType} {rest : List Value} (hret : meth.sig.returnType = some t) (ht : t = .boolean ∨ t = .byte ∨ t = .char ∨ t = .short) (hd : decode c.code pc = .ok (.ireturn, 1)) :
    own_Ret p e below m T (some (.int (nar t z))) (mkF m pc Ls (.int z :: rest)) := fun _ hl => retN X hx hret ht hd hl
theorem own_retV (X : Stand p l e R s m args below meth c T locs cells slots) (hx : p.tables.exec = Jvm.exec) {pc : Nat} {Ls : Array Slot} (hret : meth.sig.returnType = none) (hd : decode c.code pc = .ok (.return_, 1)) :
    own_Ret p e below m T none (mkF m pc Ls []) := fun _ hl => X.returnOut hx hret hd hl
theorem own_in (X : Stand p l e R s m args below meth c T locs cells slots) (hx : p.tables.exec = Jvm.exec) (hZ : Z.Warmed39 s.vm) {own C : String} {index count : Nat} {xi y : MethodName}
    (hown : s.vm.findClass own = some m.cls) (w1 : (Jvm.Cond.methodLink own index xi).before a0 Z = true) (w2 : (Jvm.Cond.declares xi).before a0 Z = true) (w3 : (Jvm.Cond.interfaceMethod xi.cls xi.cls xi.name xi.desc).before a0 Z = true) (w4 : (Jvm.Cond.selects C xi y).before a0 Z = true) (w5 : (Jvm.Cond.instanceMethod y).before a0 Z = true)
    (w6 : (Jvm.Cond.publicMethod y).before a0 Z = true) (w7 : (Jvm.Cond.unhidden C xi.name xi.desc).before a0 Z = true) (w8 : (Jvm.Cond.castable C xi.cls).before a0 Z = true)
    (hy : xi.cls ≠ "java/lang/invoke/MethodHandle" ∧ xi.cls ≠ "java/lang/invoke/VarHandle") {W kc ks : Nat} {as' : Array Value} {Q : Option Value → Heap → List Loc → Prop}
    (hK : Back l R p e below s args y 5 W (fun A a => a = as' ∧ A.U.heap = h ∧ A.cells + kc ≤ R.cells ∧ A.slots + ks ≤ R.slots) (fun A _ v B => ∃ L, Q v B.U.heap L ∧ B.locs = A.locs ++ L ∧ B.cells = A.cells + kc ∧ B.slots = A.slots + ks))
    (eT : T.heap = h) {b : Addr} (E : Exa Z h b C) {g : JFrame} (hg : g.method = m) (hsize : g.locals.size = c.maxLocals) {argsL rest : List Value} (ha : (.ref b :: argsL).toArray = as') (hlen : ∀ sig, parseMethodDescriptor xi.desc = some sig → argsL.length = sig.parameters.length)
    (hstack : g.stack = argsL.reverse ++ .ref b :: rest) (hW : 2 * g.monitorRoom + (rest.map fun v => v.category).sum ≤ W) (hdg : decode c.code g.pc = .ok (.invokeinterface index count, 5)) (hc : cells + kc ≤ R.cells) (hs : slots + ks ≤ R.slots) :
    ∃ (v : Option Value) (T' : State) (L : List Loc), Stand p l e R s m args below meth c T' (locs ++ L) (cells + kc) (slots + ks) ∧ Q v T'.heap L ∧ ∀ t, Steps p.tables e below (T'.setTop { g with pc := g.pc + 5, stack := v.toList ++ rest }) t → Steps p.tables e below (T.setTop g) t := by
  obtain ⟨cq, kq, qa, qb, qc⟩ := isOf hZ eT E
  obtain ⟨v, vm₁, ⟨T', L', k', n'⟩, -, X', ⟨L, hq, hl, hk, hn⟩, st⟩ := X.interfaceBack hx (xi := xi) (y := y) hown (mvT hZ w1) (mvT hZ w2) (mvT hZ w3 (by simp [Cond.onTables, Cond.keepsFace, Cond.keeps, Cond.steady, Cond.faceAtom, hy.1, hy.2])) (mvT hZ w4) (mvT hZ w5) (mvT hZ w6) (mvT hZ w7) (mvT hZ w8) hy hK qa qb qc hg hsize (Steps.refl _) hlen hstack hW hdg (fun _ _ => ⟨ha, eT, hc, hs⟩)
  dsimp only [Pt.U, Pt.locs, Pt.cells, Pt.slots] at X' hq hl hk hn st
  subst hl hk hn
  exact ⟨v, T', L, X', hq, fun _ k => st.trans k⟩
/-- instanceof, whatever it says -/
theorem own_inst (X : Stand p l e R s m args below meth c T locs cells slots) (hx : p.tables.exec = Jvm.exec) (hZ : Z.Warmed39 s.vm) {own K C : String} {index : Nat} (hown : s.vm.findClass own = some m.cls) (w : (Jvm.Cond.classLink own index K).before a0 Z = true) (eT : T.heap = h) {a : Addr} (E : Exa Z h a C)
    {g : JFrame} (hg : g.method = m) {rest : List Value} (hs : g.stack = .ref a :: rest) (hd : decode c.code g.pc = .ok (.instanceof index, 3)) :
    ∃ (z : Int32) (T' : State), (z = 0 ∨ z = 1) ∧ Stand p l e R s m args below meth c T' locs cells slots ∧ T'.heap = h ∧ ∀ t, Steps p.tables e below (T'.setTop { g with pc := g.pc + 3, stack := .int z :: rest }) t → Steps p.tables e below (T.setTop g) t := by
  obtain ⟨cell, k, e1, e2, e3, e4, e5⟩ := E
  have w' : (Jvm.Cond.classLink own index K).before args s = true := mv hZ w
  have hpl : e.platform.magicAccessors = ({} : Platform).magicAccessors := by rw [X.admits.platform]
  obtain ⟨cT, hcT, -⟩ := Cond.classLink_spec hown w' e.platform hpl
  obtain ⟨k', q, -⟩ := hZ.alike.2.2 _ _ e3
  cases hb : s.vm.assignable cell.cls cT with
  | true =>
    obtain ⟨vm', X', st⟩ := X.instanceofYes hx hown w' (by rw [eT]; exact e1) e4 hcT hb hg hs hd
    exact ⟨1, _, Or.inr rfl, X', eT, st⟩
  | false =>
    obtain ⟨T', X', e', st⟩ := instNo X hx hZ hown w eT (C := C) ⟨cell, k, e1, e2, e3, e4, e5⟩ ⟨cell.cls, cT, e2, by rw [← hZ.alike.findClass]; exact hcT, by rw [← hZ.alike.assignable]; exact hb⟩ hg hs hd
    exact ⟨0, _, Or.inl rfl, X', e', st⟩
/-- a class that isn't among the superclasses and is no interface (the word instantiable says so) -/
theorem own_NSroot {O K : String} {n : Nat} (w : (Jvm.Cond.noSuperclass O).before a0 Z = true) (wk : (Jvm.Cond.instantiable K n).before a0 Z = true) (hn : O ≠ K) : NS Z O K := by
  obtain ⟨c, k, h1, h2, h3, -, -⟩ := Cond.noSuperclass_spec w
  obtain ⟨t, kt, g1, -⟩ := Cond.instantiable_spec wk
  have ne := ids_ne h1 g1 hn
  refine ⟨c, t, h1, g1, fun fuel => ?_⟩
  cases fuel with
  | zero => rfl
  | succ f => simp [Vm.isSubclassAux, ne, h2, h3]
theorem own_NSno {C S K : String} {n : Nat} (w : (Jvm.Cond.superclass C S).before a0 Z = true) (wk : (Jvm.Cond.instantiable K n).before a0 Z = true) (q : NS Z C K) (hn : C ≠ K) : ∃ c t, Z.vm.findClass C = some c ∧ Z.vm.findClass K = some t ∧ Z.vm.assignable c t = false := by
  obtain ⟨c, t, h0, g0, n3⟩ := q
  obtain ⟨p, k, kp, h1, h2, h3, h4, h5, -, h7⟩ := Cond.superclass_spec h0 w
  obtain ⟨t', kt, g1, g2, g3, g4, -⟩ := Cond.instantiable_spec wk
  cases g0.symm.trans g1
  have g5 : kt.isInterface = false := by simp only [Bool.or_eq_false_iff] at g4; exact g4.1
  have ne := ids_ne h0 g0 hn
  refine ⟨c, t, h0, g0, ?_⟩
  show Z.vm.assignableAux (255 + 1) c t = false
  simp [Vm.assignableAux, ne, h2, g2, h5, g3, g5, Vm.isSubclass, n3]
theorem own_pr (X : Stand p l e R s m args below meth c T locs cells slots) (hx : p.tables.exec = Jvm.exec) (hZ : Z.Warmed39 s.vm) {own C : String} {index : Nat} {y : MethodName} {bytes : ByteArray} {maxL : Nat} {ret : Option FieldType}
    (hown : s.vm.findClass own = some m.cls) (w1 : (Jvm.Cond.methodLink own index y).before a0 Z = true) (w2 : (Jvm.Cond.instanceMethod y).before a0 Z = true) (w3 : (Jvm.Cond.selects C y y).before a0 Z = true) (w4 : (Jvm.Cond.privateMethod y).before a0 Z = true) (w5 : (Jvm.Cond.code y bytes maxL ret).before a0 Z = true)
    (hy : y.cls ≠ "java/lang/invoke/MethodHandle" ∧ y.cls ≠ "java/lang/invoke/VarHandle") {W kc ks : Nat} {as' : Array Value} {Q : Option Value → Heap → List Loc → Prop}
    (hK : Back l R p e below s args y 3 W (fun A a => a = as' ∧ A.U.heap = h ∧ A.cells + kc ≤ R.cells ∧ A.slots + ks ≤ R.slots) (fun A _ v B => ∃ L, Q v B.U.heap L ∧ B.locs = A.locs ++ L ∧ B.cells = A.cells + kc ∧ B.slots = A.slots + ks))
    (eT : T.heap = h) {b : Addr} {C' : String} (E : Exa Z h b C') {g : JFrame} (hg : g.method = m) (hsize : g.locals.size = c.maxLocals) {argsL rest : List Value} (ha : (.ref b :: argsL).toArray = as') (hlen : ∀ sig, parseMethodDescriptor y.desc = some sig → argsL.length = sig.parameters.length)
    (hstack : g.stack = argsL.reverse ++ .ref b :: rest) (hW : 2 * g.monitorRoom + (rest.map fun v => v.category).sum ≤ W) (hdg : decode c.code g.pc = .ok (.invokevirtual index, 3)) (hc : cells + kc ≤ R.cells) (hs : slots + ks ≤ R.slots) :
    ∃ (v : Option Value) (T' : State) (L : List Loc), Stand p l e R s m args below meth c T' (locs ++ L) (cells + kc) (slots + ks) ∧ Q v T'.heap L ∧ ∀ t, Steps p.tables e below (T'.setTop { g with pc := g.pc + 3, stack := v.toList ++ rest }) t → Steps p.tables e below (T.setTop g) t := by
  obtain ⟨cq, q, q'⟩ := E.cell
  have hpriv : s.PrivateAt y := Cond.privateMethod_at (mvP hZ w4 (args := #[]))
  obtain ⟨mk, methM, hnamed, hmethM, hstM, habM⟩ := Cond.instanceMethod_spec (mvT (args := args) hZ w2)
  obtain ⟨methM', cM, hmethM', -, -, -, -, -, -, hsigM⟩ := Cond.code_spec hnamed (mvT (args := args) hZ w5)
  cases hmethM.symm.trans hmethM'
  obtain ⟨c2, r2, m2, -, -, q3, -, kP, hkP, hkPi⟩ := Cond.selects_spec (mvT (args := args) hZ w3)
  cases hnamed.symm.trans q3
  have hselP : selectMethod e.platform s.vm cq.cls mk = .method mk := selectMethod_private hmethM (hpriv mk methM hnamed hmethM)
  obtain ⟨vm₁, X₁, hstep₁⟩ := X.invokevirtual hx hown (mvT hZ w1) hnamed hmethM hstM hkP hkPi hy (a := b) (cell := cq) (by rw [eT]; exact q) q' hselP hmethM habM hkP hkPi (g := g) hg (argsL := argsL) (rest := rest) (hlen _ hsigM) hstack hdg
  obtain ⟨v, ⟨T', L', k', n'⟩, X', ⟨L, hq, hl, hk, hn⟩, hsteps⟩ := hK m meth c ⟨T.setVm vm₁, locs, cells, slots⟩ { g with stack := rest } (.invokevirtual index) mk (.ref b :: argsL).toArray X₁ hg hsize hdg hW (X₁.named hnamed) ⟨ha, eT, hc, hs⟩
  dsimp only [Pt.U, Pt.locs, Pt.cells, Pt.slots] at X' hq hl hk hn hsteps
  subst hl hk hn
  exact ⟨v, T', L, X', hq, fun _ k => (hstep₁ _ fun acts => by rw [doInvoke_state]; exact Steps.refl _).trans (hsteps.trans k)⟩
theorem own_selfp {y : MethodName} {n : Nat} (w3 : (Jvm.Cond.privateMethod y).before a0 Z = true) (wi : (Jvm.Cond.instanceMethod y).before a0 Z = true) (wk : (Jvm.Cond.instantiable y.cls n).before a0 Z = true) (hy : y.cls ≠ "java/lang/invoke/MethodHandle" ∧ y.cls ≠ "java/lang/invoke/VarHandle") : (Jvm.Cond.selects y.cls y y).before a0 Z = true := by
  obtain ⟨t, kt, g1, g2, g3, g4, -⟩ := Cond.instantiable_spec wk
  have g5 : kt.isInterface = false := by simp only [Bool.or_eq_false_iff] at g4; exact g4.1
  exact selects_self_of_private g1 g2 g5 (Cond.privateMethod_at w3) wi hy
/-- the entry's class has the method itself, and it is no interface: a 'selects' word of another method of that class says so -/
theorem own_same {y y' z : MethodName} {C : String} (hy : y.cls ≠ "java/lang/invoke/MethodHandle" ∧ y.cls ≠ "java/lang/invoke/VarHandle") (hc : z.cls = y.cls) (ws : (Jvm.Cond.selects C y' z).before a0 Z = true) (wi : (Jvm.Cond.instanceMethod y).before a0 Z = true) : (Jvm.Cond.sameMethod y.cls y.cls y.name y.desc).before a0 Z = true := by
  obtain ⟨mk, methM, hnamed, -⟩ := Cond.instanceMethod_spec wi
  obtain ⟨c2, r2, m2, -, -, q3, -, kP, hkP, hkPi⟩ := Cond.selects_spec ws
  have f1 := findClass_of_methodNamed hnamed
  have f2 := findClass_of_methodNamed q3
  rw [hc] at f2
  have e : m2.cls = mk.cls := Option.some.inj (f2.symm.trans f1)
  have f3 : Z.methodFound? y.cls y.name y.desc = some mk := State.methodFound?_of_named hnamed hy
  have f4 : Z.methodNamed? (⟨y.cls, y.name, y.desc⟩ : MethodName) = some mk := hnamed
  rw [e] at hkP
  simp [Cond.before, Cond.holds, Cond.value, f1, f3, f4, hkP, hkPi]
theorem own_su (X : Stand p l e R s m args below meth c T locs cells slots) (hx : p.tables.exec = Jvm.exec) (hZ : Z.Warmed39 s.vm) {own C : String} {index : Nat} {y : MethodName} {bytes : ByteArray} {maxL : Nat} {ret : Option FieldType}
    (hown : s.vm.findClass own = some m.cls) (w1 : (Jvm.Cond.methodLink own index y).before a0 Z = true) (w2 : (Jvm.Cond.sameMethod y.cls y.cls y.name y.desc).before a0 Z = true) (w3 : (Jvm.Cond.instanceMethod y).before a0 Z = true) (w4 : (Jvm.Cond.superclass own y.cls).before a0 Z = true) (hn : y.name ≠ "<init>") (w5 : (Jvm.Cond.code y bytes maxL ret).before a0 Z = true)
    {W kc ks : Nat} {as' : Array Value} {Q : Option Value → Heap → List Loc → Prop}
    (hK : Back l R p e below s args y 3 W (fun A a => a = as' ∧ A.U.heap = h ∧ A.cells + kc ≤ R.cells ∧ A.slots + ks ≤ R.slots) (fun A _ v B => ∃ L, Q v B.U.heap L ∧ B.locs = A.locs ++ L ∧ B.cells = A.cells + kc ∧ B.slots = A.slots + ks))
    (eT : T.heap = h) {b : Addr} (E : Exa Z h b C) {g : JFrame} (hg : g.method = m) (hsize : g.locals.size = c.maxLocals) {argsL rest : List Value} (ha : (.ref b :: argsL).toArray = as') (hlen : ∀ sig, parseMethodDescriptor y.desc = some sig → argsL.length = sig.parameters.length)
    (hstack : g.stack = argsL.reverse ++ .ref b :: rest) (hW : 2 * g.monitorRoom + (rest.map fun v => v.category).sum ≤ W) (hdg : decode c.code g.pc = .ok (.invokespecial index, 3)) (hc : cells + kc ≤ R.cells) (hs : slots + ks ≤ R.slots) :
    ∃ (v : Option Value) (T' : State) (L : List Loc), Stand p l e R s m args below meth c T' (locs ++ L) (cells + kc) (slots + ks) ∧ Q v T'.heap L ∧ ∀ t, Steps p.tables e below (T'.setTop { g with pc := g.pc + 3, stack := v.toList ++ rest }) t → Steps p.tables e below (T.setTop g) t := by
  obtain ⟨v, vm₁, ⟨T', L', k', n'⟩, -, X', ⟨L, hq, hl, hk, hn'⟩, st⟩ := superBack X hx hZ hown w1 w2 w3 w4 hn hK eT (Ins.self E) hg hsize w5 hlen hstack hW hdg (fun _ _ => ⟨ha, eT, hc, hs⟩)
  dsimp only [Pt.U, Pt.locs, Pt.cells, Pt.slots] at X' hq hl hk hn' st
  subst hl hk hn'
  exact ⟨v, T', L, X', hq, fun _ k => st.trans k⟩
end Own

theorem own_sat_in : ∀ d ∈ Bundle.stringAtoms, d ∈ tables_1 := by decide +kernel
theorem own_sat {Z : State} {a0 : Array Value} (hw : ∀ d ∈ tables_1, d.before a0 Z = true) : ∀ d ∈ Bundle.stringAtoms, d.before a0 Z = true := fun d hd => hw d (own_sat_in d hd)
theorem own_i2c (x : Int32) : nar .char (x.toUInt32.toUInt16.toUInt32.toInt32) = x.toUInt32.toUInt16.toUInt32.toInt32 := by
  have a := c_i2c x
  have b := c_i2c (x.toUInt32.toUInt16.toUInt32.toInt32)
  apply Int32.toInt_inj.mp
  show ((x.toUInt32.toUInt16.toUInt32.toInt32).toUInt32.toUInt16.toUInt32.toInt32).toInt = _
  omega
theorem own_i2b (x : Int32) : nar .byte (x.toInt8.toInt32) = x.toInt8.toInt32 := by
  simp [nar]
theorem own_i2bb (x : Int32) : x.toInt8.toInt32.toInt8.toInt32 = x.toInt8.toInt32 := own_i2b x
theorem own_c255 (x : Int32) : ¬ (x &&& (255 : Int32)) < 0 ∧ ¬ (255 : Int32) < (x &&& (255 : Int32)) := by
  have a := c_and x 255 (by decide)
  have e : (255 : Int32).toInt = 255 := rfl
  have z : (0 : Int32).toInt = 0 := rfl
  rw [Int32.lt_iff_toInt_lt, Int32.lt_iff_toInt_lt]
  omega
theorem own_and255 (x : Int32) : ¬ ((x &&& (255 : Int32)).toUInt32.toUInt16.toUInt32.toInt32) < 0 ∧ ¬ (255 : Int32) < ((x &&& (255 : Int32)).toUInt32.toUInt16.toUInt32.toInt32) := by
  rw [i2c_mask]; exact own_c255 x
theorem own_narc {x : Int32} (h1 : ¬ x < (0 : Int32)) (h2 : ¬ (255 : Int32) < x) : nar .char x = x := by
  have a := c_i2c x
  have e : (255 : Int32).toInt = 255 := rfl
  have z : (0 : Int32).toInt = 0 := rfl
  rw [Int32.lt_iff_toInt_lt] at h1 h2
  apply Int32.toInt_inj.mp
  show x.toUInt32.toUInt16.toUInt32.toInt32.toInt = x.toInt
  omega
theorem own_one {x : Int32} (h1 : ¬ x < (0 : Int32)) (h2 : ¬ (255 : Int32) < x) : ∀ c ∈ ([x] : List Int32), ¬ c < 0 ∧ ¬ (255 : Int32) < c := fun c hc => by rw [List.mem_singleton.mp hc]; exact ⟨h1, h2⟩
/-- the String at a spells cs (Latin-1) -/
def own_Str (Z : State) (h : Heap) (a : Addr) (cs : List Int32) : Prop := ∃ (t : Addr) (kb : ClassId), Exa Z h a "java/lang/String" ∧ Fld Z h a "java/lang/String" "value" "[B" (.ref t) ∧ Fld Z h a "java/lang/String" "coder" "B" (.int 0) ∧ Arv Z h t kb .byte (Int32.ofNat cs.length) ((cs.map fun c => c.toInt8.toInt32).map Value.int) (.int 0) ∧ (∀ c ∈ cs, ¬ c < 0 ∧ ¬ (255 : Int32) < c) ∧ cs.length ≤ 4000
theorem own_Str_keep {Z : State} {h h' : Heap} {a : Addr} {cs : List Int32} (F : own_Str Z h a cs) (K : Keep h h' []) : own_Str Z h' a cs := by
  obtain ⟨t, kb, E, V, C, A, r⟩ := F
  exact ⟨t, kb, E.keep K, V.keep K nin0, C.keep K nin0, A.keep K nin0, r⟩
theorem own_up {cs : List Int32} (h : ∀ c ∈ cs, ¬ c < 0 ∧ ¬ (255 : Int32) < c) : ∀ c ∈ cs, ¬ c < 0 ∧ ¬ (65535 : Int32) < c := fun c hc => ⟨(h c hc).1, fun q => (h c hc).2 (by rw [Int32.lt_iff_toInt_lt] at q ⊢; have e1 : (65535 : Int32).toInt = 65535 := rfl; have e2 : (255 : Int32).toInt = 255 := rfl; omega)⟩
set_option maxRecDepth 65536 in
theorem own_hws_in : ∀ d ∈ StrChars.Road.words, d ∈ tables_1 := by decide +kernel
theorem own_hws {Z : State} {a0 : Array Value} (hw : ∀ d ∈ tables_1, d.before a0 Z = true) : ∀ d ∈ StrChars.Road.words, d.before a0 Z = true := fun d hd => hw d (own_hws_in d hd)
set_option maxRecDepth 65536 in
theorem own_heq_in : ∀ d ∈ StrChars.Road.wordsEq, d ∈ tables_1 := by decide +kernel
theorem own_heq {Z : State} {a0 : Array Value} (hw : ∀ d ∈ tables_1, d.before a0 Z = true) : ∀ d ∈ StrChars.Road.wordsEq, d.before a0 Z = true := fun d hd => hw d (own_heq_in d hd)
theorem own_Str_W {Z : State} {h : Heap} {a : Addr} {cs : List Int32} (F : own_Str Z h a cs) : ∃ (t : Addr) (kb : ClassId), Exa Z h a "java/lang/String" ∧ Fld Z h a "java/lang/String" "value" "[B" (.ref t) ∧ Fld Z h a "java/lang/String" "coder" "B" (.int 0) ∧ Arv Z h t kb .byte (Int32.ofNat cs.length) ((cs.map fun c => c.toInt8.toInt32).map Value.int) (.int 0) ∧ StrChars.Road.CodA cs 0 (Int32.ofNat cs.length) ((cs.map fun c => c.toInt8.toInt32).map Value.int) ∧ (∀ c ∈ cs, ¬ c < 0 ∧ ¬ (65535 : Int32) < c) ∧ cs.length ≤ 4000 := by
  obtain ⟨t, kb, E, V, C, A, b, n⟩ := F
  exact ⟨t, kb, E, V, C, A, StrChars.Road.codOf rfl (fun c hc => (b c hc).2), own_up b, n⟩
theorem own_l {x y : Int32} (h : x < y) : x.toInt < y.toInt := Int32.lt_iff_toInt_lt.mp h
theorem own_nl {x y : Int32} (h : ¬ x < y) : y.toInt ≤ x.toInt := Int.not_lt.mp fun q => h (Int32.lt_iff_toInt_lt.mpr q)
theorem own_ei {x y : Int32} (h : x = y) : x.toInt = y.toInt := congrArg _ h
theorem own_nei {x y : Int32} (h : ¬ x = y) : ¬ x.toInt = y.toInt := fun q => h (Int32.toInt_inj.mp q)
theorem own_l' {x y : Int32} (h : x.toInt < y.toInt) : x < y := Int32.lt_iff_toInt_lt.mpr h
theorem own_nl' {x y : Int32} (h : y.toInt ≤ x.toInt) : ¬ x < y := fun q => Int.not_lt.mpr h (Int32.lt_iff_toInt_lt.mp q)
theorem own_ei' {x y : Int32} (h : x.toInt = y.toInt) : x = y := Int32.toInt_inj.mp h
theorem own_nei' {x y : Int32} (h : ¬ x.toInt = y.toInt) : ¬ x = y := fun q => h (congrArg _ q)
theorem own_rg (x : Int32) : -2147483648 ≤ x.toInt ∧ x.toInt < 2147483648 := by
  have a := Int32.toInt_lt x
  have b := Int32.le_toInt x
  omega
theorem own_fitb {v : Value} (h : fits .byte v = true) : ∃ x : Int32, v = .int x := by
  cases v <;> first | exact ⟨_, rfl⟩ | simp [fits] at h
theorem own_ld {c : Cell} {vs : List Value} {d : Value} (H : Has c vs d) (U : ∀ i, i < c.slots.size → fits .byte (vs.getD i d) = true) {j : Int32} (q : ¬ (j < 0 ∨ c.slots.size ≤ j.toNatClampNeg)) : ∃ x : Int32, c.slots[j.toNatClampNeg]? = some (.int x) := by
  have hj : j.toNatClampNeg < c.slots.size := Nat.lt_of_not_le fun y => q (Or.inr y)
  obtain ⟨x, e⟩ := own_fitb (U _ hj)
  exact ⟨x, by rw [H _ hj, e]⟩
theorem own_nc {x : Int32} (h : ¬ x < (0 : Int32)) : (x.toNatClampNeg : Int) = x.toInt := by
  have a := own_nl h
  have z : (0 : Int32).toInt = 0 := rfl
  simp only [Int32.toNatClampNeg]
  omega
/-- a Latin-1 String of length n (at most 3) -/
def own_Ln (Z : State) (h : Heap) (a : Addr) (n : Int32) : Prop := ∃ (t : Addr) (kb : ClassId) (vs : List Value), Exa Z h a "java/lang/String" ∧ Fld Z h a "java/lang/String" "value" "[B" (.ref t) ∧ Fld Z h a "java/lang/String" "coder" "B" (.int 0) ∧ Arv Z h t kb .byte n vs (.int 0) ∧ ¬ n < (0 : Int32) ∧ ¬ (3 : Int32) < n
theorem own_Ln_keep {Z : State} {h h' : Heap} {a : Addr} {n : Int32} (F : own_Ln Z h a n) (K : Keep h h' []) : own_Ln Z h' a n := by
  obtain ⟨t, kb, vs, E, V, C, A, r⟩ := F
  exact ⟨t, kb, vs, E.keep K, V.keep K nin0, C.keep K nin0, A.keep K nin0, r⟩
theorem own_Ln_keep1 {Z : State} {a0 : Array Value} {h h' : Heap} {a b : Addr} {n : Int32} {D : String} {k : Nat} (F : own_Ln Z h a n) (K : Keep h h' [b]) (E : Exa Z h b D) (hD : "java/lang/String" ≠ D) (w : (Jvm.Cond.instantiable D k).before a0 Z = true) : own_Ln Z h' a n := by
  obtain ⟨t, kb, vs, Es, V, C, A, r⟩ := F
  have n1 : a ≠ b := Exa.ne Es E hD
  have n2 : t ≠ b := Ne.symm (Exa.neArv E A w)
  exact ⟨t, kb, vs, Es.keep K, V.keep K (ninS n1 nin0), C.keep K (ninS n1 nin0), A.keep K (ninS n2 nin0), r⟩
theorem own_Ln_of {Z : State} {h : Heap} {a : Addr} {cs : List Int32} (F : own_Str Z h a cs) (q : cs.length ≤ 3) : own_Ln Z h a (Int32.ofNat cs.length) := by
  obtain ⟨t, kb, E, V, C, A, b, n⟩ := F
  have e : (Int32.ofNat cs.length).toInt = cs.length := len_toInt (show cs.length < 2 ^ 31 by omega)
  have z : (0 : Int32).toInt = 0 := rfl
  have t3 : (3 : Int32).toInt = 3 := rfl
  exact ⟨t, kb, _, E, V, C, A, own_nl' (by omega), own_nl' (by omega)⟩
theorem own_shr0 (x : Int32) : x >>> ((0 : Int32) &&& 31) = x := by
  apply Int32.toBitVec_inj.mp
  simp
section OwnCp
variable {p : Program} {l : Launch} {e : Env} {R : Room} {s : State} {m : MethodId} {args : Array Value} {below : List Frame} {meth : Method} {c : Code} {T : State} {locs : List Loc} {cells slots : Nat} {Z : State} {a0 : Array Value} {h : Heap}
/-- System.arraycopy between byte arrays, into a new one's head -/
theorem own_cpx (X : Stand p l e R s m args below meth c T locs cells slots) (hx : p.tables.exec = Jvm.exec) (hZ : Z.Warmed39 s.vm) {own : String} {index : Nat} (hown : s.vm.findClass own = some m.cls)
    (w1 : (Jvm.Cond.methodLink own index Jvm.Stand.acN).before a0 Z = true) (w2 : (Jvm.Cond.native Jvm.Stand.acN).before a0 Z = true) (w3 : (Jvm.Cond.static Jvm.Stand.acN).before a0 Z = true) (w4 : (Jvm.Cond.initialized "java/lang/System").before a0 Z = true) (eT : T.heap = h)
    {a b : Addr} {k k' : ClassId} {z z' sp nn : Int32} {vs : List Value} (A : Arv Z h a k .byte z vs (.int 0)) (B : Arv Z h b k' .byte z' [] (.int 0)) (q1 : ¬ sp < (0 : Int32)) (q2 : ¬ nn < (0 : Int32)) (q3 : ¬ z < (0 : Int32)) (q4 : ¬ z' < (0 : Int32)) (h4 : sp.toInt + nn.toInt ≤ z.toInt) (h5 : nn.toInt ≤ z'.toInt)
    {n0 : Nat} (N : Fr n0 locs) (ge : n0 ≤ b) {g : JFrame} (hg : g.method = m) (hsize : g.locals.size = c.maxLocals) {rest : List Value} (hs : g.stack = .int nn :: .int 0 :: .ref b :: .int sp :: .ref a :: rest) (hdc : decode c.code g.pc = .ok (.invokestatic index, 3))
    (hf : 1 ≤ R.frames) {W : Nat} (hW : 2 * g.monitorRoom + (rest.map fun v => v.category).sum ≤ W) (hlo : W + (nativeFrameWords "java/lang/System" "arraycopy" 5 + 11) ≤ R.locals) :
    ∃ T' h' L, Stand p l e R s m args below meth c T' L cells slots ∧ T'.heap = h' ∧ Fr n0 L ∧ Keep h h' [b] ∧ (∃ vs', Arv Z h' b k' .byte z' vs' (.int 0)) ∧
      ∀ target, Steps p.tables e below (T'.setTop { g with pc := g.pc + 3, stack := rest }) target → Steps p.tables e below (T.setTop g) target := by
  have B' : Arv Z h b k' .byte z' ([] ++ List.replicate z'.toNatClampNeg (.int 0)) (.int 0) := B.pad (pad_rep _ _ _)
  have c1 := own_nc q1
  have c2 := own_nc q2
  have c3 := own_nc q3
  have c4 := own_nc q4
  have c0 : (0 : Int32).toNatClampNeg = 0 := rfl
  obtain ⟨T', h', L, X', e', N', K', V', st⟩ := cpA X hx hZ hown w1 w2 w3 w4 eT A B' (us := _) (sp := sp) (dp := 0) (nn := nn) (Or.inl ⟨rfl, rfl⟩) q1 (by decide) q2 (by omega) (by rw [c0]; omega) rfl (by rw [c0]; simp only [List.nil_append, List.length_replicate]; omega) N ge hg hsize hs hdc hf hW hlo
  exact ⟨T', h', L, X', e', N', K', ⟨_, V'⟩, st⟩
end OwnCp
def own_4 (z : Int32) : Prop := z = 0 ∨ z = 1 ∨ z = 2 ∨ z = 3
theorem own_and3 (x : Int32) : own_4 (x &&& (3 : Int32)) := by
  have a := c_and x 3 (by decide)
  have e3 : (3 : Int32).toInt = 3 := rfl
  generalize x &&& (3 : Int32) = z at a ⊢
  have t1 : (1 : Int32).toInt = 1 := rfl
  have t2 : (2 : Int32).toInt = 2 := rfl
  have t0 : (0 : Int32).toInt = 0 := rfl
  have h : z.toInt = 0 ∨ z.toInt = 1 ∨ z.toInt = 2 ∨ z.toInt = 3 := by omega
  rcases h with h | h | h | h
  · exact Or.inl (Int32.toInt_inj.mp (by rw [h, t0]))
  · exact Or.inr (Or.inl (Int32.toInt_inj.mp (by rw [h, t1])))
  · exact Or.inr (Or.inr (Or.inl (Int32.toInt_inj.mp (by rw [h, t2]))))
  · exact Or.inr (Or.inr (Or.inr (Int32.toInt_inj.mp (by rw [h, e3]))))
def own_text (n x : Int32) : List Int32 := if n = 0 then [] else if n = 1 then [x &&& (255 : Int32)] else if n = 2 then [x &&& (255 : Int32), (x.toUInt32 >>> ((8 : Int32) &&& 31).toUInt32).toInt32 &&& (255 : Int32)] else [x &&& (255 : Int32), (x.toUInt32 >>> ((8 : Int32) &&& 31).toUInt32).toInt32 &&& (255 : Int32), (x.toUInt32 >>> ((16 : Int32) &&& 31).toUInt32).toInt32 &&& (255 : Int32)]
theorem own_text0 {n x : Int32} (h : n = (0 : Int32)) : own_text n x = ([] : List Int32) := by simp [own_text, h]
theorem own_text1 {n x : Int32} (h0 : ¬ n = (0 : Int32)) (h : n = (1 : Int32)) : own_text n x = ([x &&& (255 : Int32)] : List Int32) := by unfold own_text; rw [if_neg h0, if_pos h]
theorem own_text2 {n x : Int32} (h0 : ¬ n = (0 : Int32)) (h1 : ¬ n = (1 : Int32)) (h : n = (2 : Int32)) : own_text n x = ([x &&& (255 : Int32), (x.toUInt32 >>> ((8 : Int32) &&& 31).toUInt32).toInt32 &&& (255 : Int32)] : List Int32) := by unfold own_text; rw [if_neg h0, if_neg h1, if_pos h]
theorem own_text3 {n x : Int32} (h0 : ¬ n = (0 : Int32)) (h1 : ¬ n = (1 : Int32)) (h : ¬ n = (2 : Int32)) : own_text n x = ([x &&& (255 : Int32), (x.toUInt32 >>> ((8 : Int32) &&& 31).toUInt32).toInt32 &&& (255 : Int32), (x.toUInt32 >>> ((16 : Int32) &&& 31).toUInt32).toInt32 &&& (255 : Int32)] : List Int32) := by unfold own_text; rw [if_neg h0, if_neg h1, if_neg h]
theorem own_text_len (n x : Int32) : (own_text n x).length ≤ 3 := by
  unfold own_text
  by_cases h0 : n = 0
  · rw [if_pos h0]; exact Nat.zero_le _
  · rw [if_neg h0]
    by_cases h1 : n = 1
    · rw [if_pos h1]; exact Nat.le_of_ble_eq_true rfl
    · rw [if_neg h1]
      by_cases h2 : n = 2
      · rw [if_pos h2]; exact Nat.le_of_ble_eq_true rfl
      · rw [if_neg h2]; exact Nat.le_of_ble_eq_true rfl
theorem own_texteq {n m x y : Int32} (hn : own_4 n) (hm : own_4 m) : own_text n x = own_text m y ↔ n = m ∧ (n < (1 : Int32) ∨ x &&& (255 : Int32) = y &&& (255 : Int32)) ∧ (n < (2 : Int32) ∨ (x.toUInt32 >>> ((8 : Int32) &&& 31).toUInt32).toInt32 &&& (255 : Int32) = (y.toUInt32 >>> ((8 : Int32) &&& 31).toUInt32).toInt32 &&& (255 : Int32)) ∧ (n < (3 : Int32) ∨ (x.toUInt32 >>> ((16 : Int32) &&& 31).toUInt32).toInt32 &&& (255 : Int32) = (y.toUInt32 >>> ((16 : Int32) &&& 31).toUInt32).toInt32 &&& (255 : Int32)) := by
  unfold own_text
  generalize x &&& (255 : Int32) = x0
  generalize y &&& (255 : Int32) = y0
  generalize (x.toUInt32 >>> ((8 : Int32) &&& 31).toUInt32).toInt32 &&& (255 : Int32) = x1
  generalize (y.toUInt32 >>> ((8 : Int32) &&& 31).toUInt32).toInt32 &&& (255 : Int32) = y1
  generalize (x.toUInt32 >>> ((16 : Int32) &&& 31).toUInt32).toInt32 &&& (255 : Int32) = x2
  generalize (y.toUInt32 >>> ((16 : Int32) &&& 31).toUInt32).toInt32 &&& (255 : Int32) = y2
  rcases hn with rfl | rfl | rfl | rfl <;> rcases hm with rfl | rfl | rfl | rfl <;> simp
def own_is (z : Int32) (P : Prop) : Prop := (z = 1 ∧ P) ∨ (z = 0 ∧ ¬ P)
theorem own_is1 {z : Int32} {P : Prop} (h : own_is z P) (q : P) : (1 : Int32) = z := by
  rcases h with ⟨h, -⟩ | ⟨-, h⟩
  · exact h.symm
  · exact absurd q h
theorem own_is0 {z : Int32} {P : Prop} (h : own_is z P) (q : ¬ P) : (0 : Int32) = z := by
  rcases h with ⟨-, h⟩ | ⟨h, -⟩
  · exact absurd h q
  · exact h.symm
theorem own_ltj {n i j : Int32} (h : n < i) (hij : i ≤ j) : n < j := Int32.lt_iff_toInt_lt.mpr (Int.lt_of_lt_of_le (Int32.lt_iff_toInt_lt.mp h) (Int32.le_iff_toInt_le.mp hij))

abbrev own_EL : List (String × Nat) := [("com/example/naslov/naslov/UriEqualsPinLaw", 7), ("com/example/naslov/naslov/Uri", 52), ("java/lang/StringLatin1", 151)]
theorem own_hEL {Z : State} {a0 : Array Value} (hw : ∀ d ∈ tables_1, d.before a0 Z = true) : EW Z a0 own_EL := (EW.cons (ow hw 37 rfl) (by decide) (EW.cons (ow hw 128 rfl) (by decide) (EW.cons (ow hw 173 rfl) (by decide) EW.nil)))
theorem own_pn0 : plainName "java/lang/String" = true := by decide +kernel
theorem own_d14_0 : decode jdk_42_method_154_code 0 = .ok (.getstatic 38, 3) := by decide +kernel
theorem own_d14_3 : decode jdk_42_method_154_code 3 = .ok (.ifCond .eq 14, 3) := by decide +kernel
theorem own_d14_6 : decode jdk_42_method_154_code 6 = .ok (.aload_n 0, 1) := by decide +kernel
theorem own_d14_7 : decode jdk_42_method_154_code 7 = .ok (.getfield 15, 3) := by decide +kernel
theorem own_d14_10 : decode jdk_42_method_154_code 10 = .ok (.ifCond .ne 7, 3) := by decide +kernel
theorem own_d14_13 : decode jdk_42_method_154_code 13 = .ok (.iconst 1, 1) := by decide +kernel
theorem own_d14_14 : decode jdk_42_method_154_code 14 = .ok (.goto 4, 3) := by decide +kernel
theorem own_d14_18 : decode jdk_42_method_154_code 18 = .ok (.ireturn, 1) := by decide +kernel
set_option maxHeartbeats 4000000 in
theorem own_ef_rm14 (m : MethodId) (x0 : Addr) : entryFrame m #[(.ref x0)] 1 = mkF m 0 #[.val (.ref x0)] [] := by rfl
set_option maxRecDepth 65536 in
set_option maxHeartbeats 40000000 in
theorem rm14 (l : Launch) (Z : State) (a0 : Array Value) (hw : ∀ d ∈ tables_1, d.before a0 Z = true) (z0 : Int32) (O2 : Sta Z Z.heap "java/lang/String" "COMPACT_STRINGS" "Z" (.int z0)) (P5 : ¬ z0 = (0 : Int32)) (fm0 : Value) (O4 : Sta Z Z.heap "jdk/internal/util/Preconditions" "SIOOBE_FORMATTER" "Ljava/util/function/BiFunction;" fm0) (R4 : fm0.isRef = true) (ws : List Jvm.Cond) (a : Addr) (h0 : Heap) (n0 : Nat) (Z0 : n0 ≤ h0.size) (Xo : Old Z n0 h0) (Fc : Fld Z h0 a "java/lang/String" "coder" "B" (.int (0 : Int32))) :
    own_MetN l Z (⟨"java/lang/String", "isLatin1", "()Z"⟩ : MethodName) jdk_42_method_154_code 1 (some .boolean) ws ({ frames := 0, cells := 0, slots := 0, locals := 0 } : Room) #[(.ref a)] h0 (fun v h L => Fr n0 L ∧ h = h0 ∧ (((v = some (.int (1 : Int32)))))) := by
  refine own_metN (plainFor_of_name own_pn0) ?_
  intro p e s m below meth c s₁ G hx hby hml hZ hown hnm hret X0 e0 go fin
  have N0 := Fr.nil n0
  refine go _ _ (fun _ k => castTop (own_ef_rm14 m a) k) ?_
  show G (s₁.setTop (mkF m 0 #[.val (.ref a)] []))
  obtain ⟨T101, X101, e101, st101⟩ := getS2 X0 hx hZ (host := "") hown (Or.inl (ow hw 18 rfl)) Via.refl e0 (O2.ext Xo.2) (g := (mkF m 0 #[.val (.ref a)] [])) rfl (hb hby own_d14_0)
  refine go _ _ (st101) ?_
  show G (T101.setTop (mkF m 3 #[.val (.ref a)] [(.int z0)]))
  refine go _ _ (fun _ k => XS.ifNo X101.here hx rfl (hb hby own_d14_3) rfl ((if0 _ _).trans (feq P5).1) k) ?_
  show G (T101.setTop (mkF m 6 #[.val (.ref a)] []))
  refine go _ _ (fun _ k => XS.aloadN X101.here hx rfl (hb hby own_d14_6) rfl rfl k) ?_
  show G (T101.setTop (mkF m 7 #[.val (.ref a)] [(.ref a)]))
  obtain ⟨T102, X102, e102, st102⟩ := getF X101 hx hZ hown (host := "") (Or.inl (ow hw 30 rfl)) Via.refl e101 Fc (g := (mkF m 7 #[.val (.ref a)] [(.ref a)])) rfl rfl (hb hby own_d14_7)
  refine go _ _ (st102) ?_
  show G (T102.setTop (mkF m 10 #[.val (.ref a)] [(.int (0 : Int32))]))
  refine go _ _ (fun _ k => XS.ifNo X102.here hx rfl (hb hby own_d14_10) rfl (by decide) k) ?_
  show G (T102.setTop (mkF m 13 #[.val (.ref a)] []))
  refine go _ _ (fun _ k => XS.iconst X102.here hx rfl (hb hby own_d14_13) k) ?_
  show G (T102.setTop (mkF m 14 #[.val (.ref a)] [(.int (1 : Int32))]))
  refine go _ _ (fun _ k => XS.goto X102.here hx rfl (pc0 := 14) (pc' := 18) rfl (hb hby own_d14_14) (by decide) (by decide) k) ?_
  show G (T102.setTop (mkF m 18 #[.val (.ref a)] [(.int (1 : Int32))]))
  refine fin T102 _ _ _ (some (.int (1 : Int32))) X102 (fun q => nomatch q) (by decide) (by decide) (by rw [e102]; exact ⟨N0, rfl, rfl⟩) _ (own_retN X102 hx (z := (1 : Int32)) (t := .boolean) hret (by simp) (hb hby own_d14_18))
theorem own_d16_0 : decode jdk_42_method_152_code 0 = .ok (.getstatic 38, 3) := by decide +kernel
theorem own_d16_3 : decode jdk_42_method_152_code 3 = .ok (.ifCond .eq 10, 3) := by decide +kernel
theorem own_d16_6 : decode jdk_42_method_152_code 6 = .ok (.aload_n 0, 1) := by decide +kernel
theorem own_d16_7 : decode jdk_42_method_152_code 7 = .ok (.getfield 15, 3) := by decide +kernel
theorem own_d16_10 : decode jdk_42_method_152_code 10 = .ok (.goto 4, 3) := by decide +kernel
theorem own_d16_14 : decode jdk_42_method_152_code 14 = .ok (.ireturn, 1) := by decide +kernel
set_option maxHeartbeats 4000000 in
theorem own_ef_rm16 (m : MethodId) (x0 : Addr) : entryFrame m #[(.ref x0)] 1 = mkF m 0 #[.val (.ref x0)] [] := by rfl
set_option maxRecDepth 65536 in
set_option maxHeartbeats 40000000 in
theorem rm16 (l : Launch) (Z : State) (a0 : Array Value) (hw : ∀ d ∈ tables_1, d.before a0 Z = true) (z0 : Int32) (O2 : Sta Z Z.heap "java/lang/String" "COMPACT_STRINGS" "Z" (.int z0)) (P5 : ¬ z0 = (0 : Int32)) (fm0 : Value) (O4 : Sta Z Z.heap "jdk/internal/util/Preconditions" "SIOOBE_FORMATTER" "Ljava/util/function/BiFunction;" fm0) (R4 : fm0.isRef = true) (ws : List Jvm.Cond) (a : Addr) (h0 : Heap) (n0 : Nat) (Z0 : n0 ≤ h0.size) (Xo : Old Z n0 h0) (Fc : Fld Z h0 a "java/lang/String" "coder" "B" (.int (0 : Int32))) :
    own_MetN l Z (⟨"java/lang/String", "coder", "()B"⟩ : MethodName) jdk_42_method_152_code 1 (some .byte) ws ({ frames := 0, cells := 0, slots := 0, locals := 0 } : Room) #[(.ref a)] h0 (fun v h L => Fr n0 L ∧ h = h0 ∧ (((v = some (.int (0 : Int32)))))) := by
  refine own_metN (plainFor_of_name own_pn0) ?_
  intro p e s m below meth c s₁ G hx hby hml hZ hown hnm hret X0 e0 go fin
  have N0 := Fr.nil n0
  refine go _ _ (fun _ k => castTop (own_ef_rm16 m a) k) ?_
  show G (s₁.setTop (mkF m 0 #[.val (.ref a)] []))
  obtain ⟨T101, X101, e101, st101⟩ := getS2 X0 hx hZ (host := "") hown (Or.inl (ow hw 18 rfl)) Via.refl e0 (O2.ext Xo.2) (g := (mkF m 0 #[.val (.ref a)] [])) rfl (hb hby own_d16_0)
  refine go _ _ (st101) ?_
  show G (T101.setTop (mkF m 3 #[.val (.ref a)] [(.int z0)]))
  refine go _ _ (fun _ k => XS.ifNo X101.here hx rfl (hb hby own_d16_3) rfl ((if0 _ _).trans (feq P5).1) k) ?_
  show G (T101.setTop (mkF m 6 #[.val (.ref a)] []))
  refine go _ _ (fun _ k => XS.aloadN X101.here hx rfl (hb hby own_d16_6) rfl rfl k) ?_
  show G (T101.setTop (mkF m 7 #[.val (.ref a)] [(.ref a)]))
  obtain ⟨T102, X102, e102, st102⟩ := getF X101 hx hZ hown (host := "") (Or.inl (ow hw 30 rfl)) Via.refl e101 Fc (g := (mkF m 7 #[.val (.ref a)] [(.ref a)])) rfl rfl (hb hby own_d16_7)
  refine go _ _ (st102) ?_
  show G (T102.setTop (mkF m 10 #[.val (.ref a)] [(.int (0 : Int32))]))
  refine go _ _ (fun _ k => XS.goto X102.here hx rfl (pc0 := 10) (pc' := 14) rfl (hb hby own_d16_10) (by decide) (by decide) k) ?_
  show G (T102.setTop (mkF m 14 #[.val (.ref a)] [(.int (0 : Int32))]))
  refine fin T102 _ _ _ (some (.int (0 : Int32))) X102 (fun q => nomatch q) (by decide) (by decide) (by rw [e102]; exact ⟨N0, rfl, rfl⟩) _ (own_retN X102 hx (z := (0 : Int32)) (t := .byte) hret (by simp) (hb hby own_d16_14))
theorem own_d15_0 : decode jdk_42_method_54_code 0 = .ok (.aload_n 0, 1) := by decide +kernel
theorem own_d15_1 : decode jdk_42_method_54_code 1 = .ok (.getfield 9, 3) := by decide +kernel
theorem own_d15_4 : decode jdk_42_method_54_code 4 = .ok (.arraylength, 1) := by decide +kernel
theorem own_d15_5 : decode jdk_42_method_54_code 5 = .ok (.aload_n 0, 1) := by decide +kernel
theorem own_pd0 : parseMethodDescriptor "()B" = some ⟨[], some .byte⟩ := by decide +kernel
theorem own_d15_6 : decode jdk_42_method_54_code 6 = .ok (.invokevirtual 335, 3) := by decide +kernel
theorem own_d15_9 : decode jdk_42_method_54_code 9 = .ok (.ishr, 1) := by decide +kernel
theorem own_d15_10 : decode jdk_42_method_54_code 10 = .ok (.ireturn, 1) := by decide +kernel
set_option maxHeartbeats 4000000 in
theorem own_ef_rm15 (m : MethodId) (x0 : Addr) : entryFrame m #[(.ref x0)] 1 = mkF m 0 #[.val (.ref x0)] [] := by rfl
set_option maxRecDepth 65536 in
set_option maxHeartbeats 40000000 in
theorem rm15 (l : Launch) (Z : State) (a0 : Array Value) (hw : ∀ d ∈ tables_1, d.before a0 Z = true) (z0 : Int32) (O2 : Sta Z Z.heap "java/lang/String" "COMPACT_STRINGS" "Z" (.int z0)) (P5 : ¬ z0 = (0 : Int32)) (fm0 : Value) (O4 : Sta Z Z.heap "jdk/internal/util/Preconditions" "SIOOBE_FORMATTER" "Ljava/util/function/BiFunction;" fm0) (R4 : fm0.isRef = true) (ws : List Jvm.Cond) (a : Addr) (n : Int32) (h0 : Heap) (n0 : Nat) (Z0 : n0 ≤ h0.size) (Xo : Old Z n0 h0) (La : own_Ln Z h0 a n) :
    own_MetN l Z (⟨"java/lang/String", "length", "()I"⟩ : MethodName) jdk_42_method_54_code 1 (some .int) ws ({ frames := 1, cells := 0, slots := 0, locals := 13 } : Room) #[(.ref a)] h0 (fun v h L => Fr n0 L ∧ h = h0 ∧ (((v = some (.int n))))) := by
  refine own_metN (plainFor_of_name own_pn0) ?_
  intro p e s m below meth c s₁ G hx hby hml hZ hown hnm hret X0 e0 go fin
  have N0 := Fr.nil n0
  refine go _ _ (fun _ k => castTop (own_ef_rm15 m a) k) ?_
  show G (s₁.setTop (mkF m 0 #[.val (.ref a)] []))
  obtain ⟨t101, kb101, vs101, Es101, Vs101, Cs101, As101, lo101, hi101⟩ := id La
  refine go _ _ (fun _ k => XS.aloadN X0.here hx rfl (hb hby own_d15_0) rfl rfl k) ?_
  show G (s₁.setTop (mkF m 1 #[.val (.ref a)] [(.ref a)]))
  obtain ⟨T102, X102, e102, st102⟩ := getF X0 hx hZ hown (host := "") (Or.inl (ow hw 32 rfl)) Via.refl e0 Vs101 (g := (mkF m 1 #[.val (.ref a)] [(.ref a)])) rfl rfl (hb hby own_d15_1)
  refine go _ _ (st102) ?_
  show G (T102.setTop (mkF m 4 #[.val (.ref a)] [(.ref t101)]))
  obtain ⟨cl103, Ar103, q103, S103, M103, H103, U103⟩ := id As101
  refine go _ _ (fun _ k => X102.arraylength hx (by rw [e102]; exact Ar103.1) (State.isArrayOf_alike hZ.alike Ar103.2.1) (g := (mkF m 4 #[.val (.ref a)] [(.ref t101)])) rfl rfl (hb hby own_d15_4) _ k) ?_
  show G (T102.setTop (mkF m 5 #[.val (.ref a)] [(.int cl103.slots.size.toInt32)]))
  rw [len_of S103 M103]
  show G (T102.setTop (mkF m 5 #[.val (.ref a)] [(.int n)]))
  refine go _ _ (fun _ k => XS.aloadN X102.here hx rfl (hb hby own_d15_5) rfl rfl k) ?_
  show G (T102.setTop (mkF m 6 #[.val (.ref a)] [(.ref a), (.int n)]))
  obtain ⟨rv104, T104, L104, X104, q104, st104⟩ := own_vi X102 hx hZ (y := (⟨"java/lang/String", "coder", "()B"⟩ : MethodName)) (z := (⟨"java/lang/String", "coder", "()B"⟩ : MethodName)) hown (ow hw 107 rfl) (ow hw 108 rfl) (ow hw 110 rfl) (ow hw 109 rfl) (Or.inl rfl) (by decide) (own_bkN (W := 1) (rm16 l Z a0 hw z0 O2 P5 fm0 O4 R4 [] a h0 n0 Z0 Xo Cs101) hZ (ow hw 111 rfl) (ow hw 6 rfl) (by decide) (by decide)) e102 Es101 (g := (mkF m 6 #[.val (.ref a)] [(.ref a), (.int n)])) rfl (by rw [hml]; rfl) (argsL := []) (rest := [(.int n)]) rfl (lenOf own_pd0 rfl) rfl (by show 2 * 0 + _ ≤ _; exact Nat.le_of_eq rfl) (hb hby own_d15_6) (by decide) (by decide)
  obtain ⟨Nq104, e104, rfl⟩ := q104
  have N104 := Fr.app N0 Nq104
  refine go _ _ (st104) ?_
  show G (T104.setTop (mkF m 9 #[.val (.ref a)] [(.int (0 : Int32)), (.int n)]))
  refine go _ _ (fun _ k => XS.ishr X104.here hx rfl (hb hby own_d15_9) rfl k) ?_
  show G (T104.setTop (mkF m 10 #[.val (.ref a)] [(.int (n >>> ((0 : Int32) &&& 31)))]))
  rw [own_shr0]
  show G (T104.setTop (mkF m 10 #[.val (.ref a)] [(.int n)]))
  refine fin T104 _ _ _ (some (.int n)) X104 (fun q => nomatch q) (by decide) (by decide) (by rw [e104]; exact ⟨N104, rfl, rfl⟩) _ (own_retI X104 hx hret (hb hby own_d15_10))
theorem own_d19_0 : decode jdk_29_method_65_code 0 = .ok (.iload_n 0, 1) := by decide +kernel
theorem own_d19_1 : decode jdk_29_method_65_code 1 = .ok (.iload_n 1, 1) := by decide +kernel
theorem own_d19_2 : decode jdk_29_method_65_code 2 = .ok (.if_icmp .lt 7, 3) := by decide +kernel
theorem own_d19_9 : decode jdk_29_method_65_code 9 = .ok (.iload_n 1, 1) := by decide +kernel
theorem own_d19_10 : decode jdk_29_method_65_code 10 = .ok (.ireturn, 1) := by decide +kernel
theorem own_d19_5 : decode jdk_29_method_65_code 5 = .ok (.iload_n 0, 1) := by decide +kernel
theorem own_d19_6 : decode jdk_29_method_65_code 6 = .ok (.goto 4, 3) := by decide +kernel
set_option maxHeartbeats 4000000 in
theorem own_ef_rm19 (m : MethodId) (x0 : Int32) (x1 : Int32) : entryFrame m #[(.int x0), (.int x1)] 2 = mkF m 0 #[.val (.int x0), .val (.int x1)] [] := by rfl
set_option maxRecDepth 65536 in
set_option maxHeartbeats 40000000 in
theorem rm19 (l : Launch) (Z : State) (a0 : Array Value) (hw : ∀ d ∈ tables_1, d.before a0 Z = true) (z0 : Int32) (O2 : Sta Z Z.heap "java/lang/String" "COMPACT_STRINGS" "Z" (.int z0)) (P5 : ¬ z0 = (0 : Int32)) (fm0 : Value) (O4 : Sta Z Z.heap "jdk/internal/util/Preconditions" "SIOOBE_FORMATTER" "Ljava/util/function/BiFunction;" fm0) (R4 : fm0.isRef = true) (ws : List Jvm.Cond) (x : Int32) (y : Int32) (h0 : Heap) (n0 : Nat) (Z0 : n0 ≤ h0.size) :
    own_MetN l Z (⟨"java/lang/Math", "max", "(II)I"⟩ : MethodName) jdk_29_method_65_code 2 (some .int) ws ({ frames := 0, cells := 0, slots := 0, locals := 0 } : Room) #[(.int x), (.int y)] h0 (fun v h L => Fr n0 L ∧ h = h0 ∧ (((v = some (.int y)) ∧ (x < y)) ∨ ((v = some (.int x)) ∧ (¬ x < y)))) := by
  refine own_metN (Free.JP.mathPlain rfl (by decide)) ?_
  intro p e s m below meth c s₁ G hx hby hml hZ hown hnm hret X0 e0 go fin
  have N0 := Fr.nil n0
  refine go _ _ (fun _ k => castTop (own_ef_rm19 m x y) k) ?_
  show G (s₁.setTop (mkF m 0 #[.val (.int x), .val (.int y)] []))
  refine go _ _ (fun _ k => XS.iloadN X0.here hx rfl (hb hby own_d19_0) rfl (XS.iloadN X0.here hx rfl (hb hby own_d19_1) rfl k)) ?_
  show G (s₁.setTop (mkF m 2 #[.val (.int x), .val (.int y)] [(.int y), (.int x)]))
  by_cases hc2_101 : x < y
  · refine go _ _ (fun _ k => XS.icmpYes X0.here hx rfl (pc0 := 2) (pc' := 9) rfl (hb hby own_d19_2) rfl (tlt hc2_101).1 (by decide) (by decide) k) ?_
    show G (s₁.setTop (mkF m 9 #[.val (.int x), .val (.int y)] []))
    refine go _ _ (fun _ k => XS.iloadN X0.here hx rfl (hb hby own_d19_9) rfl k) ?_
    show G (s₁.setTop (mkF m 10 #[.val (.int x), .val (.int y)] [(.int y)]))
    refine fin s₁ _ _ _ (some (.int y)) X0 (fun q => nomatch q) (by decide) (by decide) (by rw [e0]; exact ⟨N0, rfl, (Or.inl ⟨rfl, hc2_101⟩)⟩) _ (own_retI X0 hx hret (hb hby own_d19_10))
  · refine go _ _ (fun _ k => XS.icmpNo X0.here hx rfl (hb hby own_d19_2) rfl (flt hc2_101).1 k) ?_
    show G (s₁.setTop (mkF m 5 #[.val (.int x), .val (.int y)] []))
    refine go _ _ (fun _ k => XS.iloadN X0.here hx rfl (hb hby own_d19_5) rfl k) ?_
    show G (s₁.setTop (mkF m 6 #[.val (.int x), .val (.int y)] [(.int x)]))
    refine go _ _ (fun _ k => XS.goto X0.here hx rfl (pc0 := 6) (pc' := 10) rfl (hb hby own_d19_6) (by decide) (by decide) k) ?_
    show G (s₁.setTop (mkF m 10 #[.val (.int x), .val (.int y)] [(.int x)]))
    refine fin s₁ _ _ _ (some (.int x)) X0 (fun q => nomatch q) (by decide) (by decide) (by rw [e0]; exact ⟨N0, rfl, (Or.inr ⟨rfl, hc2_101⟩)⟩) _ (own_retI X0 hx hret (hb hby own_d19_10))
theorem own_d20_0 : decode jdk_29_method_69_code 0 = .ok (.iload_n 0, 1) := by decide +kernel
theorem own_d20_1 : decode jdk_29_method_69_code 1 = .ok (.iload_n 1, 1) := by decide +kernel
theorem own_d20_2 : decode jdk_29_method_69_code 2 = .ok (.if_icmp .gt 7, 3) := by decide +kernel
theorem own_d20_9 : decode jdk_29_method_69_code 9 = .ok (.iload_n 1, 1) := by decide +kernel
theorem own_d20_10 : decode jdk_29_method_69_code 10 = .ok (.ireturn, 1) := by decide +kernel
theorem own_d20_5 : decode jdk_29_method_69_code 5 = .ok (.iload_n 0, 1) := by decide +kernel
theorem own_d20_6 : decode jdk_29_method_69_code 6 = .ok (.goto 4, 3) := by decide +kernel
set_option maxHeartbeats 4000000 in
theorem own_ef_rm20 (m : MethodId) (x0 : Int32) (x1 : Int32) : entryFrame m #[(.int x0), (.int x1)] 2 = mkF m 0 #[.val (.int x0), .val (.int x1)] [] := by rfl
set_option maxRecDepth 65536 in
set_option maxHeartbeats 40000000 in
theorem rm20 (l : Launch) (Z : State) (a0 : Array Value) (hw : ∀ d ∈ tables_1, d.before a0 Z = true) (z0 : Int32) (O2 : Sta Z Z.heap "java/lang/String" "COMPACT_STRINGS" "Z" (.int z0)) (P5 : ¬ z0 = (0 : Int32)) (fm0 : Value) (O4 : Sta Z Z.heap "jdk/internal/util/Preconditions" "SIOOBE_FORMATTER" "Ljava/util/function/BiFunction;" fm0) (R4 : fm0.isRef = true) (ws : List Jvm.Cond) (x : Int32) (y : Int32) (h0 : Heap) (n0 : Nat) (Z0 : n0 ≤ h0.size) :
    own_MetN l Z (⟨"java/lang/Math", "min", "(II)I"⟩ : MethodName) jdk_29_method_69_code 2 (some .int) ws ({ frames := 0, cells := 0, slots := 0, locals := 0 } : Room) #[(.int x), (.int y)] h0 (fun v h L => Fr n0 L ∧ h = h0 ∧ (((v = some (.int y)) ∧ (y < x)) ∨ ((v = some (.int x)) ∧ (¬ y < x)))) := by
  refine own_metN (Free.JP.mathPlain rfl (by decide)) ?_
  intro p e s m below meth c s₁ G hx hby hml hZ hown hnm hret X0 e0 go fin
  have N0 := Fr.nil n0
  refine go _ _ (fun _ k => castTop (own_ef_rm20 m x y) k) ?_
  show G (s₁.setTop (mkF m 0 #[.val (.int x), .val (.int y)] []))
  refine go _ _ (fun _ k => XS.iloadN X0.here hx rfl (hb hby own_d20_0) rfl (XS.iloadN X0.here hx rfl (hb hby own_d20_1) rfl k)) ?_
  show G (s₁.setTop (mkF m 2 #[.val (.int x), .val (.int y)] [(.int y), (.int x)]))
  by_cases hc2_101 : y < x
  · refine go _ _ (fun _ k => XS.icmpYes X0.here hx rfl (pc0 := 2) (pc' := 9) rfl (hb hby own_d20_2) rfl (tlt hc2_101).2.2.1 (by decide) (by decide) k) ?_
    show G (s₁.setTop (mkF m 9 #[.val (.int x), .val (.int y)] []))
    refine go _ _ (fun _ k => XS.iloadN X0.here hx rfl (hb hby own_d20_9) rfl k) ?_
    show G (s₁.setTop (mkF m 10 #[.val (.int x), .val (.int y)] [(.int y)]))
    refine fin s₁ _ _ _ (some (.int y)) X0 (fun q => nomatch q) (by decide) (by decide) (by rw [e0]; exact ⟨N0, rfl, (Or.inl ⟨rfl, hc2_101⟩)⟩) _ (own_retI X0 hx hret (hb hby own_d20_10))
  · refine go _ _ (fun _ k => XS.icmpNo X0.here hx rfl (hb hby own_d20_2) rfl (flt hc2_101).2.2.1 k) ?_
    show G (s₁.setTop (mkF m 5 #[.val (.int x), .val (.int y)] []))
    refine go _ _ (fun _ k => XS.iloadN X0.here hx rfl (hb hby own_d20_5) rfl k) ?_
    show G (s₁.setTop (mkF m 6 #[.val (.int x), .val (.int y)] [(.int x)]))
    refine go _ _ (fun _ k => XS.goto X0.here hx rfl (pc0 := 6) (pc' := 10) rfl (hb hby own_d20_6) (by decide) (by decide) k) ?_
    show G (s₁.setTop (mkF m 10 #[.val (.int x), .val (.int y)] [(.int x)]))
    refine fin s₁ _ _ _ (some (.int x)) X0 (fun q => nomatch q) (by decide) (by decide) (by rw [e0]; exact ⟨N0, rfl, (Or.inr ⟨rfl, hc2_101⟩)⟩) _ (own_retI X0 hx hret (hb hby own_d20_10))
theorem own_pn2 : plainName "java/lang/StringLatin1" = true := by decide +kernel
theorem own_d18_0 : decode jdk_43_method_4_code 0 = .ok (.iload_n 0, 1) := by decide +kernel
theorem own_d18_1 : decode jdk_43_method_4_code 1 = .ok (.ifCond .lt 14, 3) := by decide +kernel
theorem own_d18_4 : decode jdk_43_method_4_code 4 = .ok (.iload_n 0, 1) := by decide +kernel
theorem own_d18_5 : decode jdk_43_method_4_code 5 = .ok (.sipush 255, 3) := by decide +kernel
theorem own_d18_8 : decode jdk_43_method_4_code 8 = .ok (.if_icmp .gt 7, 3) := by decide +kernel
theorem own_d18_11 : decode jdk_43_method_4_code 11 = .ok (.iconst 1, 1) := by decide +kernel
theorem own_d18_12 : decode jdk_43_method_4_code 12 = .ok (.goto 4, 3) := by decide +kernel
theorem own_d18_16 : decode jdk_43_method_4_code 16 = .ok (.ireturn, 1) := by decide +kernel
set_option maxHeartbeats 4000000 in
theorem own_ef_rm18 (m : MethodId) (x0 : Int32) : entryFrame m #[(.int x0)] 1 = mkF m 0 #[.val (.int x0)] [] := by rfl
set_option maxRecDepth 65536 in
set_option maxHeartbeats 40000000 in
theorem rm18 (l : Launch) (Z : State) (a0 : Array Value) (hw : ∀ d ∈ tables_1, d.before a0 Z = true) (z0 : Int32) (O2 : Sta Z Z.heap "java/lang/String" "COMPACT_STRINGS" "Z" (.int z0)) (P5 : ¬ z0 = (0 : Int32)) (fm0 : Value) (O4 : Sta Z Z.heap "jdk/internal/util/Preconditions" "SIOOBE_FORMATTER" "Ljava/util/function/BiFunction;" fm0) (R4 : fm0.isRef = true) (ws : List Jvm.Cond) (ch : Int32) (h0 : Heap) (n0 : Nat) (Z0 : n0 ≤ h0.size) (hc1 : ¬ ch < (0 : Int32)) (hc2 : ¬ (255 : Int32) < ch) :
    own_MetN l Z (⟨"java/lang/StringLatin1", "canEncode", "(I)Z"⟩ : MethodName) jdk_43_method_4_code 1 (some .boolean) ws ({ frames := 0, cells := 0, slots := 0, locals := 0 } : Room) #[(.int ch)] h0 (fun v h L => Fr n0 L ∧ h = h0 ∧ (((v = some (.int (1 : Int32)))))) := by
  refine own_metN (plainFor_of_name own_pn2) ?_
  intro p e s m below meth c s₁ G hx hby hml hZ hown hnm hret X0 e0 go fin
  have N0 := Fr.nil n0
  refine go _ _ (fun _ k => castTop (own_ef_rm18 m ch) k) ?_
  show G (s₁.setTop (mkF m 0 #[.val (.int ch)] []))
  refine go _ _ (fun _ k => XS.iloadN X0.here hx rfl (hb hby own_d18_0) rfl k) ?_
  show G (s₁.setTop (mkF m 1 #[.val (.int ch)] [(.int ch)]))
  refine go _ _ (fun _ k => XS.ifNo X0.here hx rfl (hb hby own_d18_1) rfl ((if0 _ _).trans (flt hc1).1) k) ?_
  show G (s₁.setTop (mkF m 4 #[.val (.int ch)] []))
  refine go _ _ (fun _ k => XS.iloadN X0.here hx rfl (hb hby own_d18_4) rfl (XS.sipush X0.here hx rfl (hb hby own_d18_5) k)) ?_
  show G (s₁.setTop (mkF m 8 #[.val (.int ch)] [(.int (255 : Int32)), (.int ch)]))
  refine go _ _ (fun _ k => XS.icmpNo X0.here hx rfl (hb hby own_d18_8) rfl (flt hc2).2.2.1 k) ?_
  show G (s₁.setTop (mkF m 11 #[.val (.int ch)] []))
  refine go _ _ (fun _ k => XS.iconst X0.here hx rfl (hb hby own_d18_11) k) ?_
  show G (s₁.setTop (mkF m 12 #[.val (.int ch)] [(.int (1 : Int32))]))
  refine go _ _ (fun _ k => XS.goto X0.here hx rfl (pc0 := 12) (pc' := 16) rfl (hb hby own_d18_12) (by decide) (by decide) k) ?_
  show G (s₁.setTop (mkF m 16 #[.val (.int ch)] [(.int (1 : Int32))]))
  refine fin s₁ _ _ _ (some (.int (1 : Int32))) X0 (fun q => nomatch q) (by decide) (by decide) (by rw [e0]; exact ⟨N0, rfl, rfl⟩) _ (own_retN X0 hx (z := (1 : Int32)) (t := .boolean) hret (by simp) (hb hby own_d18_16))
theorem own_d21_0 : decode jdk_43_method_23_code 0 = .ok (.iload_n 1, 1) := by decide +kernel
theorem own_d21_1 : decode jdk_43_method_23_code 1 = .ok (.i2b, 1) := by decide +kernel
theorem own_d21_2 : decode jdk_43_method_23_code 2 = .ok (.istore 4, 2) := by decide +kernel
theorem own_d21_4 : decode jdk_43_method_23_code 4 = .ok (.iload_n 2, 1) := by decide +kernel
theorem own_d21_5 : decode jdk_43_method_23_code 5 = .ok (.istore 5, 2) := by decide +kernel
theorem own_d21_7 : decode jdk_43_method_23_code 7 = .ok (.iload 5, 2) := by decide +kernel
theorem own_d21_9 : decode jdk_43_method_23_code 9 = .ok (.iload_n 3, 1) := by decide +kernel
theorem own_d21_10 : decode jdk_43_method_23_code 10 = .ok (.if_icmp .ge 21, 3) := by decide +kernel
theorem own_d21_13 : decode jdk_43_method_23_code 13 = .ok (.aload_n 0, 1) := by decide +kernel
theorem own_d21_14 : decode jdk_43_method_23_code 14 = .ok (.iload 5, 2) := by decide +kernel
theorem own_d21_16 : decode jdk_43_method_23_code 16 = .ok (.baload, 1) := by decide +kernel
theorem own_d21_17 : decode jdk_43_method_23_code 17 = .ok (.iload 4, 2) := by decide +kernel
theorem own_d21_19 : decode jdk_43_method_23_code 19 = .ok (.if_icmp .ne 6, 3) := by decide +kernel
theorem own_d21_22 : decode jdk_43_method_23_code 22 = .ok (.iload 5, 2) := by decide +kernel
theorem own_d21_24 : decode jdk_43_method_23_code 24 = .ok (.ireturn, 1) := by decide +kernel
theorem own_d21_25 : decode jdk_43_method_23_code 25 = .ok (.iinc 5 1, 3) := by decide +kernel
theorem own_d21_28 : decode jdk_43_method_23_code 28 = .ok (.goto (-21), 3) := by decide +kernel
theorem own_d21_31 : decode jdk_43_method_23_code 31 = .ok (.iconst (-1), 1) := by decide +kernel
theorem own_d21_32 : decode jdk_43_method_23_code 32 = .ok (.ireturn, 1) := by decide +kernel
set_option maxHeartbeats 4000000 in
theorem own_ef_rm21 (m : MethodId) (x0 : Addr) (x1 : Int32) (x2 : Int32) (x3 : Int32) : entryFrame m #[(.ref x0), (.int x1), (.int x2), (.int x3)] 6 = mkF m 0 #[.val (.ref x0), .val (.int x1), .val (.int x2), .val (.int x3), .unset, .unset] [] := by rfl
set_option maxRecDepth 65536 in
set_option maxHeartbeats 40000000 in
theorem rm21 (l : Launch) (Z : State) (a0 : Array Value) (hw : ∀ d ∈ tables_1, d.before a0 Z = true) (z0 : Int32) (O2 : Sta Z Z.heap "java/lang/String" "COMPACT_STRINGS" "Z" (.int z0)) (P5 : ¬ z0 = (0 : Int32)) (fm0 : Value) (O4 : Sta Z Z.heap "jdk/internal/util/Preconditions" "SIOOBE_FORMATTER" "Ljava/util/function/BiFunction;" fm0) (R4 : fm0.isRef = true) (ws : List Jvm.Cond) (t : Addr) (ch : Int32) (f : Int32) (n : Int32) (kb : ClassId) (vs : List Value) (h0 : Heap) (n0 : Nat) (Z0 : n0 ≤ h0.size) (At : Arv Z h0 t kb .byte n vs (.int (0 : Int32))) (hf : ¬ f < (0 : Int32)) (hfn : f < n) :
    own_MetN l Z (⟨"java/lang/StringLatin1", "indexOfChar", "([BIII)I"⟩ : MethodName) jdk_43_method_23_code 6 (some .int) ws ({ frames := 0, cells := 0, slots := 0, locals := 0 } : Room) #[(.ref t), (.int ch), (.int f), (.int n)] h0 (fun v h L => Fr n0 L ∧ h = h0 ∧ (((v = some (.int (-1 : Int32)))) ∨ (∃ (r : Int32), (v = some (.int r)) ∧ (¬ r < f) ∧ (r < n)))) := by
  refine own_metN (plainFor_of_name own_pn2) ?_
  intro p e s m below meth c s₁ G hx hby hml hZ hown hnm hret X0 e0 go fin
  have N0 := Fr.nil n0
  refine go _ _ (fun _ k => castTop (own_ef_rm21 m t ch f n) k) ?_
  show G (s₁.setTop (mkF m 0 #[.val (.ref t), .val (.int ch), .val (.int f), .val (.int n), .unset, .unset] []))
  refine go _ _ (fun _ k => XS.iloadN X0.here hx rfl (hb hby own_d21_0) rfl (XS.i2b X0.here hx rfl (hb hby own_d21_1) rfl (XS.istore X0.here hx rfl (hb hby own_d21_2) rfl (l' := #[.val (.ref t), .val (.int ch), .val (.int f), .val (.int n), .val (.int (ch.toInt8.toInt32)), .unset]) rfl (XS.iloadN X0.here hx rfl (hb hby own_d21_4) rfl (XS.istore X0.here hx rfl (hb hby own_d21_5) rfl (l' := #[.val (.ref t), .val (.int ch), .val (.int f), .val (.int n), .val (.int (ch.toInt8.toInt32)), .val (.int f)]) rfl k))))) ?_
  show G (s₁.setTop (mkF m 7 #[.val (.ref t), .val (.int ch), .val (.int f), .val (.int n), .val (.int (ch.toInt8.toInt32)), .val (.int f)] []))
  have ha102 : ¬ f < f := by
    have ar0 := own_rg f
    have ar1 : (0 : Int32).toInt = 0 := rfl
    have ar2 := own_rg n
    have hy0 := own_nl hf
    have hy1 := own_l hfn
    exact own_nl' (by omega)
  have ha103 : ¬ n < f := by
    have ar0 := own_rg n
    have ar1 := own_rg f
    have ar2 : (0 : Int32).toInt = 0 := rfl
    have hy0 := own_nl hf
    have hy1 := own_l hfn
    have hy2 := own_nl ha102
    exact own_nl' (by omega)
  have J101 : ∀ (kf : Nat) (i : Int32), ¬ i < f → ¬ n < i → n.toInt - i.toInt < (kf : Int) → G (s₁.setTop (mkF m 7 #[.val (.ref t), .val (.int ch), .val (.int f), .val (.int n), .val (.int (ch.toInt8.toInt32)), .val (.int i)] [])) := by
    intro kf
    induction kf with
    | zero => intro i hi1 hi2 hi3; exact absurd hi3 (by have := own_nl hi2; omega)
    | succ kf ih =>
      intro i hi1 hi2 hi3
      show G (s₁.setTop (mkF m 7 #[.val (.ref t), .val (.int ch), .val (.int f), .val (.int n), .val (.int (ch.toInt8.toInt32)), .val (.int i)] []))
      refine go _ _ (fun _ k => XS.iload X0.here hx rfl (hb hby own_d21_7) rfl (XS.iloadN X0.here hx rfl (hb hby own_d21_9) rfl k)) ?_
      show G (s₁.setTop (mkF m 10 #[.val (.ref t), .val (.int ch), .val (.int f), .val (.int n), .val (.int (ch.toInt8.toInt32)), .val (.int i)] [(.int n), (.int i)]))
      by_cases hc10_104 : i < n
      · refine go _ _ (fun _ k => XS.icmpNo X0.here hx rfl (hb hby own_d21_10) rfl (tlt hc10_104).2.1 k) ?_
        show G (s₁.setTop (mkF m 13 #[.val (.ref t), .val (.int ch), .val (.int f), .val (.int n), .val (.int (ch.toInt8.toInt32)), .val (.int i)] []))
        refine go _ _ (fun _ k => XS.aloadN X0.here hx rfl (hb hby own_d21_13) rfl rfl (XS.iload X0.here hx rfl (hb hby own_d21_14) rfl k)) ?_
        show G (s₁.setTop (mkF m 16 #[.val (.ref t), .val (.int ch), .val (.int f), .val (.int n), .val (.int (ch.toInt8.toInt32)), .val (.int i)] [(.int i), (.ref t)]))
        have ha106 : ¬ i < (0 : Int32) := by
          have ar0 := own_rg i
          have ar1 : (0 : Int32).toInt = 0 := rfl
          have ar2 := own_rg f
          have ar3 := own_rg n
          have hy0 := own_nl hf
          have hy1 := own_l hfn
          have hy2 := own_nl ha102
          have hy3 := own_nl ha103
          have hy4 := own_nl hi1
          have hy5 := own_nl hi2
          have hy6 := own_l hc10_104
          exact own_nl' (by omega)
        have ha107 : i < n := by
          have ar0 := own_rg i
          have ar1 := own_rg n
          have ar2 := own_rg f
          have ar3 : (0 : Int32).toInt = 0 := rfl
          have hy0 := own_nl hf
          have hy1 := own_l hfn
          have hy2 := own_nl ha102
          have hy3 := own_nl ha103
          have hy4 := own_nl hi1
          have hy5 := own_nl hi2
          have hy6 := own_l hc10_104
          have hy7 := own_nl ha106
          exact own_l' (by omega)
        obtain ⟨cl105, Ar105, q105, S105, M105, H105, U105⟩ := id At
        have ib105 := inb_of (j := i) S105 ⟨ha106, ha107⟩
        obtain ⟨x105, hx105⟩ := own_ld H105 U105 ib105
        refine go _ _ (fun _ k => X0.baloadBytes hx (j := i) (v := .int x105) (by rw [e0]; exact Ar105.1) (State.isArrayOf_alike hZ.alike Ar105.2.1) Ar105.2.2 ib105 hx105 (g := (mkF m 16 #[.val (.ref t), .val (.int ch), .val (.int f), .val (.int n), .val (.int (ch.toInt8.toInt32)), .val (.int i)] [(.int i), (.ref t)])) rfl rfl (hb hby own_d21_16) _ k) ?_
        show G (s₁.setTop (mkF m 17 #[.val (.ref t), .val (.int ch), .val (.int f), .val (.int n), .val (.int (ch.toInt8.toInt32)), .val (.int i)] [(.int x105)]))
        refine go _ _ (fun _ k => XS.iload X0.here hx rfl (hb hby own_d21_17) rfl k) ?_
        show G (s₁.setTop (mkF m 19 #[.val (.ref t), .val (.int ch), .val (.int f), .val (.int n), .val (.int (ch.toInt8.toInt32)), .val (.int i)] [(.int (ch.toInt8.toInt32)), (.int x105)]))
        by_cases hc19_108 : x105 = (ch.toInt8.toInt32)
        · refine go _ _ (fun _ k => XS.icmpNo X0.here hx rfl (hb hby own_d21_19) rfl (teq hc19_108).2 k) ?_
          show G (s₁.setTop (mkF m 22 #[.val (.ref t), .val (.int ch), .val (.int f), .val (.int n), .val (.int (ch.toInt8.toInt32)), .val (.int i)] []))
          refine go _ _ (fun _ k => XS.iload X0.here hx rfl (hb hby own_d21_22) rfl k) ?_
          show G (s₁.setTop (mkF m 24 #[.val (.ref t), .val (.int ch), .val (.int f), .val (.int n), .val (.int (ch.toInt8.toInt32)), .val (.int i)] [(.int i)]))
          refine fin s₁ _ _ _ (some (.int i)) X0 (fun q => nomatch q) (by decide) (by decide) (by rw [e0]; exact ⟨N0, rfl, (Or.inr ⟨i, rfl, hi1, ha107⟩)⟩) _ (own_retI X0 hx hret (hb hby own_d21_24))
        · refine go _ _ (fun _ k => XS.icmpYes X0.here hx rfl (pc0 := 19) (pc' := 25) rfl (hb hby own_d21_19) rfl (feq hc19_108).2 (by decide) (by decide) k) ?_
          show G (s₁.setTop (mkF m 25 #[.val (.ref t), .val (.int ch), .val (.int f), .val (.int n), .val (.int (ch.toInt8.toInt32)), .val (.int i)] []))
          refine go _ _ (fun _ k => XS.iinc X0.here hx rfl (hb hby own_d21_25) rfl (l' := #[.val (.ref t), .val (.int ch), .val (.int f), .val (.int n), .val (.int (ch.toInt8.toInt32)), .val (.int (i + (1 : Int32)))]) rfl k) ?_
          show G (s₁.setTop (mkF m 28 #[.val (.ref t), .val (.int ch), .val (.int f), .val (.int n), .val (.int (ch.toInt8.toInt32)), .val (.int (i + (1 : Int32)))] []))
          refine go _ _ (fun _ k => XS.goto X0.here hx rfl (pc0 := 28) (pc' := 7) rfl (hb hby own_d21_28) (by decide) (by decide) k) ?_
          show G (s₁.setTop (mkF m 7 #[.val (.ref t), .val (.int ch), .val (.int f), .val (.int n), .val (.int (ch.toInt8.toInt32)), .val (.int (i + (1 : Int32)))] []))
          have ha109 : ¬ (i + (1 : Int32)) < f := by
            have ar0 := own_rg i
            have ar1 : (1 : Int32).toInt = 1 := rfl
            have ar2 := c_iadd i (1 : Int32)
            have ar3 := own_rg (i + (1 : Int32))
            have ar4 := own_rg f
            have ar5 : (0 : Int32).toInt = 0 := rfl
            have ar6 := own_rg n
            have hy0 := own_nl hf
            have hy1 := own_l hfn
            have hy2 := own_nl ha102
            have hy3 := own_nl ha103
            have hy4 := own_nl hi1
            have hy5 := own_nl hi2
            have hy6 := own_l ha107
            have hy7 := own_nl ha106
            exact own_nl' (by omega)
          have ha110 : ¬ n < (i + (1 : Int32)) := by
            have ar0 := own_rg n
            have ar1 := own_rg i
            have ar2 : (1 : Int32).toInt = 1 := rfl
            have ar3 := c_iadd i (1 : Int32)
            have ar4 := own_rg (i + (1 : Int32))
            have ar5 := own_rg f
            have ar6 : (0 : Int32).toInt = 0 := rfl
            have hy0 := own_nl hf
            have hy1 := own_l hfn
            have hy2 := own_nl ha102
            have hy3 := own_nl ha103
            have hy4 := own_nl hi1
            have hy5 := own_nl hi2
            have hy6 := own_l ha107
            have hy7 := own_nl ha106
            have hy8 := own_nl ha109
            exact own_nl' (by omega)
          have hf111 : n.toInt - (i + (1 : Int32)).toInt < (kf : Int) := by
            have ar0 := own_rg i
            have ar1 : (1 : Int32).toInt = 1 := rfl
            have ar2 := c_iadd i (1 : Int32)
            have ar3 := own_rg (i + (1 : Int32))
            have ar4 := own_rg n
            have ar5 := own_rg f
            have ar6 : (0 : Int32).toInt = 0 := rfl
            have hy0 := own_nl hf
            have hy1 := own_l hfn
            have hy2 := own_nl ha102
            have hy3 := own_nl ha103
            have hy4 := own_nl hi1
            have hy5 := own_nl hi2
            have hy6 := own_l ha107
            have hy7 := own_nl ha106
            have hy8 := own_nl ha109
            have hy9 := own_nl ha110
            omega
          exact ih _ ha109 ha110 hf111
      · refine go _ _ (fun _ k => XS.icmpYes X0.here hx rfl (pc0 := 10) (pc' := 31) rfl (hb hby own_d21_10) rfl (flt hc10_104).2.1 (by decide) (by decide) k) ?_
        show G (s₁.setTop (mkF m 31 #[.val (.ref t), .val (.int ch), .val (.int f), .val (.int n), .val (.int (ch.toInt8.toInt32)), .val (.int i)] []))
        refine go _ _ (fun _ k => XS.iconst X0.here hx rfl (hb hby own_d21_31) k) ?_
        show G (s₁.setTop (mkF m 32 #[.val (.ref t), .val (.int ch), .val (.int f), .val (.int n), .val (.int (ch.toInt8.toInt32)), .val (.int i)] [(.int (-1 : Int32))]))
        refine fin s₁ _ _ _ (some (.int (-1 : Int32))) X0 (fun q => nomatch q) (by decide) (by decide) (by rw [e0]; exact ⟨N0, rfl, (Or.inl rfl)⟩) _ (own_retI X0 hx hret (hb hby own_d21_32))
  exact J101 (n.toInt - f.toInt + 1).toNat f ha102 ha103 (by omega)
theorem own_d17_0 : decode jdk_43_method_22_code 0 = .ok (.iload_n 1, 1) := by decide +kernel
theorem own_pd1 : parseMethodDescriptor "(I)Z" = some ⟨[.int], some .boolean⟩ := by decide +kernel
theorem own_d17_1 : decode jdk_43_method_22_code 1 = .ok (.invokestatic 88, 3) := by decide +kernel
theorem own_d17_4 : decode jdk_43_method_22_code 4 = .ok (.ifCond .ne 5, 3) := by decide +kernel
theorem own_d17_9 : decode jdk_43_method_22_code 9 = .ok (.iload_n 2, 1) := by decide +kernel
theorem own_d17_10 : decode jdk_43_method_22_code 10 = .ok (.iconst 0, 1) := by decide +kernel
theorem own_pd2 : parseMethodDescriptor "(II)I" = some ⟨[.int, .int], some .int⟩ := by decide +kernel
theorem own_d17_11 : decode jdk_43_method_22_code 11 = .ok (.invokestatic 92, 3) := by decide +kernel
theorem own_d17_14 : decode jdk_43_method_22_code 14 = .ok (.istore_n 2, 1) := by decide +kernel
theorem own_d17_15 : decode jdk_43_method_22_code 15 = .ok (.iload_n 3, 1) := by decide +kernel
theorem own_d17_16 : decode jdk_43_method_22_code 16 = .ok (.aload_n 0, 1) := by decide +kernel
theorem own_d17_17 : decode jdk_43_method_22_code 17 = .ok (.arraylength, 1) := by decide +kernel
theorem own_d17_18 : decode jdk_43_method_22_code 18 = .ok (.invokestatic 38, 3) := by decide +kernel
theorem own_d17_21 : decode jdk_43_method_22_code 21 = .ok (.istore_n 3, 1) := by decide +kernel
theorem own_d17_22 : decode jdk_43_method_22_code 22 = .ok (.iload_n 2, 1) := by decide +kernel
theorem own_d17_23 : decode jdk_43_method_22_code 23 = .ok (.iload_n 3, 1) := by decide +kernel
theorem own_d17_24 : decode jdk_43_method_22_code 24 = .ok (.if_icmp .lt 5, 3) := by decide +kernel
theorem own_d17_29 : decode jdk_43_method_22_code 29 = .ok (.aload_n 0, 1) := by decide +kernel
theorem own_d17_30 : decode jdk_43_method_22_code 30 = .ok (.iload_n 1, 1) := by decide +kernel
theorem own_d17_31 : decode jdk_43_method_22_code 31 = .ok (.iload_n 2, 1) := by decide +kernel
theorem own_d17_32 : decode jdk_43_method_22_code 32 = .ok (.iload_n 3, 1) := by decide +kernel
theorem own_pd3 : parseMethodDescriptor "([BIII)I" = some ⟨[(.array .byte), .int, .int, .int], some .int⟩ := by decide +kernel
theorem own_d17_33 : decode jdk_43_method_22_code 33 = .ok (.invokestatic 95, 3) := by decide +kernel
theorem own_d17_36 : decode jdk_43_method_22_code 36 = .ok (.ireturn, 1) := by decide +kernel
theorem own_d17_27 : decode jdk_43_method_22_code 27 = .ok (.iconst (-1), 1) := by decide +kernel
theorem own_d17_28 : decode jdk_43_method_22_code 28 = .ok (.ireturn, 1) := by decide +kernel
set_option maxHeartbeats 4000000 in
theorem own_ef_rm17 (m : MethodId) (x0 : Addr) (x1 : Int32) (x2 : Int32) (x3 : Int32) : entryFrame m #[(.ref x0), (.int x1), (.int x2), (.int x3)] 4 = mkF m 0 #[.val (.ref x0), .val (.int x1), .val (.int x2), .val (.int x3)] [] := by rfl
set_option maxRecDepth 65536 in
set_option maxHeartbeats 40000000 in
theorem rm17 (l : Launch) (Z : State) (a0 : Array Value) (hw : ∀ d ∈ tables_1, d.before a0 Z = true) (z0 : Int32) (O2 : Sta Z Z.heap "java/lang/String" "COMPACT_STRINGS" "Z" (.int z0)) (P5 : ¬ z0 = (0 : Int32)) (fm0 : Value) (O4 : Sta Z Z.heap "jdk/internal/util/Preconditions" "SIOOBE_FORMATTER" "Ljava/util/function/BiFunction;" fm0) (R4 : fm0.isRef = true) (ws : List Jvm.Cond) (t : Addr) (ch : Int32) (f : Int32) (n : Int32) (kb : ClassId) (vs : List Value) (h0 : Heap) (n0 : Nat) (Z0 : n0 ≤ h0.size) (At : Arv Z h0 t kb .byte n vs (.int (0 : Int32))) (hf : ¬ f < (0 : Int32)) (hc1 : ¬ ch < (0 : Int32)) (hc2 : ¬ (255 : Int32) < ch) :
    own_MetN l Z (⟨"java/lang/StringLatin1", "indexOf", "([BIII)I"⟩ : MethodName) jdk_43_method_22_code 4 (some .int) ws ({ frames := 1, cells := 0, slots := 0, locals := 17 } : Room) #[(.ref t), (.int ch), (.int f), (.int n)] h0 (fun v h L => Fr n0 L ∧ h = h0 ∧ (((v = some (.int (-1 : Int32)))) ∨ (∃ (r : Int32), (v = some (.int r)) ∧ (¬ r < f) ∧ (r < n)))) := by
  refine own_metN (plainFor_of_name own_pn2) ?_
  intro p e s m below meth c s₁ G hx hby hml hZ hown hnm hret X0 e0 go fin
  have N0 := Fr.nil n0
  refine go _ _ (fun _ k => castTop (own_ef_rm17 m t ch f n) k) ?_
  show G (s₁.setTop (mkF m 0 #[.val (.ref t), .val (.int ch), .val (.int f), .val (.int n)] []))
  refine go _ _ (fun _ k => XS.iloadN X0.here hx rfl (hb hby own_d17_0) rfl k) ?_
  show G (s₁.setTop (mkF m 1 #[.val (.ref t), .val (.int ch), .val (.int f), .val (.int n)] [(.int ch)]))
  obtain ⟨rv101, T101, L101, X101, q101, st101⟩ := own_st X0 hx hZ (y := (⟨"java/lang/StringLatin1", "canEncode", "(I)Z"⟩ : MethodName)) hown (ow hw 115 rfl) (ow hw 116 rfl) (ow hw 83 rfl) (ow hw 117 rfl) (by decide) (own_bkN (W := 0) (rm18 l Z a0 hw z0 O2 P5 fm0 O4 R4 [] ch h0 n0 Z0 hc1 hc2) hZ (ow hw 117 rfl) (ow hw 83 rfl) (by decide) (by decide)) e0 (g := (mkF m 1 #[.val (.ref t), .val (.int ch), .val (.int f), .val (.int n)] [(.int ch)])) rfl (by rw [hml]; rfl) (argsL := [(.int ch)]) (rest := []) rfl (lenOf own_pd1 rfl) rfl (by show 2 * 0 + _ ≤ _; exact Nat.le_of_eq rfl) (hb hby own_d17_1) (by decide) (by decide)
  obtain ⟨Nq101, e101, rfl⟩ := q101
  have N101 := Fr.app N0 Nq101
  refine go _ _ (st101) ?_
  show G (T101.setTop (mkF m 4 #[.val (.ref t), .val (.int ch), .val (.int f), .val (.int n)] [(.int (1 : Int32))]))
  refine go _ _ (fun _ k => XS.ifYes X101.here hx rfl (pc0 := 4) (pc' := 9) rfl (hb hby own_d17_4) rfl (by decide) (by decide) (by decide) k) ?_
  show G (T101.setTop (mkF m 9 #[.val (.ref t), .val (.int ch), .val (.int f), .val (.int n)] []))
  refine go _ _ (fun _ k => XS.iloadN X101.here hx rfl (hb hby own_d17_9) rfl (XS.iconst X101.here hx rfl (hb hby own_d17_10) k)) ?_
  show G (T101.setTop (mkF m 11 #[.val (.ref t), .val (.int ch), .val (.int f), .val (.int n)] [(.int (0 : Int32)), (.int f)]))
  obtain ⟨rv102, T102, L102, X102, q102, st102⟩ := own_st X101 hx hZ (y := (⟨"java/lang/Math", "max", "(II)I"⟩ : MethodName)) hown (ow hw 118 rfl) (ow hw 119 rfl) (ow hw 120 rfl) (ow hw 121 rfl) (by decide) (own_bkN (W := 0) (rm19 l Z a0 hw z0 O2 P5 fm0 O4 R4 [] f (0 : Int32) h0 n0 Z0) hZ (ow hw 121 rfl) (ow hw 120 rfl) (by decide) (by decide)) e101 (g := (mkF m 11 #[.val (.ref t), .val (.int ch), .val (.int f), .val (.int n)] [(.int (0 : Int32)), (.int f)])) rfl (by rw [hml]; rfl) (argsL := [(.int f), (.int (0 : Int32))]) (rest := []) rfl (lenOf own_pd2 rfl) rfl (by show 2 * 0 + _ ≤ _; exact Nat.le_of_eq rfl) (hb hby own_d17_11) (by decide) (by decide)
  obtain ⟨Nq102, e102, q102⟩ := q102
  have N102 := Fr.app N101 Nq102
  rcases q102 with ⟨rfl, p103⟩ | ⟨rfl, p104⟩
  · exact absurd p103 hf
  · refine go _ _ (st102) ?_
    show G (T102.setTop (mkF m 14 #[.val (.ref t), .val (.int ch), .val (.int f), .val (.int n)] [(.int f)]))
    refine go _ _ (fun _ k => XS.istoreN X102.here hx rfl (hb hby own_d17_14) rfl (l' := #[.val (.ref t), .val (.int ch), .val (.int f), .val (.int n)]) rfl (XS.iloadN X102.here hx rfl (hb hby own_d17_15) rfl (XS.aloadN X102.here hx rfl (hb hby own_d17_16) rfl rfl k))) ?_
    show G (T102.setTop (mkF m 17 #[.val (.ref t), .val (.int ch), .val (.int f), .val (.int n)] [(.ref t), (.int n)]))
    obtain ⟨cl105, Ar105, q105, S105, M105, H105, U105⟩ := id At
    refine go _ _ (fun _ k => X102.arraylength hx (by rw [e102]; exact Ar105.1) (State.isArrayOf_alike hZ.alike Ar105.2.1) (g := (mkF m 17 #[.val (.ref t), .val (.int ch), .val (.int f), .val (.int n)] [(.ref t), (.int n)])) rfl rfl (hb hby own_d17_17) _ k) ?_
    show G (T102.setTop (mkF m 18 #[.val (.ref t), .val (.int ch), .val (.int f), .val (.int n)] [(.int cl105.slots.size.toInt32), (.int n)]))
    rw [len_of S105 M105]
    show G (T102.setTop (mkF m 18 #[.val (.ref t), .val (.int ch), .val (.int f), .val (.int n)] [(.int n), (.int n)]))
    obtain ⟨rv106, T106, L106, X106, q106, st106⟩ := own_st X102 hx hZ (y := (⟨"java/lang/Math", "min", "(II)I"⟩ : MethodName)) hown (ow hw 122 rfl) (ow hw 123 rfl) (ow hw 120 rfl) (ow hw 124 rfl) (by decide) (own_bkN (W := 0) (rm20 l Z a0 hw z0 O2 P5 fm0 O4 R4 [] n n h0 n0 Z0) hZ (ow hw 124 rfl) (ow hw 120 rfl) (by decide) (by decide)) e102 (g := (mkF m 18 #[.val (.ref t), .val (.int ch), .val (.int f), .val (.int n)] [(.int n), (.int n)])) rfl (by rw [hml]; rfl) (argsL := [(.int n), (.int n)]) (rest := []) rfl (lenOf own_pd2 rfl) rfl (by show 2 * 0 + _ ≤ _; exact Nat.le_of_eq rfl) (hb hby own_d17_18) (by decide) (by decide)
    obtain ⟨Nq106, e106, q106⟩ := q106
    have N106 := Fr.app N102 Nq106
    rcases q106 with ⟨rfl, p107⟩ | ⟨rfl, p108⟩
    · exact absurd p107 own_irr
    · refine go _ _ (st106) ?_
      show G (T106.setTop (mkF m 21 #[.val (.ref t), .val (.int ch), .val (.int f), .val (.int n)] [(.int n)]))
      refine go _ _ (fun _ k => XS.istoreN X106.here hx rfl (hb hby own_d17_21) rfl (l' := #[.val (.ref t), .val (.int ch), .val (.int f), .val (.int n)]) rfl (XS.iloadN X106.here hx rfl (hb hby own_d17_22) rfl (XS.iloadN X106.here hx rfl (hb hby own_d17_23) rfl k))) ?_
      show G (T106.setTop (mkF m 24 #[.val (.ref t), .val (.int ch), .val (.int f), .val (.int n)] [(.int n), (.int f)]))
      by_cases hc24_109 : f < n
      · refine go _ _ (fun _ k => XS.icmpYes X106.here hx rfl (pc0 := 24) (pc' := 29) rfl (hb hby own_d17_24) rfl (tlt hc24_109).1 (by decide) (by decide) k) ?_
        show G (T106.setTop (mkF m 29 #[.val (.ref t), .val (.int ch), .val (.int f), .val (.int n)] []))
        refine go _ _ (fun _ k => XS.aloadN X106.here hx rfl (hb hby own_d17_29) rfl rfl (XS.iloadN X106.here hx rfl (hb hby own_d17_30) rfl (XS.iloadN X106.here hx rfl (hb hby own_d17_31) rfl (XS.iloadN X106.here hx rfl (hb hby own_d17_32) rfl k)))) ?_
        show G (T106.setTop (mkF m 33 #[.val (.ref t), .val (.int ch), .val (.int f), .val (.int n)] [(.int n), (.int f), (.int ch), (.ref t)]))
        obtain ⟨rv110, T110, L110, X110, q110, st110⟩ := own_st X106 hx hZ (y := (⟨"java/lang/StringLatin1", "indexOfChar", "([BIII)I"⟩ : MethodName)) hown (ow hw 125 rfl) (ow hw 126 rfl) (ow hw 83 rfl) (ow hw 127 rfl) (by decide) (own_bkN (W := 0) (rm21 l Z a0 hw z0 O2 P5 fm0 O4 R4 [] t ch f n kb vs h0 n0 Z0 At p104 hc24_109) hZ (ow hw 127 rfl) (ow hw 83 rfl) (by decide) (by decide)) e106 (g := (mkF m 33 #[.val (.ref t), .val (.int ch), .val (.int f), .val (.int n)] [(.int n), (.int f), (.int ch), (.ref t)])) rfl (by rw [hml]; rfl) (argsL := [(.ref t), (.int ch), (.int f), (.int n)]) (rest := []) rfl (lenOf own_pd3 rfl) rfl (by show 2 * 0 + _ ≤ _; exact Nat.le_of_eq rfl) (hb hby own_d17_33) (by decide) (by decide)
        obtain ⟨Nq110, e110, q110⟩ := q110
        have N110 := Fr.app N106 Nq110
        rcases q110 with rfl | ⟨r_111, rfl, p112, p113⟩
        · refine go _ _ (st110) ?_
          show G (T110.setTop (mkF m 36 #[.val (.ref t), .val (.int ch), .val (.int f), .val (.int n)] [(.int (-1 : Int32))]))
          refine fin T110 _ _ _ (some (.int (-1 : Int32))) X110 (fun q => nomatch q) (by decide) (by decide) (by rw [e110]; exact ⟨N110, rfl, (Or.inl rfl)⟩) _ (own_retI X110 hx hret (hb hby own_d17_36))
        · refine go _ _ (st110) ?_
          show G (T110.setTop (mkF m 36 #[.val (.ref t), .val (.int ch), .val (.int f), .val (.int n)] [(.int r_111)]))
          refine fin T110 _ _ _ (some (.int r_111)) X110 (fun q => nomatch q) (by decide) (by decide) (by rw [e110]; exact ⟨N110, rfl, (Or.inr ⟨r_111, rfl, p112, p113⟩)⟩) _ (own_retI X110 hx hret (hb hby own_d17_36))
      · refine go _ _ (fun _ k => XS.icmpNo X106.here hx rfl (hb hby own_d17_24) rfl (flt hc24_109).1 k) ?_
        show G (T106.setTop (mkF m 27 #[.val (.ref t), .val (.int ch), .val (.int f), .val (.int n)] []))
        refine go _ _ (fun _ k => XS.iconst X106.here hx rfl (hb hby own_d17_27) k) ?_
        show G (T106.setTop (mkF m 28 #[.val (.ref t), .val (.int ch), .val (.int f), .val (.int n)] [(.int (-1 : Int32))]))
        refine fin T106 _ _ _ (some (.int (-1 : Int32))) X106 (fun q => nomatch q) (by decide) (by decide) (by rw [e106]; exact ⟨N106, rfl, (Or.inl rfl)⟩) _ (own_retI X106 hx hret (hb hby own_d17_28))
theorem own_d13_0 : decode jdk_42_method_80_code 0 = .ok (.aload_n 0, 1) := by decide +kernel
theorem own_pd4 : parseMethodDescriptor "()Z" = some ⟨[], some .boolean⟩ := by decide +kernel
theorem own_d13_1 : decode jdk_42_method_80_code 1 = .ok (.invokevirtual 492, 3) := by decide +kernel
theorem own_d13_4 : decode jdk_42_method_80_code 4 = .ok (.ifCond .eq 19, 3) := by decide +kernel
theorem own_d13_7 : decode jdk_42_method_80_code 7 = .ok (.aload_n 0, 1) := by decide +kernel
theorem own_d13_8 : decode jdk_42_method_80_code 8 = .ok (.getfield 9, 3) := by decide +kernel
theorem own_d13_11 : decode jdk_42_method_80_code 11 = .ok (.iload_n 1, 1) := by decide +kernel
theorem own_d13_12 : decode jdk_42_method_80_code 12 = .ok (.iload_n 2, 1) := by decide +kernel
theorem own_d13_13 : decode jdk_42_method_80_code 13 = .ok (.aload_n 0, 1) := by decide +kernel
theorem own_pd5 : parseMethodDescriptor "()I" = some ⟨[], some .int⟩ := by decide +kernel
theorem own_d13_14 : decode jdk_42_method_80_code 14 = .ok (.invokevirtual 505, 3) := by decide +kernel
theorem own_d13_17 : decode jdk_42_method_80_code 17 = .ok (.invokestatic 637, 3) := by decide +kernel
theorem own_d13_20 : decode jdk_42_method_80_code 20 = .ok (.goto 16, 3) := by decide +kernel
theorem own_d13_36 : decode jdk_42_method_80_code 36 = .ok (.ireturn, 1) := by decide +kernel
set_option maxHeartbeats 4000000 in
theorem own_ef_rm13 (m : MethodId) (x0 : Addr) (x1 : Int32) (x2 : Int32) : entryFrame m #[(.ref x0), (.int x1), (.int x2)] 3 = mkF m 0 #[.val (.ref x0), .val (.int x1), .val (.int x2)] [] := by rfl
set_option maxRecDepth 65536 in
set_option maxHeartbeats 40000000 in
theorem rm13 (l : Launch) (Z : State) (a0 : Array Value) (hw : ∀ d ∈ tables_1, d.before a0 Z = true) (z0 : Int32) (O2 : Sta Z Z.heap "java/lang/String" "COMPACT_STRINGS" "Z" (.int z0)) (P5 : ¬ z0 = (0 : Int32)) (fm0 : Value) (O4 : Sta Z Z.heap "jdk/internal/util/Preconditions" "SIOOBE_FORMATTER" "Ljava/util/function/BiFunction;" fm0) (R4 : fm0.isRef = true) (ws : List Jvm.Cond) (a : Addr) (ch : Int32) (f : Int32) (n : Int32) (h0 : Heap) (n0 : Nat) (Z0 : n0 ≤ h0.size) (Xo : Old Z n0 h0) (La : own_Ln Z h0 a n) (hf : ¬ f < (0 : Int32)) (hc1 : ¬ ch < (0 : Int32)) (hc2 : ¬ (255 : Int32) < ch) :
    own_MetN l Z (⟨"java/lang/String", "indexOf", "(II)I"⟩ : MethodName) jdk_42_method_80_code 3 (some .int) ws ({ frames := 2, cells := 0, slots := 0, locals := 32 } : Room) #[(.ref a), (.int ch), (.int f)] h0 (fun v h L => Fr n0 L ∧ h = h0 ∧ (((v = some (.int (-1 : Int32)))) ∨ (∃ (r : Int32), (v = some (.int r)) ∧ (¬ r < f) ∧ (r < n)))) := by
  refine own_metN (plainFor_of_name own_pn0) ?_
  intro p e s m below meth c s₁ G hx hby hml hZ hown hnm hret X0 e0 go fin
  have N0 := Fr.nil n0
  refine go _ _ (fun _ k => castTop (own_ef_rm13 m a ch f) k) ?_
  show G (s₁.setTop (mkF m 0 #[.val (.ref a), .val (.int ch), .val (.int f)] []))
  obtain ⟨t101, kb101, vs101, Es101, Vs101, Cs101, As101, lo101, hi101⟩ := id La
  refine go _ _ (fun _ k => XS.aloadN X0.here hx rfl (hb hby own_d13_0) rfl rfl k) ?_
  show G (s₁.setTop (mkF m 1 #[.val (.ref a), .val (.int ch), .val (.int f)] [(.ref a)]))
  obtain ⟨rv102, T102, L102, X102, q102, st102⟩ := own_vi X0 hx hZ (y := (⟨"java/lang/String", "isLatin1", "()Z"⟩ : MethodName)) (z := (⟨"java/lang/String", "isLatin1", "()Z"⟩ : MethodName)) hown (ow hw 97 rfl) (ow hw 98 rfl) (ow hw 100 rfl) (ow hw 99 rfl) (Or.inl rfl) (by decide) (own_bkN (W := 0) (rm14 l Z a0 hw z0 O2 P5 fm0 O4 R4 [] a h0 n0 Z0 Xo Cs101) hZ (ow hw 101 rfl) (ow hw 6 rfl) (by decide) (by decide)) e0 Es101 (g := (mkF m 1 #[.val (.ref a), .val (.int ch), .val (.int f)] [(.ref a)])) rfl (by rw [hml]; rfl) (argsL := []) (rest := []) rfl (lenOf own_pd4 rfl) rfl (by show 2 * 0 + _ ≤ _; exact Nat.le_of_eq rfl) (hb hby own_d13_1) (by decide) (by decide)
  obtain ⟨Nq102, e102, rfl⟩ := q102
  have N102 := Fr.app N0 Nq102
  refine go _ _ (st102) ?_
  show G (T102.setTop (mkF m 4 #[.val (.ref a), .val (.int ch), .val (.int f)] [(.int (1 : Int32))]))
  refine go _ _ (fun _ k => XS.ifNo X102.here hx rfl (hb hby own_d13_4) rfl (by decide) k) ?_
  show G (T102.setTop (mkF m 7 #[.val (.ref a), .val (.int ch), .val (.int f)] []))
  refine go _ _ (fun _ k => XS.aloadN X102.here hx rfl (hb hby own_d13_7) rfl rfl k) ?_
  show G (T102.setTop (mkF m 8 #[.val (.ref a), .val (.int ch), .val (.int f)] [(.ref a)]))
  obtain ⟨T103, X103, e103, st103⟩ := getF X102 hx hZ hown (host := "") (Or.inl (ow hw 32 rfl)) Via.refl e102 Vs101 (g := (mkF m 8 #[.val (.ref a), .val (.int ch), .val (.int f)] [(.ref a)])) rfl rfl (hb hby own_d13_8)
  refine go _ _ (st103) ?_
  show G (T103.setTop (mkF m 11 #[.val (.ref a), .val (.int ch), .val (.int f)] [(.ref t101)]))
  refine go _ _ (fun _ k => XS.iloadN X103.here hx rfl (hb hby own_d13_11) rfl (XS.iloadN X103.here hx rfl (hb hby own_d13_12) rfl (XS.aloadN X103.here hx rfl (hb hby own_d13_13) rfl rfl k))) ?_
  show G (T103.setTop (mkF m 14 #[.val (.ref a), .val (.int ch), .val (.int f)] [(.ref a), (.int f), (.int ch), (.ref t101)]))
  obtain ⟨rv104, T104, L104, X104, q104, st104⟩ := own_vi X103 hx hZ (y := (⟨"java/lang/String", "length", "()I"⟩ : MethodName)) (z := (⟨"java/lang/String", "length", "()I"⟩ : MethodName)) hown (ow hw 102 rfl) (ow hw 103 rfl) (ow hw 105 rfl) (ow hw 104 rfl) (Or.inl rfl) (by decide) (own_bkN (W := 3) (rm15 l Z a0 hw z0 O2 P5 fm0 O4 R4 [] a n h0 n0 Z0 Xo La) hZ (ow hw 106 rfl) (ow hw 6 rfl) (by decide) (by decide)) e103 Es101 (g := (mkF m 14 #[.val (.ref a), .val (.int ch), .val (.int f)] [(.ref a), (.int f), (.int ch), (.ref t101)])) rfl (by rw [hml]; rfl) (argsL := []) (rest := [(.int f), (.int ch), (.ref t101)]) rfl (lenOf own_pd5 rfl) rfl (by show 2 * 0 + _ ≤ _; exact Nat.le_of_eq rfl) (hb hby own_d13_14) (by decide) (by decide)
  obtain ⟨Nq104, e104, rfl⟩ := q104
  have N104 := Fr.app N102 Nq104
  refine go _ _ (st104) ?_
  show G (T104.setTop (mkF m 17 #[.val (.ref a), .val (.int ch), .val (.int f)] [(.int n), (.int f), (.int ch), (.ref t101)]))
  obtain ⟨rv105, T105, L105, X105, q105, st105⟩ := own_st X104 hx hZ (y := (⟨"java/lang/StringLatin1", "indexOf", "([BIII)I"⟩ : MethodName)) hown (ow hw 112 rfl) (ow hw 113 rfl) (ow hw 83 rfl) (ow hw 114 rfl) (by decide) (own_bkN (W := 0) (rm17 l Z a0 hw z0 O2 P5 fm0 O4 R4 [] t101 ch f n kb101 vs101 h0 n0 Z0 As101 hf hc1 hc2) hZ (ow hw 114 rfl) (ow hw 83 rfl) (by decide) (by decide)) e104 (g := (mkF m 17 #[.val (.ref a), .val (.int ch), .val (.int f)] [(.int n), (.int f), (.int ch), (.ref t101)])) rfl (by rw [hml]; rfl) (argsL := [(.ref t101), (.int ch), (.int f), (.int n)]) (rest := []) rfl (lenOf own_pd3 rfl) rfl (by show 2 * 0 + _ ≤ _; exact Nat.le_of_eq rfl) (hb hby own_d13_17) (by decide) (by decide)
  obtain ⟨Nq105, e105, q105⟩ := q105
  have N105 := Fr.app N104 Nq105
  rcases q105 with rfl | ⟨r_106, rfl, p107, p108⟩
  · refine go _ _ (st105) ?_
    show G (T105.setTop (mkF m 20 #[.val (.ref a), .val (.int ch), .val (.int f)] [(.int (-1 : Int32))]))
    refine go _ _ (fun _ k => XS.goto X105.here hx rfl (pc0 := 20) (pc' := 36) rfl (hb hby own_d13_20) (by decide) (by decide) k) ?_
    show G (T105.setTop (mkF m 36 #[.val (.ref a), .val (.int ch), .val (.int f)] [(.int (-1 : Int32))]))
    refine fin T105 _ _ _ (some (.int (-1 : Int32))) X105 (fun q => nomatch q) (by decide) (by decide) (by rw [e105]; exact ⟨N105, rfl, (Or.inl rfl)⟩) _ (own_retI X105 hx hret (hb hby own_d13_36))
  · refine go _ _ (st105) ?_
    show G (T105.setTop (mkF m 20 #[.val (.ref a), .val (.int ch), .val (.int f)] [(.int r_106)]))
    refine go _ _ (fun _ k => XS.goto X105.here hx rfl (pc0 := 20) (pc' := 36) rfl (hb hby own_d13_20) (by decide) (by decide) k) ?_
    show G (T105.setTop (mkF m 36 #[.val (.ref a), .val (.int ch), .val (.int f)] [(.int r_106)]))
    refine fin T105 _ _ _ (some (.int r_106)) X105 (fun q => nomatch q) (by decide) (by decide) (by rw [e105]; exact ⟨N105, rfl, (Or.inr ⟨r_106, rfl, p107, p108⟩)⟩) _ (own_retI X105 hx hret (hb hby own_d13_36))
theorem own_d12_0 : decode jdk_42_method_79_code 0 = .ok (.aload_n 0, 1) := by decide +kernel
theorem own_d12_1 : decode jdk_42_method_79_code 1 = .ok (.iload_n 1, 1) := by decide +kernel
theorem own_d12_2 : decode jdk_42_method_79_code 2 = .ok (.iconst 0, 1) := by decide +kernel
theorem own_d12_3 : decode jdk_42_method_79_code 3 = .ok (.invokevirtual 633, 3) := by decide +kernel
theorem own_d12_6 : decode jdk_42_method_79_code 6 = .ok (.ireturn, 1) := by decide +kernel
set_option maxHeartbeats 4000000 in
theorem own_ef_rm12 (m : MethodId) (x0 : Addr) (x1 : Int32) : entryFrame m #[(.ref x0), (.int x1)] 2 = mkF m 0 #[.val (.ref x0), .val (.int x1)] [] := by rfl
set_option maxRecDepth 65536 in
set_option maxHeartbeats 40000000 in
theorem rm12 (l : Launch) (Z : State) (a0 : Array Value) (hw : ∀ d ∈ tables_1, d.before a0 Z = true) (z0 : Int32) (O2 : Sta Z Z.heap "java/lang/String" "COMPACT_STRINGS" "Z" (.int z0)) (P5 : ¬ z0 = (0 : Int32)) (fm0 : Value) (O4 : Sta Z Z.heap "jdk/internal/util/Preconditions" "SIOOBE_FORMATTER" "Ljava/util/function/BiFunction;" fm0) (R4 : fm0.isRef = true) (ws : List Jvm.Cond) (a : Addr) (ch : Int32) (n : Int32) (h0 : Heap) (n0 : Nat) (Z0 : n0 ≤ h0.size) (Xo : Old Z n0 h0) (La : own_Ln Z h0 a n) (hc1 : ¬ ch < (0 : Int32)) (hc2 : ¬ (255 : Int32) < ch) :
    own_MetN l Z (⟨"java/lang/String", "indexOf", "(I)I"⟩ : MethodName) jdk_42_method_79_code 2 (some .int) ws ({ frames := 3, cells := 0, slots := 0, locals := 46 } : Room) #[(.ref a), (.int ch)] h0 (fun v h L => Fr n0 L ∧ h = h0 ∧ (((v = some (.int (-1 : Int32)))) ∨ (∃ (r : Int32), (v = some (.int r)) ∧ (¬ r < (0 : Int32)) ∧ (r < n)))) := by
  refine own_metN (plainFor_of_name own_pn0) ?_
  intro p e s m below meth c s₁ G hx hby hml hZ hown hnm hret X0 e0 go fin
  have N0 := Fr.nil n0
  refine go _ _ (fun _ k => castTop (own_ef_rm12 m a ch) k) ?_
  show G (s₁.setTop (mkF m 0 #[.val (.ref a), .val (.int ch)] []))
  obtain ⟨t101, kb101, vs101, Es101, Vs101, Cs101, As101, lo101, hi101⟩ := id La
  refine go _ _ (fun _ k => XS.aloadN X0.here hx rfl (hb hby own_d12_0) rfl rfl (XS.iloadN X0.here hx rfl (hb hby own_d12_1) rfl (XS.iconst X0.here hx rfl (hb hby own_d12_2) k))) ?_
  show G (s₁.setTop (mkF m 3 #[.val (.ref a), .val (.int ch)] [(.int (0 : Int32)), (.int ch), (.ref a)]))
  obtain ⟨rv102, T102, L102, X102, q102, st102⟩ := own_vi X0 hx hZ (y := (⟨"java/lang/String", "indexOf", "(II)I"⟩ : MethodName)) (z := (⟨"java/lang/String", "indexOf", "(II)I"⟩ : MethodName)) hown (ow hw 92 rfl) (ow hw 93 rfl) (ow hw 95 rfl) (ow hw 94 rfl) (Or.inl rfl) (by decide) (own_bkN (W := 0) (rm13 l Z a0 hw z0 O2 P5 fm0 O4 R4 [] a ch (0 : Int32) n h0 n0 Z0 Xo La (by decide) hc1 hc2) hZ (ow hw 96 rfl) (ow hw 6 rfl) (by decide) (by decide)) e0 Es101 (g := (mkF m 3 #[.val (.ref a), .val (.int ch)] [(.int (0 : Int32)), (.int ch), (.ref a)])) rfl (by rw [hml]; rfl) (argsL := [(.int ch), (.int (0 : Int32))]) (rest := []) rfl (lenOf own_pd2 rfl) rfl (by show 2 * 0 + _ ≤ _; exact Nat.le_of_eq rfl) (hb hby own_d12_3) (by decide) (by decide)
  obtain ⟨Nq102, e102, q102⟩ := q102
  have N102 := Fr.app N0 Nq102
  rcases q102 with rfl | ⟨r_103, rfl, p104, p105⟩
  · refine go _ _ (st102) ?_
    show G (T102.setTop (mkF m 6 #[.val (.ref a), .val (.int ch)] [(.int (-1 : Int32))]))
    refine fin T102 _ _ _ (some (.int (-1 : Int32))) X102 (fun q => nomatch q) (by decide) (by decide) (by rw [e102]; exact ⟨N102, rfl, (Or.inl rfl)⟩) _ (own_retI X102 hx hret (hb hby own_d12_6))
  · refine go _ _ (st102) ?_
    show G (T102.setTop (mkF m 6 #[.val (.ref a), .val (.int ch)] [(.int r_103)]))
    refine fin T102 _ _ _ (some (.int r_103)) X102 (fun q => nomatch q) (by decide) (by decide) (by rw [e102]; exact ⟨N102, rfl, (Or.inr ⟨r_103, rfl, p104, p105⟩)⟩) _ (own_retI X102 hx hret (hb hby own_d12_6))
theorem own_pn3 : plainName "jdk/internal/util/ArraysSupport" = true := by decide +kernel
theorem own_d23_0 : decode jdk_48_method_14_code 0 = .ok (.iconst 0, 1) := by decide +kernel
theorem own_d23_1 : decode jdk_48_method_14_code 1 = .ok (.istore 5, 2) := by decide +kernel
theorem own_d23_3 : decode jdk_48_method_14_code 3 = .ok (.iload 4, 2) := by decide +kernel
theorem own_d23_5 : decode jdk_48_method_14_code 5 = .ok (.bipush 7, 2) := by decide +kernel
theorem own_d23_7 : decode jdk_48_method_14_code 7 = .ok (.if_icmp .le 63, 3) := by decide +kernel
theorem own_d23_70 : decode jdk_48_method_14_code 70 = .ok (.iload 5, 2) := by decide +kernel
theorem own_d23_72 : decode jdk_48_method_14_code 72 = .ok (.iload 4, 2) := by decide +kernel
theorem own_d23_74 : decode jdk_48_method_14_code 74 = .ok (.if_icmp .ge 27, 3) := by decide +kernel
theorem own_d23_77 : decode jdk_48_method_14_code 77 = .ok (.aload_n 0, 1) := by decide +kernel
theorem own_d23_78 : decode jdk_48_method_14_code 78 = .ok (.iload_n 1, 1) := by decide +kernel
theorem own_d23_79 : decode jdk_48_method_14_code 79 = .ok (.iload 5, 2) := by decide +kernel
theorem own_d23_81 : decode jdk_48_method_14_code 81 = .ok (.iadd, 1) := by decide +kernel
theorem own_d23_82 : decode jdk_48_method_14_code 82 = .ok (.baload, 1) := by decide +kernel
theorem own_d23_83 : decode jdk_48_method_14_code 83 = .ok (.aload_n 2, 1) := by decide +kernel
theorem own_d23_84 : decode jdk_48_method_14_code 84 = .ok (.iload_n 3, 1) := by decide +kernel
theorem own_d23_85 : decode jdk_48_method_14_code 85 = .ok (.iload 5, 2) := by decide +kernel
theorem own_d23_87 : decode jdk_48_method_14_code 87 = .ok (.iadd, 1) := by decide +kernel
theorem own_d23_88 : decode jdk_48_method_14_code 88 = .ok (.baload, 1) := by decide +kernel
theorem own_d23_89 : decode jdk_48_method_14_code 89 = .ok (.if_icmp .eq 6, 3) := by decide +kernel
theorem own_d23_95 : decode jdk_48_method_14_code 95 = .ok (.iinc 5 1, 3) := by decide +kernel
theorem own_d23_98 : decode jdk_48_method_14_code 98 = .ok (.goto (-28), 3) := by decide +kernel
theorem own_d23_101 : decode jdk_48_method_14_code 101 = .ok (.iconst (-1), 1) := by decide +kernel
theorem own_d23_102 : decode jdk_48_method_14_code 102 = .ok (.ireturn, 1) := by decide +kernel
theorem own_d23_92 : decode jdk_48_method_14_code 92 = .ok (.iload 5, 2) := by decide +kernel
theorem own_d23_94 : decode jdk_48_method_14_code 94 = .ok (.ireturn, 1) := by decide +kernel
set_option maxHeartbeats 4000000 in
theorem own_ef_rm23 (m : MethodId) (x0 : Addr) (x1 : Int32) (x2 : Addr) (x3 : Int32) (x4 : Int32) : entryFrame m #[(.ref x0), (.int x1), (.ref x2), (.int x3), (.int x4)] 8 = mkF m 0 #[.val (.ref x0), .val (.int x1), .val (.ref x2), .val (.int x3), .val (.int x4), .unset, .unset, .unset] [] := by rfl
set_option maxRecDepth 65536 in
set_option maxHeartbeats 40000000 in
theorem rm23 (l : Launch) (Z : State) (a0 : Array Value) (hw : ∀ d ∈ tables_1, d.before a0 Z = true) (z0 : Int32) (O2 : Sta Z Z.heap "java/lang/String" "COMPACT_STRINGS" "Z" (.int z0)) (P5 : ¬ z0 = (0 : Int32)) (fm0 : Value) (O4 : Sta Z Z.heap "jdk/internal/util/Preconditions" "SIOOBE_FORMATTER" "Ljava/util/function/BiFunction;" fm0) (R4 : fm0.isRef = true) (ws : List Jvm.Cond) (t : Addr) (f : Int32) (u : Addr) (kb : ClassId) (vs : List Value) (n : Int32) (kb2 : ClassId) (vs2 : List Value) (h0 : Heap) (n0 : Nat) (Z0 : n0 ≤ h0.size) (At : Arv Z h0 t kb .byte n vs (.int (0 : Int32))) (Au : Arv Z h0 u kb2 .byte (1 : Int32) vs2 (.int (0 : Int32))) (hf : ¬ f < (0 : Int32)) (hfn : f < n) :
    own_MetN l Z (⟨"jdk/internal/util/ArraysSupport", "mismatch", "([BI[BII)I"⟩ : MethodName) jdk_48_method_14_code 8 (some .int) ws ({ frames := 0, cells := 0, slots := 0, locals := 0 } : Room) #[(.ref t), (.int f), (.ref u), (.int (0 : Int32)), (.int (1 : Int32))] h0 (fun v h L => Fr n0 L ∧ h = h0 ∧ (((v = some (.int (0 : Int32)))) ∨ ((v = some (.int (-1 : Int32)))))) := by
  refine own_metN (plainFor_of_name own_pn3) ?_
  intro p e s m below meth c s₁ G hx hby hml hZ hown hnm hret X0 e0 go fin
  have N0 := Fr.nil n0
  refine go _ _ (fun _ k => castTop (own_ef_rm23 m t f u (0 : Int32) (1 : Int32)) k) ?_
  show G (s₁.setTop (mkF m 0 #[.val (.ref t), .val (.int f), .val (.ref u), .val (.int (0 : Int32)), .val (.int (1 : Int32)), .unset, .unset, .unset] []))
  refine go _ _ (fun _ k => XS.iconst X0.here hx rfl (hb hby own_d23_0) (XS.istore X0.here hx rfl (hb hby own_d23_1) rfl (l' := #[.val (.ref t), .val (.int f), .val (.ref u), .val (.int (0 : Int32)), .val (.int (1 : Int32)), .val (.int (0 : Int32)), .unset, .unset]) rfl (XS.iload X0.here hx rfl (hb hby own_d23_3) rfl (XS.bipush X0.here hx rfl (hb hby own_d23_5) k)))) ?_
  show G (s₁.setTop (mkF m 7 #[.val (.ref t), .val (.int f), .val (.ref u), .val (.int (0 : Int32)), .val (.int (1 : Int32)), .val (.int (0 : Int32)), .unset, .unset] [(.int (7 : Int32)), (.int (1 : Int32))]))
  refine go _ _ (fun _ k => XS.icmpYes X0.here hx rfl (pc0 := 7) (pc' := 70) rfl (hb hby own_d23_7) rfl (by decide) (by decide) (by decide) k) ?_
  show G (s₁.setTop (mkF m 70 #[.val (.ref t), .val (.int f), .val (.ref u), .val (.int (0 : Int32)), .val (.int (1 : Int32)), .val (.int (0 : Int32)), .unset, .unset] []))
  refine go _ _ (fun _ k => XS.iload X0.here hx rfl (hb hby own_d23_70) rfl (XS.iload X0.here hx rfl (hb hby own_d23_72) rfl k)) ?_
  show G (s₁.setTop (mkF m 74 #[.val (.ref t), .val (.int f), .val (.ref u), .val (.int (0 : Int32)), .val (.int (1 : Int32)), .val (.int (0 : Int32)), .unset, .unset] [(.int (1 : Int32)), (.int (0 : Int32))]))
  refine go _ _ (fun _ k => XS.icmpNo X0.here hx rfl (hb hby own_d23_74) rfl (by decide) k) ?_
  show G (s₁.setTop (mkF m 77 #[.val (.ref t), .val (.int f), .val (.ref u), .val (.int (0 : Int32)), .val (.int (1 : Int32)), .val (.int (0 : Int32)), .unset, .unset] []))
  refine go _ _ (fun _ k => XS.aloadN X0.here hx rfl (hb hby own_d23_77) rfl rfl (XS.iloadN X0.here hx rfl (hb hby own_d23_78) rfl (XS.iload X0.here hx rfl (hb hby own_d23_79) rfl (XS.iadd X0.here hx rfl (hb hby own_d23_81) rfl k)))) ?_
  show G (s₁.setTop (mkF m 82 #[.val (.ref t), .val (.int f), .val (.ref u), .val (.int (0 : Int32)), .val (.int (1 : Int32)), .val (.int (0 : Int32)), .unset, .unset] [(.int (f + (0 : Int32))), (.ref t)]))
  have ha102 : ¬ (f + (0 : Int32)) < (0 : Int32) := by
    have ar0 := own_rg f
    have ar1 : (0 : Int32).toInt = 0 := rfl
    have ar2 := c_iadd f (0 : Int32)
    have ar3 := own_rg (f + (0 : Int32))
    have ar4 := own_rg n
    have hy0 := own_nl hf
    have hy1 := own_l hfn
    exact own_nl' (by omega)
  have ha103 : (f + (0 : Int32)) < n := by
    have ar0 := own_rg f
    have ar1 : (0 : Int32).toInt = 0 := rfl
    have ar2 := c_iadd f (0 : Int32)
    have ar3 := own_rg (f + (0 : Int32))
    have ar4 := own_rg n
    have hy0 := own_nl hf
    have hy1 := own_l hfn
    have hy2 := own_nl ha102
    exact own_l' (by omega)
  obtain ⟨cl101, Ar101, q101, S101, M101, H101, U101⟩ := id At
  have ib101 := inb_of (j := (f + (0 : Int32))) S101 ⟨ha102, ha103⟩
  obtain ⟨x101, hx101⟩ := own_ld H101 U101 ib101
  refine go _ _ (fun _ k => X0.baloadBytes hx (j := (f + (0 : Int32))) (v := .int x101) (by rw [e0]; exact Ar101.1) (State.isArrayOf_alike hZ.alike Ar101.2.1) Ar101.2.2 ib101 hx101 (g := (mkF m 82 #[.val (.ref t), .val (.int f), .val (.ref u), .val (.int (0 : Int32)), .val (.int (1 : Int32)), .val (.int (0 : Int32)), .unset, .unset] [(.int (f + (0 : Int32))), (.ref t)])) rfl rfl (hb hby own_d23_82) _ k) ?_
  show G (s₁.setTop (mkF m 83 #[.val (.ref t), .val (.int f), .val (.ref u), .val (.int (0 : Int32)), .val (.int (1 : Int32)), .val (.int (0 : Int32)), .unset, .unset] [(.int x101)]))
  refine go _ _ (fun _ k => XS.aloadN X0.here hx rfl (hb hby own_d23_83) rfl rfl (XS.iloadN X0.here hx rfl (hb hby own_d23_84) rfl (XS.iload X0.here hx rfl (hb hby own_d23_85) rfl (XS.iadd X0.here hx rfl (hb hby own_d23_87) rfl k)))) ?_
  show G (s₁.setTop (mkF m 88 #[.val (.ref t), .val (.int f), .val (.ref u), .val (.int (0 : Int32)), .val (.int (1 : Int32)), .val (.int (0 : Int32)), .unset, .unset] [(.int (0 : Int32)), (.ref u), (.int x101)]))
  obtain ⟨cl104, Ar104, q104, S104, M104, H104, U104⟩ := id Au
  have ib104 := inb_of (j := (0 : Int32)) S104 ⟨(by decide), (by decide)⟩
  obtain ⟨x104, hx104⟩ := own_ld H104 U104 ib104
  refine go _ _ (fun _ k => X0.baloadBytes hx (j := (0 : Int32)) (v := .int x104) (by rw [e0]; exact Ar104.1) (State.isArrayOf_alike hZ.alike Ar104.2.1) Ar104.2.2 ib104 hx104 (g := (mkF m 88 #[.val (.ref t), .val (.int f), .val (.ref u), .val (.int (0 : Int32)), .val (.int (1 : Int32)), .val (.int (0 : Int32)), .unset, .unset] [(.int (0 : Int32)), (.ref u), (.int x101)])) rfl rfl (hb hby own_d23_88) _ k) ?_
  show G (s₁.setTop (mkF m 89 #[.val (.ref t), .val (.int f), .val (.ref u), .val (.int (0 : Int32)), .val (.int (1 : Int32)), .val (.int (0 : Int32)), .unset, .unset] [(.int x104), (.int x101)]))
  by_cases hc89_105 : x101 = x104
  · refine go _ _ (fun _ k => XS.icmpYes X0.here hx rfl (pc0 := 89) (pc' := 95) rfl (hb hby own_d23_89) rfl (teq hc89_105).1 (by decide) (by decide) k) ?_
    show G (s₁.setTop (mkF m 95 #[.val (.ref t), .val (.int f), .val (.ref u), .val (.int (0 : Int32)), .val (.int (1 : Int32)), .val (.int (0 : Int32)), .unset, .unset] []))
    refine go _ _ (fun _ k => XS.iinc X0.here hx rfl (hb hby own_d23_95) rfl (l' := #[.val (.ref t), .val (.int f), .val (.ref u), .val (.int (0 : Int32)), .val (.int (1 : Int32)), .val (.int (1 : Int32)), .unset, .unset]) rfl k) ?_
    show G (s₁.setTop (mkF m 98 #[.val (.ref t), .val (.int f), .val (.ref u), .val (.int (0 : Int32)), .val (.int (1 : Int32)), .val (.int (1 : Int32)), .unset, .unset] []))
    refine go _ _ (fun _ k => XS.goto X0.here hx rfl (pc0 := 98) (pc' := 70) rfl (hb hby own_d23_98) (by decide) (by decide) k) ?_
    show G (s₁.setTop (mkF m 70 #[.val (.ref t), .val (.int f), .val (.ref u), .val (.int (0 : Int32)), .val (.int (1 : Int32)), .val (.int (1 : Int32)), .unset, .unset] []))
    refine go _ _ (fun _ k => XS.iload X0.here hx rfl (hb hby own_d23_70) rfl (XS.iload X0.here hx rfl (hb hby own_d23_72) rfl k)) ?_
    show G (s₁.setTop (mkF m 74 #[.val (.ref t), .val (.int f), .val (.ref u), .val (.int (0 : Int32)), .val (.int (1 : Int32)), .val (.int (1 : Int32)), .unset, .unset] [(.int (1 : Int32)), (.int (1 : Int32))]))
    refine go _ _ (fun _ k => XS.icmpYes X0.here hx rfl (pc0 := 74) (pc' := 101) rfl (hb hby own_d23_74) rfl (by decide) (by decide) (by decide) k) ?_
    show G (s₁.setTop (mkF m 101 #[.val (.ref t), .val (.int f), .val (.ref u), .val (.int (0 : Int32)), .val (.int (1 : Int32)), .val (.int (1 : Int32)), .unset, .unset] []))
    refine go _ _ (fun _ k => XS.iconst X0.here hx rfl (hb hby own_d23_101) k) ?_
    show G (s₁.setTop (mkF m 102 #[.val (.ref t), .val (.int f), .val (.ref u), .val (.int (0 : Int32)), .val (.int (1 : Int32)), .val (.int (1 : Int32)), .unset, .unset] [(.int (-1 : Int32))]))
    refine fin s₁ _ _ _ (some (.int (-1 : Int32))) X0 (fun q => nomatch q) (by decide) (by decide) (by rw [e0]; exact ⟨N0, rfl, (Or.inr rfl)⟩) _ (own_retI X0 hx hret (hb hby own_d23_102))
  · refine go _ _ (fun _ k => XS.icmpNo X0.here hx rfl (hb hby own_d23_89) rfl (feq hc89_105).1 k) ?_
    show G (s₁.setTop (mkF m 92 #[.val (.ref t), .val (.int f), .val (.ref u), .val (.int (0 : Int32)), .val (.int (1 : Int32)), .val (.int (0 : Int32)), .unset, .unset] []))
    refine go _ _ (fun _ k => XS.iload X0.here hx rfl (hb hby own_d23_92) rfl k) ?_
    show G (s₁.setTop (mkF m 94 #[.val (.ref t), .val (.int f), .val (.ref u), .val (.int (0 : Int32)), .val (.int (1 : Int32)), .val (.int (0 : Int32)), .unset, .unset] [(.int (0 : Int32))]))
    refine fin s₁ _ _ _ (some (.int (0 : Int32))) X0 (fun q => nomatch q) (by decide) (by decide) (by rw [e0]; exact ⟨N0, rfl, (Or.inl rfl)⟩) _ (own_retI X0 hx hret (hb hby own_d23_94))
theorem own_d22_0 : decode jdk_42_method_75_code 0 = .ok (.iload_n 2, 1) := by decide +kernel
theorem own_d22_1 : decode jdk_42_method_75_code 1 = .ok (.ifCond .lt 16, 3) := by decide +kernel
theorem own_d22_4 : decode jdk_42_method_75_code 4 = .ok (.iload_n 2, 1) := by decide +kernel
theorem own_d22_5 : decode jdk_42_method_75_code 5 = .ok (.aload_n 0, 1) := by decide +kernel
theorem own_d22_6 : decode jdk_42_method_75_code 6 = .ok (.invokevirtual 505, 3) := by decide +kernel
theorem own_d22_9 : decode jdk_42_method_75_code 9 = .ok (.aload_n 1, 1) := by decide +kernel
theorem own_d22_10 : decode jdk_42_method_75_code 10 = .ok (.invokevirtual 505, 3) := by decide +kernel
theorem own_d22_13 : decode jdk_42_method_75_code 13 = .ok (.isub, 1) := by decide +kernel
theorem own_d22_14 : decode jdk_42_method_75_code 14 = .ok (.if_icmp .le 5, 3) := by decide +kernel
theorem own_d22_17 : decode jdk_42_method_75_code 17 = .ok (.iconst 0, 1) := by decide +kernel
theorem own_d22_18 : decode jdk_42_method_75_code 18 = .ok (.ireturn, 1) := by decide +kernel
theorem own_d22_19 : decode jdk_42_method_75_code 19 = .ok (.aload_n 0, 1) := by decide +kernel
theorem own_d22_20 : decode jdk_42_method_75_code 20 = .ok (.getfield 9, 3) := by decide +kernel
theorem own_d22_23 : decode jdk_42_method_75_code 23 = .ok (.astore_n 3, 1) := by decide +kernel
theorem own_d22_24 : decode jdk_42_method_75_code 24 = .ok (.aload_n 1, 1) := by decide +kernel
theorem own_d22_25 : decode jdk_42_method_75_code 25 = .ok (.getfield 9, 3) := by decide +kernel
theorem own_d22_28 : decode jdk_42_method_75_code 28 = .ok (.astore 4, 2) := by decide +kernel
theorem own_d22_30 : decode jdk_42_method_75_code 30 = .ok (.iconst 0, 1) := by decide +kernel
theorem own_d22_31 : decode jdk_42_method_75_code 31 = .ok (.istore 5, 2) := by decide +kernel
theorem own_d22_33 : decode jdk_42_method_75_code 33 = .ok (.aload 4, 2) := by decide +kernel
theorem own_d22_35 : decode jdk_42_method_75_code 35 = .ok (.arraylength, 1) := by decide +kernel
theorem own_d22_36 : decode jdk_42_method_75_code 36 = .ok (.istore 6, 2) := by decide +kernel
theorem own_d22_38 : decode jdk_42_method_75_code 38 = .ok (.aload_n 0, 1) := by decide +kernel
theorem own_d22_39 : decode jdk_42_method_75_code 39 = .ok (.invokevirtual 335, 3) := by decide +kernel
theorem own_d22_42 : decode jdk_42_method_75_code 42 = .ok (.istore 7, 2) := by decide +kernel
theorem own_d22_44 : decode jdk_42_method_75_code 44 = .ok (.iload 7, 2) := by decide +kernel
theorem own_d22_46 : decode jdk_42_method_75_code 46 = .ok (.aload_n 1, 1) := by decide +kernel
theorem own_d22_47 : decode jdk_42_method_75_code 47 = .ok (.invokevirtual 335, 3) := by decide +kernel
theorem own_d22_50 : decode jdk_42_method_75_code 50 = .ok (.if_icmp .ne 32, 3) := by decide +kernel
theorem own_d22_53 : decode jdk_42_method_75_code 53 = .ok (.iload 7, 2) := by decide +kernel
theorem own_d22_55 : decode jdk_42_method_75_code 55 = .ok (.iconst 1, 1) := by decide +kernel
theorem own_d22_56 : decode jdk_42_method_75_code 56 = .ok (.if_icmp .ne 7, 3) := by decide +kernel
theorem own_d22_63 : decode jdk_42_method_75_code 63 = .ok (.aload_n 3, 1) := by decide +kernel
theorem own_d22_64 : decode jdk_42_method_75_code 64 = .ok (.iload_n 2, 1) := by decide +kernel
theorem own_d22_65 : decode jdk_42_method_75_code 65 = .ok (.aload 4, 2) := by decide +kernel
theorem own_d22_67 : decode jdk_42_method_75_code 67 = .ok (.iconst 0, 1) := by decide +kernel
theorem own_d22_68 : decode jdk_42_method_75_code 68 = .ok (.iload 6, 2) := by decide +kernel
theorem own_pd6 : parseMethodDescriptor "([BI[BII)I" = some ⟨[(.array .byte), .int, (.array .byte), .int, .int], some .int⟩ := by decide +kernel
theorem own_d22_70 : decode jdk_42_method_75_code 70 = .ok (.invokestatic 607, 3) := by decide +kernel
theorem own_d22_73 : decode jdk_42_method_75_code 73 = .ok (.ifCond .ge 7, 3) := by decide +kernel
theorem own_d22_80 : decode jdk_42_method_75_code 80 = .ok (.iconst 0, 1) := by decide +kernel
theorem own_d22_81 : decode jdk_42_method_75_code 81 = .ok (.ireturn, 1) := by decide +kernel
theorem own_d22_76 : decode jdk_42_method_75_code 76 = .ok (.iconst 1, 1) := by decide +kernel
theorem own_d22_77 : decode jdk_42_method_75_code 77 = .ok (.goto 4, 3) := by decide +kernel
set_option maxHeartbeats 4000000 in
theorem own_ef_rm22 (m : MethodId) (x0 : Addr) (x1 : Addr) (x2 : Int32) : entryFrame m #[(.ref x0), (.ref x1), (.int x2)] 8 = mkF m 0 #[.val (.ref x0), .val (.ref x1), .val (.int x2), .unset, .unset, .unset, .unset, .unset] [] := by rfl
set_option maxRecDepth 65536 in
set_option maxHeartbeats 40000000 in
theorem rm22 (l : Launch) (Z : State) (a0 : Array Value) (hw : ∀ d ∈ tables_1, d.before a0 Z = true) (z0 : Int32) (O2 : Sta Z Z.heap "java/lang/String" "COMPACT_STRINGS" "Z" (.int z0)) (P5 : ¬ z0 = (0 : Int32)) (fm0 : Value) (O4 : Sta Z Z.heap "jdk/internal/util/Preconditions" "SIOOBE_FORMATTER" "Ljava/util/function/BiFunction;" fm0) (R4 : fm0.isRef = true) (ws : List Jvm.Cond) (a : Addr) (b : Addr) (f : Int32) (n : Int32) (h0 : Heap) (n0 : Nat) (Z0 : n0 ≤ h0.size) (Xo : Old Z n0 h0) (La : own_Ln Z h0 a n) (Lb : own_Ln Z h0 b (1 : Int32)) (hf : ¬ f < (0 : Int32)) :
    own_MetN l Z (⟨"java/lang/String", "startsWith", "(Ljava/lang/String;I)Z"⟩ : MethodName) jdk_42_method_75_code 8 (some .boolean) ws ({ frames := 2, cells := 0, slots := 0, locals := 27 } : Room) #[(.ref a), (.ref b), (.int f)] h0 (fun v h L => Fr n0 L ∧ h = h0 ∧ (((v = some (.int (0 : Int32)))) ∨ ((v = some (.int (1 : Int32)))))) := by
  refine own_metN (plainFor_of_name own_pn0) ?_
  intro p e s m below meth c s₁ G hx hby hml hZ hown hnm hret X0 e0 go fin
  have N0 := Fr.nil n0
  refine go _ _ (fun _ k => castTop (own_ef_rm22 m a b f) k) ?_
  show G (s₁.setTop (mkF m 0 #[.val (.ref a), .val (.ref b), .val (.int f), .unset, .unset, .unset, .unset, .unset] []))
  obtain ⟨t101, kb101, vs101, Es101, Vs101, Cs101, As101, lo101, hi101⟩ := id La
  obtain ⟨t102, kb102, vs102, Es102, Vs102, Cs102, As102, lo102, hi102⟩ := id Lb
  refine go _ _ (fun _ k => XS.iloadN X0.here hx rfl (hb hby own_d22_0) rfl k) ?_
  show G (s₁.setTop (mkF m 1 #[.val (.ref a), .val (.ref b), .val (.int f), .unset, .unset, .unset, .unset, .unset] [(.int f)]))
  refine go _ _ (fun _ k => XS.ifNo X0.here hx rfl (hb hby own_d22_1) rfl ((if0 _ _).trans (flt hf).1) k) ?_
  show G (s₁.setTop (mkF m 4 #[.val (.ref a), .val (.ref b), .val (.int f), .unset, .unset, .unset, .unset, .unset] []))
  refine go _ _ (fun _ k => XS.iloadN X0.here hx rfl (hb hby own_d22_4) rfl (XS.aloadN X0.here hx rfl (hb hby own_d22_5) rfl rfl k)) ?_
  show G (s₁.setTop (mkF m 6 #[.val (.ref a), .val (.ref b), .val (.int f), .unset, .unset, .unset, .unset, .unset] [(.ref a), (.int f)]))
  obtain ⟨rv103, T103, L103, X103, q103, st103⟩ := own_vi X0 hx hZ (y := (⟨"java/lang/String", "length", "()I"⟩ : MethodName)) (z := (⟨"java/lang/String", "length", "()I"⟩ : MethodName)) hown (ow hw 102 rfl) (ow hw 103 rfl) (ow hw 105 rfl) (ow hw 104 rfl) (Or.inl rfl) (by decide) (own_bkN (W := 1) (rm15 l Z a0 hw z0 O2 P5 fm0 O4 R4 [] a n h0 n0 Z0 Xo La) hZ (ow hw 106 rfl) (ow hw 6 rfl) (by decide) (by decide)) e0 Es101 (g := (mkF m 6 #[.val (.ref a), .val (.ref b), .val (.int f), .unset, .unset, .unset, .unset, .unset] [(.ref a), (.int f)])) rfl (by rw [hml]; rfl) (argsL := []) (rest := [(.int f)]) rfl (lenOf own_pd5 rfl) rfl (by show 2 * 0 + _ ≤ _; exact Nat.le_of_eq rfl) (hb hby own_d22_6) (by decide) (by decide)
  obtain ⟨Nq103, e103, rfl⟩ := q103
  have N103 := Fr.app N0 Nq103
  refine go _ _ (st103) ?_
  show G (T103.setTop (mkF m 9 #[.val (.ref a), .val (.ref b), .val (.int f), .unset, .unset, .unset, .unset, .unset] [(.int n), (.int f)]))
  refine go _ _ (fun _ k => XS.aloadN X103.here hx rfl (hb hby own_d22_9) rfl rfl k) ?_
  show G (T103.setTop (mkF m 10 #[.val (.ref a), .val (.ref b), .val (.int f), .unset, .unset, .unset, .unset, .unset] [(.ref b), (.int n), (.int f)]))
  obtain ⟨rv104, T104, L104, X104, q104, st104⟩ := own_vi X103 hx hZ (y := (⟨"java/lang/String", "length", "()I"⟩ : MethodName)) (z := (⟨"java/lang/String", "length", "()I"⟩ : MethodName)) hown (ow hw 102 rfl) (ow hw 103 rfl) (ow hw 105 rfl) (ow hw 104 rfl) (Or.inl rfl) (by decide) (own_bkN (W := 2) (rm15 l Z a0 hw z0 O2 P5 fm0 O4 R4 [] b (1 : Int32) h0 n0 Z0 Xo Lb) hZ (ow hw 106 rfl) (ow hw 6 rfl) (by decide) (by decide)) e103 Es102 (g := (mkF m 10 #[.val (.ref a), .val (.ref b), .val (.int f), .unset, .unset, .unset, .unset, .unset] [(.ref b), (.int n), (.int f)])) rfl (by rw [hml]; rfl) (argsL := []) (rest := [(.int n), (.int f)]) rfl (lenOf own_pd5 rfl) rfl (by show 2 * 0 + _ ≤ _; exact Nat.le_of_eq rfl) (hb hby own_d22_10) (by decide) (by decide)
  obtain ⟨Nq104, e104, rfl⟩ := q104
  have N104 := Fr.app N103 Nq104
  refine go _ _ (st104) ?_
  show G (T104.setTop (mkF m 13 #[.val (.ref a), .val (.ref b), .val (.int f), .unset, .unset, .unset, .unset, .unset] [(.int (1 : Int32)), (.int n), (.int f)]))
  refine go _ _ (fun _ k => XS.isub X104.here hx rfl (hb hby own_d22_13) rfl k) ?_
  show G (T104.setTop (mkF m 14 #[.val (.ref a), .val (.ref b), .val (.int f), .unset, .unset, .unset, .unset, .unset] [(.int (n - (1 : Int32))), (.int f)]))
  by_cases hc14_105 : (n - (1 : Int32)) < f
  · refine go _ _ (fun _ k => XS.icmpNo X104.here hx rfl (hb hby own_d22_14) rfl (tlt hc14_105).2.2.2 k) ?_
    show G (T104.setTop (mkF m 17 #[.val (.ref a), .val (.ref b), .val (.int f), .unset, .unset, .unset, .unset, .unset] []))
    refine go _ _ (fun _ k => XS.iconst X104.here hx rfl (hb hby own_d22_17) k) ?_
    show G (T104.setTop (mkF m 18 #[.val (.ref a), .val (.ref b), .val (.int f), .unset, .unset, .unset, .unset, .unset] [(.int (0 : Int32))]))
    refine fin T104 _ _ _ (some (.int (0 : Int32))) X104 (fun q => nomatch q) (by decide) (by decide) (by rw [e104]; exact ⟨N104, rfl, (Or.inl rfl)⟩) _ (own_retN X104 hx (z := (0 : Int32)) (t := .boolean) hret (by simp) (hb hby own_d22_18))
  · refine go _ _ (fun _ k => XS.icmpYes X104.here hx rfl (pc0 := 14) (pc' := 19) rfl (hb hby own_d22_14) rfl (flt hc14_105).2.2.2 (by decide) (by decide) k) ?_
    show G (T104.setTop (mkF m 19 #[.val (.ref a), .val (.ref b), .val (.int f), .unset, .unset, .unset, .unset, .unset] []))
    refine go _ _ (fun _ k => XS.aloadN X104.here hx rfl (hb hby own_d22_19) rfl rfl k) ?_
    show G (T104.setTop (mkF m 20 #[.val (.ref a), .val (.ref b), .val (.int f), .unset, .unset, .unset, .unset, .unset] [(.ref a)]))
    obtain ⟨T106, X106, e106, st106⟩ := getF X104 hx hZ hown (host := "") (Or.inl (ow hw 32 rfl)) Via.refl e104 Vs101 (g := (mkF m 20 #[.val (.ref a), .val (.ref b), .val (.int f), .unset, .unset, .unset, .unset, .unset] [(.ref a)])) rfl rfl (hb hby own_d22_20)
    refine go _ _ (st106) ?_
    show G (T106.setTop (mkF m 23 #[.val (.ref a), .val (.ref b), .val (.int f), .unset, .unset, .unset, .unset, .unset] [(.ref t101)]))
    refine go _ _ (fun _ k => XS.astoreN X106.here hx rfl (hb hby own_d22_23) rfl rfl (l' := #[.val (.ref a), .val (.ref b), .val (.int f), .val (.ref t101), .unset, .unset, .unset, .unset]) rfl (XS.aloadN X106.here hx rfl (hb hby own_d22_24) rfl rfl k)) ?_
    show G (T106.setTop (mkF m 25 #[.val (.ref a), .val (.ref b), .val (.int f), .val (.ref t101), .unset, .unset, .unset, .unset] [(.ref b)]))
    obtain ⟨T107, X107, e107, st107⟩ := getF X106 hx hZ hown (host := "") (Or.inl (ow hw 32 rfl)) Via.refl e106 Vs102 (g := (mkF m 25 #[.val (.ref a), .val (.ref b), .val (.int f), .val (.ref t101), .unset, .unset, .unset, .unset] [(.ref b)])) rfl rfl (hb hby own_d22_25)
    refine go _ _ (st107) ?_
    show G (T107.setTop (mkF m 28 #[.val (.ref a), .val (.ref b), .val (.int f), .val (.ref t101), .unset, .unset, .unset, .unset] [(.ref t102)]))
    refine go _ _ (fun _ k => XS.astore X107.here hx rfl (hb hby own_d22_28) rfl rfl (l' := #[.val (.ref a), .val (.ref b), .val (.int f), .val (.ref t101), .val (.ref t102), .unset, .unset, .unset]) rfl (XS.iconst X107.here hx rfl (hb hby own_d22_30) (XS.istore X107.here hx rfl (hb hby own_d22_31) rfl (l' := #[.val (.ref a), .val (.ref b), .val (.int f), .val (.ref t101), .val (.ref t102), .val (.int (0 : Int32)), .unset, .unset]) rfl (XS.aload X107.here hx rfl (hb hby own_d22_33) rfl rfl k)))) ?_
    show G (T107.setTop (mkF m 35 #[.val (.ref a), .val (.ref b), .val (.int f), .val (.ref t101), .val (.ref t102), .val (.int (0 : Int32)), .unset, .unset] [(.ref t102)]))
    obtain ⟨cl108, Ar108, q108, S108, M108, H108, U108⟩ := id As102
    refine go _ _ (fun _ k => X107.arraylength hx (by rw [e107]; exact Ar108.1) (State.isArrayOf_alike hZ.alike Ar108.2.1) (g := (mkF m 35 #[.val (.ref a), .val (.ref b), .val (.int f), .val (.ref t101), .val (.ref t102), .val (.int (0 : Int32)), .unset, .unset] [(.ref t102)])) rfl rfl (hb hby own_d22_35) _ k) ?_
    show G (T107.setTop (mkF m 36 #[.val (.ref a), .val (.ref b), .val (.int f), .val (.ref t101), .val (.ref t102), .val (.int (0 : Int32)), .unset, .unset] [(.int cl108.slots.size.toInt32)]))
    rw [len_of S108 M108]
    show G (T107.setTop (mkF m 36 #[.val (.ref a), .val (.ref b), .val (.int f), .val (.ref t101), .val (.ref t102), .val (.int (0 : Int32)), .unset, .unset] [(.int (1 : Int32))]))
    refine go _ _ (fun _ k => XS.istore X107.here hx rfl (hb hby own_d22_36) rfl (l' := #[.val (.ref a), .val (.ref b), .val (.int f), .val (.ref t101), .val (.ref t102), .val (.int (0 : Int32)), .val (.int (1 : Int32)), .unset]) rfl (XS.aloadN X107.here hx rfl (hb hby own_d22_38) rfl rfl k)) ?_
    show G (T107.setTop (mkF m 39 #[.val (.ref a), .val (.ref b), .val (.int f), .val (.ref t101), .val (.ref t102), .val (.int (0 : Int32)), .val (.int (1 : Int32)), .unset] [(.ref a)]))
    obtain ⟨rv109, T109, L109, X109, q109, st109⟩ := own_vi X107 hx hZ (y := (⟨"java/lang/String", "coder", "()B"⟩ : MethodName)) (z := (⟨"java/lang/String", "coder", "()B"⟩ : MethodName)) hown (ow hw 107 rfl) (ow hw 108 rfl) (ow hw 110 rfl) (ow hw 109 rfl) (Or.inl rfl) (by decide) (own_bkN (W := 0) (rm16 l Z a0 hw z0 O2 P5 fm0 O4 R4 [] a h0 n0 Z0 Xo Cs101) hZ (ow hw 111 rfl) (ow hw 6 rfl) (by decide) (by decide)) e107 Es101 (g := (mkF m 39 #[.val (.ref a), .val (.ref b), .val (.int f), .val (.ref t101), .val (.ref t102), .val (.int (0 : Int32)), .val (.int (1 : Int32)), .unset] [(.ref a)])) rfl (by rw [hml]; rfl) (argsL := []) (rest := []) rfl (lenOf own_pd0 rfl) rfl (by show 2 * 0 + _ ≤ _; exact Nat.le_of_eq rfl) (hb hby own_d22_39) (by decide) (by decide)
    obtain ⟨Nq109, e109, rfl⟩ := q109
    have N109 := Fr.app N104 Nq109
    refine go _ _ (st109) ?_
    show G (T109.setTop (mkF m 42 #[.val (.ref a), .val (.ref b), .val (.int f), .val (.ref t101), .val (.ref t102), .val (.int (0 : Int32)), .val (.int (1 : Int32)), .unset] [(.int (0 : Int32))]))
    refine go _ _ (fun _ k => XS.istore X109.here hx rfl (hb hby own_d22_42) rfl (l' := #[.val (.ref a), .val (.ref b), .val (.int f), .val (.ref t101), .val (.ref t102), .val (.int (0 : Int32)), .val (.int (1 : Int32)), .val (.int (0 : Int32))]) rfl (XS.iload X109.here hx rfl (hb hby own_d22_44) rfl (XS.aloadN X109.here hx rfl (hb hby own_d22_46) rfl rfl k))) ?_
    show G (T109.setTop (mkF m 47 #[.val (.ref a), .val (.ref b), .val (.int f), .val (.ref t101), .val (.ref t102), .val (.int (0 : Int32)), .val (.int (1 : Int32)), .val (.int (0 : Int32))] [(.ref b), (.int (0 : Int32))]))
    obtain ⟨rv110, T110, L110, X110, q110, st110⟩ := own_vi X109 hx hZ (y := (⟨"java/lang/String", "coder", "()B"⟩ : MethodName)) (z := (⟨"java/lang/String", "coder", "()B"⟩ : MethodName)) hown (ow hw 107 rfl) (ow hw 108 rfl) (ow hw 110 rfl) (ow hw 109 rfl) (Or.inl rfl) (by decide) (own_bkN (W := 1) (rm16 l Z a0 hw z0 O2 P5 fm0 O4 R4 [] b h0 n0 Z0 Xo Cs102) hZ (ow hw 111 rfl) (ow hw 6 rfl) (by decide) (by decide)) e109 Es102 (g := (mkF m 47 #[.val (.ref a), .val (.ref b), .val (.int f), .val (.ref t101), .val (.ref t102), .val (.int (0 : Int32)), .val (.int (1 : Int32)), .val (.int (0 : Int32))] [(.ref b), (.int (0 : Int32))])) rfl (by rw [hml]; rfl) (argsL := []) (rest := [(.int (0 : Int32))]) rfl (lenOf own_pd0 rfl) rfl (by show 2 * 0 + _ ≤ _; exact Nat.le_of_eq rfl) (hb hby own_d22_47) (by decide) (by decide)
    obtain ⟨Nq110, e110, rfl⟩ := q110
    have N110 := Fr.app N109 Nq110
    refine go _ _ (st110) ?_
    show G (T110.setTop (mkF m 50 #[.val (.ref a), .val (.ref b), .val (.int f), .val (.ref t101), .val (.ref t102), .val (.int (0 : Int32)), .val (.int (1 : Int32)), .val (.int (0 : Int32))] [(.int (0 : Int32)), (.int (0 : Int32))]))
    refine go _ _ (fun _ k => XS.icmpNo X110.here hx rfl (hb hby own_d22_50) rfl (by decide) k) ?_
    show G (T110.setTop (mkF m 53 #[.val (.ref a), .val (.ref b), .val (.int f), .val (.ref t101), .val (.ref t102), .val (.int (0 : Int32)), .val (.int (1 : Int32)), .val (.int (0 : Int32))] []))
    refine go _ _ (fun _ k => XS.iload X110.here hx rfl (hb hby own_d22_53) rfl (XS.iconst X110.here hx rfl (hb hby own_d22_55) k)) ?_
    show G (T110.setTop (mkF m 56 #[.val (.ref a), .val (.ref b), .val (.int f), .val (.ref t101), .val (.ref t102), .val (.int (0 : Int32)), .val (.int (1 : Int32)), .val (.int (0 : Int32))] [(.int (1 : Int32)), (.int (0 : Int32))]))
    refine go _ _ (fun _ k => XS.icmpYes X110.here hx rfl (pc0 := 56) (pc' := 63) rfl (hb hby own_d22_56) rfl (by decide) (by decide) (by decide) k) ?_
    show G (T110.setTop (mkF m 63 #[.val (.ref a), .val (.ref b), .val (.int f), .val (.ref t101), .val (.ref t102), .val (.int (0 : Int32)), .val (.int (1 : Int32)), .val (.int (0 : Int32))] []))
    refine go _ _ (fun _ k => XS.aloadN X110.here hx rfl (hb hby own_d22_63) rfl rfl (XS.iloadN X110.here hx rfl (hb hby own_d22_64) rfl (XS.aload X110.here hx rfl (hb hby own_d22_65) rfl rfl (XS.iconst X110.here hx rfl (hb hby own_d22_67) (XS.iload X110.here hx rfl (hb hby own_d22_68) rfl k))))) ?_
    show G (T110.setTop (mkF m 70 #[.val (.ref a), .val (.ref b), .val (.int f), .val (.ref t101), .val (.ref t102), .val (.int (0 : Int32)), .val (.int (1 : Int32)), .val (.int (0 : Int32))] [(.int (1 : Int32)), (.int (0 : Int32)), (.ref t102), (.int f), (.ref t101)]))
    have ha112 : f < n := by
      have ar0 := own_rg f
      have ar1 := own_rg n
      have ar2 : (0 : Int32).toInt = 0 := rfl
      have ar3 : (3 : Int32).toInt = 3 := rfl
      have ar4 : (1 : Int32).toInt = 1 := rfl
      have ar5 := c_isub n (1 : Int32)
      have ar6 := own_rg (n - (1 : Int32))
      have hy0 := own_nl hf
      have hy1 := own_nl lo101
      have hy2 := own_nl hi101
      have hy3 := own_nl hc14_105
      exact own_l' (by omega)
    obtain ⟨rv111, T111, L111, X111, q111, st111⟩ := own_st X110 hx hZ (y := (⟨"jdk/internal/util/ArraysSupport", "mismatch", "([BI[BII)I"⟩ : MethodName)) hown (ow hw 134 rfl) (ow hw 135 rfl) (ow hw 136 rfl) (ow hw 137 rfl) (by decide) (own_bkN (W := 0) (rm23 l Z a0 hw z0 O2 P5 fm0 O4 R4 [] t101 f t102 kb101 vs101 n kb102 vs102 h0 n0 Z0 As101 As102 hf ha112) hZ (ow hw 137 rfl) (ow hw 136 rfl) (by decide) (by decide)) e110 (g := (mkF m 70 #[.val (.ref a), .val (.ref b), .val (.int f), .val (.ref t101), .val (.ref t102), .val (.int (0 : Int32)), .val (.int (1 : Int32)), .val (.int (0 : Int32))] [(.int (1 : Int32)), (.int (0 : Int32)), (.ref t102), (.int f), (.ref t101)])) rfl (by rw [hml]; rfl) (argsL := [(.ref t101), (.int f), (.ref t102), (.int (0 : Int32)), (.int (1 : Int32))]) (rest := []) rfl (lenOf own_pd6 rfl) rfl (by show 2 * 0 + _ ≤ _; exact Nat.le_of_eq rfl) (hb hby own_d22_70) (by decide) (by decide)
    obtain ⟨Nq111, e111, q111⟩ := q111
    have N111 := Fr.app N110 Nq111
    rcases q111 with rfl | rfl
    · refine go _ _ (st111) ?_
      show G (T111.setTop (mkF m 73 #[.val (.ref a), .val (.ref b), .val (.int f), .val (.ref t101), .val (.ref t102), .val (.int (0 : Int32)), .val (.int (1 : Int32)), .val (.int (0 : Int32))] [(.int (0 : Int32))]))
      refine go _ _ (fun _ k => XS.ifYes X111.here hx rfl (pc0 := 73) (pc' := 80) rfl (hb hby own_d22_73) rfl (by decide) (by decide) (by decide) k) ?_
      show G (T111.setTop (mkF m 80 #[.val (.ref a), .val (.ref b), .val (.int f), .val (.ref t101), .val (.ref t102), .val (.int (0 : Int32)), .val (.int (1 : Int32)), .val (.int (0 : Int32))] []))
      refine go _ _ (fun _ k => XS.iconst X111.here hx rfl (hb hby own_d22_80) k) ?_
      show G (T111.setTop (mkF m 81 #[.val (.ref a), .val (.ref b), .val (.int f), .val (.ref t101), .val (.ref t102), .val (.int (0 : Int32)), .val (.int (1 : Int32)), .val (.int (0 : Int32))] [(.int (0 : Int32))]))
      refine fin T111 _ _ _ (some (.int (0 : Int32))) X111 (fun q => nomatch q) (by decide) (by decide) (by rw [e111]; exact ⟨N111, rfl, (Or.inl rfl)⟩) _ (own_retN X111 hx (z := (0 : Int32)) (t := .boolean) hret (by simp) (hb hby own_d22_81))
    · refine go _ _ (st111) ?_
      show G (T111.setTop (mkF m 73 #[.val (.ref a), .val (.ref b), .val (.int f), .val (.ref t101), .val (.ref t102), .val (.int (0 : Int32)), .val (.int (1 : Int32)), .val (.int (0 : Int32))] [(.int (-1 : Int32))]))
      refine go _ _ (fun _ k => XS.ifNo X111.here hx rfl (hb hby own_d22_73) rfl (by decide) k) ?_
      show G (T111.setTop (mkF m 76 #[.val (.ref a), .val (.ref b), .val (.int f), .val (.ref t101), .val (.ref t102), .val (.int (0 : Int32)), .val (.int (1 : Int32)), .val (.int (0 : Int32))] []))
      refine go _ _ (fun _ k => XS.iconst X111.here hx rfl (hb hby own_d22_76) k) ?_
      show G (T111.setTop (mkF m 77 #[.val (.ref a), .val (.ref b), .val (.int f), .val (.ref t101), .val (.ref t102), .val (.int (0 : Int32)), .val (.int (1 : Int32)), .val (.int (0 : Int32))] [(.int (1 : Int32))]))
      refine go _ _ (fun _ k => XS.goto X111.here hx rfl (pc0 := 77) (pc' := 81) rfl (hb hby own_d22_77) (by decide) (by decide) k) ?_
      show G (T111.setTop (mkF m 81 #[.val (.ref a), .val (.ref b), .val (.int f), .val (.ref t101), .val (.ref t102), .val (.int (0 : Int32)), .val (.int (1 : Int32)), .val (.int (0 : Int32))] [(.int (1 : Int32))]))
      refine fin T111 _ _ _ (some (.int (1 : Int32))) X111 (fun q => nomatch q) (by decide) (by decide) (by rw [e111]; exact ⟨N111, rfl, (Or.inr rfl)⟩) _ (own_retN X111 hx (z := (1 : Int32)) (t := .boolean) hret (by simp) (hb hby own_d22_81))
theorem own_pn4 : plainName "jdk/internal/util/Preconditions" = true := by decide +kernel
theorem own_d27_0 : decode jdk_41_method_12_code 0 = .ok (.iload_n 0, 1) := by decide +kernel
theorem own_d27_1 : decode jdk_41_method_12_code 1 = .ok (.ifCond .lt 13, 3) := by decide +kernel
theorem own_d27_4 : decode jdk_41_method_12_code 4 = .ok (.iload_n 0, 1) := by decide +kernel
theorem own_d27_5 : decode jdk_41_method_12_code 5 = .ok (.iload_n 1, 1) := by decide +kernel
theorem own_d27_6 : decode jdk_41_method_12_code 6 = .ok (.if_icmp .gt 8, 3) := by decide +kernel
theorem own_d27_9 : decode jdk_41_method_12_code 9 = .ok (.iload_n 1, 1) := by decide +kernel
theorem own_d27_10 : decode jdk_41_method_12_code 10 = .ok (.iload_n 2, 1) := by decide +kernel
theorem own_d27_11 : decode jdk_41_method_12_code 11 = .ok (.if_icmp .le 11, 3) := by decide +kernel
theorem own_d27_22 : decode jdk_41_method_12_code 22 = .ok (.iload_n 0, 1) := by decide +kernel
theorem own_d27_23 : decode jdk_41_method_12_code 23 = .ok (.ireturn, 1) := by decide +kernel
set_option maxHeartbeats 4000000 in
theorem own_ef_rm27 (m : MethodId) (x0 : Int32) (x1 : Int32) (x2 : Int32) (x3 : Value) (q3 : x3.isRef = true) : entryFrame m #[(.int x0), (.int x1), (.int x2), x3] 4 = mkF m 0 #[.val (.int x0), .val (.int x1), .val (.int x2), .val x3] [] := by simp [entryFrame, mkF, argsToLocals, own_catR, own_catI, own_catN, own_catJ, own_cat q3]
set_option maxRecDepth 65536 in
set_option maxHeartbeats 40000000 in
theorem rm27 (l : Launch) (Z : State) (a0 : Array Value) (hw : ∀ d ∈ tables_1, d.before a0 Z = true) (z0 : Int32) (O2 : Sta Z Z.heap "java/lang/String" "COMPACT_STRINGS" "Z" (.int z0)) (P5 : ¬ z0 = (0 : Int32)) (fm0 : Value) (O4 : Sta Z Z.heap "jdk/internal/util/Preconditions" "SIOOBE_FORMATTER" "Ljava/util/function/BiFunction;" fm0) (R4 : fm0.isRef = true) (ws : List Jvm.Cond) (b : Int32) (en : Int32) (n : Int32) (v1 : Value) (h0 : Heap) (n0 : Nat) (Z0 : n0 ≤ h0.size) (r1 : v1.isRef = true) (hbz : ¬ b < (0 : Int32)) (he : ¬ en < b) (hn : ¬ n < en) :
    own_MetN l Z (⟨"jdk/internal/util/Preconditions", "checkFromToIndex", "(IIILjava/util/function/BiFunction;)I"⟩ : MethodName) jdk_41_method_12_code 4 (some .int) ws ({ frames := 0, cells := 0, slots := 0, locals := 0 } : Room) #[(.int b), (.int en), (.int n), v1] h0 (fun v h L => Fr n0 L ∧ h = h0 ∧ (((v = some (.int b))))) := by
  refine own_metN (plainFor_of_name own_pn4) ?_
  intro p e s m below meth c s₁ G hx hby hml hZ hown hnm hret X0 e0 go fin
  have N0 := Fr.nil n0
  refine go _ _ (fun _ k => castTop (own_ef_rm27 m b en n v1 r1) k) ?_
  show G (s₁.setTop (mkF m 0 #[.val (.int b), .val (.int en), .val (.int n), .val v1] []))
  refine go _ _ (fun _ k => XS.iloadN X0.here hx rfl (hb hby own_d27_0) rfl k) ?_
  show G (s₁.setTop (mkF m 1 #[.val (.int b), .val (.int en), .val (.int n), .val v1] [(.int b)]))
  refine go _ _ (fun _ k => XS.ifNo X0.here hx rfl (hb hby own_d27_1) rfl ((if0 _ _).trans (flt hbz).1) k) ?_
  show G (s₁.setTop (mkF m 4 #[.val (.int b), .val (.int en), .val (.int n), .val v1] []))
  refine go _ _ (fun _ k => XS.iloadN X0.here hx rfl (hb hby own_d27_4) rfl (XS.iloadN X0.here hx rfl (hb hby own_d27_5) rfl k)) ?_
  show G (s₁.setTop (mkF m 6 #[.val (.int b), .val (.int en), .val (.int n), .val v1] [(.int en), (.int b)]))
  refine go _ _ (fun _ k => XS.icmpNo X0.here hx rfl (hb hby own_d27_6) rfl (flt he).2.2.1 k) ?_
  show G (s₁.setTop (mkF m 9 #[.val (.int b), .val (.int en), .val (.int n), .val v1] []))
  refine go _ _ (fun _ k => XS.iloadN X0.here hx rfl (hb hby own_d27_9) rfl (XS.iloadN X0.here hx rfl (hb hby own_d27_10) rfl k)) ?_
  show G (s₁.setTop (mkF m 11 #[.val (.int b), .val (.int en), .val (.int n), .val v1] [(.int n), (.int en)]))
  refine go _ _ (fun _ k => XS.icmpYes X0.here hx rfl (pc0 := 11) (pc' := 22) rfl (hb hby own_d27_11) rfl (flt hn).2.2.2 (by decide) (by decide) k) ?_
  show G (s₁.setTop (mkF m 22 #[.val (.int b), .val (.int en), .val (.int n), .val v1] []))
  refine go _ _ (fun _ k => XS.iloadN X0.here hx rfl (hb hby own_d27_22) rfl k) ?_
  show G (s₁.setTop (mkF m 23 #[.val (.int b), .val (.int en), .val (.int n), .val v1] [(.int b)]))
  refine fin s₁ _ _ _ (some (.int b)) X0 (fun q => nomatch q) (by decide) (by decide) (by rw [e0]; exact ⟨N0, rfl, rfl⟩) _ (own_retI X0 hx hret (hb hby own_d27_23))
theorem own_d26_0 : decode jdk_42_method_158_code 0 = .ok (.iload_n 0, 1) := by decide +kernel
theorem own_d26_1 : decode jdk_42_method_158_code 1 = .ok (.iload_n 1, 1) := by decide +kernel
theorem own_d26_2 : decode jdk_42_method_158_code 2 = .ok (.iload_n 2, 1) := by decide +kernel
theorem own_d26_3 : decode jdk_42_method_158_code 3 = .ok (.getstatic 1053, 3) := by decide +kernel
theorem own_pd7 : parseMethodDescriptor "(IIILjava/util/function/BiFunction;)I" = some ⟨[.int, .int, .int, (.object "java/util/function/BiFunction")], some .int⟩ := by decide +kernel
theorem own_d26_6 : decode jdk_42_method_158_code 6 = .ok (.invokestatic 1062, 3) := by decide +kernel
theorem own_d26_9 : decode jdk_42_method_158_code 9 = .ok (.pop, 1) := by decide +kernel
theorem own_d26_10 : decode jdk_42_method_158_code 10 = .ok (.return_, 1) := by decide +kernel
set_option maxHeartbeats 4000000 in
theorem own_ef_rm26 (m : MethodId) (x0 : Int32) (x1 : Int32) (x2 : Int32) : entryFrame m #[(.int x0), (.int x1), (.int x2)] 3 = mkF m 0 #[.val (.int x0), .val (.int x1), .val (.int x2)] [] := by rfl
set_option maxRecDepth 65536 in
set_option maxHeartbeats 40000000 in
theorem rm26 (l : Launch) (Z : State) (a0 : Array Value) (hw : ∀ d ∈ tables_1, d.before a0 Z = true) (z0 : Int32) (O2 : Sta Z Z.heap "java/lang/String" "COMPACT_STRINGS" "Z" (.int z0)) (P5 : ¬ z0 = (0 : Int32)) (fm0 : Value) (O4 : Sta Z Z.heap "jdk/internal/util/Preconditions" "SIOOBE_FORMATTER" "Ljava/util/function/BiFunction;" fm0) (R4 : fm0.isRef = true) (ws : List Jvm.Cond) (b : Int32) (en : Int32) (n : Int32) (h0 : Heap) (n0 : Nat) (Z0 : n0 ≤ h0.size) (Xo : Old Z n0 h0) (hbz : ¬ b < (0 : Int32)) (he : ¬ en < b) (hn : ¬ n < en) :
    own_MetN l Z (⟨"java/lang/String", "checkBoundsBeginEnd", "(III)V"⟩ : MethodName) jdk_42_method_158_code 3 none ws ({ frames := 1, cells := 0, slots := 0, locals := 15 } : Room) #[(.int b), (.int en), (.int n)] h0 (fun v h L => Fr n0 L ∧ h = h0 ∧ (((v = none)))) := by
  refine own_metN (plainFor_of_name own_pn0) ?_
  intro p e s m below meth c s₁ G hx hby hml hZ hown hnm hret X0 e0 go fin
  have N0 := Fr.nil n0
  refine go _ _ (fun _ k => castTop (own_ef_rm26 m b en n) k) ?_
  show G (s₁.setTop (mkF m 0 #[.val (.int b), .val (.int en), .val (.int n)] []))
  refine go _ _ (fun _ k => XS.iloadN X0.here hx rfl (hb hby own_d26_0) rfl (XS.iloadN X0.here hx rfl (hb hby own_d26_1) rfl (XS.iloadN X0.here hx rfl (hb hby own_d26_2) rfl k))) ?_
  show G (s₁.setTop (mkF m 3 #[.val (.int b), .val (.int en), .val (.int n)] [(.int n), (.int en), (.int b)]))
  obtain ⟨T101, X101, e101, st101⟩ := getS2 X0 hx hZ (host := "") hown (Or.inl (ow hw 152 rfl)) Via.refl e0 (O4.ext Xo.2) (g := (mkF m 3 #[.val (.int b), .val (.int en), .val (.int n)] [(.int n), (.int en), (.int b)])) rfl (hb hby own_d26_3)
  refine go _ _ (st101) ?_
  show G (T101.setTop (mkF m 6 #[.val (.int b), .val (.int en), .val (.int n)] [fm0, (.int n), (.int en), (.int b)]))
  obtain ⟨rv102, T102, L102, X102, q102, st102⟩ := own_st X101 hx hZ (y := (⟨"jdk/internal/util/Preconditions", "checkFromToIndex", "(IIILjava/util/function/BiFunction;)I"⟩ : MethodName)) hown (ow hw 154 rfl) (ow hw 155 rfl) (ow hw 153 rfl) (ow hw 156 rfl) (by decide) (own_bkN (W := 0) (rm27 l Z a0 hw z0 O2 P5 fm0 O4 R4 [] b en n fm0 h0 n0 Z0 R4 hbz he hn) hZ (ow hw 156 rfl) (ow hw 153 rfl) (by decide) (by decide)) e101 (g := (mkF m 6 #[.val (.int b), .val (.int en), .val (.int n)] [fm0, (.int n), (.int en), (.int b)])) rfl (by rw [hml]; rfl) (argsL := [(.int b), (.int en), (.int n), fm0]) (rest := []) rfl (lenOf own_pd7 rfl) rfl (by show 2 * 0 + _ ≤ _; exact Nat.le_of_eq rfl) (hb hby own_d26_6) (by decide) (by decide)
  obtain ⟨Nq102, e102, rfl⟩ := q102
  have N102 := Fr.app N0 Nq102
  refine go _ _ (st102) ?_
  show G (T102.setTop (mkF m 9 #[.val (.int b), .val (.int en), .val (.int n)] [(.int b)]))
  refine go _ _ (fun _ k => XS.pop X102.here hx rfl (hb hby own_d26_9) rfl rfl k) ?_
  show G (T102.setTop (mkF m 10 #[.val (.int b), .val (.int en), .val (.int n)] []))
  refine fin T102 _ _ _ none X102 (fun _ => rfl) (by decide) (by decide) (by rw [e102]; exact ⟨N102, rfl, rfl⟩) _ (own_retV X102 hx hret (hb hby own_d26_10))
theorem own_pn5 : plainName "java/util/Arrays" = true := by decide +kernel
theorem own_d35_0 : decode jdk_65_method_131_code 0 = .ok (.iload_n 1, 1) := by decide +kernel
theorem own_d35_1 : decode jdk_65_method_131_code 1 = .ok (.iload_n 0, 1) := by decide +kernel
theorem own_d35_2 : decode jdk_65_method_131_code 2 = .ok (.if_icmp .ge 35, 3) := by decide +kernel
theorem own_d35_37 : decode jdk_65_method_131_code 37 = .ok (.return_, 1) := by decide +kernel
set_option maxHeartbeats 4000000 in
theorem own_ef_rm35 (m : MethodId) (x0 : Int32) (x1 : Int32) : entryFrame m #[(.int x0), (.int x1)] 2 = mkF m 0 #[.val (.int x0), .val (.int x1)] [] := by rfl
set_option maxRecDepth 65536 in
set_option maxHeartbeats 40000000 in
theorem rm35 (l : Launch) (Z : State) (a0 : Array Value) (hw : ∀ d ∈ tables_1, d.before a0 Z = true) (z0 : Int32) (O2 : Sta Z Z.heap "java/lang/String" "COMPACT_STRINGS" "Z" (.int z0)) (P5 : ¬ z0 = (0 : Int32)) (fm0 : Value) (O4 : Sta Z Z.heap "jdk/internal/util/Preconditions" "SIOOBE_FORMATTER" "Ljava/util/function/BiFunction;" fm0) (R4 : fm0.isRef = true) (ws : List Jvm.Cond) (b : Int32) (en : Int32) (h0 : Heap) (n0 : Nat) (Z0 : n0 ≤ h0.size) (he : ¬ en < b) :
    own_MetN l Z (⟨"java/util/Arrays", "checkLength", "(II)V"⟩ : MethodName) jdk_65_method_131_code 2 none ws ({ frames := 0, cells := 0, slots := 0, locals := 0 } : Room) #[(.int b), (.int en)] h0 (fun v h L => Fr n0 L ∧ h = h0 ∧ (((v = none)))) := by
  refine own_metN (plainFor_of_name own_pn5) ?_
  intro p e s m below meth c s₁ G hx hby hml hZ hown hnm hret X0 e0 go fin
  have N0 := Fr.nil n0
  refine go _ _ (fun _ k => castTop (own_ef_rm35 m b en) k) ?_
  show G (s₁.setTop (mkF m 0 #[.val (.int b), .val (.int en)] []))
  refine go _ _ (fun _ k => XS.iloadN X0.here hx rfl (hb hby own_d35_0) rfl (XS.iloadN X0.here hx rfl (hb hby own_d35_1) rfl k)) ?_
  show G (s₁.setTop (mkF m 2 #[.val (.int b), .val (.int en)] [(.int b), (.int en)]))
  refine go _ _ (fun _ k => XS.icmpYes X0.here hx rfl (pc0 := 2) (pc' := 37) rfl (hb hby own_d35_2) rfl (flt he).2.1 (by decide) (by decide) k) ?_
  show G (s₁.setTop (mkF m 37 #[.val (.int b), .val (.int en)] []))
  refine fin s₁ _ _ _ none X0 (fun _ => rfl) (by decide) (by decide) (by rw [e0]; exact ⟨N0, rfl, rfl⟩) _ (own_retV X0 hx hret (hb hby own_d35_37))
theorem own_d34_0 : decode jdk_65_method_133_code 0 = .ok (.iload_n 1, 1) := by decide +kernel
theorem own_d34_1 : decode jdk_65_method_133_code 1 = .ok (.iload_n 2, 1) := by decide +kernel
theorem own_pd8 : parseMethodDescriptor "(II)V" = some ⟨[.int, .int], none⟩ := by decide +kernel
theorem own_d34_2 : decode jdk_65_method_133_code 2 = .ok (.invokestatic 343, 3) := by decide +kernel
theorem own_d34_5 : decode jdk_65_method_133_code 5 = .ok (.iload_n 2, 1) := by decide +kernel
theorem own_d34_6 : decode jdk_65_method_133_code 6 = .ok (.iload_n 1, 1) := by decide +kernel
theorem own_d34_7 : decode jdk_65_method_133_code 7 = .ok (.isub, 1) := by decide +kernel
theorem own_d34_8 : decode jdk_65_method_133_code 8 = .ok (.istore_n 3, 1) := by decide +kernel
theorem own_d34_9 : decode jdk_65_method_133_code 9 = .ok (.iload_n 3, 1) := by decide +kernel
theorem own_d34_10 : decode jdk_65_method_133_code 10 = .ok (.newarray .byte, 2) := by decide +kernel
theorem own_d34_12 : decode jdk_65_method_133_code 12 = .ok (.astore 4, 2) := by decide +kernel
theorem own_d34_14 : decode jdk_65_method_133_code 14 = .ok (.aload_n 0, 1) := by decide +kernel
theorem own_d34_15 : decode jdk_65_method_133_code 15 = .ok (.iload_n 1, 1) := by decide +kernel
theorem own_d34_16 : decode jdk_65_method_133_code 16 = .ok (.aload 4, 2) := by decide +kernel
theorem own_d34_18 : decode jdk_65_method_133_code 18 = .ok (.iconst 0, 1) := by decide +kernel
theorem own_d34_19 : decode jdk_65_method_133_code 19 = .ok (.aload_n 0, 1) := by decide +kernel
theorem own_d34_20 : decode jdk_65_method_133_code 20 = .ok (.arraylength, 1) := by decide +kernel
theorem own_d34_21 : decode jdk_65_method_133_code 21 = .ok (.iload_n 1, 1) := by decide +kernel
theorem own_d34_22 : decode jdk_65_method_133_code 22 = .ok (.isub, 1) := by decide +kernel
theorem own_d34_23 : decode jdk_65_method_133_code 23 = .ok (.iload_n 3, 1) := by decide +kernel
theorem own_d34_24 : decode jdk_65_method_133_code 24 = .ok (.invokestatic 304, 3) := by decide +kernel
theorem own_d34_27 : decode jdk_65_method_133_code 27 = .ok (.invokestatic 150, 3) := by decide +kernel
theorem own_d34_30 : decode jdk_65_method_133_code 30 = .ok (.aload 4, 2) := by decide +kernel
theorem own_d34_32 : decode jdk_65_method_133_code 32 = .ok (.areturn, 1) := by decide +kernel
set_option maxHeartbeats 4000000 in
theorem own_ef_rm34 (m : MethodId) (x0 : Addr) (x1 : Int32) (x2 : Int32) : entryFrame m #[(.ref x0), (.int x1), (.int x2)] 5 = mkF m 0 #[.val (.ref x0), .val (.int x1), .val (.int x2), .unset, .unset] [] := by rfl
set_option maxRecDepth 65536 in
set_option maxHeartbeats 40000000 in
theorem rm34 (l : Launch) (Z : State) (a0 : Array Value) (hw : ∀ d ∈ tables_1, d.before a0 Z = true) (z0 : Int32) (O2 : Sta Z Z.heap "java/lang/String" "COMPACT_STRINGS" "Z" (.int z0)) (P5 : ¬ z0 = (0 : Int32)) (fm0 : Value) (O4 : Sta Z Z.heap "jdk/internal/util/Preconditions" "SIOOBE_FORMATTER" "Ljava/util/function/BiFunction;" fm0) (R4 : fm0.isRef = true) (ws : List Jvm.Cond) (t : Addr) (b : Int32) (en : Int32) (kb : ClassId) (vs : List Value) (n : Int32) (h0 : Heap) (n0 : Nat) (Z0 : n0 ≤ h0.size) (At : Arv Z h0 t kb .byte n vs (.int (0 : Int32))) (hbz : ¬ b < (0 : Int32)) (he : ¬ en < b) (hn : ¬ n < en) (h3 : ¬ (3 : Int32) < n) :
    own_MetN l Z (⟨"java/util/Arrays", "copyOfRangeByte", "([BII)[B"⟩ : MethodName) jdk_65_method_133_code 5 (some (.array .byte)) ws ({ frames := 1, cells := 1, slots := 3, locals := 27 } : Room) #[(.ref t), (.int b), (.int en)] h0 (fun v h L => Fr n0 L ∧ Keep h0 h [] ∧ ((∃ (r : Addr), (v = some (.ref r)) ∧ (h0.size ≤ r)))) := by
  refine own_metN (plainFor_of_name own_pn5) ?_
  intro p e s m below meth c s₁ G hx hby hml hZ hown hnm hret X0 e0 go fin
  have N0 := Fr.nil n0
  refine go _ _ (fun _ k => castTop (own_ef_rm34 m t b en) k) ?_
  show G (s₁.setTop (mkF m 0 #[.val (.ref t), .val (.int b), .val (.int en), .unset, .unset] []))
  refine go _ _ (fun _ k => XS.iloadN X0.here hx rfl (hb hby own_d34_0) rfl (XS.iloadN X0.here hx rfl (hb hby own_d34_1) rfl k)) ?_
  show G (s₁.setTop (mkF m 2 #[.val (.ref t), .val (.int b), .val (.int en), .unset, .unset] [(.int en), (.int b)]))
  obtain ⟨rv101, T101, L101, X101, q101, st101⟩ := own_st X0 hx hZ (y := (⟨"java/util/Arrays", "checkLength", "(II)V"⟩ : MethodName)) hown (ow hw 182 rfl) (ow hw 183 rfl) (ow hw 177 rfl) (ow hw 184 rfl) (by decide) (own_bkN (W := 0) (rm35 l Z a0 hw z0 O2 P5 fm0 O4 R4 [] b en h0 n0 Z0 he) hZ (ow hw 184 rfl) (ow hw 177 rfl) (by decide) (by decide)) e0 (g := (mkF m 2 #[.val (.ref t), .val (.int b), .val (.int en), .unset, .unset] [(.int en), (.int b)])) rfl (by rw [hml]; rfl) (argsL := [(.int b), (.int en)]) (rest := []) rfl (lenOf own_pd8 rfl) rfl (by show 2 * 0 + _ ≤ _; exact Nat.le_of_eq rfl) (hb hby own_d34_2) (by decide) (by decide)
  obtain ⟨Nq101, e101, rfl⟩ := q101
  have N101 := Fr.app N0 Nq101
  refine go _ _ (st101) ?_
  show G (T101.setTop (mkF m 5 #[.val (.ref t), .val (.int b), .val (.int en), .unset, .unset] []))
  refine go _ _ (fun _ k => XS.iloadN X101.here hx rfl (hb hby own_d34_5) rfl (XS.iloadN X101.here hx rfl (hb hby own_d34_6) rfl (XS.isub X101.here hx rfl (hb hby own_d34_7) rfl (XS.istoreN X101.here hx rfl (hb hby own_d34_8) rfl (l' := #[.val (.ref t), .val (.int b), .val (.int en), .val (.int (en - b)), .unset]) rfl (XS.iloadN X101.here hx rfl (hb hby own_d34_9) rfl k))))) ?_
  show G (T101.setTop (mkF m 10 #[.val (.ref t), .val (.int b), .val (.int en), .val (.int (en - b)), .unset] [(.int (en - b))]))
  have ha103 : ¬ (en - b) < (0 : Int32) := by
    have ar0 := own_rg en
    have ar1 := own_rg b
    have ar2 := c_isub en b
    have ar3 := own_rg (en - b)
    have ar4 : (0 : Int32).toInt = 0 := rfl
    have ar5 := own_rg n
    have ar6 : (3 : Int32).toInt = 3 := rfl
    have hy0 := own_nl hbz
    have hy1 := own_nl he
    have hy2 := own_nl hn
    have hy3 := own_nl h3
    exact own_nl' (by omega)
  have ho104 : (en - b).toInt ≤ 3 := by
    have ar0 := own_rg en
    have ar1 := own_rg b
    have ar2 := c_isub en b
    have ar3 := own_rg (en - b)
    have ar4 : (0 : Int32).toInt = 0 := rfl
    have ar5 := own_rg n
    have ar6 : (3 : Int32).toInt = 3 := rfl
    have hy0 := own_nl hbz
    have hy1 := own_nl he
    have hy2 := own_nl hn
    have hy3 := own_nl h3
    have hy4 := own_nl ha103
    omega
  have cp102 : (en - b).toNatClampNeg ≤ 3 := by have q := own_nc ha103; omega
  obtain ⟨T102, h102, k102, X102, e102, E102, A102, st102⟩ := newP X101 hx hZ (ow hw 23 rfl) e101 (g := (mkF m 10 #[.val (.ref t), .val (.int b), .val (.int en), .val (.int (en - b)), .unset] [(.int (en - b))])) rfl (hb hby own_d34_10) rfl ha103 (cap := 3) cp102 (by decide) (by decide) (by decide)
  obtain ⟨b102, g102⟩ : ∃ z, z = h0.size := ⟨_, rfl⟩
  rw [← g102] at A102 st102
  have V102 : Arv Z h102 b102 k102 .byte (en - b) [] (.int (0 : Int32)) := Arv.new A102 ha103
  refine go _ _ (st102) ?_
  show G (T102.setTop (mkF m 12 #[.val (.ref t), .val (.int b), .val (.int en), .val (.int (en - b)), .unset] [(.ref b102)]))
  refine go _ _ (fun _ k => XS.astore X102.here hx rfl (hb hby own_d34_12) rfl rfl (l' := #[.val (.ref t), .val (.int b), .val (.int en), .val (.int (en - b)), .val (.ref b102)]) rfl (XS.aloadN X102.here hx rfl (hb hby own_d34_14) rfl rfl (XS.iloadN X102.here hx rfl (hb hby own_d34_15) rfl (XS.aload X102.here hx rfl (hb hby own_d34_16) rfl rfl (XS.iconst X102.here hx rfl (hb hby own_d34_18) (XS.aloadN X102.here hx rfl (hb hby own_d34_19) rfl rfl k)))))) ?_
  show G (T102.setTop (mkF m 20 #[.val (.ref t), .val (.int b), .val (.int en), .val (.int (en - b)), .val (.ref b102)] [(.ref t), (.int (0 : Int32)), (.ref b102), (.int b), (.ref t)]))
  have K106 : Keep h0 h102 [] := (Keep.refl h0 []).ext E102
  have F107 : Arv Z h102 t kb .byte n vs (.int (0 : Int32)) := (At.keep K106 nin0)
  obtain ⟨cl105, Ar105, q105, S105, M105, H105, U105⟩ := id F107
  refine go _ _ (fun _ k => X102.arraylength hx (by rw [e102]; exact Ar105.1) (State.isArrayOf_alike hZ.alike Ar105.2.1) (g := (mkF m 20 #[.val (.ref t), .val (.int b), .val (.int en), .val (.int (en - b)), .val (.ref b102)] [(.ref t), (.int (0 : Int32)), (.ref b102), (.int b), (.ref t)])) rfl rfl (hb hby own_d34_20) _ k) ?_
  show G (T102.setTop (mkF m 21 #[.val (.ref t), .val (.int b), .val (.int en), .val (.int (en - b)), .val (.ref b102)] [(.int cl105.slots.size.toInt32), (.int (0 : Int32)), (.ref b102), (.int b), (.ref t)]))
  rw [len_of S105 M105]
  show G (T102.setTop (mkF m 21 #[.val (.ref t), .val (.int b), .val (.int en), .val (.int (en - b)), .val (.ref b102)] [(.int n), (.int (0 : Int32)), (.ref b102), (.int b), (.ref t)]))
  refine go _ _ (fun _ k => XS.iloadN X102.here hx rfl (hb hby own_d34_21) rfl (XS.isub X102.here hx rfl (hb hby own_d34_22) rfl (XS.iloadN X102.here hx rfl (hb hby own_d34_23) rfl k))) ?_
  show G (T102.setTop (mkF m 24 #[.val (.ref t), .val (.int b), .val (.int en), .val (.int (en - b)), .val (.ref b102)] [(.int (en - b)), (.int (n - b)), (.int (0 : Int32)), (.ref b102), (.int b), (.ref t)]))
  have Z109 : h0.size ≤ h102.size := E102.1
  obtain ⟨rv108, T108, L108, X108, q108, st108⟩ := own_st X102 hx hZ (y := (⟨"java/lang/Math", "min", "(II)I"⟩ : MethodName)) hown (ow hw 185 rfl) (ow hw 123 rfl) (ow hw 120 rfl) (ow hw 124 rfl) (by decide) (own_bkN (W := 4) (rm20 l Z a0 hw z0 O2 P5 fm0 O4 R4 [] (n - b) (en - b) h102 n0 (Nat.le_trans Z0 Z109)) hZ (ow hw 124 rfl) (ow hw 120 rfl) (by decide) (by decide)) e102 (g := (mkF m 24 #[.val (.ref t), .val (.int b), .val (.int en), .val (.int (en - b)), .val (.ref b102)] [(.int (en - b)), (.int (n - b)), (.int (0 : Int32)), (.ref b102), (.int b), (.ref t)])) rfl (by rw [hml]; rfl) (argsL := [(.int (n - b)), (.int (en - b))]) (rest := [(.int (0 : Int32)), (.ref b102), (.int b), (.ref t)]) rfl (lenOf own_pd2 rfl) rfl (by show 2 * 0 + _ ≤ _; exact Nat.le_of_eq rfl) (hb hby own_d34_24) (by decide) (by decide)
  obtain ⟨Nq108, e108, q108⟩ := q108
  have N108 := Fr.app N101 Nq108
  rcases q108 with ⟨rfl, p110⟩ | ⟨rfl, p111⟩
  · refine go _ _ (st108) ?_
    show G (T108.setTop (mkF m 27 #[.val (.ref t), .val (.int b), .val (.int en), .val (.int (en - b)), .val (.ref b102)] [(.int (en - b)), (.int (0 : Int32)), (.ref b102), (.int b), (.ref t)]))
    have ha113 : ¬ b < (0 : Int32) := by
      have ar0 := own_rg b
      have ar1 : (0 : Int32).toInt = 0 := rfl
      have ar2 := own_rg en
      have ar3 := own_rg n
      have ar4 : (3 : Int32).toInt = 3 := rfl
      have ar5 := c_isub en b
      have ar6 := own_rg (en - b)
      have ar7 := c_isub n b
      have ar8 := own_rg (n - b)
      have hy0 := own_nl hbz
      have hy1 := own_nl he
      have hy2 := own_nl hn
      have hy3 := own_nl h3
      have hy4 := own_nl ha103
      have hy5 := own_l p110
      exact own_nl' (by omega)
    have ha114 : ¬ (en - b) < (0 : Int32) := by
      have ar0 := own_rg en
      have ar1 := own_rg b
      have ar2 := c_isub en b
      have ar3 := own_rg (en - b)
      have ar4 : (0 : Int32).toInt = 0 := rfl
      have ar5 := own_rg n
      have ar6 : (3 : Int32).toInt = 3 := rfl
      have ar7 := c_isub n b
      have ar8 := own_rg (n - b)
      have hy0 := own_nl ha113
      have hy1 := own_nl he
      have hy2 := own_nl hn
      have hy3 := own_nl h3
      have hy4 := own_nl ha103
      have hy5 := own_l p110
      exact own_nl' (by omega)
    have ha115 : ¬ n < (0 : Int32) := by
      have ar0 := own_rg n
      have ar1 : (0 : Int32).toInt = 0 := rfl
      have ar2 := own_rg b
      have ar3 := own_rg en
      have ar4 : (3 : Int32).toInt = 3 := rfl
      have ar5 := c_isub en b
      have ar6 := own_rg (en - b)
      have ar7 := c_isub n b
      have ar8 := own_rg (n - b)
      have hy0 := own_nl ha113
      have hy1 := own_nl he
      have hy2 := own_nl hn
      have hy3 := own_nl h3
      have hy4 := own_nl ha114
      have hy5 := own_l p110
      exact own_nl' (by omega)
    have ha116 : ¬ (en - b) < (0 : Int32) := by
      have ar0 := own_rg en
      have ar1 := own_rg b
      have ar2 := c_isub en b
      have ar3 := own_rg (en - b)
      have ar4 : (0 : Int32).toInt = 0 := rfl
      have ar5 := own_rg n
      have ar6 : (3 : Int32).toInt = 3 := rfl
      have ar7 := c_isub n b
      have ar8 := own_rg (n - b)
      have hy0 := own_nl ha113
      have hy1 := own_nl he
      have hy2 := own_nl hn
      have hy3 := own_nl h3
      have hy4 := own_nl ha114
      have hy5 := own_l p110
      have hy6 := own_nl ha115
      exact own_nl' (by omega)
    have ho117 : b.toInt + (en - b).toInt ≤ n.toInt := by
      have ar0 := own_rg b
      have ar1 := own_rg en
      have ar2 := c_isub en b
      have ar3 := own_rg (en - b)
      have ar4 := own_rg n
      have ar5 : (0 : Int32).toInt = 0 := rfl
      have ar6 : (3 : Int32).toInt = 3 := rfl
      have ar7 := c_isub n b
      have ar8 := own_rg (n - b)
      have hy0 := own_nl ha113
      have hy1 := own_nl he
      have hy2 := own_nl hn
      have hy3 := own_nl h3
      have hy4 := own_nl ha116
      have hy5 := own_l p110
      have hy6 := own_nl ha115
      omega
    have ho118 : (en - b).toInt ≤ (en - b).toInt := by
      have ar0 := own_rg en
      have ar1 := own_rg b
      have ar2 := c_isub en b
      have ar3 := own_rg (en - b)
      have ar4 : (0 : Int32).toInt = 0 := rfl
      have ar5 := own_rg n
      have ar6 : (3 : Int32).toInt = 3 := rfl
      have ar7 := c_isub n b
      have ar8 := own_rg (n - b)
      have hy0 := own_nl ha113
      have hy1 := own_nl he
      have hy2 := own_nl hn
      have hy3 := own_nl h3
      have hy4 := own_nl ha116
      have hy5 := own_l p110
      have hy6 := own_nl ha115
      omega
    obtain ⟨T112, h112, L112, X112, e112, N112, Kp112, ⟨vs112, V112⟩, st112⟩ := own_cpx X108 hx hZ hown (ow hw 186 rfl) (ow hw 189 rfl) (ow hw 187 rfl) (ow hw 188 rfl) e108 F107 V102 ha113 ha114 ha115 ha116 ho117 ho118 N108 (Nat.le_trans Z0 (Nat.le_of_eq g102.symm)) (g := (mkF m 27 #[.val (.ref t), .val (.int b), .val (.int en), .val (.int (en - b)), .val (.ref b102)] [(.int (en - b)), (.int (0 : Int32)), (.ref b102), (.int b), (.ref t)])) rfl (by rw [hml]; rfl) (rest := []) rfl (hb hby own_d34_27) (by decide) (W := 0) (by show 2 * 0 + _ ≤ _; exact Nat.le_of_eq rfl) (by decide)
    refine go _ _ (st112) ?_
    show G (T112.setTop (mkF m 30 #[.val (.ref t), .val (.int b), .val (.int en), .val (.int (en - b)), .val (.ref b102)] []))
    refine go _ _ (fun _ k => XS.aload X112.here hx rfl (hb hby own_d34_30) rfl rfl k) ?_
    show G (T112.setTop (mkF m 32 #[.val (.ref t), .val (.int b), .val (.int en), .val (.int (en - b)), .val (.ref b102)] [(.ref b102)]))
    have K119 : Keep h0 h112 [] := K106.trans Kp112 (allS (Or.inr (Nat.le_of_eq g102.symm)) all0)
    refine fin T112 _ _ _ (some (.ref b102)) X112 (fun q => nomatch q) (by decide) (by decide) (by rw [e112]; exact ⟨N112, K119, ⟨b102, rfl, (Nat.le_of_eq g102.symm)⟩⟩) _ (own_retA X112 hx hret rfl rfl rfl (hb hby own_d34_32))
  · refine go _ _ (st108) ?_
    show G (T108.setTop (mkF m 27 #[.val (.ref t), .val (.int b), .val (.int en), .val (.int (en - b)), .val (.ref b102)] [(.int (n - b)), (.int (0 : Int32)), (.ref b102), (.int b), (.ref t)]))
    have ha121 : ¬ b < (0 : Int32) := by
      have ar0 := own_rg b
      have ar1 : (0 : Int32).toInt = 0 := rfl
      have ar2 := own_rg en
      have ar3 := own_rg n
      have ar4 : (3 : Int32).toInt = 3 := rfl
      have ar5 := c_isub en b
      have ar6 := own_rg (en - b)
      have ar7 := c_isub n b
      have ar8 := own_rg (n - b)
      have hy0 := own_nl hbz
      have hy1 := own_nl he
      have hy2 := own_nl hn
      have hy3 := own_nl h3
      have hy4 := own_nl ha103
      have hy5 := own_nl p111
      exact own_nl' (by omega)
    have ha122 : ¬ (n - b) < (0 : Int32) := by
      have ar0 := own_rg n
      have ar1 := own_rg b
      have ar2 := c_isub n b
      have ar3 := own_rg (n - b)
      have ar4 : (0 : Int32).toInt = 0 := rfl
      have ar5 := own_rg en
      have ar6 : (3 : Int32).toInt = 3 := rfl
      have ar7 := c_isub en b
      have ar8 := own_rg (en - b)
      have hy0 := own_nl ha121
      have hy1 := own_nl he
      have hy2 := own_nl hn
      have hy3 := own_nl h3
      have hy4 := own_nl ha103
      have hy5 := own_nl p111
      exact own_nl' (by omega)
    have ha123 : ¬ n < (0 : Int32) := by
      have ar0 := own_rg n
      have ar1 : (0 : Int32).toInt = 0 := rfl
      have ar2 := own_rg b
      have ar3 := own_rg en
      have ar4 : (3 : Int32).toInt = 3 := rfl
      have ar5 := c_isub en b
      have ar6 := own_rg (en - b)
      have ar7 := c_isub n b
      have ar8 := own_rg (n - b)
      have hy0 := own_nl ha121
      have hy1 := own_nl he
      have hy2 := own_nl hn
      have hy3 := own_nl h3
      have hy4 := own_nl ha103
      have hy5 := own_nl p111
      have hy6 := own_nl ha122
      exact own_nl' (by omega)
    have ha124 : ¬ (en - b) < (0 : Int32) := by
      have ar0 := own_rg en
      have ar1 := own_rg b
      have ar2 := c_isub en b
      have ar3 := own_rg (en - b)
      have ar4 : (0 : Int32).toInt = 0 := rfl
      have ar5 := own_rg n
      have ar6 : (3 : Int32).toInt = 3 := rfl
      have ar7 := c_isub n b
      have ar8 := own_rg (n - b)
      have hy0 := own_nl ha121
      have hy1 := own_nl he
      have hy2 := own_nl hn
      have hy3 := own_nl h3
      have hy4 := own_nl ha103
      have hy5 := own_nl p111
      have hy6 := own_nl ha122
      have hy7 := own_nl ha123
      exact own_nl' (by omega)
    have ho125 : b.toInt + (n - b).toInt ≤ n.toInt := by
      have ar0 := own_rg b
      have ar1 := own_rg n
      have ar2 := c_isub n b
      have ar3 := own_rg (n - b)
      have ar4 : (0 : Int32).toInt = 0 := rfl
      have ar5 := own_rg en
      have ar6 : (3 : Int32).toInt = 3 := rfl
      have ar7 := c_isub en b
      have ar8 := own_rg (en - b)
      have hy0 := own_nl ha121
      have hy1 := own_nl he
      have hy2 := own_nl hn
      have hy3 := own_nl h3
      have hy4 := own_nl ha124
      have hy5 := own_nl p111
      have hy6 := own_nl ha122
      have hy7 := own_nl ha123
      omega
    have ho126 : (n - b).toInt ≤ (en - b).toInt := by
      have ar0 := own_rg n
      have ar1 := own_rg b
      have ar2 := c_isub n b
      have ar3 := own_rg (n - b)
      have ar4 := own_rg en
      have ar5 := c_isub en b
      have ar6 := own_rg (en - b)
      have ar7 : (0 : Int32).toInt = 0 := rfl
      have ar8 : (3 : Int32).toInt = 3 := rfl
      have hy0 := own_nl ha121
      have hy1 := own_nl he
      have hy2 := own_nl hn
      have hy3 := own_nl h3
      have hy4 := own_nl ha124
      have hy5 := own_nl p111
      have hy6 := own_nl ha122
      have hy7 := own_nl ha123
      omega
    obtain ⟨T120, h120, L120, X120, e120, N120, Kp120, ⟨vs120, V120⟩, st120⟩ := own_cpx X108 hx hZ hown (ow hw 186 rfl) (ow hw 189 rfl) (ow hw 187 rfl) (ow hw 188 rfl) e108 F107 V102 ha121 ha122 ha123 ha124 ho125 ho126 N108 (Nat.le_trans Z0 (Nat.le_of_eq g102.symm)) (g := (mkF m 27 #[.val (.ref t), .val (.int b), .val (.int en), .val (.int (en - b)), .val (.ref b102)] [(.int (n - b)), (.int (0 : Int32)), (.ref b102), (.int b), (.ref t)])) rfl (by rw [hml]; rfl) (rest := []) rfl (hb hby own_d34_27) (by decide) (W := 0) (by show 2 * 0 + _ ≤ _; exact Nat.le_of_eq rfl) (by decide)
    refine go _ _ (st120) ?_
    show G (T120.setTop (mkF m 30 #[.val (.ref t), .val (.int b), .val (.int en), .val (.int (en - b)), .val (.ref b102)] []))
    refine go _ _ (fun _ k => XS.aload X120.here hx rfl (hb hby own_d34_30) rfl rfl k) ?_
    show G (T120.setTop (mkF m 32 #[.val (.ref t), .val (.int b), .val (.int en), .val (.int (en - b)), .val (.ref b102)] [(.ref b102)]))
    have K127 : Keep h0 h120 [] := K106.trans Kp120 (allS (Or.inr (Nat.le_of_eq g102.symm)) all0)
    refine fin T120 _ _ _ (some (.ref b102)) X120 (fun q => nomatch q) (by decide) (by decide) (by rw [e120]; exact ⟨N120, K127, ⟨b102, rfl, (Nat.le_of_eq g102.symm)⟩⟩) _ (own_retA X120 hx hret rfl rfl rfl (hb hby own_d34_32))
theorem own_d33_0 : decode jdk_65_method_132_code 0 = .ok (.iload_n 1, 1) := by decide +kernel
theorem own_d33_1 : decode jdk_65_method_132_code 1 = .ok (.ifCond .ne 9, 3) := by decide +kernel
theorem own_d33_4 : decode jdk_65_method_132_code 4 = .ok (.iload_n 2, 1) := by decide +kernel
theorem own_d33_5 : decode jdk_65_method_132_code 5 = .ok (.aload_n 0, 1) := by decide +kernel
theorem own_d33_6 : decode jdk_65_method_132_code 6 = .ok (.arraylength, 1) := by decide +kernel
theorem own_d33_7 : decode jdk_65_method_132_code 7 = .ok (.if_icmp .eq 10, 3) := by decide +kernel
theorem own_d33_10 : decode jdk_65_method_132_code 10 = .ok (.aload_n 0, 1) := by decide +kernel
theorem own_d33_11 : decode jdk_65_method_132_code 11 = .ok (.iload_n 1, 1) := by decide +kernel
theorem own_d33_12 : decode jdk_65_method_132_code 12 = .ok (.iload_n 2, 1) := by decide +kernel
theorem own_pd9 : parseMethodDescriptor "([BII)[B" = some ⟨[(.array .byte), .int, .int], some (.array .byte)⟩ := by decide +kernel
theorem own_d33_13 : decode jdk_65_method_132_code 13 = .ok (.invokestatic 339, 3) := by decide +kernel
theorem own_d33_16 : decode jdk_65_method_132_code 16 = .ok (.areturn, 1) := by decide +kernel
set_option maxHeartbeats 4000000 in
theorem own_ef_rm33 (m : MethodId) (x0 : Addr) (x1 : Int32) (x2 : Int32) : entryFrame m #[(.ref x0), (.int x1), (.int x2)] 3 = mkF m 0 #[.val (.ref x0), .val (.int x1), .val (.int x2)] [] := by rfl
set_option maxRecDepth 65536 in
set_option maxHeartbeats 40000000 in
theorem rm33 (l : Launch) (Z : State) (a0 : Array Value) (hw : ∀ d ∈ tables_1, d.before a0 Z = true) (z0 : Int32) (O2 : Sta Z Z.heap "java/lang/String" "COMPACT_STRINGS" "Z" (.int z0)) (P5 : ¬ z0 = (0 : Int32)) (fm0 : Value) (O4 : Sta Z Z.heap "jdk/internal/util/Preconditions" "SIOOBE_FORMATTER" "Ljava/util/function/BiFunction;" fm0) (R4 : fm0.isRef = true) (ws : List Jvm.Cond) (t : Addr) (b : Int32) (en : Int32) (kb : ClassId) (vs : List Value) (n : Int32) (h0 : Heap) (n0 : Nat) (Z0 : n0 ≤ h0.size) (At : Arv Z h0 t kb .byte n vs (.int (0 : Int32))) (hbz : ¬ b < (0 : Int32)) (he : ¬ en < b) (hn : ¬ n < en) (h3 : ¬ (3 : Int32) < n) (hne : ¬ (b = (0 : Int32) ∧ en = n)) :
    own_MetN l Z (⟨"java/util/Arrays", "copyOfRange", "([BII)[B"⟩ : MethodName) jdk_65_method_132_code 3 (some (.array .byte)) ws ({ frames := 2, cells := 1, slots := 3, locals := 43 } : Room) #[(.ref t), (.int b), (.int en)] h0 (fun v h L => Fr n0 L ∧ Keep h0 h [] ∧ ((∃ (r : Addr), (v = some (.ref r)) ∧ (h0.size ≤ r)))) := by
  refine own_metN (plainFor_of_name own_pn5) ?_
  intro p e s m below meth c s₁ G hx hby hml hZ hown hnm hret X0 e0 go fin
  have N0 := Fr.nil n0
  refine go _ _ (fun _ k => castTop (own_ef_rm33 m t b en) k) ?_
  show G (s₁.setTop (mkF m 0 #[.val (.ref t), .val (.int b), .val (.int en)] []))
  refine go _ _ (fun _ k => XS.iloadN X0.here hx rfl (hb hby own_d33_0) rfl k) ?_
  show G (s₁.setTop (mkF m 1 #[.val (.ref t), .val (.int b), .val (.int en)] [(.int b)]))
  by_cases hc1_101 : b = (0 : Int32)
  · refine go _ _ (fun _ k => XS.ifNo X0.here hx rfl (hb hby own_d33_1) rfl ((if0 _ _).trans (teq hc1_101).2) k) ?_
    show G (s₁.setTop (mkF m 4 #[.val (.ref t), .val (.int b), .val (.int en)] []))
    refine go _ _ (fun _ k => XS.iloadN X0.here hx rfl (hb hby own_d33_4) rfl (XS.aloadN X0.here hx rfl (hb hby own_d33_5) rfl rfl k)) ?_
    show G (s₁.setTop (mkF m 6 #[.val (.ref t), .val (.int b), .val (.int en)] [(.ref t), (.int en)]))
    obtain ⟨cl102, Ar102, q102, S102, M102, H102, U102⟩ := id At
    refine go _ _ (fun _ k => X0.arraylength hx (by rw [e0]; exact Ar102.1) (State.isArrayOf_alike hZ.alike Ar102.2.1) (g := (mkF m 6 #[.val (.ref t), .val (.int b), .val (.int en)] [(.ref t), (.int en)])) rfl rfl (hb hby own_d33_6) _ k) ?_
    show G (s₁.setTop (mkF m 7 #[.val (.ref t), .val (.int b), .val (.int en)] [(.int cl102.slots.size.toInt32), (.int en)]))
    rw [len_of S102 M102]
    show G (s₁.setTop (mkF m 7 #[.val (.ref t), .val (.int b), .val (.int en)] [(.int n), (.int en)]))
    by_cases hc7_103 : en = n
    · refine go _ _ (fun _ k => XS.icmpYes X0.here hx rfl (pc0 := 7) (pc' := 17) rfl (hb hby own_d33_7) rfl (teq hc7_103).1 (by decide) (by decide) k) ?_
      show G (s₁.setTop (mkF m 17 #[.val (.ref t), .val (.int b), .val (.int en)] []))
      exact absurd ⟨hc1_101, hc7_103⟩ hne
    · refine go _ _ (fun _ k => XS.icmpNo X0.here hx rfl (hb hby own_d33_7) rfl (feq hc7_103).1 k) ?_
      show G (s₁.setTop (mkF m 10 #[.val (.ref t), .val (.int b), .val (.int en)] []))
      refine go _ _ (fun _ k => XS.aloadN X0.here hx rfl (hb hby own_d33_10) rfl rfl (XS.iloadN X0.here hx rfl (hb hby own_d33_11) rfl (XS.iloadN X0.here hx rfl (hb hby own_d33_12) rfl k))) ?_
      show G (s₁.setTop (mkF m 13 #[.val (.ref t), .val (.int b), .val (.int en)] [(.int en), (.int b), (.ref t)]))
      obtain ⟨rv104, T104, L104, X104, q104, st104⟩ := own_st X0 hx hZ (y := (⟨"java/util/Arrays", "copyOfRangeByte", "([BII)[B"⟩ : MethodName)) hown (ow hw 179 rfl) (ow hw 180 rfl) (ow hw 177 rfl) (ow hw 181 rfl) (by decide) (own_bkN (W := 0) (rm34 l Z a0 hw z0 O2 P5 fm0 O4 R4 [] t b en kb vs n h0 n0 Z0 At hbz he hn h3) hZ (ow hw 181 rfl) (ow hw 177 rfl) (by decide) (by decide)) e0 (g := (mkF m 13 #[.val (.ref t), .val (.int b), .val (.int en)] [(.int en), (.int b), (.ref t)])) rfl (by rw [hml]; rfl) (argsL := [(.ref t), (.int b), (.int en)]) (rest := []) rfl (lenOf own_pd9 rfl) rfl (by show 2 * 0 + _ ≤ _; exact Nat.le_of_eq rfl) (hb hby own_d33_13) (by decide) (by decide)
      obtain ⟨Nq104, Kp104, ⟨r_105, rfl, z106⟩⟩ := q104
      have N104 := Fr.app N0 Nq104
      refine go _ _ (st104) ?_
      show G (T104.setTop (mkF m 16 #[.val (.ref t), .val (.int b), .val (.int en)] [(.ref r_105)]))
      have K107 : Keep h0 T104.heap [] := (Keep.refl h0 []).trans Kp104 all0
      refine fin T104 _ _ _ (some (.ref r_105)) X104 (fun q => nomatch q) (by decide) (by decide) ⟨N104, K107, ⟨r_105, rfl, z106⟩⟩ _ (own_retA X104 hx hret rfl rfl rfl (hb hby own_d33_16))
  · refine go _ _ (fun _ k => XS.ifYes X0.here hx rfl (pc0 := 1) (pc' := 10) rfl (hb hby own_d33_1) rfl ((if0 _ _).trans (feq hc1_101).2) (by decide) (by decide) k) ?_
    show G (s₁.setTop (mkF m 10 #[.val (.ref t), .val (.int b), .val (.int en)] []))
    refine go _ _ (fun _ k => XS.aloadN X0.here hx rfl (hb hby own_d33_10) rfl rfl (XS.iloadN X0.here hx rfl (hb hby own_d33_11) rfl (XS.iloadN X0.here hx rfl (hb hby own_d33_12) rfl k))) ?_
    show G (s₁.setTop (mkF m 13 #[.val (.ref t), .val (.int b), .val (.int en)] [(.int en), (.int b), (.ref t)]))
    obtain ⟨rv108, T108, L108, X108, q108, st108⟩ := own_st X0 hx hZ (y := (⟨"java/util/Arrays", "copyOfRangeByte", "([BII)[B"⟩ : MethodName)) hown (ow hw 179 rfl) (ow hw 180 rfl) (ow hw 177 rfl) (ow hw 181 rfl) (by decide) (own_bkN (W := 0) (rm34 l Z a0 hw z0 O2 P5 fm0 O4 R4 [] t b en kb vs n h0 n0 Z0 At hbz he hn h3) hZ (ow hw 181 rfl) (ow hw 177 rfl) (by decide) (by decide)) e0 (g := (mkF m 13 #[.val (.ref t), .val (.int b), .val (.int en)] [(.int en), (.int b), (.ref t)])) rfl (by rw [hml]; rfl) (argsL := [(.ref t), (.int b), (.int en)]) (rest := []) rfl (lenOf own_pd9 rfl) rfl (by show 2 * 0 + _ ≤ _; exact Nat.le_of_eq rfl) (hb hby own_d33_13) (by decide) (by decide)
    obtain ⟨Nq108, Kp108, ⟨r_109, rfl, z110⟩⟩ := q108
    have N108 := Fr.app N0 Nq108
    refine go _ _ (st108) ?_
    show G (T108.setTop (mkF m 16 #[.val (.ref t), .val (.int b), .val (.int en)] [(.ref r_109)]))
    have K111 : Keep h0 T108.heap [] := (Keep.refl h0 []).trans Kp108 all0
    refine fin T108 _ _ _ (some (.ref r_109)) X108 (fun q => nomatch q) (by decide) (by decide) ⟨N108, K111, ⟨r_109, rfl, z110⟩⟩ _ (own_retA X108 hx hret rfl rfl rfl (hb hby own_d33_16))
theorem own_d31_0 : decode jdk_42_method_151_code 0 = .ok (.aload_n 0, 1) := by decide +kernel
theorem own_d31_1 : decode jdk_42_method_151_code 1 = .ok (.invokespecial 1, 3) := by decide +kernel
theorem own_d31_4 : decode jdk_42_method_151_code 4 = .ok (.aload_n 0, 1) := by decide +kernel
theorem own_d31_5 : decode jdk_42_method_151_code 5 = .ok (.aload_n 1, 1) := by decide +kernel
theorem own_d31_6 : decode jdk_42_method_151_code 6 = .ok (.putfield 9, 3) := by decide +kernel
theorem own_d31_9 : decode jdk_42_method_151_code 9 = .ok (.aload_n 0, 1) := by decide +kernel
theorem own_d31_10 : decode jdk_42_method_151_code 10 = .ok (.iload_n 2, 1) := by decide +kernel
theorem own_d31_11 : decode jdk_42_method_151_code 11 = .ok (.putfield 15, 3) := by decide +kernel
theorem own_d31_14 : decode jdk_42_method_151_code 14 = .ok (.return_, 1) := by decide +kernel
set_option maxHeartbeats 4000000 in
theorem own_ef_rm31 (m : MethodId) (x0 : Addr) (x1 : Addr) (x2 : Int32) : entryFrame m #[(.ref x0), (.ref x1), (.int x2)] 3 = mkF m 0 #[.val (.ref x0), .val (.ref x1), .val (.int x2)] [] := by rfl
set_option maxRecDepth 65536 in
set_option maxHeartbeats 40000000 in
theorem rm31 (l : Launch) (Z : State) (a0 : Array Value) (hw : ∀ d ∈ tables_1, d.before a0 Z = true) (z0 : Int32) (O2 : Sta Z Z.heap "java/lang/String" "COMPACT_STRINGS" "Z" (.int z0)) (P5 : ¬ z0 = (0 : Int32)) (fm0 : Value) (O4 : Sta Z Z.heap "jdk/internal/util/Preconditions" "SIOOBE_FORMATTER" "Ljava/util/function/BiFunction;" fm0) (R4 : fm0.isRef = true) (ws : List Jvm.Cond) (a : Addr) (b : Addr) (h0 : Heap) (n0 : Nat) (Z0 : n0 ≤ h0.size) (Ea : Exa Z h0 a "java/lang/String") (Fv : Fld Z h0 a "java/lang/String" "value" "[B" .null) (Fc : Fld Z h0 a "java/lang/String" "coder" "B" (.int (0 : Int32))) (gz_a : n0 ≤ a) :
    own_MetN l Z (⟨"java/lang/String", "<init>", "([BB)V"⟩ : MethodName) jdk_42_method_151_code 3 none ws ({ frames := 1, cells := 0, slots := 0, locals := 12 } : Room) #[(.ref a), (.ref b), (.int (0 : Int32))] h0 (fun v h L => Fr n0 L ∧ Keep h0 h [a] ∧ (((v = none) ∧ (Exa Z h a "java/lang/String") ∧ (Fld Z h a "java/lang/String" "value" "[B" (.ref b)) ∧ (Fld Z h a "java/lang/String" "coder" "B" (.int (0 : Int32)))))) := by
  refine own_metN (plainFor_of_name own_pn0) ?_
  intro p e s m below meth c s₁ G hx hby hml hZ hown hnm hret X0 e0 go fin
  have N0 := Fr.nil n0
  refine go _ _ (fun _ k => castTop (own_ef_rm31 m a b (0 : Int32)) k) ?_
  show G (s₁.setTop (mkF m 0 #[.val (.ref a), .val (.ref b), .val (.int (0 : Int32))] []))
  refine go _ _ (fun _ k => XS.aloadN X0.here hx rfl (hb hby own_d31_0) rfl rfl k) ?_
  show G (s₁.setTop (mkF m 1 #[.val (.ref a), .val (.ref b), .val (.int (0 : Int32))] [(.ref a)]))
  obtain ⟨T101, X101, e101, st101⟩ := initO X0 hx hZ hown (ow hw 15 rfl) (ow hw 16 rfl) (ow hw 17 rfl) e0 (g := (mkF m 1 #[.val (.ref a), .val (.ref b), .val (.int (0 : Int32))] [(.ref a)])) rfl (by rw [hml]; rfl) rfl (hb hby own_d31_1) (by decide) (W := 0) (by show 2 * 0 + _ ≤ _; exact Nat.le_of_eq rfl) (by decide)
  refine go _ _ (st101) ?_
  show G (T101.setTop (mkF m 4 #[.val (.ref a), .val (.ref b), .val (.int (0 : Int32))] []))
  refine go _ _ (fun _ k => XS.aloadN X101.here hx rfl (hb hby own_d31_4) rfl rfl (XS.aloadN X101.here hx rfl (hb hby own_d31_5) rfl rfl k)) ?_
  show G (T101.setTop (mkF m 6 #[.val (.ref a), .val (.ref b), .val (.int (0 : Int32))] [(.ref b), (.ref a)]))
  obtain ⟨T102, h102, X102, e102, W102, st102⟩ := putF X101 hx hZ hown (host := "") (Or.inl (ow hw 32 rfl)) Via.refl e101 Fv Ea (Or.inr ⟨(ow hw 33 rfl), rfl, hnm⟩) (ow hw 5 rfl) (ty := (.array .byte)) (by decide) rfl rfl (g := (mkF m 6 #[.val (.ref a), .val (.ref b), .val (.int (0 : Int32))] [(.ref b), (.ref a)])) rfl rfl (hb hby own_d31_6)
  have N102 := Fr.snoc X102 N0 gz_a
  refine go _ _ (st102) ?_
  show G (T102.setTop (mkF m 9 #[.val (.ref a), .val (.ref b), .val (.int (0 : Int32))] []))
  refine go _ _ (fun _ k => XS.aloadN X102.here hx rfl (hb hby own_d31_9) rfl rfl (XS.iloadN X102.here hx rfl (hb hby own_d31_10) rfl k)) ?_
  show G (T102.setTop (mkF m 11 #[.val (.ref a), .val (.ref b), .val (.int (0 : Int32))] [(.int (0 : Int32)), (.ref a)]))
  obtain ⟨T103, h103, X103, e103, W103, st103⟩ := putF X102 hx hZ hown (host := "") (Or.inl (ow hw 30 rfl)) Via.refl e102 (Fc.other W102 (Or.inr (RoadKit.slot_ne (t := .byte) (t' := (.array .byte)) (Or.inr (ow hw 31 rfl)) (Or.inr (ow hw 33 rfl)) (by decide) (by decide) (by decide)))) (Ea.wr W102) (Or.inr ⟨(ow hw 31 rfl), rfl, hnm⟩) (ow hw 5 rfl) (ty := .byte) (by decide) rfl rfl (g := (mkF m 11 #[.val (.ref a), .val (.ref b), .val (.int (0 : Int32))] [(.int (0 : Int32)), (.ref a)])) rfl rfl (hb hby own_d31_11)
  have N103 := Fr.snoc X103 N102 gz_a
  refine go _ _ (st103) ?_
  show G (T103.setTop (mkF m 14 #[.val (.ref a), .val (.ref b), .val (.int (0 : Int32))] []))
  have K104 : Keep h0 h102 [a] := (Keep.refl h0 [a]).wr W102 (Or.inl (List.mem_of_getElem? (i := 0) rfl))
  have K105 : Keep h0 h103 [a] := K104.wr W103 (Or.inl (List.mem_of_getElem? (i := 0) rfl))
  refine fin T103 _ _ _ none X103 (fun _ => rfl) (by decide) (by decide) (by rw [e103]; exact ⟨N103, K105, ⟨rfl, ((Ea.wr W102).wr W103), ((Fv.same W102).other W103 (Or.inr (RoadKit.slot_ne (t := (.array .byte)) (t' := .byte) (Or.inr (ow hw 33 rfl)) (Or.inr (ow hw 31 rfl)) (by decide) (by decide) (by decide)))), ((Fc.other W102 (Or.inr (RoadKit.slot_ne (t := .byte) (t' := (.array .byte)) (Or.inr (ow hw 31 rfl)) (Or.inr (ow hw 33 rfl)) (by decide) (by decide) (by decide)))).same W103)⟩⟩) _ (own_retV X103 hx hret (hb hby own_d31_14))
theorem own_d32_0 : decode jdk_43_method_47_code 0 = .ok (.iload_n 2, 1) := by decide +kernel
theorem own_d32_1 : decode jdk_43_method_47_code 1 = .ok (.ifCond .ne 6, 3) := by decide +kernel
theorem own_d32_4 : decode jdk_43_method_47_code 4 = .ok (.ldc 151, 2) := by decide +kernel
theorem own_d32_6 : decode jdk_43_method_47_code 6 = .ok (.areturn, 1) := by decide +kernel
theorem own_d32_7 : decode jdk_43_method_47_code 7 = .ok (.new 1, 3) := by decide +kernel
theorem own_d32_10 : decode jdk_43_method_47_code 10 = .ok (.dup, 1) := by decide +kernel
theorem own_d32_11 : decode jdk_43_method_47_code 11 = .ok (.aload_n 0, 1) := by decide +kernel
theorem own_d32_12 : decode jdk_43_method_47_code 12 = .ok (.iload_n 1, 1) := by decide +kernel
theorem own_d32_13 : decode jdk_43_method_47_code 13 = .ok (.iload_n 1, 1) := by decide +kernel
theorem own_d32_14 : decode jdk_43_method_47_code 14 = .ok (.iload_n 2, 1) := by decide +kernel
theorem own_d32_15 : decode jdk_43_method_47_code 15 = .ok (.iadd, 1) := by decide +kernel
theorem own_d32_16 : decode jdk_43_method_47_code 16 = .ok (.invokestatic 232, 3) := by decide +kernel
theorem own_d32_19 : decode jdk_43_method_47_code 19 = .ok (.iconst 0, 1) := by decide +kernel
theorem own_pd10 : parseMethodDescriptor "([BB)V" = some ⟨[(.array .byte), .byte], none⟩ := by decide +kernel
theorem own_d32_20 : decode jdk_43_method_47_code 20 = .ok (.invokespecial 112, 3) := by decide +kernel
theorem own_d32_23 : decode jdk_43_method_47_code 23 = .ok (.areturn, 1) := by decide +kernel
set_option maxHeartbeats 4000000 in
theorem own_ef_rm32 (m : MethodId) (x0 : Addr) (x1 : Int32) (x2 : Int32) : entryFrame m #[(.ref x0), (.int x1), (.int x2)] 3 = mkF m 0 #[.val (.ref x0), .val (.int x1), .val (.int x2)] [] := by rfl
set_option maxRecDepth 65536 in
set_option maxHeartbeats 40000000 in
theorem rm32 (l : Launch) (Z : State) (a0 : Array Value) (hw : ∀ d ∈ tables_1, d.before a0 Z = true) (z0 : Int32) (O2 : Sta Z Z.heap "java/lang/String" "COMPACT_STRINGS" "Z" (.int z0)) (P5 : ¬ z0 = (0 : Int32)) (fm0 : Value) (O4 : Sta Z Z.heap "jdk/internal/util/Preconditions" "SIOOBE_FORMATTER" "Ljava/util/function/BiFunction;" fm0) (R4 : fm0.isRef = true) (ws : List Jvm.Cond) (t : Addr) (b : Int32) (kl : Int32) (kb : ClassId) (vs : List Value) (n : Int32) (h0 : Heap) (n0 : Nat) (Z0 : n0 ≤ h0.size) (Xo : Old Z n0 h0) (At : Arv Z h0 t kb .byte n vs (.int (0 : Int32))) (hbz : ¬ b < (0 : Int32)) (hk : ¬ kl < (0 : Int32)) (hbn : ¬ n < b) (hkn : ¬ n < kl) (hs : ¬ n < (b + kl)) (h3 : ¬ (3 : Int32) < n) (hne : ¬ (b = (0 : Int32) ∧ (b + kl) = n)) :
    own_MetH l Z own_EL (⟨"java/lang/StringLatin1", "newString", "([BII)Ljava/lang/String;"⟩ : MethodName) jdk_43_method_47_code 3 (some (.object "java/lang/String")) ws ({ frames := 3, cells := 2, slots := 7, locals := 59 } : Room) #[(.ref t), (.int b), (.int kl)] h0 (fun v h L => Fr n0 L ∧ Keep h0 h [] ∧ ((∃ (r : Addr), (v = some (.ref r)) ∧ (Exa Z h r "java/lang/String")))) := by
  refine own_metH (plainFor_of_name own_pn2) (own_hEL hw) ?_
  intro p e s m below meth c s₁ G hx hby hml hZ hown hnm hret X0 e0 hS C0 go fin
  have N0 := Fr.nil n0
  refine go _ _ (fun _ k => castTop (own_ef_rm32 m t b kl) k) ?_
  show G (s₁.setTop (mkF m 0 #[.val (.ref t), .val (.int b), .val (.int kl)] []))
  refine go _ _ (fun _ k => XS.iloadN X0.here hx rfl (hb hby own_d32_0) rfl k) ?_
  show G (s₁.setTop (mkF m 1 #[.val (.ref t), .val (.int b), .val (.int kl)] [(.int kl)]))
  by_cases hc1_101 : kl = (0 : Int32)
  · refine go _ _ (fun _ k => XS.ifNo X0.here hx rfl (hb hby own_d32_1) rfl ((if0 _ _).trans (teq hc1_101).2) k) ?_
    show G (s₁.setTop (mkF m 4 #[.val (.ref t), .val (.int b), .val (.int kl)] []))
    obtain ⟨b102, T102, h102, k102, t102, kb102, X102, e102, E102, hS102, hk102, hZ102, hown102, A102, Fc102, Fv102, V102, -, -, C102, -, -, st102⟩ := ldcCH X0 hx hZ hown (ow hw 173 rfl) (own_sat hw) e0 hS (Nat.le_refl _) (own_hEL hw) (List.mem_of_getElem? (i := 2) rfl) C0.1 (vs := []) (z := (0 : Int32)) (by decide) (by decide) (by decide) (g := (mkF m 4 #[.val (.ref t), .val (.int b), .val (.int kl)] [])) rfl (hb hby own_d32_4) (n := 0) (by decide) (by decide) (by decide) (by decide)
    have Sx102 : own_Str Z h102 b102 ([] : List Int32) := ⟨t102, kb102, A102, Fv102, Fc102, V102, (by decide), (by decide)⟩
    have Lx102 : own_Ln Z h102 b102 (0 : Int32) := own_Ln_of Sx102 (by decide)
    refine go _ _ (st102) ?_
    show G (T102.setTop (mkF m 6 #[.val (.ref t), .val (.int b), .val (.int kl)] [(.ref b102)]))
    have K103 : Keep h0 h102 [] := (Keep.refl h0 []).ext E102
    have C104 : CHr Z own_EL s.vm h0 T102.vm h102 := C0.trans C102
    refine fin T102 _ _ _ (some (.ref b102)) T102.vm _ X102 hZ102 hS102 (by rw [e102]; exact hk102) (by rw [e102]; exact C104) (fun q => nomatch q) (by decide) (by decide) (by rw [e102]; exact ⟨N0, K103, ⟨b102, rfl, A102⟩⟩) _ (own_retA X102 hx hret rfl rfl rfl (hb hby own_d32_6))
  · refine go _ _ (fun _ k => XS.ifYes X0.here hx rfl (pc0 := 1) (pc' := 7) rfl (hb hby own_d32_1) rfl ((if0 _ _).trans (feq hc1_101).2) (by decide) (by decide) k) ?_
    show G (s₁.setTop (mkF m 7 #[.val (.ref t), .val (.int b), .val (.int kl)] []))
    obtain ⟨T105, h105, X105, e105, E105, A105, D105, -, st105⟩ := newO X0 hx hZ hown (ow hw 174 rfl) (ow hw 5 rfl) (ow hw 6 rfl) e0 (g := (mkF m 7 #[.val (.ref t), .val (.int b), .val (.int kl)] [])) rfl (hb hby own_d32_7) (by decide) (by decide)
    obtain ⟨b105, g105⟩ : ∃ z, z = h0.size := ⟨_, rfl⟩
    rw [← g105] at A105 D105 st105
    refine go _ _ (st105) ?_
    show G (T105.setTop (mkF m 10 #[.val (.ref t), .val (.int b), .val (.int kl)] [(.ref b105)]))
    refine go _ _ (fun _ k => XS.dup X105.here hx rfl (hb hby own_d32_10) rfl rfl (XS.aloadN X105.here hx rfl (hb hby own_d32_11) rfl rfl (XS.iloadN X105.here hx rfl (hb hby own_d32_12) rfl (XS.iloadN X105.here hx rfl (hb hby own_d32_13) rfl (XS.iloadN X105.here hx rfl (hb hby own_d32_14) rfl (XS.iadd X105.here hx rfl (hb hby own_d32_15) rfl k)))))) ?_
    show G (T105.setTop (mkF m 16 #[.val (.ref t), .val (.int b), .val (.int kl)] [(.int (b + kl)), (.int b), (.ref t), (.ref b105), (.ref b105)]))
    have K107 : Keep h0 h105 [] := (Keep.refl h0 []).ext E105
    have F108 : Arv Z h105 t kb .byte n vs (.int (0 : Int32)) := (At.keep K107 nin0)
    have ha109 : ¬ (b + kl) < b := by
      have ar0 := own_rg b
      have ar1 := own_rg kl
      have ar2 := c_iadd b kl
      have ar3 := own_rg (b + kl)
      have ar4 : (0 : Int32).toInt = 0 := rfl
      have ar5 := own_rg n
      have ar6 : (3 : Int32).toInt = 3 := rfl
      have hy0 := own_nl hbz
      have hy1 := own_nl hk
      have hy2 := own_nl hbn
      have hy3 := own_nl hkn
      have hy4 := own_nl hs
      have hy5 := own_nl h3
      have hy6 := own_nei hc1_101
      exact own_nl' (by omega)
    have Z110 : h0.size ≤ h105.size := E105.1
    obtain ⟨rv106, T106, L106, X106, q106, st106⟩ := own_st X105 hx hZ (y := (⟨"java/util/Arrays", "copyOfRange", "([BII)[B"⟩ : MethodName)) hown (ow hw 175 rfl) (ow hw 176 rfl) (ow hw 177 rfl) (ow hw 178 rfl) (by decide) (own_bkN (W := 2) (rm33 l Z a0 hw z0 O2 P5 fm0 O4 R4 [] t b (b + kl) kb vs n h105 n0 (Nat.le_trans Z0 Z110) F108 hbz ha109 hs h3 hne) hZ (ow hw 178 rfl) (ow hw 177 rfl) (by decide) (by decide)) e105 (g := (mkF m 16 #[.val (.ref t), .val (.int b), .val (.int kl)] [(.int (b + kl)), (.int b), (.ref t), (.ref b105), (.ref b105)])) rfl (by rw [hml]; rfl) (argsL := [(.ref t), (.int b), (.int (b + kl))]) (rest := [(.ref b105), (.ref b105)]) rfl (lenOf own_pd9 rfl) rfl (by show 2 * 0 + _ ≤ _; exact Nat.le_of_eq rfl) (hb hby own_d32_16) (by decide) (by decide)
    obtain ⟨Nq106, Kp106, ⟨r_111, rfl, z112⟩⟩ := q106
    have N106 := Fr.app N0 Nq106
    refine go _ _ (st106) ?_
    show G (T106.setTop (mkF m 19 #[.val (.ref t), .val (.int b), .val (.int kl)] [(.ref r_111), (.ref b105), (.ref b105)]))
    refine go _ _ (fun _ k => XS.iconst X106.here hx rfl (hb hby own_d32_19) k) ?_
    show G (T106.setTop (mkF m 20 #[.val (.ref t), .val (.int b), .val (.int kl)] [(.int (0 : Int32)), (.ref r_111), (.ref b105), (.ref b105)]))
    have K114 : Keep h105 T106.heap [] := (Keep.refl h105 []).trans Kp106 all0
    have F115 : Exa Z T106.heap b105 "java/lang/String" := (A105.keep K114)
    have F116 : Fld Z T106.heap b105 "java/lang/String" "value" "[B" .null := ((D105 (Or.inr (ow hw 33 rfl)) (ty := (.array .byte)) (by decide)).keep K114 nin0)
    have F117 : Fld Z T106.heap b105 "java/lang/String" "coder" "B" (.int (0 : Int32)) := ((D105 (Or.inr (ow hw 31 rfl)) (ty := .byte) (by decide)).keep K114 nin0)
    have Z118 : h0.size ≤ T106.heap.size := Nat.le_trans Z110 Kp106.1
    obtain ⟨rv113, T113, L113, X113, q113, st113⟩ := own_sp X106 hx hZ (y := (⟨"java/lang/String", "<init>", "([BB)V"⟩ : MethodName)) rfl hown (ow hw 190 rfl) (ow hw 167 rfl) (ow hw 168 rfl) (by decide) (own_bkN (W := 1) (rm31 l Z a0 hw z0 O2 P5 fm0 O4 R4 [] b105 r_111 T106.heap n0 (Nat.le_trans Z0 Z118) F115 F116 F117 (Nat.le_trans Z0 (Nat.le_of_eq g105.symm))) hZ (ow hw 168 rfl) (ow hw 6 rfl) (by decide) (by decide)) rfl (g := (mkF m 20 #[.val (.ref t), .val (.int b), .val (.int kl)] [(.int (0 : Int32)), (.ref r_111), (.ref b105), (.ref b105)])) rfl (by rw [hml]; rfl) (a := b105) (argsL := [(.ref r_111), (.int (0 : Int32))]) (rest := [(.ref b105)]) rfl (lenOf own_pd10 rfl) rfl (by show 2 * 0 + _ ≤ _; exact Nat.le_of_eq rfl) (hb hby own_d32_20) (by decide) (by decide)
    obtain ⟨Nq113, Kp113, ⟨rfl, f119, f120, f121⟩⟩ := q113
    have N113 := Fr.app N106 Nq113
    refine go _ _ (st113) ?_
    show G (T113.setTop (mkF m 23 #[.val (.ref t), .val (.int b), .val (.int kl)] [(.ref b105)]))
    have K122 : Keep h0 T106.heap [] := K107.trans Kp106 all0
    have K123 : Keep h0 T113.heap [] := K122.trans Kp113 (allS (Or.inr (Nat.le_of_eq g105.symm)) all0)
    have C124 : CHr Z own_EL s.vm h0 s.vm T113.heap := C0.trans (CHr.keep K123 sf0 C0.1)
    have Z125 : h0.size ≤ T113.heap.size := Nat.le_trans Z118 Kp113.1
    refine fin T113 _ _ _ (some (.ref b105)) s.vm _ X113 hZ hS Z125 C124 (fun q => nomatch q) (by decide) (by decide) ⟨N113, K123, ⟨b105, rfl, f119⟩⟩ _ (own_retA X113 hx hret rfl rfl rfl (hb hby own_d32_23))
theorem own_d25_0 : decode jdk_42_method_92_code 0 = .ok (.aload_n 0, 1) := by decide +kernel
theorem own_d25_1 : decode jdk_42_method_92_code 1 = .ok (.invokevirtual 505, 3) := by decide +kernel
theorem own_d25_4 : decode jdk_42_method_92_code 4 = .ok (.istore_n 3, 1) := by decide +kernel
theorem own_d25_5 : decode jdk_42_method_92_code 5 = .ok (.iload_n 1, 1) := by decide +kernel
theorem own_d25_6 : decode jdk_42_method_92_code 6 = .ok (.iload_n 2, 1) := by decide +kernel
theorem own_d25_7 : decode jdk_42_method_92_code 7 = .ok (.iload_n 3, 1) := by decide +kernel
theorem own_pd11 : parseMethodDescriptor "(III)V" = some ⟨[.int, .int, .int], none⟩ := by decide +kernel
theorem own_d25_8 : decode jdk_42_method_92_code 8 = .ok (.invokestatic 521, 3) := by decide +kernel
theorem own_d25_11 : decode jdk_42_method_92_code 11 = .ok (.iload_n 1, 1) := by decide +kernel
theorem own_d25_12 : decode jdk_42_method_92_code 12 = .ok (.ifCond .ne 10, 3) := by decide +kernel
theorem own_d25_15 : decode jdk_42_method_92_code 15 = .ok (.iload_n 2, 1) := by decide +kernel
theorem own_d25_16 : decode jdk_42_method_92_code 16 = .ok (.iload_n 3, 1) := by decide +kernel
theorem own_d25_17 : decode jdk_42_method_92_code 17 = .ok (.if_icmp .ne 5, 3) := by decide +kernel
theorem own_d25_20 : decode jdk_42_method_92_code 20 = .ok (.aload_n 0, 1) := by decide +kernel
theorem own_d25_21 : decode jdk_42_method_92_code 21 = .ok (.areturn, 1) := by decide +kernel
theorem own_d25_22 : decode jdk_42_method_92_code 22 = .ok (.iload_n 2, 1) := by decide +kernel
theorem own_d25_23 : decode jdk_42_method_92_code 23 = .ok (.iload_n 1, 1) := by decide +kernel
theorem own_d25_24 : decode jdk_42_method_92_code 24 = .ok (.isub, 1) := by decide +kernel
theorem own_d25_25 : decode jdk_42_method_92_code 25 = .ok (.istore 4, 2) := by decide +kernel
theorem own_d25_27 : decode jdk_42_method_92_code 27 = .ok (.aload_n 0, 1) := by decide +kernel
theorem own_d25_28 : decode jdk_42_method_92_code 28 = .ok (.invokevirtual 492, 3) := by decide +kernel
theorem own_d25_31 : decode jdk_42_method_92_code 31 = .ok (.ifCond .eq 16, 3) := by decide +kernel
theorem own_d25_34 : decode jdk_42_method_92_code 34 = .ok (.aload_n 0, 1) := by decide +kernel
theorem own_d25_35 : decode jdk_42_method_92_code 35 = .ok (.getfield 9, 3) := by decide +kernel
theorem own_d25_38 : decode jdk_42_method_92_code 38 = .ok (.iload_n 1, 1) := by decide +kernel
theorem own_d25_39 : decode jdk_42_method_92_code 39 = .ok (.iload 4, 2) := by decide +kernel
theorem own_pd12 : parseMethodDescriptor "([BII)Ljava/lang/String;" = some ⟨[(.array .byte), .int, .int], some (.object "java/lang/String")⟩ := by decide +kernel
theorem own_d25_41 : decode jdk_42_method_92_code 41 = .ok (.invokestatic 685, 3) := by decide +kernel
theorem own_d25_44 : decode jdk_42_method_92_code 44 = .ok (.goto 13, 3) := by decide +kernel
theorem own_d25_57 : decode jdk_42_method_92_code 57 = .ok (.areturn, 1) := by decide +kernel
set_option maxHeartbeats 4000000 in
theorem own_ef_rm25 (m : MethodId) (x0 : Addr) (x1 : Int32) (x2 : Int32) : entryFrame m #[(.ref x0), (.int x1), (.int x2)] 5 = mkF m 0 #[.val (.ref x0), .val (.int x1), .val (.int x2), .unset, .unset] [] := by rfl
set_option maxRecDepth 65536 in
set_option maxHeartbeats 40000000 in
theorem rm25 (l : Launch) (Z : State) (a0 : Array Value) (hw : ∀ d ∈ tables_1, d.before a0 Z = true) (z0 : Int32) (O2 : Sta Z Z.heap "java/lang/String" "COMPACT_STRINGS" "Z" (.int z0)) (P5 : ¬ z0 = (0 : Int32)) (fm0 : Value) (O4 : Sta Z Z.heap "jdk/internal/util/Preconditions" "SIOOBE_FORMATTER" "Ljava/util/function/BiFunction;" fm0) (R4 : fm0.isRef = true) (ws : List Jvm.Cond) (a : Addr) (b : Int32) (en : Int32) (n : Int32) (h0 : Heap) (n0 : Nat) (Z0 : n0 ≤ h0.size) (Xo : Old Z n0 h0) (La : own_Ln Z h0 a n) (hbz : ¬ b < (0 : Int32)) (he : ¬ en < b) (hn : ¬ n < en) :
    own_MetH l Z own_EL (⟨"java/lang/String", "substring", "(II)Ljava/lang/String;"⟩ : MethodName) jdk_42_method_92_code 5 (some (.object "java/lang/String")) ws ({ frames := 4, cells := 2, slots := 7, locals := 73 } : Room) #[(.ref a), (.int b), (.int en)] h0 (fun v h L => Fr n0 L ∧ Keep h0 h [] ∧ ((∃ (r : Addr), (v = some (.ref r)) ∧ (Exa Z h r "java/lang/String")))) := by
  refine own_metH (plainFor_of_name own_pn0) (own_hEL hw) ?_
  intro p e s m below meth c s₁ G hx hby hml hZ hown hnm hret X0 e0 hS C0 go fin
  have N0 := Fr.nil n0
  refine go _ _ (fun _ k => castTop (own_ef_rm25 m a b en) k) ?_
  show G (s₁.setTop (mkF m 0 #[.val (.ref a), .val (.int b), .val (.int en), .unset, .unset] []))
  obtain ⟨t101, kb101, vs101, Es101, Vs101, Cs101, As101, lo101, hi101⟩ := id La
  refine go _ _ (fun _ k => XS.aloadN X0.here hx rfl (hb hby own_d25_0) rfl rfl k) ?_
  show G (s₁.setTop (mkF m 1 #[.val (.ref a), .val (.int b), .val (.int en), .unset, .unset] [(.ref a)]))
  obtain ⟨rv102, T102, L102, X102, q102, st102⟩ := own_vi X0 hx hZ (y := (⟨"java/lang/String", "length", "()I"⟩ : MethodName)) (z := (⟨"java/lang/String", "length", "()I"⟩ : MethodName)) hown (ow hw 102 rfl) (ow hw 103 rfl) (ow hw 105 rfl) (ow hw 104 rfl) (Or.inl rfl) (by decide) (own_bkN (W := 0) (rm15 l Z a0 hw z0 O2 P5 fm0 O4 R4 [] a n h0 n0 Z0 Xo La) hZ (ow hw 106 rfl) (ow hw 6 rfl) (by decide) (by decide)) e0 Es101 (g := (mkF m 1 #[.val (.ref a), .val (.int b), .val (.int en), .unset, .unset] [(.ref a)])) rfl (by rw [hml]; rfl) (argsL := []) (rest := []) rfl (lenOf own_pd5 rfl) rfl (by show 2 * 0 + _ ≤ _; exact Nat.le_of_eq rfl) (hb hby own_d25_1) (by decide) (by decide)
  obtain ⟨Nq102, e102, rfl⟩ := q102
  have N102 := Fr.app N0 Nq102
  refine go _ _ (st102) ?_
  show G (T102.setTop (mkF m 4 #[.val (.ref a), .val (.int b), .val (.int en), .unset, .unset] [(.int n)]))
  refine go _ _ (fun _ k => XS.istoreN X102.here hx rfl (hb hby own_d25_4) rfl (l' := #[.val (.ref a), .val (.int b), .val (.int en), .val (.int n), .unset]) rfl (XS.iloadN X102.here hx rfl (hb hby own_d25_5) rfl (XS.iloadN X102.here hx rfl (hb hby own_d25_6) rfl (XS.iloadN X102.here hx rfl (hb hby own_d25_7) rfl k)))) ?_
  show G (T102.setTop (mkF m 8 #[.val (.ref a), .val (.int b), .val (.int en), .val (.int n), .unset] [(.int n), (.int en), (.int b)]))
  obtain ⟨rv103, T103, L103, X103, q103, st103⟩ := own_st X102 hx hZ (y := (⟨"java/lang/String", "checkBoundsBeginEnd", "(III)V"⟩ : MethodName)) hown (ow hw 149 rfl) (ow hw 150 rfl) (ow hw 6 rfl) (ow hw 151 rfl) (by decide) (own_bkN (W := 0) (rm26 l Z a0 hw z0 O2 P5 fm0 O4 R4 [] b en n h0 n0 Z0 Xo hbz he hn) hZ (ow hw 151 rfl) (ow hw 6 rfl) (by decide) (by decide)) e102 (g := (mkF m 8 #[.val (.ref a), .val (.int b), .val (.int en), .val (.int n), .unset] [(.int n), (.int en), (.int b)])) rfl (by rw [hml]; rfl) (argsL := [(.int b), (.int en), (.int n)]) (rest := []) rfl (lenOf own_pd11 rfl) rfl (by show 2 * 0 + _ ≤ _; exact Nat.le_of_eq rfl) (hb hby own_d25_8) (by decide) (by decide)
  obtain ⟨Nq103, e103, rfl⟩ := q103
  have N103 := Fr.app N102 Nq103
  refine go _ _ (st103) ?_
  show G (T103.setTop (mkF m 11 #[.val (.ref a), .val (.int b), .val (.int en), .val (.int n), .unset] []))
  refine go _ _ (fun _ k => XS.iloadN X103.here hx rfl (hb hby own_d25_11) rfl k) ?_
  show G (T103.setTop (mkF m 12 #[.val (.ref a), .val (.int b), .val (.int en), .val (.int n), .unset] [(.int b)]))
  by_cases hc12_104 : b = (0 : Int32)
  · refine go _ _ (fun _ k => XS.ifNo X103.here hx rfl (hb hby own_d25_12) rfl ((if0 _ _).trans (teq hc12_104).2) k) ?_
    show G (T103.setTop (mkF m 15 #[.val (.ref a), .val (.int b), .val (.int en), .val (.int n), .unset] []))
    refine go _ _ (fun _ k => XS.iloadN X103.here hx rfl (hb hby own_d25_15) rfl (XS.iloadN X103.here hx rfl (hb hby own_d25_16) rfl k)) ?_
    show G (T103.setTop (mkF m 17 #[.val (.ref a), .val (.int b), .val (.int en), .val (.int n), .unset] [(.int n), (.int en)]))
    by_cases hc17_105 : en = n
    · refine go _ _ (fun _ k => XS.icmpNo X103.here hx rfl (hb hby own_d25_17) rfl (teq hc17_105).2 k) ?_
      show G (T103.setTop (mkF m 20 #[.val (.ref a), .val (.int b), .val (.int en), .val (.int n), .unset] []))
      refine go _ _ (fun _ k => XS.aloadN X103.here hx rfl (hb hby own_d25_20) rfl rfl k) ?_
      show G (T103.setTop (mkF m 21 #[.val (.ref a), .val (.int b), .val (.int en), .val (.int n), .unset] [(.ref a)]))
      refine fin T103 _ _ _ (some (.ref a)) s.vm _ X103 hZ hS (by rw [e103]; exact (Nat.le_refl _)) (by rw [e103]; exact C0) (fun q => nomatch q) (by decide) (by decide) (by rw [e103]; exact ⟨N103, (Keep.refl h0 []), ⟨a, rfl, Es101⟩⟩) _ (own_retA X103 hx hret rfl rfl rfl (hb hby own_d25_21))
    · refine go _ _ (fun _ k => XS.icmpYes X103.here hx rfl (pc0 := 17) (pc' := 22) rfl (hb hby own_d25_17) rfl (feq hc17_105).2 (by decide) (by decide) k) ?_
      show G (T103.setTop (mkF m 22 #[.val (.ref a), .val (.int b), .val (.int en), .val (.int n), .unset] []))
      refine go _ _ (fun _ k => XS.iloadN X103.here hx rfl (hb hby own_d25_22) rfl (XS.iloadN X103.here hx rfl (hb hby own_d25_23) rfl (XS.isub X103.here hx rfl (hb hby own_d25_24) rfl (XS.istore X103.here hx rfl (hb hby own_d25_25) rfl (l' := #[.val (.ref a), .val (.int b), .val (.int en), .val (.int n), .val (.int (en - b))]) rfl (XS.aloadN X103.here hx rfl (hb hby own_d25_27) rfl rfl k))))) ?_
      show G (T103.setTop (mkF m 28 #[.val (.ref a), .val (.int b), .val (.int en), .val (.int n), .val (.int (en - b))] [(.ref a)]))
      obtain ⟨rv106, T106, L106, X106, q106, st106⟩ := own_vi X103 hx hZ (y := (⟨"java/lang/String", "isLatin1", "()Z"⟩ : MethodName)) (z := (⟨"java/lang/String", "isLatin1", "()Z"⟩ : MethodName)) hown (ow hw 97 rfl) (ow hw 98 rfl) (ow hw 100 rfl) (ow hw 99 rfl) (Or.inl rfl) (by decide) (own_bkN (W := 0) (rm14 l Z a0 hw z0 O2 P5 fm0 O4 R4 [] a h0 n0 Z0 Xo Cs101) hZ (ow hw 101 rfl) (ow hw 6 rfl) (by decide) (by decide)) e103 Es101 (g := (mkF m 28 #[.val (.ref a), .val (.int b), .val (.int en), .val (.int n), .val (.int (en - b))] [(.ref a)])) rfl (by rw [hml]; rfl) (argsL := []) (rest := []) rfl (lenOf own_pd4 rfl) rfl (by show 2 * 0 + _ ≤ _; exact Nat.le_of_eq rfl) (hb hby own_d25_28) (by decide) (by decide)
      obtain ⟨Nq106, e106, rfl⟩ := q106
      have N106 := Fr.app N103 Nq106
      refine go _ _ (st106) ?_
      show G (T106.setTop (mkF m 31 #[.val (.ref a), .val (.int b), .val (.int en), .val (.int n), .val (.int (en - b))] [(.int (1 : Int32))]))
      refine go _ _ (fun _ k => XS.ifNo X106.here hx rfl (hb hby own_d25_31) rfl (by decide) k) ?_
      show G (T106.setTop (mkF m 34 #[.val (.ref a), .val (.int b), .val (.int en), .val (.int n), .val (.int (en - b))] []))
      refine go _ _ (fun _ k => XS.aloadN X106.here hx rfl (hb hby own_d25_34) rfl rfl k) ?_
      show G (T106.setTop (mkF m 35 #[.val (.ref a), .val (.int b), .val (.int en), .val (.int n), .val (.int (en - b))] [(.ref a)]))
      obtain ⟨T107, X107, e107, st107⟩ := getF X106 hx hZ hown (host := "") (Or.inl (ow hw 32 rfl)) Via.refl e106 Vs101 (g := (mkF m 35 #[.val (.ref a), .val (.int b), .val (.int en), .val (.int n), .val (.int (en - b))] [(.ref a)])) rfl rfl (hb hby own_d25_35)
      refine go _ _ (st107) ?_
      show G (T107.setTop (mkF m 38 #[.val (.ref a), .val (.int b), .val (.int en), .val (.int n), .val (.int (en - b))] [(.ref t101)]))
      refine go _ _ (fun _ k => XS.iloadN X107.here hx rfl (hb hby own_d25_38) rfl (XS.iload X107.here hx rfl (hb hby own_d25_39) rfl k)) ?_
      show G (T107.setTop (mkF m 41 #[.val (.ref a), .val (.int b), .val (.int en), .val (.int n), .val (.int (en - b))] [(.int (en - b)), (.int b), (.ref t101)]))
      have ha109 : ¬ (en - b) < (0 : Int32) := by
        have ar0 := own_rg en
        have ar1 := own_rg b
        have ar2 := c_isub en b
        have ar3 := own_rg (en - b)
        have ar4 : (0 : Int32).toInt = 0 := rfl
        have ar5 := own_rg n
        have ar6 : (3 : Int32).toInt = 3 := rfl
        have hy0 := own_nl hbz
        have hy1 := own_nl he
        have hy2 := own_nl hn
        have hy3 := own_nl lo101
        have hy4 := own_nl hi101
        have hy5 := own_ei hc12_104
        have hy6 := own_nei hc17_105
        exact own_nl' (by omega)
      have ha110 : ¬ n < b := by
        have ar0 := own_rg n
        have ar1 := own_rg b
        have ar2 : (0 : Int32).toInt = 0 := rfl
        have ar3 := own_rg en
        have ar4 : (3 : Int32).toInt = 3 := rfl
        have ar5 := c_isub en b
        have ar6 := own_rg (en - b)
        have hy0 := own_nl hbz
        have hy1 := own_nl he
        have hy2 := own_nl hn
        have hy3 := own_nl lo101
        have hy4 := own_nl hi101
        have hy5 := own_ei hc12_104
        have hy6 := own_nei hc17_105
        have hy7 := own_nl ha109
        exact own_nl' (by omega)
      have ha111 : ¬ n < (en - b) := by
        have ar0 := own_rg n
        have ar1 := own_rg en
        have ar2 := own_rg b
        have ar3 := c_isub en b
        have ar4 := own_rg (en - b)
        have ar5 : (0 : Int32).toInt = 0 := rfl
        have ar6 : (3 : Int32).toInt = 3 := rfl
        have hy0 := own_nl hbz
        have hy1 := own_nl he
        have hy2 := own_nl hn
        have hy3 := own_nl lo101
        have hy4 := own_nl hi101
        have hy5 := own_ei hc12_104
        have hy6 := own_nei hc17_105
        have hy7 := own_nl ha109
        have hy8 := own_nl ha110
        exact own_nl' (by omega)
      have ha112 : ¬ n < (b + (en - b)) := by
        have ar0 := own_rg n
        have ar1 := own_rg b
        have ar2 := own_rg en
        have ar3 := c_isub en b
        have ar4 := own_rg (en - b)
        have ar5 := c_iadd b (en - b)
        have ar6 := own_rg (b + (en - b))
        have ar7 : (0 : Int32).toInt = 0 := rfl
        have ar8 : (3 : Int32).toInt = 3 := rfl
        have hy0 := own_nl hbz
        have hy1 := own_nl he
        have hy2 := own_nl hn
        have hy3 := own_nl lo101
        have hy4 := own_nl hi101
        have hy5 := own_ei hc12_104
        have hy6 := own_nei hc17_105
        have hy7 := own_nl ha109
        have hy8 := own_nl ha110
        have hy9 := own_nl ha111
        exact own_nl' (by omega)
      have hq113 : ¬ (b = (0 : Int32) ∧ (b + (en - b)) = n) := fun q => by
        have ar0 := own_rg b
        have ar1 := own_rg en
        have ar2 := c_isub en b
        have ar3 := own_rg (en - b)
        have ar4 := c_iadd b (en - b)
        have ar5 := own_rg (b + (en - b))
        have ar6 := own_rg n
        have ar7 : (0 : Int32).toInt = 0 := rfl
        have ar8 : (3 : Int32).toInt = 3 := rfl
        have hy0 := own_nl hbz
        have hy1 := own_nl he
        have hy2 := own_nl hn
        have hy3 := own_nl lo101
        have hy4 := own_nl hi101
        have hy5 := own_ei hc12_104
        have hy6 := own_nei hc17_105
        have hy7 := own_nl ha109
        have hy8 := own_nl ha110
        have hy9 := own_nl ha111
        have hy10 := own_nl ha112
        have q2 := own_ei q.2
        omega
      obtain ⟨rv108, T108, L108, X108, q108, hZ108, hown108, hS108, C108, st108⟩ := own_stW X107 hx hZ (y := (⟨"java/lang/StringLatin1", "newString", "([BII)Ljava/lang/String;"⟩ : MethodName)) hown (ow hw 170 rfl) (ow hw 171 rfl) (ow hw 83 rfl) (ow hw 172 rfl) (by decide) (own_bkH (W := 0) (rm32 l Z a0 hw z0 O2 P5 fm0 O4 R4 [] t101 b (en - b) kb101 vs101 n h0 n0 Z0 Xo As101 hbz ha109 ha110 ha111 ha112 hi101 hq113) hZ (ow hw 172 rfl) (ow hw 83 rfl) (by decide) (by decide) (own_hEL hw) C0.1) e107 hS (Nat.le_refl _) (g := (mkF m 41 #[.val (.ref a), .val (.int b), .val (.int en), .val (.int n), .val (.int (en - b))] [(.int (en - b)), (.int b), (.ref t101)])) rfl (by rw [hml]; rfl) (argsL := [(.ref t101), (.int b), (.int (en - b))]) (rest := []) rfl (lenOf own_pd12 rfl) rfl (by show 2 * 0 + _ ≤ _; exact Nat.le_of_eq rfl) (hb hby own_d25_41) (by decide) (by decide)
      obtain ⟨Nq108, Kp108, ⟨r_114, rfl, f115⟩⟩ := q108
      have N108 := Fr.app N106 Nq108
      refine go _ _ (st108) ?_
      show G (T108.setTop (mkF m 44 #[.val (.ref a), .val (.int b), .val (.int en), .val (.int n), .val (.int (en - b))] [(.ref r_114)]))
      refine go _ _ (fun _ k => XS.goto X108.here hx rfl (pc0 := 44) (pc' := 57) rfl (hb hby own_d25_44) (by decide) (by decide) k) ?_
      show G (T108.setTop (mkF m 57 #[.val (.ref a), .val (.int b), .val (.int en), .val (.int n), .val (.int (en - b))] [(.ref r_114)]))
      have K116 : Keep h0 T108.heap [] := (Keep.refl h0 []).trans Kp108 all0
      have C117 : CHr Z own_EL s.vm h0 T108.vm T108.heap := C0.trans C108
      refine fin T108 _ _ _ (some (.ref r_114)) T108.vm _ X108 hZ108 hS108 (Nat.le_refl _) C117 (fun q => nomatch q) (by decide) (by decide) ⟨N108, K116, ⟨r_114, rfl, f115⟩⟩ _ (own_retA X108 hx hret rfl rfl rfl (hb hby own_d25_57))
  · refine go _ _ (fun _ k => XS.ifYes X103.here hx rfl (pc0 := 12) (pc' := 22) rfl (hb hby own_d25_12) rfl ((if0 _ _).trans (feq hc12_104).2) (by decide) (by decide) k) ?_
    show G (T103.setTop (mkF m 22 #[.val (.ref a), .val (.int b), .val (.int en), .val (.int n), .unset] []))
    refine go _ _ (fun _ k => XS.iloadN X103.here hx rfl (hb hby own_d25_22) rfl (XS.iloadN X103.here hx rfl (hb hby own_d25_23) rfl (XS.isub X103.here hx rfl (hb hby own_d25_24) rfl (XS.istore X103.here hx rfl (hb hby own_d25_25) rfl (l' := #[.val (.ref a), .val (.int b), .val (.int en), .val (.int n), .val (.int (en - b))]) rfl (XS.aloadN X103.here hx rfl (hb hby own_d25_27) rfl rfl k))))) ?_
    show G (T103.setTop (mkF m 28 #[.val (.ref a), .val (.int b), .val (.int en), .val (.int n), .val (.int (en - b))] [(.ref a)]))
    obtain ⟨rv118, T118, L118, X118, q118, st118⟩ := own_vi X103 hx hZ (y := (⟨"java/lang/String", "isLatin1", "()Z"⟩ : MethodName)) (z := (⟨"java/lang/String", "isLatin1", "()Z"⟩ : MethodName)) hown (ow hw 97 rfl) (ow hw 98 rfl) (ow hw 100 rfl) (ow hw 99 rfl) (Or.inl rfl) (by decide) (own_bkN (W := 0) (rm14 l Z a0 hw z0 O2 P5 fm0 O4 R4 [] a h0 n0 Z0 Xo Cs101) hZ (ow hw 101 rfl) (ow hw 6 rfl) (by decide) (by decide)) e103 Es101 (g := (mkF m 28 #[.val (.ref a), .val (.int b), .val (.int en), .val (.int n), .val (.int (en - b))] [(.ref a)])) rfl (by rw [hml]; rfl) (argsL := []) (rest := []) rfl (lenOf own_pd4 rfl) rfl (by show 2 * 0 + _ ≤ _; exact Nat.le_of_eq rfl) (hb hby own_d25_28) (by decide) (by decide)
    obtain ⟨Nq118, e118, rfl⟩ := q118
    have N118 := Fr.app N103 Nq118
    refine go _ _ (st118) ?_
    show G (T118.setTop (mkF m 31 #[.val (.ref a), .val (.int b), .val (.int en), .val (.int n), .val (.int (en - b))] [(.int (1 : Int32))]))
    refine go _ _ (fun _ k => XS.ifNo X118.here hx rfl (hb hby own_d25_31) rfl (by decide) k) ?_
    show G (T118.setTop (mkF m 34 #[.val (.ref a), .val (.int b), .val (.int en), .val (.int n), .val (.int (en - b))] []))
    refine go _ _ (fun _ k => XS.aloadN X118.here hx rfl (hb hby own_d25_34) rfl rfl k) ?_
    show G (T118.setTop (mkF m 35 #[.val (.ref a), .val (.int b), .val (.int en), .val (.int n), .val (.int (en - b))] [(.ref a)]))
    obtain ⟨T119, X119, e119, st119⟩ := getF X118 hx hZ hown (host := "") (Or.inl (ow hw 32 rfl)) Via.refl e118 Vs101 (g := (mkF m 35 #[.val (.ref a), .val (.int b), .val (.int en), .val (.int n), .val (.int (en - b))] [(.ref a)])) rfl rfl (hb hby own_d25_35)
    refine go _ _ (st119) ?_
    show G (T119.setTop (mkF m 38 #[.val (.ref a), .val (.int b), .val (.int en), .val (.int n), .val (.int (en - b))] [(.ref t101)]))
    refine go _ _ (fun _ k => XS.iloadN X119.here hx rfl (hb hby own_d25_38) rfl (XS.iload X119.here hx rfl (hb hby own_d25_39) rfl k)) ?_
    show G (T119.setTop (mkF m 41 #[.val (.ref a), .val (.int b), .val (.int en), .val (.int n), .val (.int (en - b))] [(.int (en - b)), (.int b), (.ref t101)]))
    have ha121 : ¬ (en - b) < (0 : Int32) := by
      have ar0 := own_rg en
      have ar1 := own_rg b
      have ar2 := c_isub en b
      have ar3 := own_rg (en - b)
      have ar4 : (0 : Int32).toInt = 0 := rfl
      have ar5 := own_rg n
      have ar6 : (3 : Int32).toInt = 3 := rfl
      have hy0 := own_nl hbz
      have hy1 := own_nl he
      have hy2 := own_nl hn
      have hy3 := own_nl lo101
      have hy4 := own_nl hi101
      have hy5 := own_nei hc12_104
      exact own_nl' (by omega)
    have ha122 : ¬ n < b := by
      have ar0 := own_rg n
      have ar1 := own_rg b
      have ar2 : (0 : Int32).toInt = 0 := rfl
      have ar3 := own_rg en
      have ar4 : (3 : Int32).toInt = 3 := rfl
      have ar5 := c_isub en b
      have ar6 := own_rg (en - b)
      have hy0 := own_nl hbz
      have hy1 := own_nl he
      have hy2 := own_nl hn
      have hy3 := own_nl lo101
      have hy4 := own_nl hi101
      have hy5 := own_nei hc12_104
      have hy6 := own_nl ha121
      exact own_nl' (by omega)
    have ha123 : ¬ n < (en - b) := by
      have ar0 := own_rg n
      have ar1 := own_rg en
      have ar2 := own_rg b
      have ar3 := c_isub en b
      have ar4 := own_rg (en - b)
      have ar5 : (0 : Int32).toInt = 0 := rfl
      have ar6 : (3 : Int32).toInt = 3 := rfl
      have hy0 := own_nl hbz
      have hy1 := own_nl he
      have hy2 := own_nl hn
      have hy3 := own_nl lo101
      have hy4 := own_nl hi101
      have hy5 := own_nei hc12_104
      have hy6 := own_nl ha121
      have hy7 := own_nl ha122
      exact own_nl' (by omega)
    have ha124 : ¬ n < (b + (en - b)) := by
      have ar0 := own_rg n
      have ar1 := own_rg b
      have ar2 := own_rg en
      have ar3 := c_isub en b
      have ar4 := own_rg (en - b)
      have ar5 := c_iadd b (en - b)
      have ar6 := own_rg (b + (en - b))
      have ar7 : (0 : Int32).toInt = 0 := rfl
      have ar8 : (3 : Int32).toInt = 3 := rfl
      have hy0 := own_nl hbz
      have hy1 := own_nl he
      have hy2 := own_nl hn
      have hy3 := own_nl lo101
      have hy4 := own_nl hi101
      have hy5 := own_nei hc12_104
      have hy6 := own_nl ha121
      have hy7 := own_nl ha122
      have hy8 := own_nl ha123
      exact own_nl' (by omega)
    obtain ⟨rv120, T120, L120, X120, q120, hZ120, hown120, hS120, C120, st120⟩ := own_stW X119 hx hZ (y := (⟨"java/lang/StringLatin1", "newString", "([BII)Ljava/lang/String;"⟩ : MethodName)) hown (ow hw 170 rfl) (ow hw 171 rfl) (ow hw 83 rfl) (ow hw 172 rfl) (by decide) (own_bkH (W := 0) (rm32 l Z a0 hw z0 O2 P5 fm0 O4 R4 [] t101 b (en - b) kb101 vs101 n h0 n0 Z0 Xo As101 hbz ha121 ha122 ha123 ha124 hi101 (fun q => hc12_104 q.1)) hZ (ow hw 172 rfl) (ow hw 83 rfl) (by decide) (by decide) (own_hEL hw) C0.1) e119 hS (Nat.le_refl _) (g := (mkF m 41 #[.val (.ref a), .val (.int b), .val (.int en), .val (.int n), .val (.int (en - b))] [(.int (en - b)), (.int b), (.ref t101)])) rfl (by rw [hml]; rfl) (argsL := [(.ref t101), (.int b), (.int (en - b))]) (rest := []) rfl (lenOf own_pd12 rfl) rfl (by show 2 * 0 + _ ≤ _; exact Nat.le_of_eq rfl) (hb hby own_d25_41) (by decide) (by decide)
    obtain ⟨Nq120, Kp120, ⟨r_125, rfl, f126⟩⟩ := q120
    have N120 := Fr.app N118 Nq120
    refine go _ _ (st120) ?_
    show G (T120.setTop (mkF m 44 #[.val (.ref a), .val (.int b), .val (.int en), .val (.int n), .val (.int (en - b))] [(.ref r_125)]))
    refine go _ _ (fun _ k => XS.goto X120.here hx rfl (pc0 := 44) (pc' := 57) rfl (hb hby own_d25_44) (by decide) (by decide) k) ?_
    show G (T120.setTop (mkF m 57 #[.val (.ref a), .val (.int b), .val (.int en), .val (.int n), .val (.int (en - b))] [(.ref r_125)]))
    have K127 : Keep h0 T120.heap [] := (Keep.refl h0 []).trans Kp120 all0
    have C128 : CHr Z own_EL s.vm h0 T120.vm T120.heap := C0.trans C120
    refine fin T120 _ _ _ (some (.ref r_125)) T120.vm _ X120 hZ120 hS120 (Nat.le_refl _) C128 (fun q => nomatch q) (by decide) (by decide) ⟨N120, K127, ⟨r_125, rfl, f126⟩⟩ _ (own_retA X120 hx hret rfl rfl rfl (hb hby own_d25_57))
theorem own_d24_0 : decode jdk_42_method_91_code 0 = .ok (.aload_n 0, 1) := by decide +kernel
theorem own_d24_1 : decode jdk_42_method_91_code 1 = .ok (.iload_n 1, 1) := by decide +kernel
theorem own_d24_2 : decode jdk_42_method_91_code 2 = .ok (.aload_n 0, 1) := by decide +kernel
theorem own_d24_3 : decode jdk_42_method_91_code 3 = .ok (.invokevirtual 505, 3) := by decide +kernel
theorem own_pd13 : parseMethodDescriptor "(II)Ljava/lang/String;" = some ⟨[.int, .int], some (.object "java/lang/String")⟩ := by decide +kernel
theorem own_d24_6 : decode jdk_42_method_91_code 6 = .ok (.invokevirtual 681, 3) := by decide +kernel
theorem own_d24_9 : decode jdk_42_method_91_code 9 = .ok (.areturn, 1) := by decide +kernel
set_option maxHeartbeats 4000000 in
theorem own_ef_rm24 (m : MethodId) (x0 : Addr) (x1 : Int32) : entryFrame m #[(.ref x0), (.int x1)] 2 = mkF m 0 #[.val (.ref x0), .val (.int x1)] [] := by rfl
set_option maxRecDepth 65536 in
set_option maxHeartbeats 40000000 in
theorem rm24 (l : Launch) (Z : State) (a0 : Array Value) (hw : ∀ d ∈ tables_1, d.before a0 Z = true) (z0 : Int32) (O2 : Sta Z Z.heap "java/lang/String" "COMPACT_STRINGS" "Z" (.int z0)) (P5 : ¬ z0 = (0 : Int32)) (fm0 : Value) (O4 : Sta Z Z.heap "jdk/internal/util/Preconditions" "SIOOBE_FORMATTER" "Ljava/util/function/BiFunction;" fm0) (R4 : fm0.isRef = true) (ws : List Jvm.Cond) (a : Addr) (b : Int32) (n : Int32) (h0 : Heap) (n0 : Nat) (Z0 : n0 ≤ h0.size) (Xo : Old Z n0 h0) (La : own_Ln Z h0 a n) (hbz : ¬ b < (0 : Int32)) (hbn : ¬ n < b) :
    own_MetH l Z own_EL (⟨"java/lang/String", "substring", "(I)Ljava/lang/String;"⟩ : MethodName) jdk_42_method_91_code 2 (some (.object "java/lang/String")) ws ({ frames := 5, cells := 2, slots := 7, locals := 89 } : Room) #[(.ref a), (.int b)] h0 (fun v h L => Fr n0 L ∧ Keep h0 h [] ∧ ((∃ (r : Addr), (v = some (.ref r)) ∧ (Exa Z h r "java/lang/String")))) := by
  refine own_metH (plainFor_of_name own_pn0) (own_hEL hw) ?_
  intro p e s m below meth c s₁ G hx hby hml hZ hown hnm hret X0 e0 hS C0 go fin
  have N0 := Fr.nil n0
  refine go _ _ (fun _ k => castTop (own_ef_rm24 m a b) k) ?_
  show G (s₁.setTop (mkF m 0 #[.val (.ref a), .val (.int b)] []))
  obtain ⟨t101, kb101, vs101, Es101, Vs101, Cs101, As101, lo101, hi101⟩ := id La
  refine go _ _ (fun _ k => XS.aloadN X0.here hx rfl (hb hby own_d24_0) rfl rfl (XS.iloadN X0.here hx rfl (hb hby own_d24_1) rfl (XS.aloadN X0.here hx rfl (hb hby own_d24_2) rfl rfl k))) ?_
  show G (s₁.setTop (mkF m 3 #[.val (.ref a), .val (.int b)] [(.ref a), (.int b), (.ref a)]))
  obtain ⟨rv102, T102, L102, X102, q102, st102⟩ := own_vi X0 hx hZ (y := (⟨"java/lang/String", "length", "()I"⟩ : MethodName)) (z := (⟨"java/lang/String", "length", "()I"⟩ : MethodName)) hown (ow hw 102 rfl) (ow hw 103 rfl) (ow hw 105 rfl) (ow hw 104 rfl) (Or.inl rfl) (by decide) (own_bkN (W := 2) (rm15 l Z a0 hw z0 O2 P5 fm0 O4 R4 [] a n h0 n0 Z0 Xo La) hZ (ow hw 106 rfl) (ow hw 6 rfl) (by decide) (by decide)) e0 Es101 (g := (mkF m 3 #[.val (.ref a), .val (.int b)] [(.ref a), (.int b), (.ref a)])) rfl (by rw [hml]; rfl) (argsL := []) (rest := [(.int b), (.ref a)]) rfl (lenOf own_pd5 rfl) rfl (by show 2 * 0 + _ ≤ _; exact Nat.le_of_eq rfl) (hb hby own_d24_3) (by decide) (by decide)
  obtain ⟨Nq102, e102, rfl⟩ := q102
  have N102 := Fr.app N0 Nq102
  refine go _ _ (st102) ?_
  show G (T102.setTop (mkF m 6 #[.val (.ref a), .val (.int b)] [(.int n), (.int b), (.ref a)]))
  have ha104 : ¬ n < n := by
    have ar0 := own_rg n
    have ar1 := own_rg b
    have ar2 : (0 : Int32).toInt = 0 := rfl
    have ar3 : (3 : Int32).toInt = 3 := rfl
    have hy0 := own_nl hbz
    have hy1 := own_nl hbn
    have hy2 := own_nl lo101
    have hy3 := own_nl hi101
    exact own_nl' (by omega)
  obtain ⟨rv103, T103, L103, X103, q103, hZ103, hown103, hS103, C103, st103⟩ := own_viW X102 hx hZ (y := (⟨"java/lang/String", "substring", "(II)Ljava/lang/String;"⟩ : MethodName)) (z := (⟨"java/lang/String", "substring", "(II)Ljava/lang/String;"⟩ : MethodName)) hown (ow hw 144 rfl) (ow hw 145 rfl) (ow hw 147 rfl) (ow hw 146 rfl) (Or.inl rfl) (by decide) (own_bkH (W := 0) (rm25 l Z a0 hw z0 O2 P5 fm0 O4 R4 [] a b n n h0 n0 Z0 Xo La hbz hbn ha104) hZ (ow hw 148 rfl) (ow hw 6 rfl) (by decide) (by decide) (own_hEL hw) C0.1) e102 hS (Nat.le_refl _) Es101 (g := (mkF m 6 #[.val (.ref a), .val (.int b)] [(.int n), (.int b), (.ref a)])) rfl (by rw [hml]; rfl) (argsL := [(.int b), (.int n)]) (rest := []) rfl (lenOf own_pd13 rfl) rfl (by show 2 * 0 + _ ≤ _; exact Nat.le_of_eq rfl) (hb hby own_d24_6) (by decide) (by decide)
  obtain ⟨Nq103, Kp103, ⟨r_105, rfl, f106⟩⟩ := q103
  have N103 := Fr.app N102 Nq103
  refine go _ _ (st103) ?_
  show G (T103.setTop (mkF m 9 #[.val (.ref a), .val (.int b)] [(.ref r_105)]))
  have K107 : Keep h0 T103.heap [] := (Keep.refl h0 []).trans Kp103 all0
  have C108 : CHr Z own_EL s.vm h0 T103.vm T103.heap := C0.trans C103
  refine fin T103 _ _ _ (some (.ref r_105)) T103.vm _ X103 hZ103 hS103 (Nat.le_refl _) C108 (fun q => nomatch q) (by decide) (by decide) ⟨N103, K107, ⟨r_105, rfl, f106⟩⟩ _ (own_retA X103 hx hret rfl rfl rfl (hb hby own_d24_9))
theorem own_pn6 : plainName "java/util/Objects" = true := by decide +kernel
theorem own_d8_0 : decode jdk_31_method_11_code 0 = .ok (.aload_n 0, 1) := by decide +kernel
theorem own_d8_1 : decode jdk_31_method_11_code 1 = .ok (.ifnonnull 12, 3) := by decide +kernel
theorem own_d8_13 : decode jdk_31_method_11_code 13 = .ok (.aload_n 0, 1) := by decide +kernel
theorem own_d8_14 : decode jdk_31_method_11_code 14 = .ok (.areturn, 1) := by decide +kernel
set_option maxHeartbeats 4000000 in
theorem own_ef_rm8 (m : MethodId) (x0 : Addr) (x1 : Value) (q1 : x1.isRef = true) : entryFrame m #[(.ref x0), x1] 2 = mkF m 0 #[.val (.ref x0), .val x1] [] := by simp [entryFrame, mkF, argsToLocals, own_catR, own_catI, own_catN, own_catJ, own_cat q1]
set_option maxRecDepth 65536 in
set_option maxHeartbeats 40000000 in
theorem rm8 (l : Launch) (Z : State) (a0 : Array Value) (hw : ∀ d ∈ tables_1, d.before a0 Z = true) (z0 : Int32) (O2 : Sta Z Z.heap "java/lang/String" "COMPACT_STRINGS" "Z" (.int z0)) (P5 : ¬ z0 = (0 : Int32)) (fm0 : Value) (O4 : Sta Z Z.heap "jdk/internal/util/Preconditions" "SIOOBE_FORMATTER" "Ljava/util/function/BiFunction;" fm0) (R4 : fm0.isRef = true) (ws : List Jvm.Cond) (a : Addr) (v1 : Value) (h0 : Heap) (n0 : Nat) (Z0 : n0 ≤ h0.size) (r1 : v1.isRef = true) :
    own_MetN l Z (⟨"java/util/Objects", "requireNonNull", "(Ljava/lang/Object;Ljava/lang/String;)Ljava/lang/Object;"⟩ : MethodName) jdk_31_method_11_code 2 (some (.object "java/lang/Object")) ws ({ frames := 0, cells := 0, slots := 0, locals := 0 } : Room) #[(.ref a), v1] h0 (fun v h L => Fr n0 L ∧ h = h0 ∧ (((v = some (.ref a))))) := by
  refine own_metN (plainFor_of_name own_pn6) ?_
  intro p e s m below meth c s₁ G hx hby hml hZ hown hnm hret X0 e0 go fin
  have N0 := Fr.nil n0
  refine go _ _ (fun _ k => castTop (own_ef_rm8 m a v1 r1) k) ?_
  show G (s₁.setTop (mkF m 0 #[.val (.ref a), .val v1] []))
  refine go _ _ (fun _ k => XS.aloadN X0.here hx rfl (hb hby own_d8_0) rfl rfl k) ?_
  show G (s₁.setTop (mkF m 1 #[.val (.ref a), .val v1] [(.ref a)]))
  refine go _ _ (fun _ k => XS.ifnonnullYes X0.here hx rfl (pc0 := 1) (pc' := 13) rfl (hb hby own_d8_1) rfl (by decide) (by decide) k) ?_
  show G (s₁.setTop (mkF m 13 #[.val (.ref a), .val v1] []))
  refine go _ _ (fun _ k => XS.aloadN X0.here hx rfl (hb hby own_d8_13) rfl rfl k) ?_
  show G (s₁.setTop (mkF m 14 #[.val (.ref a), .val v1] [(.ref a)]))
  refine fin s₁ _ _ _ (some (.ref a)) X0 (fun q => nomatch q) (by decide) (by decide) (by rw [e0]; exact ⟨N0, rfl, rfl⟩) _ (own_retA X0 hx hret rfl rfl rfl (hb hby own_d8_14))
theorem own_pn7 : plainName "com/example/naslov/naslov/Uri" = true := by decide +kernel
theorem own_d7_0 : decode prog_10_method_2_code 0 = .ok (.aload_n 0, 1) := by decide +kernel
theorem own_d7_1 : decode prog_10_method_2_code 1 = .ok (.invokespecial 11, 3) := by decide +kernel
theorem own_d7_4 : decode prog_10_method_2_code 4 = .ok (.aload_n 0, 1) := by decide +kernel
theorem own_d7_5 : decode prog_10_method_2_code 5 = .ok (.aload_n 1, 1) := by decide +kernel
theorem own_d7_6 : decode prog_10_method_2_code 6 = .ok (.putfield 16, 3) := by decide +kernel
theorem own_d7_9 : decode prog_10_method_2_code 9 = .ok (.aload_n 0, 1) := by decide +kernel
theorem own_d7_10 : decode prog_10_method_2_code 10 = .ok (.aload_n 2, 1) := by decide +kernel
theorem own_d7_11 : decode prog_10_method_2_code 11 = .ok (.putfield 20, 3) := by decide +kernel
theorem own_d7_14 : decode prog_10_method_2_code 14 = .ok (.aload_n 0, 1) := by decide +kernel
theorem own_d7_15 : decode prog_10_method_2_code 15 = .ok (.aload_n 3, 1) := by decide +kernel
theorem own_d7_16 : decode prog_10_method_2_code 16 = .ok (.putfield 23, 3) := by decide +kernel
theorem own_d7_19 : decode prog_10_method_2_code 19 = .ok (.aload_n 0, 1) := by decide +kernel
theorem own_d7_20 : decode prog_10_method_2_code 20 = .ok (.aload 4, 2) := by decide +kernel
theorem own_d7_22 : decode prog_10_method_2_code 22 = .ok (.ldc 26, 2) := by decide +kernel
theorem own_pd14 : parseMethodDescriptor "(Ljava/lang/Object;Ljava/lang/String;)Ljava/lang/Object;" = some ⟨[(.object "java/lang/Object"), (.object "java/lang/String")], some (.object "java/lang/Object")⟩ := by decide +kernel
theorem own_d7_24 : decode prog_10_method_2_code 24 = .ok (.invokestatic 28, 3) := by decide +kernel
theorem own_d7_27 : decode prog_10_method_2_code 27 = .ok (.checkcast 34, 3) := by decide +kernel
theorem own_d7_30 : decode prog_10_method_2_code 30 = .ok (.putfield 36, 3) := by decide +kernel
theorem own_d7_33 : decode prog_10_method_2_code 33 = .ok (.aload_n 0, 1) := by decide +kernel
theorem own_d7_34 : decode prog_10_method_2_code 34 = .ok (.aload 5, 2) := by decide +kernel
theorem own_d7_36 : decode prog_10_method_2_code 36 = .ok (.putfield 38, 3) := by decide +kernel
theorem own_d7_39 : decode prog_10_method_2_code 39 = .ok (.aload_n 0, 1) := by decide +kernel
theorem own_d7_40 : decode prog_10_method_2_code 40 = .ok (.aload 6, 2) := by decide +kernel
theorem own_d7_42 : decode prog_10_method_2_code 42 = .ok (.putfield 41, 3) := by decide +kernel
theorem own_d7_45 : decode prog_10_method_2_code 45 = .ok (.aconst_null, 1) := by decide +kernel
theorem own_d7_46 : decode prog_10_method_2_code 46 = .ok (.astore 7, 2) := by decide +kernel
theorem own_d7_48 : decode prog_10_method_2_code 48 = .ok (.aconst_null, 1) := by decide +kernel
theorem own_d7_49 : decode prog_10_method_2_code 49 = .ok (.astore 8, 2) := by decide +kernel
theorem own_d7_51 : decode prog_10_method_2_code 51 = .ok (.aconst_null, 1) := by decide +kernel
theorem own_d7_52 : decode prog_10_method_2_code 52 = .ok (.astore 9, 2) := by decide +kernel
theorem own_d7_178 : decode prog_10_method_2_code 178 = .ok (.aload_n 0, 1) := by decide +kernel
theorem own_d7_179 : decode prog_10_method_2_code 179 = .ok (.aload 7, 2) := by decide +kernel
theorem own_d7_181 : decode prog_10_method_2_code 181 = .ok (.putfield 68, 3) := by decide +kernel
theorem own_d7_184 : decode prog_10_method_2_code 184 = .ok (.aload_n 0, 1) := by decide +kernel
theorem own_d7_185 : decode prog_10_method_2_code 185 = .ok (.aload 8, 2) := by decide +kernel
theorem own_d7_187 : decode prog_10_method_2_code 187 = .ok (.putfield 71, 3) := by decide +kernel
theorem own_d7_190 : decode prog_10_method_2_code 190 = .ok (.aload_n 0, 1) := by decide +kernel
theorem own_d7_191 : decode prog_10_method_2_code 191 = .ok (.aload 9, 2) := by decide +kernel
theorem own_d7_193 : decode prog_10_method_2_code 193 = .ok (.putfield 74, 3) := by decide +kernel
theorem own_d7_196 : decode prog_10_method_2_code 196 = .ok (.return_, 1) := by decide +kernel
theorem own_d7_54 : decode prog_10_method_2_code 54 = .ok (.aload_n 3, 1) := by decide +kernel
theorem own_d7_55 : decode prog_10_method_2_code 55 = .ok (.ifnull 123, 3) := by decide +kernel
theorem own_d7_89 : decode prog_10_method_2_code 89 = .ok (.iload 11, 2) := by decide +kernel
theorem own_d7_91 : decode prog_10_method_2_code 91 = .ok (.istore 12, 2) := by decide +kernel
theorem own_d7_132 : decode prog_10_method_2_code 132 = .ok (.aload_n 3, 1) := by decide +kernel
theorem own_d7_133 : decode prog_10_method_2_code 133 = .ok (.bipush 58, 2) := by decide +kernel
theorem own_d7_135 : decode prog_10_method_2_code 135 = .ok (.iload 12, 2) := by decide +kernel
theorem own_d7_137 : decode prog_10_method_2_code 137 = .ok (.invokevirtual 58, 3) := by decide +kernel
theorem own_d7_140 : decode prog_10_method_2_code 140 = .ok (.istore 13, 2) := by decide +kernel
theorem own_d7_142 : decode prog_10_method_2_code 142 = .ok (.iload 13, 2) := by decide +kernel
theorem own_d7_144 : decode prog_10_method_2_code 144 = .ok (.ifCond .ge 14, 3) := by decide +kernel
theorem own_d7_147 : decode prog_10_method_2_code 147 = .ok (.aload_n 3, 1) := by decide +kernel
theorem own_d7_148 : decode prog_10_method_2_code 148 = .ok (.iload 11, 2) := by decide +kernel
theorem own_pd15 : parseMethodDescriptor "(I)Ljava/lang/String;" = some ⟨[.int], some (.object "java/lang/String")⟩ := by decide +kernel
theorem own_d7_150 : decode prog_10_method_2_code 150 = .ok (.invokevirtual 65, 3) := by decide +kernel
theorem own_d7_153 : decode prog_10_method_2_code 153 = .ok (.astore 8, 2) := by decide +kernel
theorem own_d7_155 : decode prog_10_method_2_code 155 = .ok (.goto 23, 3) := by decide +kernel
theorem own_d7_158 : decode prog_10_method_2_code 158 = .ok (.aload_n 3, 1) := by decide +kernel
theorem own_d7_159 : decode prog_10_method_2_code 159 = .ok (.iload 11, 2) := by decide +kernel
theorem own_d7_161 : decode prog_10_method_2_code 161 = .ok (.iload 13, 2) := by decide +kernel
theorem own_d7_163 : decode prog_10_method_2_code 163 = .ok (.invokevirtual 48, 3) := by decide +kernel
theorem own_d7_166 : decode prog_10_method_2_code 166 = .ok (.astore 8, 2) := by decide +kernel
theorem own_d7_168 : decode prog_10_method_2_code 168 = .ok (.aload_n 3, 1) := by decide +kernel
theorem own_d7_169 : decode prog_10_method_2_code 169 = .ok (.iload 13, 2) := by decide +kernel
theorem own_d7_171 : decode prog_10_method_2_code 171 = .ok (.iconst 1, 1) := by decide +kernel
theorem own_d7_172 : decode prog_10_method_2_code 172 = .ok (.iadd, 1) := by decide +kernel
theorem own_d7_173 : decode prog_10_method_2_code 173 = .ok (.invokevirtual 65, 3) := by decide +kernel
theorem own_d7_176 : decode prog_10_method_2_code 176 = .ok (.astore 9, 2) := by decide +kernel
theorem own_d7_93 : decode prog_10_method_2_code 93 = .ok (.aload_n 3, 1) := by decide +kernel
theorem own_d7_94 : decode prog_10_method_2_code 94 = .ok (.ldc 52, 2) := by decide +kernel
theorem own_d7_96 : decode prog_10_method_2_code 96 = .ok (.iload 11, 2) := by decide +kernel
theorem own_pd16 : parseMethodDescriptor "(Ljava/lang/String;I)Z" = some ⟨[(.object "java/lang/String"), .int], some .boolean⟩ := by decide +kernel
theorem own_d7_98 : decode prog_10_method_2_code 98 = .ok (.invokevirtual 54, 3) := by decide +kernel
theorem own_d7_101 : decode prog_10_method_2_code 101 = .ok (.ifCond .eq 31, 3) := by decide +kernel
theorem own_d7_104 : decode prog_10_method_2_code 104 = .ok (.aload_n 3, 1) := by decide +kernel
theorem own_d7_105 : decode prog_10_method_2_code 105 = .ok (.bipush 93, 2) := by decide +kernel
theorem own_d7_107 : decode prog_10_method_2_code 107 = .ok (.iload 11, 2) := by decide +kernel
theorem own_d7_109 : decode prog_10_method_2_code 109 = .ok (.invokevirtual 58, 3) := by decide +kernel
theorem own_d7_112 : decode prog_10_method_2_code 112 = .ok (.istore 13, 2) := by decide +kernel
theorem own_d7_114 : decode prog_10_method_2_code 114 = .ok (.iload 13, 2) := by decide +kernel
theorem own_d7_116 : decode prog_10_method_2_code 116 = .ok (.ifCond .ge 10, 3) := by decide +kernel
theorem own_d7_119 : decode prog_10_method_2_code 119 = .ok (.aload_n 3, 1) := by decide +kernel
theorem own_d7_120 : decode prog_10_method_2_code 120 = .ok (.invokevirtual 61, 3) := by decide +kernel
theorem own_d7_123 : decode prog_10_method_2_code 123 = .ok (.goto 7, 3) := by decide +kernel
theorem own_d7_130 : decode prog_10_method_2_code 130 = .ok (.istore 12, 2) := by decide +kernel
theorem own_d7_126 : decode prog_10_method_2_code 126 = .ok (.iload 13, 2) := by decide +kernel
theorem own_d7_128 : decode prog_10_method_2_code 128 = .ok (.iconst 1, 1) := by decide +kernel
theorem own_d7_129 : decode prog_10_method_2_code 129 = .ok (.iadd, 1) := by decide +kernel
theorem own_d7_58 : decode prog_10_method_2_code 58 = .ok (.aload_n 3, 1) := by decide +kernel
theorem own_d7_59 : decode prog_10_method_2_code 59 = .ok (.bipush 64, 2) := by decide +kernel
theorem own_pd17 : parseMethodDescriptor "(I)I" = some ⟨[.int], some .int⟩ := by decide +kernel
theorem own_d7_61 : decode prog_10_method_2_code 61 = .ok (.invokevirtual 44, 3) := by decide +kernel
theorem own_d7_64 : decode prog_10_method_2_code 64 = .ok (.istore 10, 2) := by decide +kernel
theorem own_d7_66 : decode prog_10_method_2_code 66 = .ok (.iconst 0, 1) := by decide +kernel
theorem own_d7_67 : decode prog_10_method_2_code 67 = .ok (.istore 11, 2) := by decide +kernel
theorem own_d7_69 : decode prog_10_method_2_code 69 = .ok (.iload 10, 2) := by decide +kernel
theorem own_d7_71 : decode prog_10_method_2_code 71 = .ok (.ifCond .lt 18, 3) := by decide +kernel
theorem own_d7_74 : decode prog_10_method_2_code 74 = .ok (.aload_n 3, 1) := by decide +kernel
theorem own_d7_75 : decode prog_10_method_2_code 75 = .ok (.iconst 0, 1) := by decide +kernel
theorem own_d7_76 : decode prog_10_method_2_code 76 = .ok (.iload 10, 2) := by decide +kernel
theorem own_d7_78 : decode prog_10_method_2_code 78 = .ok (.invokevirtual 48, 3) := by decide +kernel
theorem own_d7_81 : decode prog_10_method_2_code 81 = .ok (.astore 7, 2) := by decide +kernel
theorem own_d7_83 : decode prog_10_method_2_code 83 = .ok (.iload 10, 2) := by decide +kernel
theorem own_d7_85 : decode prog_10_method_2_code 85 = .ok (.iconst 1, 1) := by decide +kernel
theorem own_d7_86 : decode prog_10_method_2_code 86 = .ok (.iadd, 1) := by decide +kernel
theorem own_d7_87 : decode prog_10_method_2_code 87 = .ok (.istore 11, 2) := by decide +kernel
set_option maxHeartbeats 4000000 in
theorem own_ef_rm7 (m : MethodId) (x0 : Addr) (x1 : Addr) (x2 : Value) (q2 : x2.isRef = true) (x3 : Value) (q3 : x3.isRef = true) (x4 : Addr) (x5 : Value) (q5 : x5.isRef = true) (x6 : Value) (q6 : x6.isRef = true) : entryFrame m #[(.ref x0), (.ref x1), x2, x3, (.ref x4), x5, x6] 14 = mkF m 0 #[.val (.ref x0), .val (.ref x1), .val x2, .val x3, .val (.ref x4), .val x5, .val x6, .unset, .unset, .unset, .unset, .unset, .unset, .unset] [] := by simp [entryFrame, mkF, argsToLocals, own_catR, own_catI, own_catN, own_catJ, own_cat q2, own_cat q3, own_cat q5, own_cat q6]
set_option maxRecDepth 65536 in
set_option maxHeartbeats 40000000 in
theorem rm7 (l : Launch) (Z : State) (a0 : Array Value) (hw : ∀ d ∈ tables_1, d.before a0 Z = true) (z0 : Int32) (O2 : Sta Z Z.heap "java/lang/String" "COMPACT_STRINGS" "Z" (.int z0)) (P5 : ¬ z0 = (0 : Int32)) (fm0 : Value) (O4 : Sta Z Z.heap "jdk/internal/util/Preconditions" "SIOOBE_FORMATTER" "Ljava/util/function/BiFunction;" fm0) (R4 : fm0.isRef = true) (ws : List Jvm.Cond) (a : Addr) (tx : Addr) (v2 : Value) (v3 : Value) (pt : Addr) (v5 : Value) (v6 : Value) (sb : Addr) (n : Int32) (h0 : Heap) (n0 : Nat) (Z0 : n0 ≤ h0.size) (r2 : v2.isRef = true) (r3 : v3.isRef = true) (r5 : v5.isRef = true) (r6 : v6.isRef = true) (Xo : Old Z n0 h0) (Ea : Exa Z h0 a "com/example/naslov/naslov/Uri") (Ftext : Fld Z h0 a "com/example/naslov/naslov/Uri" "text" "Ljava/lang/String;" .null) (Fscheme : Fld Z h0 a "com/example/naslov/naslov/Uri" "scheme" "Ljava/lang/String;" .null) (Fauthority : Fld Z h0 a "com/example/naslov/naslov/Uri" "authority" "Ljava/lang/String;" .null) (Fpath : Fld Z h0 a "com/example/naslov/naslov/Uri" "path" "Ljava/lang/String;" .null) (Fquery : Fld Z h0 a "com/example/naslov/naslov/Uri" "query" "Ljava/lang/String;" .null) (Ffragment : Fld Z h0 a "com/example/naslov/naslov/Uri" "fragment" "Ljava/lang/String;" .null) (FuserInfo : Fld Z h0 a "com/example/naslov/naslov/Uri" "userInfo" "Ljava/lang/String;" .null) (Fhost : Fld Z h0 a "com/example/naslov/naslov/Uri" "host" "Ljava/lang/String;" .null) (Fport : Fld Z h0 a "com/example/naslov/naslov/Uri" "port" "Ljava/lang/String;" .null) (Ept : Exa Z h0 pt "java/lang/String") (Ls : own_Ln Z h0 sb n) (hv3 : v3 = .null ∨ v3 = (.ref sb)) (gz_a : n0 ≤ a) :
    own_MetH l Z own_EL (⟨"com/example/naslov/naslov/Uri", "<init>", "(Ljava/lang/String;Ljava/lang/String;Ljava/lang/String;Ljava/lang/String;Ljava/lang/String;Ljava/lang/String;)V"⟩ : MethodName) prog_10_method_2_code 14 none ws ({ frames := 6, cells := 10, slots := 49, locals := 102 } : Room) #[(.ref a), (.ref tx), v2, v3, (.ref pt), v5, v6] h0 (fun v h L => Fr n0 L ∧ Keep h0 h [a] ∧ (((v = none) ∧ (Exa Z h a "com/example/naslov/naslov/Uri") ∧ (Fld Z h a "com/example/naslov/naslov/Uri" "text" "Ljava/lang/String;" (.ref tx))))) := by
  refine own_metH (plainFor_of_name own_pn7) (own_hEL hw) ?_
  intro p e s m below meth c s₁ G hx hby hml hZ hown hnm hret X0 e0 hS C0 go fin
  have N0 := Fr.nil n0
  refine go _ _ (fun _ k => castTop (own_ef_rm7 m a tx v2 r2 v3 r3 pt v5 r5 v6 r6) k) ?_
  show G (s₁.setTop (mkF m 0 #[.val (.ref a), .val (.ref tx), .val v2, .val v3, .val (.ref pt), .val v5, .val v6, .unset, .unset, .unset, .unset, .unset, .unset, .unset] []))
  refine go _ _ (fun _ k => XS.aloadN X0.here hx rfl (hb hby own_d7_0) rfl rfl k) ?_
  show G (s₁.setTop (mkF m 1 #[.val (.ref a), .val (.ref tx), .val v2, .val v3, .val (.ref pt), .val v5, .val v6, .unset, .unset, .unset, .unset, .unset, .unset, .unset] [(.ref a)]))
  obtain ⟨T101, X101, e101, st101⟩ := initO X0 hx hZ hown (ow hw 43 rfl) (ow hw 16 rfl) (ow hw 17 rfl) e0 (g := (mkF m 1 #[.val (.ref a), .val (.ref tx), .val v2, .val v3, .val (.ref pt), .val v5, .val v6, .unset, .unset, .unset, .unset, .unset, .unset, .unset] [(.ref a)])) rfl (by rw [hml]; rfl) rfl (hb hby own_d7_1) (by decide) (W := 0) (by show 2 * 0 + _ ≤ _; exact Nat.le_of_eq rfl) (by decide)
  refine go _ _ (st101) ?_
  show G (T101.setTop (mkF m 4 #[.val (.ref a), .val (.ref tx), .val v2, .val v3, .val (.ref pt), .val v5, .val v6, .unset, .unset, .unset, .unset, .unset, .unset, .unset] []))
  refine go _ _ (fun _ k => XS.aloadN X101.here hx rfl (hb hby own_d7_4) rfl rfl (XS.aloadN X101.here hx rfl (hb hby own_d7_5) rfl rfl k)) ?_
  show G (T101.setTop (mkF m 6 #[.val (.ref a), .val (.ref tx), .val v2, .val v3, .val (.ref pt), .val v5, .val v6, .unset, .unset, .unset, .unset, .unset, .unset, .unset] [(.ref tx), (.ref a)]))
  obtain ⟨T102, h102, X102, e102, W102, st102⟩ := putF X101 hx hZ hown (host := "") (Or.inl (ow hw 44 rfl)) Via.refl e101 Ftext Ea (Or.inr ⟨(ow hw 45 rfl), rfl, hnm⟩) (ow hw 35 rfl) (ty := (.object "java/lang/String")) (by decide) rfl rfl (g := (mkF m 6 #[.val (.ref a), .val (.ref tx), .val v2, .val v3, .val (.ref pt), .val v5, .val v6, .unset, .unset, .unset, .unset, .unset, .unset, .unset] [(.ref tx), (.ref a)])) rfl rfl (hb hby own_d7_6)
  have N102 := Fr.snoc X102 N0 gz_a
  refine go _ _ (st102) ?_
  show G (T102.setTop (mkF m 9 #[.val (.ref a), .val (.ref tx), .val v2, .val v3, .val (.ref pt), .val v5, .val v6, .unset, .unset, .unset, .unset, .unset, .unset, .unset] []))
  refine go _ _ (fun _ k => XS.aloadN X102.here hx rfl (hb hby own_d7_9) rfl rfl (XS.aloadN X102.here hx rfl (hb hby own_d7_10) rfl r2 k)) ?_
  show G (T102.setTop (mkF m 11 #[.val (.ref a), .val (.ref tx), .val v2, .val v3, .val (.ref pt), .val v5, .val v6, .unset, .unset, .unset, .unset, .unset, .unset, .unset] [v2, (.ref a)]))
  obtain ⟨T103, h103, X103, e103, W103, st103⟩ := putF X102 hx hZ hown (host := "") (Or.inl (ow hw 46 rfl)) Via.refl e102 (Fscheme.other W102 (Or.inr (RoadKit.slot_ne (t := (.object "java/lang/String")) (t' := (.object "java/lang/String")) (Or.inr (ow hw 47 rfl)) (Or.inr (ow hw 45 rfl)) (by decide) (by decide) (by decide)))) (Ea.wr W102) (Or.inr ⟨(ow hw 47 rfl), rfl, hnm⟩) (ow hw 35 rfl) (ty := (.object "java/lang/String")) (by decide) own_narR (own_fitR r2) (g := (mkF m 11 #[.val (.ref a), .val (.ref tx), .val v2, .val v3, .val (.ref pt), .val v5, .val v6, .unset, .unset, .unset, .unset, .unset, .unset, .unset] [v2, (.ref a)])) rfl rfl (hb hby own_d7_11)
  have N103 := Fr.snoc X103 N102 gz_a
  refine go _ _ (st103) ?_
  show G (T103.setTop (mkF m 14 #[.val (.ref a), .val (.ref tx), .val v2, .val v3, .val (.ref pt), .val v5, .val v6, .unset, .unset, .unset, .unset, .unset, .unset, .unset] []))
  refine go _ _ (fun _ k => XS.aloadN X103.here hx rfl (hb hby own_d7_14) rfl rfl (XS.aloadN X103.here hx rfl (hb hby own_d7_15) rfl r3 k)) ?_
  show G (T103.setTop (mkF m 16 #[.val (.ref a), .val (.ref tx), .val v2, .val v3, .val (.ref pt), .val v5, .val v6, .unset, .unset, .unset, .unset, .unset, .unset, .unset] [v3, (.ref a)]))
  obtain ⟨T104, h104, X104, e104, W104, st104⟩ := putF X103 hx hZ hown (host := "") (Or.inl (ow hw 48 rfl)) Via.refl e103 ((Fauthority.other W102 (Or.inr (RoadKit.slot_ne (t := (.object "java/lang/String")) (t' := (.object "java/lang/String")) (Or.inr (ow hw 49 rfl)) (Or.inr (ow hw 45 rfl)) (by decide) (by decide) (by decide)))).other W103 (Or.inr (RoadKit.slot_ne (t := (.object "java/lang/String")) (t' := (.object "java/lang/String")) (Or.inr (ow hw 49 rfl)) (Or.inr (ow hw 47 rfl)) (by decide) (by decide) (by decide)))) ((Ea.wr W102).wr W103) (Or.inr ⟨(ow hw 49 rfl), rfl, hnm⟩) (ow hw 35 rfl) (ty := (.object "java/lang/String")) (by decide) own_narR (own_fitR r3) (g := (mkF m 16 #[.val (.ref a), .val (.ref tx), .val v2, .val v3, .val (.ref pt), .val v5, .val v6, .unset, .unset, .unset, .unset, .unset, .unset, .unset] [v3, (.ref a)])) rfl rfl (hb hby own_d7_16)
  have N104 := Fr.snoc X104 N103 gz_a
  refine go _ _ (st104) ?_
  show G (T104.setTop (mkF m 19 #[.val (.ref a), .val (.ref tx), .val v2, .val v3, .val (.ref pt), .val v5, .val v6, .unset, .unset, .unset, .unset, .unset, .unset, .unset] []))
  refine go _ _ (fun _ k => XS.aloadN X104.here hx rfl (hb hby own_d7_19) rfl rfl (XS.aload X104.here hx rfl (hb hby own_d7_20) rfl rfl k)) ?_
  show G (T104.setTop (mkF m 22 #[.val (.ref a), .val (.ref tx), .val v2, .val v3, .val (.ref pt), .val v5, .val v6, .unset, .unset, .unset, .unset, .unset, .unset, .unset] [(.ref pt), (.ref a)]))
  have Sf106 : Safe Z own_EL s.vm h0 a := Safe.exa hZ.alike Ea (by decide) (by decide)
  have C107 : CHr Z own_EL s.vm h0 s.vm h102 := C0.trans (CHr.wr W102 Sf106 C0.1)
  have Sf108 : Safe Z own_EL s.vm h102 a := Safe.exa hZ.alike (Ea.wr W102) (by decide) (by decide)
  have C109 : CHr Z own_EL s.vm h0 s.vm h103 := C107.trans (CHr.wr W103 Sf108 C107.1)
  have Sf110 : Safe Z own_EL s.vm h103 a := Safe.exa hZ.alike ((Ea.wr W102).wr W103) (by decide) (by decide)
  have C111 : CHr Z own_EL s.vm h0 s.vm h104 := C109.trans (CHr.wr W104 Sf110 C109.1)
  have Z112 : h0.size ≤ h102.size := (Keep.of_wr W102).1
  have Z113 : h0.size ≤ h103.size := Nat.le_trans Z112 (Keep.of_wr W103).1
  have Z114 : h0.size ≤ h104.size := Nat.le_trans Z113 (Keep.of_wr W104).1
  obtain ⟨b105, T105, h105, k105, X105, e105, E105, hS105, hk105, hZ105, hown105, C105, -, st105⟩ := ldcOH X104 hx hZ hown (ow hw 50 rfl) (own_sat hw) e104 hS Z114 (own_hEL hw) C111.1 (g := (mkF m 22 #[.val (.ref a), .val (.ref tx), .val v2, .val v3, .val (.ref pt), .val v5, .val v6, .unset, .unset, .unset, .unset, .unset, .unset, .unset] [(.ref pt), (.ref a)])) rfl (hb hby own_d7_22) (n := 16) (by decide) (by decide) (by decide) (by decide)
  refine go _ _ (st105) ?_
  show G (T105.setTop (mkF m 24 #[.val (.ref a), .val (.ref tx), .val v2, .val v3, .val (.ref pt), .val v5, .val v6, .unset, .unset, .unset, .unset, .unset, .unset, .unset] [(.ref b105), (.ref pt), (.ref a)]))
  have Z116 : h0.size ≤ h105.size := Nat.le_trans Z114 E105.1
  obtain ⟨rv115, T115, L115, X115, q115, st115⟩ := own_st X105 hx hZ105 (y := (⟨"java/util/Objects", "requireNonNull", "(Ljava/lang/Object;Ljava/lang/String;)Ljava/lang/Object;"⟩ : MethodName)) hown105 (ow hw 51 rfl) (ow hw 52 rfl) (ow hw 53 rfl) (ow hw 54 rfl) (by decide) (own_bkN (W := 1) (rm8 l Z a0 hw z0 O2 P5 fm0 O4 R4 [] pt (.ref b105) h105 n0 (Nat.le_trans Z0 Z116) rfl) hZ105 (ow hw 54 rfl) (ow hw 53 rfl) (by decide) (by decide)) e105 (g := (mkF m 24 #[.val (.ref a), .val (.ref tx), .val v2, .val v3, .val (.ref pt), .val v5, .val v6, .unset, .unset, .unset, .unset, .unset, .unset, .unset] [(.ref b105), (.ref pt), (.ref a)])) rfl (by rw [hml]; rfl) (argsL := [(.ref pt), (.ref b105)]) (rest := [(.ref a)]) rfl (lenOf own_pd14 rfl) rfl (by show 2 * 0 + _ ≤ _; exact Nat.le_of_eq rfl) (hb hby own_d7_24) (by decide) (by decide)
  obtain ⟨Nq115, e115, rfl⟩ := q115
  have N115 := Fr.app N104 Nq115
  refine go _ _ (st115) ?_
  show G (T115.setTop (mkF m 27 #[.val (.ref a), .val (.ref tx), .val v2, .val v3, .val (.ref pt), .val v5, .val v6, .unset, .unset, .unset, .unset, .unset, .unset, .unset] [(.ref pt), (.ref a)]))
  have K118 : Keep h0 h102 [a] := (Keep.refl h0 [a]).wr W102 (Or.inl (List.mem_of_getElem? (i := 0) rfl))
  have K119 : Keep h0 h103 [a] := K118.wr W103 (Or.inl (List.mem_of_getElem? (i := 0) rfl))
  have K120 : Keep h0 h104 [a] := K119.wr W104 (Or.inl (List.mem_of_getElem? (i := 0) rfl))
  have K121 : Keep h0 h105 [a] := K120.ext E105
  have F122 : Exa Z h105 pt "java/lang/String" := (Ept.keep K121)
  obtain ⟨T117, X117, e117, st117⟩ := castY X115 hx hZ105 hown105 (ow hw 55 rfl) e115 (Ins.self F122) (g := (mkF m 27 #[.val (.ref a), .val (.ref tx), .val v2, .val v3, .val (.ref pt), .val v5, .val v6, .unset, .unset, .unset, .unset, .unset, .unset, .unset] [(.ref pt), (.ref a)])) rfl rfl (hb hby own_d7_27)
  refine go _ _ (st117) ?_
  show G (T117.setTop (mkF m 30 #[.val (.ref a), .val (.ref tx), .val v2, .val v3, .val (.ref pt), .val v5, .val v6, .unset, .unset, .unset, .unset, .unset, .unset, .unset] [(.ref pt), (.ref a)]))
  have K124 : Keep h104 h105 [] := (Keep.refl h104 []).ext E105
  have F125 : Fld Z h105 a "com/example/naslov/naslov/Uri" "path" "Ljava/lang/String;" .null := ((((Fpath.other W102 (Or.inr (RoadKit.slot_ne (t := (.object "java/lang/String")) (t' := (.object "java/lang/String")) (Or.inr (ow hw 57 rfl)) (Or.inr (ow hw 45 rfl)) (by decide) (by decide) (by decide)))).other W103 (Or.inr (RoadKit.slot_ne (t := (.object "java/lang/String")) (t' := (.object "java/lang/String")) (Or.inr (ow hw 57 rfl)) (Or.inr (ow hw 47 rfl)) (by decide) (by decide) (by decide)))).other W104 (Or.inr (RoadKit.slot_ne (t := (.object "java/lang/String")) (t' := (.object "java/lang/String")) (Or.inr (ow hw 57 rfl)) (Or.inr (ow hw 49 rfl)) (by decide) (by decide) (by decide)))).keep K124 nin0)
  have F126 : Exa Z h105 a "com/example/naslov/naslov/Uri" := ((((Ea.wr W102).wr W103).wr W104).keep K124)
  obtain ⟨T123, h123, X123, e123, W123, st123⟩ := putF X117 hx hZ105 hown105 (host := "") (Or.inl (ow hw 56 rfl)) Via.refl e117 F125 F126 (Or.inr ⟨(ow hw 57 rfl), rfl, hnm⟩) (ow hw 35 rfl) (ty := (.object "java/lang/String")) (by decide) rfl rfl (g := (mkF m 30 #[.val (.ref a), .val (.ref tx), .val v2, .val v3, .val (.ref pt), .val v5, .val v6, .unset, .unset, .unset, .unset, .unset, .unset, .unset] [(.ref pt), (.ref a)])) rfl rfl (hb hby own_d7_30)
  have F127 : Fld Z h105 a "com/example/naslov/naslov/Uri" "text" "Ljava/lang/String;" (.ref tx) := ((((Ftext.same W102).other W103 (Or.inr (RoadKit.slot_ne (t := (.object "java/lang/String")) (t' := (.object "java/lang/String")) (Or.inr (ow hw 45 rfl)) (Or.inr (ow hw 47 rfl)) (by decide) (by decide) (by decide)))).other W104 (Or.inr (RoadKit.slot_ne (t := (.object "java/lang/String")) (t' := (.object "java/lang/String")) (Or.inr (ow hw 45 rfl)) (Or.inr (ow hw 49 rfl)) (by decide) (by decide) (by decide)))).keep K124 nin0)
  have F128 : Fld Z h105 a "com/example/naslov/naslov/Uri" "scheme" "Ljava/lang/String;" v2 := ((((Fscheme.other W102 (Or.inr (RoadKit.slot_ne (t := (.object "java/lang/String")) (t' := (.object "java/lang/String")) (Or.inr (ow hw 47 rfl)) (Or.inr (ow hw 45 rfl)) (by decide) (by decide) (by decide)))).same W103).other W104 (Or.inr (RoadKit.slot_ne (t := (.object "java/lang/String")) (t' := (.object "java/lang/String")) (Or.inr (ow hw 47 rfl)) (Or.inr (ow hw 49 rfl)) (by decide) (by decide) (by decide)))).keep K124 nin0)
  have F129 : Fld Z h105 a "com/example/naslov/naslov/Uri" "authority" "Ljava/lang/String;" v3 := ((((Fauthority.other W102 (Or.inr (RoadKit.slot_ne (t := (.object "java/lang/String")) (t' := (.object "java/lang/String")) (Or.inr (ow hw 49 rfl)) (Or.inr (ow hw 45 rfl)) (by decide) (by decide) (by decide)))).other W103 (Or.inr (RoadKit.slot_ne (t := (.object "java/lang/String")) (t' := (.object "java/lang/String")) (Or.inr (ow hw 49 rfl)) (Or.inr (ow hw 47 rfl)) (by decide) (by decide) (by decide)))).same W104).keep K124 nin0)
  have F130 : Fld Z h105 a "com/example/naslov/naslov/Uri" "query" "Ljava/lang/String;" .null := ((((Fquery.other W102 (Or.inr (RoadKit.slot_ne (t := (.object "java/lang/String")) (t' := (.object "java/lang/String")) (Or.inr (ow hw 59 rfl)) (Or.inr (ow hw 45 rfl)) (by decide) (by decide) (by decide)))).other W103 (Or.inr (RoadKit.slot_ne (t := (.object "java/lang/String")) (t' := (.object "java/lang/String")) (Or.inr (ow hw 59 rfl)) (Or.inr (ow hw 47 rfl)) (by decide) (by decide) (by decide)))).other W104 (Or.inr (RoadKit.slot_ne (t := (.object "java/lang/String")) (t' := (.object "java/lang/String")) (Or.inr (ow hw 59 rfl)) (Or.inr (ow hw 49 rfl)) (by decide) (by decide) (by decide)))).keep K124 nin0)
  have F131 : Fld Z h105 a "com/example/naslov/naslov/Uri" "fragment" "Ljava/lang/String;" .null := ((((Ffragment.other W102 (Or.inr (RoadKit.slot_ne (t := (.object "java/lang/String")) (t' := (.object "java/lang/String")) (Or.inr (ow hw 61 rfl)) (Or.inr (ow hw 45 rfl)) (by decide) (by decide) (by decide)))).other W103 (Or.inr (RoadKit.slot_ne (t := (.object "java/lang/String")) (t' := (.object "java/lang/String")) (Or.inr (ow hw 61 rfl)) (Or.inr (ow hw 47 rfl)) (by decide) (by decide) (by decide)))).other W104 (Or.inr (RoadKit.slot_ne (t := (.object "java/lang/String")) (t' := (.object "java/lang/String")) (Or.inr (ow hw 61 rfl)) (Or.inr (ow hw 49 rfl)) (by decide) (by decide) (by decide)))).keep K124 nin0)
  have F132 : Fld Z h105 a "com/example/naslov/naslov/Uri" "userInfo" "Ljava/lang/String;" .null := ((((FuserInfo.other W102 (Or.inr (RoadKit.slot_ne (t := (.object "java/lang/String")) (t' := (.object "java/lang/String")) (Or.inr (ow hw 63 rfl)) (Or.inr (ow hw 45 rfl)) (by decide) (by decide) (by decide)))).other W103 (Or.inr (RoadKit.slot_ne (t := (.object "java/lang/String")) (t' := (.object "java/lang/String")) (Or.inr (ow hw 63 rfl)) (Or.inr (ow hw 47 rfl)) (by decide) (by decide) (by decide)))).other W104 (Or.inr (RoadKit.slot_ne (t := (.object "java/lang/String")) (t' := (.object "java/lang/String")) (Or.inr (ow hw 63 rfl)) (Or.inr (ow hw 49 rfl)) (by decide) (by decide) (by decide)))).keep K124 nin0)
  have F133 : Fld Z h105 a "com/example/naslov/naslov/Uri" "host" "Ljava/lang/String;" .null := ((((Fhost.other W102 (Or.inr (RoadKit.slot_ne (t := (.object "java/lang/String")) (t' := (.object "java/lang/String")) (Or.inr (ow hw 65 rfl)) (Or.inr (ow hw 45 rfl)) (by decide) (by decide) (by decide)))).other W103 (Or.inr (RoadKit.slot_ne (t := (.object "java/lang/String")) (t' := (.object "java/lang/String")) (Or.inr (ow hw 65 rfl)) (Or.inr (ow hw 47 rfl)) (by decide) (by decide) (by decide)))).other W104 (Or.inr (RoadKit.slot_ne (t := (.object "java/lang/String")) (t' := (.object "java/lang/String")) (Or.inr (ow hw 65 rfl)) (Or.inr (ow hw 49 rfl)) (by decide) (by decide) (by decide)))).keep K124 nin0)
  have F134 : Fld Z h105 a "com/example/naslov/naslov/Uri" "port" "Ljava/lang/String;" .null := ((((Fport.other W102 (Or.inr (RoadKit.slot_ne (t := (.object "java/lang/String")) (t' := (.object "java/lang/String")) (Or.inr (ow hw 67 rfl)) (Or.inr (ow hw 45 rfl)) (by decide) (by decide) (by decide)))).other W103 (Or.inr (RoadKit.slot_ne (t := (.object "java/lang/String")) (t' := (.object "java/lang/String")) (Or.inr (ow hw 67 rfl)) (Or.inr (ow hw 47 rfl)) (by decide) (by decide) (by decide)))).other W104 (Or.inr (RoadKit.slot_ne (t := (.object "java/lang/String")) (t' := (.object "java/lang/String")) (Or.inr (ow hw 67 rfl)) (Or.inr (ow hw 49 rfl)) (by decide) (by decide) (by decide)))).keep K124 nin0)
  have N123 := Fr.snoc X123 N115 gz_a
  refine go _ _ (st123) ?_
  show G (T123.setTop (mkF m 33 #[.val (.ref a), .val (.ref tx), .val v2, .val v3, .val (.ref pt), .val v5, .val v6, .unset, .unset, .unset, .unset, .unset, .unset, .unset] []))
  refine go _ _ (fun _ k => XS.aloadN X123.here hx rfl (hb hby own_d7_33) rfl rfl (XS.aload X123.here hx rfl (hb hby own_d7_34) rfl r5 k)) ?_
  show G (T123.setTop (mkF m 36 #[.val (.ref a), .val (.ref tx), .val v2, .val v3, .val (.ref pt), .val v5, .val v6, .unset, .unset, .unset, .unset, .unset, .unset, .unset] [v5, (.ref a)]))
  obtain ⟨T135, h135, X135, e135, W135, st135⟩ := putF X123 hx hZ105 hown105 (host := "") (Or.inl (ow hw 58 rfl)) Via.refl e123 (F130.other W123 (Or.inr (RoadKit.slot_ne (t := (.object "java/lang/String")) (t' := (.object "java/lang/String")) (Or.inr (ow hw 59 rfl)) (Or.inr (ow hw 57 rfl)) (by decide) (by decide) (by decide)))) (F126.wr W123) (Or.inr ⟨(ow hw 59 rfl), rfl, hnm⟩) (ow hw 35 rfl) (ty := (.object "java/lang/String")) (by decide) own_narR (own_fitR r5) (g := (mkF m 36 #[.val (.ref a), .val (.ref tx), .val v2, .val v3, .val (.ref pt), .val v5, .val v6, .unset, .unset, .unset, .unset, .unset, .unset, .unset] [v5, (.ref a)])) rfl rfl (hb hby own_d7_36)
  have N135 := Fr.snoc X135 N123 gz_a
  refine go _ _ (st135) ?_
  show G (T135.setTop (mkF m 39 #[.val (.ref a), .val (.ref tx), .val v2, .val v3, .val (.ref pt), .val v5, .val v6, .unset, .unset, .unset, .unset, .unset, .unset, .unset] []))
  refine go _ _ (fun _ k => XS.aloadN X135.here hx rfl (hb hby own_d7_39) rfl rfl (XS.aload X135.here hx rfl (hb hby own_d7_40) rfl r6 k)) ?_
  show G (T135.setTop (mkF m 42 #[.val (.ref a), .val (.ref tx), .val v2, .val v3, .val (.ref pt), .val v5, .val v6, .unset, .unset, .unset, .unset, .unset, .unset, .unset] [v6, (.ref a)]))
  obtain ⟨T136, h136, X136, e136, W136, st136⟩ := putF X135 hx hZ105 hown105 (host := "") (Or.inl (ow hw 60 rfl)) Via.refl e135 ((F131.other W123 (Or.inr (RoadKit.slot_ne (t := (.object "java/lang/String")) (t' := (.object "java/lang/String")) (Or.inr (ow hw 61 rfl)) (Or.inr (ow hw 57 rfl)) (by decide) (by decide) (by decide)))).other W135 (Or.inr (RoadKit.slot_ne (t := (.object "java/lang/String")) (t' := (.object "java/lang/String")) (Or.inr (ow hw 61 rfl)) (Or.inr (ow hw 59 rfl)) (by decide) (by decide) (by decide)))) ((F126.wr W123).wr W135) (Or.inr ⟨(ow hw 61 rfl), rfl, hnm⟩) (ow hw 35 rfl) (ty := (.object "java/lang/String")) (by decide) own_narR (own_fitR r6) (g := (mkF m 42 #[.val (.ref a), .val (.ref tx), .val v2, .val v3, .val (.ref pt), .val v5, .val v6, .unset, .unset, .unset, .unset, .unset, .unset, .unset] [v6, (.ref a)])) rfl rfl (hb hby own_d7_42)
  have N136 := Fr.snoc X136 N135 gz_a
  refine go _ _ (st136) ?_
  show G (T136.setTop (mkF m 45 #[.val (.ref a), .val (.ref tx), .val v2, .val v3, .val (.ref pt), .val v5, .val v6, .unset, .unset, .unset, .unset, .unset, .unset, .unset] []))
  refine go _ _ (fun _ k => XS.aconstNull X136.here hx rfl (hb hby own_d7_45) (XS.astore X136.here hx rfl (hb hby own_d7_46) rfl rfl (l' := #[.val (.ref a), .val (.ref tx), .val v2, .val v3, .val (.ref pt), .val v5, .val v6, .val .null, .unset, .unset, .unset, .unset, .unset, .unset]) rfl (XS.aconstNull X136.here hx rfl (hb hby own_d7_48) (XS.astore X136.here hx rfl (hb hby own_d7_49) rfl rfl (l' := #[.val (.ref a), .val (.ref tx), .val v2, .val v3, .val (.ref pt), .val v5, .val v6, .val .null, .val .null, .unset, .unset, .unset, .unset, .unset]) rfl (XS.aconstNull X136.here hx rfl (hb hby own_d7_51) (XS.astore X136.here hx rfl (hb hby own_d7_52) rfl rfl (l' := #[.val (.ref a), .val (.ref tx), .val v2, .val v3, .val (.ref pt), .val v5, .val v6, .val .null, .val .null, .val .null, .unset, .unset, .unset, .unset]) rfl k)))))) ?_
  show G (T136.setTop (mkF m 54 #[.val (.ref a), .val (.ref tx), .val v2, .val v3, .val (.ref pt), .val v5, .val v6, .val .null, .val .null, .val .null, .unset, .unset, .unset, .unset] []))
  have J137 : ∀ (T137 : State) (L137 : List Loc) (h137 : Heap) (vm137 : Vm) (kk137 : Nat) (X137 : Stand p l e ({ frames := 6, cells := 10, slots := 49, locals := 102 } : Room) (s.setVm vm137) m #[(.ref a), (.ref tx), v2, v3, (.ref pt), v5, v6] below meth c T137 L137 10 49) (e137 : T137.heap = h137) (N137 : Fr n0 L137) (K137 : Keep h136 h137 []) (hZ137 : Z.Warmed39 vm137) (hown137 : vm137.findClass "com/example/naslov/naslov/Uri" = some m.cls) (hS137 : s.Since vm137 kk137) (hk137 : kk137 ≤ h137.size) (Cc137 : CHr Z own_EL s.vm h0 vm137 h137) (u7_137 : Value) (pl137_u70 : u7_137.isRef = true) (u8_137 : Value) (pl137_u80 : u8_137.isRef = true) (u9_137 : Value) (pl137_u90 : u9_137.isRef = true) (s10_137 : Slot) (ps137_s10 : s10_137 = .unset ∨ ∃ w, s10_137 = .val w ∧ w.category = 1) (s11_137 : Slot) (ps137_s11 : s11_137 = .unset ∨ ∃ w, s11_137 = .val w ∧ w.category = 1) (s12_137 : Slot) (ps137_s12 : s12_137 = .unset ∨ ∃ w, s12_137 = .val w ∧ w.category = 1) (s13_137 : Slot) (ps137_s13 : s13_137 = .unset ∨ ∃ w, s13_137 = .val w ∧ w.category = 1), G (T137.setTop (mkF m 178 #[.val (.ref a), .val (.ref tx), .val v2, .val v3, .val (.ref pt), .val v5, .val v6, .val u7_137, .val u8_137, .val u9_137, s10_137, s11_137, s12_137, s13_137] [])) := by
    intro T137 L137 h137 vm137 kk137 X137 e137 N137 K137 hZ137 hown137 hS137 hk137 Cc137 u7_137 pl137_u70 u8_137 pl137_u80 u9_137 pl137_u90 s10_137 ps137_s10 s11_137 ps137_s11 s12_137 ps137_s12 s13_137 ps137_s13
    show G (T137.setTop (mkF m 178 #[.val (.ref a), .val (.ref tx), .val v2, .val v3, .val (.ref pt), .val v5, .val v6, .val u7_137, .val u8_137, .val u9_137, s10_137, s11_137, s12_137, s13_137] []))
    refine go _ _ (fun _ k => XS.aloadN X137.here hx rfl (hb hby own_d7_178) rfl rfl (XS.aload X137.here hx rfl (hb hby own_d7_179) rfl pl137_u70 k)) ?_
    show G (T137.setTop (mkF m 181 #[.val (.ref a), .val (.ref tx), .val v2, .val v3, .val (.ref pt), .val v5, .val v6, .val u7_137, .val u8_137, .val u9_137, s10_137, s11_137, s12_137, s13_137] [u7_137, (.ref a)]))
    have K139 : Keep h136 h137 [] := (Keep.refl h136 []).trans K137 all0
    have F140 : Fld Z h137 a "com/example/naslov/naslov/Uri" "userInfo" "Ljava/lang/String;" .null := ((((F132.other W123 (Or.inr (RoadKit.slot_ne (t := (.object "java/lang/String")) (t' := (.object "java/lang/String")) (Or.inr (ow hw 63 rfl)) (Or.inr (ow hw 57 rfl)) (by decide) (by decide) (by decide)))).other W135 (Or.inr (RoadKit.slot_ne (t := (.object "java/lang/String")) (t' := (.object "java/lang/String")) (Or.inr (ow hw 63 rfl)) (Or.inr (ow hw 59 rfl)) (by decide) (by decide) (by decide)))).other W136 (Or.inr (RoadKit.slot_ne (t := (.object "java/lang/String")) (t' := (.object "java/lang/String")) (Or.inr (ow hw 63 rfl)) (Or.inr (ow hw 61 rfl)) (by decide) (by decide) (by decide)))).keep K139 nin0)
    have F141 : Exa Z h137 a "com/example/naslov/naslov/Uri" := ((((F126.wr W123).wr W135).wr W136).keep K139)
    obtain ⟨T138, h138, X138, e138, W138, st138⟩ := putF X137 hx hZ137 hown137 (host := "") (Or.inl (ow hw 62 rfl)) Via.refl e137 F140 F141 (Or.inr ⟨(ow hw 63 rfl), rfl, hnm⟩) (ow hw 35 rfl) (ty := (.object "java/lang/String")) (by decide) own_narR (own_fitR pl137_u70) (g := (mkF m 181 #[.val (.ref a), .val (.ref tx), .val v2, .val v3, .val (.ref pt), .val v5, .val v6, .val u7_137, .val u8_137, .val u9_137, s10_137, s11_137, s12_137, s13_137] [u7_137, (.ref a)])) rfl rfl (hb hby own_d7_181)
    have F142 : Fld Z h137 a "com/example/naslov/naslov/Uri" "text" "Ljava/lang/String;" (.ref tx) := ((((F127.other W123 (Or.inr (RoadKit.slot_ne (t := (.object "java/lang/String")) (t' := (.object "java/lang/String")) (Or.inr (ow hw 45 rfl)) (Or.inr (ow hw 57 rfl)) (by decide) (by decide) (by decide)))).other W135 (Or.inr (RoadKit.slot_ne (t := (.object "java/lang/String")) (t' := (.object "java/lang/String")) (Or.inr (ow hw 45 rfl)) (Or.inr (ow hw 59 rfl)) (by decide) (by decide) (by decide)))).other W136 (Or.inr (RoadKit.slot_ne (t := (.object "java/lang/String")) (t' := (.object "java/lang/String")) (Or.inr (ow hw 45 rfl)) (Or.inr (ow hw 61 rfl)) (by decide) (by decide) (by decide)))).keep K139 nin0)
    have F143 : Fld Z h137 a "com/example/naslov/naslov/Uri" "scheme" "Ljava/lang/String;" v2 := ((((F128.other W123 (Or.inr (RoadKit.slot_ne (t := (.object "java/lang/String")) (t' := (.object "java/lang/String")) (Or.inr (ow hw 47 rfl)) (Or.inr (ow hw 57 rfl)) (by decide) (by decide) (by decide)))).other W135 (Or.inr (RoadKit.slot_ne (t := (.object "java/lang/String")) (t' := (.object "java/lang/String")) (Or.inr (ow hw 47 rfl)) (Or.inr (ow hw 59 rfl)) (by decide) (by decide) (by decide)))).other W136 (Or.inr (RoadKit.slot_ne (t := (.object "java/lang/String")) (t' := (.object "java/lang/String")) (Or.inr (ow hw 47 rfl)) (Or.inr (ow hw 61 rfl)) (by decide) (by decide) (by decide)))).keep K139 nin0)
    have F144 : Fld Z h137 a "com/example/naslov/naslov/Uri" "authority" "Ljava/lang/String;" v3 := ((((F129.other W123 (Or.inr (RoadKit.slot_ne (t := (.object "java/lang/String")) (t' := (.object "java/lang/String")) (Or.inr (ow hw 49 rfl)) (Or.inr (ow hw 57 rfl)) (by decide) (by decide) (by decide)))).other W135 (Or.inr (RoadKit.slot_ne (t := (.object "java/lang/String")) (t' := (.object "java/lang/String")) (Or.inr (ow hw 49 rfl)) (Or.inr (ow hw 59 rfl)) (by decide) (by decide) (by decide)))).other W136 (Or.inr (RoadKit.slot_ne (t := (.object "java/lang/String")) (t' := (.object "java/lang/String")) (Or.inr (ow hw 49 rfl)) (Or.inr (ow hw 61 rfl)) (by decide) (by decide) (by decide)))).keep K139 nin0)
    have F145 : Fld Z h137 a "com/example/naslov/naslov/Uri" "path" "Ljava/lang/String;" (.ref pt) := ((((F125.same W123).other W135 (Or.inr (RoadKit.slot_ne (t := (.object "java/lang/String")) (t' := (.object "java/lang/String")) (Or.inr (ow hw 57 rfl)) (Or.inr (ow hw 59 rfl)) (by decide) (by decide) (by decide)))).other W136 (Or.inr (RoadKit.slot_ne (t := (.object "java/lang/String")) (t' := (.object "java/lang/String")) (Or.inr (ow hw 57 rfl)) (Or.inr (ow hw 61 rfl)) (by decide) (by decide) (by decide)))).keep K139 nin0)
    have F146 : Fld Z h137 a "com/example/naslov/naslov/Uri" "query" "Ljava/lang/String;" v5 := ((((F130.other W123 (Or.inr (RoadKit.slot_ne (t := (.object "java/lang/String")) (t' := (.object "java/lang/String")) (Or.inr (ow hw 59 rfl)) (Or.inr (ow hw 57 rfl)) (by decide) (by decide) (by decide)))).same W135).other W136 (Or.inr (RoadKit.slot_ne (t := (.object "java/lang/String")) (t' := (.object "java/lang/String")) (Or.inr (ow hw 59 rfl)) (Or.inr (ow hw 61 rfl)) (by decide) (by decide) (by decide)))).keep K139 nin0)
    have F147 : Fld Z h137 a "com/example/naslov/naslov/Uri" "fragment" "Ljava/lang/String;" v6 := ((((F131.other W123 (Or.inr (RoadKit.slot_ne (t := (.object "java/lang/String")) (t' := (.object "java/lang/String")) (Or.inr (ow hw 61 rfl)) (Or.inr (ow hw 57 rfl)) (by decide) (by decide) (by decide)))).other W135 (Or.inr (RoadKit.slot_ne (t := (.object "java/lang/String")) (t' := (.object "java/lang/String")) (Or.inr (ow hw 61 rfl)) (Or.inr (ow hw 59 rfl)) (by decide) (by decide) (by decide)))).same W136).keep K139 nin0)
    have F148 : Fld Z h137 a "com/example/naslov/naslov/Uri" "host" "Ljava/lang/String;" .null := ((((F133.other W123 (Or.inr (RoadKit.slot_ne (t := (.object "java/lang/String")) (t' := (.object "java/lang/String")) (Or.inr (ow hw 65 rfl)) (Or.inr (ow hw 57 rfl)) (by decide) (by decide) (by decide)))).other W135 (Or.inr (RoadKit.slot_ne (t := (.object "java/lang/String")) (t' := (.object "java/lang/String")) (Or.inr (ow hw 65 rfl)) (Or.inr (ow hw 59 rfl)) (by decide) (by decide) (by decide)))).other W136 (Or.inr (RoadKit.slot_ne (t := (.object "java/lang/String")) (t' := (.object "java/lang/String")) (Or.inr (ow hw 65 rfl)) (Or.inr (ow hw 61 rfl)) (by decide) (by decide) (by decide)))).keep K139 nin0)
    have F149 : Fld Z h137 a "com/example/naslov/naslov/Uri" "port" "Ljava/lang/String;" .null := ((((F134.other W123 (Or.inr (RoadKit.slot_ne (t := (.object "java/lang/String")) (t' := (.object "java/lang/String")) (Or.inr (ow hw 67 rfl)) (Or.inr (ow hw 57 rfl)) (by decide) (by decide) (by decide)))).other W135 (Or.inr (RoadKit.slot_ne (t := (.object "java/lang/String")) (t' := (.object "java/lang/String")) (Or.inr (ow hw 67 rfl)) (Or.inr (ow hw 59 rfl)) (by decide) (by decide) (by decide)))).other W136 (Or.inr (RoadKit.slot_ne (t := (.object "java/lang/String")) (t' := (.object "java/lang/String")) (Or.inr (ow hw 67 rfl)) (Or.inr (ow hw 61 rfl)) (by decide) (by decide) (by decide)))).keep K139 nin0)
    have N138 := Fr.snoc X138 N137 gz_a
    refine go _ _ (st138) ?_
    show G (T138.setTop (mkF m 184 #[.val (.ref a), .val (.ref tx), .val v2, .val v3, .val (.ref pt), .val v5, .val v6, .val u7_137, .val u8_137, .val u9_137, s10_137, s11_137, s12_137, s13_137] []))
    refine go _ _ (fun _ k => XS.aloadN X138.here hx rfl (hb hby own_d7_184) rfl rfl (XS.aload X138.here hx rfl (hb hby own_d7_185) rfl pl137_u80 k)) ?_
    show G (T138.setTop (mkF m 187 #[.val (.ref a), .val (.ref tx), .val v2, .val v3, .val (.ref pt), .val v5, .val v6, .val u7_137, .val u8_137, .val u9_137, s10_137, s11_137, s12_137, s13_137] [u8_137, (.ref a)]))
    obtain ⟨T150, h150, X150, e150, W150, st150⟩ := putF X138 hx hZ137 hown137 (host := "") (Or.inl (ow hw 64 rfl)) Via.refl e138 (F148.other W138 (Or.inr (RoadKit.slot_ne (t := (.object "java/lang/String")) (t' := (.object "java/lang/String")) (Or.inr (ow hw 65 rfl)) (Or.inr (ow hw 63 rfl)) (by decide) (by decide) (by decide)))) (F141.wr W138) (Or.inr ⟨(ow hw 65 rfl), rfl, hnm⟩) (ow hw 35 rfl) (ty := (.object "java/lang/String")) (by decide) own_narR (own_fitR pl137_u80) (g := (mkF m 187 #[.val (.ref a), .val (.ref tx), .val v2, .val v3, .val (.ref pt), .val v5, .val v6, .val u7_137, .val u8_137, .val u9_137, s10_137, s11_137, s12_137, s13_137] [u8_137, (.ref a)])) rfl rfl (hb hby own_d7_187)
    have N150 := Fr.snoc X150 N138 gz_a
    refine go _ _ (st150) ?_
    show G (T150.setTop (mkF m 190 #[.val (.ref a), .val (.ref tx), .val v2, .val v3, .val (.ref pt), .val v5, .val v6, .val u7_137, .val u8_137, .val u9_137, s10_137, s11_137, s12_137, s13_137] []))
    refine go _ _ (fun _ k => XS.aloadN X150.here hx rfl (hb hby own_d7_190) rfl rfl (XS.aload X150.here hx rfl (hb hby own_d7_191) rfl pl137_u90 k)) ?_
    show G (T150.setTop (mkF m 193 #[.val (.ref a), .val (.ref tx), .val v2, .val v3, .val (.ref pt), .val v5, .val v6, .val u7_137, .val u8_137, .val u9_137, s10_137, s11_137, s12_137, s13_137] [u9_137, (.ref a)]))
    obtain ⟨T151, h151, X151, e151, W151, st151⟩ := putF X150 hx hZ137 hown137 (host := "") (Or.inl (ow hw 66 rfl)) Via.refl e150 ((F149.other W138 (Or.inr (RoadKit.slot_ne (t := (.object "java/lang/String")) (t' := (.object "java/lang/String")) (Or.inr (ow hw 67 rfl)) (Or.inr (ow hw 63 rfl)) (by decide) (by decide) (by decide)))).other W150 (Or.inr (RoadKit.slot_ne (t := (.object "java/lang/String")) (t' := (.object "java/lang/String")) (Or.inr (ow hw 67 rfl)) (Or.inr (ow hw 65 rfl)) (by decide) (by decide) (by decide)))) ((F141.wr W138).wr W150) (Or.inr ⟨(ow hw 67 rfl), rfl, hnm⟩) (ow hw 35 rfl) (ty := (.object "java/lang/String")) (by decide) own_narR (own_fitR pl137_u90) (g := (mkF m 193 #[.val (.ref a), .val (.ref tx), .val v2, .val v3, .val (.ref pt), .val v5, .val v6, .val u7_137, .val u8_137, .val u9_137, s10_137, s11_137, s12_137, s13_137] [u9_137, (.ref a)])) rfl rfl (hb hby own_d7_193)
    have N151 := Fr.snoc X151 N150 gz_a
    refine go _ _ (st151) ?_
    show G (T151.setTop (mkF m 196 #[.val (.ref a), .val (.ref tx), .val v2, .val v3, .val (.ref pt), .val v5, .val v6, .val u7_137, .val u8_137, .val u9_137, s10_137, s11_137, s12_137, s13_137] []))
    have K152 : Keep h0 h123 [a] := K121.wr W123 (Or.inl (List.mem_of_getElem? (i := 0) rfl))
    have K153 : Keep h0 h135 [a] := K152.wr W135 (Or.inl (List.mem_of_getElem? (i := 0) rfl))
    have K154 : Keep h0 h136 [a] := K153.wr W136 (Or.inl (List.mem_of_getElem? (i := 0) rfl))
    have K155 : Keep h0 h137 [a] := K154.trans K137 all0
    have K156 : Keep h0 h138 [a] := K155.wr W138 (Or.inl (List.mem_of_getElem? (i := 0) rfl))
    have K157 : Keep h0 h150 [a] := K156.wr W150 (Or.inl (List.mem_of_getElem? (i := 0) rfl))
    have K158 : Keep h0 h151 [a] := K157.wr W151 (Or.inl (List.mem_of_getElem? (i := 0) rfl))
    have Sf159 : Safe Z own_EL vm137 h137 a := Safe.exa hZ137.alike F141 (by decide) (by decide)
    have C160 : CHr Z own_EL s.vm h0 vm137 h138 := Cc137.trans (CHr.wr W138 Sf159 Cc137.1)
    have Sf161 : Safe Z own_EL vm137 h138 a := Safe.exa hZ137.alike (F141.wr W138) (by decide) (by decide)
    have C162 : CHr Z own_EL s.vm h0 vm137 h150 := C160.trans (CHr.wr W150 Sf161 C160.1)
    have Sf163 : Safe Z own_EL vm137 h150 a := Safe.exa hZ137.alike ((F141.wr W138).wr W150) (by decide) (by decide)
    have C164 : CHr Z own_EL s.vm h0 vm137 h151 := C162.trans (CHr.wr W151 Sf163 C162.1)
    have Z165 : h137.size ≤ h138.size := (Keep.of_wr W138).1
    have Z166 : h137.size ≤ h150.size := Nat.le_trans Z165 (Keep.of_wr W150).1
    have Z167 : h137.size ≤ h151.size := Nat.le_trans Z166 (Keep.of_wr W151).1
    refine fin T151 _ _ _ none vm137 _ X151 hZ137 hS137 (by rw [e151]; exact (Nat.le_trans hk137 Z167)) (by rw [e151]; exact C164) (fun _ => rfl) (by decide) (by decide) (by rw [e151]; exact ⟨N151, K158, ⟨rfl, (((F141.wr W138).wr W150).wr W151), (((F142.other W138 (Or.inr (RoadKit.slot_ne (t := (.object "java/lang/String")) (t' := (.object "java/lang/String")) (Or.inr (ow hw 45 rfl)) (Or.inr (ow hw 63 rfl)) (by decide) (by decide) (by decide)))).other W150 (Or.inr (RoadKit.slot_ne (t := (.object "java/lang/String")) (t' := (.object "java/lang/String")) (Or.inr (ow hw 45 rfl)) (Or.inr (ow hw 65 rfl)) (by decide) (by decide) (by decide)))).other W151 (Or.inr (RoadKit.slot_ne (t := (.object "java/lang/String")) (t' := (.object "java/lang/String")) (Or.inr (ow hw 45 rfl)) (Or.inr (ow hw 67 rfl)) (by decide) (by decide) (by decide))))⟩⟩) _ (own_retV X151 hx hret (hb hby own_d7_196))
  rcases hv3 with rfl | rfl
  · refine go _ _ (fun _ k => XS.aloadN X136.here hx rfl (hb hby own_d7_54) rfl rfl k) ?_
    show G (T136.setTop (mkF m 55 #[.val (.ref a), .val (.ref tx), .val v2, .val .null, .val (.ref pt), .val v5, .val v6, .val .null, .val .null, .val .null, .unset, .unset, .unset, .unset] [.null]))
    refine go _ _ (fun _ k => XS.ifnullYes X136.here hx rfl (pc0 := 55) (pc' := 178) rfl (hb hby own_d7_55) rfl (by decide) (by decide) k) ?_
    show G (T136.setTop (mkF m 178 #[.val (.ref a), .val (.ref tx), .val v2, .val .null, .val (.ref pt), .val v5, .val v6, .val .null, .val .null, .val .null, .unset, .unset, .unset, .unset] []))
    have Z168 : h105.size ≤ h123.size := (Keep.of_wr W123).1
    have Z169 : h105.size ≤ h135.size := Nat.le_trans Z168 (Keep.of_wr W135).1
    have Z170 : h105.size ≤ h136.size := Nat.le_trans Z169 (Keep.of_wr W136).1
    have C171 : CHr Z own_EL s.vm h0 T105.vm h105 := C111.trans C105
    have Sf172 : Safe Z own_EL T105.vm h105 a := Safe.exa hZ105.alike F126 (by decide) (by decide)
    have C173 : CHr Z own_EL s.vm h0 T105.vm h123 := C171.trans (CHr.wr W123 Sf172 C171.1)
    have Sf174 : Safe Z own_EL T105.vm h123 a := Safe.exa hZ105.alike (F126.wr W123) (by decide) (by decide)
    have C175 : CHr Z own_EL s.vm h0 T105.vm h135 := C173.trans (CHr.wr W135 Sf174 C173.1)
    have Sf176 : Safe Z own_EL T105.vm h135 a := Safe.exa hZ105.alike ((F126.wr W123).wr W135) (by decide) (by decide)
    have C177 : CHr Z own_EL s.vm h0 T105.vm h136 := C175.trans (CHr.wr W136 Sf176 C175.1)
    exact J137 _ _ _ _ _ (X136.more (by decide) (by decide)) e136 N136 (Keep.refl h136 []) hZ105 hown105 hS105 (Nat.le_trans hk105 Z170) C177 .null rfl .null rfl .null rfl .unset (Or.inl rfl) .unset (Or.inl rfl) .unset (Or.inl rfl) .unset (Or.inl rfl)
  · have K179 : Keep h0 h123 [a] := K121.wr W123 (Or.inl (List.mem_of_getElem? (i := 0) rfl))
    have K180 : Keep h0 h135 [a] := K179.wr W135 (Or.inl (List.mem_of_getElem? (i := 0) rfl))
    have K181 : Keep h0 h136 [a] := K180.wr W136 (Or.inl (List.mem_of_getElem? (i := 0) rfl))
    have F182 : own_Ln Z h136 sb n := (own_Ln_keep1 Ls K181 Ea (by decide) (ow hw 35 rfl))
    obtain ⟨t178, kb178, vs178, Es178, Vs178, Cs178, As178, lo178, hi178⟩ := id F182
    refine go _ _ (fun _ k => XS.aloadN X136.here hx rfl (hb hby own_d7_54) rfl rfl k) ?_
    show G (T136.setTop (mkF m 55 #[.val (.ref a), .val (.ref tx), .val v2, .val (.ref sb), .val (.ref pt), .val v5, .val v6, .val .null, .val .null, .val .null, .unset, .unset, .unset, .unset] [(.ref sb)]))
    refine go _ _ (fun _ k => XS.ifnullNo X136.here hx rfl (hb hby own_d7_55) rfl k) ?_
    show G (T136.setTop (mkF m 58 #[.val (.ref a), .val (.ref tx), .val v2, .val (.ref sb), .val (.ref pt), .val v5, .val v6, .val .null, .val .null, .val .null, .unset, .unset, .unset, .unset] []))
    have J183 : ∀ (T183 : State) (L183 : List Loc) (h183 : Heap) (vm183 : Vm) (kk183 : Nat) (X183 : Stand p l e ({ frames := 6, cells := 10, slots := 49, locals := 102 } : Room) (s.setVm vm183) m #[(.ref a), (.ref tx), v2, (.ref sb), (.ref pt), v5, v6] below meth c T183 L183 4 27) (e183 : T183.heap = h183) (N183 : Fr n0 L183) (K183 : Keep h136 h183 []) (hZ183 : Z.Warmed39 vm183) (hown183 : vm183.findClass "com/example/naslov/naslov/Uri" = some m.cls) (hS183 : s.Since vm183 kk183) (hk183 : kk183 ≤ h183.size) (Cc183 : CHr Z own_EL s.vm h0 vm183 h183) (w7_183 : Value) (pl183_w70 : w7_183.isRef = true) (q10_183 : Slot) (ps183_q10 : q10_183 = .unset ∨ ∃ w, q10_183 = .val w ∧ w.category = 1) (o_183 : Int32) (pl183_o0 : ¬ o_183 < (0 : Int32)) (pl183_o1 : ¬ n < o_183), G (T183.setTop (mkF m 89 #[.val (.ref a), .val (.ref tx), .val v2, .val (.ref sb), .val (.ref pt), .val v5, .val v6, .val w7_183, .val .null, .val .null, q10_183, .val (.int o_183), .unset, .unset] [])) := by
      intro T183 L183 h183 vm183 kk183 X183 e183 N183 K183 hZ183 hown183 hS183 hk183 Cc183 w7_183 pl183_w70 q10_183 ps183_q10 o_183 pl183_o0 pl183_o1
      show G (T183.setTop (mkF m 89 #[.val (.ref a), .val (.ref tx), .val v2, .val (.ref sb), .val (.ref pt), .val v5, .val v6, .val w7_183, .val .null, .val .null, q10_183, .val (.int o_183), .unset, .unset] []))
      refine go _ _ (fun _ k => XS.iload X183.here hx rfl (hb hby own_d7_89) rfl (XS.istore X183.here hx rfl (hb hby own_d7_91) rfl (l' := #[.val (.ref a), .val (.ref tx), .val v2, .val (.ref sb), .val (.ref pt), .val v5, .val v6, .val w7_183, .val .null, .val .null, q10_183, .val (.int o_183), .val (.int o_183), .unset]) rfl k)) ?_
      show G (T183.setTop (mkF m 93 #[.val (.ref a), .val (.ref tx), .val v2, .val (.ref sb), .val (.ref pt), .val v5, .val v6, .val w7_183, .val .null, .val .null, q10_183, .val (.int o_183), .val (.int o_183), .unset] []))
      have J184 : ∀ (T184 : State) (L184 : List Loc) (h184 : Heap) (vm184 : Vm) (kk184 : Nat) (X184 : Stand p l e ({ frames := 6, cells := 10, slots := 49, locals := 102 } : Room) (s.setVm vm184) m #[(.ref a), (.ref tx), v2, (.ref sb), (.ref pt), v5, v6] below meth c T184 L184 6 35) (e184 : T184.heap = h184) (N184 : Fr n0 L184) (K184 : Keep h183 h184 []) (hZ184 : Z.Warmed39 vm184) (hown184 : vm184.findClass "com/example/naslov/naslov/Uri" = some m.cls) (hS184 : s.Since vm184 kk184) (hk184 : kk184 ≤ h184.size) (Cc184 : CHr Z own_EL s.vm h0 vm184 h184) (e2_184 : Int32) (pl184_e20 : ¬ e2_184 < o_183) (pl184_e21 : ¬ n < e2_184) (q13_184 : Slot) (ps184_q13 : q13_184 = .unset ∨ ∃ w, q13_184 = .val w ∧ w.category = 1), G (T184.setTop (mkF m 132 #[.val (.ref a), .val (.ref tx), .val v2, .val (.ref sb), .val (.ref pt), .val v5, .val v6, .val w7_183, .val .null, .val .null, q10_183, .val (.int o_183), .val (.int e2_184), q13_184] [])) := by
        intro T184 L184 h184 vm184 kk184 X184 e184 N184 K184 hZ184 hown184 hS184 hk184 Cc184 e2_184 pl184_e20 pl184_e21 q13_184 ps184_q13
        show G (T184.setTop (mkF m 132 #[.val (.ref a), .val (.ref tx), .val v2, .val (.ref sb), .val (.ref pt), .val v5, .val v6, .val w7_183, .val .null, .val .null, q10_183, .val (.int o_183), .val (.int e2_184), q13_184] []))
        refine go _ _ (fun _ k => XS.aloadN X184.here hx rfl (hb hby own_d7_132) rfl rfl (XS.bipush X184.here hx rfl (hb hby own_d7_133) (XS.iload X184.here hx rfl (hb hby own_d7_135) rfl k))) ?_
        show G (T184.setTop (mkF m 137 #[.val (.ref a), .val (.ref tx), .val v2, .val (.ref sb), .val (.ref pt), .val v5, .val v6, .val w7_183, .val .null, .val .null, q10_183, .val (.int o_183), .val (.int e2_184), q13_184] [(.int e2_184), (.int (58 : Int32)), (.ref sb)]))
        have K186 : Keep h0 h183 [a] := K181.trans K183 all0
        have K187 : Keep h0 h184 [a] := K186.trans K184 all0
        have F188 : Old Z n0 h184 := (Xo.keep K187 (allS gz_a all0))
        have K189 : Keep h136 h183 [] := (Keep.refl h136 []).trans K183 all0
        have K190 : Keep h136 h184 [] := K189.trans K184 all0
        have F191 : own_Ln Z h184 sb n := (own_Ln_keep F182 K190)
        have ha192 : ¬ e2_184 < (0 : Int32) := by
          have ar0 := own_rg e2_184
          have ar1 : (0 : Int32).toInt = 0 := rfl
          have ar2 := own_rg n
          have ar3 : (3 : Int32).toInt = 3 := rfl
          have ar4 := own_rg o_183
          have hy0 := own_nl lo178
          have hy1 := own_nl hi178
          have hy2 := own_nl pl183_o0
          have hy3 := own_nl pl183_o1
          have hy4 := own_nl pl184_e20
          have hy5 := own_nl pl184_e21
          exact own_nl' (by omega)
        have Z193 : h0.size ≤ h123.size := Nat.le_trans Z116 (Keep.of_wr W123).1
        have Z194 : h0.size ≤ h135.size := Nat.le_trans Z193 (Keep.of_wr W135).1
        have Z195 : h0.size ≤ h136.size := Nat.le_trans Z194 (Keep.of_wr W136).1
        have Z196 : h0.size ≤ h183.size := Nat.le_trans Z195 K183.1
        have Z197 : h0.size ≤ h184.size := Nat.le_trans Z196 K184.1
        have F198 : Exa Z h184 sb "java/lang/String" := (Es178.keep K190)
        obtain ⟨rv185, T185, L185, X185, q185, st185⟩ := own_vi X184 hx hZ184 (y := (⟨"java/lang/String", "indexOf", "(II)I"⟩ : MethodName)) (z := (⟨"java/lang/String", "indexOf", "(II)I"⟩ : MethodName)) hown184 (ow hw 138 rfl) (ow hw 93 rfl) (ow hw 95 rfl) (ow hw 94 rfl) (Or.inl rfl) (by decide) (own_bkN (W := 0) (rm13 l Z a0 hw z0 O2 P5 fm0 O4 R4 [] sb (58 : Int32) e2_184 n h184 n0 (Nat.le_trans Z0 Z197) F188 F191 ha192 (by decide) (by decide)) hZ184 (ow hw 96 rfl) (ow hw 6 rfl) (by decide) (by decide)) e184 F198 (g := (mkF m 137 #[.val (.ref a), .val (.ref tx), .val v2, .val (.ref sb), .val (.ref pt), .val v5, .val v6, .val w7_183, .val .null, .val .null, q10_183, .val (.int o_183), .val (.int e2_184), q13_184] [(.int e2_184), (.int (58 : Int32)), (.ref sb)])) rfl (by rw [hml]; rfl) (argsL := [(.int (58 : Int32)), (.int e2_184)]) (rest := []) rfl (lenOf own_pd2 rfl) rfl (by show 2 * 0 + _ ≤ _; exact Nat.le_of_eq rfl) (hb hby own_d7_137) (by decide) (by decide)
        obtain ⟨Nq185, e185, q185⟩ := q185
        have N185 := Fr.app N184 Nq185
        rcases q185 with rfl | ⟨r_199, rfl, p200, p201⟩
        · refine go _ _ (st185) ?_
          show G (T185.setTop (mkF m 140 #[.val (.ref a), .val (.ref tx), .val v2, .val (.ref sb), .val (.ref pt), .val v5, .val v6, .val w7_183, .val .null, .val .null, q10_183, .val (.int o_183), .val (.int e2_184), q13_184] [(.int (-1 : Int32))]))
          refine go _ _ (fun _ k => XS.istore X185.here hx rfl (hb hby own_d7_140) rfl (l' := #[.val (.ref a), .val (.ref tx), .val v2, .val (.ref sb), .val (.ref pt), .val v5, .val v6, .val w7_183, .val .null, .val .null, q10_183, .val (.int o_183), .val (.int e2_184), .val (.int (-1 : Int32))]) (XS.store1 rfl ps184_q13 rfl) (XS.iload X185.here hx rfl (hb hby own_d7_142) rfl k)) ?_
          show G (T185.setTop (mkF m 144 #[.val (.ref a), .val (.ref tx), .val v2, .val (.ref sb), .val (.ref pt), .val v5, .val v6, .val w7_183, .val .null, .val .null, q10_183, .val (.int o_183), .val (.int e2_184), .val (.int (-1 : Int32))] [(.int (-1 : Int32))]))
          refine go _ _ (fun _ k => XS.ifNo X185.here hx rfl (hb hby own_d7_144) rfl (by decide) k) ?_
          show G (T185.setTop (mkF m 147 #[.val (.ref a), .val (.ref tx), .val v2, .val (.ref sb), .val (.ref pt), .val v5, .val v6, .val w7_183, .val .null, .val .null, q10_183, .val (.int o_183), .val (.int e2_184), .val (.int (-1 : Int32))] []))
          refine go _ _ (fun _ k => XS.aloadN X185.here hx rfl (hb hby own_d7_147) rfl rfl (XS.iload X185.here hx rfl (hb hby own_d7_148) rfl k)) ?_
          show G (T185.setTop (mkF m 150 #[.val (.ref a), .val (.ref tx), .val v2, .val (.ref sb), .val (.ref pt), .val v5, .val v6, .val w7_183, .val .null, .val .null, q10_183, .val (.int o_183), .val (.int e2_184), .val (.int (-1 : Int32))] [(.int o_183), (.ref sb)]))
          obtain ⟨rv202, T202, L202, X202, q202, hZ202, hown202, hS202, C202, st202⟩ := own_viW X185 hx hZ184 (y := (⟨"java/lang/String", "substring", "(I)Ljava/lang/String;"⟩ : MethodName)) (z := (⟨"java/lang/String", "substring", "(I)Ljava/lang/String;"⟩ : MethodName)) hown184 (ow hw 139 rfl) (ow hw 140 rfl) (ow hw 142 rfl) (ow hw 141 rfl) (Or.inl rfl) (by decide) (own_bkH (W := 0) (rm24 l Z a0 hw z0 O2 P5 fm0 O4 R4 [] sb o_183 n h184 n0 (Nat.le_trans Z0 Z197) F188 F191 pl183_o0 pl183_o1) hZ184 (ow hw 143 rfl) (ow hw 6 rfl) (by decide) (by decide) (own_hEL hw) Cc184.1) e185 hS184 hk184 F198 (g := (mkF m 150 #[.val (.ref a), .val (.ref tx), .val v2, .val (.ref sb), .val (.ref pt), .val v5, .val v6, .val w7_183, .val .null, .val .null, q10_183, .val (.int o_183), .val (.int e2_184), .val (.int (-1 : Int32))] [(.int o_183), (.ref sb)])) rfl (by rw [hml]; rfl) (argsL := [(.int o_183)]) (rest := []) rfl (lenOf own_pd15 rfl) rfl (by show 2 * 0 + _ ≤ _; exact Nat.le_of_eq rfl) (hb hby own_d7_150) (by decide) (by decide)
          obtain ⟨Nq202, Kp202, ⟨r_203, rfl, f204⟩⟩ := q202
          have N202 := Fr.app N185 Nq202
          refine go _ _ (st202) ?_
          show G (T202.setTop (mkF m 153 #[.val (.ref a), .val (.ref tx), .val v2, .val (.ref sb), .val (.ref pt), .val v5, .val v6, .val w7_183, .val .null, .val .null, q10_183, .val (.int o_183), .val (.int e2_184), .val (.int (-1 : Int32))] [(.ref r_203)]))
          refine go _ _ (fun _ k => XS.astore X202.here hx rfl (hb hby own_d7_153) rfl rfl (l' := #[.val (.ref a), .val (.ref tx), .val v2, .val (.ref sb), .val (.ref pt), .val v5, .val v6, .val w7_183, .val (.ref r_203), .val .null, q10_183, .val (.int o_183), .val (.int e2_184), .val (.int (-1 : Int32))]) rfl k) ?_
          show G (T202.setTop (mkF m 155 #[.val (.ref a), .val (.ref tx), .val v2, .val (.ref sb), .val (.ref pt), .val v5, .val v6, .val w7_183, .val (.ref r_203), .val .null, q10_183, .val (.int o_183), .val (.int e2_184), .val (.int (-1 : Int32))] []))
          refine go _ _ (fun _ k => XS.goto X202.here hx rfl (pc0 := 155) (pc' := 178) rfl (hb hby own_d7_155) (by decide) (by decide) k) ?_
          show G (T202.setTop (mkF m 178 #[.val (.ref a), .val (.ref tx), .val v2, .val (.ref sb), .val (.ref pt), .val v5, .val v6, .val w7_183, .val (.ref r_203), .val .null, q10_183, .val (.int o_183), .val (.int e2_184), .val (.int (-1 : Int32))] []))
          have K205 : Keep h136 T202.heap [] := K190.trans Kp202 all0
          have C206 : CHr Z own_EL s.vm h0 T202.vm T202.heap := Cc184.trans C202
          exact J137 _ _ _ _ _ (X202.more (by decide) (by decide)) rfl N202 K205 hZ202 hown202 hS202 (Nat.le_refl _) C206 w7_183 pl183_w70 (.ref r_203) rfl .null rfl q10_183 ps183_q10 (.val (.int o_183)) (Or.inr ⟨_, rfl, rfl⟩) (.val (.int e2_184)) (Or.inr ⟨_, rfl, rfl⟩) (.val (.int (-1 : Int32))) (Or.inr ⟨_, rfl, rfl⟩)
        · refine go _ _ (st185) ?_
          show G (T185.setTop (mkF m 140 #[.val (.ref a), .val (.ref tx), .val v2, .val (.ref sb), .val (.ref pt), .val v5, .val v6, .val w7_183, .val .null, .val .null, q10_183, .val (.int o_183), .val (.int e2_184), q13_184] [(.int r_199)]))
          refine go _ _ (fun _ k => XS.istore X185.here hx rfl (hb hby own_d7_140) rfl (l' := #[.val (.ref a), .val (.ref tx), .val v2, .val (.ref sb), .val (.ref pt), .val v5, .val v6, .val w7_183, .val .null, .val .null, q10_183, .val (.int o_183), .val (.int e2_184), .val (.int r_199)]) (XS.store1 rfl ps184_q13 rfl) (XS.iload X185.here hx rfl (hb hby own_d7_142) rfl k)) ?_
          show G (T185.setTop (mkF m 144 #[.val (.ref a), .val (.ref tx), .val v2, .val (.ref sb), .val (.ref pt), .val v5, .val v6, .val w7_183, .val .null, .val .null, q10_183, .val (.int o_183), .val (.int e2_184), .val (.int r_199)] [(.int r_199)]))
          by_cases hc144_207 : r_199 < (0 : Int32)
          · refine go _ _ (fun _ k => XS.ifNo X185.here hx rfl (hb hby own_d7_144) rfl ((if0 _ _).trans (tlt hc144_207).2.1) k) ?_
            show G (T185.setTop (mkF m 147 #[.val (.ref a), .val (.ref tx), .val v2, .val (.ref sb), .val (.ref pt), .val v5, .val v6, .val w7_183, .val .null, .val .null, q10_183, .val (.int o_183), .val (.int e2_184), .val (.int r_199)] []))
            refine go _ _ (fun _ k => XS.aloadN X185.here hx rfl (hb hby own_d7_147) rfl rfl (XS.iload X185.here hx rfl (hb hby own_d7_148) rfl k)) ?_
            show G (T185.setTop (mkF m 150 #[.val (.ref a), .val (.ref tx), .val v2, .val (.ref sb), .val (.ref pt), .val v5, .val v6, .val w7_183, .val .null, .val .null, q10_183, .val (.int o_183), .val (.int e2_184), .val (.int r_199)] [(.int o_183), (.ref sb)]))
            obtain ⟨rv208, T208, L208, X208, q208, hZ208, hown208, hS208, C208, st208⟩ := own_viW X185 hx hZ184 (y := (⟨"java/lang/String", "substring", "(I)Ljava/lang/String;"⟩ : MethodName)) (z := (⟨"java/lang/String", "substring", "(I)Ljava/lang/String;"⟩ : MethodName)) hown184 (ow hw 139 rfl) (ow hw 140 rfl) (ow hw 142 rfl) (ow hw 141 rfl) (Or.inl rfl) (by decide) (own_bkH (W := 0) (rm24 l Z a0 hw z0 O2 P5 fm0 O4 R4 [] sb o_183 n h184 n0 (Nat.le_trans Z0 Z197) F188 F191 pl183_o0 pl183_o1) hZ184 (ow hw 143 rfl) (ow hw 6 rfl) (by decide) (by decide) (own_hEL hw) Cc184.1) e185 hS184 hk184 F198 (g := (mkF m 150 #[.val (.ref a), .val (.ref tx), .val v2, .val (.ref sb), .val (.ref pt), .val v5, .val v6, .val w7_183, .val .null, .val .null, q10_183, .val (.int o_183), .val (.int e2_184), .val (.int r_199)] [(.int o_183), (.ref sb)])) rfl (by rw [hml]; rfl) (argsL := [(.int o_183)]) (rest := []) rfl (lenOf own_pd15 rfl) rfl (by show 2 * 0 + _ ≤ _; exact Nat.le_of_eq rfl) (hb hby own_d7_150) (by decide) (by decide)
            obtain ⟨Nq208, Kp208, ⟨r_209, rfl, f210⟩⟩ := q208
            have N208 := Fr.app N185 Nq208
            refine go _ _ (st208) ?_
            show G (T208.setTop (mkF m 153 #[.val (.ref a), .val (.ref tx), .val v2, .val (.ref sb), .val (.ref pt), .val v5, .val v6, .val w7_183, .val .null, .val .null, q10_183, .val (.int o_183), .val (.int e2_184), .val (.int r_199)] [(.ref r_209)]))
            refine go _ _ (fun _ k => XS.astore X208.here hx rfl (hb hby own_d7_153) rfl rfl (l' := #[.val (.ref a), .val (.ref tx), .val v2, .val (.ref sb), .val (.ref pt), .val v5, .val v6, .val w7_183, .val (.ref r_209), .val .null, q10_183, .val (.int o_183), .val (.int e2_184), .val (.int r_199)]) rfl k) ?_
            show G (T208.setTop (mkF m 155 #[.val (.ref a), .val (.ref tx), .val v2, .val (.ref sb), .val (.ref pt), .val v5, .val v6, .val w7_183, .val (.ref r_209), .val .null, q10_183, .val (.int o_183), .val (.int e2_184), .val (.int r_199)] []))
            refine go _ _ (fun _ k => XS.goto X208.here hx rfl (pc0 := 155) (pc' := 178) rfl (hb hby own_d7_155) (by decide) (by decide) k) ?_
            show G (T208.setTop (mkF m 178 #[.val (.ref a), .val (.ref tx), .val v2, .val (.ref sb), .val (.ref pt), .val v5, .val v6, .val w7_183, .val (.ref r_209), .val .null, q10_183, .val (.int o_183), .val (.int e2_184), .val (.int r_199)] []))
            have K211 : Keep h136 T208.heap [] := K190.trans Kp208 all0
            have C212 : CHr Z own_EL s.vm h0 T208.vm T208.heap := Cc184.trans C208
            exact J137 _ _ _ _ _ (X208.more (by decide) (by decide)) rfl N208 K211 hZ208 hown208 hS208 (Nat.le_refl _) C212 w7_183 pl183_w70 (.ref r_209) rfl .null rfl q10_183 ps183_q10 (.val (.int o_183)) (Or.inr ⟨_, rfl, rfl⟩) (.val (.int e2_184)) (Or.inr ⟨_, rfl, rfl⟩) (.val (.int r_199)) (Or.inr ⟨_, rfl, rfl⟩)
          · refine go _ _ (fun _ k => XS.ifYes X185.here hx rfl (pc0 := 144) (pc' := 158) rfl (hb hby own_d7_144) rfl ((if0 _ _).trans (flt hc144_207).2.1) (by decide) (by decide) k) ?_
            show G (T185.setTop (mkF m 158 #[.val (.ref a), .val (.ref tx), .val v2, .val (.ref sb), .val (.ref pt), .val v5, .val v6, .val w7_183, .val .null, .val .null, q10_183, .val (.int o_183), .val (.int e2_184), .val (.int r_199)] []))
            refine go _ _ (fun _ k => XS.aloadN X185.here hx rfl (hb hby own_d7_158) rfl rfl (XS.iload X185.here hx rfl (hb hby own_d7_159) rfl (XS.iload X185.here hx rfl (hb hby own_d7_161) rfl k))) ?_
            show G (T185.setTop (mkF m 163 #[.val (.ref a), .val (.ref tx), .val v2, .val (.ref sb), .val (.ref pt), .val v5, .val v6, .val w7_183, .val .null, .val .null, q10_183, .val (.int o_183), .val (.int e2_184), .val (.int r_199)] [(.int r_199), (.int o_183), (.ref sb)]))
            have ha214 : ¬ r_199 < o_183 := by
              have ar0 := own_rg r_199
              have ar1 := own_rg o_183
              have ar2 := own_rg n
              have ar3 : (0 : Int32).toInt = 0 := rfl
              have ar4 : (3 : Int32).toInt = 3 := rfl
              have ar5 := own_rg e2_184
              have hy0 := own_nl lo178
              have hy1 := own_nl hi178
              have hy2 := own_nl pl183_o0
              have hy3 := own_nl pl183_o1
              have hy4 := own_nl pl184_e20
              have hy5 := own_nl pl184_e21
              have hy6 := own_nl ha192
              have hy7 := own_nl p200
              have hy8 := own_l p201
              have hy9 := own_nl hc144_207
              exact own_nl' (by omega)
            have ha215 : ¬ n < r_199 := by
              have ar0 := own_rg n
              have ar1 := own_rg r_199
              have ar2 : (0 : Int32).toInt = 0 := rfl
              have ar3 : (3 : Int32).toInt = 3 := rfl
              have ar4 := own_rg o_183
              have ar5 := own_rg e2_184
              have hy0 := own_nl lo178
              have hy1 := own_nl hi178
              have hy2 := own_nl pl183_o0
              have hy3 := own_nl pl183_o1
              have hy4 := own_nl pl184_e20
              have hy5 := own_nl pl184_e21
              have hy6 := own_nl ha192
              have hy7 := own_nl p200
              have hy8 := own_l p201
              have hy9 := own_nl hc144_207
              have hy10 := own_nl ha214
              exact own_nl' (by omega)
            obtain ⟨rv213, T213, L213, X213, q213, hZ213, hown213, hS213, C213, st213⟩ := own_viW X185 hx hZ184 (y := (⟨"java/lang/String", "substring", "(II)Ljava/lang/String;"⟩ : MethodName)) (z := (⟨"java/lang/String", "substring", "(II)Ljava/lang/String;"⟩ : MethodName)) hown184 (ow hw 169 rfl) (ow hw 145 rfl) (ow hw 147 rfl) (ow hw 146 rfl) (Or.inl rfl) (by decide) (own_bkH (W := 0) (rm25 l Z a0 hw z0 O2 P5 fm0 O4 R4 [] sb o_183 r_199 n h184 n0 (Nat.le_trans Z0 Z197) F188 F191 pl183_o0 ha214 ha215) hZ184 (ow hw 148 rfl) (ow hw 6 rfl) (by decide) (by decide) (own_hEL hw) Cc184.1) e185 hS184 hk184 F198 (g := (mkF m 163 #[.val (.ref a), .val (.ref tx), .val v2, .val (.ref sb), .val (.ref pt), .val v5, .val v6, .val w7_183, .val .null, .val .null, q10_183, .val (.int o_183), .val (.int e2_184), .val (.int r_199)] [(.int r_199), (.int o_183), (.ref sb)])) rfl (by rw [hml]; rfl) (argsL := [(.int o_183), (.int r_199)]) (rest := []) rfl (lenOf own_pd13 rfl) rfl (by show 2 * 0 + _ ≤ _; exact Nat.le_of_eq rfl) (hb hby own_d7_163) (by decide) (by decide)
            obtain ⟨Nq213, Kp213, ⟨r_216, rfl, f217⟩⟩ := q213
            have N213 := Fr.app N185 Nq213
            refine go _ _ (st213) ?_
            show G (T213.setTop (mkF m 166 #[.val (.ref a), .val (.ref tx), .val v2, .val (.ref sb), .val (.ref pt), .val v5, .val v6, .val w7_183, .val .null, .val .null, q10_183, .val (.int o_183), .val (.int e2_184), .val (.int r_199)] [(.ref r_216)]))
            refine go _ _ (fun _ k => XS.astore X213.here hx rfl (hb hby own_d7_166) rfl rfl (l' := #[.val (.ref a), .val (.ref tx), .val v2, .val (.ref sb), .val (.ref pt), .val v5, .val v6, .val w7_183, .val (.ref r_216), .val .null, q10_183, .val (.int o_183), .val (.int e2_184), .val (.int r_199)]) rfl (XS.aloadN X213.here hx rfl (hb hby own_d7_168) rfl rfl (XS.iload X213.here hx rfl (hb hby own_d7_169) rfl (XS.iconst X213.here hx rfl (hb hby own_d7_171) (XS.iadd X213.here hx rfl (hb hby own_d7_172) rfl k))))) ?_
            show G (T213.setTop (mkF m 173 #[.val (.ref a), .val (.ref tx), .val v2, .val (.ref sb), .val (.ref pt), .val v5, .val v6, .val w7_183, .val (.ref r_216), .val .null, q10_183, .val (.int o_183), .val (.int e2_184), .val (.int r_199)] [(.int (r_199 + (1 : Int32))), (.ref sb)]))
            have K219 : Keep h184 T213.heap [] := (Keep.refl h184 []).trans Kp213 all0
            have F220 : Old Z n0 T213.heap := (F188.keep K219 all0)
            have F221 : own_Ln Z T213.heap sb n := (own_Ln_keep F191 K219)
            have ha222 : ¬ (r_199 + (1 : Int32)) < (0 : Int32) := by
              have ar0 := own_rg r_199
              have ar1 : (1 : Int32).toInt = 1 := rfl
              have ar2 := c_iadd r_199 (1 : Int32)
              have ar3 := own_rg (r_199 + (1 : Int32))
              have ar4 : (0 : Int32).toInt = 0 := rfl
              have ar5 := own_rg n
              have ar6 : (3 : Int32).toInt = 3 := rfl
              have ar7 := own_rg o_183
              have ar8 := own_rg e2_184
              have hy0 := own_nl lo178
              have hy1 := own_nl hi178
              have hy2 := own_nl pl183_o0
              have hy3 := own_nl pl183_o1
              have hy4 := own_nl pl184_e20
              have hy5 := own_nl pl184_e21
              have hy6 := own_nl ha192
              have hy7 := own_nl p200
              have hy8 := own_l p201
              have hy9 := own_nl hc144_207
              have hy10 := own_nl ha214
              have hy11 := own_nl ha215
              exact own_nl' (by omega)
            have ha223 : ¬ n < (r_199 + (1 : Int32)) := by
              have ar0 := own_rg n
              have ar1 := own_rg r_199
              have ar2 : (1 : Int32).toInt = 1 := rfl
              have ar3 := c_iadd r_199 (1 : Int32)
              have ar4 := own_rg (r_199 + (1 : Int32))
              have ar5 : (0 : Int32).toInt = 0 := rfl
              have ar6 : (3 : Int32).toInt = 3 := rfl
              have ar7 := own_rg o_183
              have ar8 := own_rg e2_184
              have hy0 := own_nl lo178
              have hy1 := own_nl hi178
              have hy2 := own_nl pl183_o0
              have hy3 := own_nl pl183_o1
              have hy4 := own_nl pl184_e20
              have hy5 := own_nl pl184_e21
              have hy6 := own_nl ha192
              have hy7 := own_nl p200
              have hy8 := own_l p201
              have hy9 := own_nl hc144_207
              have hy10 := own_nl ha214
              have hy11 := own_nl ha215
              have hy12 := own_nl ha222
              exact own_nl' (by omega)
            have Z224 : h0.size ≤ T213.heap.size := Nat.le_trans Z197 Kp213.1
            have C225 : CHr Z own_EL s.vm h0 T213.vm T213.heap := Cc184.trans C213
            have F226 : Exa Z T213.heap sb "java/lang/String" := (F198.keep K219)
            obtain ⟨rv218, T218, L218, X218, q218, hZ218, hown218, hS218, C218, st218⟩ := own_viW X213 hx hZ213 (y := (⟨"java/lang/String", "substring", "(I)Ljava/lang/String;"⟩ : MethodName)) (z := (⟨"java/lang/String", "substring", "(I)Ljava/lang/String;"⟩ : MethodName)) hown213 (ow hw 139 rfl) (ow hw 140 rfl) (ow hw 142 rfl) (ow hw 141 rfl) (Or.inl rfl) (by decide) (own_bkH (W := 0) (rm24 l Z a0 hw z0 O2 P5 fm0 O4 R4 [] sb (r_199 + (1 : Int32)) n T213.heap n0 (Nat.le_trans Z0 Z224) F220 F221 ha222 ha223) hZ213 (ow hw 143 rfl) (ow hw 6 rfl) (by decide) (by decide) (own_hEL hw) C225.1) rfl hS213 (Nat.le_refl _) F226 (g := (mkF m 173 #[.val (.ref a), .val (.ref tx), .val v2, .val (.ref sb), .val (.ref pt), .val v5, .val v6, .val w7_183, .val (.ref r_216), .val .null, q10_183, .val (.int o_183), .val (.int e2_184), .val (.int r_199)] [(.int (r_199 + (1 : Int32))), (.ref sb)])) rfl (by rw [hml]; rfl) (argsL := [(.int (r_199 + (1 : Int32)))]) (rest := []) rfl (lenOf own_pd15 rfl) rfl (by show 2 * 0 + _ ≤ _; exact Nat.le_of_eq rfl) (hb hby own_d7_173) (by decide) (by decide)
            obtain ⟨Nq218, Kp218, ⟨r_227, rfl, f228⟩⟩ := q218
            have N218 := Fr.app N213 Nq218
            refine go _ _ (st218) ?_
            show G (T218.setTop (mkF m 176 #[.val (.ref a), .val (.ref tx), .val v2, .val (.ref sb), .val (.ref pt), .val v5, .val v6, .val w7_183, .val (.ref r_216), .val .null, q10_183, .val (.int o_183), .val (.int e2_184), .val (.int r_199)] [(.ref r_227)]))
            refine go _ _ (fun _ k => XS.astore X218.here hx rfl (hb hby own_d7_176) rfl rfl (l' := #[.val (.ref a), .val (.ref tx), .val v2, .val (.ref sb), .val (.ref pt), .val v5, .val v6, .val w7_183, .val (.ref r_216), .val (.ref r_227), q10_183, .val (.int o_183), .val (.int e2_184), .val (.int r_199)]) rfl k) ?_
            show G (T218.setTop (mkF m 178 #[.val (.ref a), .val (.ref tx), .val v2, .val (.ref sb), .val (.ref pt), .val v5, .val v6, .val w7_183, .val (.ref r_216), .val (.ref r_227), q10_183, .val (.int o_183), .val (.int e2_184), .val (.int r_199)] []))
            have K229 : Keep h136 T213.heap [] := K190.trans Kp213 all0
            have K230 : Keep h136 T218.heap [] := K229.trans Kp218 all0
            have C231 : CHr Z own_EL s.vm h0 T218.vm T218.heap := C225.trans C218
            exact J137 _ _ _ _ _ (X218.more (by decide) (by decide)) rfl N218 K230 hZ218 hown218 hS218 (Nat.le_refl _) C231 w7_183 pl183_w70 (.ref r_216) rfl (.ref r_227) rfl q10_183 ps183_q10 (.val (.int o_183)) (Or.inr ⟨_, rfl, rfl⟩) (.val (.int e2_184)) (Or.inr ⟨_, rfl, rfl⟩) (.val (.int r_199)) (Or.inr ⟨_, rfl, rfl⟩)
      refine go _ _ (fun _ k => XS.aloadN X183.here hx rfl (hb hby own_d7_93) rfl rfl k) ?_
      show G (T183.setTop (mkF m 94 #[.val (.ref a), .val (.ref tx), .val v2, .val (.ref sb), .val (.ref pt), .val v5, .val v6, .val w7_183, .val .null, .val .null, q10_183, .val (.int o_183), .val (.int o_183), .unset] [(.ref sb)]))
      obtain ⟨b232, T232, h232, k232, t232, kb232, X232, e232, E232, hS232, hk232, hZ232, hown232, A232, Fc232, Fv232, V232, -, -, C232, -, -, st232⟩ := ldcCH X183 hx hZ183 hown183 (ow hw 128 rfl) (own_sat hw) e183 hS183 hk183 (own_hEL hw) (List.mem_of_getElem? (i := 1) rfl) Cc183.1 (vs := [.int 91]) (z := (1 : Int32)) (by decide) (by decide) (by decide) (g := (mkF m 94 #[.val (.ref a), .val (.ref tx), .val v2, .val (.ref sb), .val (.ref pt), .val v5, .val v6, .val w7_183, .val .null, .val .null, q10_183, .val (.int o_183), .val (.int o_183), .unset] [(.ref sb)])) rfl (hb hby own_d7_94) (n := 4) (by decide) (by decide) (by decide) (by decide)
      have Sx232 : own_Str Z h232 b232 ([(91 : Int32)] : List Int32) := ⟨t232, kb232, A232, Fv232, Fc232, V232, (by decide), (by decide)⟩
      have Lx232 : own_Ln Z h232 b232 (1 : Int32) := own_Ln_of Sx232 (by decide)
      refine go _ _ (st232) ?_
      show G (T232.setTop (mkF m 96 #[.val (.ref a), .val (.ref tx), .val v2, .val (.ref sb), .val (.ref pt), .val v5, .val v6, .val w7_183, .val .null, .val .null, q10_183, .val (.int o_183), .val (.int o_183), .unset] [(.ref b232), (.ref sb)]))
      refine go _ _ (fun _ k => XS.iload X232.here hx rfl (hb hby own_d7_96) rfl k) ?_
      show G (T232.setTop (mkF m 98 #[.val (.ref a), .val (.ref tx), .val v2, .val (.ref sb), .val (.ref pt), .val v5, .val v6, .val w7_183, .val .null, .val .null, q10_183, .val (.int o_183), .val (.int o_183), .unset] [(.int o_183), (.ref b232), (.ref sb)]))
      have K234 : Keep h0 h183 [a] := K181.trans K183 all0
      have K235 : Keep h0 h232 [a] := K234.ext E232
      have F236 : Old Z n0 h232 := (Xo.keep K235 (allS gz_a all0))
      have K237 : Keep h136 h183 [] := (Keep.refl h136 []).trans K183 all0
      have K238 : Keep h136 h232 [] := K237.ext E232
      have F239 : own_Ln Z h232 sb n := (own_Ln_keep F182 K238)
      have Z240 : h0.size ≤ h123.size := Nat.le_trans Z116 (Keep.of_wr W123).1
      have Z241 : h0.size ≤ h135.size := Nat.le_trans Z240 (Keep.of_wr W135).1
      have Z242 : h0.size ≤ h136.size := Nat.le_trans Z241 (Keep.of_wr W136).1
      have Z243 : h0.size ≤ h183.size := Nat.le_trans Z242 K183.1
      have Z244 : h0.size ≤ h232.size := Nat.le_trans Z243 E232.1
      have F245 : Exa Z h232 sb "java/lang/String" := (Es178.keep K238)
      obtain ⟨rv233, T233, L233, X233, q233, st233⟩ := own_vi X232 hx hZ232 (y := (⟨"java/lang/String", "startsWith", "(Ljava/lang/String;I)Z"⟩ : MethodName)) (z := (⟨"java/lang/String", "startsWith", "(Ljava/lang/String;I)Z"⟩ : MethodName)) hown232 (ow hw 129 rfl) (ow hw 130 rfl) (ow hw 132 rfl) (ow hw 131 rfl) (Or.inl rfl) (by decide) (own_bkN (W := 0) (rm22 l Z a0 hw z0 O2 P5 fm0 O4 R4 [] sb b232 o_183 n h232 n0 (Nat.le_trans Z0 Z244) F236 F239 Lx232 pl183_o0) hZ232 (ow hw 133 rfl) (ow hw 6 rfl) (by decide) (by decide)) e232 F245 (g := (mkF m 98 #[.val (.ref a), .val (.ref tx), .val v2, .val (.ref sb), .val (.ref pt), .val v5, .val v6, .val w7_183, .val .null, .val .null, q10_183, .val (.int o_183), .val (.int o_183), .unset] [(.int o_183), (.ref b232), (.ref sb)])) rfl (by rw [hml]; rfl) (argsL := [(.ref b232), (.int o_183)]) (rest := []) rfl (lenOf own_pd16 rfl) rfl (by show 2 * 0 + _ ≤ _; exact Nat.le_of_eq rfl) (hb hby own_d7_98) (by decide) (by decide)
      obtain ⟨Nq233, e233, q233⟩ := q233
      have N233 := Fr.app N183 Nq233
      rcases q233 with rfl | rfl
      · refine go _ _ (st233) ?_
        show G (T233.setTop (mkF m 101 #[.val (.ref a), .val (.ref tx), .val v2, .val (.ref sb), .val (.ref pt), .val v5, .val v6, .val w7_183, .val .null, .val .null, q10_183, .val (.int o_183), .val (.int o_183), .unset] [(.int (0 : Int32))]))
        refine go _ _ (fun _ k => XS.ifYes X233.here hx rfl (pc0 := 101) (pc' := 132) rfl (hb hby own_d7_101) rfl (by decide) (by decide) (by decide) k) ?_
        show G (T233.setTop (mkF m 132 #[.val (.ref a), .val (.ref tx), .val v2, .val (.ref sb), .val (.ref pt), .val v5, .val v6, .val w7_183, .val .null, .val .null, q10_183, .val (.int o_183), .val (.int o_183), .unset] []))
        have ha246 : ¬ o_183 < o_183 := by
          have ar0 := own_rg o_183
          have ar1 := own_rg n
          have ar2 : (0 : Int32).toInt = 0 := rfl
          have ar3 : (3 : Int32).toInt = 3 := rfl
          have hy0 := own_nl lo178
          have hy1 := own_nl hi178
          have hy2 := own_nl pl183_o0
          have hy3 := own_nl pl183_o1
          exact own_nl' (by omega)
        have K247 : Keep h183 h232 [] := (Keep.refl h183 []).ext E232
        have C248 : CHr Z own_EL s.vm h0 T232.vm h232 := Cc183.trans C232
        exact J184 _ _ _ _ _ (X233.more (by decide) (by decide)) e233 N233 K247 hZ232 hown232 hS232 hk232 C248 o_183 ha246 pl183_o1 .unset (Or.inl rfl)
      · refine go _ _ (st233) ?_
        show G (T233.setTop (mkF m 101 #[.val (.ref a), .val (.ref tx), .val v2, .val (.ref sb), .val (.ref pt), .val v5, .val v6, .val w7_183, .val .null, .val .null, q10_183, .val (.int o_183), .val (.int o_183), .unset] [(.int (1 : Int32))]))
        refine go _ _ (fun _ k => XS.ifNo X233.here hx rfl (hb hby own_d7_101) rfl (by decide) k) ?_
        show G (T233.setTop (mkF m 104 #[.val (.ref a), .val (.ref tx), .val v2, .val (.ref sb), .val (.ref pt), .val v5, .val v6, .val w7_183, .val .null, .val .null, q10_183, .val (.int o_183), .val (.int o_183), .unset] []))
        refine go _ _ (fun _ k => XS.aloadN X233.here hx rfl (hb hby own_d7_104) rfl rfl (XS.bipush X233.here hx rfl (hb hby own_d7_105) (XS.iload X233.here hx rfl (hb hby own_d7_107) rfl k))) ?_
        show G (T233.setTop (mkF m 109 #[.val (.ref a), .val (.ref tx), .val v2, .val (.ref sb), .val (.ref pt), .val v5, .val v6, .val w7_183, .val .null, .val .null, q10_183, .val (.int o_183), .val (.int o_183), .unset] [(.int o_183), (.int (93 : Int32)), (.ref sb)]))
        obtain ⟨rv249, T249, L249, X249, q249, st249⟩ := own_vi X233 hx hZ232 (y := (⟨"java/lang/String", "indexOf", "(II)I"⟩ : MethodName)) (z := (⟨"java/lang/String", "indexOf", "(II)I"⟩ : MethodName)) hown232 (ow hw 138 rfl) (ow hw 93 rfl) (ow hw 95 rfl) (ow hw 94 rfl) (Or.inl rfl) (by decide) (own_bkN (W := 0) (rm13 l Z a0 hw z0 O2 P5 fm0 O4 R4 [] sb (93 : Int32) o_183 n h232 n0 (Nat.le_trans Z0 Z244) F236 F239 pl183_o0 (by decide) (by decide)) hZ232 (ow hw 96 rfl) (ow hw 6 rfl) (by decide) (by decide)) e233 F245 (g := (mkF m 109 #[.val (.ref a), .val (.ref tx), .val v2, .val (.ref sb), .val (.ref pt), .val v5, .val v6, .val w7_183, .val .null, .val .null, q10_183, .val (.int o_183), .val (.int o_183), .unset] [(.int o_183), (.int (93 : Int32)), (.ref sb)])) rfl (by rw [hml]; rfl) (argsL := [(.int (93 : Int32)), (.int o_183)]) (rest := []) rfl (lenOf own_pd2 rfl) rfl (by show 2 * 0 + _ ≤ _; exact Nat.le_of_eq rfl) (hb hby own_d7_109) (by decide) (by decide)
        obtain ⟨Nq249, e249, q249⟩ := q249
        have N249 := Fr.app N233 Nq249
        rcases q249 with rfl | ⟨r_250, rfl, p251, p252⟩
        · refine go _ _ (st249) ?_
          show G (T249.setTop (mkF m 112 #[.val (.ref a), .val (.ref tx), .val v2, .val (.ref sb), .val (.ref pt), .val v5, .val v6, .val w7_183, .val .null, .val .null, q10_183, .val (.int o_183), .val (.int o_183), .unset] [(.int (-1 : Int32))]))
          refine go _ _ (fun _ k => XS.istore X249.here hx rfl (hb hby own_d7_112) rfl (l' := #[.val (.ref a), .val (.ref tx), .val v2, .val (.ref sb), .val (.ref pt), .val v5, .val v6, .val w7_183, .val .null, .val .null, q10_183, .val (.int o_183), .val (.int o_183), .val (.int (-1 : Int32))]) rfl (XS.iload X249.here hx rfl (hb hby own_d7_114) rfl k)) ?_
          show G (T249.setTop (mkF m 116 #[.val (.ref a), .val (.ref tx), .val v2, .val (.ref sb), .val (.ref pt), .val v5, .val v6, .val w7_183, .val .null, .val .null, q10_183, .val (.int o_183), .val (.int o_183), .val (.int (-1 : Int32))] [(.int (-1 : Int32))]))
          refine go _ _ (fun _ k => XS.ifNo X249.here hx rfl (hb hby own_d7_116) rfl (by decide) k) ?_
          show G (T249.setTop (mkF m 119 #[.val (.ref a), .val (.ref tx), .val v2, .val (.ref sb), .val (.ref pt), .val v5, .val v6, .val w7_183, .val .null, .val .null, q10_183, .val (.int o_183), .val (.int o_183), .val (.int (-1 : Int32))] []))
          refine go _ _ (fun _ k => XS.aloadN X249.here hx rfl (hb hby own_d7_119) rfl rfl k) ?_
          show G (T249.setTop (mkF m 120 #[.val (.ref a), .val (.ref tx), .val v2, .val (.ref sb), .val (.ref pt), .val v5, .val v6, .val w7_183, .val .null, .val .null, q10_183, .val (.int o_183), .val (.int o_183), .val (.int (-1 : Int32))] [(.ref sb)]))
          obtain ⟨rv253, T253, L253, X253, q253, st253⟩ := own_vi X249 hx hZ232 (y := (⟨"java/lang/String", "length", "()I"⟩ : MethodName)) (z := (⟨"java/lang/String", "length", "()I"⟩ : MethodName)) hown232 (ow hw 191 rfl) (ow hw 103 rfl) (ow hw 105 rfl) (ow hw 104 rfl) (Or.inl rfl) (by decide) (own_bkN (W := 0) (rm15 l Z a0 hw z0 O2 P5 fm0 O4 R4 [] sb n h232 n0 (Nat.le_trans Z0 Z244) F236 F239) hZ232 (ow hw 106 rfl) (ow hw 6 rfl) (by decide) (by decide)) e249 F245 (g := (mkF m 120 #[.val (.ref a), .val (.ref tx), .val v2, .val (.ref sb), .val (.ref pt), .val v5, .val v6, .val w7_183, .val .null, .val .null, q10_183, .val (.int o_183), .val (.int o_183), .val (.int (-1 : Int32))] [(.ref sb)])) rfl (by rw [hml]; rfl) (argsL := []) (rest := []) rfl (lenOf own_pd5 rfl) rfl (by show 2 * 0 + _ ≤ _; exact Nat.le_of_eq rfl) (hb hby own_d7_120) (by decide) (by decide)
          obtain ⟨Nq253, e253, rfl⟩ := q253
          have N253 := Fr.app N249 Nq253
          refine go _ _ (st253) ?_
          show G (T253.setTop (mkF m 123 #[.val (.ref a), .val (.ref tx), .val v2, .val (.ref sb), .val (.ref pt), .val v5, .val v6, .val w7_183, .val .null, .val .null, q10_183, .val (.int o_183), .val (.int o_183), .val (.int (-1 : Int32))] [(.int n)]))
          refine go _ _ (fun _ k => XS.goto X253.here hx rfl (pc0 := 123) (pc' := 130) rfl (hb hby own_d7_123) (by decide) (by decide) k) ?_
          show G (T253.setTop (mkF m 130 #[.val (.ref a), .val (.ref tx), .val v2, .val (.ref sb), .val (.ref pt), .val v5, .val v6, .val w7_183, .val .null, .val .null, q10_183, .val (.int o_183), .val (.int o_183), .val (.int (-1 : Int32))] [(.int n)]))
          refine go _ _ (fun _ k => XS.istore X253.here hx rfl (hb hby own_d7_130) rfl (l' := #[.val (.ref a), .val (.ref tx), .val v2, .val (.ref sb), .val (.ref pt), .val v5, .val v6, .val w7_183, .val .null, .val .null, q10_183, .val (.int o_183), .val (.int n), .val (.int (-1 : Int32))]) rfl k) ?_
          show G (T253.setTop (mkF m 132 #[.val (.ref a), .val (.ref tx), .val v2, .val (.ref sb), .val (.ref pt), .val v5, .val v6, .val w7_183, .val .null, .val .null, q10_183, .val (.int o_183), .val (.int n), .val (.int (-1 : Int32))] []))
          have ha254 : ¬ n < n := by
            have ar0 := own_rg n
            have ar1 : (0 : Int32).toInt = 0 := rfl
            have ar2 : (3 : Int32).toInt = 3 := rfl
            have ar3 := own_rg o_183
            have hy0 := own_nl lo178
            have hy1 := own_nl hi178
            have hy2 := own_nl pl183_o0
            have hy3 := own_nl pl183_o1
            exact own_nl' (by omega)
          have K255 : Keep h183 h232 [] := (Keep.refl h183 []).ext E232
          have C256 : CHr Z own_EL s.vm h0 T232.vm h232 := Cc183.trans C232
          exact J184 _ _ _ _ _ (X253.more (by decide) (by decide)) e253 N253 K255 hZ232 hown232 hS232 hk232 C256 n pl183_o1 ha254 (.val (.int (-1 : Int32))) (Or.inr ⟨_, rfl, rfl⟩)
        · refine go _ _ (st249) ?_
          show G (T249.setTop (mkF m 112 #[.val (.ref a), .val (.ref tx), .val v2, .val (.ref sb), .val (.ref pt), .val v5, .val v6, .val w7_183, .val .null, .val .null, q10_183, .val (.int o_183), .val (.int o_183), .unset] [(.int r_250)]))
          refine go _ _ (fun _ k => XS.istore X249.here hx rfl (hb hby own_d7_112) rfl (l' := #[.val (.ref a), .val (.ref tx), .val v2, .val (.ref sb), .val (.ref pt), .val v5, .val v6, .val w7_183, .val .null, .val .null, q10_183, .val (.int o_183), .val (.int o_183), .val (.int r_250)]) rfl (XS.iload X249.here hx rfl (hb hby own_d7_114) rfl k)) ?_
          show G (T249.setTop (mkF m 116 #[.val (.ref a), .val (.ref tx), .val v2, .val (.ref sb), .val (.ref pt), .val v5, .val v6, .val w7_183, .val .null, .val .null, q10_183, .val (.int o_183), .val (.int o_183), .val (.int r_250)] [(.int r_250)]))
          by_cases hc116_257 : r_250 < (0 : Int32)
          · refine go _ _ (fun _ k => XS.ifNo X249.here hx rfl (hb hby own_d7_116) rfl ((if0 _ _).trans (tlt hc116_257).2.1) k) ?_
            show G (T249.setTop (mkF m 119 #[.val (.ref a), .val (.ref tx), .val v2, .val (.ref sb), .val (.ref pt), .val v5, .val v6, .val w7_183, .val .null, .val .null, q10_183, .val (.int o_183), .val (.int o_183), .val (.int r_250)] []))
            refine go _ _ (fun _ k => XS.aloadN X249.here hx rfl (hb hby own_d7_119) rfl rfl k) ?_
            show G (T249.setTop (mkF m 120 #[.val (.ref a), .val (.ref tx), .val v2, .val (.ref sb), .val (.ref pt), .val v5, .val v6, .val w7_183, .val .null, .val .null, q10_183, .val (.int o_183), .val (.int o_183), .val (.int r_250)] [(.ref sb)]))
            obtain ⟨rv258, T258, L258, X258, q258, st258⟩ := own_vi X249 hx hZ232 (y := (⟨"java/lang/String", "length", "()I"⟩ : MethodName)) (z := (⟨"java/lang/String", "length", "()I"⟩ : MethodName)) hown232 (ow hw 191 rfl) (ow hw 103 rfl) (ow hw 105 rfl) (ow hw 104 rfl) (Or.inl rfl) (by decide) (own_bkN (W := 0) (rm15 l Z a0 hw z0 O2 P5 fm0 O4 R4 [] sb n h232 n0 (Nat.le_trans Z0 Z244) F236 F239) hZ232 (ow hw 106 rfl) (ow hw 6 rfl) (by decide) (by decide)) e249 F245 (g := (mkF m 120 #[.val (.ref a), .val (.ref tx), .val v2, .val (.ref sb), .val (.ref pt), .val v5, .val v6, .val w7_183, .val .null, .val .null, q10_183, .val (.int o_183), .val (.int o_183), .val (.int r_250)] [(.ref sb)])) rfl (by rw [hml]; rfl) (argsL := []) (rest := []) rfl (lenOf own_pd5 rfl) rfl (by show 2 * 0 + _ ≤ _; exact Nat.le_of_eq rfl) (hb hby own_d7_120) (by decide) (by decide)
            obtain ⟨Nq258, e258, rfl⟩ := q258
            have N258 := Fr.app N249 Nq258
            refine go _ _ (st258) ?_
            show G (T258.setTop (mkF m 123 #[.val (.ref a), .val (.ref tx), .val v2, .val (.ref sb), .val (.ref pt), .val v5, .val v6, .val w7_183, .val .null, .val .null, q10_183, .val (.int o_183), .val (.int o_183), .val (.int r_250)] [(.int n)]))
            refine go _ _ (fun _ k => XS.goto X258.here hx rfl (pc0 := 123) (pc' := 130) rfl (hb hby own_d7_123) (by decide) (by decide) k) ?_
            show G (T258.setTop (mkF m 130 #[.val (.ref a), .val (.ref tx), .val v2, .val (.ref sb), .val (.ref pt), .val v5, .val v6, .val w7_183, .val .null, .val .null, q10_183, .val (.int o_183), .val (.int o_183), .val (.int r_250)] [(.int n)]))
            refine go _ _ (fun _ k => XS.istore X258.here hx rfl (hb hby own_d7_130) rfl (l' := #[.val (.ref a), .val (.ref tx), .val v2, .val (.ref sb), .val (.ref pt), .val v5, .val v6, .val w7_183, .val .null, .val .null, q10_183, .val (.int o_183), .val (.int n), .val (.int r_250)]) rfl k) ?_
            show G (T258.setTop (mkF m 132 #[.val (.ref a), .val (.ref tx), .val v2, .val (.ref sb), .val (.ref pt), .val v5, .val v6, .val w7_183, .val .null, .val .null, q10_183, .val (.int o_183), .val (.int n), .val (.int r_250)] []))
            have ha259 : ¬ n < n := by
              have ar0 := own_rg n
              have ar1 : (0 : Int32).toInt = 0 := rfl
              have ar2 : (3 : Int32).toInt = 3 := rfl
              have ar3 := own_rg o_183
              have ar4 := own_rg r_250
              have hy0 := own_nl lo178
              have hy1 := own_nl hi178
              have hy2 := own_nl pl183_o0
              have hy3 := own_nl pl183_o1
              have hy4 := own_nl p251
              have hy5 := own_l p252
              have hy6 := own_l hc116_257
              exact own_nl' (by omega)
            have K260 : Keep h183 h232 [] := (Keep.refl h183 []).ext E232
            have C261 : CHr Z own_EL s.vm h0 T232.vm h232 := Cc183.trans C232
            exact J184 _ _ _ _ _ (X258.more (by decide) (by decide)) e258 N258 K260 hZ232 hown232 hS232 hk232 C261 n pl183_o1 ha259 (.val (.int r_250)) (Or.inr ⟨_, rfl, rfl⟩)
          · refine go _ _ (fun _ k => XS.ifYes X249.here hx rfl (pc0 := 116) (pc' := 126) rfl (hb hby own_d7_116) rfl ((if0 _ _).trans (flt hc116_257).2.1) (by decide) (by decide) k) ?_
            show G (T249.setTop (mkF m 126 #[.val (.ref a), .val (.ref tx), .val v2, .val (.ref sb), .val (.ref pt), .val v5, .val v6, .val w7_183, .val .null, .val .null, q10_183, .val (.int o_183), .val (.int o_183), .val (.int r_250)] []))
            refine go _ _ (fun _ k => XS.iload X249.here hx rfl (hb hby own_d7_126) rfl (XS.iconst X249.here hx rfl (hb hby own_d7_128) (XS.iadd X249.here hx rfl (hb hby own_d7_129) rfl (XS.istore X249.here hx rfl (hb hby own_d7_130) rfl (l' := #[.val (.ref a), .val (.ref tx), .val v2, .val (.ref sb), .val (.ref pt), .val v5, .val v6, .val w7_183, .val .null, .val .null, q10_183, .val (.int o_183), .val (.int (r_250 + (1 : Int32))), .val (.int r_250)]) rfl k)))) ?_
            show G (T249.setTop (mkF m 132 #[.val (.ref a), .val (.ref tx), .val v2, .val (.ref sb), .val (.ref pt), .val v5, .val v6, .val w7_183, .val .null, .val .null, q10_183, .val (.int o_183), .val (.int (r_250 + (1 : Int32))), .val (.int r_250)] []))
            have ha262 : ¬ (r_250 + (1 : Int32)) < o_183 := by
              have ar0 := own_rg r_250
              have ar1 : (1 : Int32).toInt = 1 := rfl
              have ar2 := c_iadd r_250 (1 : Int32)
              have ar3 := own_rg (r_250 + (1 : Int32))
              have ar4 := own_rg o_183
              have ar5 := own_rg n
              have ar6 : (0 : Int32).toInt = 0 := rfl
              have ar7 : (3 : Int32).toInt = 3 := rfl
              have hy0 := own_nl lo178
              have hy1 := own_nl hi178
              have hy2 := own_nl pl183_o0
              have hy3 := own_nl pl183_o1
              have hy4 := own_nl p251
              have hy5 := own_l p252
              have hy6 := own_nl hc116_257
              exact own_nl' (by omega)
            have ha263 : ¬ n < (r_250 + (1 : Int32)) := by
              have ar0 := own_rg n
              have ar1 := own_rg r_250
              have ar2 : (1 : Int32).toInt = 1 := rfl
              have ar3 := c_iadd r_250 (1 : Int32)
              have ar4 := own_rg (r_250 + (1 : Int32))
              have ar5 : (0 : Int32).toInt = 0 := rfl
              have ar6 : (3 : Int32).toInt = 3 := rfl
              have ar7 := own_rg o_183
              have hy0 := own_nl lo178
              have hy1 := own_nl hi178
              have hy2 := own_nl pl183_o0
              have hy3 := own_nl pl183_o1
              have hy4 := own_nl p251
              have hy5 := own_l p252
              have hy6 := own_nl hc116_257
              have hy7 := own_nl ha262
              exact own_nl' (by omega)
            have K264 : Keep h183 h232 [] := (Keep.refl h183 []).ext E232
            have C265 : CHr Z own_EL s.vm h0 T232.vm h232 := Cc183.trans C232
            exact J184 _ _ _ _ _ (X249.more (by decide) (by decide)) e249 N249 K264 hZ232 hown232 hS232 hk232 C265 (r_250 + (1 : Int32)) ha262 ha263 (.val (.int r_250)) (Or.inr ⟨_, rfl, rfl⟩)
    refine go _ _ (fun _ k => XS.aloadN X136.here hx rfl (hb hby own_d7_58) rfl rfl (XS.bipush X136.here hx rfl (hb hby own_d7_59) k)) ?_
    show G (T136.setTop (mkF m 61 #[.val (.ref a), .val (.ref tx), .val v2, .val (.ref sb), .val (.ref pt), .val v5, .val v6, .val .null, .val .null, .val .null, .unset, .unset, .unset, .unset] [(.int (64 : Int32)), (.ref sb)]))
    have F267 : Old Z n0 h136 := (Xo.keep K181 (allS gz_a all0))
    have Z268 : h0.size ≤ h123.size := Nat.le_trans Z116 (Keep.of_wr W123).1
    have Z269 : h0.size ≤ h135.size := Nat.le_trans Z268 (Keep.of_wr W135).1
    have Z270 : h0.size ≤ h136.size := Nat.le_trans Z269 (Keep.of_wr W136).1
    obtain ⟨rv266, T266, L266, X266, q266, st266⟩ := own_vi X136 hx hZ105 (y := (⟨"java/lang/String", "indexOf", "(I)I"⟩ : MethodName)) (z := (⟨"java/lang/String", "indexOf", "(I)I"⟩ : MethodName)) hown105 (ow hw 87 rfl) (ow hw 88 rfl) (ow hw 90 rfl) (ow hw 89 rfl) (Or.inl rfl) (by decide) (own_bkN (W := 0) (rm12 l Z a0 hw z0 O2 P5 fm0 O4 R4 [] sb (64 : Int32) n h136 n0 (Nat.le_trans Z0 Z270) F267 F182 (by decide) (by decide)) hZ105 (ow hw 91 rfl) (ow hw 6 rfl) (by decide) (by decide)) e136 Es178 (g := (mkF m 61 #[.val (.ref a), .val (.ref tx), .val v2, .val (.ref sb), .val (.ref pt), .val v5, .val v6, .val .null, .val .null, .val .null, .unset, .unset, .unset, .unset] [(.int (64 : Int32)), (.ref sb)])) rfl (by rw [hml]; rfl) (argsL := [(.int (64 : Int32))]) (rest := []) rfl (lenOf own_pd17 rfl) rfl (by show 2 * 0 + _ ≤ _; exact Nat.le_of_eq rfl) (hb hby own_d7_61) (by decide) (by decide)
    obtain ⟨Nq266, e266, q266⟩ := q266
    have N266 := Fr.app N136 Nq266
    rcases q266 with rfl | ⟨r_271, rfl, p272, p273⟩
    · refine go _ _ (st266) ?_
      show G (T266.setTop (mkF m 64 #[.val (.ref a), .val (.ref tx), .val v2, .val (.ref sb), .val (.ref pt), .val v5, .val v6, .val .null, .val .null, .val .null, .unset, .unset, .unset, .unset] [(.int (-1 : Int32))]))
      refine go _ _ (fun _ k => XS.istore X266.here hx rfl (hb hby own_d7_64) rfl (l' := #[.val (.ref a), .val (.ref tx), .val v2, .val (.ref sb), .val (.ref pt), .val v5, .val v6, .val .null, .val .null, .val .null, .val (.int (-1 : Int32)), .unset, .unset, .unset]) rfl (XS.iconst X266.here hx rfl (hb hby own_d7_66) (XS.istore X266.here hx rfl (hb hby own_d7_67) rfl (l' := #[.val (.ref a), .val (.ref tx), .val v2, .val (.ref sb), .val (.ref pt), .val v5, .val v6, .val .null, .val .null, .val .null, .val (.int (-1 : Int32)), .val (.int (0 : Int32)), .unset, .unset]) rfl (XS.iload X266.here hx rfl (hb hby own_d7_69) rfl k)))) ?_
      show G (T266.setTop (mkF m 71 #[.val (.ref a), .val (.ref tx), .val v2, .val (.ref sb), .val (.ref pt), .val v5, .val v6, .val .null, .val .null, .val .null, .val (.int (-1 : Int32)), .val (.int (0 : Int32)), .unset, .unset] [(.int (-1 : Int32))]))
      refine go _ _ (fun _ k => XS.ifYes X266.here hx rfl (pc0 := 71) (pc' := 89) rfl (hb hby own_d7_71) rfl (by decide) (by decide) (by decide) k) ?_
      show G (T266.setTop (mkF m 89 #[.val (.ref a), .val (.ref tx), .val v2, .val (.ref sb), .val (.ref pt), .val v5, .val v6, .val .null, .val .null, .val .null, .val (.int (-1 : Int32)), .val (.int (0 : Int32)), .unset, .unset] []))
      have Z274 : h105.size ≤ h123.size := (Keep.of_wr W123).1
      have Z275 : h105.size ≤ h135.size := Nat.le_trans Z274 (Keep.of_wr W135).1
      have Z276 : h105.size ≤ h136.size := Nat.le_trans Z275 (Keep.of_wr W136).1
      have C277 : CHr Z own_EL s.vm h0 T105.vm h105 := C111.trans C105
      have Sf278 : Safe Z own_EL T105.vm h105 a := Safe.exa hZ105.alike F126 (by decide) (by decide)
      have C279 : CHr Z own_EL s.vm h0 T105.vm h123 := C277.trans (CHr.wr W123 Sf278 C277.1)
      have Sf280 : Safe Z own_EL T105.vm h123 a := Safe.exa hZ105.alike (F126.wr W123) (by decide) (by decide)
      have C281 : CHr Z own_EL s.vm h0 T105.vm h135 := C279.trans (CHr.wr W135 Sf280 C279.1)
      have Sf282 : Safe Z own_EL T105.vm h135 a := Safe.exa hZ105.alike ((F126.wr W123).wr W135) (by decide) (by decide)
      have C283 : CHr Z own_EL s.vm h0 T105.vm h136 := C281.trans (CHr.wr W136 Sf282 C281.1)
      exact J183 _ _ _ _ _ (X266.more (by decide) (by decide)) e266 N266 (Keep.refl h136 []) hZ105 hown105 hS105 (Nat.le_trans hk105 Z276) C283 .null rfl (.val (.int (-1 : Int32))) (Or.inr ⟨_, rfl, rfl⟩) (0 : Int32) (by decide) lo178
    · refine go _ _ (st266) ?_
      show G (T266.setTop (mkF m 64 #[.val (.ref a), .val (.ref tx), .val v2, .val (.ref sb), .val (.ref pt), .val v5, .val v6, .val .null, .val .null, .val .null, .unset, .unset, .unset, .unset] [(.int r_271)]))
      refine go _ _ (fun _ k => XS.istore X266.here hx rfl (hb hby own_d7_64) rfl (l' := #[.val (.ref a), .val (.ref tx), .val v2, .val (.ref sb), .val (.ref pt), .val v5, .val v6, .val .null, .val .null, .val .null, .val (.int r_271), .unset, .unset, .unset]) rfl (XS.iconst X266.here hx rfl (hb hby own_d7_66) (XS.istore X266.here hx rfl (hb hby own_d7_67) rfl (l' := #[.val (.ref a), .val (.ref tx), .val v2, .val (.ref sb), .val (.ref pt), .val v5, .val v6, .val .null, .val .null, .val .null, .val (.int r_271), .val (.int (0 : Int32)), .unset, .unset]) rfl (XS.iload X266.here hx rfl (hb hby own_d7_69) rfl k)))) ?_
      show G (T266.setTop (mkF m 71 #[.val (.ref a), .val (.ref tx), .val v2, .val (.ref sb), .val (.ref pt), .val v5, .val v6, .val .null, .val .null, .val .null, .val (.int r_271), .val (.int (0 : Int32)), .unset, .unset] [(.int r_271)]))
      refine go _ _ (fun _ k => XS.ifNo X266.here hx rfl (hb hby own_d7_71) rfl ((if0 _ _).trans (flt p272).1) k) ?_
      show G (T266.setTop (mkF m 74 #[.val (.ref a), .val (.ref tx), .val v2, .val (.ref sb), .val (.ref pt), .val v5, .val v6, .val .null, .val .null, .val .null, .val (.int r_271), .val (.int (0 : Int32)), .unset, .unset] []))
      refine go _ _ (fun _ k => XS.aloadN X266.here hx rfl (hb hby own_d7_74) rfl rfl (XS.iconst X266.here hx rfl (hb hby own_d7_75) (XS.iload X266.here hx rfl (hb hby own_d7_76) rfl k))) ?_
      show G (T266.setTop (mkF m 78 #[.val (.ref a), .val (.ref tx), .val v2, .val (.ref sb), .val (.ref pt), .val v5, .val v6, .val .null, .val .null, .val .null, .val (.int r_271), .val (.int (0 : Int32)), .unset, .unset] [(.int r_271), (.int (0 : Int32)), (.ref sb)]))
      have ha285 : ¬ n < r_271 := by
        have ar0 := own_rg n
        have ar1 := own_rg r_271
        have ar2 : (0 : Int32).toInt = 0 := rfl
        have ar3 : (3 : Int32).toInt = 3 := rfl
        have hy0 := own_nl lo178
        have hy1 := own_nl hi178
        have hy2 := own_nl p272
        have hy3 := own_l p273
        exact own_nl' (by omega)
      have C286 : CHr Z own_EL s.vm h0 T105.vm h105 := C111.trans C105
      have Sf287 : Safe Z own_EL T105.vm h105 a := Safe.exa hZ105.alike F126 (by decide) (by decide)
      have C288 : CHr Z own_EL s.vm h0 T105.vm h123 := C286.trans (CHr.wr W123 Sf287 C286.1)
      have Sf289 : Safe Z own_EL T105.vm h123 a := Safe.exa hZ105.alike (F126.wr W123) (by decide) (by decide)
      have C290 : CHr Z own_EL s.vm h0 T105.vm h135 := C288.trans (CHr.wr W135 Sf289 C288.1)
      have Sf291 : Safe Z own_EL T105.vm h135 a := Safe.exa hZ105.alike ((F126.wr W123).wr W135) (by decide) (by decide)
      have C292 : CHr Z own_EL s.vm h0 T105.vm h136 := C290.trans (CHr.wr W136 Sf291 C290.1)
      have Z293 : h105.size ≤ h123.size := (Keep.of_wr W123).1
      have Z294 : h105.size ≤ h135.size := Nat.le_trans Z293 (Keep.of_wr W135).1
      have Z295 : h105.size ≤ h136.size := Nat.le_trans Z294 (Keep.of_wr W136).1
      obtain ⟨rv284, T284, L284, X284, q284, hZ284, hown284, hS284, C284, st284⟩ := own_viW X266 hx hZ105 (y := (⟨"java/lang/String", "substring", "(II)Ljava/lang/String;"⟩ : MethodName)) (z := (⟨"java/lang/String", "substring", "(II)Ljava/lang/String;"⟩ : MethodName)) hown105 (ow hw 169 rfl) (ow hw 145 rfl) (ow hw 147 rfl) (ow hw 146 rfl) (Or.inl rfl) (by decide) (own_bkH (W := 0) (rm25 l Z a0 hw z0 O2 P5 fm0 O4 R4 [] sb (0 : Int32) r_271 n h136 n0 (Nat.le_trans Z0 Z270) F267 F182 (by decide) p272 ha285) hZ105 (ow hw 148 rfl) (ow hw 6 rfl) (by decide) (by decide) (own_hEL hw) C292.1) e266 hS105 (Nat.le_trans hk105 Z295) Es178 (g := (mkF m 78 #[.val (.ref a), .val (.ref tx), .val v2, .val (.ref sb), .val (.ref pt), .val v5, .val v6, .val .null, .val .null, .val .null, .val (.int r_271), .val (.int (0 : Int32)), .unset, .unset] [(.int r_271), (.int (0 : Int32)), (.ref sb)])) rfl (by rw [hml]; rfl) (argsL := [(.int (0 : Int32)), (.int r_271)]) (rest := []) rfl (lenOf own_pd13 rfl) rfl (by show 2 * 0 + _ ≤ _; exact Nat.le_of_eq rfl) (hb hby own_d7_78) (by decide) (by decide)
      obtain ⟨Nq284, Kp284, ⟨r_296, rfl, f297⟩⟩ := q284
      have N284 := Fr.app N266 Nq284
      refine go _ _ (st284) ?_
      show G (T284.setTop (mkF m 81 #[.val (.ref a), .val (.ref tx), .val v2, .val (.ref sb), .val (.ref pt), .val v5, .val v6, .val .null, .val .null, .val .null, .val (.int r_271), .val (.int (0 : Int32)), .unset, .unset] [(.ref r_296)]))
      refine go _ _ (fun _ k => XS.astore X284.here hx rfl (hb hby own_d7_81) rfl rfl (l' := #[.val (.ref a), .val (.ref tx), .val v2, .val (.ref sb), .val (.ref pt), .val v5, .val v6, .val (.ref r_296), .val .null, .val .null, .val (.int r_271), .val (.int (0 : Int32)), .unset, .unset]) rfl (XS.iload X284.here hx rfl (hb hby own_d7_83) rfl (XS.iconst X284.here hx rfl (hb hby own_d7_85) (XS.iadd X284.here hx rfl (hb hby own_d7_86) rfl (XS.istore X284.here hx rfl (hb hby own_d7_87) rfl (l' := #[.val (.ref a), .val (.ref tx), .val v2, .val (.ref sb), .val (.ref pt), .val v5, .val v6, .val (.ref r_296), .val .null, .val .null, .val (.int r_271), .val (.int (r_271 + (1 : Int32))), .unset, .unset]) rfl k))))) ?_
      show G (T284.setTop (mkF m 89 #[.val (.ref a), .val (.ref tx), .val v2, .val (.ref sb), .val (.ref pt), .val v5, .val v6, .val (.ref r_296), .val .null, .val .null, .val (.int r_271), .val (.int (r_271 + (1 : Int32))), .unset, .unset] []))
      have ha298 : ¬ (r_271 + (1 : Int32)) < (0 : Int32) := by
        have ar0 := own_rg r_271
        have ar1 : (1 : Int32).toInt = 1 := rfl
        have ar2 := c_iadd r_271 (1 : Int32)
        have ar3 := own_rg (r_271 + (1 : Int32))
        have ar4 : (0 : Int32).toInt = 0 := rfl
        have ar5 := own_rg n
        have ar6 : (3 : Int32).toInt = 3 := rfl
        have hy0 := own_nl lo178
        have hy1 := own_nl hi178
        have hy2 := own_nl p272
        have hy3 := own_l p273
        have hy4 := own_nl ha285
        exact own_nl' (by omega)
      have ha299 : ¬ n < (r_271 + (1 : Int32)) := by
        have ar0 := own_rg n
        have ar1 := own_rg r_271
        have ar2 : (1 : Int32).toInt = 1 := rfl
        have ar3 := c_iadd r_271 (1 : Int32)
        have ar4 := own_rg (r_271 + (1 : Int32))
        have ar5 : (0 : Int32).toInt = 0 := rfl
        have ar6 : (3 : Int32).toInt = 3 := rfl
        have hy0 := own_nl lo178
        have hy1 := own_nl hi178
        have hy2 := own_nl p272
        have hy3 := own_l p273
        have hy4 := own_nl ha285
        have hy5 := own_nl ha298
        exact own_nl' (by omega)
      have K300 : Keep h136 T284.heap [] := (Keep.refl h136 []).trans Kp284 all0
      have C301 : CHr Z own_EL s.vm h0 T284.vm T284.heap := C292.trans C284
      exact J183 _ _ _ _ _ (X284.more (by decide) (by decide)) rfl N284 K300 hZ284 hown284 hS284 (Nat.le_refl _) C301 (.ref r_296) rfl (.val (.int r_271)) (Or.inr ⟨_, rfl, rfl⟩) (r_271 + (1 : Int32)) ha298 ha299
theorem own_d9_0 : decode prog_10_method_26_code 0 = .ok (.aload_n 1, 1) := by decide +kernel
theorem own_d9_1 : decode prog_10_method_26_code 1 = .ok (.instanceof 2, 3) := by decide +kernel
theorem own_d9_4 : decode prog_10_method_26_code 4 = .ok (.ifCond .eq 24, 3) := by decide +kernel
theorem own_d9_28 : decode prog_10_method_26_code 28 = .ok (.iconst 0, 1) := by decide +kernel
theorem own_d9_29 : decode prog_10_method_26_code 29 = .ok (.ireturn, 1) := by decide +kernel
set_option maxHeartbeats 4000000 in
theorem own_ef_rmEqN (m : MethodId) (x0 : Addr) : entryFrame m #[(.ref x0), .null] 2 = mkF m 0 #[.val (.ref x0), .val .null] [] := by rfl
set_option maxRecDepth 65536 in
set_option maxHeartbeats 40000000 in
theorem rmEqN (l : Launch) (Z : State) (a0 : Array Value) (hw : ∀ d ∈ tables_1, d.before a0 Z = true) (z0 : Int32) (O2 : Sta Z Z.heap "java/lang/String" "COMPACT_STRINGS" "Z" (.int z0)) (P5 : ¬ z0 = (0 : Int32)) (fm0 : Value) (O4 : Sta Z Z.heap "jdk/internal/util/Preconditions" "SIOOBE_FORMATTER" "Ljava/util/function/BiFunction;" fm0) (R4 : fm0.isRef = true) (ws : List Jvm.Cond) (a : Addr) (h0 : Heap) (n0 : Nat) (Z0 : n0 ≤ h0.size) :
    own_MetN l Z (⟨"com/example/naslov/naslov/Uri", "equals", "(Ljava/lang/Object;)Z"⟩ : MethodName) prog_10_method_26_code 2 (some .boolean) ws ({ frames := 0, cells := 0, slots := 0, locals := 0 } : Room) #[(.ref a), .null] h0 (fun v h L => Fr n0 L ∧ h = h0 ∧ (((v = some (.int (0 : Int32)))))) := by
  refine own_metN (plainFor_of_name own_pn7) ?_
  intro p e s m below meth c s₁ G hx hby hml hZ hown hnm hret X0 e0 go fin
  have N0 := Fr.nil n0
  refine go _ _ (fun _ k => castTop (own_ef_rmEqN m a) k) ?_
  show G (s₁.setTop (mkF m 0 #[.val (.ref a), .val .null] []))
  refine go _ _ (fun _ k => XS.aloadN X0.here hx rfl (hb hby own_d9_0) rfl rfl k) ?_
  show G (s₁.setTop (mkF m 1 #[.val (.ref a), .val .null] [.null]))
  refine go _ _ (fun _ k => X0.instanceofNull hx (g := (mkF m 1 #[.val (.ref a), .val .null] [.null])) rfl rfl (hb hby own_d9_1) _ k) ?_
  show G (s₁.setTop (mkF m 4 #[.val (.ref a), .val .null] [(.int (0 : Int32))]))
  refine go _ _ (fun _ k => XS.ifYes X0.here hx rfl (pc0 := 4) (pc' := 28) rfl (hb hby own_d9_4) rfl (by decide) (by decide) (by decide) k) ?_
  show G (s₁.setTop (mkF m 28 #[.val (.ref a), .val .null] []))
  refine go _ _ (fun _ k => XS.iconst X0.here hx rfl (hb hby own_d9_28) k) ?_
  show G (s₁.setTop (mkF m 29 #[.val (.ref a), .val .null] [(.int (0 : Int32))]))
  refine fin s₁ _ _ _ (some (.int (0 : Int32))) X0 (fun q => nomatch q) (by decide) (by decide) (by rw [e0]; exact ⟨N0, rfl, rfl⟩) _ (own_retN X0 hx (z := (0 : Int32)) (t := .boolean) hret (by simp) (hb hby own_d9_29))
set_option maxHeartbeats 4000000 in
theorem own_ef_rmEqS (m : MethodId) (x0 : Addr) (x1 : Addr) : entryFrame m #[(.ref x0), (.ref x1)] 2 = mkF m 0 #[.val (.ref x0), .val (.ref x1)] [] := by rfl
set_option maxRecDepth 65536 in
set_option maxHeartbeats 40000000 in
theorem rmEqS (l : Launch) (Z : State) (a0 : Array Value) (hw : ∀ d ∈ tables_1, d.before a0 Z = true) (z0 : Int32) (O2 : Sta Z Z.heap "java/lang/String" "COMPACT_STRINGS" "Z" (.int z0)) (P5 : ¬ z0 = (0 : Int32)) (fm0 : Value) (O4 : Sta Z Z.heap "jdk/internal/util/Preconditions" "SIOOBE_FORMATTER" "Ljava/util/function/BiFunction;" fm0) (R4 : fm0.isRef = true) (ws : List Jvm.Cond) (a : Addr) (b : Addr) (h0 : Heap) (n0 : Nat) (Z0 : n0 ≤ h0.size) (Eb : Exa Z h0 b "java/lang/String") :
    own_MetN l Z (⟨"com/example/naslov/naslov/Uri", "equals", "(Ljava/lang/Object;)Z"⟩ : MethodName) prog_10_method_26_code 2 (some .boolean) ws ({ frames := 0, cells := 0, slots := 0, locals := 0 } : Room) #[(.ref a), (.ref b)] h0 (fun v h L => Fr n0 L ∧ h = h0 ∧ (((v = some (.int (0 : Int32)))))) := by
  refine own_metN (plainFor_of_name own_pn7) ?_
  intro p e s m below meth c s₁ G hx hby hml hZ hown hnm hret X0 e0 go fin
  have N0 := Fr.nil n0
  refine go _ _ (fun _ k => castTop (own_ef_rmEqS m a b) k) ?_
  show G (s₁.setTop (mkF m 0 #[.val (.ref a), .val (.ref b)] []))
  refine go _ _ (fun _ k => XS.aloadN X0.here hx rfl (hb hby own_d9_0) rfl rfl k) ?_
  show G (s₁.setTop (mkF m 1 #[.val (.ref a), .val (.ref b)] [(.ref b)]))
  obtain ⟨T101, X101, e101, st101⟩ := instNo X0 hx hZ hown (ow hw 73 rfl) e0 Eb (own_NSno (ow hw 85 rfl) (ow hw 35 rfl) (NS.step (ow hw 85 rfl) (own_NSroot (ow hw 86 rfl) (ow hw 35 rfl) (by decide)) (by decide)) (by decide)) (g := (mkF m 1 #[.val (.ref a), .val (.ref b)] [(.ref b)])) rfl rfl (hb hby own_d9_1)
  refine go _ _ (st101) ?_
  show G (T101.setTop (mkF m 4 #[.val (.ref a), .val (.ref b)] [(.int (0 : Int32))]))
  refine go _ _ (fun _ k => XS.ifYes X101.here hx rfl (pc0 := 4) (pc' := 28) rfl (hb hby own_d9_4) rfl (by decide) (by decide) (by decide) k) ?_
  show G (T101.setTop (mkF m 28 #[.val (.ref a), .val (.ref b)] []))
  refine go _ _ (fun _ k => XS.iconst X101.here hx rfl (hb hby own_d9_28) k) ?_
  show G (T101.setTop (mkF m 29 #[.val (.ref a), .val (.ref b)] [(.int (0 : Int32))]))
  refine fin T101 _ _ _ (some (.int (0 : Int32))) X101 (fun q => nomatch q) (by decide) (by decide) (by rw [e101]; exact ⟨N0, rfl, rfl⟩) _ (own_retN X101 hx (z := (0 : Int32)) (t := .boolean) hret (by simp) (hb hby own_d9_29))
theorem own_d9_7 : decode prog_10_method_26_code 7 = .ok (.aload_n 0, 1) := by decide +kernel
theorem own_d9_8 : decode prog_10_method_26_code 8 = .ok (.getfield 16, 3) := by decide +kernel
theorem own_d9_11 : decode prog_10_method_26_code 11 = .ok (.aload_n 1, 1) := by decide +kernel
theorem own_d9_12 : decode prog_10_method_26_code 12 = .ok (.checkcast 2, 3) := by decide +kernel
theorem own_d9_15 : decode prog_10_method_26_code 15 = .ok (.getfield 16, 3) := by decide +kernel
theorem own_pd18 : parseMethodDescriptor "(Ljava/lang/Object;)Z" = some ⟨[(.object "java/lang/Object")], some .boolean⟩ := by decide +kernel
theorem own_d9_18 : decode prog_10_method_26_code 18 = .ok (.invokevirtual 203, 3) := by decide +kernel
theorem own_d9_21 : decode prog_10_method_26_code 21 = .ok (.ifCond .eq 7, 3) := by decide +kernel
theorem own_d9_24 : decode prog_10_method_26_code 24 = .ok (.iconst 1, 1) := by decide +kernel
theorem own_d9_25 : decode prog_10_method_26_code 25 = .ok (.goto 4, 3) := by decide +kernel
set_option maxHeartbeats 4000000 in
theorem own_ef_rmEqO (m : MethodId) (x0 : Addr) (x1 : Addr) : entryFrame m #[(.ref x0), (.ref x1)] 2 = mkF m 0 #[.val (.ref x0), .val (.ref x1)] [] := by rfl
set_option maxRecDepth 65536 in
set_option maxHeartbeats 40000000 in
theorem rmEqO (l : Launch) (Z : State) (a0 : Array Value) (hw : ∀ d ∈ tables_1, d.before a0 Z = true) (z0 : Int32) (O2 : Sta Z Z.heap "java/lang/String" "COMPACT_STRINGS" "Z" (.int z0)) (P5 : ¬ z0 = (0 : Int32)) (fm0 : Value) (O4 : Sta Z Z.heap "jdk/internal/util/Preconditions" "SIOOBE_FORMATTER" "Ljava/util/function/BiFunction;" fm0) (R4 : fm0.isRef = true) (ws : List Jvm.Cond) (a : Addr) (b : Addr) (t1 : Addr) (t2 : Addr) (c1 : List Int32) (c2 : List Int32) (h0 : Heap) (n0 : Nat) (Z0 : n0 ≤ h0.size) (Xo : Old Z n0 h0) (Eb : Exa Z h0 b "com/example/naslov/naslov/Uri") (F1 : Fld Z h0 a "com/example/naslov/naslov/Uri" "text" "Ljava/lang/String;" (.ref t1)) (F2 : Fld Z h0 b "com/example/naslov/naslov/Uri" "text" "Ljava/lang/String;" (.ref t2)) (Et1 : Exa Z h0 t1 "java/lang/String") (Et2 : Exa Z h0 t2 "java/lang/String") (St1 : own_Str Z h0 t1 c1) (St2 : own_Str Z h0 t2 c2) :
    own_MetN l Z (⟨"com/example/naslov/naslov/Uri", "equals", "(Ljava/lang/Object;)Z"⟩ : MethodName) prog_10_method_26_code 2 (some .boolean) ws ({ frames := 2, cells := 0, slots := 0, locals := 28 } : Room) #[(.ref a), (.ref b)] h0 (fun v h L => Fr n0 L ∧ h = h0 ∧ (((v = some (.int (1 : Int32))) ∧ (c1 = c2)) ∨ ((v = some (.int (0 : Int32))) ∧ (¬ c1 = c2)))) := by
  refine own_metN (plainFor_of_name own_pn7) ?_
  intro p e s m below meth c s₁ G hx hby hml hZ hown hnm hret X0 e0 go fin
  have N0 := Fr.nil n0
  refine go _ _ (fun _ k => castTop (own_ef_rmEqO m a b) k) ?_
  show G (s₁.setTop (mkF m 0 #[.val (.ref a), .val (.ref b)] []))
  refine go _ _ (fun _ k => XS.aloadN X0.here hx rfl (hb hby own_d9_0) rfl rfl k) ?_
  show G (s₁.setTop (mkF m 1 #[.val (.ref a), .val (.ref b)] [(.ref b)]))
  obtain ⟨T101, X101, e101, st101⟩ := instY X0 hx hZ hown (ow hw 73 rfl) e0 (Ins.self Eb) (g := (mkF m 1 #[.val (.ref a), .val (.ref b)] [(.ref b)])) rfl rfl (hb hby own_d9_1)
  refine go _ _ (st101) ?_
  show G (T101.setTop (mkF m 4 #[.val (.ref a), .val (.ref b)] [(.int (1 : Int32))]))
  refine go _ _ (fun _ k => XS.ifNo X101.here hx rfl (hb hby own_d9_4) rfl (by decide) k) ?_
  show G (T101.setTop (mkF m 7 #[.val (.ref a), .val (.ref b)] []))
  refine go _ _ (fun _ k => XS.aloadN X101.here hx rfl (hb hby own_d9_7) rfl rfl k) ?_
  show G (T101.setTop (mkF m 8 #[.val (.ref a), .val (.ref b)] [(.ref a)]))
  obtain ⟨T102, X102, e102, st102⟩ := getF X101 hx hZ hown (host := "") (Or.inl (ow hw 44 rfl)) Via.refl e101 F1 (g := (mkF m 8 #[.val (.ref a), .val (.ref b)] [(.ref a)])) rfl rfl (hb hby own_d9_8)
  refine go _ _ (st102) ?_
  show G (T102.setTop (mkF m 11 #[.val (.ref a), .val (.ref b)] [(.ref t1)]))
  refine go _ _ (fun _ k => XS.aloadN X102.here hx rfl (hb hby own_d9_11) rfl rfl k) ?_
  show G (T102.setTop (mkF m 12 #[.val (.ref a), .val (.ref b)] [(.ref b), (.ref t1)]))
  obtain ⟨T103, X103, e103, st103⟩ := castY X102 hx hZ hown (ow hw 73 rfl) e102 (Ins.self Eb) (g := (mkF m 12 #[.val (.ref a), .val (.ref b)] [(.ref b), (.ref t1)])) rfl rfl (hb hby own_d9_12)
  refine go _ _ (st103) ?_
  show G (T103.setTop (mkF m 15 #[.val (.ref a), .val (.ref b)] [(.ref b), (.ref t1)]))
  obtain ⟨T104, X104, e104, st104⟩ := getF X103 hx hZ hown (host := "") (Or.inl (ow hw 44 rfl)) Via.refl e103 F2 (g := (mkF m 15 #[.val (.ref a), .val (.ref b)] [(.ref b), (.ref t1)])) rfl rfl (hb hby own_d9_15)
  refine go _ _ (st104) ?_
  show G (T104.setTop (mkF m 18 #[.val (.ref a), .val (.ref b)] [(.ref t2), (.ref t1)]))
  obtain ⟨tx105, kbx105, Esx105, Vsx105, Csx105, Asx105, cdx105, bdx105, lnx105⟩ := own_Str_W St1
  obtain ⟨ty105, kby105, Esy105, Vsy105, Csy105, Asy105, cdy105, bdy105, lny105⟩ := own_Str_W St2
  obtain ⟨rv105, T105, L105, X105, q105, st105⟩ := own_vi X104 hx hZ (Q := fun v h L => ((v = some (.int 1) ∧ c1 = c2) ∨ (v = some (.int 0) ∧ ¬ c1 = c2)) ∧ L = [] ∧ h = h0) (kc := 0) (ks := 0) (y := (⟨"java/lang/String", "equals", "(Ljava/lang/Object;)Z"⟩ : MethodName)) (z := (⟨"java/lang/String", "equals", "(Ljava/lang/Object;)Z"⟩ : MethodName)) hown (ow hw 75 rfl) (ow hw 76 rfl) (ow hw 78 rfl) (ow hw 77 rfl) (Or.inl rfl) (by decide) (StrChars.Road.eqW (W := 0) hZ (own_heq hw) (kI := 4) (ow hw 5 rfl) Esx105 Vsx105 Csx105 Asx105 cdx105 bdx105 lnx105 Esy105 Vsy105 Csy105 Asy105 cdy105 bdy105 lny105 (O2.ext Xo.2) P5 (by decide) (by decide)) e104 Et1 (g := (mkF m 18 #[.val (.ref a), .val (.ref b)] [(.ref t2), (.ref t1)])) rfl (by rw [hml]; rfl) (argsL := [(.ref t2)]) (rest := []) rfl (lenOf own_pd18 rfl) rfl (by show 2 * 0 + _ ≤ _; exact Nat.le_of_eq rfl) (hb hby own_d9_18) (by decide) (by decide)
  obtain ⟨q105, rfl, e105⟩ := q105
  have N105 := Fr.app N0 (Fr.nil n0)
  rcases q105 with ⟨rfl, pe105⟩ | ⟨rfl, pe105⟩
  · refine go _ _ (st105) ?_
    show G (T105.setTop (mkF m 21 #[.val (.ref a), .val (.ref b)] [(.int (1 : Int32))]))
    refine go _ _ (fun _ k => XS.ifNo X105.here hx rfl (hb hby own_d9_21) rfl (by decide) k) ?_
    show G (T105.setTop (mkF m 24 #[.val (.ref a), .val (.ref b)] []))
    refine go _ _ (fun _ k => XS.iconst X105.here hx rfl (hb hby own_d9_24) k) ?_
    show G (T105.setTop (mkF m 25 #[.val (.ref a), .val (.ref b)] [(.int (1 : Int32))]))
    refine go _ _ (fun _ k => XS.goto X105.here hx rfl (pc0 := 25) (pc' := 29) rfl (hb hby own_d9_25) (by decide) (by decide) k) ?_
    show G (T105.setTop (mkF m 29 #[.val (.ref a), .val (.ref b)] [(.int (1 : Int32))]))
    refine fin T105 _ _ _ (some (.int (1 : Int32))) X105 (fun q => nomatch q) (by decide) (by decide) (by rw [e105]; exact ⟨N105, rfl, (Or.inl ⟨rfl, pe105⟩)⟩) _ (own_retN X105 hx (z := (1 : Int32)) (t := .boolean) hret (by simp) (hb hby own_d9_29))
  · refine go _ _ (st105) ?_
    show G (T105.setTop (mkF m 21 #[.val (.ref a), .val (.ref b)] [(.int (0 : Int32))]))
    refine go _ _ (fun _ k => XS.ifYes X105.here hx rfl (pc0 := 21) (pc' := 28) rfl (hb hby own_d9_21) rfl (by decide) (by decide) (by decide) k) ?_
    show G (T105.setTop (mkF m 28 #[.val (.ref a), .val (.ref b)] []))
    refine go _ _ (fun _ k => XS.iconst X105.here hx rfl (hb hby own_d9_28) k) ?_
    show G (T105.setTop (mkF m 29 #[.val (.ref a), .val (.ref b)] [(.int (0 : Int32))]))
    refine fin T105 _ _ _ (some (.int (0 : Int32))) X105 (fun q => nomatch q) (by decide) (by decide) (by rw [e105]; exact ⟨N105, rfl, (Or.inr ⟨rfl, pe105⟩)⟩) _ (own_retN X105 hx (z := (0 : Int32)) (t := .boolean) hret (by simp) (hb hby own_d9_29))
theorem own_d29_0 : decode jdk_43_method_3_code 0 = .ok (.iload_n 0, 1) := by decide +kernel
theorem own_d29_1 : decode jdk_43_method_3_code 1 = .ok (.sipush 255, 3) := by decide +kernel
theorem own_d29_4 : decode jdk_43_method_3_code 4 = .ok (.if_icmp .gt 7, 3) := by decide +kernel
theorem own_d29_7 : decode jdk_43_method_3_code 7 = .ok (.iconst 1, 1) := by decide +kernel
theorem own_d29_8 : decode jdk_43_method_3_code 8 = .ok (.goto 4, 3) := by decide +kernel
theorem own_d29_12 : decode jdk_43_method_3_code 12 = .ok (.ireturn, 1) := by decide +kernel
set_option maxHeartbeats 4000000 in
theorem own_ef_rm29 (m : MethodId) (x0 : Int32) : entryFrame m #[(.int x0)] 1 = mkF m 0 #[.val (.int x0)] [] := by rfl
set_option maxRecDepth 65536 in
set_option maxHeartbeats 40000000 in
theorem rm29 (l : Launch) (Z : State) (a0 : Array Value) (hw : ∀ d ∈ tables_1, d.before a0 Z = true) (z0 : Int32) (O2 : Sta Z Z.heap "java/lang/String" "COMPACT_STRINGS" "Z" (.int z0)) (P5 : ¬ z0 = (0 : Int32)) (fm0 : Value) (O4 : Sta Z Z.heap "jdk/internal/util/Preconditions" "SIOOBE_FORMATTER" "Ljava/util/function/BiFunction;" fm0) (R4 : fm0.isRef = true) (ws : List Jvm.Cond) (q : Int32) (h0 : Heap) (n0 : Nat) (Z0 : n0 ≤ h0.size) (h2 : ¬ (255 : Int32) < q) :
    own_MetN l Z (⟨"java/lang/StringLatin1", "canEncode", "(C)Z"⟩ : MethodName) jdk_43_method_3_code 1 (some .boolean) ws ({ frames := 0, cells := 0, slots := 0, locals := 0 } : Room) #[(.int q)] h0 (fun v h L => Fr n0 L ∧ h = h0 ∧ (((v = some (.int (1 : Int32)))))) := by
  refine own_metN (plainFor_of_name own_pn2) ?_
  intro p e s m below meth c s₁ G hx hby hml hZ hown hnm hret X0 e0 go fin
  have N0 := Fr.nil n0
  refine go _ _ (fun _ k => castTop (own_ef_rm29 m q) k) ?_
  show G (s₁.setTop (mkF m 0 #[.val (.int q)] []))
  refine go _ _ (fun _ k => XS.iloadN X0.here hx rfl (hb hby own_d29_0) rfl (XS.sipush X0.here hx rfl (hb hby own_d29_1) k)) ?_
  show G (s₁.setTop (mkF m 4 #[.val (.int q)] [(.int (255 : Int32)), (.int q)]))
  refine go _ _ (fun _ k => XS.icmpNo X0.here hx rfl (hb hby own_d29_4) rfl (flt h2).2.2.1 k) ?_
  show G (s₁.setTop (mkF m 7 #[.val (.int q)] []))
  refine go _ _ (fun _ k => XS.iconst X0.here hx rfl (hb hby own_d29_7) k) ?_
  show G (s₁.setTop (mkF m 8 #[.val (.int q)] [(.int (1 : Int32))]))
  refine go _ _ (fun _ k => XS.goto X0.here hx rfl (pc0 := 8) (pc' := 12) rfl (hb hby own_d29_8) (by decide) (by decide) k) ?_
  show G (s₁.setTop (mkF m 12 #[.val (.int q)] [(.int (1 : Int32))]))
  refine fin s₁ _ _ _ (some (.int (1 : Int32))) X0 (fun q => nomatch q) (by decide) (by decide) (by rw [e0]; exact ⟨N0, rfl, rfl⟩) _ (own_retN X0 hx (z := (1 : Int32)) (t := .boolean) hret (by simp) (hb hby own_d29_12))
theorem own_d30_0 : decode jdk_43_method_46_code 0 = .ok (.iconst 1, 1) := by decide +kernel
theorem own_d30_1 : decode jdk_43_method_46_code 1 = .ok (.newarray .byte, 2) := by decide +kernel
theorem own_d30_3 : decode jdk_43_method_46_code 3 = .ok (.dup, 1) := by decide +kernel
theorem own_d30_4 : decode jdk_43_method_46_code 4 = .ok (.iconst 0, 1) := by decide +kernel
theorem own_d30_5 : decode jdk_43_method_46_code 5 = .ok (.iload_n 0, 1) := by decide +kernel
theorem own_d30_6 : decode jdk_43_method_46_code 6 = .ok (.i2b, 1) := by decide +kernel
theorem own_d30_7 : decode jdk_43_method_46_code 7 = .ok (.bastore, 1) := by decide +kernel
theorem own_d30_8 : decode jdk_43_method_46_code 8 = .ok (.areturn, 1) := by decide +kernel
set_option maxHeartbeats 4000000 in
theorem own_ef_rm30 (m : MethodId) (x0 : Int32) : entryFrame m #[(.int x0)] 1 = mkF m 0 #[.val (.int x0)] [] := by rfl
set_option maxRecDepth 65536 in
set_option maxHeartbeats 40000000 in
theorem rm30 (l : Launch) (Z : State) (a0 : Array Value) (hw : ∀ d ∈ tables_1, d.before a0 Z = true) (z0 : Int32) (O2 : Sta Z Z.heap "java/lang/String" "COMPACT_STRINGS" "Z" (.int z0)) (P5 : ¬ z0 = (0 : Int32)) (fm0 : Value) (O4 : Sta Z Z.heap "jdk/internal/util/Preconditions" "SIOOBE_FORMATTER" "Ljava/util/function/BiFunction;" fm0) (R4 : fm0.isRef = true) (ws : List Jvm.Cond) (q : Int32) (h0 : Heap) (n0 : Nat) (Z0 : n0 ≤ h0.size) :
    own_MetN l Z (⟨"java/lang/StringLatin1", "toBytes", "(C)[B"⟩ : MethodName) jdk_43_method_46_code 1 (some (.array .byte)) ws ({ frames := 0, cells := 1, slots := 1, locals := 0 } : Room) #[(.int q)] h0 (fun v h L => Fr n0 L ∧ Keep h0 h [] ∧ ((∃ (b : Addr) (kb : ClassId), (v = some (.ref b)) ∧ (h0.size ≤ b) ∧ (Arv Z h b kb .byte (1 : Int32) [(.int (q.toInt8.toInt32))] (.int (0 : Int32)))))) := by
  refine own_metN (plainFor_of_name own_pn2) ?_
  intro p e s m below meth c s₁ G hx hby hml hZ hown hnm hret X0 e0 go fin
  have N0 := Fr.nil n0
  refine go _ _ (fun _ k => castTop (own_ef_rm30 m q) k) ?_
  show G (s₁.setTop (mkF m 0 #[.val (.int q)] []))
  refine go _ _ (fun _ k => XS.iconst X0.here hx rfl (hb hby own_d30_0) k) ?_
  show G (s₁.setTop (mkF m 1 #[.val (.int q)] [(.int (1 : Int32))]))
  obtain ⟨T101, h101, k101, X101, e101, E101, A101, st101⟩ := newP X0 hx hZ (ow hw 23 rfl) e0 (g := (mkF m 1 #[.val (.int q)] [(.int (1 : Int32))])) rfl (hb hby own_d30_1) rfl (by decide) (cap := 1) (by decide) (by decide) (by decide) (by decide)
  obtain ⟨b101, g101⟩ : ∃ z, z = h0.size := ⟨_, rfl⟩
  rw [← g101] at A101 st101
  have V101 : Arv Z h101 b101 k101 .byte (1 : Int32) [(.int (0 : Int32))] (.int (0 : Int32)) := (Arv.new A101 (by decide)).pad (pad_rep [] (.int (0 : Int32)) 1)
  refine go _ _ (st101) ?_
  show G (T101.setTop (mkF m 3 #[.val (.int q)] [(.ref b101)]))
  refine go _ _ (fun _ k => XS.dup X101.here hx rfl (hb hby own_d30_3) rfl rfl (XS.iconst X101.here hx rfl (hb hby own_d30_4) (XS.iloadN X101.here hx rfl (hb hby own_d30_5) rfl (XS.i2b X101.here hx rfl (hb hby own_d30_6) rfl k)))) ?_
  show G (T101.setTop (mkF m 7 #[.val (.int q)] [(.int (q.toInt8.toInt32)), (.int (0 : Int32)), (.ref b101), (.ref b101)]))
  obtain ⟨cl102, Ar102, q102, S102, M102, H102, U102⟩ := id V101
  obtain ⟨T102, h102, X102, e102, W102, st102⟩ := stB X101 hx hZ e101 Ar102 (j := (0 : Int32)) (inb_of S102 ⟨by decide, by decide⟩) (g := (mkF m 7 #[.val (.int q)] [(.int (q.toInt8.toInt32)), (.int (0 : Int32)), (.ref b101), (.ref b101)])) rfl rfl (hb hby own_d30_7)
  have V102 : Arv Z h102 b101 k101 .byte (1 : Int32) [(.int (nar .byte (q.toInt8.toInt32)))] (.int (0 : Int32)) := Arv.set Ar102 q102 S102 M102 H102 U102 (fits_nar_byte _) W102 0 rfl (Nat.le_of_ble_eq_true rfl)
  rw [(own_i2b q)] at V102
  have N102 := Fr.snoc X102 N0 (Nat.le_trans Z0 (Nat.le_of_eq g101.symm))
  refine go _ _ (st102) ?_
  show G (T102.setTop (mkF m 8 #[.val (.int q)] [(.ref b101)]))
  have K103 : Keep h0 h101 [] := (Keep.refl h0 []).ext E101
  have K104 : Keep h0 h102 [] := K103.wr W102 (Or.inr (Nat.le_of_eq g101.symm))
  refine fin T102 _ _ _ (some (.ref b101)) X102 (fun q => nomatch q) (by decide) (by decide) (by rw [e102]; exact ⟨N102, K104, ⟨b101, k101, rfl, (Nat.le_of_eq g101.symm), V102⟩⟩) _ (own_retA X102 hx hret rfl rfl rfl (hb hby own_d30_8))
theorem own_d28_0 : decode jdk_42_method_139_code 0 = .ok (.getstatic 38, 3) := by decide +kernel
theorem own_d28_3 : decode jdk_42_method_139_code 3 = .ok (.ifCond .eq 23, 3) := by decide +kernel
theorem own_d28_6 : decode jdk_42_method_139_code 6 = .ok (.iload_n 0, 1) := by decide +kernel
theorem own_pd19 : parseMethodDescriptor "(C)Z" = some ⟨[.char], some .boolean⟩ := by decide +kernel
theorem own_d28_7 : decode jdk_42_method_139_code 7 = .ok (.invokestatic 1015, 3) := by decide +kernel
theorem own_d28_10 : decode jdk_42_method_139_code 10 = .ok (.ifCond .eq 16, 3) := by decide +kernel
theorem own_d28_13 : decode jdk_42_method_139_code 13 = .ok (.new 10, 3) := by decide +kernel
theorem own_d28_16 : decode jdk_42_method_139_code 16 = .ok (.dup, 1) := by decide +kernel
theorem own_d28_17 : decode jdk_42_method_139_code 17 = .ok (.iload_n 0, 1) := by decide +kernel
theorem own_pd20 : parseMethodDescriptor "(C)[B" = some ⟨[.char], some (.array .byte)⟩ := by decide +kernel
theorem own_d28_18 : decode jdk_42_method_139_code 18 = .ok (.invokestatic 1018, 3) := by decide +kernel
theorem own_d28_21 : decode jdk_42_method_139_code 21 = .ok (.iconst 0, 1) := by decide +kernel
theorem own_d28_22 : decode jdk_42_method_139_code 22 = .ok (.invokespecial 209, 3) := by decide +kernel
theorem own_d28_25 : decode jdk_42_method_139_code 25 = .ok (.areturn, 1) := by decide +kernel
set_option maxHeartbeats 4000000 in
theorem own_ef_rm28 (m : MethodId) (x0 : Int32) : entryFrame m #[(.int x0)] 1 = mkF m 0 #[.val (.int x0)] [] := by rfl
set_option maxRecDepth 65536 in
set_option maxHeartbeats 40000000 in
theorem rm28 (l : Launch) (Z : State) (a0 : Array Value) (hw : ∀ d ∈ tables_1, d.before a0 Z = true) (z0 : Int32) (O2 : Sta Z Z.heap "java/lang/String" "COMPACT_STRINGS" "Z" (.int z0)) (P5 : ¬ z0 = (0 : Int32)) (fm0 : Value) (O4 : Sta Z Z.heap "jdk/internal/util/Preconditions" "SIOOBE_FORMATTER" "Ljava/util/function/BiFunction;" fm0) (R4 : fm0.isRef = true) (ws : List Jvm.Cond) (q : Int32) (h0 : Heap) (n0 : Nat) (Z0 : n0 ≤ h0.size) (Xo : Old Z n0 h0) (h1 : ¬ q < (0 : Int32)) (h2 : ¬ (255 : Int32) < q) :
    own_MetN l Z (⟨"java/lang/String", "valueOf", "(C)Ljava/lang/String;"⟩ : MethodName) jdk_42_method_139_code 1 (some (.object "java/lang/String")) ws ({ frames := 2, cells := 2, slots := 5, locals := 27 } : Room) #[(.int q)] h0 (fun v h L => Fr n0 L ∧ Keep h0 h [] ∧ ((∃ (b : Addr), (v = some (.ref b)) ∧ (h0.size ≤ b) ∧ (Exa Z h b "java/lang/String") ∧ (own_Str Z h b ([q] : List Int32))))) := by
  refine own_metN (plainFor_of_name own_pn0) ?_
  intro p e s m below meth c s₁ G hx hby hml hZ hown hnm hret X0 e0 go fin
  have N0 := Fr.nil n0
  refine go _ _ (fun _ k => castTop (own_ef_rm28 m q) k) ?_
  show G (s₁.setTop (mkF m 0 #[.val (.int q)] []))
  obtain ⟨T101, X101, e101, st101⟩ := getS2 X0 hx hZ (host := "") hown (Or.inl (ow hw 18 rfl)) Via.refl e0 (O2.ext Xo.2) (g := (mkF m 0 #[.val (.int q)] [])) rfl (hb hby own_d28_0)
  refine go _ _ (st101) ?_
  show G (T101.setTop (mkF m 3 #[.val (.int q)] [(.int z0)]))
  refine go _ _ (fun _ k => XS.ifNo X101.here hx rfl (hb hby own_d28_3) rfl ((if0 _ _).trans (feq P5).1) k) ?_
  show G (T101.setTop (mkF m 6 #[.val (.int q)] []))
  refine go _ _ (fun _ k => XS.iloadN X101.here hx rfl (hb hby own_d28_6) rfl k) ?_
  show G (T101.setTop (mkF m 7 #[.val (.int q)] [(.int q)]))
  obtain ⟨rv102, T102, L102, X102, q102, st102⟩ := own_st X101 hx hZ (y := (⟨"java/lang/StringLatin1", "canEncode", "(C)Z"⟩ : MethodName)) hown (ow hw 160 rfl) (ow hw 161 rfl) (ow hw 83 rfl) (ow hw 162 rfl) (by decide) (own_bkN (W := 0) (rm29 l Z a0 hw z0 O2 P5 fm0 O4 R4 [] q h0 n0 Z0 h2) hZ (ow hw 162 rfl) (ow hw 83 rfl) (by decide) (by decide)) e101 (g := (mkF m 7 #[.val (.int q)] [(.int q)])) rfl (by rw [hml]; rfl) (argsL := [(.int q)]) (rest := []) rfl (lenOf own_pd19 rfl) rfl (by show 2 * 0 + _ ≤ _; exact Nat.le_of_eq rfl) (hb hby own_d28_7) (by decide) (by decide)
  obtain ⟨Nq102, e102, rfl⟩ := q102
  have N102 := Fr.app N0 Nq102
  refine go _ _ (st102) ?_
  show G (T102.setTop (mkF m 10 #[.val (.int q)] [(.int (1 : Int32))]))
  refine go _ _ (fun _ k => XS.ifNo X102.here hx rfl (hb hby own_d28_10) rfl (by decide) k) ?_
  show G (T102.setTop (mkF m 13 #[.val (.int q)] []))
  obtain ⟨T103, h103, X103, e103, E103, A103, D103, -, st103⟩ := newO X102 hx hZ hown (ow hw 80 rfl) (ow hw 5 rfl) (ow hw 6 rfl) e102 (g := (mkF m 13 #[.val (.int q)] [])) rfl (hb hby own_d28_13) (by decide) (by decide)
  obtain ⟨b103, g103⟩ : ∃ z, z = h0.size := ⟨_, rfl⟩
  rw [← g103] at A103 D103 st103
  refine go _ _ (st103) ?_
  show G (T103.setTop (mkF m 16 #[.val (.int q)] [(.ref b103)]))
  refine go _ _ (fun _ k => XS.dup X103.here hx rfl (hb hby own_d28_16) rfl rfl (XS.iloadN X103.here hx rfl (hb hby own_d28_17) rfl k)) ?_
  show G (T103.setTop (mkF m 18 #[.val (.int q)] [(.int q), (.ref b103), (.ref b103)]))
  have Z105 : h0.size ≤ h103.size := E103.1
  obtain ⟨rv104, T104, L104, X104, q104, st104⟩ := own_st X103 hx hZ (y := (⟨"java/lang/StringLatin1", "toBytes", "(C)[B"⟩ : MethodName)) hown (ow hw 163 rfl) (ow hw 164 rfl) (ow hw 83 rfl) (ow hw 165 rfl) (by decide) (own_bkN (W := 2) (rm30 l Z a0 hw z0 O2 P5 fm0 O4 R4 [] q h103 n0 (Nat.le_trans Z0 Z105)) hZ (ow hw 165 rfl) (ow hw 83 rfl) (by decide) (by decide)) e103 (g := (mkF m 18 #[.val (.int q)] [(.int q), (.ref b103), (.ref b103)])) rfl (by rw [hml]; rfl) (argsL := [(.int q)]) (rest := [(.ref b103), (.ref b103)]) rfl (lenOf own_pd20 rfl) rfl (by show 2 * 0 + _ ≤ _; exact Nat.le_of_eq rfl) (hb hby own_d28_18) (by decide) (by decide)
  obtain ⟨Nq104, Kp104, ⟨b_106, kb_107, rfl, z108, f109⟩⟩ := q104
  have N104 := Fr.app N102 Nq104
  refine go _ _ (st104) ?_
  show G (T104.setTop (mkF m 21 #[.val (.int q)] [(.ref b_106), (.ref b103), (.ref b103)]))
  refine go _ _ (fun _ k => XS.iconst X104.here hx rfl (hb hby own_d28_21) k) ?_
  show G (T104.setTop (mkF m 22 #[.val (.int q)] [(.int (0 : Int32)), (.ref b_106), (.ref b103), (.ref b103)]))
  have K111 : Keep h103 T104.heap [] := (Keep.refl h103 []).trans Kp104 all0
  have F112 : Exa Z T104.heap b103 "java/lang/String" := (A103.keep K111)
  have F113 : Fld Z T104.heap b103 "java/lang/String" "value" "[B" .null := ((D103 (Or.inr (ow hw 33 rfl)) (ty := (.array .byte)) (by decide)).keep K111 nin0)
  have F114 : Fld Z T104.heap b103 "java/lang/String" "coder" "B" (.int (0 : Int32)) := ((D103 (Or.inr (ow hw 31 rfl)) (ty := .byte) (by decide)).keep K111 nin0)
  have Z115 : h0.size ≤ T104.heap.size := Nat.le_trans Z105 Kp104.1
  obtain ⟨rv110, T110, L110, X110, q110, st110⟩ := own_sp X104 hx hZ (y := (⟨"java/lang/String", "<init>", "([BB)V"⟩ : MethodName)) rfl hown (ow hw 166 rfl) (ow hw 167 rfl) (ow hw 168 rfl) (by decide) (own_bkN (W := 1) (rm31 l Z a0 hw z0 O2 P5 fm0 O4 R4 [] b103 b_106 T104.heap n0 (Nat.le_trans Z0 Z115) F112 F113 F114 (Nat.le_trans Z0 (Nat.le_of_eq g103.symm))) hZ (ow hw 168 rfl) (ow hw 6 rfl) (by decide) (by decide)) rfl (g := (mkF m 22 #[.val (.int q)] [(.int (0 : Int32)), (.ref b_106), (.ref b103), (.ref b103)])) rfl (by rw [hml]; rfl) (a := b103) (argsL := [(.ref b_106), (.int (0 : Int32))]) (rest := [(.ref b103)]) rfl (lenOf own_pd10 rfl) rfl (by show 2 * 0 + _ ≤ _; exact Nat.le_of_eq rfl) (hb hby own_d28_22) (by decide) (by decide)
  obtain ⟨Nq110, Kp110, ⟨rfl, f116, f117, f118⟩⟩ := q110
  have N110 := Fr.app N104 Nq110
  refine go _ _ (st110) ?_
  show G (T110.setTop (mkF m 25 #[.val (.int q)] [(.ref b103)]))
  have K119 : Keep h0 h103 [] := (Keep.refl h0 []).ext E103
  have K120 : Keep h0 T104.heap [] := K119.trans Kp104 all0
  have K121 : Keep h0 T110.heap [] := K120.trans Kp110 (allS (Or.inr (Nat.le_of_eq g103.symm)) all0)
  have K122 : Keep T104.heap T110.heap [b103] := (Keep.refl T104.heap [b103]).trans Kp110 (allS (Or.inl (List.mem_of_getElem? (i := 0) rfl)) all0)
  have F123 : Arv Z T110.heap b_106 kb_107 .byte (1 : Int32) [(.int (q.toInt8.toInt32))] (.int (0 : Int32)) := (f109.keep K122 (ninS (Ne.symm (Nat.ne_of_lt (Nat.lt_of_lt_of_le A103.lt z108))) nin0))
  have Sx : own_Str Z T110.heap b103 ([q] : List Int32) := ⟨_, _, f116, f117, f118, F123, own_one h1 h2, (Nat.le_of_ble_eq_true rfl)⟩
  refine fin T110 _ _ _ (some (.ref b103)) X110 (fun q => nomatch q) (by decide) (by decide) ⟨N110, K121, ⟨b103, rfl, (Nat.le_of_eq g103.symm), f116, Sx⟩⟩ _ (own_retA X110 hx hret rfl rfl rfl (hb hby own_d28_25))
theorem own_pn8 : plainName "com/example/naslov/naslov/UriEqualsPinLaw" = true := by decide +kernel
theorem own_d0_0 : decode method_2_code 0 = .ok (.iload_n 1, 1) := by decide +kernel
theorem own_d0_1 : decode method_2_code 1 = .ok (.sipush 255, 3) := by decide +kernel
theorem own_d0_4 : decode method_2_code 4 = .ok (.iand, 1) := by decide +kernel
theorem own_d0_5 : decode method_2_code 5 = .ok (.i2c, 1) := by decide +kernel
theorem own_d0_6 : decode method_2_code 6 = .ok (.istore_n 2, 1) := by decide +kernel
theorem own_d0_7 : decode method_2_code 7 = .ok (.iload_n 1, 1) := by decide +kernel
theorem own_d0_8 : decode method_2_code 8 = .ok (.bipush 8, 2) := by decide +kernel
theorem own_d0_10 : decode method_2_code 10 = .ok (.iushr, 1) := by decide +kernel
theorem own_d0_11 : decode method_2_code 11 = .ok (.sipush 255, 3) := by decide +kernel
theorem own_d0_14 : decode method_2_code 14 = .ok (.iand, 1) := by decide +kernel
theorem own_d0_15 : decode method_2_code 15 = .ok (.i2c, 1) := by decide +kernel
theorem own_d0_16 : decode method_2_code 16 = .ok (.istore_n 3, 1) := by decide +kernel
theorem own_d0_17 : decode method_2_code 17 = .ok (.iload_n 1, 1) := by decide +kernel
theorem own_d0_18 : decode method_2_code 18 = .ok (.bipush 16, 2) := by decide +kernel
theorem own_d0_20 : decode method_2_code 20 = .ok (.iushr, 1) := by decide +kernel
theorem own_d0_21 : decode method_2_code 21 = .ok (.sipush 255, 3) := by decide +kernel
theorem own_d0_24 : decode method_2_code 24 = .ok (.iand, 1) := by decide +kernel
theorem own_d0_25 : decode method_2_code 25 = .ok (.i2c, 1) := by decide +kernel
theorem own_d0_26 : decode method_2_code 26 = .ok (.istore 4, 2) := by decide +kernel
theorem own_d0_28 : decode method_2_code 28 = .ok (.iload_n 0, 1) := by decide +kernel
theorem own_d0_29 : decode method_2_code 29 = .ok (.ifCond .ne 6, 3) := by decide +kernel
theorem own_d0_32 : decode method_2_code 32 = .ok (.ldc 7, 2) := by decide +kernel
theorem own_d0_34 : decode method_2_code 34 = .ok (.areturn, 1) := by decide +kernel
theorem own_d0_35 : decode method_2_code 35 = .ok (.iload_n 0, 1) := by decide +kernel
theorem own_d0_36 : decode method_2_code 36 = .ok (.iconst 1, 1) := by decide +kernel
theorem own_d0_37 : decode method_2_code 37 = .ok (.if_icmp .ne 8, 3) := by decide +kernel
theorem own_d0_40 : decode method_2_code 40 = .ok (.iload_n 2, 1) := by decide +kernel
theorem own_pd21 : parseMethodDescriptor "(C)Ljava/lang/String;" = some ⟨[.char], some (.object "java/lang/String")⟩ := by decide +kernel
theorem own_d0_41 : decode method_2_code 41 = .ok (.invokestatic 9, 3) := by decide +kernel
theorem own_d0_44 : decode method_2_code 44 = .ok (.areturn, 1) := by decide +kernel
theorem own_d0_45 : decode method_2_code 45 = .ok (.iload_n 0, 1) := by decide +kernel
theorem own_d0_46 : decode method_2_code 46 = .ok (.iconst 2, 1) := by decide +kernel
theorem own_d0_47 : decode method_2_code 47 = .ok (.if_icmp .ne 22, 3) := by decide +kernel
theorem own_d0_50 : decode method_2_code 50 = .ok (.new 10, 3) := by decide +kernel
theorem own_d0_53 : decode method_2_code 53 = .ok (.dup, 1) := by decide +kernel
theorem own_d0_54 : decode method_2_code 54 = .ok (.iconst 2, 1) := by decide +kernel
theorem own_d0_55 : decode method_2_code 55 = .ok (.newarray .char, 2) := by decide +kernel
theorem own_d0_57 : decode method_2_code 57 = .ok (.dup, 1) := by decide +kernel
theorem own_d0_58 : decode method_2_code 58 = .ok (.iconst 0, 1) := by decide +kernel
theorem own_d0_59 : decode method_2_code 59 = .ok (.iload_n 2, 1) := by decide +kernel
theorem own_d0_60 : decode method_2_code 60 = .ok (.castore, 1) := by decide +kernel
theorem own_d0_61 : decode method_2_code 61 = .ok (.dup, 1) := by decide +kernel
theorem own_d0_62 : decode method_2_code 62 = .ok (.iconst 1, 1) := by decide +kernel
theorem own_d0_63 : decode method_2_code 63 = .ok (.iload_n 3, 1) := by decide +kernel
theorem own_d0_64 : decode method_2_code 64 = .ok (.castore, 1) := by decide +kernel
theorem own_pd22 : parseMethodDescriptor "([C)V" = some ⟨[(.array .char)], none⟩ := by decide +kernel
theorem own_d0_65 : decode method_2_code 65 = .ok (.invokespecial 15, 3) := by decide +kernel
theorem own_d0_68 : decode method_2_code 68 = .ok (.areturn, 1) := by decide +kernel
theorem own_d0_69 : decode method_2_code 69 = .ok (.new 10, 3) := by decide +kernel
theorem own_d0_72 : decode method_2_code 72 = .ok (.dup, 1) := by decide +kernel
theorem own_d0_73 : decode method_2_code 73 = .ok (.iconst 3, 1) := by decide +kernel
theorem own_d0_74 : decode method_2_code 74 = .ok (.newarray .char, 2) := by decide +kernel
theorem own_d0_76 : decode method_2_code 76 = .ok (.dup, 1) := by decide +kernel
theorem own_d0_77 : decode method_2_code 77 = .ok (.iconst 0, 1) := by decide +kernel
theorem own_d0_78 : decode method_2_code 78 = .ok (.iload_n 2, 1) := by decide +kernel
theorem own_d0_79 : decode method_2_code 79 = .ok (.castore, 1) := by decide +kernel
theorem own_d0_80 : decode method_2_code 80 = .ok (.dup, 1) := by decide +kernel
theorem own_d0_81 : decode method_2_code 81 = .ok (.iconst 1, 1) := by decide +kernel
theorem own_d0_82 : decode method_2_code 82 = .ok (.iload_n 3, 1) := by decide +kernel
theorem own_d0_83 : decode method_2_code 83 = .ok (.castore, 1) := by decide +kernel
theorem own_d0_84 : decode method_2_code 84 = .ok (.dup, 1) := by decide +kernel
theorem own_d0_85 : decode method_2_code 85 = .ok (.iconst 2, 1) := by decide +kernel
theorem own_d0_86 : decode method_2_code 86 = .ok (.iload 4, 2) := by decide +kernel
theorem own_d0_88 : decode method_2_code 88 = .ok (.castore, 1) := by decide +kernel
theorem own_d0_89 : decode method_2_code 89 = .ok (.invokespecial 15, 3) := by decide +kernel
theorem own_d0_92 : decode method_2_code 92 = .ok (.areturn, 1) := by decide +kernel
set_option maxHeartbeats 4000000 in
theorem own_ef_rm0 (m : MethodId) (x0 : Int32) (x1 : Int32) : entryFrame m #[(.int x0), (.int x1)] 5 = mkF m 0 #[.val (.int x0), .val (.int x1), .unset, .unset, .unset] [] := by rfl
set_option maxRecDepth 65536 in
set_option maxHeartbeats 40000000 in
theorem rm0 (l : Launch) (Z : State) (a0 : Array Value) (hw : ∀ d ∈ tables_1, d.before a0 Z = true) (z0 : Int32) (O2 : Sta Z Z.heap "java/lang/String" "COMPACT_STRINGS" "Z" (.int z0)) (P5 : ¬ z0 = (0 : Int32)) (fm0 : Value) (O4 : Sta Z Z.heap "jdk/internal/util/Preconditions" "SIOOBE_FORMATTER" "Ljava/util/function/BiFunction;" fm0) (R4 : fm0.isRef = true) (ws : List Jvm.Cond) (n : Int32) (x : Int32) (h0 : Heap) (n0 : Nat) (Z0 : n0 ≤ h0.size) (Xo : Old Z n0 h0) :
    own_MetH l Z own_EL (⟨"com/example/naslov/naslov/UriEqualsPinLaw", "str", "(II)Ljava/lang/String;"⟩ : MethodName) method_2_code 5 (some (.object "java/lang/String")) ws ({ frames := 4, cells := 3, slots := 10, locals := 66 } : Room) #[(.int n), (.int x)] h0 (fun v h L => Fr n0 L ∧ Keep h0 h [] ∧ ((∃ (b : Addr) (ln : Int32), (v = some (.ref b)) ∧ (Exa Z h b "java/lang/String") ∧ (own_Str Z h b (own_text n x)) ∧ (own_Ln Z h b ln)))) := by
  refine own_metH (plainFor_of_name own_pn8) (own_hEL hw) ?_
  intro p e s m below meth c s₁ G hx hby hml hZ hown hnm hret X0 e0 hS C0 go fin
  have N0 := Fr.nil n0
  refine go _ _ (fun _ k => castTop (own_ef_rm0 m n x) k) ?_
  show G (s₁.setTop (mkF m 0 #[.val (.int n), .val (.int x), .unset, .unset, .unset] []))
  refine go _ _ (fun _ k => XS.iloadN X0.here hx rfl (hb hby own_d0_0) rfl (XS.sipush X0.here hx rfl (hb hby own_d0_1) (XS.iand X0.here hx rfl (hb hby own_d0_4) rfl (XS.i2c X0.here hx rfl (hb hby own_d0_5) rfl (XS.istoreN X0.here hx rfl (hb hby own_d0_6) rfl (l' := #[.val (.int n), .val (.int x), .val (.int ((x &&& (255 : Int32)).toUInt32.toUInt16.toUInt32.toInt32)), .unset, .unset]) rfl (XS.iloadN X0.here hx rfl (hb hby own_d0_7) rfl k)))))) ?_
  show G (s₁.setTop (mkF m 8 #[.val (.int n), .val (.int x), .val (.int ((x &&& (255 : Int32)).toUInt32.toUInt16.toUInt32.toInt32)), .unset, .unset] [(.int x)]))
  refine go _ _ (fun _ k => XS.bipush X0.here hx rfl (hb hby own_d0_8) (XS.iushr X0.here hx rfl (hb hby own_d0_10) rfl (XS.sipush X0.here hx rfl (hb hby own_d0_11) (XS.iand X0.here hx rfl (hb hby own_d0_14) rfl (XS.i2c X0.here hx rfl (hb hby own_d0_15) rfl (XS.istoreN X0.here hx rfl (hb hby own_d0_16) rfl (l' := #[.val (.int n), .val (.int x), .val (.int ((x &&& (255 : Int32)).toUInt32.toUInt16.toUInt32.toInt32)), .val (.int ((((x.toUInt32 >>> ((8 : Int32) &&& 31).toUInt32).toInt32) &&& (255 : Int32)).toUInt32.toUInt16.toUInt32.toInt32)), .unset]) rfl k)))))) ?_
  show G (s₁.setTop (mkF m 17 #[.val (.int n), .val (.int x), .val (.int ((x &&& (255 : Int32)).toUInt32.toUInt16.toUInt32.toInt32)), .val (.int ((((x.toUInt32 >>> ((8 : Int32) &&& 31).toUInt32).toInt32) &&& (255 : Int32)).toUInt32.toUInt16.toUInt32.toInt32)), .unset] []))
  refine go _ _ (fun _ k => XS.iloadN X0.here hx rfl (hb hby own_d0_17) rfl (XS.bipush X0.here hx rfl (hb hby own_d0_18) (XS.iushr X0.here hx rfl (hb hby own_d0_20) rfl (XS.sipush X0.here hx rfl (hb hby own_d0_21) (XS.iand X0.here hx rfl (hb hby own_d0_24) rfl (XS.i2c X0.here hx rfl (hb hby own_d0_25) rfl k)))))) ?_
  show G (s₁.setTop (mkF m 26 #[.val (.int n), .val (.int x), .val (.int ((x &&& (255 : Int32)).toUInt32.toUInt16.toUInt32.toInt32)), .val (.int ((((x.toUInt32 >>> ((8 : Int32) &&& 31).toUInt32).toInt32) &&& (255 : Int32)).toUInt32.toUInt16.toUInt32.toInt32)), .unset] [(.int ((((x.toUInt32 >>> ((16 : Int32) &&& 31).toUInt32).toInt32) &&& (255 : Int32)).toUInt32.toUInt16.toUInt32.toInt32))]))
  refine go _ _ (fun _ k => XS.istore X0.here hx rfl (hb hby own_d0_26) rfl (l' := #[.val (.int n), .val (.int x), .val (.int ((x &&& (255 : Int32)).toUInt32.toUInt16.toUInt32.toInt32)), .val (.int ((((x.toUInt32 >>> ((8 : Int32) &&& 31).toUInt32).toInt32) &&& (255 : Int32)).toUInt32.toUInt16.toUInt32.toInt32)), .val (.int ((((x.toUInt32 >>> ((16 : Int32) &&& 31).toUInt32).toInt32) &&& (255 : Int32)).toUInt32.toUInt16.toUInt32.toInt32))]) rfl (XS.iloadN X0.here hx rfl (hb hby own_d0_28) rfl k)) ?_
  show G (s₁.setTop (mkF m 29 #[.val (.int n), .val (.int x), .val (.int ((x &&& (255 : Int32)).toUInt32.toUInt16.toUInt32.toInt32)), .val (.int ((((x.toUInt32 >>> ((8 : Int32) &&& 31).toUInt32).toInt32) &&& (255 : Int32)).toUInt32.toUInt16.toUInt32.toInt32)), .val (.int ((((x.toUInt32 >>> ((16 : Int32) &&& 31).toUInt32).toInt32) &&& (255 : Int32)).toUInt32.toUInt16.toUInt32.toInt32))] [(.int n)]))
  by_cases hc29_101 : n = (0 : Int32)
  · refine go _ _ (fun _ k => XS.ifNo X0.here hx rfl (hb hby own_d0_29) rfl ((if0 _ _).trans (teq hc29_101).2) k) ?_
    show G (s₁.setTop (mkF m 32 #[.val (.int n), .val (.int x), .val (.int ((x &&& (255 : Int32)).toUInt32.toUInt16.toUInt32.toInt32)), .val (.int ((((x.toUInt32 >>> ((8 : Int32) &&& 31).toUInt32).toInt32) &&& (255 : Int32)).toUInt32.toUInt16.toUInt32.toInt32)), .val (.int ((((x.toUInt32 >>> ((16 : Int32) &&& 31).toUInt32).toInt32) &&& (255 : Int32)).toUInt32.toUInt16.toUInt32.toInt32))] []))
    obtain ⟨b102, T102, h102, k102, t102, kb102, X102, e102, E102, hS102, hk102, hZ102, hown102, A102, Fc102, Fv102, V102, -, -, C102, -, -, st102⟩ := ldcCH X0 hx hZ hown (ow hw 37 rfl) (own_sat hw) e0 hS (Nat.le_refl _) (own_hEL hw) (List.mem_of_getElem? (i := 0) rfl) C0.1 (vs := []) (z := (0 : Int32)) (by decide) (by decide) (by decide) (g := (mkF m 32 #[.val (.int n), .val (.int x), .val (.int ((x &&& (255 : Int32)).toUInt32.toUInt16.toUInt32.toInt32)), .val (.int ((((x.toUInt32 >>> ((8 : Int32) &&& 31).toUInt32).toInt32) &&& (255 : Int32)).toUInt32.toUInt16.toUInt32.toInt32)), .val (.int ((((x.toUInt32 >>> ((16 : Int32) &&& 31).toUInt32).toInt32) &&& (255 : Int32)).toUInt32.toUInt16.toUInt32.toInt32))] [])) rfl (hb hby own_d0_32) (n := 0) (by decide) (by decide) (by decide) (by decide)
    have Sx102 : own_Str Z h102 b102 ([] : List Int32) := ⟨t102, kb102, A102, Fv102, Fc102, V102, (by decide), (by decide)⟩
    have Lx102 : own_Ln Z h102 b102 (0 : Int32) := own_Ln_of Sx102 (by decide)
    refine go _ _ (st102) ?_
    show G (T102.setTop (mkF m 34 #[.val (.int n), .val (.int x), .val (.int ((x &&& (255 : Int32)).toUInt32.toUInt16.toUInt32.toInt32)), .val (.int ((((x.toUInt32 >>> ((8 : Int32) &&& 31).toUInt32).toInt32) &&& (255 : Int32)).toUInt32.toUInt16.toUInt32.toInt32)), .val (.int ((((x.toUInt32 >>> ((16 : Int32) &&& 31).toUInt32).toInt32) &&& (255 : Int32)).toUInt32.toUInt16.toUInt32.toInt32))] [(.ref b102)]))
    have K103 : Keep h0 h102 [] := (Keep.refl h0 []).ext E102
    have Sy : own_Str Z h102 b102 (own_text n x) := by rw [own_text0 hc29_101]; simpa only [i2c_mask] using Sx102
    have Ly : own_Ln Z h102 b102 (Int32.ofNat (own_text n x).length) := own_Ln_of Sy (own_text_len n x)
    have C104 : CHr Z own_EL s.vm h0 T102.vm h102 := C0.trans C102
    refine fin T102 _ _ _ (some (.ref b102)) T102.vm _ X102 hZ102 hS102 (by rw [e102]; exact hk102) (by rw [e102]; exact C104) (fun q => nomatch q) (by decide) (by decide) (by rw [e102]; exact ⟨N0, K103, ⟨b102, (Int32.ofNat (own_text n x).length), rfl, A102, Sy, Ly⟩⟩) _ (own_retA X102 hx hret rfl rfl rfl (hb hby own_d0_34))
  · refine go _ _ (fun _ k => XS.ifYes X0.here hx rfl (pc0 := 29) (pc' := 35) rfl (hb hby own_d0_29) rfl ((if0 _ _).trans (feq hc29_101).2) (by decide) (by decide) k) ?_
    show G (s₁.setTop (mkF m 35 #[.val (.int n), .val (.int x), .val (.int ((x &&& (255 : Int32)).toUInt32.toUInt16.toUInt32.toInt32)), .val (.int ((((x.toUInt32 >>> ((8 : Int32) &&& 31).toUInt32).toInt32) &&& (255 : Int32)).toUInt32.toUInt16.toUInt32.toInt32)), .val (.int ((((x.toUInt32 >>> ((16 : Int32) &&& 31).toUInt32).toInt32) &&& (255 : Int32)).toUInt32.toUInt16.toUInt32.toInt32))] []))
    refine go _ _ (fun _ k => XS.iloadN X0.here hx rfl (hb hby own_d0_35) rfl (XS.iconst X0.here hx rfl (hb hby own_d0_36) k)) ?_
    show G (s₁.setTop (mkF m 37 #[.val (.int n), .val (.int x), .val (.int ((x &&& (255 : Int32)).toUInt32.toUInt16.toUInt32.toInt32)), .val (.int ((((x.toUInt32 >>> ((8 : Int32) &&& 31).toUInt32).toInt32) &&& (255 : Int32)).toUInt32.toUInt16.toUInt32.toInt32)), .val (.int ((((x.toUInt32 >>> ((16 : Int32) &&& 31).toUInt32).toInt32) &&& (255 : Int32)).toUInt32.toUInt16.toUInt32.toInt32))] [(.int (1 : Int32)), (.int n)]))
    by_cases hc37_105 : n = (1 : Int32)
    · refine go _ _ (fun _ k => XS.icmpNo X0.here hx rfl (hb hby own_d0_37) rfl (teq hc37_105).2 k) ?_
      show G (s₁.setTop (mkF m 40 #[.val (.int n), .val (.int x), .val (.int ((x &&& (255 : Int32)).toUInt32.toUInt16.toUInt32.toInt32)), .val (.int ((((x.toUInt32 >>> ((8 : Int32) &&& 31).toUInt32).toInt32) &&& (255 : Int32)).toUInt32.toUInt16.toUInt32.toInt32)), .val (.int ((((x.toUInt32 >>> ((16 : Int32) &&& 31).toUInt32).toInt32) &&& (255 : Int32)).toUInt32.toUInt16.toUInt32.toInt32))] []))
      refine go _ _ (fun _ k => XS.iloadN X0.here hx rfl (hb hby own_d0_40) rfl k) ?_
      show G (s₁.setTop (mkF m 41 #[.val (.int n), .val (.int x), .val (.int ((x &&& (255 : Int32)).toUInt32.toUInt16.toUInt32.toInt32)), .val (.int ((((x.toUInt32 >>> ((8 : Int32) &&& 31).toUInt32).toInt32) &&& (255 : Int32)).toUInt32.toUInt16.toUInt32.toInt32)), .val (.int ((((x.toUInt32 >>> ((16 : Int32) &&& 31).toUInt32).toInt32) &&& (255 : Int32)).toUInt32.toUInt16.toUInt32.toInt32))] [(.int ((x &&& (255 : Int32)).toUInt32.toUInt16.toUInt32.toInt32))]))
      obtain ⟨rv106, T106, L106, X106, q106, st106⟩ := own_st X0 hx hZ (y := (⟨"java/lang/String", "valueOf", "(C)Ljava/lang/String;"⟩ : MethodName)) hown (ow hw 157 rfl) (ow hw 158 rfl) (ow hw 6 rfl) (ow hw 159 rfl) (by decide) (own_bkN (W := 0) (rm28 l Z a0 hw z0 O2 P5 fm0 O4 R4 [] ((x &&& (255 : Int32)).toUInt32.toUInt16.toUInt32.toInt32) h0 n0 Z0 Xo ((own_and255 _).1) ((own_and255 _).2)) hZ (ow hw 159 rfl) (ow hw 6 rfl) (by decide) (by decide)) e0 (g := (mkF m 41 #[.val (.int n), .val (.int x), .val (.int ((x &&& (255 : Int32)).toUInt32.toUInt16.toUInt32.toInt32)), .val (.int ((((x.toUInt32 >>> ((8 : Int32) &&& 31).toUInt32).toInt32) &&& (255 : Int32)).toUInt32.toUInt16.toUInt32.toInt32)), .val (.int ((((x.toUInt32 >>> ((16 : Int32) &&& 31).toUInt32).toInt32) &&& (255 : Int32)).toUInt32.toUInt16.toUInt32.toInt32))] [(.int ((x &&& (255 : Int32)).toUInt32.toUInt16.toUInt32.toInt32))])) rfl (by rw [hml]; rfl) (argsL := [(.int ((x &&& (255 : Int32)).toUInt32.toUInt16.toUInt32.toInt32))]) (rest := []) rfl (lenOf own_pd21 rfl) rfl (by show 2 * 0 + _ ≤ _; exact Nat.le_of_eq rfl) (hb hby own_d0_41) (by decide) (by decide)
      obtain ⟨Nq106, Kp106, ⟨b_107, rfl, z108, f109, f110⟩⟩ := q106
      have N106 := Fr.app N0 Nq106
      refine go _ _ (st106) ?_
      show G (T106.setTop (mkF m 44 #[.val (.int n), .val (.int x), .val (.int ((x &&& (255 : Int32)).toUInt32.toUInt16.toUInt32.toInt32)), .val (.int ((((x.toUInt32 >>> ((8 : Int32) &&& 31).toUInt32).toInt32) &&& (255 : Int32)).toUInt32.toUInt16.toUInt32.toInt32)), .val (.int ((((x.toUInt32 >>> ((16 : Int32) &&& 31).toUInt32).toInt32) &&& (255 : Int32)).toUInt32.toUInt16.toUInt32.toInt32))] [(.ref b_107)]))
      have K111 : Keep h0 T106.heap [] := (Keep.refl h0 []).trans Kp106 all0
      have Sy : own_Str Z T106.heap b_107 (own_text n x) := by rw [own_text1 hc29_101 hc37_105]; simpa only [i2c_mask] using f110
      have Ly : own_Ln Z T106.heap b_107 (Int32.ofNat (own_text n x).length) := own_Ln_of Sy (own_text_len n x)
      have C112 : CHr Z own_EL s.vm h0 s.vm T106.heap := C0.trans (CHr.keep K111 sf0 C0.1)
      have Z113 : h0.size ≤ T106.heap.size := Kp106.1
      refine fin T106 _ _ _ (some (.ref b_107)) s.vm _ X106 hZ hS Z113 C112 (fun q => nomatch q) (by decide) (by decide) ⟨N106, K111, ⟨b_107, (Int32.ofNat (own_text n x).length), rfl, f109, Sy, Ly⟩⟩ _ (own_retA X106 hx hret rfl rfl rfl (hb hby own_d0_44))
    · refine go _ _ (fun _ k => XS.icmpYes X0.here hx rfl (pc0 := 37) (pc' := 45) rfl (hb hby own_d0_37) rfl (feq hc37_105).2 (by decide) (by decide) k) ?_
      show G (s₁.setTop (mkF m 45 #[.val (.int n), .val (.int x), .val (.int ((x &&& (255 : Int32)).toUInt32.toUInt16.toUInt32.toInt32)), .val (.int ((((x.toUInt32 >>> ((8 : Int32) &&& 31).toUInt32).toInt32) &&& (255 : Int32)).toUInt32.toUInt16.toUInt32.toInt32)), .val (.int ((((x.toUInt32 >>> ((16 : Int32) &&& 31).toUInt32).toInt32) &&& (255 : Int32)).toUInt32.toUInt16.toUInt32.toInt32))] []))
      refine go _ _ (fun _ k => XS.iloadN X0.here hx rfl (hb hby own_d0_45) rfl (XS.iconst X0.here hx rfl (hb hby own_d0_46) k)) ?_
      show G (s₁.setTop (mkF m 47 #[.val (.int n), .val (.int x), .val (.int ((x &&& (255 : Int32)).toUInt32.toUInt16.toUInt32.toInt32)), .val (.int ((((x.toUInt32 >>> ((8 : Int32) &&& 31).toUInt32).toInt32) &&& (255 : Int32)).toUInt32.toUInt16.toUInt32.toInt32)), .val (.int ((((x.toUInt32 >>> ((16 : Int32) &&& 31).toUInt32).toInt32) &&& (255 : Int32)).toUInt32.toUInt16.toUInt32.toInt32))] [(.int (2 : Int32)), (.int n)]))
      by_cases hc47_114 : n = (2 : Int32)
      · refine go _ _ (fun _ k => XS.icmpNo X0.here hx rfl (hb hby own_d0_47) rfl (teq hc47_114).2 k) ?_
        show G (s₁.setTop (mkF m 50 #[.val (.int n), .val (.int x), .val (.int ((x &&& (255 : Int32)).toUInt32.toUInt16.toUInt32.toInt32)), .val (.int ((((x.toUInt32 >>> ((8 : Int32) &&& 31).toUInt32).toInt32) &&& (255 : Int32)).toUInt32.toUInt16.toUInt32.toInt32)), .val (.int ((((x.toUInt32 >>> ((16 : Int32) &&& 31).toUInt32).toInt32) &&& (255 : Int32)).toUInt32.toUInt16.toUInt32.toInt32))] []))
        obtain ⟨T115, h115, X115, e115, E115, A115, D115, -, st115⟩ := newO X0 hx hZ hown (ow hw 4 rfl) (ow hw 5 rfl) (ow hw 6 rfl) e0 (g := (mkF m 50 #[.val (.int n), .val (.int x), .val (.int ((x &&& (255 : Int32)).toUInt32.toUInt16.toUInt32.toInt32)), .val (.int ((((x.toUInt32 >>> ((8 : Int32) &&& 31).toUInt32).toInt32) &&& (255 : Int32)).toUInt32.toUInt16.toUInt32.toInt32)), .val (.int ((((x.toUInt32 >>> ((16 : Int32) &&& 31).toUInt32).toInt32) &&& (255 : Int32)).toUInt32.toUInt16.toUInt32.toInt32))] [])) rfl (hb hby own_d0_50) (by decide) (by decide)
        obtain ⟨b115, g115⟩ : ∃ z, z = h0.size := ⟨_, rfl⟩
        rw [← g115] at A115 D115 st115
        refine go _ _ (st115) ?_
        show G (T115.setTop (mkF m 53 #[.val (.int n), .val (.int x), .val (.int ((x &&& (255 : Int32)).toUInt32.toUInt16.toUInt32.toInt32)), .val (.int ((((x.toUInt32 >>> ((8 : Int32) &&& 31).toUInt32).toInt32) &&& (255 : Int32)).toUInt32.toUInt16.toUInt32.toInt32)), .val (.int ((((x.toUInt32 >>> ((16 : Int32) &&& 31).toUInt32).toInt32) &&& (255 : Int32)).toUInt32.toUInt16.toUInt32.toInt32))] [(.ref b115)]))
        refine go _ _ (fun _ k => XS.dup X115.here hx rfl (hb hby own_d0_53) rfl rfl (XS.iconst X115.here hx rfl (hb hby own_d0_54) k)) ?_
        show G (T115.setTop (mkF m 55 #[.val (.int n), .val (.int x), .val (.int ((x &&& (255 : Int32)).toUInt32.toUInt16.toUInt32.toInt32)), .val (.int ((((x.toUInt32 >>> ((8 : Int32) &&& 31).toUInt32).toInt32) &&& (255 : Int32)).toUInt32.toUInt16.toUInt32.toInt32)), .val (.int ((((x.toUInt32 >>> ((16 : Int32) &&& 31).toUInt32).toInt32) &&& (255 : Int32)).toUInt32.toUInt16.toUInt32.toInt32))] [(.int (2 : Int32)), (.ref b115), (.ref b115)]))
        obtain ⟨T116, h116, k116, X116, e116, E116, A116, st116⟩ := newP X115 hx hZ (ow hw 7 rfl) e115 (g := (mkF m 55 #[.val (.int n), .val (.int x), .val (.int ((x &&& (255 : Int32)).toUInt32.toUInt16.toUInt32.toInt32)), .val (.int ((((x.toUInt32 >>> ((8 : Int32) &&& 31).toUInt32).toInt32) &&& (255 : Int32)).toUInt32.toUInt16.toUInt32.toInt32)), .val (.int ((((x.toUInt32 >>> ((16 : Int32) &&& 31).toUInt32).toInt32) &&& (255 : Int32)).toUInt32.toUInt16.toUInt32.toInt32))] [(.int (2 : Int32)), (.ref b115), (.ref b115)])) rfl (hb hby own_d0_55) rfl (by decide) (cap := 2) (by decide) (by decide) (by decide) (by decide)
        obtain ⟨b116, g116⟩ : ∃ z, z = h115.size := ⟨_, rfl⟩
        rw [← g116] at A116 st116
        have V116 : Arv Z h116 b116 k116 .char (2 : Int32) [(.int (0 : Int32)), (.int (0 : Int32))] (.int (0 : Int32)) := (Arv.new A116 (by decide)).pad (pad_rep [] (.int (0 : Int32)) 2)
        refine go _ _ (st116) ?_
        show G (T116.setTop (mkF m 57 #[.val (.int n), .val (.int x), .val (.int ((x &&& (255 : Int32)).toUInt32.toUInt16.toUInt32.toInt32)), .val (.int ((((x.toUInt32 >>> ((8 : Int32) &&& 31).toUInt32).toInt32) &&& (255 : Int32)).toUInt32.toUInt16.toUInt32.toInt32)), .val (.int ((((x.toUInt32 >>> ((16 : Int32) &&& 31).toUInt32).toInt32) &&& (255 : Int32)).toUInt32.toUInt16.toUInt32.toInt32))] [(.ref b116), (.ref b115), (.ref b115)]))
        refine go _ _ (fun _ k => XS.dup X116.here hx rfl (hb hby own_d0_57) rfl rfl (XS.iconst X116.here hx rfl (hb hby own_d0_58) (XS.iloadN X116.here hx rfl (hb hby own_d0_59) rfl k))) ?_
        show G (T116.setTop (mkF m 60 #[.val (.int n), .val (.int x), .val (.int ((x &&& (255 : Int32)).toUInt32.toUInt16.toUInt32.toInt32)), .val (.int ((((x.toUInt32 >>> ((8 : Int32) &&& 31).toUInt32).toInt32) &&& (255 : Int32)).toUInt32.toUInt16.toUInt32.toInt32)), .val (.int ((((x.toUInt32 >>> ((16 : Int32) &&& 31).toUInt32).toInt32) &&& (255 : Int32)).toUInt32.toUInt16.toUInt32.toInt32))] [(.int ((x &&& (255 : Int32)).toUInt32.toUInt16.toUInt32.toInt32)), (.int (0 : Int32)), (.ref b116), (.ref b116), (.ref b115), (.ref b115)]))
        obtain ⟨cl117, Ar117, q117, S117, M117, H117, U117⟩ := id V116
        obtain ⟨T117, h117, X117, e117, W117, st117⟩ := stC X116 hx hZ e116 Ar117 (j := (0 : Int32)) (inb_of S117 ⟨by decide, by decide⟩) (g := (mkF m 60 #[.val (.int n), .val (.int x), .val (.int ((x &&& (255 : Int32)).toUInt32.toUInt16.toUInt32.toInt32)), .val (.int ((((x.toUInt32 >>> ((8 : Int32) &&& 31).toUInt32).toInt32) &&& (255 : Int32)).toUInt32.toUInt16.toUInt32.toInt32)), .val (.int ((((x.toUInt32 >>> ((16 : Int32) &&& 31).toUInt32).toInt32) &&& (255 : Int32)).toUInt32.toUInt16.toUInt32.toInt32))] [(.int ((x &&& (255 : Int32)).toUInt32.toUInt16.toUInt32.toInt32)), (.int (0 : Int32)), (.ref b116), (.ref b116), (.ref b115), (.ref b115)])) rfl rfl (hb hby own_d0_60)
        have V117 : Arv Z h117 b116 k116 .char (2 : Int32) [(.int (nar .char ((x &&& (255 : Int32)).toUInt32.toUInt16.toUInt32.toInt32))), (.int (0 : Int32))] (.int (0 : Int32)) := Arv.set Ar117 q117 S117 M117 H117 U117 (fits_nar_char _) W117 0 rfl (Nat.le_of_ble_eq_true rfl)
        rw [(own_i2c (x &&& (255 : Int32)))] at V117
        have Z118 : h0.size ≤ h115.size := E115.1
        have N117 := Fr.snoc X117 N0 (Nat.le_trans (Nat.le_trans Z0 Z118) (Nat.le_of_eq g116.symm))
        refine go _ _ (st117) ?_
        show G (T117.setTop (mkF m 61 #[.val (.int n), .val (.int x), .val (.int ((x &&& (255 : Int32)).toUInt32.toUInt16.toUInt32.toInt32)), .val (.int ((((x.toUInt32 >>> ((8 : Int32) &&& 31).toUInt32).toInt32) &&& (255 : Int32)).toUInt32.toUInt16.toUInt32.toInt32)), .val (.int ((((x.toUInt32 >>> ((16 : Int32) &&& 31).toUInt32).toInt32) &&& (255 : Int32)).toUInt32.toUInt16.toUInt32.toInt32))] [(.ref b116), (.ref b115), (.ref b115)]))
        refine go _ _ (fun _ k => XS.dup X117.here hx rfl (hb hby own_d0_61) rfl rfl (XS.iconst X117.here hx rfl (hb hby own_d0_62) (XS.iloadN X117.here hx rfl (hb hby own_d0_63) rfl k))) ?_
        show G (T117.setTop (mkF m 64 #[.val (.int n), .val (.int x), .val (.int ((x &&& (255 : Int32)).toUInt32.toUInt16.toUInt32.toInt32)), .val (.int ((((x.toUInt32 >>> ((8 : Int32) &&& 31).toUInt32).toInt32) &&& (255 : Int32)).toUInt32.toUInt16.toUInt32.toInt32)), .val (.int ((((x.toUInt32 >>> ((16 : Int32) &&& 31).toUInt32).toInt32) &&& (255 : Int32)).toUInt32.toUInt16.toUInt32.toInt32))] [(.int ((((x.toUInt32 >>> ((8 : Int32) &&& 31).toUInt32).toInt32) &&& (255 : Int32)).toUInt32.toUInt16.toUInt32.toInt32)), (.int (1 : Int32)), (.ref b116), (.ref b116), (.ref b115), (.ref b115)]))
        obtain ⟨cl119, Ar119, q119, S119, M119, H119, U119⟩ := id V117
        obtain ⟨T119, h119, X119, e119, W119, st119⟩ := stC X117 hx hZ e117 Ar119 (j := (1 : Int32)) (inb_of S119 ⟨by decide, by decide⟩) (g := (mkF m 64 #[.val (.int n), .val (.int x), .val (.int ((x &&& (255 : Int32)).toUInt32.toUInt16.toUInt32.toInt32)), .val (.int ((((x.toUInt32 >>> ((8 : Int32) &&& 31).toUInt32).toInt32) &&& (255 : Int32)).toUInt32.toUInt16.toUInt32.toInt32)), .val (.int ((((x.toUInt32 >>> ((16 : Int32) &&& 31).toUInt32).toInt32) &&& (255 : Int32)).toUInt32.toUInt16.toUInt32.toInt32))] [(.int ((((x.toUInt32 >>> ((8 : Int32) &&& 31).toUInt32).toInt32) &&& (255 : Int32)).toUInt32.toUInt16.toUInt32.toInt32)), (.int (1 : Int32)), (.ref b116), (.ref b116), (.ref b115), (.ref b115)])) rfl rfl (hb hby own_d0_64)
        have V119 : Arv Z h119 b116 k116 .char (2 : Int32) [(.int ((x &&& (255 : Int32)).toUInt32.toUInt16.toUInt32.toInt32)), (.int (nar .char ((((x.toUInt32 >>> ((8 : Int32) &&& 31).toUInt32).toInt32) &&& (255 : Int32)).toUInt32.toUInt16.toUInt32.toInt32)))] (.int (0 : Int32)) := Arv.set Ar119 q119 S119 M119 H119 U119 (fits_nar_char _) W119 1 rfl (Nat.le_of_ble_eq_true rfl)
        rw [(own_i2c (((x.toUInt32 >>> ((8 : Int32) &&& 31).toUInt32).toInt32) &&& (255 : Int32)))] at V119
        have N119 := Fr.snoc X119 N117 (Nat.le_trans (Nat.le_trans Z0 Z118) (Nat.le_of_eq g116.symm))
        refine go _ _ (st119) ?_
        show G (T119.setTop (mkF m 65 #[.val (.int n), .val (.int x), .val (.int ((x &&& (255 : Int32)).toUInt32.toUInt16.toUInt32.toInt32)), .val (.int ((((x.toUInt32 >>> ((8 : Int32) &&& 31).toUInt32).toInt32) &&& (255 : Int32)).toUInt32.toUInt16.toUInt32.toInt32)), .val (.int ((((x.toUInt32 >>> ((16 : Int32) &&& 31).toUInt32).toInt32) &&& (255 : Int32)).toUInt32.toUInt16.toUInt32.toInt32))] [(.ref b116), (.ref b115), (.ref b115)]))
        have K121 : Keep h115 h116 [] := (Keep.refl h115 []).ext E116
        have K122 : Keep h115 h117 [] := K121.wr W117 (Or.inr (Nat.le_of_eq g116.symm))
        have K123 : Keep h115 h119 [] := K122.wr W119 (Or.inr (Nat.le_of_eq g116.symm))
        have F124 : Exa Z h119 b115 "java/lang/String" := (A115.keep K123)
        have F125 : Fld Z h119 b115 "java/lang/String" "value" "[B" .null := ((D115 (Or.inr (ow hw 33 rfl)) (ty := (.array .byte)) (by decide)).keep K123 nin0)
        have F126 : Fld Z h119 b115 "java/lang/String" "coder" "B" (.int (0 : Int32)) := ((D115 (Or.inr (ow hw 31 rfl)) (ty := .byte) (by decide)).keep K123 nin0)
        have K127 : Keep h0 h115 [] := (Keep.refl h0 []).ext E115
        have K128 : Keep h0 h116 [] := K127.ext E116
        have K129 : Keep h0 h117 [] := K128.wr W117 (Or.inr (Nat.le_trans Z118 (Nat.le_of_eq g116.symm)))
        have K130 : Keep h0 h119 [] := K129.wr W119 (Or.inr (Nat.le_trans Z118 (Nat.le_of_eq g116.symm)))
        have F131 : Old Z n0 h119 := (Xo.keep K130 all0)
        have hp120 : ∀ c ∈ ([((x &&& (255 : Int32)).toUInt32.toUInt16.toUInt32.toInt32), ((((x.toUInt32 >>> ((8 : Int32) &&& 31).toUInt32).toInt32) &&& (255 : Int32)).toUInt32.toUInt16.toUInt32.toInt32)] : List Int32), ¬ c < 0 ∧ ¬ (255 : Int32) < c := by
          intro c hc
          simp only [List.mem_cons, List.not_mem_nil, or_false] at hc
          rcases hc with rfl | rfl
          · exact (own_and255 x)
          · exact (own_and255 ((x.toUInt32 >>> ((8 : Int32) &&& 31).toUInt32).toInt32))
        have Z132 : h0.size ≤ h116.size := Nat.le_trans Z118 E116.1
        have Z133 : h0.size ≤ h117.size := Nat.le_trans Z132 (Keep.of_wr W117).1
        have Z134 : h0.size ≤ h119.size := Nat.le_trans Z133 (Keep.of_wr W119).1
        obtain ⟨rv120, T120, L120, X120, q120, st120⟩ := own_sp X119 hx hZ (y := (⟨"java/lang/String", "<init>", "([C)V"⟩ : MethodName)) rfl hown (ow hw 8 rfl) (ow hw 9 rfl) (ow hw 10 rfl) (by decide) (StrChars.Road.backV (W := 1) hZ (own_hws hw) (kI := 4) (ow hw 5 rfl) (cs := ([((x &&& (255 : Int32)).toUInt32.toUInt16.toUInt32.toInt32), ((((x.toUInt32 >>> ((8 : Int32) &&& 31).toUInt32).toInt32) &&& (255 : Int32)).toUInt32.toUInt16.toUInt32.toInt32)] : List Int32)) (bs := ([((x &&& (255 : Int32)).toUInt32.toUInt16.toUInt32.toInt32), ((((x.toUInt32 >>> ((8 : Int32) &&& 31).toUInt32).toInt32) &&& (255 : Int32)).toUInt32.toUInt16.toUInt32.toInt32)] : List Int32).map (fun c => c.toInt8.toInt32)) (n := 2) (Nat.le_trans Z0 (Nat.le_of_eq g115.symm)) (Nat.le_trans Z0 Z134) F124 F125 F126 V119 (O2.ext F131.2) P5 rfl rfl (by decide) (by decide) hp120 rfl (by decide) (by decide)) e119 (g := (mkF m 65 #[.val (.int n), .val (.int x), .val (.int ((x &&& (255 : Int32)).toUInt32.toUInt16.toUInt32.toInt32)), .val (.int ((((x.toUInt32 >>> ((8 : Int32) &&& 31).toUInt32).toInt32) &&& (255 : Int32)).toUInt32.toUInt16.toUInt32.toInt32)), .val (.int ((((x.toUInt32 >>> ((16 : Int32) &&& 31).toUInt32).toInt32) &&& (255 : Int32)).toUInt32.toUInt16.toUInt32.toInt32))] [(.ref b116), (.ref b115), (.ref b115)])) rfl (by rw [hml]; rfl) (a := b115) (argsL := [(.ref b116)]) (rest := [(.ref b115)]) rfl (lenOf own_pd22 rfl) rfl (by show 2 * 0 + _ ≤ _; exact Nat.le_of_eq rfl) (hb hby own_d0_65) (by decide) (by decide)
        obtain ⟨rfl, Nq120, Kp120, Es120, Cs120, t120, kb120, u120a, u120b, u120c, Vs120, As120⟩ := q120
        have N120 := Fr.app N119 Nq120
        have Sx120 : own_Str Z T120.heap b115 ([((x &&& (255 : Int32)).toUInt32.toUInt16.toUInt32.toInt32), ((((x.toUInt32 >>> ((8 : Int32) &&& 31).toUInt32).toInt32) &&& (255 : Int32)).toUInt32.toUInt16.toUInt32.toInt32)] : List Int32) := ⟨t120, kb120, Es120, Vs120, Cs120, As120, hp120, (Nat.le_of_ble_eq_true rfl)⟩
        refine go _ _ (st120) ?_
        show G (T120.setTop (mkF m 68 #[.val (.int n), .val (.int x), .val (.int ((x &&& (255 : Int32)).toUInt32.toUInt16.toUInt32.toInt32)), .val (.int ((((x.toUInt32 >>> ((8 : Int32) &&& 31).toUInt32).toInt32) &&& (255 : Int32)).toUInt32.toUInt16.toUInt32.toInt32)), .val (.int ((((x.toUInt32 >>> ((16 : Int32) &&& 31).toUInt32).toInt32) &&& (255 : Int32)).toUInt32.toUInt16.toUInt32.toInt32))] [(.ref b115)]))
        have K135 : Keep h0 T120.heap [] := K130.trans Kp120 (allS (Or.inr (Nat.le_of_eq g115.symm)) all0)
        have Sy : own_Str Z T120.heap b115 (own_text n x) := by rw [own_text2 hc29_101 hc37_105 hc47_114]; simpa only [i2c_mask] using Sx120
        have Ly : own_Ln Z T120.heap b115 (Int32.ofNat (own_text n x).length) := own_Ln_of Sy (own_text_len n x)
        have C136 : CHr Z own_EL s.vm h0 s.vm T120.heap := C0.trans (CHr.keep K135 sf0 C0.1)
        have Z137 : h0.size ≤ T120.heap.size := Nat.le_trans Z134 Kp120.1
        refine fin T120 _ _ _ (some (.ref b115)) s.vm _ X120 hZ hS Z137 C136 (fun q => nomatch q) (by decide) (by decide) ⟨N120, K135, ⟨b115, (Int32.ofNat (own_text n x).length), rfl, Es120, Sy, Ly⟩⟩ _ (own_retA X120 hx hret rfl rfl rfl (hb hby own_d0_68))
      · refine go _ _ (fun _ k => XS.icmpYes X0.here hx rfl (pc0 := 47) (pc' := 69) rfl (hb hby own_d0_47) rfl (feq hc47_114).2 (by decide) (by decide) k) ?_
        show G (s₁.setTop (mkF m 69 #[.val (.int n), .val (.int x), .val (.int ((x &&& (255 : Int32)).toUInt32.toUInt16.toUInt32.toInt32)), .val (.int ((((x.toUInt32 >>> ((8 : Int32) &&& 31).toUInt32).toInt32) &&& (255 : Int32)).toUInt32.toUInt16.toUInt32.toInt32)), .val (.int ((((x.toUInt32 >>> ((16 : Int32) &&& 31).toUInt32).toInt32) &&& (255 : Int32)).toUInt32.toUInt16.toUInt32.toInt32))] []))
        obtain ⟨T138, h138, X138, e138, E138, A138, D138, -, st138⟩ := newO X0 hx hZ hown (ow hw 4 rfl) (ow hw 5 rfl) (ow hw 6 rfl) e0 (g := (mkF m 69 #[.val (.int n), .val (.int x), .val (.int ((x &&& (255 : Int32)).toUInt32.toUInt16.toUInt32.toInt32)), .val (.int ((((x.toUInt32 >>> ((8 : Int32) &&& 31).toUInt32).toInt32) &&& (255 : Int32)).toUInt32.toUInt16.toUInt32.toInt32)), .val (.int ((((x.toUInt32 >>> ((16 : Int32) &&& 31).toUInt32).toInt32) &&& (255 : Int32)).toUInt32.toUInt16.toUInt32.toInt32))] [])) rfl (hb hby own_d0_69) (by decide) (by decide)
        obtain ⟨b138, g138⟩ : ∃ z, z = h0.size := ⟨_, rfl⟩
        rw [← g138] at A138 D138 st138
        refine go _ _ (st138) ?_
        show G (T138.setTop (mkF m 72 #[.val (.int n), .val (.int x), .val (.int ((x &&& (255 : Int32)).toUInt32.toUInt16.toUInt32.toInt32)), .val (.int ((((x.toUInt32 >>> ((8 : Int32) &&& 31).toUInt32).toInt32) &&& (255 : Int32)).toUInt32.toUInt16.toUInt32.toInt32)), .val (.int ((((x.toUInt32 >>> ((16 : Int32) &&& 31).toUInt32).toInt32) &&& (255 : Int32)).toUInt32.toUInt16.toUInt32.toInt32))] [(.ref b138)]))
        refine go _ _ (fun _ k => XS.dup X138.here hx rfl (hb hby own_d0_72) rfl rfl (XS.iconst X138.here hx rfl (hb hby own_d0_73) k)) ?_
        show G (T138.setTop (mkF m 74 #[.val (.int n), .val (.int x), .val (.int ((x &&& (255 : Int32)).toUInt32.toUInt16.toUInt32.toInt32)), .val (.int ((((x.toUInt32 >>> ((8 : Int32) &&& 31).toUInt32).toInt32) &&& (255 : Int32)).toUInt32.toUInt16.toUInt32.toInt32)), .val (.int ((((x.toUInt32 >>> ((16 : Int32) &&& 31).toUInt32).toInt32) &&& (255 : Int32)).toUInt32.toUInt16.toUInt32.toInt32))] [(.int (3 : Int32)), (.ref b138), (.ref b138)]))
        obtain ⟨T139, h139, k139, X139, e139, E139, A139, st139⟩ := newP X138 hx hZ (ow hw 7 rfl) e138 (g := (mkF m 74 #[.val (.int n), .val (.int x), .val (.int ((x &&& (255 : Int32)).toUInt32.toUInt16.toUInt32.toInt32)), .val (.int ((((x.toUInt32 >>> ((8 : Int32) &&& 31).toUInt32).toInt32) &&& (255 : Int32)).toUInt32.toUInt16.toUInt32.toInt32)), .val (.int ((((x.toUInt32 >>> ((16 : Int32) &&& 31).toUInt32).toInt32) &&& (255 : Int32)).toUInt32.toUInt16.toUInt32.toInt32))] [(.int (3 : Int32)), (.ref b138), (.ref b138)])) rfl (hb hby own_d0_74) rfl (by decide) (cap := 3) (by decide) (by decide) (by decide) (by decide)
        obtain ⟨b139, g139⟩ : ∃ z, z = h138.size := ⟨_, rfl⟩
        rw [← g139] at A139 st139
        have V139 : Arv Z h139 b139 k139 .char (3 : Int32) [(.int (0 : Int32)), (.int (0 : Int32)), (.int (0 : Int32))] (.int (0 : Int32)) := (Arv.new A139 (by decide)).pad (pad_rep [] (.int (0 : Int32)) 3)
        refine go _ _ (st139) ?_
        show G (T139.setTop (mkF m 76 #[.val (.int n), .val (.int x), .val (.int ((x &&& (255 : Int32)).toUInt32.toUInt16.toUInt32.toInt32)), .val (.int ((((x.toUInt32 >>> ((8 : Int32) &&& 31).toUInt32).toInt32) &&& (255 : Int32)).toUInt32.toUInt16.toUInt32.toInt32)), .val (.int ((((x.toUInt32 >>> ((16 : Int32) &&& 31).toUInt32).toInt32) &&& (255 : Int32)).toUInt32.toUInt16.toUInt32.toInt32))] [(.ref b139), (.ref b138), (.ref b138)]))
        refine go _ _ (fun _ k => XS.dup X139.here hx rfl (hb hby own_d0_76) rfl rfl (XS.iconst X139.here hx rfl (hb hby own_d0_77) (XS.iloadN X139.here hx rfl (hb hby own_d0_78) rfl k))) ?_
        show G (T139.setTop (mkF m 79 #[.val (.int n), .val (.int x), .val (.int ((x &&& (255 : Int32)).toUInt32.toUInt16.toUInt32.toInt32)), .val (.int ((((x.toUInt32 >>> ((8 : Int32) &&& 31).toUInt32).toInt32) &&& (255 : Int32)).toUInt32.toUInt16.toUInt32.toInt32)), .val (.int ((((x.toUInt32 >>> ((16 : Int32) &&& 31).toUInt32).toInt32) &&& (255 : Int32)).toUInt32.toUInt16.toUInt32.toInt32))] [(.int ((x &&& (255 : Int32)).toUInt32.toUInt16.toUInt32.toInt32)), (.int (0 : Int32)), (.ref b139), (.ref b139), (.ref b138), (.ref b138)]))
        obtain ⟨cl140, Ar140, q140, S140, M140, H140, U140⟩ := id V139
        obtain ⟨T140, h140, X140, e140, W140, st140⟩ := stC X139 hx hZ e139 Ar140 (j := (0 : Int32)) (inb_of S140 ⟨by decide, by decide⟩) (g := (mkF m 79 #[.val (.int n), .val (.int x), .val (.int ((x &&& (255 : Int32)).toUInt32.toUInt16.toUInt32.toInt32)), .val (.int ((((x.toUInt32 >>> ((8 : Int32) &&& 31).toUInt32).toInt32) &&& (255 : Int32)).toUInt32.toUInt16.toUInt32.toInt32)), .val (.int ((((x.toUInt32 >>> ((16 : Int32) &&& 31).toUInt32).toInt32) &&& (255 : Int32)).toUInt32.toUInt16.toUInt32.toInt32))] [(.int ((x &&& (255 : Int32)).toUInt32.toUInt16.toUInt32.toInt32)), (.int (0 : Int32)), (.ref b139), (.ref b139), (.ref b138), (.ref b138)])) rfl rfl (hb hby own_d0_79)
        have V140 : Arv Z h140 b139 k139 .char (3 : Int32) [(.int (nar .char ((x &&& (255 : Int32)).toUInt32.toUInt16.toUInt32.toInt32))), (.int (0 : Int32)), (.int (0 : Int32))] (.int (0 : Int32)) := Arv.set Ar140 q140 S140 M140 H140 U140 (fits_nar_char _) W140 0 rfl (Nat.le_of_ble_eq_true rfl)
        rw [(own_i2c (x &&& (255 : Int32)))] at V140
        have Z141 : h0.size ≤ h138.size := E138.1
        have N140 := Fr.snoc X140 N0 (Nat.le_trans (Nat.le_trans Z0 Z141) (Nat.le_of_eq g139.symm))
        refine go _ _ (st140) ?_
        show G (T140.setTop (mkF m 80 #[.val (.int n), .val (.int x), .val (.int ((x &&& (255 : Int32)).toUInt32.toUInt16.toUInt32.toInt32)), .val (.int ((((x.toUInt32 >>> ((8 : Int32) &&& 31).toUInt32).toInt32) &&& (255 : Int32)).toUInt32.toUInt16.toUInt32.toInt32)), .val (.int ((((x.toUInt32 >>> ((16 : Int32) &&& 31).toUInt32).toInt32) &&& (255 : Int32)).toUInt32.toUInt16.toUInt32.toInt32))] [(.ref b139), (.ref b138), (.ref b138)]))
        refine go _ _ (fun _ k => XS.dup X140.here hx rfl (hb hby own_d0_80) rfl rfl (XS.iconst X140.here hx rfl (hb hby own_d0_81) (XS.iloadN X140.here hx rfl (hb hby own_d0_82) rfl k))) ?_
        show G (T140.setTop (mkF m 83 #[.val (.int n), .val (.int x), .val (.int ((x &&& (255 : Int32)).toUInt32.toUInt16.toUInt32.toInt32)), .val (.int ((((x.toUInt32 >>> ((8 : Int32) &&& 31).toUInt32).toInt32) &&& (255 : Int32)).toUInt32.toUInt16.toUInt32.toInt32)), .val (.int ((((x.toUInt32 >>> ((16 : Int32) &&& 31).toUInt32).toInt32) &&& (255 : Int32)).toUInt32.toUInt16.toUInt32.toInt32))] [(.int ((((x.toUInt32 >>> ((8 : Int32) &&& 31).toUInt32).toInt32) &&& (255 : Int32)).toUInt32.toUInt16.toUInt32.toInt32)), (.int (1 : Int32)), (.ref b139), (.ref b139), (.ref b138), (.ref b138)]))
        obtain ⟨cl142, Ar142, q142, S142, M142, H142, U142⟩ := id V140
        obtain ⟨T142, h142, X142, e142, W142, st142⟩ := stC X140 hx hZ e140 Ar142 (j := (1 : Int32)) (inb_of S142 ⟨by decide, by decide⟩) (g := (mkF m 83 #[.val (.int n), .val (.int x), .val (.int ((x &&& (255 : Int32)).toUInt32.toUInt16.toUInt32.toInt32)), .val (.int ((((x.toUInt32 >>> ((8 : Int32) &&& 31).toUInt32).toInt32) &&& (255 : Int32)).toUInt32.toUInt16.toUInt32.toInt32)), .val (.int ((((x.toUInt32 >>> ((16 : Int32) &&& 31).toUInt32).toInt32) &&& (255 : Int32)).toUInt32.toUInt16.toUInt32.toInt32))] [(.int ((((x.toUInt32 >>> ((8 : Int32) &&& 31).toUInt32).toInt32) &&& (255 : Int32)).toUInt32.toUInt16.toUInt32.toInt32)), (.int (1 : Int32)), (.ref b139), (.ref b139), (.ref b138), (.ref b138)])) rfl rfl (hb hby own_d0_83)
        have V142 : Arv Z h142 b139 k139 .char (3 : Int32) [(.int ((x &&& (255 : Int32)).toUInt32.toUInt16.toUInt32.toInt32)), (.int (nar .char ((((x.toUInt32 >>> ((8 : Int32) &&& 31).toUInt32).toInt32) &&& (255 : Int32)).toUInt32.toUInt16.toUInt32.toInt32))), (.int (0 : Int32))] (.int (0 : Int32)) := Arv.set Ar142 q142 S142 M142 H142 U142 (fits_nar_char _) W142 1 rfl (Nat.le_of_ble_eq_true rfl)
        rw [(own_i2c (((x.toUInt32 >>> ((8 : Int32) &&& 31).toUInt32).toInt32) &&& (255 : Int32)))] at V142
        have N142 := Fr.snoc X142 N140 (Nat.le_trans (Nat.le_trans Z0 Z141) (Nat.le_of_eq g139.symm))
        refine go _ _ (st142) ?_
        show G (T142.setTop (mkF m 84 #[.val (.int n), .val (.int x), .val (.int ((x &&& (255 : Int32)).toUInt32.toUInt16.toUInt32.toInt32)), .val (.int ((((x.toUInt32 >>> ((8 : Int32) &&& 31).toUInt32).toInt32) &&& (255 : Int32)).toUInt32.toUInt16.toUInt32.toInt32)), .val (.int ((((x.toUInt32 >>> ((16 : Int32) &&& 31).toUInt32).toInt32) &&& (255 : Int32)).toUInt32.toUInt16.toUInt32.toInt32))] [(.ref b139), (.ref b138), (.ref b138)]))
        refine go _ _ (fun _ k => XS.dup X142.here hx rfl (hb hby own_d0_84) rfl rfl (XS.iconst X142.here hx rfl (hb hby own_d0_85) (XS.iload X142.here hx rfl (hb hby own_d0_86) rfl k))) ?_
        show G (T142.setTop (mkF m 88 #[.val (.int n), .val (.int x), .val (.int ((x &&& (255 : Int32)).toUInt32.toUInt16.toUInt32.toInt32)), .val (.int ((((x.toUInt32 >>> ((8 : Int32) &&& 31).toUInt32).toInt32) &&& (255 : Int32)).toUInt32.toUInt16.toUInt32.toInt32)), .val (.int ((((x.toUInt32 >>> ((16 : Int32) &&& 31).toUInt32).toInt32) &&& (255 : Int32)).toUInt32.toUInt16.toUInt32.toInt32))] [(.int ((((x.toUInt32 >>> ((16 : Int32) &&& 31).toUInt32).toInt32) &&& (255 : Int32)).toUInt32.toUInt16.toUInt32.toInt32)), (.int (2 : Int32)), (.ref b139), (.ref b139), (.ref b138), (.ref b138)]))
        obtain ⟨cl143, Ar143, q143, S143, M143, H143, U143⟩ := id V142
        obtain ⟨T143, h143, X143, e143, W143, st143⟩ := stC X142 hx hZ e142 Ar143 (j := (2 : Int32)) (inb_of S143 ⟨by decide, by decide⟩) (g := (mkF m 88 #[.val (.int n), .val (.int x), .val (.int ((x &&& (255 : Int32)).toUInt32.toUInt16.toUInt32.toInt32)), .val (.int ((((x.toUInt32 >>> ((8 : Int32) &&& 31).toUInt32).toInt32) &&& (255 : Int32)).toUInt32.toUInt16.toUInt32.toInt32)), .val (.int ((((x.toUInt32 >>> ((16 : Int32) &&& 31).toUInt32).toInt32) &&& (255 : Int32)).toUInt32.toUInt16.toUInt32.toInt32))] [(.int ((((x.toUInt32 >>> ((16 : Int32) &&& 31).toUInt32).toInt32) &&& (255 : Int32)).toUInt32.toUInt16.toUInt32.toInt32)), (.int (2 : Int32)), (.ref b139), (.ref b139), (.ref b138), (.ref b138)])) rfl rfl (hb hby own_d0_88)
        have V143 : Arv Z h143 b139 k139 .char (3 : Int32) [(.int ((x &&& (255 : Int32)).toUInt32.toUInt16.toUInt32.toInt32)), (.int ((((x.toUInt32 >>> ((8 : Int32) &&& 31).toUInt32).toInt32) &&& (255 : Int32)).toUInt32.toUInt16.toUInt32.toInt32)), (.int (nar .char ((((x.toUInt32 >>> ((16 : Int32) &&& 31).toUInt32).toInt32) &&& (255 : Int32)).toUInt32.toUInt16.toUInt32.toInt32)))] (.int (0 : Int32)) := Arv.set Ar143 q143 S143 M143 H143 U143 (fits_nar_char _) W143 2 rfl (Nat.le_of_ble_eq_true rfl)
        rw [(own_i2c (((x.toUInt32 >>> ((16 : Int32) &&& 31).toUInt32).toInt32) &&& (255 : Int32)))] at V143
        have N143 := Fr.snoc X143 N142 (Nat.le_trans (Nat.le_trans Z0 Z141) (Nat.le_of_eq g139.symm))
        refine go _ _ (st143) ?_
        show G (T143.setTop (mkF m 89 #[.val (.int n), .val (.int x), .val (.int ((x &&& (255 : Int32)).toUInt32.toUInt16.toUInt32.toInt32)), .val (.int ((((x.toUInt32 >>> ((8 : Int32) &&& 31).toUInt32).toInt32) &&& (255 : Int32)).toUInt32.toUInt16.toUInt32.toInt32)), .val (.int ((((x.toUInt32 >>> ((16 : Int32) &&& 31).toUInt32).toInt32) &&& (255 : Int32)).toUInt32.toUInt16.toUInt32.toInt32))] [(.ref b139), (.ref b138), (.ref b138)]))
        have K145 : Keep h138 h139 [] := (Keep.refl h138 []).ext E139
        have K146 : Keep h138 h140 [] := K145.wr W140 (Or.inr (Nat.le_of_eq g139.symm))
        have K147 : Keep h138 h142 [] := K146.wr W142 (Or.inr (Nat.le_of_eq g139.symm))
        have K148 : Keep h138 h143 [] := K147.wr W143 (Or.inr (Nat.le_of_eq g139.symm))
        have F149 : Exa Z h143 b138 "java/lang/String" := (A138.keep K148)
        have F150 : Fld Z h143 b138 "java/lang/String" "value" "[B" .null := ((D138 (Or.inr (ow hw 33 rfl)) (ty := (.array .byte)) (by decide)).keep K148 nin0)
        have F151 : Fld Z h143 b138 "java/lang/String" "coder" "B" (.int (0 : Int32)) := ((D138 (Or.inr (ow hw 31 rfl)) (ty := .byte) (by decide)).keep K148 nin0)
        have K152 : Keep h0 h138 [] := (Keep.refl h0 []).ext E138
        have K153 : Keep h0 h139 [] := K152.ext E139
        have K154 : Keep h0 h140 [] := K153.wr W140 (Or.inr (Nat.le_trans Z141 (Nat.le_of_eq g139.symm)))
        have K155 : Keep h0 h142 [] := K154.wr W142 (Or.inr (Nat.le_trans Z141 (Nat.le_of_eq g139.symm)))
        have K156 : Keep h0 h143 [] := K155.wr W143 (Or.inr (Nat.le_trans Z141 (Nat.le_of_eq g139.symm)))
        have F157 : Old Z n0 h143 := (Xo.keep K156 all0)
        have hp144 : ∀ c ∈ ([((x &&& (255 : Int32)).toUInt32.toUInt16.toUInt32.toInt32), ((((x.toUInt32 >>> ((8 : Int32) &&& 31).toUInt32).toInt32) &&& (255 : Int32)).toUInt32.toUInt16.toUInt32.toInt32), ((((x.toUInt32 >>> ((16 : Int32) &&& 31).toUInt32).toInt32) &&& (255 : Int32)).toUInt32.toUInt16.toUInt32.toInt32)] : List Int32), ¬ c < 0 ∧ ¬ (255 : Int32) < c := by
          intro c hc
          simp only [List.mem_cons, List.not_mem_nil, or_false] at hc
          rcases hc with rfl | rfl | rfl
          · exact (own_and255 x)
          · exact (own_and255 ((x.toUInt32 >>> ((8 : Int32) &&& 31).toUInt32).toInt32))
          · exact (own_and255 ((x.toUInt32 >>> ((16 : Int32) &&& 31).toUInt32).toInt32))
        have Z158 : h0.size ≤ h139.size := Nat.le_trans Z141 E139.1
        have Z159 : h0.size ≤ h140.size := Nat.le_trans Z158 (Keep.of_wr W140).1
        have Z160 : h0.size ≤ h142.size := Nat.le_trans Z159 (Keep.of_wr W142).1
        have Z161 : h0.size ≤ h143.size := Nat.le_trans Z160 (Keep.of_wr W143).1
        obtain ⟨rv144, T144, L144, X144, q144, st144⟩ := own_sp X143 hx hZ (y := (⟨"java/lang/String", "<init>", "([C)V"⟩ : MethodName)) rfl hown (ow hw 8 rfl) (ow hw 9 rfl) (ow hw 10 rfl) (by decide) (StrChars.Road.backV (W := 1) hZ (own_hws hw) (kI := 4) (ow hw 5 rfl) (cs := ([((x &&& (255 : Int32)).toUInt32.toUInt16.toUInt32.toInt32), ((((x.toUInt32 >>> ((8 : Int32) &&& 31).toUInt32).toInt32) &&& (255 : Int32)).toUInt32.toUInt16.toUInt32.toInt32), ((((x.toUInt32 >>> ((16 : Int32) &&& 31).toUInt32).toInt32) &&& (255 : Int32)).toUInt32.toUInt16.toUInt32.toInt32)] : List Int32)) (bs := ([((x &&& (255 : Int32)).toUInt32.toUInt16.toUInt32.toInt32), ((((x.toUInt32 >>> ((8 : Int32) &&& 31).toUInt32).toInt32) &&& (255 : Int32)).toUInt32.toUInt16.toUInt32.toInt32), ((((x.toUInt32 >>> ((16 : Int32) &&& 31).toUInt32).toInt32) &&& (255 : Int32)).toUInt32.toUInt16.toUInt32.toInt32)] : List Int32).map (fun c => c.toInt8.toInt32)) (n := 3) (Nat.le_trans Z0 (Nat.le_of_eq g138.symm)) (Nat.le_trans Z0 Z161) F149 F150 F151 V143 (O2.ext F157.2) P5 rfl rfl (by decide) (by decide) hp144 rfl (by decide) (by decide)) e143 (g := (mkF m 89 #[.val (.int n), .val (.int x), .val (.int ((x &&& (255 : Int32)).toUInt32.toUInt16.toUInt32.toInt32)), .val (.int ((((x.toUInt32 >>> ((8 : Int32) &&& 31).toUInt32).toInt32) &&& (255 : Int32)).toUInt32.toUInt16.toUInt32.toInt32)), .val (.int ((((x.toUInt32 >>> ((16 : Int32) &&& 31).toUInt32).toInt32) &&& (255 : Int32)).toUInt32.toUInt16.toUInt32.toInt32))] [(.ref b139), (.ref b138), (.ref b138)])) rfl (by rw [hml]; rfl) (a := b138) (argsL := [(.ref b139)]) (rest := [(.ref b138)]) rfl (lenOf own_pd22 rfl) rfl (by show 2 * 0 + _ ≤ _; exact Nat.le_of_eq rfl) (hb hby own_d0_89) (by decide) (by decide)
        obtain ⟨rfl, Nq144, Kp144, Es144, Cs144, t144, kb144, u144a, u144b, u144c, Vs144, As144⟩ := q144
        have N144 := Fr.app N143 Nq144
        have Sx144 : own_Str Z T144.heap b138 ([((x &&& (255 : Int32)).toUInt32.toUInt16.toUInt32.toInt32), ((((x.toUInt32 >>> ((8 : Int32) &&& 31).toUInt32).toInt32) &&& (255 : Int32)).toUInt32.toUInt16.toUInt32.toInt32), ((((x.toUInt32 >>> ((16 : Int32) &&& 31).toUInt32).toInt32) &&& (255 : Int32)).toUInt32.toUInt16.toUInt32.toInt32)] : List Int32) := ⟨t144, kb144, Es144, Vs144, Cs144, As144, hp144, (Nat.le_of_ble_eq_true rfl)⟩
        refine go _ _ (st144) ?_
        show G (T144.setTop (mkF m 92 #[.val (.int n), .val (.int x), .val (.int ((x &&& (255 : Int32)).toUInt32.toUInt16.toUInt32.toInt32)), .val (.int ((((x.toUInt32 >>> ((8 : Int32) &&& 31).toUInt32).toInt32) &&& (255 : Int32)).toUInt32.toUInt16.toUInt32.toInt32)), .val (.int ((((x.toUInt32 >>> ((16 : Int32) &&& 31).toUInt32).toInt32) &&& (255 : Int32)).toUInt32.toUInt16.toUInt32.toInt32))] [(.ref b138)]))
        have K162 : Keep h0 T144.heap [] := K156.trans Kp144 (allS (Or.inr (Nat.le_of_eq g138.symm)) all0)
        have Sy : own_Str Z T144.heap b138 (own_text n x) := by rw [own_text3 hc29_101 hc37_105 hc47_114]; simpa only [i2c_mask] using Sx144
        have Ly : own_Ln Z T144.heap b138 (Int32.ofNat (own_text n x).length) := own_Ln_of Sy (own_text_len n x)
        have C163 : CHr Z own_EL s.vm h0 s.vm T144.heap := C0.trans (CHr.keep K162 sf0 C0.1)
        have Z164 : h0.size ≤ T144.heap.size := Nat.le_trans Z161 Kp144.1
        refine fin T144 _ _ _ (some (.ref b138)) s.vm _ X144 hZ hS Z164 C163 (fun q => nomatch q) (by decide) (by decide) ⟨N144, K162, ⟨b138, (Int32.ofNat (own_text n x).length), rfl, Es144, Sy, Ly⟩⟩ _ (own_retA X144 hx hret rfl rfl rfl (hb hby own_d0_92))
theorem own_pd23 : parseMethodDescriptor "(Ljava/lang/String;Ljava/lang/String;Ljava/lang/String;Ljava/lang/String;Ljava/lang/String;Ljava/lang/String;)V" = some ⟨[(.object "java/lang/String"), (.object "java/lang/String"), (.object "java/lang/String"), (.object "java/lang/String"), (.object "java/lang/String"), (.object "java/lang/String")], none⟩ := by decide +kernel
set_option maxHeartbeats 4000000 in
theorem own_ef_rmLaw (m : MethodId) (x0 : Int32) (x1 : Int32) (x2 : Int32) (x3 : Int32) (x4 : Int32) : entryFrame m #[(.int x0), (.int x1), (.int x2), (.int x3), (.int x4)] maxLocals = mkF m 0 #[.val (.int x0), .val (.int x1), .val (.int x2), .val (.int x3), .val (.int x4), .unset, .unset, .unset, .unset, .unset, .unset, .unset, .unset, .unset, .unset] [] := by simp [entryFrame, mkF, argsToLocals, Value.category, maxLocals]
set_option maxRecDepth 65536 in
set_option maxHeartbeats 40000000 in
theorem rmLaw (l : Launch) (Z : State) (a0 : Array Value) (hw : ∀ d ∈ tables_1, d.before a0 Z = true) (z0 : Int32) (O2 : Sta Z Z.heap "java/lang/String" "COMPACT_STRINGS" "Z" (.int z0)) (P5 : ¬ z0 = (0 : Int32)) (fm0 : Value) (O4 : Sta Z Z.heap "jdk/internal/util/Preconditions" "SIOOBE_FORMATTER" "Ljava/util/function/BiFunction;" fm0) (R4 : fm0.isRef = true) (ws : List Jvm.Cond) (p0 : Int32) (p1 : Int32) (p2 : Int32) (p3 : Int32) (p4 : Int32) (h0 : Heap) (n0 : Nat) (Z0 : n0 ≤ h0.size) (Xo : Old Z n0 h0) :
    own_MetH l Z own_EL x code maxLocals ret ws room_1 #[(.int p0), (.int p1), (.int p2), (.int p3), (.int p4)] h0 (fun v h L => Fr n0 L ∧ Keep h0 h [] ∧ (((v = some (.int (1 : Int32)))))) := by
  refine own_metH (plainFor_of_name own_pn8) (own_hEL hw) ?_
  intro p e s m below meth c s₁ G hx hby hml hZ hown hnm hret X0 e0 hS C0 go fin
  have N0 := Fr.nil n0
  refine go _ _ (fun _ k => castTop (own_ef_rmLaw m p0 p1 p2 p3 p4) k) ?_
  show G (s₁.setTop (mkF m 0 #[.val (.int p0), .val (.int p1), .val (.int p2), .val (.int p3), .val (.int p4), .unset, .unset, .unset, .unset, .unset, .unset, .unset, .unset, .unset, .unset] []))
  refine go _ _ (fun _ k => XS.iloadN X0.here hx rfl (hb hby at_0) rfl (XS.iconst X0.here hx rfl (hb hby at_1) (XS.iand X0.here hx rfl (hb hby at_2) rfl (XS.istore X0.here hx rfl (hb hby at_3) rfl (l' := #[.val (.int p0), .val (.int p1), .val (.int p2), .val (.int p3), .val (.int p4), .val (.int (p2 &&& (3 : Int32))), .unset, .unset, .unset, .unset, .unset, .unset, .unset, .unset, .unset]) rfl (XS.iload X0.here hx rfl (hb hby at_5) rfl (XS.iconst X0.here hx rfl (hb hby at_7) k)))))) ?_
  show G (s₁.setTop (mkF m 8 #[.val (.int p0), .val (.int p1), .val (.int p2), .val (.int p3), .val (.int p4), .val (.int (p2 &&& (3 : Int32))), .unset, .unset, .unset, .unset, .unset, .unset, .unset, .unset, .unset] [(.int (2 : Int32)), (.int p4)]))
  refine go _ _ (fun _ k => XS.iand X0.here hx rfl (hb hby at_8) rfl k) ?_
  show G (s₁.setTop (mkF m 9 #[.val (.int p0), .val (.int p1), .val (.int p2), .val (.int p3), .val (.int p4), .val (.int (p2 &&& (3 : Int32))), .unset, .unset, .unset, .unset, .unset, .unset, .unset, .unset, .unset] [(.int (p4 &&& (2 : Int32)))]))
  have J101 : ∀ (T101 : State) (L101 : List Loc) (X101 : Stand p l e room_1 (s.setVm s.vm) m #[(.int p0), (.int p1), (.int p2), (.int p3), (.int p4)] below meth c T101 L101 0 0) (e101 : T101.heap = h0) (N101 : Fr n0 L101) (z_101 : Int32) (pj101_z0 : own_4 z_101), G (T101.setTop (mkF m 22 #[.val (.int p0), .val (.int p1), .val (.int p2), .val (.int p3), .val (.int p4), .val (.int (p2 &&& (3 : Int32))), .unset, .unset, .unset, .unset, .unset, .unset, .unset, .unset, .unset] [(.int z_101)])) := by
    intro T101 L101 X101 e101 N101 z_101 pj101_z0
    show G (T101.setTop (mkF m 22 #[.val (.int p0), .val (.int p1), .val (.int p2), .val (.int p3), .val (.int p4), .val (.int (p2 &&& (3 : Int32))), .unset, .unset, .unset, .unset, .unset, .unset, .unset, .unset, .unset] [(.int z_101)]))
    refine go _ _ (fun _ k => XS.istore X101.here hx rfl (hb hby at_22) rfl (l' := #[.val (.int p0), .val (.int p1), .val (.int p2), .val (.int p3), .val (.int p4), .val (.int (p2 &&& (3 : Int32))), .val (.int z_101), .unset, .unset, .unset, .unset, .unset, .unset, .unset, .unset]) rfl (XS.iload X101.here hx rfl (hb hby at_24) rfl (XS.iconst X101.here hx rfl (hb hby at_26) (XS.iand X101.here hx rfl (hb hby at_27) rfl k)))) ?_
    show G (T101.setTop (mkF m 28 #[.val (.int p0), .val (.int p1), .val (.int p2), .val (.int p3), .val (.int p4), .val (.int (p2 &&& (3 : Int32))), .val (.int z_101), .unset, .unset, .unset, .unset, .unset, .unset, .unset, .unset] [(.int (p4 &&& (1 : Int32)))]))
    have J102 : ∀ (T102 : State) (L102 : List Loc) (X102 : Stand p l e room_1 (s.setVm s.vm) m #[(.int p0), (.int p1), (.int p2), (.int p3), (.int p4)] below meth c T102 L102 0 0) (e102 : T102.heap = h0) (N102 : Fr n0 L102) (y_102 : Int32), G (T102.setTop (mkF m 36 #[.val (.int p0), .val (.int p1), .val (.int p2), .val (.int p3), .val (.int p4), .val (.int (p2 &&& (3 : Int32))), .val (.int z_101), .unset, .unset, .unset, .unset, .unset, .unset, .unset, .unset] [(.int y_102)])) := by
      intro T102 L102 X102 e102 N102 y_102
      show G (T102.setTop (mkF m 36 #[.val (.int p0), .val (.int p1), .val (.int p2), .val (.int p3), .val (.int p4), .val (.int (p2 &&& (3 : Int32))), .val (.int z_101), .unset, .unset, .unset, .unset, .unset, .unset, .unset, .unset] [(.int y_102)]))
      refine go _ _ (fun _ k => XS.istore X102.here hx rfl (hb hby at_36) rfl (l' := #[.val (.int p0), .val (.int p1), .val (.int p2), .val (.int p3), .val (.int p4), .val (.int (p2 &&& (3 : Int32))), .val (.int z_101), .val (.int y_102), .unset, .unset, .unset, .unset, .unset, .unset, .unset]) rfl (XS.iload X102.here hx rfl (hb hby at_38) rfl (XS.iloadN X102.here hx rfl (hb hby at_40) rfl k))) ?_
      show G (T102.setTop (mkF m 41 #[.val (.int p0), .val (.int p1), .val (.int p2), .val (.int p3), .val (.int p4), .val (.int (p2 &&& (3 : Int32))), .val (.int z_101), .val (.int y_102), .unset, .unset, .unset, .unset, .unset, .unset, .unset] [(.int p0), (.int (p2 &&& (3 : Int32)))]))
      obtain ⟨rv103, T103, L103, X103, q103, hZ103, hown103, hS103, C103, st103⟩ := own_stW X102 hx hZ (y := (⟨"com/example/naslov/naslov/UriEqualsPinLaw", "str", "(II)Ljava/lang/String;"⟩ : MethodName)) hown (ow hw 0 rfl) (ow hw 1 rfl) (ow hw 2 rfl) (ow hw 3 rfl) (by decide) (own_bkH (W := 0) (rm0 l Z a0 hw z0 O2 P5 fm0 O4 R4 [] (p2 &&& (3 : Int32)) p0 h0 n0 Z0 Xo) hZ (ow hw 3 rfl) (ow hw 2 rfl) (by decide) (by decide) (own_hEL hw) C0.1) e102 hS (Nat.le_refl _) (g := (mkF m 41 #[.val (.int p0), .val (.int p1), .val (.int p2), .val (.int p3), .val (.int p4), .val (.int (p2 &&& (3 : Int32))), .val (.int z_101), .val (.int y_102), .unset, .unset, .unset, .unset, .unset, .unset, .unset] [(.int p0), (.int (p2 &&& (3 : Int32)))])) rfl (by rw [hml]; rfl) (argsL := [(.int (p2 &&& (3 : Int32))), (.int p0)]) (rest := []) rfl (lenOf own_pd13 rfl) rfl (by show 2 * 0 + _ ≤ _; exact Nat.le_of_eq rfl) (hb hby at_41) (by decide) (by decide)
      obtain ⟨Nq103, Kp103, ⟨b_104, ln_105, rfl, f106, f107, f108⟩⟩ := q103
      have N103 := Fr.app N102 Nq103
      refine go _ _ (st103) ?_
      show G (T103.setTop (mkF m 44 #[.val (.int p0), .val (.int p1), .val (.int p2), .val (.int p3), .val (.int p4), .val (.int (p2 &&& (3 : Int32))), .val (.int z_101), .val (.int y_102), .unset, .unset, .unset, .unset, .unset, .unset, .unset] [(.ref b_104)]))
      refine go _ _ (fun _ k => XS.astore X103.here hx rfl (hb hby at_44) rfl rfl (l' := #[.val (.int p0), .val (.int p1), .val (.int p2), .val (.int p3), .val (.int p4), .val (.int (p2 &&& (3 : Int32))), .val (.int z_101), .val (.int y_102), .val (.ref b_104), .unset, .unset, .unset, .unset, .unset, .unset]) rfl (XS.iload X103.here hx rfl (hb hby at_46) rfl (XS.iload X103.here hx rfl (hb hby at_48) rfl k))) ?_
      show G (T103.setTop (mkF m 50 #[.val (.int p0), .val (.int p1), .val (.int p2), .val (.int p3), .val (.int p4), .val (.int (p2 &&& (3 : Int32))), .val (.int z_101), .val (.int y_102), .val (.ref b_104), .unset, .unset, .unset, .unset, .unset, .unset] [(.int y_102), (.int z_101)]))
      have K110 : Keep h0 T103.heap [] := (Keep.refl h0 []).trans Kp103 all0
      have F111 : Old Z n0 T103.heap := (Xo.keep K110 all0)
      have Z112 : h0.size ≤ T103.heap.size := Kp103.1
      have C113 : CHr Z own_EL s.vm h0 T103.vm T103.heap := C0.trans C103
      obtain ⟨rv109, T109, L109, X109, q109, hZ109, hown109, hS109, C109, st109⟩ := own_stW X103 hx hZ103 (y := (⟨"com/example/naslov/naslov/UriEqualsPinLaw", "str", "(II)Ljava/lang/String;"⟩ : MethodName)) hown103 (ow hw 0 rfl) (ow hw 1 rfl) (ow hw 2 rfl) (ow hw 3 rfl) (by decide) (own_bkH (W := 0) (rm0 l Z a0 hw z0 O2 P5 fm0 O4 R4 [] z_101 y_102 T103.heap n0 (Nat.le_trans Z0 Z112) F111) hZ103 (ow hw 3 rfl) (ow hw 2 rfl) (by decide) (by decide) (own_hEL hw) C113.1) rfl hS103 (Nat.le_refl _) (g := (mkF m 50 #[.val (.int p0), .val (.int p1), .val (.int p2), .val (.int p3), .val (.int p4), .val (.int (p2 &&& (3 : Int32))), .val (.int z_101), .val (.int y_102), .val (.ref b_104), .unset, .unset, .unset, .unset, .unset, .unset] [(.int y_102), (.int z_101)])) rfl (by rw [hml]; rfl) (argsL := [(.int z_101), (.int y_102)]) (rest := []) rfl (lenOf own_pd13 rfl) rfl (by show 2 * 0 + _ ≤ _; exact Nat.le_of_eq rfl) (hb hby at_50) (by decide) (by decide)
      obtain ⟨Nq109, Kp109, ⟨b_114, ln_115, rfl, f116, f117, f118⟩⟩ := q109
      have N109 := Fr.app N103 Nq109
      refine go _ _ (st109) ?_
      show G (T109.setTop (mkF m 53 #[.val (.int p0), .val (.int p1), .val (.int p2), .val (.int p3), .val (.int p4), .val (.int (p2 &&& (3 : Int32))), .val (.int z_101), .val (.int y_102), .val (.ref b_104), .unset, .unset, .unset, .unset, .unset, .unset] [(.ref b_114)]))
      refine go _ _ (fun _ k => XS.astore X109.here hx rfl (hb hby at_53) rfl rfl (l' := #[.val (.int p0), .val (.int p1), .val (.int p2), .val (.int p3), .val (.int p4), .val (.int (p2 &&& (3 : Int32))), .val (.int z_101), .val (.int y_102), .val (.ref b_104), .val (.ref b_114), .unset, .unset, .unset, .unset, .unset]) rfl (XS.iload X109.here hx rfl (hb hby at_55) rfl (XS.iload X109.here hx rfl (hb hby at_57) rfl k))) ?_
      show G (T109.setTop (mkF m 59 #[.val (.int p0), .val (.int p1), .val (.int p2), .val (.int p3), .val (.int p4), .val (.int (p2 &&& (3 : Int32))), .val (.int z_101), .val (.int y_102), .val (.ref b_104), .val (.ref b_114), .unset, .unset, .unset, .unset, .unset] [(.int z_101), (.int (p2 &&& (3 : Int32)))]))
      have J119 : ∀ (T119 : State) (L119 : List Loc) (X119 : Stand p l e room_1 (s.setVm T109.vm) m #[(.int p0), (.int p1), (.int p2), (.int p3), (.int p4)] below meth c T119 L119 6 20) (e119 : T119.heap = T109.heap) (N119 : Fr n0 L119) (ex_119 : Int32) (pj119_ex0 : own_is ex_119 ((own_text (p2 &&& (3 : Int32)) p0) = (own_text z_101 y_102))), G (T119.setTop (mkF m 139 #[.val (.int p0), .val (.int p1), .val (.int p2), .val (.int p3), .val (.int p4), .val (.int (p2 &&& (3 : Int32))), .val (.int z_101), .val (.int y_102), .val (.ref b_104), .val (.ref b_114), .unset, .unset, .unset, .unset, .unset] [(.int ex_119)])) := by
        intro T119 L119 X119 e119 N119 ex_119 pj119_ex0
        show G (T119.setTop (mkF m 139 #[.val (.int p0), .val (.int p1), .val (.int p2), .val (.int p3), .val (.int p4), .val (.int (p2 &&& (3 : Int32))), .val (.int z_101), .val (.int y_102), .val (.ref b_104), .val (.ref b_114), .unset, .unset, .unset, .unset, .unset] [(.int ex_119)]))
        refine go _ _ (fun _ k => XS.istore X119.here hx rfl (hb hby at_139) rfl (l' := #[.val (.int p0), .val (.int p1), .val (.int p2), .val (.int p3), .val (.int p4), .val (.int (p2 &&& (3 : Int32))), .val (.int z_101), .val (.int y_102), .val (.ref b_104), .val (.ref b_114), .val (.int ex_119), .unset, .unset, .unset, .unset]) rfl k) ?_
        show G (T119.setTop (mkF m 141 #[.val (.int p0), .val (.int p1), .val (.int p2), .val (.int p3), .val (.int p4), .val (.int (p2 &&& (3 : Int32))), .val (.int z_101), .val (.int y_102), .val (.ref b_104), .val (.ref b_114), .val (.int ex_119), .unset, .unset, .unset, .unset] []))
        obtain ⟨T120, h120, X120, e120, E120, A120, D120, -, st120⟩ := newO X119 hx hZ109 hown109 (ow hw 34 rfl) (ow hw 35 rfl) (ow hw 36 rfl) e119 (g := (mkF m 141 #[.val (.int p0), .val (.int p1), .val (.int p2), .val (.int p3), .val (.int p4), .val (.int (p2 &&& (3 : Int32))), .val (.int z_101), .val (.int y_102), .val (.ref b_104), .val (.ref b_114), .val (.int ex_119), .unset, .unset, .unset, .unset] [])) rfl (hb hby at_141) (by decide) (by decide)
        obtain ⟨b120, g120⟩ : ∃ z, z = T109.heap.size := ⟨_, rfl⟩
        rw [← g120] at A120 D120 st120
        refine go _ _ (st120) ?_
        show G (T120.setTop (mkF m 144 #[.val (.int p0), .val (.int p1), .val (.int p2), .val (.int p3), .val (.int p4), .val (.int (p2 &&& (3 : Int32))), .val (.int z_101), .val (.int y_102), .val (.ref b_104), .val (.ref b_114), .val (.int ex_119), .unset, .unset, .unset, .unset] [(.ref b120)]))
        refine go _ _ (fun _ k => XS.dup X120.here hx rfl (hb hby at_144) rfl rfl (XS.aload X120.here hx rfl (hb hby at_145) rfl rfl (XS.iloadN X120.here hx rfl (hb hby at_147) rfl (XS.iconst X120.here hx rfl (hb hby at_148) (XS.iand X120.here hx rfl (hb hby at_149) rfl k))))) ?_
        show G (T120.setTop (mkF m 150 #[.val (.int p0), .val (.int p1), .val (.int p2), .val (.int p3), .val (.int p4), .val (.int (p2 &&& (3 : Int32))), .val (.int z_101), .val (.int y_102), .val (.ref b_104), .val (.ref b_114), .val (.int ex_119), .unset, .unset, .unset, .unset] [(.int (p3 &&& (1 : Int32))), (.ref b_104), (.ref b120), (.ref b120)]))
        have J121 : ∀ (T121 : State) (L121 : List Loc) (X121 : Stand p l e room_1 (s.setVm T109.vm) m #[(.int p0), (.int p1), (.int p2), (.int p3), (.int p4)] below meth c T121 L121 7 29) (e121 : T121.heap = h120) (N121 : Fr n0 L121) (w_121 : Value) (pj121_w0 : w_121.isRef = true), G (T121.setTop (mkF m 159 #[.val (.int p0), .val (.int p1), .val (.int p2), .val (.int p3), .val (.int p4), .val (.int (p2 &&& (3 : Int32))), .val (.int z_101), .val (.int y_102), .val (.ref b_104), .val (.ref b_114), .val (.int ex_119), .unset, .unset, .unset, .unset] [w_121, (.ref b_104), (.ref b120), (.ref b120)])) := by
          intro T121 L121 X121 e121 N121 w_121 pj121_w0
          show G (T121.setTop (mkF m 159 #[.val (.int p0), .val (.int p1), .val (.int p2), .val (.int p3), .val (.int p4), .val (.int (p2 &&& (3 : Int32))), .val (.int z_101), .val (.int y_102), .val (.ref b_104), .val (.ref b_114), .val (.int ex_119), .unset, .unset, .unset, .unset] [w_121, (.ref b_104), (.ref b120), (.ref b120)]))
          refine go _ _ (fun _ k => XS.iloadN X121.here hx rfl (hb hby at_159) rfl (XS.iconst X121.here hx rfl (hb hby at_160) (XS.iand X121.here hx rfl (hb hby at_161) rfl k))) ?_
          show G (T121.setTop (mkF m 162 #[.val (.int p0), .val (.int p1), .val (.int p2), .val (.int p3), .val (.int p4), .val (.int (p2 &&& (3 : Int32))), .val (.int z_101), .val (.int y_102), .val (.ref b_104), .val (.ref b_114), .val (.int ex_119), .unset, .unset, .unset, .unset] [(.int (p3 &&& (2 : Int32))), w_121, (.ref b_104), (.ref b120), (.ref b120)]))
          have J122 : ∀ (T122 : State) (L122 : List Loc) (X122 : Stand p l e room_1 (s.setVm T109.vm) m #[(.int p0), (.int p1), (.int p2), (.int p3), (.int p4)] below meth c T122 L122 7 29) (e122 : T122.heap = h120) (N122 : Fr n0 L122) (w_122 : Value) (pj122_w0 : w_122.isRef = true) (pj122_w1 : w_122 = .null ∨ w_122 = (.ref b_114)), G (T122.setTop (mkF m 171 #[.val (.int p0), .val (.int p1), .val (.int p2), .val (.int p3), .val (.int p4), .val (.int (p2 &&& (3 : Int32))), .val (.int z_101), .val (.int y_102), .val (.ref b_104), .val (.ref b_114), .val (.int ex_119), .unset, .unset, .unset, .unset] [w_122, w_121, (.ref b_104), (.ref b120), (.ref b120)])) := by
            intro T122 L122 X122 e122 N122 w_122 pj122_w0 pj122_w1
            show G (T122.setTop (mkF m 171 #[.val (.int p0), .val (.int p1), .val (.int p2), .val (.int p3), .val (.int p4), .val (.int (p2 &&& (3 : Int32))), .val (.int z_101), .val (.int y_102), .val (.ref b_104), .val (.ref b_114), .val (.int ex_119), .unset, .unset, .unset, .unset] [w_122, w_121, (.ref b_104), (.ref b120), (.ref b120)]))
            refine go _ _ (fun _ k => XS.iloadN X122.here hx rfl (hb hby at_171) rfl (XS.iconst X122.here hx rfl (hb hby at_172) (XS.iand X122.here hx rfl (hb hby at_173) rfl k))) ?_
            show G (T122.setTop (mkF m 174 #[.val (.int p0), .val (.int p1), .val (.int p2), .val (.int p3), .val (.int p4), .val (.int (p2 &&& (3 : Int32))), .val (.int z_101), .val (.int y_102), .val (.ref b_104), .val (.ref b_114), .val (.int ex_119), .unset, .unset, .unset, .unset] [(.int (p3 &&& (4 : Int32))), w_122, w_121, (.ref b_104), (.ref b120), (.ref b120)]))
            have J123 : ∀ (T123 : State) (L123 : List Loc) (h123 : Heap) (vm123 : Vm) (kk123 : Nat) (X123 : Stand p l e room_1 (s.setVm vm123) m #[(.int p0), (.int p1), (.int p2), (.int p3), (.int p4)] below meth c T123 L123 9 33) (e123 : T123.heap = h123) (N123 : Fr n0 L123) (K123 : Keep h120 h123 []) (hZ123 : Z.Warmed39 vm123) (hown123 : vm123.findClass "com/example/naslov/naslov/UriEqualsPinLaw" = some m.cls) (hS123 : s.Since vm123 kk123) (hk123 : kk123 ≤ h123.size) (Cc123 : CHr Z own_EL s.vm h0 vm123 h123) (q_123 : Addr) (fj123_0 : Exa Z h123 q_123 "java/lang/String"), G (T123.setTop (mkF m 184 #[.val (.int p0), .val (.int p1), .val (.int p2), .val (.int p3), .val (.int p4), .val (.int (p2 &&& (3 : Int32))), .val (.int z_101), .val (.int y_102), .val (.ref b_104), .val (.ref b_114), .val (.int ex_119), .unset, .unset, .unset, .unset] [(.ref q_123), w_122, w_121, (.ref b_104), (.ref b120), (.ref b120)])) := by
              intro T123 L123 h123 vm123 kk123 X123 e123 N123 K123 hZ123 hown123 hS123 hk123 Cc123 q_123 fj123_0
              show G (T123.setTop (mkF m 184 #[.val (.int p0), .val (.int p1), .val (.int p2), .val (.int p3), .val (.int p4), .val (.int (p2 &&& (3 : Int32))), .val (.int z_101), .val (.int y_102), .val (.ref b_104), .val (.ref b_114), .val (.int ex_119), .unset, .unset, .unset, .unset] [(.ref q_123), w_122, w_121, (.ref b_104), (.ref b120), (.ref b120)]))
              refine go _ _ (fun _ k => XS.iloadN X123.here hx rfl (hb hby at_184) rfl (XS.bipush X123.here hx rfl (hb hby at_185) (XS.iand X123.here hx rfl (hb hby at_187) rfl k))) ?_
              show G (T123.setTop (mkF m 188 #[.val (.int p0), .val (.int p1), .val (.int p2), .val (.int p3), .val (.int p4), .val (.int (p2 &&& (3 : Int32))), .val (.int z_101), .val (.int y_102), .val (.ref b_104), .val (.ref b_114), .val (.int ex_119), .unset, .unset, .unset, .unset] [(.int (p3 &&& (8 : Int32))), (.ref q_123), w_122, w_121, (.ref b_104), (.ref b120), (.ref b120)]))
              have J124 : ∀ (T124 : State) (L124 : List Loc) (X124 : Stand p l e room_1 (s.setVm vm123) m #[(.int p0), (.int p1), (.int p2), (.int p3), (.int p4)] below meth c T124 L124 9 33) (e124 : T124.heap = h123) (N124 : Fr n0 L124) (w_124 : Value) (pj124_w0 : w_124.isRef = true), G (T124.setTop (mkF m 197 #[.val (.int p0), .val (.int p1), .val (.int p2), .val (.int p3), .val (.int p4), .val (.int (p2 &&& (3 : Int32))), .val (.int z_101), .val (.int y_102), .val (.ref b_104), .val (.ref b_114), .val (.int ex_119), .unset, .unset, .unset, .unset] [w_124, (.ref q_123), w_122, w_121, (.ref b_104), (.ref b120), (.ref b120)])) := by
                intro T124 L124 X124 e124 N124 w_124 pj124_w0
                show G (T124.setTop (mkF m 197 #[.val (.int p0), .val (.int p1), .val (.int p2), .val (.int p3), .val (.int p4), .val (.int (p2 &&& (3 : Int32))), .val (.int z_101), .val (.int y_102), .val (.ref b_104), .val (.ref b_114), .val (.int ex_119), .unset, .unset, .unset, .unset] [w_124, (.ref q_123), w_122, w_121, (.ref b_104), (.ref b120), (.ref b120)]))
                refine go _ _ (fun _ k => XS.iloadN X124.here hx rfl (hb hby at_197) rfl (XS.bipush X124.here hx rfl (hb hby at_198) (XS.iand X124.here hx rfl (hb hby at_200) rfl k))) ?_
                show G (T124.setTop (mkF m 201 #[.val (.int p0), .val (.int p1), .val (.int p2), .val (.int p3), .val (.int p4), .val (.int (p2 &&& (3 : Int32))), .val (.int z_101), .val (.int y_102), .val (.ref b_104), .val (.ref b_114), .val (.int ex_119), .unset, .unset, .unset, .unset] [(.int (p3 &&& (16 : Int32))), w_124, (.ref q_123), w_122, w_121, (.ref b_104), (.ref b120), (.ref b120)]))
                have J125 : ∀ (T125 : State) (L125 : List Loc) (X125 : Stand p l e room_1 (s.setVm vm123) m #[(.int p0), (.int p1), (.int p2), (.int p3), (.int p4)] below meth c T125 L125 9 33) (e125 : T125.heap = h123) (N125 : Fr n0 L125) (w_125 : Value) (pj125_w0 : w_125.isRef = true), G (T125.setTop (mkF m 210 #[.val (.int p0), .val (.int p1), .val (.int p2), .val (.int p3), .val (.int p4), .val (.int (p2 &&& (3 : Int32))), .val (.int z_101), .val (.int y_102), .val (.ref b_104), .val (.ref b_114), .val (.int ex_119), .unset, .unset, .unset, .unset] [w_125, w_124, (.ref q_123), w_122, w_121, (.ref b_104), (.ref b120), (.ref b120)])) := by
                  intro T125 L125 X125 e125 N125 w_125 pj125_w0
                  show G (T125.setTop (mkF m 210 #[.val (.int p0), .val (.int p1), .val (.int p2), .val (.int p3), .val (.int p4), .val (.int (p2 &&& (3 : Int32))), .val (.int z_101), .val (.int y_102), .val (.ref b_104), .val (.ref b_114), .val (.int ex_119), .unset, .unset, .unset, .unset] [w_125, w_124, (.ref q_123), w_122, w_121, (.ref b_104), (.ref b120), (.ref b120)]))
                  have K127 : Keep T103.heap T109.heap [] := (Keep.refl T103.heap []).trans Kp109 all0
                  have K128 : Keep T103.heap h120 [] := K127.ext E120
                  have K129 : Keep T103.heap h123 [] := K128.trans K123 all0
                  have F130 : Old Z n0 h123 := (F111.keep K129 all0)
                  have K131 : Keep h120 h123 [] := (Keep.refl h120 []).trans K123 all0
                  have F132 : Exa Z h123 b120 "com/example/naslov/naslov/Uri" := (A120.keep K131)
                  have F133 : Fld Z h123 b120 "com/example/naslov/naslov/Uri" "text" "Ljava/lang/String;" .null := ((D120 (Or.inr (ow hw 45 rfl)) (ty := (.object "java/lang/String")) (by decide)).keep K131 nin0)
                  have F134 : Fld Z h123 b120 "com/example/naslov/naslov/Uri" "scheme" "Ljava/lang/String;" .null := ((D120 (Or.inr (ow hw 47 rfl)) (ty := (.object "java/lang/String")) (by decide)).keep K131 nin0)
                  have F135 : Fld Z h123 b120 "com/example/naslov/naslov/Uri" "authority" "Ljava/lang/String;" .null := ((D120 (Or.inr (ow hw 49 rfl)) (ty := (.object "java/lang/String")) (by decide)).keep K131 nin0)
                  have F136 : Fld Z h123 b120 "com/example/naslov/naslov/Uri" "path" "Ljava/lang/String;" .null := ((D120 (Or.inr (ow hw 57 rfl)) (ty := (.object "java/lang/String")) (by decide)).keep K131 nin0)
                  have F137 : Fld Z h123 b120 "com/example/naslov/naslov/Uri" "query" "Ljava/lang/String;" .null := ((D120 (Or.inr (ow hw 59 rfl)) (ty := (.object "java/lang/String")) (by decide)).keep K131 nin0)
                  have F138 : Fld Z h123 b120 "com/example/naslov/naslov/Uri" "fragment" "Ljava/lang/String;" .null := ((D120 (Or.inr (ow hw 61 rfl)) (ty := (.object "java/lang/String")) (by decide)).keep K131 nin0)
                  have F139 : Fld Z h123 b120 "com/example/naslov/naslov/Uri" "userInfo" "Ljava/lang/String;" .null := ((D120 (Or.inr (ow hw 63 rfl)) (ty := (.object "java/lang/String")) (by decide)).keep K131 nin0)
                  have F140 : Fld Z h123 b120 "com/example/naslov/naslov/Uri" "host" "Ljava/lang/String;" .null := ((D120 (Or.inr (ow hw 65 rfl)) (ty := (.object "java/lang/String")) (by decide)).keep K131 nin0)
                  have F141 : Fld Z h123 b120 "com/example/naslov/naslov/Uri" "port" "Ljava/lang/String;" .null := ((D120 (Or.inr (ow hw 67 rfl)) (ty := (.object "java/lang/String")) (by decide)).keep K131 nin0)
                  have K142 : Keep T109.heap h120 [] := (Keep.refl T109.heap []).ext E120
                  have K143 : Keep T109.heap h123 [] := K142.trans K123 all0
                  have F144 : own_Ln Z h123 b_114 ln_115 := (own_Ln_keep f118 K143)
                  have Z145 : h0.size ≤ T109.heap.size := Nat.le_trans Z112 Kp109.1
                  have Z146 : h0.size ≤ h120.size := Nat.le_trans Z145 E120.1
                  have Z147 : h0.size ≤ h123.size := Nat.le_trans Z146 K123.1
                  obtain ⟨rv126, T126, L126, X126, q126, hZ126, hown126, hS126, C126, st126⟩ := own_spW X125 hx hZ123 (y := (⟨"com/example/naslov/naslov/Uri", "<init>", "(Ljava/lang/String;Ljava/lang/String;Ljava/lang/String;Ljava/lang/String;Ljava/lang/String;Ljava/lang/String;)V"⟩ : MethodName)) rfl hown123 (ow hw 40 rfl) (ow hw 41 rfl) (ow hw 42 rfl) (by decide) (own_bkH (W := 1) (rm7 l Z a0 hw z0 O2 P5 fm0 O4 R4 [] b120 b_104 w_121 w_122 q_123 w_124 w_125 b_114 ln_115 h123 n0 (Nat.le_trans Z0 Z147) pj121_w0 pj122_w0 pj124_w0 pj125_w0 F130 F132 F133 F134 F135 F136 F137 F138 F139 F140 F141 fj123_0 F144 pj122_w1 (Nat.le_trans (Nat.le_trans Z0 Z145) (Nat.le_of_eq g120.symm))) hZ123 (ow hw 42 rfl) (ow hw 36 rfl) (by decide) (by decide) (own_hEL hw) Cc123.1) e125 hS123 hk123 (g := (mkF m 210 #[.val (.int p0), .val (.int p1), .val (.int p2), .val (.int p3), .val (.int p4), .val (.int (p2 &&& (3 : Int32))), .val (.int z_101), .val (.int y_102), .val (.ref b_104), .val (.ref b_114), .val (.int ex_119), .unset, .unset, .unset, .unset] [w_125, w_124, (.ref q_123), w_122, w_121, (.ref b_104), (.ref b120), (.ref b120)])) rfl (by rw [hml]; rfl) (a := b120) (argsL := [(.ref b_104), w_121, w_122, (.ref q_123), w_124, w_125]) (rest := [(.ref b120)]) rfl (lenOf own_pd23 rfl) rfl (by show 2 * 0 + _ ≤ _; exact Nat.le_of_eq rfl) (hb hby at_210) (by decide) (by decide)
                  obtain ⟨Nq126, Kp126, ⟨rfl, f148, f149⟩⟩ := q126
                  have N126 := Fr.app N125 Nq126
                  refine go _ _ (st126) ?_
                  show G (T126.setTop (mkF m 213 #[.val (.int p0), .val (.int p1), .val (.int p2), .val (.int p3), .val (.int p4), .val (.int (p2 &&& (3 : Int32))), .val (.int z_101), .val (.int y_102), .val (.ref b_104), .val (.ref b_114), .val (.int ex_119), .unset, .unset, .unset, .unset] [(.ref b120)]))
                  refine go _ _ (fun _ k => XS.astore X126.here hx rfl (hb hby at_213) rfl rfl (l' := #[.val (.int p0), .val (.int p1), .val (.int p2), .val (.int p3), .val (.int p4), .val (.int (p2 &&& (3 : Int32))), .val (.int z_101), .val (.int y_102), .val (.ref b_104), .val (.ref b_114), .val (.int ex_119), .val (.ref b120), .unset, .unset, .unset]) rfl k) ?_
                  show G (T126.setTop (mkF m 215 #[.val (.int p0), .val (.int p1), .val (.int p2), .val (.int p3), .val (.int p4), .val (.int (p2 &&& (3 : Int32))), .val (.int z_101), .val (.int y_102), .val (.ref b_104), .val (.ref b_114), .val (.int ex_119), .val (.ref b120), .unset, .unset, .unset] []))
                  obtain ⟨T150, h150, X150, e150, E150, A150, D150, -, st150⟩ := newO X126 hx hZ126 hown126 (ow hw 34 rfl) (ow hw 35 rfl) (ow hw 36 rfl) rfl (g := (mkF m 215 #[.val (.int p0), .val (.int p1), .val (.int p2), .val (.int p3), .val (.int p4), .val (.int (p2 &&& (3 : Int32))), .val (.int z_101), .val (.int y_102), .val (.ref b_104), .val (.ref b_114), .val (.int ex_119), .val (.ref b120), .unset, .unset, .unset] [])) rfl (hb hby at_215) (by decide) (by decide)
                  obtain ⟨b150, g150⟩ : ∃ z, z = T126.heap.size := ⟨_, rfl⟩
                  rw [← g150] at A150 D150 st150
                  refine go _ _ (st150) ?_
                  show G (T150.setTop (mkF m 218 #[.val (.int p0), .val (.int p1), .val (.int p2), .val (.int p3), .val (.int p4), .val (.int (p2 &&& (3 : Int32))), .val (.int z_101), .val (.int y_102), .val (.ref b_104), .val (.ref b_114), .val (.int ex_119), .val (.ref b120), .unset, .unset, .unset] [(.ref b150)]))
                  refine go _ _ (fun _ k => XS.dup X150.here hx rfl (hb hby at_218) rfl rfl (XS.aload X150.here hx rfl (hb hby at_219) rfl rfl (XS.iloadN X150.here hx rfl (hb hby at_221) rfl (XS.bipush X150.here hx rfl (hb hby at_222) (XS.iand X150.here hx rfl (hb hby at_224) rfl k))))) ?_
                  show G (T150.setTop (mkF m 225 #[.val (.int p0), .val (.int p1), .val (.int p2), .val (.int p3), .val (.int p4), .val (.int (p2 &&& (3 : Int32))), .val (.int z_101), .val (.int y_102), .val (.ref b_104), .val (.ref b_114), .val (.int ex_119), .val (.ref b120), .unset, .unset, .unset] [(.int (p3 &&& (32 : Int32))), (.ref b_114), (.ref b150), (.ref b150)]))
                  have J151 : ∀ (T151 : State) (L151 : List Loc) (X151 : Stand p l e room_1 (s.setVm T126.vm) m #[(.int p0), (.int p1), (.int p2), (.int p3), (.int p4)] below meth c T151 L151 20 91) (e151 : T151.heap = h150) (N151 : Fr n0 L151) (w_151 : Value) (pj151_w0 : w_151.isRef = true), G (T151.setTop (mkF m 234 #[.val (.int p0), .val (.int p1), .val (.int p2), .val (.int p3), .val (.int p4), .val (.int (p2 &&& (3 : Int32))), .val (.int z_101), .val (.int y_102), .val (.ref b_104), .val (.ref b_114), .val (.int ex_119), .val (.ref b120), .unset, .unset, .unset] [w_151, (.ref b_114), (.ref b150), (.ref b150)])) := by
                    intro T151 L151 X151 e151 N151 w_151 pj151_w0
                    show G (T151.setTop (mkF m 234 #[.val (.int p0), .val (.int p1), .val (.int p2), .val (.int p3), .val (.int p4), .val (.int (p2 &&& (3 : Int32))), .val (.int z_101), .val (.int y_102), .val (.ref b_104), .val (.ref b_114), .val (.int ex_119), .val (.ref b120), .unset, .unset, .unset] [w_151, (.ref b_114), (.ref b150), (.ref b150)]))
                    refine go _ _ (fun _ k => XS.iloadN X151.here hx rfl (hb hby at_234) rfl (XS.bipush X151.here hx rfl (hb hby at_235) (XS.iand X151.here hx rfl (hb hby at_237) rfl k))) ?_
                    show G (T151.setTop (mkF m 238 #[.val (.int p0), .val (.int p1), .val (.int p2), .val (.int p3), .val (.int p4), .val (.int (p2 &&& (3 : Int32))), .val (.int z_101), .val (.int y_102), .val (.ref b_104), .val (.ref b_114), .val (.int ex_119), .val (.ref b120), .unset, .unset, .unset] [(.int (p3 &&& (64 : Int32))), w_151, (.ref b_114), (.ref b150), (.ref b150)]))
                    have J152 : ∀ (T152 : State) (L152 : List Loc) (X152 : Stand p l e room_1 (s.setVm T126.vm) m #[(.int p0), (.int p1), (.int p2), (.int p3), (.int p4)] below meth c T152 L152 20 91) (e152 : T152.heap = h150) (N152 : Fr n0 L152) (w_152 : Value) (pj152_w0 : w_152.isRef = true) (pj152_w1 : w_152 = .null ∨ w_152 = (.ref b_104)), G (T152.setTop (mkF m 247 #[.val (.int p0), .val (.int p1), .val (.int p2), .val (.int p3), .val (.int p4), .val (.int (p2 &&& (3 : Int32))), .val (.int z_101), .val (.int y_102), .val (.ref b_104), .val (.ref b_114), .val (.int ex_119), .val (.ref b120), .unset, .unset, .unset] [w_152, w_151, (.ref b_114), (.ref b150), (.ref b150)])) := by
                      intro T152 L152 X152 e152 N152 w_152 pj152_w0 pj152_w1
                      show G (T152.setTop (mkF m 247 #[.val (.int p0), .val (.int p1), .val (.int p2), .val (.int p3), .val (.int p4), .val (.int (p2 &&& (3 : Int32))), .val (.int z_101), .val (.int y_102), .val (.ref b_104), .val (.ref b_114), .val (.int ex_119), .val (.ref b120), .unset, .unset, .unset] [w_152, w_151, (.ref b_114), (.ref b150), (.ref b150)]))
                      refine go _ _ (fun _ k => XS.iloadN X152.here hx rfl (hb hby at_247) rfl (XS.sipush X152.here hx rfl (hb hby at_248) (XS.iand X152.here hx rfl (hb hby at_251) rfl k))) ?_
                      show G (T152.setTop (mkF m 252 #[.val (.int p0), .val (.int p1), .val (.int p2), .val (.int p3), .val (.int p4), .val (.int (p2 &&& (3 : Int32))), .val (.int z_101), .val (.int y_102), .val (.ref b_104), .val (.ref b_114), .val (.int ex_119), .val (.ref b120), .unset, .unset, .unset] [(.int (p3 &&& (128 : Int32))), w_152, w_151, (.ref b_114), (.ref b150), (.ref b150)]))
                      have J153 : ∀ (T153 : State) (L153 : List Loc) (h153 : Heap) (vm153 : Vm) (kk153 : Nat) (X153 : Stand p l e room_1 (s.setVm vm153) m #[(.int p0), (.int p1), (.int p2), (.int p3), (.int p4)] below meth c T153 L153 22 95) (e153 : T153.heap = h153) (N153 : Fr n0 L153) (K153 : Keep h150 h153 []) (hZ153 : Z.Warmed39 vm153) (hown153 : vm153.findClass "com/example/naslov/naslov/UriEqualsPinLaw" = some m.cls) (hS153 : s.Since vm153 kk153) (hk153 : kk153 ≤ h153.size) (Cc153 : CHr Z own_EL s.vm h0 vm153 h153) (q_153 : Addr) (fj153_0 : Exa Z h153 q_153 "java/lang/String"), G (T153.setTop (mkF m 262 #[.val (.int p0), .val (.int p1), .val (.int p2), .val (.int p3), .val (.int p4), .val (.int (p2 &&& (3 : Int32))), .val (.int z_101), .val (.int y_102), .val (.ref b_104), .val (.ref b_114), .val (.int ex_119), .val (.ref b120), .unset, .unset, .unset] [(.ref q_153), w_152, w_151, (.ref b_114), (.ref b150), (.ref b150)])) := by
                        intro T153 L153 h153 vm153 kk153 X153 e153 N153 K153 hZ153 hown153 hS153 hk153 Cc153 q_153 fj153_0
                        show G (T153.setTop (mkF m 262 #[.val (.int p0), .val (.int p1), .val (.int p2), .val (.int p3), .val (.int p4), .val (.int (p2 &&& (3 : Int32))), .val (.int z_101), .val (.int y_102), .val (.ref b_104), .val (.ref b_114), .val (.int ex_119), .val (.ref b120), .unset, .unset, .unset] [(.ref q_153), w_152, w_151, (.ref b_114), (.ref b150), (.ref b150)]))
                        refine go _ _ (fun _ k => XS.iloadN X153.here hx rfl (hb hby at_262) rfl (XS.sipush X153.here hx rfl (hb hby at_263) (XS.iand X153.here hx rfl (hb hby at_266) rfl k))) ?_
                        show G (T153.setTop (mkF m 267 #[.val (.int p0), .val (.int p1), .val (.int p2), .val (.int p3), .val (.int p4), .val (.int (p2 &&& (3 : Int32))), .val (.int z_101), .val (.int y_102), .val (.ref b_104), .val (.ref b_114), .val (.int ex_119), .val (.ref b120), .unset, .unset, .unset] [(.int (p3 &&& (256 : Int32))), (.ref q_153), w_152, w_151, (.ref b_114), (.ref b150), (.ref b150)]))
                        have J154 : ∀ (T154 : State) (L154 : List Loc) (X154 : Stand p l e room_1 (s.setVm vm153) m #[(.int p0), (.int p1), (.int p2), (.int p3), (.int p4)] below meth c T154 L154 22 95) (e154 : T154.heap = h153) (N154 : Fr n0 L154) (w_154 : Value) (pj154_w0 : w_154.isRef = true), G (T154.setTop (mkF m 276 #[.val (.int p0), .val (.int p1), .val (.int p2), .val (.int p3), .val (.int p4), .val (.int (p2 &&& (3 : Int32))), .val (.int z_101), .val (.int y_102), .val (.ref b_104), .val (.ref b_114), .val (.int ex_119), .val (.ref b120), .unset, .unset, .unset] [w_154, (.ref q_153), w_152, w_151, (.ref b_114), (.ref b150), (.ref b150)])) := by
                          intro T154 L154 X154 e154 N154 w_154 pj154_w0
                          show G (T154.setTop (mkF m 276 #[.val (.int p0), .val (.int p1), .val (.int p2), .val (.int p3), .val (.int p4), .val (.int (p2 &&& (3 : Int32))), .val (.int z_101), .val (.int y_102), .val (.ref b_104), .val (.ref b_114), .val (.int ex_119), .val (.ref b120), .unset, .unset, .unset] [w_154, (.ref q_153), w_152, w_151, (.ref b_114), (.ref b150), (.ref b150)]))
                          refine go _ _ (fun _ k => XS.iloadN X154.here hx rfl (hb hby at_276) rfl (XS.sipush X154.here hx rfl (hb hby at_277) (XS.iand X154.here hx rfl (hb hby at_280) rfl k))) ?_
                          show G (T154.setTop (mkF m 281 #[.val (.int p0), .val (.int p1), .val (.int p2), .val (.int p3), .val (.int p4), .val (.int (p2 &&& (3 : Int32))), .val (.int z_101), .val (.int y_102), .val (.ref b_104), .val (.ref b_114), .val (.int ex_119), .val (.ref b120), .unset, .unset, .unset] [(.int (p3 &&& (512 : Int32))), w_154, (.ref q_153), w_152, w_151, (.ref b_114), (.ref b150), (.ref b150)]))
                          have J155 : ∀ (T155 : State) (L155 : List Loc) (X155 : Stand p l e room_1 (s.setVm vm153) m #[(.int p0), (.int p1), (.int p2), (.int p3), (.int p4)] below meth c T155 L155 22 95) (e155 : T155.heap = h153) (N155 : Fr n0 L155) (w_155 : Value) (pj155_w0 : w_155.isRef = true), G (T155.setTop (mkF m 290 #[.val (.int p0), .val (.int p1), .val (.int p2), .val (.int p3), .val (.int p4), .val (.int (p2 &&& (3 : Int32))), .val (.int z_101), .val (.int y_102), .val (.ref b_104), .val (.ref b_114), .val (.int ex_119), .val (.ref b120), .unset, .unset, .unset] [w_155, w_154, (.ref q_153), w_152, w_151, (.ref b_114), (.ref b150), (.ref b150)])) := by
                            intro T155 L155 X155 e155 N155 w_155 pj155_w0
                            show G (T155.setTop (mkF m 290 #[.val (.int p0), .val (.int p1), .val (.int p2), .val (.int p3), .val (.int p4), .val (.int (p2 &&& (3 : Int32))), .val (.int z_101), .val (.int y_102), .val (.ref b_104), .val (.ref b_114), .val (.int ex_119), .val (.ref b120), .unset, .unset, .unset] [w_155, w_154, (.ref q_153), w_152, w_151, (.ref b_114), (.ref b150), (.ref b150)]))
                            have K157 : Keep h123 T126.heap [b120] := (Keep.refl h123 [b120]).trans Kp126 (allS (Or.inl (List.mem_of_getElem? (i := 0) rfl)) all0)
                            have K158 : Keep h123 h150 [b120] := K157.ext E150
                            have K159 : Keep h123 h153 [b120] := K158.trans K153 all0
                            have F160 : Old Z n0 h153 := (F130.keep K159 (allS (Nat.le_trans (Nat.le_trans Z0 Z145) (Nat.le_of_eq g120.symm)) all0))
                            have K161 : Keep h150 h153 [] := (Keep.refl h150 []).trans K153 all0
                            have F162 : Exa Z h153 b150 "com/example/naslov/naslov/Uri" := (A150.keep K161)
                            have F163 : Fld Z h153 b150 "com/example/naslov/naslov/Uri" "text" "Ljava/lang/String;" .null := ((D150 (Or.inr (ow hw 45 rfl)) (ty := (.object "java/lang/String")) (by decide)).keep K161 nin0)
                            have F164 : Fld Z h153 b150 "com/example/naslov/naslov/Uri" "scheme" "Ljava/lang/String;" .null := ((D150 (Or.inr (ow hw 47 rfl)) (ty := (.object "java/lang/String")) (by decide)).keep K161 nin0)
                            have F165 : Fld Z h153 b150 "com/example/naslov/naslov/Uri" "authority" "Ljava/lang/String;" .null := ((D150 (Or.inr (ow hw 49 rfl)) (ty := (.object "java/lang/String")) (by decide)).keep K161 nin0)
                            have F166 : Fld Z h153 b150 "com/example/naslov/naslov/Uri" "path" "Ljava/lang/String;" .null := ((D150 (Or.inr (ow hw 57 rfl)) (ty := (.object "java/lang/String")) (by decide)).keep K161 nin0)
                            have F167 : Fld Z h153 b150 "com/example/naslov/naslov/Uri" "query" "Ljava/lang/String;" .null := ((D150 (Or.inr (ow hw 59 rfl)) (ty := (.object "java/lang/String")) (by decide)).keep K161 nin0)
                            have F168 : Fld Z h153 b150 "com/example/naslov/naslov/Uri" "fragment" "Ljava/lang/String;" .null := ((D150 (Or.inr (ow hw 61 rfl)) (ty := (.object "java/lang/String")) (by decide)).keep K161 nin0)
                            have F169 : Fld Z h153 b150 "com/example/naslov/naslov/Uri" "userInfo" "Ljava/lang/String;" .null := ((D150 (Or.inr (ow hw 63 rfl)) (ty := (.object "java/lang/String")) (by decide)).keep K161 nin0)
                            have F170 : Fld Z h153 b150 "com/example/naslov/naslov/Uri" "host" "Ljava/lang/String;" .null := ((D150 (Or.inr (ow hw 65 rfl)) (ty := (.object "java/lang/String")) (by decide)).keep K161 nin0)
                            have F171 : Fld Z h153 b150 "com/example/naslov/naslov/Uri" "port" "Ljava/lang/String;" .null := ((D150 (Or.inr (ow hw 67 rfl)) (ty := (.object "java/lang/String")) (by decide)).keep K161 nin0)
                            have Z172 : T103.heap.size ≤ T109.heap.size := Kp109.1
                            have K173 : Keep T103.heap T126.heap [] := K129.trans Kp126 (allS (Or.inr (Nat.le_trans Z172 (Nat.le_of_eq g120.symm))) all0)
                            have K174 : Keep T103.heap h150 [] := K173.ext E150
                            have K175 : Keep T103.heap h153 [] := K174.trans K153 all0
                            have F176 : own_Ln Z h153 b_104 ln_105 := (own_Ln_keep f108 K175)
                            have Z177 : h0.size ≤ T126.heap.size := Nat.le_trans Z147 Kp126.1
                            have Z178 : h0.size ≤ h150.size := Nat.le_trans Z177 E150.1
                            have Z179 : h0.size ≤ h153.size := Nat.le_trans Z178 K153.1
                            obtain ⟨rv156, T156, L156, X156, q156, hZ156, hown156, hS156, C156, st156⟩ := own_spW X155 hx hZ153 (y := (⟨"com/example/naslov/naslov/Uri", "<init>", "(Ljava/lang/String;Ljava/lang/String;Ljava/lang/String;Ljava/lang/String;Ljava/lang/String;Ljava/lang/String;)V"⟩ : MethodName)) rfl hown153 (ow hw 40 rfl) (ow hw 41 rfl) (ow hw 42 rfl) (by decide) (own_bkH (W := 1) (rm7 l Z a0 hw z0 O2 P5 fm0 O4 R4 [] b150 b_114 w_151 w_152 q_153 w_154 w_155 b_104 ln_105 h153 n0 (Nat.le_trans Z0 Z179) pj151_w0 pj152_w0 pj154_w0 pj155_w0 F160 F162 F163 F164 F165 F166 F167 F168 F169 F170 F171 fj153_0 F176 pj152_w1 (Nat.le_trans (Nat.le_trans Z0 Z177) (Nat.le_of_eq g150.symm))) hZ153 (ow hw 42 rfl) (ow hw 36 rfl) (by decide) (by decide) (own_hEL hw) Cc153.1) e155 hS153 hk153 (g := (mkF m 290 #[.val (.int p0), .val (.int p1), .val (.int p2), .val (.int p3), .val (.int p4), .val (.int (p2 &&& (3 : Int32))), .val (.int z_101), .val (.int y_102), .val (.ref b_104), .val (.ref b_114), .val (.int ex_119), .val (.ref b120), .unset, .unset, .unset] [w_155, w_154, (.ref q_153), w_152, w_151, (.ref b_114), (.ref b150), (.ref b150)])) rfl (by rw [hml]; rfl) (a := b150) (argsL := [(.ref b_114), w_151, w_152, (.ref q_153), w_154, w_155]) (rest := [(.ref b150)]) rfl (lenOf own_pd23 rfl) rfl (by show 2 * 0 + _ ≤ _; exact Nat.le_of_eq rfl) (hb hby at_290) (by decide) (by decide)
                            obtain ⟨Nq156, Kp156, ⟨rfl, f180, f181⟩⟩ := q156
                            have N156 := Fr.app N155 Nq156
                            refine go _ _ (st156) ?_
                            show G (T156.setTop (mkF m 293 #[.val (.int p0), .val (.int p1), .val (.int p2), .val (.int p3), .val (.int p4), .val (.int (p2 &&& (3 : Int32))), .val (.int z_101), .val (.int y_102), .val (.ref b_104), .val (.ref b_114), .val (.int ex_119), .val (.ref b120), .unset, .unset, .unset] [(.ref b150)]))
                            refine go _ _ (fun _ k => XS.astore X156.here hx rfl (hb hby at_293) rfl rfl (l' := #[.val (.int p0), .val (.int p1), .val (.int p2), .val (.int p3), .val (.int p4), .val (.int (p2 &&& (3 : Int32))), .val (.int z_101), .val (.int y_102), .val (.ref b_104), .val (.ref b_114), .val (.int ex_119), .val (.ref b120), .val (.ref b150), .unset, .unset]) rfl (XS.aload X156.here hx rfl (hb hby at_295) rfl rfl (XS.astore X156.here hx rfl (hb hby at_297) rfl rfl (l' := #[.val (.int p0), .val (.int p1), .val (.int p2), .val (.int p3), .val (.int p4), .val (.int (p2 &&& (3 : Int32))), .val (.int z_101), .val (.int y_102), .val (.ref b_104), .val (.ref b_114), .val (.int ex_119), .val (.ref b120), .val (.ref b150), .val (.ref b_104), .unset]) rfl (XS.aload X156.here hx rfl (hb hby at_299) rfl rfl (XS.aload X156.here hx rfl (hb hby at_301) rfl rfl k))))) ?_
                            show G (T156.setTop (mkF m 303 #[.val (.int p0), .val (.int p1), .val (.int p2), .val (.int p3), .val (.int p4), .val (.int (p2 &&& (3 : Int32))), .val (.int z_101), .val (.int y_102), .val (.ref b_104), .val (.ref b_114), .val (.int ex_119), .val (.ref b120), .val (.ref b150), .val (.ref b_104), .unset] [(.ref b150), (.ref b120)]))
                            have K183 : Keep h153 T156.heap [b150] := (Keep.refl h153 [b150]).trans Kp156 (allS (Or.inl (List.mem_of_getElem? (i := 0) rfl)) all0)
                            have F184 : Old Z n0 T156.heap := (F160.keep K183 (allS (Nat.le_trans (Nat.le_trans Z0 Z177) (Nat.le_of_eq g150.symm)) all0))
                            have K185 : Keep T126.heap h150 [] := (Keep.refl T126.heap []).ext E150
                            have K186 : Keep T126.heap h153 [] := K185.trans K153 all0
                            have K187 : Keep T126.heap T156.heap [] := K186.trans Kp156 (allS (Or.inr (Nat.le_of_eq g150.symm)) all0)
                            have F188 : Fld Z T156.heap b120 "com/example/naslov/naslov/Uri" "text" "Ljava/lang/String;" (.ref b_104) := (f149.keep K187 nin0)
                            have Z189 : T103.heap.size ≤ h120.size := Nat.le_trans Z172 E120.1
                            have Z190 : T103.heap.size ≤ h123.size := Nat.le_trans Z189 K123.1
                            have Z191 : T103.heap.size ≤ T126.heap.size := Nat.le_trans Z190 Kp126.1
                            have K192 : Keep T103.heap T156.heap [] := K175.trans Kp156 (allS (Or.inr (Nat.le_trans Z191 (Nat.le_of_eq g150.symm))) all0)
                            have F193 : Exa Z T156.heap b_104 "java/lang/String" := (f106.keep K192)
                            have Z194 : T109.heap.size ≤ h120.size := E120.1
                            have Z195 : T109.heap.size ≤ h123.size := Nat.le_trans Z194 K123.1
                            have Z196 : T109.heap.size ≤ T126.heap.size := Nat.le_trans Z195 Kp126.1
                            have K197 : Keep T109.heap T126.heap [] := K143.trans Kp126 (allS (Or.inr (Nat.le_of_eq g120.symm)) all0)
                            have K198 : Keep T109.heap h150 [] := K197.ext E150
                            have K199 : Keep T109.heap h153 [] := K198.trans K153 all0
                            have K200 : Keep T109.heap T156.heap [] := K199.trans Kp156 (allS (Or.inr (Nat.le_trans Z196 (Nat.le_of_eq g150.symm))) all0)
                            have F201 : Exa Z T156.heap b_114 "java/lang/String" := (f116.keep K200)
                            have F202 : own_Str Z T156.heap b_104 (own_text (p2 &&& (3 : Int32)) p0) := (own_Str_keep f107 K192)
                            have F203 : own_Str Z T156.heap b_114 (own_text z_101 y_102) := (own_Str_keep f117 K200)
                            have Z204 : h0.size ≤ T156.heap.size := Nat.le_trans Z179 Kp156.1
                            have F205 : Exa Z T156.heap b120 "com/example/naslov/naslov/Uri" := (f148.keep K187)
                            obtain ⟨rv182, T182, L182, X182, q182, st182⟩ := own_vi X156 hx hZ156 (y := (⟨"com/example/naslov/naslov/Uri", "equals", "(Ljava/lang/Object;)Z"⟩ : MethodName)) (z := (⟨"com/example/naslov/naslov/Uri", "equals", "(Ljava/lang/Object;)Z"⟩ : MethodName)) hown156 (ow hw 68 rfl) (ow hw 69 rfl) (ow hw 71 rfl) (ow hw 70 rfl) (Or.inl rfl) (by decide) (own_bkN (W := 0) (rmEqO l Z a0 hw z0 O2 P5 fm0 O4 R4 [] b120 b150 b_104 b_114 (own_text (p2 &&& (3 : Int32)) p0) (own_text z_101 y_102) T156.heap n0 (Nat.le_trans Z0 Z204) F184 f180 F188 f181 F193 F201 F202 F203) hZ156 (ow hw 72 rfl) (ow hw 36 rfl) (by decide) (by decide)) rfl F205 (g := (mkF m 303 #[.val (.int p0), .val (.int p1), .val (.int p2), .val (.int p3), .val (.int p4), .val (.int (p2 &&& (3 : Int32))), .val (.int z_101), .val (.int y_102), .val (.ref b_104), .val (.ref b_114), .val (.int ex_119), .val (.ref b120), .val (.ref b150), .val (.ref b_104), .unset] [(.ref b150), (.ref b120)])) rfl (by rw [hml]; rfl) (argsL := [(.ref b150)]) (rest := []) rfl (lenOf own_pd18 rfl) rfl (by show 2 * 0 + _ ≤ _; exact Nat.le_of_eq rfl) (hb hby at_303) (by decide) (by decide)
                            obtain ⟨Nq182, e182, q182⟩ := q182
                            have N182 := Fr.app N156 Nq182
                            rcases q182 with ⟨rfl, p206⟩ | ⟨rfl, p207⟩
                            · refine go _ _ (st182) ?_
                              show G (T182.setTop (mkF m 306 #[.val (.int p0), .val (.int p1), .val (.int p2), .val (.int p3), .val (.int p4), .val (.int (p2 &&& (3 : Int32))), .val (.int z_101), .val (.int y_102), .val (.ref b_104), .val (.ref b_114), .val (.int ex_119), .val (.ref b120), .val (.ref b150), .val (.ref b_104), .unset] [(.int (1 : Int32))]))
                              refine go _ _ (fun _ k => XS.iload X182.here hx rfl (hb hby at_306) rfl k) ?_
                              show G (T182.setTop (mkF m 308 #[.val (.int p0), .val (.int p1), .val (.int p2), .val (.int p3), .val (.int p4), .val (.int (p2 &&& (3 : Int32))), .val (.int z_101), .val (.int y_102), .val (.ref b_104), .val (.ref b_114), .val (.int ex_119), .val (.ref b120), .val (.ref b150), .val (.ref b_104), .unset] [(.int ex_119), (.int (1 : Int32))]))
                              refine go _ _ (fun _ k => XS.icmpNo X182.here hx rfl (hb hby at_308) rfl (teq (own_is1 pj119_ex0 p206)).2 k) ?_
                              show G (T182.setTop (mkF m 311 #[.val (.int p0), .val (.int p1), .val (.int p2), .val (.int p3), .val (.int p4), .val (.int (p2 &&& (3 : Int32))), .val (.int z_101), .val (.int y_102), .val (.ref b_104), .val (.ref b_114), .val (.int ex_119), .val (.ref b120), .val (.ref b150), .val (.ref b_104), .unset] []))
                              refine go _ _ (fun _ k => XS.iconst X182.here hx rfl (hb hby at_311) k) ?_
                              show G (T182.setTop (mkF m 312 #[.val (.int p0), .val (.int p1), .val (.int p2), .val (.int p3), .val (.int p4), .val (.int (p2 &&& (3 : Int32))), .val (.int z_101), .val (.int y_102), .val (.ref b_104), .val (.ref b_114), .val (.int ex_119), .val (.ref b120), .val (.ref b150), .val (.ref b_104), .unset] [(.int (1 : Int32))]))
                              refine go _ _ (fun _ k => XS.goto X182.here hx rfl (pc0 := 312) (pc' := 316) rfl (hb hby at_312) (by decide) (by decide) k) ?_
                              show G (T182.setTop (mkF m 316 #[.val (.int p0), .val (.int p1), .val (.int p2), .val (.int p3), .val (.int p4), .val (.int (p2 &&& (3 : Int32))), .val (.int z_101), .val (.int y_102), .val (.ref b_104), .val (.ref b_114), .val (.int ex_119), .val (.ref b120), .val (.ref b150), .val (.ref b_104), .unset] [(.int (1 : Int32))]))
                              refine go _ _ (fun _ k => XS.istore X182.here hx rfl (hb hby at_316) rfl (l' := #[.val (.int p0), .val (.int p1), .val (.int p2), .val (.int p3), .val (.int p4), .val (.int (p2 &&& (3 : Int32))), .val (.int z_101), .val (.int y_102), .val (.ref b_104), .val (.ref b_114), .val (.int ex_119), .val (.ref b120), .val (.ref b150), .val (.ref b_104), .val (.int (1 : Int32))]) rfl (XS.iload X182.here hx rfl (hb hby at_318) rfl k)) ?_
                              show G (T182.setTop (mkF m 320 #[.val (.int p0), .val (.int p1), .val (.int p2), .val (.int p3), .val (.int p4), .val (.int (p2 &&& (3 : Int32))), .val (.int z_101), .val (.int y_102), .val (.ref b_104), .val (.ref b_114), .val (.int ex_119), .val (.ref b120), .val (.ref b150), .val (.ref b_104), .val (.int (1 : Int32))] [(.int (1 : Int32))]))
                              refine go _ _ (fun _ k => XS.ifNo X182.here hx rfl (hb hby at_320) rfl (by decide) k) ?_
                              show G (T182.setTop (mkF m 323 #[.val (.int p0), .val (.int p1), .val (.int p2), .val (.int p3), .val (.int p4), .val (.int (p2 &&& (3 : Int32))), .val (.int z_101), .val (.int y_102), .val (.ref b_104), .val (.ref b_114), .val (.int ex_119), .val (.ref b120), .val (.ref b150), .val (.ref b_104), .val (.int (1 : Int32))] []))
                              refine go _ _ (fun _ k => XS.aload X182.here hx rfl (hb hby at_323) rfl rfl (XS.aload X182.here hx rfl (hb hby at_325) rfl rfl k)) ?_
                              show G (T182.setTop (mkF m 327 #[.val (.int p0), .val (.int p1), .val (.int p2), .val (.int p3), .val (.int p4), .val (.int (p2 &&& (3 : Int32))), .val (.int z_101), .val (.int y_102), .val (.ref b_104), .val (.ref b_114), .val (.int ex_119), .val (.ref b120), .val (.ref b150), .val (.ref b_104), .val (.int (1 : Int32))] [(.ref b120), (.ref b150)]))
                              obtain ⟨rv208, T208, L208, X208, q208, st208⟩ := own_vi X182 hx hZ156 (y := (⟨"com/example/naslov/naslov/Uri", "equals", "(Ljava/lang/Object;)Z"⟩ : MethodName)) (z := (⟨"com/example/naslov/naslov/Uri", "equals", "(Ljava/lang/Object;)Z"⟩ : MethodName)) hown156 (ow hw 68 rfl) (ow hw 69 rfl) (ow hw 71 rfl) (ow hw 70 rfl) (Or.inl rfl) (by decide) (own_bkN (W := 0) (rmEqO l Z a0 hw z0 O2 P5 fm0 O4 R4 [] b150 b120 b_114 b_104 (own_text z_101 y_102) (own_text (p2 &&& (3 : Int32)) p0) T156.heap n0 (Nat.le_trans Z0 Z204) F184 F205 f181 F188 F201 F193 F203 F202) hZ156 (ow hw 72 rfl) (ow hw 36 rfl) (by decide) (by decide)) e182 f180 (g := (mkF m 327 #[.val (.int p0), .val (.int p1), .val (.int p2), .val (.int p3), .val (.int p4), .val (.int (p2 &&& (3 : Int32))), .val (.int z_101), .val (.int y_102), .val (.ref b_104), .val (.ref b_114), .val (.int ex_119), .val (.ref b120), .val (.ref b150), .val (.ref b_104), .val (.int (1 : Int32))] [(.ref b120), (.ref b150)])) rfl (by rw [hml]; rfl) (argsL := [(.ref b120)]) (rest := []) rfl (lenOf own_pd18 rfl) rfl (by show 2 * 0 + _ ≤ _; exact Nat.le_of_eq rfl) (hb hby at_327) (by decide) (by decide)
                              obtain ⟨Nq208, e208, q208⟩ := q208
                              have N208 := Fr.app N182 Nq208
                              rcases q208 with ⟨rfl, p209⟩ | ⟨rfl, p210⟩
                              · refine go _ _ (st208) ?_
                                show G (T208.setTop (mkF m 330 #[.val (.int p0), .val (.int p1), .val (.int p2), .val (.int p3), .val (.int p4), .val (.int (p2 &&& (3 : Int32))), .val (.int z_101), .val (.int y_102), .val (.ref b_104), .val (.ref b_114), .val (.int ex_119), .val (.ref b120), .val (.ref b150), .val (.ref b_104), .val (.int (1 : Int32))] [(.int (1 : Int32))]))
                                refine go _ _ (fun _ k => XS.iload X208.here hx rfl (hb hby at_330) rfl k) ?_
                                show G (T208.setTop (mkF m 332 #[.val (.int p0), .val (.int p1), .val (.int p2), .val (.int p3), .val (.int p4), .val (.int (p2 &&& (3 : Int32))), .val (.int z_101), .val (.int y_102), .val (.ref b_104), .val (.ref b_114), .val (.int ex_119), .val (.ref b120), .val (.ref b150), .val (.ref b_104), .val (.int (1 : Int32))] [(.int ex_119), (.int (1 : Int32))]))
                                refine go _ _ (fun _ k => XS.icmpNo X208.here hx rfl (hb hby at_332) rfl (teq (own_is1 pj119_ex0 (Eq.symm p209))).2 k) ?_
                                show G (T208.setTop (mkF m 335 #[.val (.int p0), .val (.int p1), .val (.int p2), .val (.int p3), .val (.int p4), .val (.int (p2 &&& (3 : Int32))), .val (.int z_101), .val (.int y_102), .val (.ref b_104), .val (.ref b_114), .val (.int ex_119), .val (.ref b120), .val (.ref b150), .val (.ref b_104), .val (.int (1 : Int32))] []))
                                refine go _ _ (fun _ k => XS.iconst X208.here hx rfl (hb hby at_335) k) ?_
                                show G (T208.setTop (mkF m 336 #[.val (.int p0), .val (.int p1), .val (.int p2), .val (.int p3), .val (.int p4), .val (.int (p2 &&& (3 : Int32))), .val (.int z_101), .val (.int y_102), .val (.ref b_104), .val (.ref b_114), .val (.int ex_119), .val (.ref b120), .val (.ref b150), .val (.ref b_104), .val (.int (1 : Int32))] [(.int (1 : Int32))]))
                                refine go _ _ (fun _ k => XS.goto X208.here hx rfl (pc0 := 336) (pc' := 340) rfl (hb hby at_336) (by decide) (by decide) k) ?_
                                show G (T208.setTop (mkF m 340 #[.val (.int p0), .val (.int p1), .val (.int p2), .val (.int p3), .val (.int p4), .val (.int (p2 &&& (3 : Int32))), .val (.int z_101), .val (.int y_102), .val (.ref b_104), .val (.ref b_114), .val (.int ex_119), .val (.ref b120), .val (.ref b150), .val (.ref b_104), .val (.int (1 : Int32))] [(.int (1 : Int32))]))
                                refine go _ _ (fun _ k => XS.istore X208.here hx rfl (hb hby at_340) rfl (l' := #[.val (.int p0), .val (.int p1), .val (.int p2), .val (.int p3), .val (.int p4), .val (.int (p2 &&& (3 : Int32))), .val (.int z_101), .val (.int y_102), .val (.ref b_104), .val (.ref b_114), .val (.int ex_119), .val (.ref b120), .val (.ref b150), .val (.ref b_104), .val (.int (1 : Int32))]) rfl (XS.iload X208.here hx rfl (hb hby at_342) rfl k)) ?_
                                show G (T208.setTop (mkF m 344 #[.val (.int p0), .val (.int p1), .val (.int p2), .val (.int p3), .val (.int p4), .val (.int (p2 &&& (3 : Int32))), .val (.int z_101), .val (.int y_102), .val (.ref b_104), .val (.ref b_114), .val (.int ex_119), .val (.ref b120), .val (.ref b150), .val (.ref b_104), .val (.int (1 : Int32))] [(.int (1 : Int32))]))
                                refine go _ _ (fun _ k => XS.ifNo X208.here hx rfl (hb hby at_344) rfl (by decide) k) ?_
                                show G (T208.setTop (mkF m 347 #[.val (.int p0), .val (.int p1), .val (.int p2), .val (.int p3), .val (.int p4), .val (.int (p2 &&& (3 : Int32))), .val (.int z_101), .val (.int y_102), .val (.ref b_104), .val (.ref b_114), .val (.int ex_119), .val (.ref b120), .val (.ref b150), .val (.ref b_104), .val (.int (1 : Int32))] []))
                                refine go _ _ (fun _ k => XS.aload X208.here hx rfl (hb hby at_347) rfl rfl (XS.aload X208.here hx rfl (hb hby at_349) rfl rfl k)) ?_
                                show G (T208.setTop (mkF m 351 #[.val (.int p0), .val (.int p1), .val (.int p2), .val (.int p3), .val (.int p4), .val (.int (p2 &&& (3 : Int32))), .val (.int z_101), .val (.int y_102), .val (.ref b_104), .val (.ref b_114), .val (.int ex_119), .val (.ref b120), .val (.ref b150), .val (.ref b_104), .val (.int (1 : Int32))] [(.ref b120), (.ref b120)]))
                                obtain ⟨rv211, T211, L211, X211, q211, st211⟩ := own_vi X208 hx hZ156 (y := (⟨"com/example/naslov/naslov/Uri", "equals", "(Ljava/lang/Object;)Z"⟩ : MethodName)) (z := (⟨"com/example/naslov/naslov/Uri", "equals", "(Ljava/lang/Object;)Z"⟩ : MethodName)) hown156 (ow hw 68 rfl) (ow hw 69 rfl) (ow hw 71 rfl) (ow hw 70 rfl) (Or.inl rfl) (by decide) (own_bkN (W := 0) (rmEqO l Z a0 hw z0 O2 P5 fm0 O4 R4 [] b120 b120 b_104 b_104 (own_text (p2 &&& (3 : Int32)) p0) (own_text (p2 &&& (3 : Int32)) p0) T156.heap n0 (Nat.le_trans Z0 Z204) F184 F205 F188 F188 F193 F193 F202 F202) hZ156 (ow hw 72 rfl) (ow hw 36 rfl) (by decide) (by decide)) e208 F205 (g := (mkF m 351 #[.val (.int p0), .val (.int p1), .val (.int p2), .val (.int p3), .val (.int p4), .val (.int (p2 &&& (3 : Int32))), .val (.int z_101), .val (.int y_102), .val (.ref b_104), .val (.ref b_114), .val (.int ex_119), .val (.ref b120), .val (.ref b150), .val (.ref b_104), .val (.int (1 : Int32))] [(.ref b120), (.ref b120)])) rfl (by rw [hml]; rfl) (argsL := [(.ref b120)]) (rest := []) rfl (lenOf own_pd18 rfl) rfl (by show 2 * 0 + _ ≤ _; exact Nat.le_of_eq rfl) (hb hby at_351) (by decide) (by decide)
                                obtain ⟨Nq211, e211, q211⟩ := q211
                                have N211 := Fr.app N208 Nq211
                                rcases q211 with ⟨rfl, p212⟩ | ⟨rfl, p213⟩
                                · refine go _ _ (st211) ?_
                                  show G (T211.setTop (mkF m 354 #[.val (.int p0), .val (.int p1), .val (.int p2), .val (.int p3), .val (.int p4), .val (.int (p2 &&& (3 : Int32))), .val (.int z_101), .val (.int y_102), .val (.ref b_104), .val (.ref b_114), .val (.int ex_119), .val (.ref b120), .val (.ref b150), .val (.ref b_104), .val (.int (1 : Int32))] [(.int (1 : Int32))]))
                                  refine go _ _ (fun _ k => XS.ifNo X211.here hx rfl (hb hby at_354) rfl (by decide) k) ?_
                                  show G (T211.setTop (mkF m 357 #[.val (.int p0), .val (.int p1), .val (.int p2), .val (.int p3), .val (.int p4), .val (.int (p2 &&& (3 : Int32))), .val (.int z_101), .val (.int y_102), .val (.ref b_104), .val (.ref b_114), .val (.int ex_119), .val (.ref b120), .val (.ref b150), .val (.ref b_104), .val (.int (1 : Int32))] []))
                                  refine go _ _ (fun _ k => XS.iconst X211.here hx rfl (hb hby at_357) k) ?_
                                  show G (T211.setTop (mkF m 358 #[.val (.int p0), .val (.int p1), .val (.int p2), .val (.int p3), .val (.int p4), .val (.int (p2 &&& (3 : Int32))), .val (.int z_101), .val (.int y_102), .val (.ref b_104), .val (.ref b_114), .val (.int ex_119), .val (.ref b120), .val (.ref b150), .val (.ref b_104), .val (.int (1 : Int32))] [(.int (1 : Int32))]))
                                  refine go _ _ (fun _ k => XS.goto X211.here hx rfl (pc0 := 358) (pc' := 362) rfl (hb hby at_358) (by decide) (by decide) k) ?_
                                  show G (T211.setTop (mkF m 362 #[.val (.int p0), .val (.int p1), .val (.int p2), .val (.int p3), .val (.int p4), .val (.int (p2 &&& (3 : Int32))), .val (.int z_101), .val (.int y_102), .val (.ref b_104), .val (.ref b_114), .val (.int ex_119), .val (.ref b120), .val (.ref b150), .val (.ref b_104), .val (.int (1 : Int32))] [(.int (1 : Int32))]))
                                  refine go _ _ (fun _ k => XS.istore X211.here hx rfl (hb hby at_362) rfl (l' := #[.val (.int p0), .val (.int p1), .val (.int p2), .val (.int p3), .val (.int p4), .val (.int (p2 &&& (3 : Int32))), .val (.int z_101), .val (.int y_102), .val (.ref b_104), .val (.ref b_114), .val (.int ex_119), .val (.ref b120), .val (.ref b150), .val (.ref b_104), .val (.int (1 : Int32))]) rfl (XS.iload X211.here hx rfl (hb hby at_364) rfl k)) ?_
                                  show G (T211.setTop (mkF m 366 #[.val (.int p0), .val (.int p1), .val (.int p2), .val (.int p3), .val (.int p4), .val (.int (p2 &&& (3 : Int32))), .val (.int z_101), .val (.int y_102), .val (.ref b_104), .val (.ref b_114), .val (.int ex_119), .val (.ref b120), .val (.ref b150), .val (.ref b_104), .val (.int (1 : Int32))] [(.int (1 : Int32))]))
                                  refine go _ _ (fun _ k => XS.ifNo X211.here hx rfl (hb hby at_366) rfl (by decide) k) ?_
                                  show G (T211.setTop (mkF m 369 #[.val (.int p0), .val (.int p1), .val (.int p2), .val (.int p3), .val (.int p4), .val (.int (p2 &&& (3 : Int32))), .val (.int z_101), .val (.int y_102), .val (.ref b_104), .val (.ref b_114), .val (.int ex_119), .val (.ref b120), .val (.ref b150), .val (.ref b_104), .val (.int (1 : Int32))] []))
                                  refine go _ _ (fun _ k => XS.aload X211.here hx rfl (hb hby at_369) rfl rfl (XS.aload X211.here hx rfl (hb hby at_371) rfl rfl k)) ?_
                                  show G (T211.setTop (mkF m 373 #[.val (.int p0), .val (.int p1), .val (.int p2), .val (.int p3), .val (.int p4), .val (.int (p2 &&& (3 : Int32))), .val (.int z_101), .val (.int y_102), .val (.ref b_104), .val (.ref b_114), .val (.int ex_119), .val (.ref b120), .val (.ref b150), .val (.ref b_104), .val (.int (1 : Int32))] [(.ref b_104), (.ref b120)]))
                                  obtain ⟨rv214, T214, L214, X214, q214, st214⟩ := own_vi X211 hx hZ156 (y := (⟨"com/example/naslov/naslov/Uri", "equals", "(Ljava/lang/Object;)Z"⟩ : MethodName)) (z := (⟨"com/example/naslov/naslov/Uri", "equals", "(Ljava/lang/Object;)Z"⟩ : MethodName)) hown156 (ow hw 68 rfl) (ow hw 69 rfl) (ow hw 71 rfl) (ow hw 70 rfl) (Or.inl rfl) (by decide) (own_bkN (W := 0) (rmEqS l Z a0 hw z0 O2 P5 fm0 O4 R4 [] b120 b_104 T156.heap n0 (Nat.le_trans Z0 Z204) F193) hZ156 (ow hw 72 rfl) (ow hw 36 rfl) (by decide) (by decide)) e211 F205 (g := (mkF m 373 #[.val (.int p0), .val (.int p1), .val (.int p2), .val (.int p3), .val (.int p4), .val (.int (p2 &&& (3 : Int32))), .val (.int z_101), .val (.int y_102), .val (.ref b_104), .val (.ref b_114), .val (.int ex_119), .val (.ref b120), .val (.ref b150), .val (.ref b_104), .val (.int (1 : Int32))] [(.ref b_104), (.ref b120)])) rfl (by rw [hml]; rfl) (argsL := [(.ref b_104)]) (rest := []) rfl (lenOf own_pd18 rfl) rfl (by show 2 * 0 + _ ≤ _; exact Nat.le_of_eq rfl) (hb hby at_373) (by decide) (by decide)
                                  obtain ⟨Nq214, e214, rfl⟩ := q214
                                  have N214 := Fr.app N211 Nq214
                                  refine go _ _ (st214) ?_
                                  show G (T214.setTop (mkF m 376 #[.val (.int p0), .val (.int p1), .val (.int p2), .val (.int p3), .val (.int p4), .val (.int (p2 &&& (3 : Int32))), .val (.int z_101), .val (.int y_102), .val (.ref b_104), .val (.ref b_114), .val (.int ex_119), .val (.ref b120), .val (.ref b150), .val (.ref b_104), .val (.int (1 : Int32))] [(.int (0 : Int32))]))
                                  refine go _ _ (fun _ k => XS.ifNo X214.here hx rfl (hb hby at_376) rfl (by decide) k) ?_
                                  show G (T214.setTop (mkF m 379 #[.val (.int p0), .val (.int p1), .val (.int p2), .val (.int p3), .val (.int p4), .val (.int (p2 &&& (3 : Int32))), .val (.int z_101), .val (.int y_102), .val (.ref b_104), .val (.ref b_114), .val (.int ex_119), .val (.ref b120), .val (.ref b150), .val (.ref b_104), .val (.int (1 : Int32))] []))
                                  refine go _ _ (fun _ k => XS.iconst X214.here hx rfl (hb hby at_379) k) ?_
                                  show G (T214.setTop (mkF m 380 #[.val (.int p0), .val (.int p1), .val (.int p2), .val (.int p3), .val (.int p4), .val (.int (p2 &&& (3 : Int32))), .val (.int z_101), .val (.int y_102), .val (.ref b_104), .val (.ref b_114), .val (.int ex_119), .val (.ref b120), .val (.ref b150), .val (.ref b_104), .val (.int (1 : Int32))] [(.int (1 : Int32))]))
                                  refine go _ _ (fun _ k => XS.goto X214.here hx rfl (pc0 := 380) (pc' := 384) rfl (hb hby at_380) (by decide) (by decide) k) ?_
                                  show G (T214.setTop (mkF m 384 #[.val (.int p0), .val (.int p1), .val (.int p2), .val (.int p3), .val (.int p4), .val (.int (p2 &&& (3 : Int32))), .val (.int z_101), .val (.int y_102), .val (.ref b_104), .val (.ref b_114), .val (.int ex_119), .val (.ref b120), .val (.ref b150), .val (.ref b_104), .val (.int (1 : Int32))] [(.int (1 : Int32))]))
                                  refine go _ _ (fun _ k => XS.istore X214.here hx rfl (hb hby at_384) rfl (l' := #[.val (.int p0), .val (.int p1), .val (.int p2), .val (.int p3), .val (.int p4), .val (.int (p2 &&& (3 : Int32))), .val (.int z_101), .val (.int y_102), .val (.ref b_104), .val (.ref b_114), .val (.int ex_119), .val (.ref b120), .val (.ref b150), .val (.ref b_104), .val (.int (1 : Int32))]) rfl (XS.iload X214.here hx rfl (hb hby at_386) rfl k)) ?_
                                  show G (T214.setTop (mkF m 388 #[.val (.int p0), .val (.int p1), .val (.int p2), .val (.int p3), .val (.int p4), .val (.int (p2 &&& (3 : Int32))), .val (.int z_101), .val (.int y_102), .val (.ref b_104), .val (.ref b_114), .val (.int ex_119), .val (.ref b120), .val (.ref b150), .val (.ref b_104), .val (.int (1 : Int32))] [(.int (1 : Int32))]))
                                  refine go _ _ (fun _ k => XS.ifNo X214.here hx rfl (hb hby at_388) rfl (by decide) k) ?_
                                  show G (T214.setTop (mkF m 391 #[.val (.int p0), .val (.int p1), .val (.int p2), .val (.int p3), .val (.int p4), .val (.int (p2 &&& (3 : Int32))), .val (.int z_101), .val (.int y_102), .val (.ref b_104), .val (.ref b_114), .val (.int ex_119), .val (.ref b120), .val (.ref b150), .val (.ref b_104), .val (.int (1 : Int32))] []))
                                  refine go _ _ (fun _ k => XS.aload X214.here hx rfl (hb hby at_391) rfl rfl (XS.aconstNull X214.here hx rfl (hb hby at_393) k)) ?_
                                  show G (T214.setTop (mkF m 394 #[.val (.int p0), .val (.int p1), .val (.int p2), .val (.int p3), .val (.int p4), .val (.int (p2 &&& (3 : Int32))), .val (.int z_101), .val (.int y_102), .val (.ref b_104), .val (.ref b_114), .val (.int ex_119), .val (.ref b120), .val (.ref b150), .val (.ref b_104), .val (.int (1 : Int32))] [.null, (.ref b120)]))
                                  obtain ⟨rv215, T215, L215, X215, q215, st215⟩ := own_vi X214 hx hZ156 (y := (⟨"com/example/naslov/naslov/Uri", "equals", "(Ljava/lang/Object;)Z"⟩ : MethodName)) (z := (⟨"com/example/naslov/naslov/Uri", "equals", "(Ljava/lang/Object;)Z"⟩ : MethodName)) hown156 (ow hw 68 rfl) (ow hw 69 rfl) (ow hw 71 rfl) (ow hw 70 rfl) (Or.inl rfl) (by decide) (own_bkN (W := 0) (rmEqN l Z a0 hw z0 O2 P5 fm0 O4 R4 [] b120 T156.heap n0 (Nat.le_trans Z0 Z204)) hZ156 (ow hw 72 rfl) (ow hw 36 rfl) (by decide) (by decide)) e214 F205 (g := (mkF m 394 #[.val (.int p0), .val (.int p1), .val (.int p2), .val (.int p3), .val (.int p4), .val (.int (p2 &&& (3 : Int32))), .val (.int z_101), .val (.int y_102), .val (.ref b_104), .val (.ref b_114), .val (.int ex_119), .val (.ref b120), .val (.ref b150), .val (.ref b_104), .val (.int (1 : Int32))] [.null, (.ref b120)])) rfl (by rw [hml]; rfl) (argsL := [.null]) (rest := []) rfl (lenOf own_pd18 rfl) rfl (by show 2 * 0 + _ ≤ _; exact Nat.le_of_eq rfl) (hb hby at_394) (by decide) (by decide)
                                  obtain ⟨Nq215, e215, rfl⟩ := q215
                                  have N215 := Fr.app N214 Nq215
                                  refine go _ _ (st215) ?_
                                  show G (T215.setTop (mkF m 397 #[.val (.int p0), .val (.int p1), .val (.int p2), .val (.int p3), .val (.int p4), .val (.int (p2 &&& (3 : Int32))), .val (.int z_101), .val (.int y_102), .val (.ref b_104), .val (.ref b_114), .val (.int ex_119), .val (.ref b120), .val (.ref b150), .val (.ref b_104), .val (.int (1 : Int32))] [(.int (0 : Int32))]))
                                  refine go _ _ (fun _ k => XS.ifNo X215.here hx rfl (hb hby at_397) rfl (by decide) k) ?_
                                  show G (T215.setTop (mkF m 400 #[.val (.int p0), .val (.int p1), .val (.int p2), .val (.int p3), .val (.int p4), .val (.int (p2 &&& (3 : Int32))), .val (.int z_101), .val (.int y_102), .val (.ref b_104), .val (.ref b_114), .val (.int ex_119), .val (.ref b120), .val (.ref b150), .val (.ref b_104), .val (.int (1 : Int32))] []))
                                  refine go _ _ (fun _ k => XS.iconst X215.here hx rfl (hb hby at_400) k) ?_
                                  show G (T215.setTop (mkF m 401 #[.val (.int p0), .val (.int p1), .val (.int p2), .val (.int p3), .val (.int p4), .val (.int (p2 &&& (3 : Int32))), .val (.int z_101), .val (.int y_102), .val (.ref b_104), .val (.ref b_114), .val (.int ex_119), .val (.ref b120), .val (.ref b150), .val (.ref b_104), .val (.int (1 : Int32))] [(.int (1 : Int32))]))
                                  refine go _ _ (fun _ k => XS.goto X215.here hx rfl (pc0 := 401) (pc' := 405) rfl (hb hby at_401) (by decide) (by decide) k) ?_
                                  show G (T215.setTop (mkF m 405 #[.val (.int p0), .val (.int p1), .val (.int p2), .val (.int p3), .val (.int p4), .val (.int (p2 &&& (3 : Int32))), .val (.int z_101), .val (.int y_102), .val (.ref b_104), .val (.ref b_114), .val (.int ex_119), .val (.ref b120), .val (.ref b150), .val (.ref b_104), .val (.int (1 : Int32))] [(.int (1 : Int32))]))
                                  refine go _ _ (fun _ k => XS.istore X215.here hx rfl (hb hby at_405) rfl (l' := #[.val (.int p0), .val (.int p1), .val (.int p2), .val (.int p3), .val (.int p4), .val (.int (p2 &&& (3 : Int32))), .val (.int z_101), .val (.int y_102), .val (.ref b_104), .val (.ref b_114), .val (.int ex_119), .val (.ref b120), .val (.ref b150), .val (.ref b_104), .val (.int (1 : Int32))]) rfl (XS.iload X215.here hx rfl (hb hby at_407) rfl k)) ?_
                                  show G (T215.setTop (mkF m 409 #[.val (.int p0), .val (.int p1), .val (.int p2), .val (.int p3), .val (.int p4), .val (.int (p2 &&& (3 : Int32))), .val (.int z_101), .val (.int y_102), .val (.ref b_104), .val (.ref b_114), .val (.int ex_119), .val (.ref b120), .val (.ref b150), .val (.ref b_104), .val (.int (1 : Int32))] [(.int (1 : Int32))]))
                                  have K216 : Keep h0 T109.heap [] := K110.trans Kp109 all0
                                  have K217 : Keep h0 h120 [] := K216.ext E120
                                  have K218 : Keep h0 h123 [] := K217.trans K123 all0
                                  have K219 : Keep h0 T126.heap [] := K218.trans Kp126 (allS (Or.inr (Nat.le_trans Z145 (Nat.le_of_eq g120.symm))) all0)
                                  have K220 : Keep h0 h150 [] := K219.ext E150
                                  have K221 : Keep h0 h153 [] := K220.trans K153 all0
                                  have K222 : Keep h0 T156.heap [] := K221.trans Kp156 (allS (Or.inr (Nat.le_trans Z177 (Nat.le_of_eq g150.symm))) all0)
                                  have C223 : CHr Z own_EL s.vm h0 T156.vm T156.heap := Cc153.trans C156
                                  refine fin T215 _ _ _ (some (.int (1 : Int32))) T156.vm _ X215 hZ156 hS156 (by rw [e215]; exact (Nat.le_refl _)) (by rw [e215]; exact C223) (fun q => nomatch q) (by decide) (by decide) (by rw [e215]; exact ⟨N215, K222, rfl⟩) _ (own_retN X215 hx (z := (1 : Int32)) (t := .boolean) hret (by simp) (hb hby at_409))
                                · exact absurd rfl p213
                              · refine go _ _ (st208) ?_
                                show G (T208.setTop (mkF m 330 #[.val (.int p0), .val (.int p1), .val (.int p2), .val (.int p3), .val (.int p4), .val (.int (p2 &&& (3 : Int32))), .val (.int z_101), .val (.int y_102), .val (.ref b_104), .val (.ref b_114), .val (.int ex_119), .val (.ref b120), .val (.ref b150), .val (.ref b_104), .val (.int (1 : Int32))] [(.int (0 : Int32))]))
                                refine go _ _ (fun _ k => XS.iload X208.here hx rfl (hb hby at_330) rfl k) ?_
                                show G (T208.setTop (mkF m 332 #[.val (.int p0), .val (.int p1), .val (.int p2), .val (.int p3), .val (.int p4), .val (.int (p2 &&& (3 : Int32))), .val (.int z_101), .val (.int y_102), .val (.ref b_104), .val (.ref b_114), .val (.int ex_119), .val (.ref b120), .val (.ref b150), .val (.ref b_104), .val (.int (1 : Int32))] [(.int ex_119), (.int (0 : Int32))]))
                                refine go _ _ (fun _ k => XS.icmpNo X208.here hx rfl (hb hby at_332) rfl (teq (own_is0 pj119_ex0 (fun q => p210 (Eq.symm q)))).2 k) ?_
                                show G (T208.setTop (mkF m 335 #[.val (.int p0), .val (.int p1), .val (.int p2), .val (.int p3), .val (.int p4), .val (.int (p2 &&& (3 : Int32))), .val (.int z_101), .val (.int y_102), .val (.ref b_104), .val (.ref b_114), .val (.int ex_119), .val (.ref b120), .val (.ref b150), .val (.ref b_104), .val (.int (1 : Int32))] []))
                                refine go _ _ (fun _ k => XS.iconst X208.here hx rfl (hb hby at_335) k) ?_
                                show G (T208.setTop (mkF m 336 #[.val (.int p0), .val (.int p1), .val (.int p2), .val (.int p3), .val (.int p4), .val (.int (p2 &&& (3 : Int32))), .val (.int z_101), .val (.int y_102), .val (.ref b_104), .val (.ref b_114), .val (.int ex_119), .val (.ref b120), .val (.ref b150), .val (.ref b_104), .val (.int (1 : Int32))] [(.int (1 : Int32))]))
                                refine go _ _ (fun _ k => XS.goto X208.here hx rfl (pc0 := 336) (pc' := 340) rfl (hb hby at_336) (by decide) (by decide) k) ?_
                                show G (T208.setTop (mkF m 340 #[.val (.int p0), .val (.int p1), .val (.int p2), .val (.int p3), .val (.int p4), .val (.int (p2 &&& (3 : Int32))), .val (.int z_101), .val (.int y_102), .val (.ref b_104), .val (.ref b_114), .val (.int ex_119), .val (.ref b120), .val (.ref b150), .val (.ref b_104), .val (.int (1 : Int32))] [(.int (1 : Int32))]))
                                refine go _ _ (fun _ k => XS.istore X208.here hx rfl (hb hby at_340) rfl (l' := #[.val (.int p0), .val (.int p1), .val (.int p2), .val (.int p3), .val (.int p4), .val (.int (p2 &&& (3 : Int32))), .val (.int z_101), .val (.int y_102), .val (.ref b_104), .val (.ref b_114), .val (.int ex_119), .val (.ref b120), .val (.ref b150), .val (.ref b_104), .val (.int (1 : Int32))]) rfl (XS.iload X208.here hx rfl (hb hby at_342) rfl k)) ?_
                                show G (T208.setTop (mkF m 344 #[.val (.int p0), .val (.int p1), .val (.int p2), .val (.int p3), .val (.int p4), .val (.int (p2 &&& (3 : Int32))), .val (.int z_101), .val (.int y_102), .val (.ref b_104), .val (.ref b_114), .val (.int ex_119), .val (.ref b120), .val (.ref b150), .val (.ref b_104), .val (.int (1 : Int32))] [(.int (1 : Int32))]))
                                refine go _ _ (fun _ k => XS.ifNo X208.here hx rfl (hb hby at_344) rfl (by decide) k) ?_
                                show G (T208.setTop (mkF m 347 #[.val (.int p0), .val (.int p1), .val (.int p2), .val (.int p3), .val (.int p4), .val (.int (p2 &&& (3 : Int32))), .val (.int z_101), .val (.int y_102), .val (.ref b_104), .val (.ref b_114), .val (.int ex_119), .val (.ref b120), .val (.ref b150), .val (.ref b_104), .val (.int (1 : Int32))] []))
                                refine go _ _ (fun _ k => XS.aload X208.here hx rfl (hb hby at_347) rfl rfl (XS.aload X208.here hx rfl (hb hby at_349) rfl rfl k)) ?_
                                show G (T208.setTop (mkF m 351 #[.val (.int p0), .val (.int p1), .val (.int p2), .val (.int p3), .val (.int p4), .val (.int (p2 &&& (3 : Int32))), .val (.int z_101), .val (.int y_102), .val (.ref b_104), .val (.ref b_114), .val (.int ex_119), .val (.ref b120), .val (.ref b150), .val (.ref b_104), .val (.int (1 : Int32))] [(.ref b120), (.ref b120)]))
                                obtain ⟨rv224, T224, L224, X224, q224, st224⟩ := own_vi X208 hx hZ156 (y := (⟨"com/example/naslov/naslov/Uri", "equals", "(Ljava/lang/Object;)Z"⟩ : MethodName)) (z := (⟨"com/example/naslov/naslov/Uri", "equals", "(Ljava/lang/Object;)Z"⟩ : MethodName)) hown156 (ow hw 68 rfl) (ow hw 69 rfl) (ow hw 71 rfl) (ow hw 70 rfl) (Or.inl rfl) (by decide) (own_bkN (W := 0) (rmEqO l Z a0 hw z0 O2 P5 fm0 O4 R4 [] b120 b120 b_104 b_104 (own_text (p2 &&& (3 : Int32)) p0) (own_text (p2 &&& (3 : Int32)) p0) T156.heap n0 (Nat.le_trans Z0 Z204) F184 F205 F188 F188 F193 F193 F202 F202) hZ156 (ow hw 72 rfl) (ow hw 36 rfl) (by decide) (by decide)) e208 F205 (g := (mkF m 351 #[.val (.int p0), .val (.int p1), .val (.int p2), .val (.int p3), .val (.int p4), .val (.int (p2 &&& (3 : Int32))), .val (.int z_101), .val (.int y_102), .val (.ref b_104), .val (.ref b_114), .val (.int ex_119), .val (.ref b120), .val (.ref b150), .val (.ref b_104), .val (.int (1 : Int32))] [(.ref b120), (.ref b120)])) rfl (by rw [hml]; rfl) (argsL := [(.ref b120)]) (rest := []) rfl (lenOf own_pd18 rfl) rfl (by show 2 * 0 + _ ≤ _; exact Nat.le_of_eq rfl) (hb hby at_351) (by decide) (by decide)
                                obtain ⟨Nq224, e224, q224⟩ := q224
                                have N224 := Fr.app N208 Nq224
                                rcases q224 with ⟨rfl, p225⟩ | ⟨rfl, p226⟩
                                · refine go _ _ (st224) ?_
                                  show G (T224.setTop (mkF m 354 #[.val (.int p0), .val (.int p1), .val (.int p2), .val (.int p3), .val (.int p4), .val (.int (p2 &&& (3 : Int32))), .val (.int z_101), .val (.int y_102), .val (.ref b_104), .val (.ref b_114), .val (.int ex_119), .val (.ref b120), .val (.ref b150), .val (.ref b_104), .val (.int (1 : Int32))] [(.int (1 : Int32))]))
                                  refine go _ _ (fun _ k => XS.ifNo X224.here hx rfl (hb hby at_354) rfl (by decide) k) ?_
                                  show G (T224.setTop (mkF m 357 #[.val (.int p0), .val (.int p1), .val (.int p2), .val (.int p3), .val (.int p4), .val (.int (p2 &&& (3 : Int32))), .val (.int z_101), .val (.int y_102), .val (.ref b_104), .val (.ref b_114), .val (.int ex_119), .val (.ref b120), .val (.ref b150), .val (.ref b_104), .val (.int (1 : Int32))] []))
                                  refine go _ _ (fun _ k => XS.iconst X224.here hx rfl (hb hby at_357) k) ?_
                                  show G (T224.setTop (mkF m 358 #[.val (.int p0), .val (.int p1), .val (.int p2), .val (.int p3), .val (.int p4), .val (.int (p2 &&& (3 : Int32))), .val (.int z_101), .val (.int y_102), .val (.ref b_104), .val (.ref b_114), .val (.int ex_119), .val (.ref b120), .val (.ref b150), .val (.ref b_104), .val (.int (1 : Int32))] [(.int (1 : Int32))]))
                                  refine go _ _ (fun _ k => XS.goto X224.here hx rfl (pc0 := 358) (pc' := 362) rfl (hb hby at_358) (by decide) (by decide) k) ?_
                                  show G (T224.setTop (mkF m 362 #[.val (.int p0), .val (.int p1), .val (.int p2), .val (.int p3), .val (.int p4), .val (.int (p2 &&& (3 : Int32))), .val (.int z_101), .val (.int y_102), .val (.ref b_104), .val (.ref b_114), .val (.int ex_119), .val (.ref b120), .val (.ref b150), .val (.ref b_104), .val (.int (1 : Int32))] [(.int (1 : Int32))]))
                                  refine go _ _ (fun _ k => XS.istore X224.here hx rfl (hb hby at_362) rfl (l' := #[.val (.int p0), .val (.int p1), .val (.int p2), .val (.int p3), .val (.int p4), .val (.int (p2 &&& (3 : Int32))), .val (.int z_101), .val (.int y_102), .val (.ref b_104), .val (.ref b_114), .val (.int ex_119), .val (.ref b120), .val (.ref b150), .val (.ref b_104), .val (.int (1 : Int32))]) rfl (XS.iload X224.here hx rfl (hb hby at_364) rfl k)) ?_
                                  show G (T224.setTop (mkF m 366 #[.val (.int p0), .val (.int p1), .val (.int p2), .val (.int p3), .val (.int p4), .val (.int (p2 &&& (3 : Int32))), .val (.int z_101), .val (.int y_102), .val (.ref b_104), .val (.ref b_114), .val (.int ex_119), .val (.ref b120), .val (.ref b150), .val (.ref b_104), .val (.int (1 : Int32))] [(.int (1 : Int32))]))
                                  refine go _ _ (fun _ k => XS.ifNo X224.here hx rfl (hb hby at_366) rfl (by decide) k) ?_
                                  show G (T224.setTop (mkF m 369 #[.val (.int p0), .val (.int p1), .val (.int p2), .val (.int p3), .val (.int p4), .val (.int (p2 &&& (3 : Int32))), .val (.int z_101), .val (.int y_102), .val (.ref b_104), .val (.ref b_114), .val (.int ex_119), .val (.ref b120), .val (.ref b150), .val (.ref b_104), .val (.int (1 : Int32))] []))
                                  refine go _ _ (fun _ k => XS.aload X224.here hx rfl (hb hby at_369) rfl rfl (XS.aload X224.here hx rfl (hb hby at_371) rfl rfl k)) ?_
                                  show G (T224.setTop (mkF m 373 #[.val (.int p0), .val (.int p1), .val (.int p2), .val (.int p3), .val (.int p4), .val (.int (p2 &&& (3 : Int32))), .val (.int z_101), .val (.int y_102), .val (.ref b_104), .val (.ref b_114), .val (.int ex_119), .val (.ref b120), .val (.ref b150), .val (.ref b_104), .val (.int (1 : Int32))] [(.ref b_104), (.ref b120)]))
                                  obtain ⟨rv227, T227, L227, X227, q227, st227⟩ := own_vi X224 hx hZ156 (y := (⟨"com/example/naslov/naslov/Uri", "equals", "(Ljava/lang/Object;)Z"⟩ : MethodName)) (z := (⟨"com/example/naslov/naslov/Uri", "equals", "(Ljava/lang/Object;)Z"⟩ : MethodName)) hown156 (ow hw 68 rfl) (ow hw 69 rfl) (ow hw 71 rfl) (ow hw 70 rfl) (Or.inl rfl) (by decide) (own_bkN (W := 0) (rmEqS l Z a0 hw z0 O2 P5 fm0 O4 R4 [] b120 b_104 T156.heap n0 (Nat.le_trans Z0 Z204) F193) hZ156 (ow hw 72 rfl) (ow hw 36 rfl) (by decide) (by decide)) e224 F205 (g := (mkF m 373 #[.val (.int p0), .val (.int p1), .val (.int p2), .val (.int p3), .val (.int p4), .val (.int (p2 &&& (3 : Int32))), .val (.int z_101), .val (.int y_102), .val (.ref b_104), .val (.ref b_114), .val (.int ex_119), .val (.ref b120), .val (.ref b150), .val (.ref b_104), .val (.int (1 : Int32))] [(.ref b_104), (.ref b120)])) rfl (by rw [hml]; rfl) (argsL := [(.ref b_104)]) (rest := []) rfl (lenOf own_pd18 rfl) rfl (by show 2 * 0 + _ ≤ _; exact Nat.le_of_eq rfl) (hb hby at_373) (by decide) (by decide)
                                  obtain ⟨Nq227, e227, rfl⟩ := q227
                                  have N227 := Fr.app N224 Nq227
                                  refine go _ _ (st227) ?_
                                  show G (T227.setTop (mkF m 376 #[.val (.int p0), .val (.int p1), .val (.int p2), .val (.int p3), .val (.int p4), .val (.int (p2 &&& (3 : Int32))), .val (.int z_101), .val (.int y_102), .val (.ref b_104), .val (.ref b_114), .val (.int ex_119), .val (.ref b120), .val (.ref b150), .val (.ref b_104), .val (.int (1 : Int32))] [(.int (0 : Int32))]))
                                  refine go _ _ (fun _ k => XS.ifNo X227.here hx rfl (hb hby at_376) rfl (by decide) k) ?_
                                  show G (T227.setTop (mkF m 379 #[.val (.int p0), .val (.int p1), .val (.int p2), .val (.int p3), .val (.int p4), .val (.int (p2 &&& (3 : Int32))), .val (.int z_101), .val (.int y_102), .val (.ref b_104), .val (.ref b_114), .val (.int ex_119), .val (.ref b120), .val (.ref b150), .val (.ref b_104), .val (.int (1 : Int32))] []))
                                  refine go _ _ (fun _ k => XS.iconst X227.here hx rfl (hb hby at_379) k) ?_
                                  show G (T227.setTop (mkF m 380 #[.val (.int p0), .val (.int p1), .val (.int p2), .val (.int p3), .val (.int p4), .val (.int (p2 &&& (3 : Int32))), .val (.int z_101), .val (.int y_102), .val (.ref b_104), .val (.ref b_114), .val (.int ex_119), .val (.ref b120), .val (.ref b150), .val (.ref b_104), .val (.int (1 : Int32))] [(.int (1 : Int32))]))
                                  refine go _ _ (fun _ k => XS.goto X227.here hx rfl (pc0 := 380) (pc' := 384) rfl (hb hby at_380) (by decide) (by decide) k) ?_
                                  show G (T227.setTop (mkF m 384 #[.val (.int p0), .val (.int p1), .val (.int p2), .val (.int p3), .val (.int p4), .val (.int (p2 &&& (3 : Int32))), .val (.int z_101), .val (.int y_102), .val (.ref b_104), .val (.ref b_114), .val (.int ex_119), .val (.ref b120), .val (.ref b150), .val (.ref b_104), .val (.int (1 : Int32))] [(.int (1 : Int32))]))
                                  refine go _ _ (fun _ k => XS.istore X227.here hx rfl (hb hby at_384) rfl (l' := #[.val (.int p0), .val (.int p1), .val (.int p2), .val (.int p3), .val (.int p4), .val (.int (p2 &&& (3 : Int32))), .val (.int z_101), .val (.int y_102), .val (.ref b_104), .val (.ref b_114), .val (.int ex_119), .val (.ref b120), .val (.ref b150), .val (.ref b_104), .val (.int (1 : Int32))]) rfl (XS.iload X227.here hx rfl (hb hby at_386) rfl k)) ?_
                                  show G (T227.setTop (mkF m 388 #[.val (.int p0), .val (.int p1), .val (.int p2), .val (.int p3), .val (.int p4), .val (.int (p2 &&& (3 : Int32))), .val (.int z_101), .val (.int y_102), .val (.ref b_104), .val (.ref b_114), .val (.int ex_119), .val (.ref b120), .val (.ref b150), .val (.ref b_104), .val (.int (1 : Int32))] [(.int (1 : Int32))]))
                                  refine go _ _ (fun _ k => XS.ifNo X227.here hx rfl (hb hby at_388) rfl (by decide) k) ?_
                                  show G (T227.setTop (mkF m 391 #[.val (.int p0), .val (.int p1), .val (.int p2), .val (.int p3), .val (.int p4), .val (.int (p2 &&& (3 : Int32))), .val (.int z_101), .val (.int y_102), .val (.ref b_104), .val (.ref b_114), .val (.int ex_119), .val (.ref b120), .val (.ref b150), .val (.ref b_104), .val (.int (1 : Int32))] []))
                                  refine go _ _ (fun _ k => XS.aload X227.here hx rfl (hb hby at_391) rfl rfl (XS.aconstNull X227.here hx rfl (hb hby at_393) k)) ?_
                                  show G (T227.setTop (mkF m 394 #[.val (.int p0), .val (.int p1), .val (.int p2), .val (.int p3), .val (.int p4), .val (.int (p2 &&& (3 : Int32))), .val (.int z_101), .val (.int y_102), .val (.ref b_104), .val (.ref b_114), .val (.int ex_119), .val (.ref b120), .val (.ref b150), .val (.ref b_104), .val (.int (1 : Int32))] [.null, (.ref b120)]))
                                  obtain ⟨rv228, T228, L228, X228, q228, st228⟩ := own_vi X227 hx hZ156 (y := (⟨"com/example/naslov/naslov/Uri", "equals", "(Ljava/lang/Object;)Z"⟩ : MethodName)) (z := (⟨"com/example/naslov/naslov/Uri", "equals", "(Ljava/lang/Object;)Z"⟩ : MethodName)) hown156 (ow hw 68 rfl) (ow hw 69 rfl) (ow hw 71 rfl) (ow hw 70 rfl) (Or.inl rfl) (by decide) (own_bkN (W := 0) (rmEqN l Z a0 hw z0 O2 P5 fm0 O4 R4 [] b120 T156.heap n0 (Nat.le_trans Z0 Z204)) hZ156 (ow hw 72 rfl) (ow hw 36 rfl) (by decide) (by decide)) e227 F205 (g := (mkF m 394 #[.val (.int p0), .val (.int p1), .val (.int p2), .val (.int p3), .val (.int p4), .val (.int (p2 &&& (3 : Int32))), .val (.int z_101), .val (.int y_102), .val (.ref b_104), .val (.ref b_114), .val (.int ex_119), .val (.ref b120), .val (.ref b150), .val (.ref b_104), .val (.int (1 : Int32))] [.null, (.ref b120)])) rfl (by rw [hml]; rfl) (argsL := [.null]) (rest := []) rfl (lenOf own_pd18 rfl) rfl (by show 2 * 0 + _ ≤ _; exact Nat.le_of_eq rfl) (hb hby at_394) (by decide) (by decide)
                                  obtain ⟨Nq228, e228, rfl⟩ := q228
                                  have N228 := Fr.app N227 Nq228
                                  refine go _ _ (st228) ?_
                                  show G (T228.setTop (mkF m 397 #[.val (.int p0), .val (.int p1), .val (.int p2), .val (.int p3), .val (.int p4), .val (.int (p2 &&& (3 : Int32))), .val (.int z_101), .val (.int y_102), .val (.ref b_104), .val (.ref b_114), .val (.int ex_119), .val (.ref b120), .val (.ref b150), .val (.ref b_104), .val (.int (1 : Int32))] [(.int (0 : Int32))]))
                                  refine go _ _ (fun _ k => XS.ifNo X228.here hx rfl (hb hby at_397) rfl (by decide) k) ?_
                                  show G (T228.setTop (mkF m 400 #[.val (.int p0), .val (.int p1), .val (.int p2), .val (.int p3), .val (.int p4), .val (.int (p2 &&& (3 : Int32))), .val (.int z_101), .val (.int y_102), .val (.ref b_104), .val (.ref b_114), .val (.int ex_119), .val (.ref b120), .val (.ref b150), .val (.ref b_104), .val (.int (1 : Int32))] []))
                                  refine go _ _ (fun _ k => XS.iconst X228.here hx rfl (hb hby at_400) k) ?_
                                  show G (T228.setTop (mkF m 401 #[.val (.int p0), .val (.int p1), .val (.int p2), .val (.int p3), .val (.int p4), .val (.int (p2 &&& (3 : Int32))), .val (.int z_101), .val (.int y_102), .val (.ref b_104), .val (.ref b_114), .val (.int ex_119), .val (.ref b120), .val (.ref b150), .val (.ref b_104), .val (.int (1 : Int32))] [(.int (1 : Int32))]))
                                  refine go _ _ (fun _ k => XS.goto X228.here hx rfl (pc0 := 401) (pc' := 405) rfl (hb hby at_401) (by decide) (by decide) k) ?_
                                  show G (T228.setTop (mkF m 405 #[.val (.int p0), .val (.int p1), .val (.int p2), .val (.int p3), .val (.int p4), .val (.int (p2 &&& (3 : Int32))), .val (.int z_101), .val (.int y_102), .val (.ref b_104), .val (.ref b_114), .val (.int ex_119), .val (.ref b120), .val (.ref b150), .val (.ref b_104), .val (.int (1 : Int32))] [(.int (1 : Int32))]))
                                  refine go _ _ (fun _ k => XS.istore X228.here hx rfl (hb hby at_405) rfl (l' := #[.val (.int p0), .val (.int p1), .val (.int p2), .val (.int p3), .val (.int p4), .val (.int (p2 &&& (3 : Int32))), .val (.int z_101), .val (.int y_102), .val (.ref b_104), .val (.ref b_114), .val (.int ex_119), .val (.ref b120), .val (.ref b150), .val (.ref b_104), .val (.int (1 : Int32))]) rfl (XS.iload X228.here hx rfl (hb hby at_407) rfl k)) ?_
                                  show G (T228.setTop (mkF m 409 #[.val (.int p0), .val (.int p1), .val (.int p2), .val (.int p3), .val (.int p4), .val (.int (p2 &&& (3 : Int32))), .val (.int z_101), .val (.int y_102), .val (.ref b_104), .val (.ref b_114), .val (.int ex_119), .val (.ref b120), .val (.ref b150), .val (.ref b_104), .val (.int (1 : Int32))] [(.int (1 : Int32))]))
                                  have K229 : Keep h0 T109.heap [] := K110.trans Kp109 all0
                                  have K230 : Keep h0 h120 [] := K229.ext E120
                                  have K231 : Keep h0 h123 [] := K230.trans K123 all0
                                  have K232 : Keep h0 T126.heap [] := K231.trans Kp126 (allS (Or.inr (Nat.le_trans Z145 (Nat.le_of_eq g120.symm))) all0)
                                  have K233 : Keep h0 h150 [] := K232.ext E150
                                  have K234 : Keep h0 h153 [] := K233.trans K153 all0
                                  have K235 : Keep h0 T156.heap [] := K234.trans Kp156 (allS (Or.inr (Nat.le_trans Z177 (Nat.le_of_eq g150.symm))) all0)
                                  have C236 : CHr Z own_EL s.vm h0 T156.vm T156.heap := Cc153.trans C156
                                  refine fin T228 _ _ _ (some (.int (1 : Int32))) T156.vm _ X228 hZ156 hS156 (by rw [e228]; exact (Nat.le_refl _)) (by rw [e228]; exact C236) (fun q => nomatch q) (by decide) (by decide) (by rw [e228]; exact ⟨N228, K235, rfl⟩) _ (own_retN X228 hx (z := (1 : Int32)) (t := .boolean) hret (by simp) (hb hby at_409))
                                · exact absurd rfl p226
                            · refine go _ _ (st182) ?_
                              show G (T182.setTop (mkF m 306 #[.val (.int p0), .val (.int p1), .val (.int p2), .val (.int p3), .val (.int p4), .val (.int (p2 &&& (3 : Int32))), .val (.int z_101), .val (.int y_102), .val (.ref b_104), .val (.ref b_114), .val (.int ex_119), .val (.ref b120), .val (.ref b150), .val (.ref b_104), .unset] [(.int (0 : Int32))]))
                              refine go _ _ (fun _ k => XS.iload X182.here hx rfl (hb hby at_306) rfl k) ?_
                              show G (T182.setTop (mkF m 308 #[.val (.int p0), .val (.int p1), .val (.int p2), .val (.int p3), .val (.int p4), .val (.int (p2 &&& (3 : Int32))), .val (.int z_101), .val (.int y_102), .val (.ref b_104), .val (.ref b_114), .val (.int ex_119), .val (.ref b120), .val (.ref b150), .val (.ref b_104), .unset] [(.int ex_119), (.int (0 : Int32))]))
                              refine go _ _ (fun _ k => XS.icmpNo X182.here hx rfl (hb hby at_308) rfl (teq (own_is0 pj119_ex0 p207)).2 k) ?_
                              show G (T182.setTop (mkF m 311 #[.val (.int p0), .val (.int p1), .val (.int p2), .val (.int p3), .val (.int p4), .val (.int (p2 &&& (3 : Int32))), .val (.int z_101), .val (.int y_102), .val (.ref b_104), .val (.ref b_114), .val (.int ex_119), .val (.ref b120), .val (.ref b150), .val (.ref b_104), .unset] []))
                              refine go _ _ (fun _ k => XS.iconst X182.here hx rfl (hb hby at_311) k) ?_
                              show G (T182.setTop (mkF m 312 #[.val (.int p0), .val (.int p1), .val (.int p2), .val (.int p3), .val (.int p4), .val (.int (p2 &&& (3 : Int32))), .val (.int z_101), .val (.int y_102), .val (.ref b_104), .val (.ref b_114), .val (.int ex_119), .val (.ref b120), .val (.ref b150), .val (.ref b_104), .unset] [(.int (1 : Int32))]))
                              refine go _ _ (fun _ k => XS.goto X182.here hx rfl (pc0 := 312) (pc' := 316) rfl (hb hby at_312) (by decide) (by decide) k) ?_
                              show G (T182.setTop (mkF m 316 #[.val (.int p0), .val (.int p1), .val (.int p2), .val (.int p3), .val (.int p4), .val (.int (p2 &&& (3 : Int32))), .val (.int z_101), .val (.int y_102), .val (.ref b_104), .val (.ref b_114), .val (.int ex_119), .val (.ref b120), .val (.ref b150), .val (.ref b_104), .unset] [(.int (1 : Int32))]))
                              refine go _ _ (fun _ k => XS.istore X182.here hx rfl (hb hby at_316) rfl (l' := #[.val (.int p0), .val (.int p1), .val (.int p2), .val (.int p3), .val (.int p4), .val (.int (p2 &&& (3 : Int32))), .val (.int z_101), .val (.int y_102), .val (.ref b_104), .val (.ref b_114), .val (.int ex_119), .val (.ref b120), .val (.ref b150), .val (.ref b_104), .val (.int (1 : Int32))]) rfl (XS.iload X182.here hx rfl (hb hby at_318) rfl k)) ?_
                              show G (T182.setTop (mkF m 320 #[.val (.int p0), .val (.int p1), .val (.int p2), .val (.int p3), .val (.int p4), .val (.int (p2 &&& (3 : Int32))), .val (.int z_101), .val (.int y_102), .val (.ref b_104), .val (.ref b_114), .val (.int ex_119), .val (.ref b120), .val (.ref b150), .val (.ref b_104), .val (.int (1 : Int32))] [(.int (1 : Int32))]))
                              refine go _ _ (fun _ k => XS.ifNo X182.here hx rfl (hb hby at_320) rfl (by decide) k) ?_
                              show G (T182.setTop (mkF m 323 #[.val (.int p0), .val (.int p1), .val (.int p2), .val (.int p3), .val (.int p4), .val (.int (p2 &&& (3 : Int32))), .val (.int z_101), .val (.int y_102), .val (.ref b_104), .val (.ref b_114), .val (.int ex_119), .val (.ref b120), .val (.ref b150), .val (.ref b_104), .val (.int (1 : Int32))] []))
                              refine go _ _ (fun _ k => XS.aload X182.here hx rfl (hb hby at_323) rfl rfl (XS.aload X182.here hx rfl (hb hby at_325) rfl rfl k)) ?_
                              show G (T182.setTop (mkF m 327 #[.val (.int p0), .val (.int p1), .val (.int p2), .val (.int p3), .val (.int p4), .val (.int (p2 &&& (3 : Int32))), .val (.int z_101), .val (.int y_102), .val (.ref b_104), .val (.ref b_114), .val (.int ex_119), .val (.ref b120), .val (.ref b150), .val (.ref b_104), .val (.int (1 : Int32))] [(.ref b120), (.ref b150)]))
                              obtain ⟨rv237, T237, L237, X237, q237, st237⟩ := own_vi X182 hx hZ156 (y := (⟨"com/example/naslov/naslov/Uri", "equals", "(Ljava/lang/Object;)Z"⟩ : MethodName)) (z := (⟨"com/example/naslov/naslov/Uri", "equals", "(Ljava/lang/Object;)Z"⟩ : MethodName)) hown156 (ow hw 68 rfl) (ow hw 69 rfl) (ow hw 71 rfl) (ow hw 70 rfl) (Or.inl rfl) (by decide) (own_bkN (W := 0) (rmEqO l Z a0 hw z0 O2 P5 fm0 O4 R4 [] b150 b120 b_114 b_104 (own_text z_101 y_102) (own_text (p2 &&& (3 : Int32)) p0) T156.heap n0 (Nat.le_trans Z0 Z204) F184 F205 f181 F188 F201 F193 F203 F202) hZ156 (ow hw 72 rfl) (ow hw 36 rfl) (by decide) (by decide)) e182 f180 (g := (mkF m 327 #[.val (.int p0), .val (.int p1), .val (.int p2), .val (.int p3), .val (.int p4), .val (.int (p2 &&& (3 : Int32))), .val (.int z_101), .val (.int y_102), .val (.ref b_104), .val (.ref b_114), .val (.int ex_119), .val (.ref b120), .val (.ref b150), .val (.ref b_104), .val (.int (1 : Int32))] [(.ref b120), (.ref b150)])) rfl (by rw [hml]; rfl) (argsL := [(.ref b120)]) (rest := []) rfl (lenOf own_pd18 rfl) rfl (by show 2 * 0 + _ ≤ _; exact Nat.le_of_eq rfl) (hb hby at_327) (by decide) (by decide)
                              obtain ⟨Nq237, e237, q237⟩ := q237
                              have N237 := Fr.app N182 Nq237
                              rcases q237 with ⟨rfl, p238⟩ | ⟨rfl, p239⟩
                              · refine go _ _ (st237) ?_
                                show G (T237.setTop (mkF m 330 #[.val (.int p0), .val (.int p1), .val (.int p2), .val (.int p3), .val (.int p4), .val (.int (p2 &&& (3 : Int32))), .val (.int z_101), .val (.int y_102), .val (.ref b_104), .val (.ref b_114), .val (.int ex_119), .val (.ref b120), .val (.ref b150), .val (.ref b_104), .val (.int (1 : Int32))] [(.int (1 : Int32))]))
                                refine go _ _ (fun _ k => XS.iload X237.here hx rfl (hb hby at_330) rfl k) ?_
                                show G (T237.setTop (mkF m 332 #[.val (.int p0), .val (.int p1), .val (.int p2), .val (.int p3), .val (.int p4), .val (.int (p2 &&& (3 : Int32))), .val (.int z_101), .val (.int y_102), .val (.ref b_104), .val (.ref b_114), .val (.int ex_119), .val (.ref b120), .val (.ref b150), .val (.ref b_104), .val (.int (1 : Int32))] [(.int ex_119), (.int (1 : Int32))]))
                                refine go _ _ (fun _ k => XS.icmpNo X237.here hx rfl (hb hby at_332) rfl (teq (own_is1 pj119_ex0 (Eq.symm p238))).2 k) ?_
                                show G (T237.setTop (mkF m 335 #[.val (.int p0), .val (.int p1), .val (.int p2), .val (.int p3), .val (.int p4), .val (.int (p2 &&& (3 : Int32))), .val (.int z_101), .val (.int y_102), .val (.ref b_104), .val (.ref b_114), .val (.int ex_119), .val (.ref b120), .val (.ref b150), .val (.ref b_104), .val (.int (1 : Int32))] []))
                                refine go _ _ (fun _ k => XS.iconst X237.here hx rfl (hb hby at_335) k) ?_
                                show G (T237.setTop (mkF m 336 #[.val (.int p0), .val (.int p1), .val (.int p2), .val (.int p3), .val (.int p4), .val (.int (p2 &&& (3 : Int32))), .val (.int z_101), .val (.int y_102), .val (.ref b_104), .val (.ref b_114), .val (.int ex_119), .val (.ref b120), .val (.ref b150), .val (.ref b_104), .val (.int (1 : Int32))] [(.int (1 : Int32))]))
                                refine go _ _ (fun _ k => XS.goto X237.here hx rfl (pc0 := 336) (pc' := 340) rfl (hb hby at_336) (by decide) (by decide) k) ?_
                                show G (T237.setTop (mkF m 340 #[.val (.int p0), .val (.int p1), .val (.int p2), .val (.int p3), .val (.int p4), .val (.int (p2 &&& (3 : Int32))), .val (.int z_101), .val (.int y_102), .val (.ref b_104), .val (.ref b_114), .val (.int ex_119), .val (.ref b120), .val (.ref b150), .val (.ref b_104), .val (.int (1 : Int32))] [(.int (1 : Int32))]))
                                refine go _ _ (fun _ k => XS.istore X237.here hx rfl (hb hby at_340) rfl (l' := #[.val (.int p0), .val (.int p1), .val (.int p2), .val (.int p3), .val (.int p4), .val (.int (p2 &&& (3 : Int32))), .val (.int z_101), .val (.int y_102), .val (.ref b_104), .val (.ref b_114), .val (.int ex_119), .val (.ref b120), .val (.ref b150), .val (.ref b_104), .val (.int (1 : Int32))]) rfl (XS.iload X237.here hx rfl (hb hby at_342) rfl k)) ?_
                                show G (T237.setTop (mkF m 344 #[.val (.int p0), .val (.int p1), .val (.int p2), .val (.int p3), .val (.int p4), .val (.int (p2 &&& (3 : Int32))), .val (.int z_101), .val (.int y_102), .val (.ref b_104), .val (.ref b_114), .val (.int ex_119), .val (.ref b120), .val (.ref b150), .val (.ref b_104), .val (.int (1 : Int32))] [(.int (1 : Int32))]))
                                refine go _ _ (fun _ k => XS.ifNo X237.here hx rfl (hb hby at_344) rfl (by decide) k) ?_
                                show G (T237.setTop (mkF m 347 #[.val (.int p0), .val (.int p1), .val (.int p2), .val (.int p3), .val (.int p4), .val (.int (p2 &&& (3 : Int32))), .val (.int z_101), .val (.int y_102), .val (.ref b_104), .val (.ref b_114), .val (.int ex_119), .val (.ref b120), .val (.ref b150), .val (.ref b_104), .val (.int (1 : Int32))] []))
                                refine go _ _ (fun _ k => XS.aload X237.here hx rfl (hb hby at_347) rfl rfl (XS.aload X237.here hx rfl (hb hby at_349) rfl rfl k)) ?_
                                show G (T237.setTop (mkF m 351 #[.val (.int p0), .val (.int p1), .val (.int p2), .val (.int p3), .val (.int p4), .val (.int (p2 &&& (3 : Int32))), .val (.int z_101), .val (.int y_102), .val (.ref b_104), .val (.ref b_114), .val (.int ex_119), .val (.ref b120), .val (.ref b150), .val (.ref b_104), .val (.int (1 : Int32))] [(.ref b120), (.ref b120)]))
                                obtain ⟨rv240, T240, L240, X240, q240, st240⟩ := own_vi X237 hx hZ156 (y := (⟨"com/example/naslov/naslov/Uri", "equals", "(Ljava/lang/Object;)Z"⟩ : MethodName)) (z := (⟨"com/example/naslov/naslov/Uri", "equals", "(Ljava/lang/Object;)Z"⟩ : MethodName)) hown156 (ow hw 68 rfl) (ow hw 69 rfl) (ow hw 71 rfl) (ow hw 70 rfl) (Or.inl rfl) (by decide) (own_bkN (W := 0) (rmEqO l Z a0 hw z0 O2 P5 fm0 O4 R4 [] b120 b120 b_104 b_104 (own_text (p2 &&& (3 : Int32)) p0) (own_text (p2 &&& (3 : Int32)) p0) T156.heap n0 (Nat.le_trans Z0 Z204) F184 F205 F188 F188 F193 F193 F202 F202) hZ156 (ow hw 72 rfl) (ow hw 36 rfl) (by decide) (by decide)) e237 F205 (g := (mkF m 351 #[.val (.int p0), .val (.int p1), .val (.int p2), .val (.int p3), .val (.int p4), .val (.int (p2 &&& (3 : Int32))), .val (.int z_101), .val (.int y_102), .val (.ref b_104), .val (.ref b_114), .val (.int ex_119), .val (.ref b120), .val (.ref b150), .val (.ref b_104), .val (.int (1 : Int32))] [(.ref b120), (.ref b120)])) rfl (by rw [hml]; rfl) (argsL := [(.ref b120)]) (rest := []) rfl (lenOf own_pd18 rfl) rfl (by show 2 * 0 + _ ≤ _; exact Nat.le_of_eq rfl) (hb hby at_351) (by decide) (by decide)
                                obtain ⟨Nq240, e240, q240⟩ := q240
                                have N240 := Fr.app N237 Nq240
                                rcases q240 with ⟨rfl, p241⟩ | ⟨rfl, p242⟩
                                · refine go _ _ (st240) ?_
                                  show G (T240.setTop (mkF m 354 #[.val (.int p0), .val (.int p1), .val (.int p2), .val (.int p3), .val (.int p4), .val (.int (p2 &&& (3 : Int32))), .val (.int z_101), .val (.int y_102), .val (.ref b_104), .val (.ref b_114), .val (.int ex_119), .val (.ref b120), .val (.ref b150), .val (.ref b_104), .val (.int (1 : Int32))] [(.int (1 : Int32))]))
                                  refine go _ _ (fun _ k => XS.ifNo X240.here hx rfl (hb hby at_354) rfl (by decide) k) ?_
                                  show G (T240.setTop (mkF m 357 #[.val (.int p0), .val (.int p1), .val (.int p2), .val (.int p3), .val (.int p4), .val (.int (p2 &&& (3 : Int32))), .val (.int z_101), .val (.int y_102), .val (.ref b_104), .val (.ref b_114), .val (.int ex_119), .val (.ref b120), .val (.ref b150), .val (.ref b_104), .val (.int (1 : Int32))] []))
                                  refine go _ _ (fun _ k => XS.iconst X240.here hx rfl (hb hby at_357) k) ?_
                                  show G (T240.setTop (mkF m 358 #[.val (.int p0), .val (.int p1), .val (.int p2), .val (.int p3), .val (.int p4), .val (.int (p2 &&& (3 : Int32))), .val (.int z_101), .val (.int y_102), .val (.ref b_104), .val (.ref b_114), .val (.int ex_119), .val (.ref b120), .val (.ref b150), .val (.ref b_104), .val (.int (1 : Int32))] [(.int (1 : Int32))]))
                                  refine go _ _ (fun _ k => XS.goto X240.here hx rfl (pc0 := 358) (pc' := 362) rfl (hb hby at_358) (by decide) (by decide) k) ?_
                                  show G (T240.setTop (mkF m 362 #[.val (.int p0), .val (.int p1), .val (.int p2), .val (.int p3), .val (.int p4), .val (.int (p2 &&& (3 : Int32))), .val (.int z_101), .val (.int y_102), .val (.ref b_104), .val (.ref b_114), .val (.int ex_119), .val (.ref b120), .val (.ref b150), .val (.ref b_104), .val (.int (1 : Int32))] [(.int (1 : Int32))]))
                                  refine go _ _ (fun _ k => XS.istore X240.here hx rfl (hb hby at_362) rfl (l' := #[.val (.int p0), .val (.int p1), .val (.int p2), .val (.int p3), .val (.int p4), .val (.int (p2 &&& (3 : Int32))), .val (.int z_101), .val (.int y_102), .val (.ref b_104), .val (.ref b_114), .val (.int ex_119), .val (.ref b120), .val (.ref b150), .val (.ref b_104), .val (.int (1 : Int32))]) rfl (XS.iload X240.here hx rfl (hb hby at_364) rfl k)) ?_
                                  show G (T240.setTop (mkF m 366 #[.val (.int p0), .val (.int p1), .val (.int p2), .val (.int p3), .val (.int p4), .val (.int (p2 &&& (3 : Int32))), .val (.int z_101), .val (.int y_102), .val (.ref b_104), .val (.ref b_114), .val (.int ex_119), .val (.ref b120), .val (.ref b150), .val (.ref b_104), .val (.int (1 : Int32))] [(.int (1 : Int32))]))
                                  refine go _ _ (fun _ k => XS.ifNo X240.here hx rfl (hb hby at_366) rfl (by decide) k) ?_
                                  show G (T240.setTop (mkF m 369 #[.val (.int p0), .val (.int p1), .val (.int p2), .val (.int p3), .val (.int p4), .val (.int (p2 &&& (3 : Int32))), .val (.int z_101), .val (.int y_102), .val (.ref b_104), .val (.ref b_114), .val (.int ex_119), .val (.ref b120), .val (.ref b150), .val (.ref b_104), .val (.int (1 : Int32))] []))
                                  refine go _ _ (fun _ k => XS.aload X240.here hx rfl (hb hby at_369) rfl rfl (XS.aload X240.here hx rfl (hb hby at_371) rfl rfl k)) ?_
                                  show G (T240.setTop (mkF m 373 #[.val (.int p0), .val (.int p1), .val (.int p2), .val (.int p3), .val (.int p4), .val (.int (p2 &&& (3 : Int32))), .val (.int z_101), .val (.int y_102), .val (.ref b_104), .val (.ref b_114), .val (.int ex_119), .val (.ref b120), .val (.ref b150), .val (.ref b_104), .val (.int (1 : Int32))] [(.ref b_104), (.ref b120)]))
                                  obtain ⟨rv243, T243, L243, X243, q243, st243⟩ := own_vi X240 hx hZ156 (y := (⟨"com/example/naslov/naslov/Uri", "equals", "(Ljava/lang/Object;)Z"⟩ : MethodName)) (z := (⟨"com/example/naslov/naslov/Uri", "equals", "(Ljava/lang/Object;)Z"⟩ : MethodName)) hown156 (ow hw 68 rfl) (ow hw 69 rfl) (ow hw 71 rfl) (ow hw 70 rfl) (Or.inl rfl) (by decide) (own_bkN (W := 0) (rmEqS l Z a0 hw z0 O2 P5 fm0 O4 R4 [] b120 b_104 T156.heap n0 (Nat.le_trans Z0 Z204) F193) hZ156 (ow hw 72 rfl) (ow hw 36 rfl) (by decide) (by decide)) e240 F205 (g := (mkF m 373 #[.val (.int p0), .val (.int p1), .val (.int p2), .val (.int p3), .val (.int p4), .val (.int (p2 &&& (3 : Int32))), .val (.int z_101), .val (.int y_102), .val (.ref b_104), .val (.ref b_114), .val (.int ex_119), .val (.ref b120), .val (.ref b150), .val (.ref b_104), .val (.int (1 : Int32))] [(.ref b_104), (.ref b120)])) rfl (by rw [hml]; rfl) (argsL := [(.ref b_104)]) (rest := []) rfl (lenOf own_pd18 rfl) rfl (by show 2 * 0 + _ ≤ _; exact Nat.le_of_eq rfl) (hb hby at_373) (by decide) (by decide)
                                  obtain ⟨Nq243, e243, rfl⟩ := q243
                                  have N243 := Fr.app N240 Nq243
                                  refine go _ _ (st243) ?_
                                  show G (T243.setTop (mkF m 376 #[.val (.int p0), .val (.int p1), .val (.int p2), .val (.int p3), .val (.int p4), .val (.int (p2 &&& (3 : Int32))), .val (.int z_101), .val (.int y_102), .val (.ref b_104), .val (.ref b_114), .val (.int ex_119), .val (.ref b120), .val (.ref b150), .val (.ref b_104), .val (.int (1 : Int32))] [(.int (0 : Int32))]))
                                  refine go _ _ (fun _ k => XS.ifNo X243.here hx rfl (hb hby at_376) rfl (by decide) k) ?_
                                  show G (T243.setTop (mkF m 379 #[.val (.int p0), .val (.int p1), .val (.int p2), .val (.int p3), .val (.int p4), .val (.int (p2 &&& (3 : Int32))), .val (.int z_101), .val (.int y_102), .val (.ref b_104), .val (.ref b_114), .val (.int ex_119), .val (.ref b120), .val (.ref b150), .val (.ref b_104), .val (.int (1 : Int32))] []))
                                  refine go _ _ (fun _ k => XS.iconst X243.here hx rfl (hb hby at_379) k) ?_
                                  show G (T243.setTop (mkF m 380 #[.val (.int p0), .val (.int p1), .val (.int p2), .val (.int p3), .val (.int p4), .val (.int (p2 &&& (3 : Int32))), .val (.int z_101), .val (.int y_102), .val (.ref b_104), .val (.ref b_114), .val (.int ex_119), .val (.ref b120), .val (.ref b150), .val (.ref b_104), .val (.int (1 : Int32))] [(.int (1 : Int32))]))
                                  refine go _ _ (fun _ k => XS.goto X243.here hx rfl (pc0 := 380) (pc' := 384) rfl (hb hby at_380) (by decide) (by decide) k) ?_
                                  show G (T243.setTop (mkF m 384 #[.val (.int p0), .val (.int p1), .val (.int p2), .val (.int p3), .val (.int p4), .val (.int (p2 &&& (3 : Int32))), .val (.int z_101), .val (.int y_102), .val (.ref b_104), .val (.ref b_114), .val (.int ex_119), .val (.ref b120), .val (.ref b150), .val (.ref b_104), .val (.int (1 : Int32))] [(.int (1 : Int32))]))
                                  refine go _ _ (fun _ k => XS.istore X243.here hx rfl (hb hby at_384) rfl (l' := #[.val (.int p0), .val (.int p1), .val (.int p2), .val (.int p3), .val (.int p4), .val (.int (p2 &&& (3 : Int32))), .val (.int z_101), .val (.int y_102), .val (.ref b_104), .val (.ref b_114), .val (.int ex_119), .val (.ref b120), .val (.ref b150), .val (.ref b_104), .val (.int (1 : Int32))]) rfl (XS.iload X243.here hx rfl (hb hby at_386) rfl k)) ?_
                                  show G (T243.setTop (mkF m 388 #[.val (.int p0), .val (.int p1), .val (.int p2), .val (.int p3), .val (.int p4), .val (.int (p2 &&& (3 : Int32))), .val (.int z_101), .val (.int y_102), .val (.ref b_104), .val (.ref b_114), .val (.int ex_119), .val (.ref b120), .val (.ref b150), .val (.ref b_104), .val (.int (1 : Int32))] [(.int (1 : Int32))]))
                                  refine go _ _ (fun _ k => XS.ifNo X243.here hx rfl (hb hby at_388) rfl (by decide) k) ?_
                                  show G (T243.setTop (mkF m 391 #[.val (.int p0), .val (.int p1), .val (.int p2), .val (.int p3), .val (.int p4), .val (.int (p2 &&& (3 : Int32))), .val (.int z_101), .val (.int y_102), .val (.ref b_104), .val (.ref b_114), .val (.int ex_119), .val (.ref b120), .val (.ref b150), .val (.ref b_104), .val (.int (1 : Int32))] []))
                                  refine go _ _ (fun _ k => XS.aload X243.here hx rfl (hb hby at_391) rfl rfl (XS.aconstNull X243.here hx rfl (hb hby at_393) k)) ?_
                                  show G (T243.setTop (mkF m 394 #[.val (.int p0), .val (.int p1), .val (.int p2), .val (.int p3), .val (.int p4), .val (.int (p2 &&& (3 : Int32))), .val (.int z_101), .val (.int y_102), .val (.ref b_104), .val (.ref b_114), .val (.int ex_119), .val (.ref b120), .val (.ref b150), .val (.ref b_104), .val (.int (1 : Int32))] [.null, (.ref b120)]))
                                  obtain ⟨rv244, T244, L244, X244, q244, st244⟩ := own_vi X243 hx hZ156 (y := (⟨"com/example/naslov/naslov/Uri", "equals", "(Ljava/lang/Object;)Z"⟩ : MethodName)) (z := (⟨"com/example/naslov/naslov/Uri", "equals", "(Ljava/lang/Object;)Z"⟩ : MethodName)) hown156 (ow hw 68 rfl) (ow hw 69 rfl) (ow hw 71 rfl) (ow hw 70 rfl) (Or.inl rfl) (by decide) (own_bkN (W := 0) (rmEqN l Z a0 hw z0 O2 P5 fm0 O4 R4 [] b120 T156.heap n0 (Nat.le_trans Z0 Z204)) hZ156 (ow hw 72 rfl) (ow hw 36 rfl) (by decide) (by decide)) e243 F205 (g := (mkF m 394 #[.val (.int p0), .val (.int p1), .val (.int p2), .val (.int p3), .val (.int p4), .val (.int (p2 &&& (3 : Int32))), .val (.int z_101), .val (.int y_102), .val (.ref b_104), .val (.ref b_114), .val (.int ex_119), .val (.ref b120), .val (.ref b150), .val (.ref b_104), .val (.int (1 : Int32))] [.null, (.ref b120)])) rfl (by rw [hml]; rfl) (argsL := [.null]) (rest := []) rfl (lenOf own_pd18 rfl) rfl (by show 2 * 0 + _ ≤ _; exact Nat.le_of_eq rfl) (hb hby at_394) (by decide) (by decide)
                                  obtain ⟨Nq244, e244, rfl⟩ := q244
                                  have N244 := Fr.app N243 Nq244
                                  refine go _ _ (st244) ?_
                                  show G (T244.setTop (mkF m 397 #[.val (.int p0), .val (.int p1), .val (.int p2), .val (.int p3), .val (.int p4), .val (.int (p2 &&& (3 : Int32))), .val (.int z_101), .val (.int y_102), .val (.ref b_104), .val (.ref b_114), .val (.int ex_119), .val (.ref b120), .val (.ref b150), .val (.ref b_104), .val (.int (1 : Int32))] [(.int (0 : Int32))]))
                                  refine go _ _ (fun _ k => XS.ifNo X244.here hx rfl (hb hby at_397) rfl (by decide) k) ?_
                                  show G (T244.setTop (mkF m 400 #[.val (.int p0), .val (.int p1), .val (.int p2), .val (.int p3), .val (.int p4), .val (.int (p2 &&& (3 : Int32))), .val (.int z_101), .val (.int y_102), .val (.ref b_104), .val (.ref b_114), .val (.int ex_119), .val (.ref b120), .val (.ref b150), .val (.ref b_104), .val (.int (1 : Int32))] []))
                                  refine go _ _ (fun _ k => XS.iconst X244.here hx rfl (hb hby at_400) k) ?_
                                  show G (T244.setTop (mkF m 401 #[.val (.int p0), .val (.int p1), .val (.int p2), .val (.int p3), .val (.int p4), .val (.int (p2 &&& (3 : Int32))), .val (.int z_101), .val (.int y_102), .val (.ref b_104), .val (.ref b_114), .val (.int ex_119), .val (.ref b120), .val (.ref b150), .val (.ref b_104), .val (.int (1 : Int32))] [(.int (1 : Int32))]))
                                  refine go _ _ (fun _ k => XS.goto X244.here hx rfl (pc0 := 401) (pc' := 405) rfl (hb hby at_401) (by decide) (by decide) k) ?_
                                  show G (T244.setTop (mkF m 405 #[.val (.int p0), .val (.int p1), .val (.int p2), .val (.int p3), .val (.int p4), .val (.int (p2 &&& (3 : Int32))), .val (.int z_101), .val (.int y_102), .val (.ref b_104), .val (.ref b_114), .val (.int ex_119), .val (.ref b120), .val (.ref b150), .val (.ref b_104), .val (.int (1 : Int32))] [(.int (1 : Int32))]))
                                  refine go _ _ (fun _ k => XS.istore X244.here hx rfl (hb hby at_405) rfl (l' := #[.val (.int p0), .val (.int p1), .val (.int p2), .val (.int p3), .val (.int p4), .val (.int (p2 &&& (3 : Int32))), .val (.int z_101), .val (.int y_102), .val (.ref b_104), .val (.ref b_114), .val (.int ex_119), .val (.ref b120), .val (.ref b150), .val (.ref b_104), .val (.int (1 : Int32))]) rfl (XS.iload X244.here hx rfl (hb hby at_407) rfl k)) ?_
                                  show G (T244.setTop (mkF m 409 #[.val (.int p0), .val (.int p1), .val (.int p2), .val (.int p3), .val (.int p4), .val (.int (p2 &&& (3 : Int32))), .val (.int z_101), .val (.int y_102), .val (.ref b_104), .val (.ref b_114), .val (.int ex_119), .val (.ref b120), .val (.ref b150), .val (.ref b_104), .val (.int (1 : Int32))] [(.int (1 : Int32))]))
                                  have K245 : Keep h0 T109.heap [] := K110.trans Kp109 all0
                                  have K246 : Keep h0 h120 [] := K245.ext E120
                                  have K247 : Keep h0 h123 [] := K246.trans K123 all0
                                  have K248 : Keep h0 T126.heap [] := K247.trans Kp126 (allS (Or.inr (Nat.le_trans Z145 (Nat.le_of_eq g120.symm))) all0)
                                  have K249 : Keep h0 h150 [] := K248.ext E150
                                  have K250 : Keep h0 h153 [] := K249.trans K153 all0
                                  have K251 : Keep h0 T156.heap [] := K250.trans Kp156 (allS (Or.inr (Nat.le_trans Z177 (Nat.le_of_eq g150.symm))) all0)
                                  have C252 : CHr Z own_EL s.vm h0 T156.vm T156.heap := Cc153.trans C156
                                  refine fin T244 _ _ _ (some (.int (1 : Int32))) T156.vm _ X244 hZ156 hS156 (by rw [e244]; exact (Nat.le_refl _)) (by rw [e244]; exact C252) (fun q => nomatch q) (by decide) (by decide) (by rw [e244]; exact ⟨N244, K251, rfl⟩) _ (own_retN X244 hx (z := (1 : Int32)) (t := .boolean) hret (by simp) (hb hby at_409))
                                · exact absurd rfl p242
                              · refine go _ _ (st237) ?_
                                show G (T237.setTop (mkF m 330 #[.val (.int p0), .val (.int p1), .val (.int p2), .val (.int p3), .val (.int p4), .val (.int (p2 &&& (3 : Int32))), .val (.int z_101), .val (.int y_102), .val (.ref b_104), .val (.ref b_114), .val (.int ex_119), .val (.ref b120), .val (.ref b150), .val (.ref b_104), .val (.int (1 : Int32))] [(.int (0 : Int32))]))
                                refine go _ _ (fun _ k => XS.iload X237.here hx rfl (hb hby at_330) rfl k) ?_
                                show G (T237.setTop (mkF m 332 #[.val (.int p0), .val (.int p1), .val (.int p2), .val (.int p3), .val (.int p4), .val (.int (p2 &&& (3 : Int32))), .val (.int z_101), .val (.int y_102), .val (.ref b_104), .val (.ref b_114), .val (.int ex_119), .val (.ref b120), .val (.ref b150), .val (.ref b_104), .val (.int (1 : Int32))] [(.int ex_119), (.int (0 : Int32))]))
                                refine go _ _ (fun _ k => XS.icmpNo X237.here hx rfl (hb hby at_332) rfl (teq (own_is0 pj119_ex0 (fun q => p239 (Eq.symm q)))).2 k) ?_
                                show G (T237.setTop (mkF m 335 #[.val (.int p0), .val (.int p1), .val (.int p2), .val (.int p3), .val (.int p4), .val (.int (p2 &&& (3 : Int32))), .val (.int z_101), .val (.int y_102), .val (.ref b_104), .val (.ref b_114), .val (.int ex_119), .val (.ref b120), .val (.ref b150), .val (.ref b_104), .val (.int (1 : Int32))] []))
                                refine go _ _ (fun _ k => XS.iconst X237.here hx rfl (hb hby at_335) k) ?_
                                show G (T237.setTop (mkF m 336 #[.val (.int p0), .val (.int p1), .val (.int p2), .val (.int p3), .val (.int p4), .val (.int (p2 &&& (3 : Int32))), .val (.int z_101), .val (.int y_102), .val (.ref b_104), .val (.ref b_114), .val (.int ex_119), .val (.ref b120), .val (.ref b150), .val (.ref b_104), .val (.int (1 : Int32))] [(.int (1 : Int32))]))
                                refine go _ _ (fun _ k => XS.goto X237.here hx rfl (pc0 := 336) (pc' := 340) rfl (hb hby at_336) (by decide) (by decide) k) ?_
                                show G (T237.setTop (mkF m 340 #[.val (.int p0), .val (.int p1), .val (.int p2), .val (.int p3), .val (.int p4), .val (.int (p2 &&& (3 : Int32))), .val (.int z_101), .val (.int y_102), .val (.ref b_104), .val (.ref b_114), .val (.int ex_119), .val (.ref b120), .val (.ref b150), .val (.ref b_104), .val (.int (1 : Int32))] [(.int (1 : Int32))]))
                                refine go _ _ (fun _ k => XS.istore X237.here hx rfl (hb hby at_340) rfl (l' := #[.val (.int p0), .val (.int p1), .val (.int p2), .val (.int p3), .val (.int p4), .val (.int (p2 &&& (3 : Int32))), .val (.int z_101), .val (.int y_102), .val (.ref b_104), .val (.ref b_114), .val (.int ex_119), .val (.ref b120), .val (.ref b150), .val (.ref b_104), .val (.int (1 : Int32))]) rfl (XS.iload X237.here hx rfl (hb hby at_342) rfl k)) ?_
                                show G (T237.setTop (mkF m 344 #[.val (.int p0), .val (.int p1), .val (.int p2), .val (.int p3), .val (.int p4), .val (.int (p2 &&& (3 : Int32))), .val (.int z_101), .val (.int y_102), .val (.ref b_104), .val (.ref b_114), .val (.int ex_119), .val (.ref b120), .val (.ref b150), .val (.ref b_104), .val (.int (1 : Int32))] [(.int (1 : Int32))]))
                                refine go _ _ (fun _ k => XS.ifNo X237.here hx rfl (hb hby at_344) rfl (by decide) k) ?_
                                show G (T237.setTop (mkF m 347 #[.val (.int p0), .val (.int p1), .val (.int p2), .val (.int p3), .val (.int p4), .val (.int (p2 &&& (3 : Int32))), .val (.int z_101), .val (.int y_102), .val (.ref b_104), .val (.ref b_114), .val (.int ex_119), .val (.ref b120), .val (.ref b150), .val (.ref b_104), .val (.int (1 : Int32))] []))
                                refine go _ _ (fun _ k => XS.aload X237.here hx rfl (hb hby at_347) rfl rfl (XS.aload X237.here hx rfl (hb hby at_349) rfl rfl k)) ?_
                                show G (T237.setTop (mkF m 351 #[.val (.int p0), .val (.int p1), .val (.int p2), .val (.int p3), .val (.int p4), .val (.int (p2 &&& (3 : Int32))), .val (.int z_101), .val (.int y_102), .val (.ref b_104), .val (.ref b_114), .val (.int ex_119), .val (.ref b120), .val (.ref b150), .val (.ref b_104), .val (.int (1 : Int32))] [(.ref b120), (.ref b120)]))
                                obtain ⟨rv253, T253, L253, X253, q253, st253⟩ := own_vi X237 hx hZ156 (y := (⟨"com/example/naslov/naslov/Uri", "equals", "(Ljava/lang/Object;)Z"⟩ : MethodName)) (z := (⟨"com/example/naslov/naslov/Uri", "equals", "(Ljava/lang/Object;)Z"⟩ : MethodName)) hown156 (ow hw 68 rfl) (ow hw 69 rfl) (ow hw 71 rfl) (ow hw 70 rfl) (Or.inl rfl) (by decide) (own_bkN (W := 0) (rmEqO l Z a0 hw z0 O2 P5 fm0 O4 R4 [] b120 b120 b_104 b_104 (own_text (p2 &&& (3 : Int32)) p0) (own_text (p2 &&& (3 : Int32)) p0) T156.heap n0 (Nat.le_trans Z0 Z204) F184 F205 F188 F188 F193 F193 F202 F202) hZ156 (ow hw 72 rfl) (ow hw 36 rfl) (by decide) (by decide)) e237 F205 (g := (mkF m 351 #[.val (.int p0), .val (.int p1), .val (.int p2), .val (.int p3), .val (.int p4), .val (.int (p2 &&& (3 : Int32))), .val (.int z_101), .val (.int y_102), .val (.ref b_104), .val (.ref b_114), .val (.int ex_119), .val (.ref b120), .val (.ref b150), .val (.ref b_104), .val (.int (1 : Int32))] [(.ref b120), (.ref b120)])) rfl (by rw [hml]; rfl) (argsL := [(.ref b120)]) (rest := []) rfl (lenOf own_pd18 rfl) rfl (by show 2 * 0 + _ ≤ _; exact Nat.le_of_eq rfl) (hb hby at_351) (by decide) (by decide)
                                obtain ⟨Nq253, e253, q253⟩ := q253
                                have N253 := Fr.app N237 Nq253
                                rcases q253 with ⟨rfl, p254⟩ | ⟨rfl, p255⟩
                                · refine go _ _ (st253) ?_
                                  show G (T253.setTop (mkF m 354 #[.val (.int p0), .val (.int p1), .val (.int p2), .val (.int p3), .val (.int p4), .val (.int (p2 &&& (3 : Int32))), .val (.int z_101), .val (.int y_102), .val (.ref b_104), .val (.ref b_114), .val (.int ex_119), .val (.ref b120), .val (.ref b150), .val (.ref b_104), .val (.int (1 : Int32))] [(.int (1 : Int32))]))
                                  refine go _ _ (fun _ k => XS.ifNo X253.here hx rfl (hb hby at_354) rfl (by decide) k) ?_
                                  show G (T253.setTop (mkF m 357 #[.val (.int p0), .val (.int p1), .val (.int p2), .val (.int p3), .val (.int p4), .val (.int (p2 &&& (3 : Int32))), .val (.int z_101), .val (.int y_102), .val (.ref b_104), .val (.ref b_114), .val (.int ex_119), .val (.ref b120), .val (.ref b150), .val (.ref b_104), .val (.int (1 : Int32))] []))
                                  refine go _ _ (fun _ k => XS.iconst X253.here hx rfl (hb hby at_357) k) ?_
                                  show G (T253.setTop (mkF m 358 #[.val (.int p0), .val (.int p1), .val (.int p2), .val (.int p3), .val (.int p4), .val (.int (p2 &&& (3 : Int32))), .val (.int z_101), .val (.int y_102), .val (.ref b_104), .val (.ref b_114), .val (.int ex_119), .val (.ref b120), .val (.ref b150), .val (.ref b_104), .val (.int (1 : Int32))] [(.int (1 : Int32))]))
                                  refine go _ _ (fun _ k => XS.goto X253.here hx rfl (pc0 := 358) (pc' := 362) rfl (hb hby at_358) (by decide) (by decide) k) ?_
                                  show G (T253.setTop (mkF m 362 #[.val (.int p0), .val (.int p1), .val (.int p2), .val (.int p3), .val (.int p4), .val (.int (p2 &&& (3 : Int32))), .val (.int z_101), .val (.int y_102), .val (.ref b_104), .val (.ref b_114), .val (.int ex_119), .val (.ref b120), .val (.ref b150), .val (.ref b_104), .val (.int (1 : Int32))] [(.int (1 : Int32))]))
                                  refine go _ _ (fun _ k => XS.istore X253.here hx rfl (hb hby at_362) rfl (l' := #[.val (.int p0), .val (.int p1), .val (.int p2), .val (.int p3), .val (.int p4), .val (.int (p2 &&& (3 : Int32))), .val (.int z_101), .val (.int y_102), .val (.ref b_104), .val (.ref b_114), .val (.int ex_119), .val (.ref b120), .val (.ref b150), .val (.ref b_104), .val (.int (1 : Int32))]) rfl (XS.iload X253.here hx rfl (hb hby at_364) rfl k)) ?_
                                  show G (T253.setTop (mkF m 366 #[.val (.int p0), .val (.int p1), .val (.int p2), .val (.int p3), .val (.int p4), .val (.int (p2 &&& (3 : Int32))), .val (.int z_101), .val (.int y_102), .val (.ref b_104), .val (.ref b_114), .val (.int ex_119), .val (.ref b120), .val (.ref b150), .val (.ref b_104), .val (.int (1 : Int32))] [(.int (1 : Int32))]))
                                  refine go _ _ (fun _ k => XS.ifNo X253.here hx rfl (hb hby at_366) rfl (by decide) k) ?_
                                  show G (T253.setTop (mkF m 369 #[.val (.int p0), .val (.int p1), .val (.int p2), .val (.int p3), .val (.int p4), .val (.int (p2 &&& (3 : Int32))), .val (.int z_101), .val (.int y_102), .val (.ref b_104), .val (.ref b_114), .val (.int ex_119), .val (.ref b120), .val (.ref b150), .val (.ref b_104), .val (.int (1 : Int32))] []))
                                  refine go _ _ (fun _ k => XS.aload X253.here hx rfl (hb hby at_369) rfl rfl (XS.aload X253.here hx rfl (hb hby at_371) rfl rfl k)) ?_
                                  show G (T253.setTop (mkF m 373 #[.val (.int p0), .val (.int p1), .val (.int p2), .val (.int p3), .val (.int p4), .val (.int (p2 &&& (3 : Int32))), .val (.int z_101), .val (.int y_102), .val (.ref b_104), .val (.ref b_114), .val (.int ex_119), .val (.ref b120), .val (.ref b150), .val (.ref b_104), .val (.int (1 : Int32))] [(.ref b_104), (.ref b120)]))
                                  obtain ⟨rv256, T256, L256, X256, q256, st256⟩ := own_vi X253 hx hZ156 (y := (⟨"com/example/naslov/naslov/Uri", "equals", "(Ljava/lang/Object;)Z"⟩ : MethodName)) (z := (⟨"com/example/naslov/naslov/Uri", "equals", "(Ljava/lang/Object;)Z"⟩ : MethodName)) hown156 (ow hw 68 rfl) (ow hw 69 rfl) (ow hw 71 rfl) (ow hw 70 rfl) (Or.inl rfl) (by decide) (own_bkN (W := 0) (rmEqS l Z a0 hw z0 O2 P5 fm0 O4 R4 [] b120 b_104 T156.heap n0 (Nat.le_trans Z0 Z204) F193) hZ156 (ow hw 72 rfl) (ow hw 36 rfl) (by decide) (by decide)) e253 F205 (g := (mkF m 373 #[.val (.int p0), .val (.int p1), .val (.int p2), .val (.int p3), .val (.int p4), .val (.int (p2 &&& (3 : Int32))), .val (.int z_101), .val (.int y_102), .val (.ref b_104), .val (.ref b_114), .val (.int ex_119), .val (.ref b120), .val (.ref b150), .val (.ref b_104), .val (.int (1 : Int32))] [(.ref b_104), (.ref b120)])) rfl (by rw [hml]; rfl) (argsL := [(.ref b_104)]) (rest := []) rfl (lenOf own_pd18 rfl) rfl (by show 2 * 0 + _ ≤ _; exact Nat.le_of_eq rfl) (hb hby at_373) (by decide) (by decide)
                                  obtain ⟨Nq256, e256, rfl⟩ := q256
                                  have N256 := Fr.app N253 Nq256
                                  refine go _ _ (st256) ?_
                                  show G (T256.setTop (mkF m 376 #[.val (.int p0), .val (.int p1), .val (.int p2), .val (.int p3), .val (.int p4), .val (.int (p2 &&& (3 : Int32))), .val (.int z_101), .val (.int y_102), .val (.ref b_104), .val (.ref b_114), .val (.int ex_119), .val (.ref b120), .val (.ref b150), .val (.ref b_104), .val (.int (1 : Int32))] [(.int (0 : Int32))]))
                                  refine go _ _ (fun _ k => XS.ifNo X256.here hx rfl (hb hby at_376) rfl (by decide) k) ?_
                                  show G (T256.setTop (mkF m 379 #[.val (.int p0), .val (.int p1), .val (.int p2), .val (.int p3), .val (.int p4), .val (.int (p2 &&& (3 : Int32))), .val (.int z_101), .val (.int y_102), .val (.ref b_104), .val (.ref b_114), .val (.int ex_119), .val (.ref b120), .val (.ref b150), .val (.ref b_104), .val (.int (1 : Int32))] []))
                                  refine go _ _ (fun _ k => XS.iconst X256.here hx rfl (hb hby at_379) k) ?_
                                  show G (T256.setTop (mkF m 380 #[.val (.int p0), .val (.int p1), .val (.int p2), .val (.int p3), .val (.int p4), .val (.int (p2 &&& (3 : Int32))), .val (.int z_101), .val (.int y_102), .val (.ref b_104), .val (.ref b_114), .val (.int ex_119), .val (.ref b120), .val (.ref b150), .val (.ref b_104), .val (.int (1 : Int32))] [(.int (1 : Int32))]))
                                  refine go _ _ (fun _ k => XS.goto X256.here hx rfl (pc0 := 380) (pc' := 384) rfl (hb hby at_380) (by decide) (by decide) k) ?_
                                  show G (T256.setTop (mkF m 384 #[.val (.int p0), .val (.int p1), .val (.int p2), .val (.int p3), .val (.int p4), .val (.int (p2 &&& (3 : Int32))), .val (.int z_101), .val (.int y_102), .val (.ref b_104), .val (.ref b_114), .val (.int ex_119), .val (.ref b120), .val (.ref b150), .val (.ref b_104), .val (.int (1 : Int32))] [(.int (1 : Int32))]))
                                  refine go _ _ (fun _ k => XS.istore X256.here hx rfl (hb hby at_384) rfl (l' := #[.val (.int p0), .val (.int p1), .val (.int p2), .val (.int p3), .val (.int p4), .val (.int (p2 &&& (3 : Int32))), .val (.int z_101), .val (.int y_102), .val (.ref b_104), .val (.ref b_114), .val (.int ex_119), .val (.ref b120), .val (.ref b150), .val (.ref b_104), .val (.int (1 : Int32))]) rfl (XS.iload X256.here hx rfl (hb hby at_386) rfl k)) ?_
                                  show G (T256.setTop (mkF m 388 #[.val (.int p0), .val (.int p1), .val (.int p2), .val (.int p3), .val (.int p4), .val (.int (p2 &&& (3 : Int32))), .val (.int z_101), .val (.int y_102), .val (.ref b_104), .val (.ref b_114), .val (.int ex_119), .val (.ref b120), .val (.ref b150), .val (.ref b_104), .val (.int (1 : Int32))] [(.int (1 : Int32))]))
                                  refine go _ _ (fun _ k => XS.ifNo X256.here hx rfl (hb hby at_388) rfl (by decide) k) ?_
                                  show G (T256.setTop (mkF m 391 #[.val (.int p0), .val (.int p1), .val (.int p2), .val (.int p3), .val (.int p4), .val (.int (p2 &&& (3 : Int32))), .val (.int z_101), .val (.int y_102), .val (.ref b_104), .val (.ref b_114), .val (.int ex_119), .val (.ref b120), .val (.ref b150), .val (.ref b_104), .val (.int (1 : Int32))] []))
                                  refine go _ _ (fun _ k => XS.aload X256.here hx rfl (hb hby at_391) rfl rfl (XS.aconstNull X256.here hx rfl (hb hby at_393) k)) ?_
                                  show G (T256.setTop (mkF m 394 #[.val (.int p0), .val (.int p1), .val (.int p2), .val (.int p3), .val (.int p4), .val (.int (p2 &&& (3 : Int32))), .val (.int z_101), .val (.int y_102), .val (.ref b_104), .val (.ref b_114), .val (.int ex_119), .val (.ref b120), .val (.ref b150), .val (.ref b_104), .val (.int (1 : Int32))] [.null, (.ref b120)]))
                                  obtain ⟨rv257, T257, L257, X257, q257, st257⟩ := own_vi X256 hx hZ156 (y := (⟨"com/example/naslov/naslov/Uri", "equals", "(Ljava/lang/Object;)Z"⟩ : MethodName)) (z := (⟨"com/example/naslov/naslov/Uri", "equals", "(Ljava/lang/Object;)Z"⟩ : MethodName)) hown156 (ow hw 68 rfl) (ow hw 69 rfl) (ow hw 71 rfl) (ow hw 70 rfl) (Or.inl rfl) (by decide) (own_bkN (W := 0) (rmEqN l Z a0 hw z0 O2 P5 fm0 O4 R4 [] b120 T156.heap n0 (Nat.le_trans Z0 Z204)) hZ156 (ow hw 72 rfl) (ow hw 36 rfl) (by decide) (by decide)) e256 F205 (g := (mkF m 394 #[.val (.int p0), .val (.int p1), .val (.int p2), .val (.int p3), .val (.int p4), .val (.int (p2 &&& (3 : Int32))), .val (.int z_101), .val (.int y_102), .val (.ref b_104), .val (.ref b_114), .val (.int ex_119), .val (.ref b120), .val (.ref b150), .val (.ref b_104), .val (.int (1 : Int32))] [.null, (.ref b120)])) rfl (by rw [hml]; rfl) (argsL := [.null]) (rest := []) rfl (lenOf own_pd18 rfl) rfl (by show 2 * 0 + _ ≤ _; exact Nat.le_of_eq rfl) (hb hby at_394) (by decide) (by decide)
                                  obtain ⟨Nq257, e257, rfl⟩ := q257
                                  have N257 := Fr.app N256 Nq257
                                  refine go _ _ (st257) ?_
                                  show G (T257.setTop (mkF m 397 #[.val (.int p0), .val (.int p1), .val (.int p2), .val (.int p3), .val (.int p4), .val (.int (p2 &&& (3 : Int32))), .val (.int z_101), .val (.int y_102), .val (.ref b_104), .val (.ref b_114), .val (.int ex_119), .val (.ref b120), .val (.ref b150), .val (.ref b_104), .val (.int (1 : Int32))] [(.int (0 : Int32))]))
                                  refine go _ _ (fun _ k => XS.ifNo X257.here hx rfl (hb hby at_397) rfl (by decide) k) ?_
                                  show G (T257.setTop (mkF m 400 #[.val (.int p0), .val (.int p1), .val (.int p2), .val (.int p3), .val (.int p4), .val (.int (p2 &&& (3 : Int32))), .val (.int z_101), .val (.int y_102), .val (.ref b_104), .val (.ref b_114), .val (.int ex_119), .val (.ref b120), .val (.ref b150), .val (.ref b_104), .val (.int (1 : Int32))] []))
                                  refine go _ _ (fun _ k => XS.iconst X257.here hx rfl (hb hby at_400) k) ?_
                                  show G (T257.setTop (mkF m 401 #[.val (.int p0), .val (.int p1), .val (.int p2), .val (.int p3), .val (.int p4), .val (.int (p2 &&& (3 : Int32))), .val (.int z_101), .val (.int y_102), .val (.ref b_104), .val (.ref b_114), .val (.int ex_119), .val (.ref b120), .val (.ref b150), .val (.ref b_104), .val (.int (1 : Int32))] [(.int (1 : Int32))]))
                                  refine go _ _ (fun _ k => XS.goto X257.here hx rfl (pc0 := 401) (pc' := 405) rfl (hb hby at_401) (by decide) (by decide) k) ?_
                                  show G (T257.setTop (mkF m 405 #[.val (.int p0), .val (.int p1), .val (.int p2), .val (.int p3), .val (.int p4), .val (.int (p2 &&& (3 : Int32))), .val (.int z_101), .val (.int y_102), .val (.ref b_104), .val (.ref b_114), .val (.int ex_119), .val (.ref b120), .val (.ref b150), .val (.ref b_104), .val (.int (1 : Int32))] [(.int (1 : Int32))]))
                                  refine go _ _ (fun _ k => XS.istore X257.here hx rfl (hb hby at_405) rfl (l' := #[.val (.int p0), .val (.int p1), .val (.int p2), .val (.int p3), .val (.int p4), .val (.int (p2 &&& (3 : Int32))), .val (.int z_101), .val (.int y_102), .val (.ref b_104), .val (.ref b_114), .val (.int ex_119), .val (.ref b120), .val (.ref b150), .val (.ref b_104), .val (.int (1 : Int32))]) rfl (XS.iload X257.here hx rfl (hb hby at_407) rfl k)) ?_
                                  show G (T257.setTop (mkF m 409 #[.val (.int p0), .val (.int p1), .val (.int p2), .val (.int p3), .val (.int p4), .val (.int (p2 &&& (3 : Int32))), .val (.int z_101), .val (.int y_102), .val (.ref b_104), .val (.ref b_114), .val (.int ex_119), .val (.ref b120), .val (.ref b150), .val (.ref b_104), .val (.int (1 : Int32))] [(.int (1 : Int32))]))
                                  have K258 : Keep h0 T109.heap [] := K110.trans Kp109 all0
                                  have K259 : Keep h0 h120 [] := K258.ext E120
                                  have K260 : Keep h0 h123 [] := K259.trans K123 all0
                                  have K261 : Keep h0 T126.heap [] := K260.trans Kp126 (allS (Or.inr (Nat.le_trans Z145 (Nat.le_of_eq g120.symm))) all0)
                                  have K262 : Keep h0 h150 [] := K261.ext E150
                                  have K263 : Keep h0 h153 [] := K262.trans K153 all0
                                  have K264 : Keep h0 T156.heap [] := K263.trans Kp156 (allS (Or.inr (Nat.le_trans Z177 (Nat.le_of_eq g150.symm))) all0)
                                  have C265 : CHr Z own_EL s.vm h0 T156.vm T156.heap := Cc153.trans C156
                                  refine fin T257 _ _ _ (some (.int (1 : Int32))) T156.vm _ X257 hZ156 hS156 (by rw [e257]; exact (Nat.le_refl _)) (by rw [e257]; exact C265) (fun q => nomatch q) (by decide) (by decide) (by rw [e257]; exact ⟨N257, K264, rfl⟩) _ (own_retN X257 hx (z := (1 : Int32)) (t := .boolean) hret (by simp) (hb hby at_409))
                                · exact absurd rfl p255
                          by_cases hc281_266 : (p3 &&& (512 : Int32)) = (0 : Int32)
                          · refine go _ _ (fun _ k => XS.ifYes X154.here hx rfl (pc0 := 281) (pc' := 289) rfl (hb hby at_281) rfl ((if0 _ _).trans (teq hc281_266).1) (by decide) (by decide) k) ?_
                            show G (T154.setTop (mkF m 289 #[.val (.int p0), .val (.int p1), .val (.int p2), .val (.int p3), .val (.int p4), .val (.int (p2 &&& (3 : Int32))), .val (.int z_101), .val (.int y_102), .val (.ref b_104), .val (.ref b_114), .val (.int ex_119), .val (.ref b120), .unset, .unset, .unset] [w_154, (.ref q_153), w_152, w_151, (.ref b_114), (.ref b150), (.ref b150)]))
                            refine go _ _ (fun _ k => XS.aconstNull X154.here hx rfl (hb hby at_289) k) ?_
                            show G (T154.setTop (mkF m 290 #[.val (.int p0), .val (.int p1), .val (.int p2), .val (.int p3), .val (.int p4), .val (.int (p2 &&& (3 : Int32))), .val (.int z_101), .val (.int y_102), .val (.ref b_104), .val (.ref b_114), .val (.int ex_119), .val (.ref b120), .unset, .unset, .unset] [.null, w_154, (.ref q_153), w_152, w_151, (.ref b_114), (.ref b150), (.ref b150)]))
                            exact J155 _ _ (X154.more (by decide) (by decide)) e154 N154 .null rfl
                          · refine go _ _ (fun _ k => XS.ifNo X154.here hx rfl (hb hby at_281) rfl ((if0 _ _).trans (feq hc281_266).1) k) ?_
                            show G (T154.setTop (mkF m 284 #[.val (.int p0), .val (.int p1), .val (.int p2), .val (.int p3), .val (.int p4), .val (.int (p2 &&& (3 : Int32))), .val (.int z_101), .val (.int y_102), .val (.ref b_104), .val (.ref b_114), .val (.int ex_119), .val (.ref b120), .unset, .unset, .unset] [w_154, (.ref q_153), w_152, w_151, (.ref b_114), (.ref b150), (.ref b150)]))
                            refine go _ _ (fun _ k => XS.aload X154.here hx rfl (hb hby at_284) rfl rfl k) ?_
                            show G (T154.setTop (mkF m 286 #[.val (.int p0), .val (.int p1), .val (.int p2), .val (.int p3), .val (.int p4), .val (.int (p2 &&& (3 : Int32))), .val (.int z_101), .val (.int y_102), .val (.ref b_104), .val (.ref b_114), .val (.int ex_119), .val (.ref b120), .unset, .unset, .unset] [(.ref b_114), w_154, (.ref q_153), w_152, w_151, (.ref b_114), (.ref b150), (.ref b150)]))
                            refine go _ _ (fun _ k => XS.goto X154.here hx rfl (pc0 := 286) (pc' := 290) rfl (hb hby at_286) (by decide) (by decide) k) ?_
                            show G (T154.setTop (mkF m 290 #[.val (.int p0), .val (.int p1), .val (.int p2), .val (.int p3), .val (.int p4), .val (.int (p2 &&& (3 : Int32))), .val (.int z_101), .val (.int y_102), .val (.ref b_104), .val (.ref b_114), .val (.int ex_119), .val (.ref b120), .unset, .unset, .unset] [(.ref b_114), w_154, (.ref q_153), w_152, w_151, (.ref b_114), (.ref b150), (.ref b150)]))
                            exact J155 _ _ (X154.more (by decide) (by decide)) e154 N154 (.ref b_114) rfl
                        by_cases hc267_267 : (p3 &&& (256 : Int32)) = (0 : Int32)
                        · refine go _ _ (fun _ k => XS.ifYes X153.here hx rfl (pc0 := 267) (pc' := 275) rfl (hb hby at_267) rfl ((if0 _ _).trans (teq hc267_267).1) (by decide) (by decide) k) ?_
                          show G (T153.setTop (mkF m 275 #[.val (.int p0), .val (.int p1), .val (.int p2), .val (.int p3), .val (.int p4), .val (.int (p2 &&& (3 : Int32))), .val (.int z_101), .val (.int y_102), .val (.ref b_104), .val (.ref b_114), .val (.int ex_119), .val (.ref b120), .unset, .unset, .unset] [(.ref q_153), w_152, w_151, (.ref b_114), (.ref b150), (.ref b150)]))
                          refine go _ _ (fun _ k => XS.aconstNull X153.here hx rfl (hb hby at_275) k) ?_
                          show G (T153.setTop (mkF m 276 #[.val (.int p0), .val (.int p1), .val (.int p2), .val (.int p3), .val (.int p4), .val (.int (p2 &&& (3 : Int32))), .val (.int z_101), .val (.int y_102), .val (.ref b_104), .val (.ref b_114), .val (.int ex_119), .val (.ref b120), .unset, .unset, .unset] [.null, (.ref q_153), w_152, w_151, (.ref b_114), (.ref b150), (.ref b150)]))
                          exact J154 _ _ (X153.more (by decide) (by decide)) e153 N153 .null rfl
                        · refine go _ _ (fun _ k => XS.ifNo X153.here hx rfl (hb hby at_267) rfl ((if0 _ _).trans (feq hc267_267).1) k) ?_
                          show G (T153.setTop (mkF m 270 #[.val (.int p0), .val (.int p1), .val (.int p2), .val (.int p3), .val (.int p4), .val (.int (p2 &&& (3 : Int32))), .val (.int z_101), .val (.int y_102), .val (.ref b_104), .val (.ref b_114), .val (.int ex_119), .val (.ref b120), .unset, .unset, .unset] [(.ref q_153), w_152, w_151, (.ref b_114), (.ref b150), (.ref b150)]))
                          refine go _ _ (fun _ k => XS.aload X153.here hx rfl (hb hby at_270) rfl rfl k) ?_
                          show G (T153.setTop (mkF m 272 #[.val (.int p0), .val (.int p1), .val (.int p2), .val (.int p3), .val (.int p4), .val (.int (p2 &&& (3 : Int32))), .val (.int z_101), .val (.int y_102), .val (.ref b_104), .val (.ref b_114), .val (.int ex_119), .val (.ref b120), .unset, .unset, .unset] [(.ref b_104), (.ref q_153), w_152, w_151, (.ref b_114), (.ref b150), (.ref b150)]))
                          refine go _ _ (fun _ k => XS.goto X153.here hx rfl (pc0 := 272) (pc' := 276) rfl (hb hby at_272) (by decide) (by decide) k) ?_
                          show G (T153.setTop (mkF m 276 #[.val (.int p0), .val (.int p1), .val (.int p2), .val (.int p3), .val (.int p4), .val (.int (p2 &&& (3 : Int32))), .val (.int z_101), .val (.int y_102), .val (.ref b_104), .val (.ref b_114), .val (.int ex_119), .val (.ref b120), .unset, .unset, .unset] [(.ref b_104), (.ref q_153), w_152, w_151, (.ref b_114), (.ref b150), (.ref b150)]))
                          exact J154 _ _ (X153.more (by decide) (by decide)) e153 N153 (.ref b_104) rfl
                      by_cases hc252_268 : (p3 &&& (128 : Int32)) = (0 : Int32)
                      · refine go _ _ (fun _ k => XS.ifYes X152.here hx rfl (pc0 := 252) (pc' := 260) rfl (hb hby at_252) rfl ((if0 _ _).trans (teq hc252_268).1) (by decide) (by decide) k) ?_
                        show G (T152.setTop (mkF m 260 #[.val (.int p0), .val (.int p1), .val (.int p2), .val (.int p3), .val (.int p4), .val (.int (p2 &&& (3 : Int32))), .val (.int z_101), .val (.int y_102), .val (.ref b_104), .val (.ref b_114), .val (.int ex_119), .val (.ref b120), .unset, .unset, .unset] [w_152, w_151, (.ref b_114), (.ref b150), (.ref b150)]))
                        have C270 : CHr Z own_EL s.vm h0 T126.vm T126.heap := Cc123.trans C126
                        have K271 : Keep T126.heap h150 [] := (Keep.refl T126.heap []).ext E150
                        have C272 : CHr Z own_EL s.vm h0 T126.vm h150 := C270.trans (CHr.keep K271 sf0 C270.1)
                        have Z273 : T126.heap.size ≤ h150.size := E150.1
                        obtain ⟨b269, T269, h269, k269, t269, kb269, X269, e269, E269, hS269, hk269, hZ269, hown269, A269, Fc269, Fv269, V269, -, -, C269, -, -, st269⟩ := ldcCH X152 hx hZ126 hown126 (ow hw 37 rfl) (own_sat hw) e152 hS126 (Nat.le_trans (Nat.le_refl _) Z273) (own_hEL hw) (List.mem_of_getElem? (i := 0) rfl) C272.1 (vs := []) (z := (0 : Int32)) (by decide) (by decide) (by decide) (g := (mkF m 260 #[.val (.int p0), .val (.int p1), .val (.int p2), .val (.int p3), .val (.int p4), .val (.int (p2 &&& (3 : Int32))), .val (.int z_101), .val (.int y_102), .val (.ref b_104), .val (.ref b_114), .val (.int ex_119), .val (.ref b120), .unset, .unset, .unset] [w_152, w_151, (.ref b_114), (.ref b150), (.ref b150)])) rfl (hb hby at_260) (n := 0) (by decide) (by decide) (by decide) (by decide)
                        have Sx269 : own_Str Z h269 b269 ([] : List Int32) := ⟨t269, kb269, A269, Fv269, Fc269, V269, (by decide), (by decide)⟩
                        have Lx269 : own_Ln Z h269 b269 (0 : Int32) := own_Ln_of Sx269 (by decide)
                        refine go _ _ (st269) ?_
                        show G (T269.setTop (mkF m 262 #[.val (.int p0), .val (.int p1), .val (.int p2), .val (.int p3), .val (.int p4), .val (.int (p2 &&& (3 : Int32))), .val (.int z_101), .val (.int y_102), .val (.ref b_104), .val (.ref b_114), .val (.int ex_119), .val (.ref b120), .unset, .unset, .unset] [(.ref b269), w_152, w_151, (.ref b_114), (.ref b150), (.ref b150)]))
                        have K274 : Keep h150 h269 [] := (Keep.refl h150 []).ext E269
                        have C275 : CHr Z own_EL s.vm h0 T269.vm h269 := C272.trans C269
                        exact J153 _ _ _ _ _ (X269.more (by decide) (by decide)) e269 N152 K274 hZ269 hown269 hS269 hk269 C275 b269 A269
                      · refine go _ _ (fun _ k => XS.ifNo X152.here hx rfl (hb hby at_252) rfl ((if0 _ _).trans (feq hc252_268).1) k) ?_
                        show G (T152.setTop (mkF m 255 #[.val (.int p0), .val (.int p1), .val (.int p2), .val (.int p3), .val (.int p4), .val (.int (p2 &&& (3 : Int32))), .val (.int z_101), .val (.int y_102), .val (.ref b_104), .val (.ref b_114), .val (.int ex_119), .val (.ref b120), .unset, .unset, .unset] [w_152, w_151, (.ref b_114), (.ref b150), (.ref b150)]))
                        refine go _ _ (fun _ k => XS.aload X152.here hx rfl (hb hby at_255) rfl rfl k) ?_
                        show G (T152.setTop (mkF m 257 #[.val (.int p0), .val (.int p1), .val (.int p2), .val (.int p3), .val (.int p4), .val (.int (p2 &&& (3 : Int32))), .val (.int z_101), .val (.int y_102), .val (.ref b_104), .val (.ref b_114), .val (.int ex_119), .val (.ref b120), .unset, .unset, .unset] [(.ref b_114), w_152, w_151, (.ref b_114), (.ref b150), (.ref b150)]))
                        refine go _ _ (fun _ k => XS.goto X152.here hx rfl (pc0 := 257) (pc' := 262) rfl (hb hby at_257) (by decide) (by decide) k) ?_
                        show G (T152.setTop (mkF m 262 #[.val (.int p0), .val (.int p1), .val (.int p2), .val (.int p3), .val (.int p4), .val (.int (p2 &&& (3 : Int32))), .val (.int z_101), .val (.int y_102), .val (.ref b_104), .val (.ref b_114), .val (.int ex_119), .val (.ref b120), .unset, .unset, .unset] [(.ref b_114), w_152, w_151, (.ref b_114), (.ref b150), (.ref b150)]))
                        have K276 : Keep T109.heap T126.heap [] := K143.trans Kp126 (allS (Or.inr (Nat.le_of_eq g120.symm)) all0)
                        have K277 : Keep T109.heap h150 [] := K276.ext E150
                        have F278 : Exa Z h150 b_114 "java/lang/String" := (f116.keep K277)
                        have Z279 : T126.heap.size ≤ h150.size := E150.1
                        have C280 : CHr Z own_EL s.vm h0 T126.vm T126.heap := Cc123.trans C126
                        have K281 : Keep T126.heap h150 [] := (Keep.refl T126.heap []).ext E150
                        have C282 : CHr Z own_EL s.vm h0 T126.vm h150 := C280.trans (CHr.keep K281 sf0 C280.1)
                        exact J153 _ _ _ _ _ (X152.more (by decide) (by decide)) e152 N152 (Keep.refl h150 []) hZ126 hown126 hS126 (Nat.le_trans (Nat.le_refl _) Z279) C282 b_114 F278
                    by_cases hc238_283 : (p3 &&& (64 : Int32)) = (0 : Int32)
                    · refine go _ _ (fun _ k => XS.ifYes X151.here hx rfl (pc0 := 238) (pc' := 246) rfl (hb hby at_238) rfl ((if0 _ _).trans (teq hc238_283).1) (by decide) (by decide) k) ?_
                      show G (T151.setTop (mkF m 246 #[.val (.int p0), .val (.int p1), .val (.int p2), .val (.int p3), .val (.int p4), .val (.int (p2 &&& (3 : Int32))), .val (.int z_101), .val (.int y_102), .val (.ref b_104), .val (.ref b_114), .val (.int ex_119), .val (.ref b120), .unset, .unset, .unset] [w_151, (.ref b_114), (.ref b150), (.ref b150)]))
                      refine go _ _ (fun _ k => XS.aconstNull X151.here hx rfl (hb hby at_246) k) ?_
                      show G (T151.setTop (mkF m 247 #[.val (.int p0), .val (.int p1), .val (.int p2), .val (.int p3), .val (.int p4), .val (.int (p2 &&& (3 : Int32))), .val (.int z_101), .val (.int y_102), .val (.ref b_104), .val (.ref b_114), .val (.int ex_119), .val (.ref b120), .unset, .unset, .unset] [.null, w_151, (.ref b_114), (.ref b150), (.ref b150)]))
                      exact J152 _ _ (X151.more (by decide) (by decide)) e151 N151 .null rfl (Or.inl rfl)
                    · refine go _ _ (fun _ k => XS.ifNo X151.here hx rfl (hb hby at_238) rfl ((if0 _ _).trans (feq hc238_283).1) k) ?_
                      show G (T151.setTop (mkF m 241 #[.val (.int p0), .val (.int p1), .val (.int p2), .val (.int p3), .val (.int p4), .val (.int (p2 &&& (3 : Int32))), .val (.int z_101), .val (.int y_102), .val (.ref b_104), .val (.ref b_114), .val (.int ex_119), .val (.ref b120), .unset, .unset, .unset] [w_151, (.ref b_114), (.ref b150), (.ref b150)]))
                      refine go _ _ (fun _ k => XS.aload X151.here hx rfl (hb hby at_241) rfl rfl k) ?_
                      show G (T151.setTop (mkF m 243 #[.val (.int p0), .val (.int p1), .val (.int p2), .val (.int p3), .val (.int p4), .val (.int (p2 &&& (3 : Int32))), .val (.int z_101), .val (.int y_102), .val (.ref b_104), .val (.ref b_114), .val (.int ex_119), .val (.ref b120), .unset, .unset, .unset] [(.ref b_104), w_151, (.ref b_114), (.ref b150), (.ref b150)]))
                      refine go _ _ (fun _ k => XS.goto X151.here hx rfl (pc0 := 243) (pc' := 247) rfl (hb hby at_243) (by decide) (by decide) k) ?_
                      show G (T151.setTop (mkF m 247 #[.val (.int p0), .val (.int p1), .val (.int p2), .val (.int p3), .val (.int p4), .val (.int (p2 &&& (3 : Int32))), .val (.int z_101), .val (.int y_102), .val (.ref b_104), .val (.ref b_114), .val (.int ex_119), .val (.ref b120), .unset, .unset, .unset] [(.ref b_104), w_151, (.ref b_114), (.ref b150), (.ref b150)]))
                      exact J152 _ _ (X151.more (by decide) (by decide)) e151 N151 (.ref b_104) rfl (Or.inr rfl)
                  by_cases hc225_284 : (p3 &&& (32 : Int32)) = (0 : Int32)
                  · refine go _ _ (fun _ k => XS.ifYes X150.here hx rfl (pc0 := 225) (pc' := 233) rfl (hb hby at_225) rfl ((if0 _ _).trans (teq hc225_284).1) (by decide) (by decide) k) ?_
                    show G (T150.setTop (mkF m 233 #[.val (.int p0), .val (.int p1), .val (.int p2), .val (.int p3), .val (.int p4), .val (.int (p2 &&& (3 : Int32))), .val (.int z_101), .val (.int y_102), .val (.ref b_104), .val (.ref b_114), .val (.int ex_119), .val (.ref b120), .unset, .unset, .unset] [(.ref b_114), (.ref b150), (.ref b150)]))
                    refine go _ _ (fun _ k => XS.aconstNull X150.here hx rfl (hb hby at_233) k) ?_
                    show G (T150.setTop (mkF m 234 #[.val (.int p0), .val (.int p1), .val (.int p2), .val (.int p3), .val (.int p4), .val (.int (p2 &&& (3 : Int32))), .val (.int z_101), .val (.int y_102), .val (.ref b_104), .val (.ref b_114), .val (.int ex_119), .val (.ref b120), .unset, .unset, .unset] [.null, (.ref b_114), (.ref b150), (.ref b150)]))
                    exact J151 _ _ (X150.more (by decide) (by decide)) e150 N126 .null rfl
                  · refine go _ _ (fun _ k => XS.ifNo X150.here hx rfl (hb hby at_225) rfl ((if0 _ _).trans (feq hc225_284).1) k) ?_
                    show G (T150.setTop (mkF m 228 #[.val (.int p0), .val (.int p1), .val (.int p2), .val (.int p3), .val (.int p4), .val (.int (p2 &&& (3 : Int32))), .val (.int z_101), .val (.int y_102), .val (.ref b_104), .val (.ref b_114), .val (.int ex_119), .val (.ref b120), .unset, .unset, .unset] [(.ref b_114), (.ref b150), (.ref b150)]))
                    refine go _ _ (fun _ k => XS.aload X150.here hx rfl (hb hby at_228) rfl rfl k) ?_
                    show G (T150.setTop (mkF m 230 #[.val (.int p0), .val (.int p1), .val (.int p2), .val (.int p3), .val (.int p4), .val (.int (p2 &&& (3 : Int32))), .val (.int z_101), .val (.int y_102), .val (.ref b_104), .val (.ref b_114), .val (.int ex_119), .val (.ref b120), .unset, .unset, .unset] [(.ref b_114), (.ref b_114), (.ref b150), (.ref b150)]))
                    refine go _ _ (fun _ k => XS.goto X150.here hx rfl (pc0 := 230) (pc' := 234) rfl (hb hby at_230) (by decide) (by decide) k) ?_
                    show G (T150.setTop (mkF m 234 #[.val (.int p0), .val (.int p1), .val (.int p2), .val (.int p3), .val (.int p4), .val (.int (p2 &&& (3 : Int32))), .val (.int z_101), .val (.int y_102), .val (.ref b_104), .val (.ref b_114), .val (.int ex_119), .val (.ref b120), .unset, .unset, .unset] [(.ref b_114), (.ref b_114), (.ref b150), (.ref b150)]))
                    exact J151 _ _ (X150.more (by decide) (by decide)) e150 N126 (.ref b_114) rfl
                by_cases hc201_285 : (p3 &&& (16 : Int32)) = (0 : Int32)
                · refine go _ _ (fun _ k => XS.ifYes X124.here hx rfl (pc0 := 201) (pc' := 209) rfl (hb hby at_201) rfl ((if0 _ _).trans (teq hc201_285).1) (by decide) (by decide) k) ?_
                  show G (T124.setTop (mkF m 209 #[.val (.int p0), .val (.int p1), .val (.int p2), .val (.int p3), .val (.int p4), .val (.int (p2 &&& (3 : Int32))), .val (.int z_101), .val (.int y_102), .val (.ref b_104), .val (.ref b_114), .val (.int ex_119), .unset, .unset, .unset, .unset] [w_124, (.ref q_123), w_122, w_121, (.ref b_104), (.ref b120), (.ref b120)]))
                  refine go _ _ (fun _ k => XS.aconstNull X124.here hx rfl (hb hby at_209) k) ?_
                  show G (T124.setTop (mkF m 210 #[.val (.int p0), .val (.int p1), .val (.int p2), .val (.int p3), .val (.int p4), .val (.int (p2 &&& (3 : Int32))), .val (.int z_101), .val (.int y_102), .val (.ref b_104), .val (.ref b_114), .val (.int ex_119), .unset, .unset, .unset, .unset] [.null, w_124, (.ref q_123), w_122, w_121, (.ref b_104), (.ref b120), (.ref b120)]))
                  exact J125 _ _ (X124.more (by decide) (by decide)) e124 N124 .null rfl
                · refine go _ _ (fun _ k => XS.ifNo X124.here hx rfl (hb hby at_201) rfl ((if0 _ _).trans (feq hc201_285).1) k) ?_
                  show G (T124.setTop (mkF m 204 #[.val (.int p0), .val (.int p1), .val (.int p2), .val (.int p3), .val (.int p4), .val (.int (p2 &&& (3 : Int32))), .val (.int z_101), .val (.int y_102), .val (.ref b_104), .val (.ref b_114), .val (.int ex_119), .unset, .unset, .unset, .unset] [w_124, (.ref q_123), w_122, w_121, (.ref b_104), (.ref b120), (.ref b120)]))
                  refine go _ _ (fun _ k => XS.aload X124.here hx rfl (hb hby at_204) rfl rfl k) ?_
                  show G (T124.setTop (mkF m 206 #[.val (.int p0), .val (.int p1), .val (.int p2), .val (.int p3), .val (.int p4), .val (.int (p2 &&& (3 : Int32))), .val (.int z_101), .val (.int y_102), .val (.ref b_104), .val (.ref b_114), .val (.int ex_119), .unset, .unset, .unset, .unset] [(.ref b_104), w_124, (.ref q_123), w_122, w_121, (.ref b_104), (.ref b120), (.ref b120)]))
                  refine go _ _ (fun _ k => XS.goto X124.here hx rfl (pc0 := 206) (pc' := 210) rfl (hb hby at_206) (by decide) (by decide) k) ?_
                  show G (T124.setTop (mkF m 210 #[.val (.int p0), .val (.int p1), .val (.int p2), .val (.int p3), .val (.int p4), .val (.int (p2 &&& (3 : Int32))), .val (.int z_101), .val (.int y_102), .val (.ref b_104), .val (.ref b_114), .val (.int ex_119), .unset, .unset, .unset, .unset] [(.ref b_104), w_124, (.ref q_123), w_122, w_121, (.ref b_104), (.ref b120), (.ref b120)]))
                  exact J125 _ _ (X124.more (by decide) (by decide)) e124 N124 (.ref b_104) rfl
              by_cases hc188_286 : (p3 &&& (8 : Int32)) = (0 : Int32)
              · refine go _ _ (fun _ k => XS.ifYes X123.here hx rfl (pc0 := 188) (pc' := 196) rfl (hb hby at_188) rfl ((if0 _ _).trans (teq hc188_286).1) (by decide) (by decide) k) ?_
                show G (T123.setTop (mkF m 196 #[.val (.int p0), .val (.int p1), .val (.int p2), .val (.int p3), .val (.int p4), .val (.int (p2 &&& (3 : Int32))), .val (.int z_101), .val (.int y_102), .val (.ref b_104), .val (.ref b_114), .val (.int ex_119), .unset, .unset, .unset, .unset] [(.ref q_123), w_122, w_121, (.ref b_104), (.ref b120), (.ref b120)]))
                refine go _ _ (fun _ k => XS.aconstNull X123.here hx rfl (hb hby at_196) k) ?_
                show G (T123.setTop (mkF m 197 #[.val (.int p0), .val (.int p1), .val (.int p2), .val (.int p3), .val (.int p4), .val (.int (p2 &&& (3 : Int32))), .val (.int z_101), .val (.int y_102), .val (.ref b_104), .val (.ref b_114), .val (.int ex_119), .unset, .unset, .unset, .unset] [.null, (.ref q_123), w_122, w_121, (.ref b_104), (.ref b120), (.ref b120)]))
                exact J124 _ _ (X123.more (by decide) (by decide)) e123 N123 .null rfl
              · refine go _ _ (fun _ k => XS.ifNo X123.here hx rfl (hb hby at_188) rfl ((if0 _ _).trans (feq hc188_286).1) k) ?_
                show G (T123.setTop (mkF m 191 #[.val (.int p0), .val (.int p1), .val (.int p2), .val (.int p3), .val (.int p4), .val (.int (p2 &&& (3 : Int32))), .val (.int z_101), .val (.int y_102), .val (.ref b_104), .val (.ref b_114), .val (.int ex_119), .unset, .unset, .unset, .unset] [(.ref q_123), w_122, w_121, (.ref b_104), (.ref b120), (.ref b120)]))
                refine go _ _ (fun _ k => XS.aload X123.here hx rfl (hb hby at_191) rfl rfl k) ?_
                show G (T123.setTop (mkF m 193 #[.val (.int p0), .val (.int p1), .val (.int p2), .val (.int p3), .val (.int p4), .val (.int (p2 &&& (3 : Int32))), .val (.int z_101), .val (.int y_102), .val (.ref b_104), .val (.ref b_114), .val (.int ex_119), .unset, .unset, .unset, .unset] [(.ref b_114), (.ref q_123), w_122, w_121, (.ref b_104), (.ref b120), (.ref b120)]))
                refine go _ _ (fun _ k => XS.goto X123.here hx rfl (pc0 := 193) (pc' := 197) rfl (hb hby at_193) (by decide) (by decide) k) ?_
                show G (T123.setTop (mkF m 197 #[.val (.int p0), .val (.int p1), .val (.int p2), .val (.int p3), .val (.int p4), .val (.int (p2 &&& (3 : Int32))), .val (.int z_101), .val (.int y_102), .val (.ref b_104), .val (.ref b_114), .val (.int ex_119), .unset, .unset, .unset, .unset] [(.ref b_114), (.ref q_123), w_122, w_121, (.ref b_104), (.ref b120), (.ref b120)]))
                exact J124 _ _ (X123.more (by decide) (by decide)) e123 N123 (.ref b_114) rfl
            by_cases hc174_287 : (p3 &&& (4 : Int32)) = (0 : Int32)
            · refine go _ _ (fun _ k => XS.ifYes X122.here hx rfl (pc0 := 174) (pc' := 182) rfl (hb hby at_174) rfl ((if0 _ _).trans (teq hc174_287).1) (by decide) (by decide) k) ?_
              show G (T122.setTop (mkF m 182 #[.val (.int p0), .val (.int p1), .val (.int p2), .val (.int p3), .val (.int p4), .val (.int (p2 &&& (3 : Int32))), .val (.int z_101), .val (.int y_102), .val (.ref b_104), .val (.ref b_114), .val (.int ex_119), .unset, .unset, .unset, .unset] [w_122, w_121, (.ref b_104), (.ref b120), (.ref b120)]))
              have C289 : CHr Z own_EL s.vm h0 T109.vm T109.heap := C113.trans C109
              have K290 : Keep T109.heap h120 [] := (Keep.refl T109.heap []).ext E120
              have C291 : CHr Z own_EL s.vm h0 T109.vm h120 := C289.trans (CHr.keep K290 sf0 C289.1)
              have Z292 : T109.heap.size ≤ h120.size := E120.1
              obtain ⟨b288, T288, h288, k288, t288, kb288, X288, e288, E288, hS288, hk288, hZ288, hown288, A288, Fc288, Fv288, V288, -, -, C288, -, -, st288⟩ := ldcCH X122 hx hZ109 hown109 (ow hw 37 rfl) (own_sat hw) e122 hS109 (Nat.le_trans (Nat.le_refl _) Z292) (own_hEL hw) (List.mem_of_getElem? (i := 0) rfl) C291.1 (vs := []) (z := (0 : Int32)) (by decide) (by decide) (by decide) (g := (mkF m 182 #[.val (.int p0), .val (.int p1), .val (.int p2), .val (.int p3), .val (.int p4), .val (.int (p2 &&& (3 : Int32))), .val (.int z_101), .val (.int y_102), .val (.ref b_104), .val (.ref b_114), .val (.int ex_119), .unset, .unset, .unset, .unset] [w_122, w_121, (.ref b_104), (.ref b120), (.ref b120)])) rfl (hb hby at_182) (n := 0) (by decide) (by decide) (by decide) (by decide)
              have Sx288 : own_Str Z h288 b288 ([] : List Int32) := ⟨t288, kb288, A288, Fv288, Fc288, V288, (by decide), (by decide)⟩
              have Lx288 : own_Ln Z h288 b288 (0 : Int32) := own_Ln_of Sx288 (by decide)
              refine go _ _ (st288) ?_
              show G (T288.setTop (mkF m 184 #[.val (.int p0), .val (.int p1), .val (.int p2), .val (.int p3), .val (.int p4), .val (.int (p2 &&& (3 : Int32))), .val (.int z_101), .val (.int y_102), .val (.ref b_104), .val (.ref b_114), .val (.int ex_119), .unset, .unset, .unset, .unset] [(.ref b288), w_122, w_121, (.ref b_104), (.ref b120), (.ref b120)]))
              have K293 : Keep h120 h288 [] := (Keep.refl h120 []).ext E288
              have C294 : CHr Z own_EL s.vm h0 T288.vm h288 := C291.trans C288
              exact J123 _ _ _ _ _ (X288.more (by decide) (by decide)) e288 N122 K293 hZ288 hown288 hS288 hk288 C294 b288 A288
            · refine go _ _ (fun _ k => XS.ifNo X122.here hx rfl (hb hby at_174) rfl ((if0 _ _).trans (feq hc174_287).1) k) ?_
              show G (T122.setTop (mkF m 177 #[.val (.int p0), .val (.int p1), .val (.int p2), .val (.int p3), .val (.int p4), .val (.int (p2 &&& (3 : Int32))), .val (.int z_101), .val (.int y_102), .val (.ref b_104), .val (.ref b_114), .val (.int ex_119), .unset, .unset, .unset, .unset] [w_122, w_121, (.ref b_104), (.ref b120), (.ref b120)]))
              refine go _ _ (fun _ k => XS.aload X122.here hx rfl (hb hby at_177) rfl rfl k) ?_
              show G (T122.setTop (mkF m 179 #[.val (.int p0), .val (.int p1), .val (.int p2), .val (.int p3), .val (.int p4), .val (.int (p2 &&& (3 : Int32))), .val (.int z_101), .val (.int y_102), .val (.ref b_104), .val (.ref b_114), .val (.int ex_119), .unset, .unset, .unset, .unset] [(.ref b_104), w_122, w_121, (.ref b_104), (.ref b120), (.ref b120)]))
              refine go _ _ (fun _ k => XS.goto X122.here hx rfl (pc0 := 179) (pc' := 184) rfl (hb hby at_179) (by decide) (by decide) k) ?_
              show G (T122.setTop (mkF m 184 #[.val (.int p0), .val (.int p1), .val (.int p2), .val (.int p3), .val (.int p4), .val (.int (p2 &&& (3 : Int32))), .val (.int z_101), .val (.int y_102), .val (.ref b_104), .val (.ref b_114), .val (.int ex_119), .unset, .unset, .unset, .unset] [(.ref b_104), w_122, w_121, (.ref b_104), (.ref b120), (.ref b120)]))
              have K295 : Keep T103.heap T109.heap [] := (Keep.refl T103.heap []).trans Kp109 all0
              have K296 : Keep T103.heap h120 [] := K295.ext E120
              have F297 : Exa Z h120 b_104 "java/lang/String" := (f106.keep K296)
              have Z298 : T109.heap.size ≤ h120.size := E120.1
              have C299 : CHr Z own_EL s.vm h0 T109.vm T109.heap := C113.trans C109
              have K300 : Keep T109.heap h120 [] := (Keep.refl T109.heap []).ext E120
              have C301 : CHr Z own_EL s.vm h0 T109.vm h120 := C299.trans (CHr.keep K300 sf0 C299.1)
              exact J123 _ _ _ _ _ (X122.more (by decide) (by decide)) e122 N122 (Keep.refl h120 []) hZ109 hown109 hS109 (Nat.le_trans (Nat.le_refl _) Z298) C301 b_104 F297
          by_cases hc162_302 : (p3 &&& (2 : Int32)) = (0 : Int32)
          · refine go _ _ (fun _ k => XS.ifYes X121.here hx rfl (pc0 := 162) (pc' := 170) rfl (hb hby at_162) rfl ((if0 _ _).trans (teq hc162_302).1) (by decide) (by decide) k) ?_
            show G (T121.setTop (mkF m 170 #[.val (.int p0), .val (.int p1), .val (.int p2), .val (.int p3), .val (.int p4), .val (.int (p2 &&& (3 : Int32))), .val (.int z_101), .val (.int y_102), .val (.ref b_104), .val (.ref b_114), .val (.int ex_119), .unset, .unset, .unset, .unset] [w_121, (.ref b_104), (.ref b120), (.ref b120)]))
            refine go _ _ (fun _ k => XS.aconstNull X121.here hx rfl (hb hby at_170) k) ?_
            show G (T121.setTop (mkF m 171 #[.val (.int p0), .val (.int p1), .val (.int p2), .val (.int p3), .val (.int p4), .val (.int (p2 &&& (3 : Int32))), .val (.int z_101), .val (.int y_102), .val (.ref b_104), .val (.ref b_114), .val (.int ex_119), .unset, .unset, .unset, .unset] [.null, w_121, (.ref b_104), (.ref b120), (.ref b120)]))
            exact J122 _ _ (X121.more (by decide) (by decide)) e121 N121 .null rfl (Or.inl rfl)
          · refine go _ _ (fun _ k => XS.ifNo X121.here hx rfl (hb hby at_162) rfl ((if0 _ _).trans (feq hc162_302).1) k) ?_
            show G (T121.setTop (mkF m 165 #[.val (.int p0), .val (.int p1), .val (.int p2), .val (.int p3), .val (.int p4), .val (.int (p2 &&& (3 : Int32))), .val (.int z_101), .val (.int y_102), .val (.ref b_104), .val (.ref b_114), .val (.int ex_119), .unset, .unset, .unset, .unset] [w_121, (.ref b_104), (.ref b120), (.ref b120)]))
            refine go _ _ (fun _ k => XS.aload X121.here hx rfl (hb hby at_165) rfl rfl k) ?_
            show G (T121.setTop (mkF m 167 #[.val (.int p0), .val (.int p1), .val (.int p2), .val (.int p3), .val (.int p4), .val (.int (p2 &&& (3 : Int32))), .val (.int z_101), .val (.int y_102), .val (.ref b_104), .val (.ref b_114), .val (.int ex_119), .unset, .unset, .unset, .unset] [(.ref b_114), w_121, (.ref b_104), (.ref b120), (.ref b120)]))
            refine go _ _ (fun _ k => XS.goto X121.here hx rfl (pc0 := 167) (pc' := 171) rfl (hb hby at_167) (by decide) (by decide) k) ?_
            show G (T121.setTop (mkF m 171 #[.val (.int p0), .val (.int p1), .val (.int p2), .val (.int p3), .val (.int p4), .val (.int (p2 &&& (3 : Int32))), .val (.int z_101), .val (.int y_102), .val (.ref b_104), .val (.ref b_114), .val (.int ex_119), .unset, .unset, .unset, .unset] [(.ref b_114), w_121, (.ref b_104), (.ref b120), (.ref b120)]))
            exact J122 _ _ (X121.more (by decide) (by decide)) e121 N121 (.ref b_114) rfl (Or.inr rfl)
        by_cases hc150_303 : (p3 &&& (1 : Int32)) = (0 : Int32)
        · refine go _ _ (fun _ k => XS.ifYes X120.here hx rfl (pc0 := 150) (pc' := 158) rfl (hb hby at_150) rfl ((if0 _ _).trans (teq hc150_303).1) (by decide) (by decide) k) ?_
          show G (T120.setTop (mkF m 158 #[.val (.int p0), .val (.int p1), .val (.int p2), .val (.int p3), .val (.int p4), .val (.int (p2 &&& (3 : Int32))), .val (.int z_101), .val (.int y_102), .val (.ref b_104), .val (.ref b_114), .val (.int ex_119), .unset, .unset, .unset, .unset] [(.ref b_104), (.ref b120), (.ref b120)]))
          refine go _ _ (fun _ k => XS.aconstNull X120.here hx rfl (hb hby at_158) k) ?_
          show G (T120.setTop (mkF m 159 #[.val (.int p0), .val (.int p1), .val (.int p2), .val (.int p3), .val (.int p4), .val (.int (p2 &&& (3 : Int32))), .val (.int z_101), .val (.int y_102), .val (.ref b_104), .val (.ref b_114), .val (.int ex_119), .unset, .unset, .unset, .unset] [.null, (.ref b_104), (.ref b120), (.ref b120)]))
          exact J121 _ _ (X120.more (by decide) (by decide)) e120 N119 .null rfl
        · refine go _ _ (fun _ k => XS.ifNo X120.here hx rfl (hb hby at_150) rfl ((if0 _ _).trans (feq hc150_303).1) k) ?_
          show G (T120.setTop (mkF m 153 #[.val (.int p0), .val (.int p1), .val (.int p2), .val (.int p3), .val (.int p4), .val (.int (p2 &&& (3 : Int32))), .val (.int z_101), .val (.int y_102), .val (.ref b_104), .val (.ref b_114), .val (.int ex_119), .unset, .unset, .unset, .unset] [(.ref b_104), (.ref b120), (.ref b120)]))
          refine go _ _ (fun _ k => XS.aload X120.here hx rfl (hb hby at_153) rfl rfl k) ?_
          show G (T120.setTop (mkF m 155 #[.val (.int p0), .val (.int p1), .val (.int p2), .val (.int p3), .val (.int p4), .val (.int (p2 &&& (3 : Int32))), .val (.int z_101), .val (.int y_102), .val (.ref b_104), .val (.ref b_114), .val (.int ex_119), .unset, .unset, .unset, .unset] [(.ref b_104), (.ref b_104), (.ref b120), (.ref b120)]))
          refine go _ _ (fun _ k => XS.goto X120.here hx rfl (pc0 := 155) (pc' := 159) rfl (hb hby at_155) (by decide) (by decide) k) ?_
          show G (T120.setTop (mkF m 159 #[.val (.int p0), .val (.int p1), .val (.int p2), .val (.int p3), .val (.int p4), .val (.int (p2 &&& (3 : Int32))), .val (.int z_101), .val (.int y_102), .val (.ref b_104), .val (.ref b_114), .val (.int ex_119), .unset, .unset, .unset, .unset] [(.ref b_104), (.ref b_104), (.ref b120), (.ref b120)]))
          exact J121 _ _ (X120.more (by decide) (by decide)) e120 N119 (.ref b_104) rfl
      by_cases hc59_304 : (p2 &&& (3 : Int32)) = z_101
      · refine go _ _ (fun _ k => XS.icmpNo X109.here hx rfl (hb hby at_59) rfl (teq hc59_304).2 k) ?_
        show G (T109.setTop (mkF m 62 #[.val (.int p0), .val (.int p1), .val (.int p2), .val (.int p3), .val (.int p4), .val (.int (p2 &&& (3 : Int32))), .val (.int z_101), .val (.int y_102), .val (.ref b_104), .val (.ref b_114), .unset, .unset, .unset, .unset, .unset] []))
        refine go _ _ (fun _ k => XS.iload X109.here hx rfl (hb hby at_62) rfl (XS.iconst X109.here hx rfl (hb hby at_64) k)) ?_
        show G (T109.setTop (mkF m 65 #[.val (.int p0), .val (.int p1), .val (.int p2), .val (.int p3), .val (.int p4), .val (.int (p2 &&& (3 : Int32))), .val (.int z_101), .val (.int y_102), .val (.ref b_104), .val (.ref b_114), .unset, .unset, .unset, .unset, .unset] [(.int (1 : Int32)), (.int (p2 &&& (3 : Int32)))]))
        by_cases hc65_305 : (p2 &&& (3 : Int32)) < (1 : Int32)
        · refine go _ _ (fun _ k => XS.icmpYes X109.here hx rfl (pc0 := 65) (pc' := 82) rfl (hb hby at_65) rfl (tlt hc65_305).1 (by decide) (by decide) k) ?_
          show G (T109.setTop (mkF m 82 #[.val (.int p0), .val (.int p1), .val (.int p2), .val (.int p3), .val (.int p4), .val (.int (p2 &&& (3 : Int32))), .val (.int z_101), .val (.int y_102), .val (.ref b_104), .val (.ref b_114), .unset, .unset, .unset, .unset, .unset] []))
          refine go _ _ (fun _ k => XS.iload X109.here hx rfl (hb hby at_82) rfl (XS.iconst X109.here hx rfl (hb hby at_84) k)) ?_
          show G (T109.setTop (mkF m 85 #[.val (.int p0), .val (.int p1), .val (.int p2), .val (.int p3), .val (.int p4), .val (.int (p2 &&& (3 : Int32))), .val (.int z_101), .val (.int y_102), .val (.ref b_104), .val (.ref b_114), .unset, .unset, .unset, .unset, .unset] [(.int (2 : Int32)), (.int (p2 &&& (3 : Int32)))]))
          by_cases hc85_306 : (p2 &&& (3 : Int32)) < (2 : Int32)
          · refine go _ _ (fun _ k => XS.icmpYes X109.here hx rfl (pc0 := 85) (pc' := 108) rfl (hb hby at_85) rfl (tlt hc85_306).1 (by decide) (by decide) k) ?_
            show G (T109.setTop (mkF m 108 #[.val (.int p0), .val (.int p1), .val (.int p2), .val (.int p3), .val (.int p4), .val (.int (p2 &&& (3 : Int32))), .val (.int z_101), .val (.int y_102), .val (.ref b_104), .val (.ref b_114), .unset, .unset, .unset, .unset, .unset] []))
            refine go _ _ (fun _ k => XS.iload X109.here hx rfl (hb hby at_108) rfl (XS.iconst X109.here hx rfl (hb hby at_110) k)) ?_
            show G (T109.setTop (mkF m 111 #[.val (.int p0), .val (.int p1), .val (.int p2), .val (.int p3), .val (.int p4), .val (.int (p2 &&& (3 : Int32))), .val (.int z_101), .val (.int y_102), .val (.ref b_104), .val (.ref b_114), .unset, .unset, .unset, .unset, .unset] [(.int (3 : Int32)), (.int (p2 &&& (3 : Int32)))]))
            by_cases hc111_307 : (p2 &&& (3 : Int32)) < (3 : Int32)
            · refine go _ _ (fun _ k => XS.icmpYes X109.here hx rfl (pc0 := 111) (pc' := 134) rfl (hb hby at_111) rfl (tlt hc111_307).1 (by decide) (by decide) k) ?_
              show G (T109.setTop (mkF m 134 #[.val (.int p0), .val (.int p1), .val (.int p2), .val (.int p3), .val (.int p4), .val (.int (p2 &&& (3 : Int32))), .val (.int z_101), .val (.int y_102), .val (.ref b_104), .val (.ref b_114), .unset, .unset, .unset, .unset, .unset] []))
              refine go _ _ (fun _ k => XS.iconst X109.here hx rfl (hb hby at_134) k) ?_
              show G (T109.setTop (mkF m 135 #[.val (.int p0), .val (.int p1), .val (.int p2), .val (.int p3), .val (.int p4), .val (.int (p2 &&& (3 : Int32))), .val (.int z_101), .val (.int y_102), .val (.ref b_104), .val (.ref b_114), .unset, .unset, .unset, .unset, .unset] [(.int (1 : Int32))]))
              refine go _ _ (fun _ k => XS.goto X109.here hx rfl (pc0 := 135) (pc' := 139) rfl (hb hby at_135) (by decide) (by decide) k) ?_
              show G (T109.setTop (mkF m 139 #[.val (.int p0), .val (.int p1), .val (.int p2), .val (.int p3), .val (.int p4), .val (.int (p2 &&& (3 : Int32))), .val (.int z_101), .val (.int y_102), .val (.ref b_104), .val (.ref b_114), .unset, .unset, .unset, .unset, .unset] [(.int (1 : Int32))]))
              exact J119 _ _ (X109.more (by decide) (by decide)) rfl N109 (1 : Int32) (Or.inl ⟨rfl, (own_texteq (own_and3 _) pj101_z0).mpr ⟨hc59_304, (Or.inl (own_ltj hc65_305 (by decide))), (Or.inl (own_ltj hc65_305 (by decide))), (Or.inl (own_ltj hc65_305 (by decide)))⟩⟩)
            · refine go _ _ (fun _ k => XS.icmpNo X109.here hx rfl (hb hby at_111) rfl (flt hc111_307).1 k) ?_
              show G (T109.setTop (mkF m 114 #[.val (.int p0), .val (.int p1), .val (.int p2), .val (.int p3), .val (.int p4), .val (.int (p2 &&& (3 : Int32))), .val (.int z_101), .val (.int y_102), .val (.ref b_104), .val (.ref b_114), .unset, .unset, .unset, .unset, .unset] []))
              refine go _ _ (fun _ k => XS.iloadN X109.here hx rfl (hb hby at_114) rfl (XS.bipush X109.here hx rfl (hb hby at_115) (XS.iushr X109.here hx rfl (hb hby at_117) rfl (XS.sipush X109.here hx rfl (hb hby at_118) (XS.iand X109.here hx rfl (hb hby at_121) rfl (XS.iload X109.here hx rfl (hb hby at_122) rfl k)))))) ?_
              show G (T109.setTop (mkF m 124 #[.val (.int p0), .val (.int p1), .val (.int p2), .val (.int p3), .val (.int p4), .val (.int (p2 &&& (3 : Int32))), .val (.int z_101), .val (.int y_102), .val (.ref b_104), .val (.ref b_114), .unset, .unset, .unset, .unset, .unset] [(.int y_102), (.int (((p0.toUInt32 >>> ((16 : Int32) &&& 31).toUInt32).toInt32) &&& (255 : Int32)))]))
              refine go _ _ (fun _ k => XS.bipush X109.here hx rfl (hb hby at_124) (XS.iushr X109.here hx rfl (hb hby at_126) rfl (XS.sipush X109.here hx rfl (hb hby at_127) (XS.iand X109.here hx rfl (hb hby at_130) rfl k)))) ?_
              show G (T109.setTop (mkF m 131 #[.val (.int p0), .val (.int p1), .val (.int p2), .val (.int p3), .val (.int p4), .val (.int (p2 &&& (3 : Int32))), .val (.int z_101), .val (.int y_102), .val (.ref b_104), .val (.ref b_114), .unset, .unset, .unset, .unset, .unset] [(.int (((y_102.toUInt32 >>> ((16 : Int32) &&& 31).toUInt32).toInt32) &&& (255 : Int32))), (.int (((p0.toUInt32 >>> ((16 : Int32) &&& 31).toUInt32).toInt32) &&& (255 : Int32)))]))
              by_cases hc131_308 : (((p0.toUInt32 >>> ((16 : Int32) &&& 31).toUInt32).toInt32) &&& (255 : Int32)) = (((y_102.toUInt32 >>> ((16 : Int32) &&& 31).toUInt32).toInt32) &&& (255 : Int32))
              · refine go _ _ (fun _ k => XS.icmpNo X109.here hx rfl (hb hby at_131) rfl (teq hc131_308).2 k) ?_
                show G (T109.setTop (mkF m 134 #[.val (.int p0), .val (.int p1), .val (.int p2), .val (.int p3), .val (.int p4), .val (.int (p2 &&& (3 : Int32))), .val (.int z_101), .val (.int y_102), .val (.ref b_104), .val (.ref b_114), .unset, .unset, .unset, .unset, .unset] []))
                refine go _ _ (fun _ k => XS.iconst X109.here hx rfl (hb hby at_134) k) ?_
                show G (T109.setTop (mkF m 135 #[.val (.int p0), .val (.int p1), .val (.int p2), .val (.int p3), .val (.int p4), .val (.int (p2 &&& (3 : Int32))), .val (.int z_101), .val (.int y_102), .val (.ref b_104), .val (.ref b_114), .unset, .unset, .unset, .unset, .unset] [(.int (1 : Int32))]))
                refine go _ _ (fun _ k => XS.goto X109.here hx rfl (pc0 := 135) (pc' := 139) rfl (hb hby at_135) (by decide) (by decide) k) ?_
                show G (T109.setTop (mkF m 139 #[.val (.int p0), .val (.int p1), .val (.int p2), .val (.int p3), .val (.int p4), .val (.int (p2 &&& (3 : Int32))), .val (.int z_101), .val (.int y_102), .val (.ref b_104), .val (.ref b_114), .unset, .unset, .unset, .unset, .unset] [(.int (1 : Int32))]))
                exact J119 _ _ (X109.more (by decide) (by decide)) rfl N109 (1 : Int32) (Or.inl ⟨rfl, (own_texteq (own_and3 _) pj101_z0).mpr ⟨hc59_304, (Or.inl (own_ltj hc65_305 (by decide))), (Or.inl (own_ltj hc65_305 (by decide))), (Or.inl (own_ltj hc65_305 (by decide)))⟩⟩)
              · refine go _ _ (fun _ k => XS.icmpYes X109.here hx rfl (pc0 := 131) (pc' := 138) rfl (hb hby at_131) rfl (feq hc131_308).2 (by decide) (by decide) k) ?_
                show G (T109.setTop (mkF m 138 #[.val (.int p0), .val (.int p1), .val (.int p2), .val (.int p3), .val (.int p4), .val (.int (p2 &&& (3 : Int32))), .val (.int z_101), .val (.int y_102), .val (.ref b_104), .val (.ref b_114), .unset, .unset, .unset, .unset, .unset] []))
                refine go _ _ (fun _ k => XS.iconst X109.here hx rfl (hb hby at_138) k) ?_
                show G (T109.setTop (mkF m 139 #[.val (.int p0), .val (.int p1), .val (.int p2), .val (.int p3), .val (.int p4), .val (.int (p2 &&& (3 : Int32))), .val (.int z_101), .val (.int y_102), .val (.ref b_104), .val (.ref b_114), .unset, .unset, .unset, .unset, .unset] [(.int (0 : Int32))]))
                exact J119 _ _ (X109.more (by decide) (by decide)) rfl N109 (0 : Int32) (absurd (own_ltj hc65_305 (by decide)) hc111_307)
          · refine go _ _ (fun _ k => XS.icmpNo X109.here hx rfl (hb hby at_85) rfl (flt hc85_306).1 k) ?_
            show G (T109.setTop (mkF m 88 #[.val (.int p0), .val (.int p1), .val (.int p2), .val (.int p3), .val (.int p4), .val (.int (p2 &&& (3 : Int32))), .val (.int z_101), .val (.int y_102), .val (.ref b_104), .val (.ref b_114), .unset, .unset, .unset, .unset, .unset] []))
            refine go _ _ (fun _ k => XS.iloadN X109.here hx rfl (hb hby at_88) rfl (XS.bipush X109.here hx rfl (hb hby at_89) (XS.iushr X109.here hx rfl (hb hby at_91) rfl (XS.sipush X109.here hx rfl (hb hby at_92) (XS.iand X109.here hx rfl (hb hby at_95) rfl (XS.iload X109.here hx rfl (hb hby at_96) rfl k)))))) ?_
            show G (T109.setTop (mkF m 98 #[.val (.int p0), .val (.int p1), .val (.int p2), .val (.int p3), .val (.int p4), .val (.int (p2 &&& (3 : Int32))), .val (.int z_101), .val (.int y_102), .val (.ref b_104), .val (.ref b_114), .unset, .unset, .unset, .unset, .unset] [(.int y_102), (.int (((p0.toUInt32 >>> ((8 : Int32) &&& 31).toUInt32).toInt32) &&& (255 : Int32)))]))
            refine go _ _ (fun _ k => XS.bipush X109.here hx rfl (hb hby at_98) (XS.iushr X109.here hx rfl (hb hby at_100) rfl (XS.sipush X109.here hx rfl (hb hby at_101) (XS.iand X109.here hx rfl (hb hby at_104) rfl k)))) ?_
            show G (T109.setTop (mkF m 105 #[.val (.int p0), .val (.int p1), .val (.int p2), .val (.int p3), .val (.int p4), .val (.int (p2 &&& (3 : Int32))), .val (.int z_101), .val (.int y_102), .val (.ref b_104), .val (.ref b_114), .unset, .unset, .unset, .unset, .unset] [(.int (((y_102.toUInt32 >>> ((8 : Int32) &&& 31).toUInt32).toInt32) &&& (255 : Int32))), (.int (((p0.toUInt32 >>> ((8 : Int32) &&& 31).toUInt32).toInt32) &&& (255 : Int32)))]))
            by_cases hc105_309 : (((p0.toUInt32 >>> ((8 : Int32) &&& 31).toUInt32).toInt32) &&& (255 : Int32)) = (((y_102.toUInt32 >>> ((8 : Int32) &&& 31).toUInt32).toInt32) &&& (255 : Int32))
            · refine go _ _ (fun _ k => XS.icmpNo X109.here hx rfl (hb hby at_105) rfl (teq hc105_309).2 k) ?_
              show G (T109.setTop (mkF m 108 #[.val (.int p0), .val (.int p1), .val (.int p2), .val (.int p3), .val (.int p4), .val (.int (p2 &&& (3 : Int32))), .val (.int z_101), .val (.int y_102), .val (.ref b_104), .val (.ref b_114), .unset, .unset, .unset, .unset, .unset] []))
              refine go _ _ (fun _ k => XS.iload X109.here hx rfl (hb hby at_108) rfl (XS.iconst X109.here hx rfl (hb hby at_110) k)) ?_
              show G (T109.setTop (mkF m 111 #[.val (.int p0), .val (.int p1), .val (.int p2), .val (.int p3), .val (.int p4), .val (.int (p2 &&& (3 : Int32))), .val (.int z_101), .val (.int y_102), .val (.ref b_104), .val (.ref b_114), .unset, .unset, .unset, .unset, .unset] [(.int (3 : Int32)), (.int (p2 &&& (3 : Int32)))]))
              by_cases hc111_310 : (p2 &&& (3 : Int32)) < (3 : Int32)
              · refine go _ _ (fun _ k => XS.icmpYes X109.here hx rfl (pc0 := 111) (pc' := 134) rfl (hb hby at_111) rfl (tlt hc111_310).1 (by decide) (by decide) k) ?_
                show G (T109.setTop (mkF m 134 #[.val (.int p0), .val (.int p1), .val (.int p2), .val (.int p3), .val (.int p4), .val (.int (p2 &&& (3 : Int32))), .val (.int z_101), .val (.int y_102), .val (.ref b_104), .val (.ref b_114), .unset, .unset, .unset, .unset, .unset] []))
                refine go _ _ (fun _ k => XS.iconst X109.here hx rfl (hb hby at_134) k) ?_
                show G (T109.setTop (mkF m 135 #[.val (.int p0), .val (.int p1), .val (.int p2), .val (.int p3), .val (.int p4), .val (.int (p2 &&& (3 : Int32))), .val (.int z_101), .val (.int y_102), .val (.ref b_104), .val (.ref b_114), .unset, .unset, .unset, .unset, .unset] [(.int (1 : Int32))]))
                refine go _ _ (fun _ k => XS.goto X109.here hx rfl (pc0 := 135) (pc' := 139) rfl (hb hby at_135) (by decide) (by decide) k) ?_
                show G (T109.setTop (mkF m 139 #[.val (.int p0), .val (.int p1), .val (.int p2), .val (.int p3), .val (.int p4), .val (.int (p2 &&& (3 : Int32))), .val (.int z_101), .val (.int y_102), .val (.ref b_104), .val (.ref b_114), .unset, .unset, .unset, .unset, .unset] [(.int (1 : Int32))]))
                exact J119 _ _ (X109.more (by decide) (by decide)) rfl N109 (1 : Int32) (Or.inl ⟨rfl, (own_texteq (own_and3 _) pj101_z0).mpr ⟨hc59_304, (Or.inl (own_ltj hc65_305 (by decide))), (Or.inl (own_ltj hc65_305 (by decide))), (Or.inl (own_ltj hc65_305 (by decide)))⟩⟩)
              · refine go _ _ (fun _ k => XS.icmpNo X109.here hx rfl (hb hby at_111) rfl (flt hc111_310).1 k) ?_
                show G (T109.setTop (mkF m 114 #[.val (.int p0), .val (.int p1), .val (.int p2), .val (.int p3), .val (.int p4), .val (.int (p2 &&& (3 : Int32))), .val (.int z_101), .val (.int y_102), .val (.ref b_104), .val (.ref b_114), .unset, .unset, .unset, .unset, .unset] []))
                refine go _ _ (fun _ k => XS.iloadN X109.here hx rfl (hb hby at_114) rfl (XS.bipush X109.here hx rfl (hb hby at_115) (XS.iushr X109.here hx rfl (hb hby at_117) rfl (XS.sipush X109.here hx rfl (hb hby at_118) (XS.iand X109.here hx rfl (hb hby at_121) rfl (XS.iload X109.here hx rfl (hb hby at_122) rfl k)))))) ?_
                show G (T109.setTop (mkF m 124 #[.val (.int p0), .val (.int p1), .val (.int p2), .val (.int p3), .val (.int p4), .val (.int (p2 &&& (3 : Int32))), .val (.int z_101), .val (.int y_102), .val (.ref b_104), .val (.ref b_114), .unset, .unset, .unset, .unset, .unset] [(.int y_102), (.int (((p0.toUInt32 >>> ((16 : Int32) &&& 31).toUInt32).toInt32) &&& (255 : Int32)))]))
                refine go _ _ (fun _ k => XS.bipush X109.here hx rfl (hb hby at_124) (XS.iushr X109.here hx rfl (hb hby at_126) rfl (XS.sipush X109.here hx rfl (hb hby at_127) (XS.iand X109.here hx rfl (hb hby at_130) rfl k)))) ?_
                show G (T109.setTop (mkF m 131 #[.val (.int p0), .val (.int p1), .val (.int p2), .val (.int p3), .val (.int p4), .val (.int (p2 &&& (3 : Int32))), .val (.int z_101), .val (.int y_102), .val (.ref b_104), .val (.ref b_114), .unset, .unset, .unset, .unset, .unset] [(.int (((y_102.toUInt32 >>> ((16 : Int32) &&& 31).toUInt32).toInt32) &&& (255 : Int32))), (.int (((p0.toUInt32 >>> ((16 : Int32) &&& 31).toUInt32).toInt32) &&& (255 : Int32)))]))
                by_cases hc131_311 : (((p0.toUInt32 >>> ((16 : Int32) &&& 31).toUInt32).toInt32) &&& (255 : Int32)) = (((y_102.toUInt32 >>> ((16 : Int32) &&& 31).toUInt32).toInt32) &&& (255 : Int32))
                · refine go _ _ (fun _ k => XS.icmpNo X109.here hx rfl (hb hby at_131) rfl (teq hc131_311).2 k) ?_
                  show G (T109.setTop (mkF m 134 #[.val (.int p0), .val (.int p1), .val (.int p2), .val (.int p3), .val (.int p4), .val (.int (p2 &&& (3 : Int32))), .val (.int z_101), .val (.int y_102), .val (.ref b_104), .val (.ref b_114), .unset, .unset, .unset, .unset, .unset] []))
                  refine go _ _ (fun _ k => XS.iconst X109.here hx rfl (hb hby at_134) k) ?_
                  show G (T109.setTop (mkF m 135 #[.val (.int p0), .val (.int p1), .val (.int p2), .val (.int p3), .val (.int p4), .val (.int (p2 &&& (3 : Int32))), .val (.int z_101), .val (.int y_102), .val (.ref b_104), .val (.ref b_114), .unset, .unset, .unset, .unset, .unset] [(.int (1 : Int32))]))
                  refine go _ _ (fun _ k => XS.goto X109.here hx rfl (pc0 := 135) (pc' := 139) rfl (hb hby at_135) (by decide) (by decide) k) ?_
                  show G (T109.setTop (mkF m 139 #[.val (.int p0), .val (.int p1), .val (.int p2), .val (.int p3), .val (.int p4), .val (.int (p2 &&& (3 : Int32))), .val (.int z_101), .val (.int y_102), .val (.ref b_104), .val (.ref b_114), .unset, .unset, .unset, .unset, .unset] [(.int (1 : Int32))]))
                  exact J119 _ _ (X109.more (by decide) (by decide)) rfl N109 (1 : Int32) (Or.inl ⟨rfl, (own_texteq (own_and3 _) pj101_z0).mpr ⟨hc59_304, (Or.inl (own_ltj hc65_305 (by decide))), (Or.inl (own_ltj hc65_305 (by decide))), (Or.inl (own_ltj hc65_305 (by decide)))⟩⟩)
                · refine go _ _ (fun _ k => XS.icmpYes X109.here hx rfl (pc0 := 131) (pc' := 138) rfl (hb hby at_131) rfl (feq hc131_311).2 (by decide) (by decide) k) ?_
                  show G (T109.setTop (mkF m 138 #[.val (.int p0), .val (.int p1), .val (.int p2), .val (.int p3), .val (.int p4), .val (.int (p2 &&& (3 : Int32))), .val (.int z_101), .val (.int y_102), .val (.ref b_104), .val (.ref b_114), .unset, .unset, .unset, .unset, .unset] []))
                  refine go _ _ (fun _ k => XS.iconst X109.here hx rfl (hb hby at_138) k) ?_
                  show G (T109.setTop (mkF m 139 #[.val (.int p0), .val (.int p1), .val (.int p2), .val (.int p3), .val (.int p4), .val (.int (p2 &&& (3 : Int32))), .val (.int z_101), .val (.int y_102), .val (.ref b_104), .val (.ref b_114), .unset, .unset, .unset, .unset, .unset] [(.int (0 : Int32))]))
                  exact J119 _ _ (X109.more (by decide) (by decide)) rfl N109 (0 : Int32) (absurd (own_ltj hc65_305 (by decide)) hc85_306)
            · refine go _ _ (fun _ k => XS.icmpYes X109.here hx rfl (pc0 := 105) (pc' := 138) rfl (hb hby at_105) rfl (feq hc105_309).2 (by decide) (by decide) k) ?_
              show G (T109.setTop (mkF m 138 #[.val (.int p0), .val (.int p1), .val (.int p2), .val (.int p3), .val (.int p4), .val (.int (p2 &&& (3 : Int32))), .val (.int z_101), .val (.int y_102), .val (.ref b_104), .val (.ref b_114), .unset, .unset, .unset, .unset, .unset] []))
              refine go _ _ (fun _ k => XS.iconst X109.here hx rfl (hb hby at_138) k) ?_
              show G (T109.setTop (mkF m 139 #[.val (.int p0), .val (.int p1), .val (.int p2), .val (.int p3), .val (.int p4), .val (.int (p2 &&& (3 : Int32))), .val (.int z_101), .val (.int y_102), .val (.ref b_104), .val (.ref b_114), .unset, .unset, .unset, .unset, .unset] [(.int (0 : Int32))]))
              exact J119 _ _ (X109.more (by decide) (by decide)) rfl N109 (0 : Int32) (absurd (own_ltj hc65_305 (by decide)) hc85_306)
        · refine go _ _ (fun _ k => XS.icmpNo X109.here hx rfl (hb hby at_65) rfl (flt hc65_305).1 k) ?_
          show G (T109.setTop (mkF m 68 #[.val (.int p0), .val (.int p1), .val (.int p2), .val (.int p3), .val (.int p4), .val (.int (p2 &&& (3 : Int32))), .val (.int z_101), .val (.int y_102), .val (.ref b_104), .val (.ref b_114), .unset, .unset, .unset, .unset, .unset] []))
          refine go _ _ (fun _ k => XS.iloadN X109.here hx rfl (hb hby at_68) rfl (XS.sipush X109.here hx rfl (hb hby at_69) (XS.iand X109.here hx rfl (hb hby at_72) rfl (XS.iload X109.here hx rfl (hb hby at_73) rfl (XS.sipush X109.here hx rfl (hb hby at_75) (XS.iand X109.here hx rfl (hb hby at_78) rfl k)))))) ?_
          show G (T109.setTop (mkF m 79 #[.val (.int p0), .val (.int p1), .val (.int p2), .val (.int p3), .val (.int p4), .val (.int (p2 &&& (3 : Int32))), .val (.int z_101), .val (.int y_102), .val (.ref b_104), .val (.ref b_114), .unset, .unset, .unset, .unset, .unset] [(.int (y_102 &&& (255 : Int32))), (.int (p0 &&& (255 : Int32)))]))
          by_cases hc79_312 : (p0 &&& (255 : Int32)) = (y_102 &&& (255 : Int32))
          · refine go _ _ (fun _ k => XS.icmpNo X109.here hx rfl (hb hby at_79) rfl (teq hc79_312).2 k) ?_
            show G (T109.setTop (mkF m 82 #[.val (.int p0), .val (.int p1), .val (.int p2), .val (.int p3), .val (.int p4), .val (.int (p2 &&& (3 : Int32))), .val (.int z_101), .val (.int y_102), .val (.ref b_104), .val (.ref b_114), .unset, .unset, .unset, .unset, .unset] []))
            refine go _ _ (fun _ k => XS.iload X109.here hx rfl (hb hby at_82) rfl (XS.iconst X109.here hx rfl (hb hby at_84) k)) ?_
            show G (T109.setTop (mkF m 85 #[.val (.int p0), .val (.int p1), .val (.int p2), .val (.int p3), .val (.int p4), .val (.int (p2 &&& (3 : Int32))), .val (.int z_101), .val (.int y_102), .val (.ref b_104), .val (.ref b_114), .unset, .unset, .unset, .unset, .unset] [(.int (2 : Int32)), (.int (p2 &&& (3 : Int32)))]))
            by_cases hc85_313 : (p2 &&& (3 : Int32)) < (2 : Int32)
            · refine go _ _ (fun _ k => XS.icmpYes X109.here hx rfl (pc0 := 85) (pc' := 108) rfl (hb hby at_85) rfl (tlt hc85_313).1 (by decide) (by decide) k) ?_
              show G (T109.setTop (mkF m 108 #[.val (.int p0), .val (.int p1), .val (.int p2), .val (.int p3), .val (.int p4), .val (.int (p2 &&& (3 : Int32))), .val (.int z_101), .val (.int y_102), .val (.ref b_104), .val (.ref b_114), .unset, .unset, .unset, .unset, .unset] []))
              refine go _ _ (fun _ k => XS.iload X109.here hx rfl (hb hby at_108) rfl (XS.iconst X109.here hx rfl (hb hby at_110) k)) ?_
              show G (T109.setTop (mkF m 111 #[.val (.int p0), .val (.int p1), .val (.int p2), .val (.int p3), .val (.int p4), .val (.int (p2 &&& (3 : Int32))), .val (.int z_101), .val (.int y_102), .val (.ref b_104), .val (.ref b_114), .unset, .unset, .unset, .unset, .unset] [(.int (3 : Int32)), (.int (p2 &&& (3 : Int32)))]))
              by_cases hc111_314 : (p2 &&& (3 : Int32)) < (3 : Int32)
              · refine go _ _ (fun _ k => XS.icmpYes X109.here hx rfl (pc0 := 111) (pc' := 134) rfl (hb hby at_111) rfl (tlt hc111_314).1 (by decide) (by decide) k) ?_
                show G (T109.setTop (mkF m 134 #[.val (.int p0), .val (.int p1), .val (.int p2), .val (.int p3), .val (.int p4), .val (.int (p2 &&& (3 : Int32))), .val (.int z_101), .val (.int y_102), .val (.ref b_104), .val (.ref b_114), .unset, .unset, .unset, .unset, .unset] []))
                refine go _ _ (fun _ k => XS.iconst X109.here hx rfl (hb hby at_134) k) ?_
                show G (T109.setTop (mkF m 135 #[.val (.int p0), .val (.int p1), .val (.int p2), .val (.int p3), .val (.int p4), .val (.int (p2 &&& (3 : Int32))), .val (.int z_101), .val (.int y_102), .val (.ref b_104), .val (.ref b_114), .unset, .unset, .unset, .unset, .unset] [(.int (1 : Int32))]))
                refine go _ _ (fun _ k => XS.goto X109.here hx rfl (pc0 := 135) (pc' := 139) rfl (hb hby at_135) (by decide) (by decide) k) ?_
                show G (T109.setTop (mkF m 139 #[.val (.int p0), .val (.int p1), .val (.int p2), .val (.int p3), .val (.int p4), .val (.int (p2 &&& (3 : Int32))), .val (.int z_101), .val (.int y_102), .val (.ref b_104), .val (.ref b_114), .unset, .unset, .unset, .unset, .unset] [(.int (1 : Int32))]))
                exact J119 _ _ (X109.more (by decide) (by decide)) rfl N109 (1 : Int32) (Or.inl ⟨rfl, (own_texteq (own_and3 _) pj101_z0).mpr ⟨hc59_304, (Or.inr hc79_312), (Or.inl (own_ltj hc85_313 (by decide))), (Or.inl (own_ltj hc85_313 (by decide)))⟩⟩)
              · refine go _ _ (fun _ k => XS.icmpNo X109.here hx rfl (hb hby at_111) rfl (flt hc111_314).1 k) ?_
                show G (T109.setTop (mkF m 114 #[.val (.int p0), .val (.int p1), .val (.int p2), .val (.int p3), .val (.int p4), .val (.int (p2 &&& (3 : Int32))), .val (.int z_101), .val (.int y_102), .val (.ref b_104), .val (.ref b_114), .unset, .unset, .unset, .unset, .unset] []))
                refine go _ _ (fun _ k => XS.iloadN X109.here hx rfl (hb hby at_114) rfl (XS.bipush X109.here hx rfl (hb hby at_115) (XS.iushr X109.here hx rfl (hb hby at_117) rfl (XS.sipush X109.here hx rfl (hb hby at_118) (XS.iand X109.here hx rfl (hb hby at_121) rfl (XS.iload X109.here hx rfl (hb hby at_122) rfl k)))))) ?_
                show G (T109.setTop (mkF m 124 #[.val (.int p0), .val (.int p1), .val (.int p2), .val (.int p3), .val (.int p4), .val (.int (p2 &&& (3 : Int32))), .val (.int z_101), .val (.int y_102), .val (.ref b_104), .val (.ref b_114), .unset, .unset, .unset, .unset, .unset] [(.int y_102), (.int (((p0.toUInt32 >>> ((16 : Int32) &&& 31).toUInt32).toInt32) &&& (255 : Int32)))]))
                refine go _ _ (fun _ k => XS.bipush X109.here hx rfl (hb hby at_124) (XS.iushr X109.here hx rfl (hb hby at_126) rfl (XS.sipush X109.here hx rfl (hb hby at_127) (XS.iand X109.here hx rfl (hb hby at_130) rfl k)))) ?_
                show G (T109.setTop (mkF m 131 #[.val (.int p0), .val (.int p1), .val (.int p2), .val (.int p3), .val (.int p4), .val (.int (p2 &&& (3 : Int32))), .val (.int z_101), .val (.int y_102), .val (.ref b_104), .val (.ref b_114), .unset, .unset, .unset, .unset, .unset] [(.int (((y_102.toUInt32 >>> ((16 : Int32) &&& 31).toUInt32).toInt32) &&& (255 : Int32))), (.int (((p0.toUInt32 >>> ((16 : Int32) &&& 31).toUInt32).toInt32) &&& (255 : Int32)))]))
                by_cases hc131_315 : (((p0.toUInt32 >>> ((16 : Int32) &&& 31).toUInt32).toInt32) &&& (255 : Int32)) = (((y_102.toUInt32 >>> ((16 : Int32) &&& 31).toUInt32).toInt32) &&& (255 : Int32))
                · refine go _ _ (fun _ k => XS.icmpNo X109.here hx rfl (hb hby at_131) rfl (teq hc131_315).2 k) ?_
                  show G (T109.setTop (mkF m 134 #[.val (.int p0), .val (.int p1), .val (.int p2), .val (.int p3), .val (.int p4), .val (.int (p2 &&& (3 : Int32))), .val (.int z_101), .val (.int y_102), .val (.ref b_104), .val (.ref b_114), .unset, .unset, .unset, .unset, .unset] []))
                  refine go _ _ (fun _ k => XS.iconst X109.here hx rfl (hb hby at_134) k) ?_
                  show G (T109.setTop (mkF m 135 #[.val (.int p0), .val (.int p1), .val (.int p2), .val (.int p3), .val (.int p4), .val (.int (p2 &&& (3 : Int32))), .val (.int z_101), .val (.int y_102), .val (.ref b_104), .val (.ref b_114), .unset, .unset, .unset, .unset, .unset] [(.int (1 : Int32))]))
                  refine go _ _ (fun _ k => XS.goto X109.here hx rfl (pc0 := 135) (pc' := 139) rfl (hb hby at_135) (by decide) (by decide) k) ?_
                  show G (T109.setTop (mkF m 139 #[.val (.int p0), .val (.int p1), .val (.int p2), .val (.int p3), .val (.int p4), .val (.int (p2 &&& (3 : Int32))), .val (.int z_101), .val (.int y_102), .val (.ref b_104), .val (.ref b_114), .unset, .unset, .unset, .unset, .unset] [(.int (1 : Int32))]))
                  exact J119 _ _ (X109.more (by decide) (by decide)) rfl N109 (1 : Int32) (Or.inl ⟨rfl, (own_texteq (own_and3 _) pj101_z0).mpr ⟨hc59_304, (Or.inr hc79_312), (Or.inl (own_ltj hc85_313 (by decide))), (Or.inl (own_ltj hc85_313 (by decide)))⟩⟩)
                · refine go _ _ (fun _ k => XS.icmpYes X109.here hx rfl (pc0 := 131) (pc' := 138) rfl (hb hby at_131) rfl (feq hc131_315).2 (by decide) (by decide) k) ?_
                  show G (T109.setTop (mkF m 138 #[.val (.int p0), .val (.int p1), .val (.int p2), .val (.int p3), .val (.int p4), .val (.int (p2 &&& (3 : Int32))), .val (.int z_101), .val (.int y_102), .val (.ref b_104), .val (.ref b_114), .unset, .unset, .unset, .unset, .unset] []))
                  refine go _ _ (fun _ k => XS.iconst X109.here hx rfl (hb hby at_138) k) ?_
                  show G (T109.setTop (mkF m 139 #[.val (.int p0), .val (.int p1), .val (.int p2), .val (.int p3), .val (.int p4), .val (.int (p2 &&& (3 : Int32))), .val (.int z_101), .val (.int y_102), .val (.ref b_104), .val (.ref b_114), .unset, .unset, .unset, .unset, .unset] [(.int (0 : Int32))]))
                  exact J119 _ _ (X109.more (by decide) (by decide)) rfl N109 (0 : Int32) (absurd (own_ltj hc85_313 (by decide)) hc111_314)
            · refine go _ _ (fun _ k => XS.icmpNo X109.here hx rfl (hb hby at_85) rfl (flt hc85_313).1 k) ?_
              show G (T109.setTop (mkF m 88 #[.val (.int p0), .val (.int p1), .val (.int p2), .val (.int p3), .val (.int p4), .val (.int (p2 &&& (3 : Int32))), .val (.int z_101), .val (.int y_102), .val (.ref b_104), .val (.ref b_114), .unset, .unset, .unset, .unset, .unset] []))
              refine go _ _ (fun _ k => XS.iloadN X109.here hx rfl (hb hby at_88) rfl (XS.bipush X109.here hx rfl (hb hby at_89) (XS.iushr X109.here hx rfl (hb hby at_91) rfl (XS.sipush X109.here hx rfl (hb hby at_92) (XS.iand X109.here hx rfl (hb hby at_95) rfl (XS.iload X109.here hx rfl (hb hby at_96) rfl k)))))) ?_
              show G (T109.setTop (mkF m 98 #[.val (.int p0), .val (.int p1), .val (.int p2), .val (.int p3), .val (.int p4), .val (.int (p2 &&& (3 : Int32))), .val (.int z_101), .val (.int y_102), .val (.ref b_104), .val (.ref b_114), .unset, .unset, .unset, .unset, .unset] [(.int y_102), (.int (((p0.toUInt32 >>> ((8 : Int32) &&& 31).toUInt32).toInt32) &&& (255 : Int32)))]))
              refine go _ _ (fun _ k => XS.bipush X109.here hx rfl (hb hby at_98) (XS.iushr X109.here hx rfl (hb hby at_100) rfl (XS.sipush X109.here hx rfl (hb hby at_101) (XS.iand X109.here hx rfl (hb hby at_104) rfl k)))) ?_
              show G (T109.setTop (mkF m 105 #[.val (.int p0), .val (.int p1), .val (.int p2), .val (.int p3), .val (.int p4), .val (.int (p2 &&& (3 : Int32))), .val (.int z_101), .val (.int y_102), .val (.ref b_104), .val (.ref b_114), .unset, .unset, .unset, .unset, .unset] [(.int (((y_102.toUInt32 >>> ((8 : Int32) &&& 31).toUInt32).toInt32) &&& (255 : Int32))), (.int (((p0.toUInt32 >>> ((8 : Int32) &&& 31).toUInt32).toInt32) &&& (255 : Int32)))]))
              by_cases hc105_316 : (((p0.toUInt32 >>> ((8 : Int32) &&& 31).toUInt32).toInt32) &&& (255 : Int32)) = (((y_102.toUInt32 >>> ((8 : Int32) &&& 31).toUInt32).toInt32) &&& (255 : Int32))
              · refine go _ _ (fun _ k => XS.icmpNo X109.here hx rfl (hb hby at_105) rfl (teq hc105_316).2 k) ?_
                show G (T109.setTop (mkF m 108 #[.val (.int p0), .val (.int p1), .val (.int p2), .val (.int p3), .val (.int p4), .val (.int (p2 &&& (3 : Int32))), .val (.int z_101), .val (.int y_102), .val (.ref b_104), .val (.ref b_114), .unset, .unset, .unset, .unset, .unset] []))
                refine go _ _ (fun _ k => XS.iload X109.here hx rfl (hb hby at_108) rfl (XS.iconst X109.here hx rfl (hb hby at_110) k)) ?_
                show G (T109.setTop (mkF m 111 #[.val (.int p0), .val (.int p1), .val (.int p2), .val (.int p3), .val (.int p4), .val (.int (p2 &&& (3 : Int32))), .val (.int z_101), .val (.int y_102), .val (.ref b_104), .val (.ref b_114), .unset, .unset, .unset, .unset, .unset] [(.int (3 : Int32)), (.int (p2 &&& (3 : Int32)))]))
                by_cases hc111_317 : (p2 &&& (3 : Int32)) < (3 : Int32)
                · refine go _ _ (fun _ k => XS.icmpYes X109.here hx rfl (pc0 := 111) (pc' := 134) rfl (hb hby at_111) rfl (tlt hc111_317).1 (by decide) (by decide) k) ?_
                  show G (T109.setTop (mkF m 134 #[.val (.int p0), .val (.int p1), .val (.int p2), .val (.int p3), .val (.int p4), .val (.int (p2 &&& (3 : Int32))), .val (.int z_101), .val (.int y_102), .val (.ref b_104), .val (.ref b_114), .unset, .unset, .unset, .unset, .unset] []))
                  refine go _ _ (fun _ k => XS.iconst X109.here hx rfl (hb hby at_134) k) ?_
                  show G (T109.setTop (mkF m 135 #[.val (.int p0), .val (.int p1), .val (.int p2), .val (.int p3), .val (.int p4), .val (.int (p2 &&& (3 : Int32))), .val (.int z_101), .val (.int y_102), .val (.ref b_104), .val (.ref b_114), .unset, .unset, .unset, .unset, .unset] [(.int (1 : Int32))]))
                  refine go _ _ (fun _ k => XS.goto X109.here hx rfl (pc0 := 135) (pc' := 139) rfl (hb hby at_135) (by decide) (by decide) k) ?_
                  show G (T109.setTop (mkF m 139 #[.val (.int p0), .val (.int p1), .val (.int p2), .val (.int p3), .val (.int p4), .val (.int (p2 &&& (3 : Int32))), .val (.int z_101), .val (.int y_102), .val (.ref b_104), .val (.ref b_114), .unset, .unset, .unset, .unset, .unset] [(.int (1 : Int32))]))
                  exact J119 _ _ (X109.more (by decide) (by decide)) rfl N109 (1 : Int32) (Or.inl ⟨rfl, (own_texteq (own_and3 _) pj101_z0).mpr ⟨hc59_304, (Or.inr hc79_312), (Or.inr hc105_316), (Or.inl (own_ltj hc111_317 (by decide)))⟩⟩)
                · refine go _ _ (fun _ k => XS.icmpNo X109.here hx rfl (hb hby at_111) rfl (flt hc111_317).1 k) ?_
                  show G (T109.setTop (mkF m 114 #[.val (.int p0), .val (.int p1), .val (.int p2), .val (.int p3), .val (.int p4), .val (.int (p2 &&& (3 : Int32))), .val (.int z_101), .val (.int y_102), .val (.ref b_104), .val (.ref b_114), .unset, .unset, .unset, .unset, .unset] []))
                  refine go _ _ (fun _ k => XS.iloadN X109.here hx rfl (hb hby at_114) rfl (XS.bipush X109.here hx rfl (hb hby at_115) (XS.iushr X109.here hx rfl (hb hby at_117) rfl (XS.sipush X109.here hx rfl (hb hby at_118) (XS.iand X109.here hx rfl (hb hby at_121) rfl (XS.iload X109.here hx rfl (hb hby at_122) rfl k)))))) ?_
                  show G (T109.setTop (mkF m 124 #[.val (.int p0), .val (.int p1), .val (.int p2), .val (.int p3), .val (.int p4), .val (.int (p2 &&& (3 : Int32))), .val (.int z_101), .val (.int y_102), .val (.ref b_104), .val (.ref b_114), .unset, .unset, .unset, .unset, .unset] [(.int y_102), (.int (((p0.toUInt32 >>> ((16 : Int32) &&& 31).toUInt32).toInt32) &&& (255 : Int32)))]))
                  refine go _ _ (fun _ k => XS.bipush X109.here hx rfl (hb hby at_124) (XS.iushr X109.here hx rfl (hb hby at_126) rfl (XS.sipush X109.here hx rfl (hb hby at_127) (XS.iand X109.here hx rfl (hb hby at_130) rfl k)))) ?_
                  show G (T109.setTop (mkF m 131 #[.val (.int p0), .val (.int p1), .val (.int p2), .val (.int p3), .val (.int p4), .val (.int (p2 &&& (3 : Int32))), .val (.int z_101), .val (.int y_102), .val (.ref b_104), .val (.ref b_114), .unset, .unset, .unset, .unset, .unset] [(.int (((y_102.toUInt32 >>> ((16 : Int32) &&& 31).toUInt32).toInt32) &&& (255 : Int32))), (.int (((p0.toUInt32 >>> ((16 : Int32) &&& 31).toUInt32).toInt32) &&& (255 : Int32)))]))
                  by_cases hc131_318 : (((p0.toUInt32 >>> ((16 : Int32) &&& 31).toUInt32).toInt32) &&& (255 : Int32)) = (((y_102.toUInt32 >>> ((16 : Int32) &&& 31).toUInt32).toInt32) &&& (255 : Int32))
                  · refine go _ _ (fun _ k => XS.icmpNo X109.here hx rfl (hb hby at_131) rfl (teq hc131_318).2 k) ?_
                    show G (T109.setTop (mkF m 134 #[.val (.int p0), .val (.int p1), .val (.int p2), .val (.int p3), .val (.int p4), .val (.int (p2 &&& (3 : Int32))), .val (.int z_101), .val (.int y_102), .val (.ref b_104), .val (.ref b_114), .unset, .unset, .unset, .unset, .unset] []))
                    refine go _ _ (fun _ k => XS.iconst X109.here hx rfl (hb hby at_134) k) ?_
                    show G (T109.setTop (mkF m 135 #[.val (.int p0), .val (.int p1), .val (.int p2), .val (.int p3), .val (.int p4), .val (.int (p2 &&& (3 : Int32))), .val (.int z_101), .val (.int y_102), .val (.ref b_104), .val (.ref b_114), .unset, .unset, .unset, .unset, .unset] [(.int (1 : Int32))]))
                    refine go _ _ (fun _ k => XS.goto X109.here hx rfl (pc0 := 135) (pc' := 139) rfl (hb hby at_135) (by decide) (by decide) k) ?_
                    show G (T109.setTop (mkF m 139 #[.val (.int p0), .val (.int p1), .val (.int p2), .val (.int p3), .val (.int p4), .val (.int (p2 &&& (3 : Int32))), .val (.int z_101), .val (.int y_102), .val (.ref b_104), .val (.ref b_114), .unset, .unset, .unset, .unset, .unset] [(.int (1 : Int32))]))
                    exact J119 _ _ (X109.more (by decide) (by decide)) rfl N109 (1 : Int32) (Or.inl ⟨rfl, (own_texteq (own_and3 _) pj101_z0).mpr ⟨hc59_304, (Or.inr hc79_312), (Or.inr hc105_316), (Or.inr hc131_318)⟩⟩)
                  · refine go _ _ (fun _ k => XS.icmpYes X109.here hx rfl (pc0 := 131) (pc' := 138) rfl (hb hby at_131) rfl (feq hc131_318).2 (by decide) (by decide) k) ?_
                    show G (T109.setTop (mkF m 138 #[.val (.int p0), .val (.int p1), .val (.int p2), .val (.int p3), .val (.int p4), .val (.int (p2 &&& (3 : Int32))), .val (.int z_101), .val (.int y_102), .val (.ref b_104), .val (.ref b_114), .unset, .unset, .unset, .unset, .unset] []))
                    refine go _ _ (fun _ k => XS.iconst X109.here hx rfl (hb hby at_138) k) ?_
                    show G (T109.setTop (mkF m 139 #[.val (.int p0), .val (.int p1), .val (.int p2), .val (.int p3), .val (.int p4), .val (.int (p2 &&& (3 : Int32))), .val (.int z_101), .val (.int y_102), .val (.ref b_104), .val (.ref b_114), .unset, .unset, .unset, .unset, .unset] [(.int (0 : Int32))]))
                    exact J119 _ _ (X109.more (by decide) (by decide)) rfl N109 (0 : Int32) (Or.inr ⟨rfl, fun q => ((own_texteq (own_and3 _) pj101_z0).mp q).2.2.2.elim hc111_317 hc131_318⟩)
              · refine go _ _ (fun _ k => XS.icmpYes X109.here hx rfl (pc0 := 105) (pc' := 138) rfl (hb hby at_105) rfl (feq hc105_316).2 (by decide) (by decide) k) ?_
                show G (T109.setTop (mkF m 138 #[.val (.int p0), .val (.int p1), .val (.int p2), .val (.int p3), .val (.int p4), .val (.int (p2 &&& (3 : Int32))), .val (.int z_101), .val (.int y_102), .val (.ref b_104), .val (.ref b_114), .unset, .unset, .unset, .unset, .unset] []))
                refine go _ _ (fun _ k => XS.iconst X109.here hx rfl (hb hby at_138) k) ?_
                show G (T109.setTop (mkF m 139 #[.val (.int p0), .val (.int p1), .val (.int p2), .val (.int p3), .val (.int p4), .val (.int (p2 &&& (3 : Int32))), .val (.int z_101), .val (.int y_102), .val (.ref b_104), .val (.ref b_114), .unset, .unset, .unset, .unset, .unset] [(.int (0 : Int32))]))
                exact J119 _ _ (X109.more (by decide) (by decide)) rfl N109 (0 : Int32) (Or.inr ⟨rfl, fun q => ((own_texteq (own_and3 _) pj101_z0).mp q).2.2.1.elim hc85_313 hc105_316⟩)
          · refine go _ _ (fun _ k => XS.icmpYes X109.here hx rfl (pc0 := 79) (pc' := 138) rfl (hb hby at_79) rfl (feq hc79_312).2 (by decide) (by decide) k) ?_
            show G (T109.setTop (mkF m 138 #[.val (.int p0), .val (.int p1), .val (.int p2), .val (.int p3), .val (.int p4), .val (.int (p2 &&& (3 : Int32))), .val (.int z_101), .val (.int y_102), .val (.ref b_104), .val (.ref b_114), .unset, .unset, .unset, .unset, .unset] []))
            refine go _ _ (fun _ k => XS.iconst X109.here hx rfl (hb hby at_138) k) ?_
            show G (T109.setTop (mkF m 139 #[.val (.int p0), .val (.int p1), .val (.int p2), .val (.int p3), .val (.int p4), .val (.int (p2 &&& (3 : Int32))), .val (.int z_101), .val (.int y_102), .val (.ref b_104), .val (.ref b_114), .unset, .unset, .unset, .unset, .unset] [(.int (0 : Int32))]))
            exact J119 _ _ (X109.more (by decide) (by decide)) rfl N109 (0 : Int32) (Or.inr ⟨rfl, fun q => ((own_texteq (own_and3 _) pj101_z0).mp q).2.1.elim hc65_305 hc79_312⟩)
      · refine go _ _ (fun _ k => XS.icmpYes X109.here hx rfl (pc0 := 59) (pc' := 138) rfl (hb hby at_59) rfl (feq hc59_304).2 (by decide) (by decide) k) ?_
        show G (T109.setTop (mkF m 138 #[.val (.int p0), .val (.int p1), .val (.int p2), .val (.int p3), .val (.int p4), .val (.int (p2 &&& (3 : Int32))), .val (.int z_101), .val (.int y_102), .val (.ref b_104), .val (.ref b_114), .unset, .unset, .unset, .unset, .unset] []))
        refine go _ _ (fun _ k => XS.iconst X109.here hx rfl (hb hby at_138) k) ?_
        show G (T109.setTop (mkF m 139 #[.val (.int p0), .val (.int p1), .val (.int p2), .val (.int p3), .val (.int p4), .val (.int (p2 &&& (3 : Int32))), .val (.int z_101), .val (.int y_102), .val (.ref b_104), .val (.ref b_114), .unset, .unset, .unset, .unset, .unset] [(.int (0 : Int32))]))
        exact J119 _ _ (X109.more (by decide) (by decide)) rfl N109 (0 : Int32) (Or.inr ⟨rfl, fun q => hc59_304 ((own_texteq (own_and3 _) pj101_z0).mp q).1⟩)
    by_cases hc28_319 : (p4 &&& (1 : Int32)) = (0 : Int32)
    · refine go _ _ (fun _ k => XS.ifNo X101.here hx rfl (hb hby at_28) rfl ((if0 _ _).trans (teq hc28_319).2) k) ?_
      show G (T101.setTop (mkF m 31 #[.val (.int p0), .val (.int p1), .val (.int p2), .val (.int p3), .val (.int p4), .val (.int (p2 &&& (3 : Int32))), .val (.int z_101), .unset, .unset, .unset, .unset, .unset, .unset, .unset, .unset] []))
      refine go _ _ (fun _ k => XS.iloadN X101.here hx rfl (hb hby at_31) rfl k) ?_
      show G (T101.setTop (mkF m 32 #[.val (.int p0), .val (.int p1), .val (.int p2), .val (.int p3), .val (.int p4), .val (.int (p2 &&& (3 : Int32))), .val (.int z_101), .unset, .unset, .unset, .unset, .unset, .unset, .unset, .unset] [(.int p0)]))
      refine go _ _ (fun _ k => XS.goto X101.here hx rfl (pc0 := 32) (pc' := 36) rfl (hb hby at_32) (by decide) (by decide) k) ?_
      show G (T101.setTop (mkF m 36 #[.val (.int p0), .val (.int p1), .val (.int p2), .val (.int p3), .val (.int p4), .val (.int (p2 &&& (3 : Int32))), .val (.int z_101), .unset, .unset, .unset, .unset, .unset, .unset, .unset, .unset] [(.int p0)]))
      exact J102 _ _ (X101.more (by decide) (by decide)) e101 N101 p0
    · refine go _ _ (fun _ k => XS.ifYes X101.here hx rfl (pc0 := 28) (pc' := 35) rfl (hb hby at_28) rfl ((if0 _ _).trans (feq hc28_319).2) (by decide) (by decide) k) ?_
      show G (T101.setTop (mkF m 35 #[.val (.int p0), .val (.int p1), .val (.int p2), .val (.int p3), .val (.int p4), .val (.int (p2 &&& (3 : Int32))), .val (.int z_101), .unset, .unset, .unset, .unset, .unset, .unset, .unset, .unset] []))
      refine go _ _ (fun _ k => XS.iloadN X101.here hx rfl (hb hby at_35) rfl k) ?_
      show G (T101.setTop (mkF m 36 #[.val (.int p0), .val (.int p1), .val (.int p2), .val (.int p3), .val (.int p4), .val (.int (p2 &&& (3 : Int32))), .val (.int z_101), .unset, .unset, .unset, .unset, .unset, .unset, .unset, .unset] [(.int p1)]))
      exact J102 _ _ (X101.more (by decide) (by decide)) e101 N101 p1
  by_cases hc9_320 : (p4 &&& (2 : Int32)) = (0 : Int32)
  · refine go _ _ (fun _ k => XS.ifNo X0.here hx rfl (hb hby at_9) rfl ((if0 _ _).trans (teq hc9_320).2) k) ?_
    show G (s₁.setTop (mkF m 12 #[.val (.int p0), .val (.int p1), .val (.int p2), .val (.int p3), .val (.int p4), .val (.int (p2 &&& (3 : Int32))), .unset, .unset, .unset, .unset, .unset, .unset, .unset, .unset, .unset] []))
    refine go _ _ (fun _ k => XS.iload X0.here hx rfl (hb hby at_12) rfl k) ?_
    show G (s₁.setTop (mkF m 14 #[.val (.int p0), .val (.int p1), .val (.int p2), .val (.int p3), .val (.int p4), .val (.int (p2 &&& (3 : Int32))), .unset, .unset, .unset, .unset, .unset, .unset, .unset, .unset, .unset] [(.int (p2 &&& (3 : Int32)))]))
    refine go _ _ (fun _ k => XS.goto X0.here hx rfl (pc0 := 14) (pc' := 22) rfl (hb hby at_14) (by decide) (by decide) k) ?_
    show G (s₁.setTop (mkF m 22 #[.val (.int p0), .val (.int p1), .val (.int p2), .val (.int p3), .val (.int p4), .val (.int (p2 &&& (3 : Int32))), .unset, .unset, .unset, .unset, .unset, .unset, .unset, .unset, .unset] [(.int (p2 &&& (3 : Int32)))]))
    exact J101 _ _ (X0.more (by decide) (by decide)) e0 N0 (p2 &&& (3 : Int32)) (own_and3 _)
  · refine go _ _ (fun _ k => XS.ifYes X0.here hx rfl (pc0 := 9) (pc' := 17) rfl (hb hby at_9) rfl ((if0 _ _).trans (feq hc9_320).2) (by decide) (by decide) k) ?_
    show G (s₁.setTop (mkF m 17 #[.val (.int p0), .val (.int p1), .val (.int p2), .val (.int p3), .val (.int p4), .val (.int (p2 &&& (3 : Int32))), .unset, .unset, .unset, .unset, .unset, .unset, .unset, .unset, .unset] []))
    refine go _ _ (fun _ k => XS.iloadN X0.here hx rfl (hb hby at_17) rfl (XS.iconst X0.here hx rfl (hb hby at_18) (XS.iushr X0.here hx rfl (hb hby at_19) rfl (XS.iconst X0.here hx rfl (hb hby at_20) (XS.iand X0.here hx rfl (hb hby at_21) rfl k))))) ?_
    show G (s₁.setTop (mkF m 22 #[.val (.int p0), .val (.int p1), .val (.int p2), .val (.int p3), .val (.int p4), .val (.int (p2 &&& (3 : Int32))), .unset, .unset, .unset, .unset, .unset, .unset, .unset, .unset, .unset] [(.int (((p2.toUInt32 >>> ((2 : Int32) &&& 31).toUInt32).toInt32) &&& (3 : Int32)))]))
    exact J101 _ _ (X0.more (by decide) (by decide)) e0 N0 (((p2.toUInt32 >>> ((2 : Int32) &&& 31).toUInt32).toInt32) &&& (3 : Int32)) (own_and3 _)
theorem own_EL_in : ∀ q ∈ own_EL, q ∈ consts_1 := by decide
set_option maxRecDepth 65536 in
set_option maxHeartbeats 40000000 in
theorem comes_1 {Post : Tables → Env → Array Value → State → Outcome → State → Prop} (hpost : ∀ tb e args s v u, (limb_1_1.after args s (.returned v) u = true ∧ limb_1_2.after args s (.returned v) u = true ∧ True) → ReturnedEndW s (.returned v) u (Jvm.fieldLocs frame_1_writes args s ++ Jvm.arrayLocs frame_1_arrays args s ++ Jvm.staticLocs frame_1_statics s) 40 4288 → Post tb e args s (.returned v) u) :
    ArmFor flags0 classFile x code maxLocals ret World_1 tables_1 room_1 Calls_1 rest_1 Pre_1 Post := by
  intro l hfl _ _ p e ha hc hk s m args below hf hA hF happ hP
  obtain ⟨hcalls, hrest, hpre⟩ := hP
  obtain ⟨-, -, -, hnamed, -, -, -, hat⟩ := (Spec.applies_iff hf).mp happ
  obtain ⟨hg, hn⟩ := and_e (Cond.before_iff.mp (show (Jvm.Cond.and given_1 narrow_1).before args s = true from hpre))
  obtain ⟨h1, g0⟩ := and_e hg
  obtain ⟨ga0, g1⟩ := and_e g0
  obtain ⟨ga1, g2⟩ := and_e g1
  obtain ⟨ga2, g3⟩ := and_e g2
  obtain ⟨ga3, g4⟩ := and_e g3
  have ga4 := g4
  obtain ⟨w0, w1, w2, w3, w4, rfl⟩ : ∃ w0 w1 w2 w3 w4 : Value, args = #[w0, w1, w2, w3, w4] := by
    have hs : args.size = 5 := by simpa [Cond.value, given_1] using h1
    obtain ⟨L⟩ := args
    match L, hs with
    | [w0, w1, w2, w3, w4], _ => exact ⟨w0, w1, w2, w3, w4, rfl⟩
  have hw := fun d (hd : d ∈ tables_1) => atoms_spec (ws := Jvm.Cond.code x code maxLocals ret :: tables_1) hat d (List.mem_cons_of_mem _ hd)
  obtain ⟨hsets, hown0⟩ := atoms_of _ (rest_1_c_eq ▸ (show rest_1_c.before _ s = true from hrest))
  have hfit : Fit s := fun {y c} hc i hi => by
    obtain ⟨ha, rfl⟩ := Array.getElem?_eq_some_iff.mp hc
    have q := List.all_eq_true.mp ((Array.all_eq_true_iff_forall_mem.mp hF) _ (Array.getElem_mem ha)) i (List.mem_range.mpr hi)
    simpa [Array.getElem?_eq_getElem hi] using q
  obtain ⟨i0, ea0⟩ := is_v ga0
  obtain rfl : w0 = (.int i0) := Option.some.inj ea0
  obtain ⟨i1, ea1⟩ := is_v ga1
  obtain rfl : w1 = (.int i1) := Option.some.inj ea1
  obtain ⟨i2, ea2⟩ := is_v ga2
  obtain rfl : w2 = (.int i2) := Option.some.inj ea2
  obtain ⟨i3, ea3⟩ := is_v ga3
  obtain rfl : w3 = (.int i3) := Option.some.inj ea3
  obtain ⟨i4, ea4⟩ := is_v ga4
  obtain rfl : w4 = (.int i4) := Option.some.inj ea4
  have n3 := not_v (Cond.before_iff.mp (hsets _ (List.mem_of_getElem? (i := 2) rfl)))
  obtain ⟨iz, ez⟩ := is_v (Cond.before_iff.mp (hsets _ (List.mem_of_getElem? (i := 1) rfl)))
  have S8 : Sta s s.heap "java/lang/String" "COMPACT_STRINGS" "Z" (.int iz) := Sta.start ez (Or.inl (hsets _ (List.mem_of_getElem? (i := 0) rfl)))
  have c13 : ¬ (iz = (0 : Int32)) := gotF (Cond.eq_ints ez (Term.int_eval (0))) n3
  obtain ⟨v9, e10, r11⟩ := isR_v (Cond.before_iff.mp (hsets _ (List.mem_of_getElem? (i := 8) rfl)))
  have S12 : Sta s s.heap "jdk/internal/util/Preconditions" "SIOOBE_FORMATTER" "Ljava/util/function/BiFunction;" v9 := Sta.start e10 (Or.inl (hsets _ (List.mem_of_getElem? (i := 7) rfl)))
  have CHv0 : CHv s own_EL s.vm s.heap := CHv.start (own_hEL hw) (fun q hq => hcalls.1 q (own_EL_in q hq)) (hsets _ (List.mem_of_getElem? (i := 2) rfl)) (ow hw 23 rfl) (ow hw 5 rfl)
  obtain ⟨n, o, h1, h2, h3, v, L, rfl, ⟨N, -, q⟩, -, hq⟩ := rmLaw l s _ hw iz S8 c13 v9 S12 r11 tables_1 i0 i1 i2 i3 i4 s.heap s.heap.size (Nat.le_refl _) (Old.start s) p e ha hc hk s m _ below hf ((Spec.applies_iff_loose hf).mp happ).1 ⟨rfl, State.Warmed39.refl s, rfl, CHv0⟩ trivial
  subst q
  refine ⟨n, _, h1, h2, h3, hpost _ _ _ _ _ _ ⟨Cond.after_iff.mpr rfl, Cond.after_iff.mpr (eq_i res_at (Term.int_eval (1)) rfl), trivial⟩ ⟨hq.1, hq.2.1, hq.2.2.1, (hq.2.2.2.sift fun y hy => Or.inr (N y hy)).mono (by decide) (by decide)⟩⟩
theorem main_1_1 : Claimed_1_1 := comes_1 fun _ _ _ _ _ _ h hF => ⟨h.1, hF⟩
theorem main_1_2 : Claimed_1_2 := comes_1 fun _ _ _ _ _ _ h hF => ⟨h.2.1, hF⟩
end Jvm.Pilot.@@N@@
namespace Jvm.Pilot.@@N@@
open Jvm Jvm.ClassFile Sem Op Lib Jvm.Free Jvm.Stand Jvm.Pilot.@@N@@.Jvm.D
/-! MADE BY PROGRAM (witnessworld.py) out of the Statement's table words and the real class files: 24 classes; the members and pool entries that the words name. The judged class is class 1, her method 2. -/
namespace start1
open Jvm.ClassFile
def u (s : String) : CpInfo := .utf8 (stringToUtf16 s)
/-- a pool by its gaps: so many unusable entries, then the entry; so many at the end -/
def gap : Nat → List CpInfo → List CpInfo
  | 0, r => r
  | n + 1, r => .unusable :: gap n r
def poolList (es : List (Nat × CpInfo)) (last : Nat) : List CpInfo := es.foldr (fun e r => gap e.1 (e.2 :: r)) (gap last [])
def pool (es : List (Nat × CpInfo)) (last : Nat) : Array CpInfo := ⟨poolList es last⟩
def fileOf (pool : Array CpInfo) (this : Nat) (attrs : Array Attribute := #[]) (ms : Array MethodInfo := #[]) (fl : Nat := 33) (sup : Nat := 0) (ifs : Array Nat := #[]) (fds : Array FieldInfo := #[]) : ClassFile where
  minorVersion := 0
  majorVersion := 65
  constantPool := pool
  accessFlags := fl
  thisClass := this
  superClass := sup
  interfaces := ifs
  fields := fds
  methods := ms
  attributes := attrs
def plain (name : String) (sup : Option ClassId) : Class where
  name := name
  kind := .ordinary
  loader := none
  accessFlags := 33
  super := sup
  interfaces := #[]
  cf := none
  fields := #[]
  methods := #[]
  instanceTypes := #[]
  staticTypes := #[]
  resolved := #[]
  callSites := []
  init := .initialized
  statics := none
  mirror := none

def pool0 : Array CpInfo := pool [(5, u "<init>"), (0, u "()V"), (1, .class_ 10), (1, u "java/lang/Object")] 113

def k0c0 : Code := { maxStack := 0, maxLocals := 1, code := object_method_1_code, exceptionTable := #[], attributes := #[] }
def k0m0 : Method := { name := "<init>", desc := "()V", sig := { parameters := [], returnType := none }, accessFlags := 1, code := some k0c0 }
/-- java/lang/Object -/
def k0 : Class := { plain "java/lang/Object" none with
  accessFlags := 33
  interfaces := #[]
  cf := some (fileOf pool0 8 #[] #[{ accessFlags := 1, nameIndex := 5, descriptorIndex := 6, attributes := #[] }] 33 0 #[] #[])
  fields := #[]
  methods := #[k0m0]
  instanceTypes := #[]
  staticTypes := #[]
  resolved := Array.replicate 124 none
  statics := none }

def pool1 : Array CpInfo := pool [(2, .class_ 4), (1, u "java/lang/Object"), (0, u "<init>"), (0, u "()V"), (0, .string 8), (0, u ""), (0, .methodref 10 11), (0, .class_ 12), (0, .nameAndType 13 14), (0, u "java/lang/String"), (0, u "valueOf"), (0, u "(C)Ljava/lang/String;"), (0, .methodref 10 16), (0, .nameAndType 5 17), (0, u "([C)V"), (0, .methodref 19 20), (0, .class_ 21), (0, .nameAndType 22 23), (0, u "com/example/naslov/naslov/UriEqualsPinLaw"), (0, u "str"), (0, u "(II)Ljava/lang/String;"), (0, .class_ 25), (0, u "com/example/naslov/naslov/Uri"), (0, .methodref 24 27), (0, .nameAndType 5 28), (0, u "(Ljava/lang/String;Ljava/lang/String;Ljava/lang/String;Ljava/lang/String;Ljava/lang/String;Ljava/lang/String;)V"), (0, .methodref 24 30), (0, .nameAndType 31 32), (0, u "equals"), (0, u "(Ljava/lang/Object;)Z"), (3, u "law"), (0, u "(IIIII)Z")] 2

def k1m0 : Method := { name := "<init>", desc := "()V", sig := { parameters := [], returnType := none }, accessFlags := 2, code := none }
def k1c1 : Code := { maxStack := 6, maxLocals := 5, code := method_2_code, exceptionTable := #[], attributes := #[] }
def k1m1 : Method := { name := "str", desc := "(II)Ljava/lang/String;", sig := { parameters := [.int, .int], returnType := some (.object "java/lang/String") }, accessFlags := 10, code := some k1c1 }
def k1c2 : Code := { maxStack := 9, maxLocals := 15, code := code, exceptionTable := #[], attributes := #[] }
def k1m2 : Method := { name := "law", desc := "(IIIII)Z", sig := { parameters := [.int, .int, .int, .int, .int], returnType := some .boolean }, accessFlags := 9, code := some k1c2 }
/-- com/example/naslov/naslov/UriEqualsPinLaw -/
def k1 : Class := { plain "com/example/naslov/naslov/UriEqualsPinLaw" (some 0) with
  accessFlags := 49
  interfaces := #[]
  cf := some (fileOf pool1 19 #[] #[{ accessFlags := 2, nameIndex := 5, descriptorIndex := 6, attributes := #[] }, { accessFlags := 10, nameIndex := 22, descriptorIndex := 23, attributes := #[] }, { accessFlags := 9, nameIndex := 36, descriptorIndex := 37, attributes := #[] }] 49 2 #[] #[])
  fields := #[]
  methods := #[k1m0, k1m1, k1m2]
  instanceTypes := #[]
  staticTypes := #[]
  resolved := Array.replicate 40 none
  statics := none }

def pool2 : Array CpInfo := pool [(1, .class_ 2), (0, u "java/io/Serializable"), (0, .class_ 4), (0, u "java/lang/Object")] 2

/-- java/io/Serializable -/
def k2 : Class := { plain "java/io/Serializable" (some 0) with
  accessFlags := 1537
  interfaces := #[]
  cf := some (fileOf pool2 1 #[] #[] 1537 3 #[] #[])
  fields := #[]
  methods := #[]
  instanceTypes := #[]
  staticTypes := #[]
  resolved := Array.replicate 7 none
  statics := none }

def pool3 : Array CpInfo := pool [(1, .class_ 2), (0, u "java/lang/Comparable"), (0, .class_ 4), (0, u "java/lang/Object")] 7

/-- java/lang/Comparable -/
def k3 : Class := { plain "java/lang/Comparable" (some 0) with
  accessFlags := 1537
  interfaces := #[]
  cf := some (fileOf pool3 1 #[] #[] 1537 3 #[] #[])
  fields := #[]
  methods := #[]
  instanceTypes := #[]
  staticTypes := #[]
  resolved := Array.replicate 12 none
  statics := none }

def pool4 : Array CpInfo := pool [(2, .class_ 4), (1, u "java/lang/CharSequence"), (42, .class_ 48), (0, u "java/lang/CharSequence$1CodePointIterator"), (10, .class_ 60), (0, u "java/lang/CharSequence$1CharIterator"), (5, .class_ 67), (0, u "java/lang/Object")] 63

/-- java/lang/CharSequence -/
def k4 : Class := { plain "java/lang/CharSequence" (some 0) with
  accessFlags := 1537
  interfaces := #[]
  cf := some (fileOf pool4 2 #[.nestMembers #[47, 59]] #[] 1537 66 #[] #[])
  fields := #[]
  methods := #[]
  instanceTypes := #[]
  staticTypes := #[]
  resolved := Array.replicate 131 none
  statics := none }

def pool5 : Array CpInfo := pool [(1, .class_ 2), (0, u "java/lang/constant/Constable"), (0, .class_ 4), (0, u "java/lang/Object")] 6

/-- java/lang/constant/Constable -/
def k5 : Class := { plain "java/lang/constant/Constable" (some 0) with
  accessFlags := 1537
  interfaces := #[]
  cf := some (fileOf pool5 1 #[] #[] 1537 3 #[] #[])
  fields := #[]
  methods := #[]
  instanceTypes := #[]
  staticTypes := #[]
  resolved := Array.replicate 11 none
  statics := none }

def pool6 : Array CpInfo := pool [(1, .class_ 2), (0, u "java/lang/constant/ConstantDesc"), (0, .class_ 4), (0, u "java/lang/Object")] 32

/-- java/lang/constant/ConstantDesc -/
def k6 : Class := { plain "java/lang/constant/ConstantDesc" (some 0) with
  accessFlags := 1537
  interfaces := #[]
  cf := some (fileOf pool6 1 #[] #[] 1537 3 #[] #[])
  fields := #[]
  methods := #[]
  instanceTypes := #[]
  staticTypes := #[]
  resolved := Array.replicate 37 none
  statics := none }

def pool7 : Array CpInfo := pool [(1, .methodref 2 3), (0, .class_ 4), (0, .nameAndType 5 6), (0, u "java/lang/Object"), (0, u "<init>"), (0, u "()V"), (2, .fieldref 10 11), (0, .class_ 12), (0, .nameAndType 13 14), (0, u "java/lang/String"), (0, u "value"), (0, u "[B"), (0, .fieldref 10 16), (0, .nameAndType 17 18), (0, u "coder"), (0, u "B"), (2, u "hash"), (0, u "I"), (2, u "hashIsZero"), (0, u "Z"), (0, .methodref 10 28), (0, .nameAndType 5 29), (0, u "([CIILjava/lang/Void;)V"), (8, .fieldref 10 39), (0, .nameAndType 40 26), (0, u "COMPACT_STRINGS"), (1, .class_ 44), (1, u "java/lang/StringUTF16"), (0, u "compress"), (1, .methodref 42 48), (0, .nameAndType 49 50), (0, u "coderFromArrayLen"), (0, u "([BI)B"), (2, u "toBytes"), (53, .class_ 109), (1, u "java/lang/StringLatin1"), (32, u "()Z"), (34, .methodref 42 178), (0, .nameAndType 45 179), (0, u "([CII)[B"), (29, .methodref 10 210), (0, .nameAndType 5 211), (0, u "([BB)V"), (122, u "()I"), (0, .methodref 10 336), (0, .nameAndType 17 337), (0, u "()B"), (31, u "(C)Z"), (6, u "([BI[BII)I"), (115, .methodref 10 493), (0, .nameAndType 494 142), (0, u "isLatin1"), (10, .methodref 10 506), (0, .nameAndType 507 334), (0, u "length"), (5, u "checkFromToIndex"), (7, .methodref 10 522), (0, .nameAndType 523 524), (0, u "checkBoundsBeginEnd"), (0, u "(III)V"), (16, .methodref 107 542), (0, .nameAndType 543 544), (0, u "equals"), (0, u "([B[B)Z"), (14, .class_ 561), (1, u "jdk/internal/util/ArraysSupport"), (0, u "mismatch"), (10, u "(Ljava/lang/Object;)Z"), (1, .class_ 576), (0, u "java/lang/CharSequence"), (22, u "CASE_INSENSITIVE_ORDER"), (0, u "Ljava/util/Comparator;"), (6, .methodref 559 608), (0, .nameAndType 562 376), (17, u "startsWith"), (0, u "(Ljava/lang/String;I)Z"), (5, .methodref 10 634), (0, .nameAndType 635 636), (0, u "indexOf"), (0, u "(II)I"), (0, .methodref 107 638), (0, .nameAndType 635 639), (0, u "([BIII)I"), (41, .methodref 10 682), (0, .nameAndType 683 684), (0, u "substring"), (0, u "(II)Ljava/lang/String;"), (0, .methodref 107 686), (0, .nameAndType 687 688), (0, u "newString"), (0, u "([BII)Ljava/lang/String;"), (76, u "(I)I"), (16, u "valueOf"), (0, u "(C)Ljava/lang/String;"), (108, u "(I)Ljava/lang/String;"), (117, u "([C)V"), (4, .methodref 107 1016), (0, .nameAndType 1017 369), (0, u "canEncode"), (0, .methodref 107 1019), (0, .nameAndType 53 1020), (0, u "(C)[B"), (32, .fieldref 1054 1055), (0, .class_ 1056), (0, .nameAndType 1057 1058), (0, u "jdk/internal/util/Preconditions"), (0, u "SIOOBE_FORMATTER"), (0, u "Ljava/util/function/BiFunction;"), (3, .methodref 1054 1063), (0, .nameAndType 513 1064), (0, u "(IIILjava/util/function/BiFunction;)I"), (36, u "serialPersistentFields"), (0, u "[Ljava/io/ObjectStreamField;"), (0, .class_ 1104), (0, u "java/lang/String$CaseInsensitiveComparator"), (1, .class_ 1107), (0, u "java/io/Serializable"), (0, .class_ 1109), (0, u "java/lang/Comparable"), (0, .class_ 1111), (0, u "java/lang/constant/Constable"), (0, .class_ 1113), (0, u "java/lang/constant/ConstantDesc"), (2, u "serialVersionUID"), (0, u "J"), (3, u "REPL"), (0, u "C"), (2, u "LATIN1"), (1, u "UTF16")] 323

def k7m0 : Method := { name := "<init>", desc := "()V", sig := { parameters := [], returnType := none }, accessFlags := 1, code := none }
def k7c1 : Code := { maxStack := 5, maxLocals := 2, code := jdk_42_method_3_code, exceptionTable := #[], attributes := #[] }
def k7m1 : Method := { name := "<init>", desc := "([C)V", sig := { parameters := [(.array .char)], returnType := none }, accessFlags := 1, code := some k7c1 }
def k7c2 : Code := { maxStack := 2, maxLocals := 1, code := jdk_42_method_54_code, exceptionTable := #[], attributes := #[] }
def k7m2 : Method := { name := "length", desc := "()I", sig := { parameters := [], returnType := some .int }, accessFlags := 1, code := some k7c2 }
def k7c3 : Code := { maxStack := 2, maxLocals := 3, code := jdk_42_method_66_code, exceptionTable := #[], attributes := #[] }
def k7m3 : Method := { name := "equals", desc := "(Ljava/lang/Object;)Z", sig := { parameters := [(.object "java/lang/Object")], returnType := some .boolean }, accessFlags := 1, code := some k7c3 }
def k7c4 : Code := { maxStack := 5, maxLocals := 8, code := jdk_42_method_75_code, exceptionTable := #[], attributes := #[] }
def k7m4 : Method := { name := "startsWith", desc := "(Ljava/lang/String;I)Z", sig := { parameters := [(.object "java/lang/String"), .int], returnType := some .boolean }, accessFlags := 1, code := some k7c4 }
def k7c5 : Code := { maxStack := 3, maxLocals := 2, code := jdk_42_method_79_code, exceptionTable := #[], attributes := #[] }
def k7m5 : Method := { name := "indexOf", desc := "(I)I", sig := { parameters := [.int], returnType := some .int }, accessFlags := 1, code := some k7c5 }
def k7c6 : Code := { maxStack := 4, maxLocals := 3, code := jdk_42_method_80_code, exceptionTable := #[], attributes := #[] }
def k7m6 : Method := { name := "indexOf", desc := "(II)I", sig := { parameters := [.int, .int], returnType := some .int }, accessFlags := 1, code := some k7c6 }
def k7c7 : Code := { maxStack := 3, maxLocals := 2, code := jdk_42_method_91_code, exceptionTable := #[], attributes := #[] }
def k7m7 : Method := { name := "substring", desc := "(I)Ljava/lang/String;", sig := { parameters := [.int], returnType := some (.object "java/lang/String") }, accessFlags := 1, code := some k7c7 }
def k7c8 : Code := { maxStack := 3, maxLocals := 5, code := jdk_42_method_92_code, exceptionTable := #[], attributes := #[] }
def k7m8 : Method := { name := "substring", desc := "(II)Ljava/lang/String;", sig := { parameters := [.int, .int], returnType := some (.object "java/lang/String") }, accessFlags := 1, code := some k7c8 }
def k7c9 : Code := { maxStack := 4, maxLocals := 1, code := jdk_42_method_139_code, exceptionTable := #[], attributes := #[] }
def k7m9 : Method := { name := "valueOf", desc := "(C)Ljava/lang/String;", sig := { parameters := [.char], returnType := some (.object "java/lang/String") }, accessFlags := 9, code := some k7c9 }
def k7c10 : Code := { maxStack := 4, maxLocals := 6, code := jdk_42_method_149_code, exceptionTable := #[], attributes := #[] }
def k7m10 : Method := { name := "<init>", desc := "([CIILjava/lang/Void;)V", sig := { parameters := [(.array .char), .int, .int, (.object "java/lang/Void")], returnType := none }, accessFlags := 2, code := some k7c10 }
def k7c11 : Code := { maxStack := 2, maxLocals := 3, code := jdk_42_method_151_code, exceptionTable := #[], attributes := #[] }
def k7m11 : Method := { name := "<init>", desc := "([BB)V", sig := { parameters := [(.array .byte), .byte], returnType := none }, accessFlags := 0, code := some k7c11 }
def k7c12 : Code := { maxStack := 1, maxLocals := 1, code := jdk_42_method_152_code, exceptionTable := #[], attributes := #[] }
def k7m12 : Method := { name := "coder", desc := "()B", sig := { parameters := [], returnType := some .byte }, accessFlags := 0, code := some k7c12 }
def k7c13 : Code := { maxStack := 1, maxLocals := 1, code := jdk_42_method_154_code, exceptionTable := #[], attributes := #[] }
def k7m13 : Method := { name := "isLatin1", desc := "()Z", sig := { parameters := [], returnType := some .boolean }, accessFlags := 0, code := some k7c13 }
def k7c14 : Code := { maxStack := 4, maxLocals := 3, code := jdk_42_method_158_code, exceptionTable := #[], attributes := #[] }
def k7m14 : Method := { name := "checkBoundsBeginEnd", desc := "(III)V", sig := { parameters := [.int, .int, .int], returnType := none }, accessFlags := 8, code := some k7c14 }
/-- java/lang/String -/
def k7 : Class := { plain "java/lang/String" (some 0) with
  accessFlags := 49
  interfaces := #[2, 3, 4, 5, 6]
  cf := some (fileOf pool7 10 #[.nestMembers #[1103]] #[{ accessFlags := 1, nameIndex := 5, descriptorIndex := 6, attributes := #[] }, { accessFlags := 1, nameIndex := 5, descriptorIndex := 1010, attributes := #[] }, { accessFlags := 1, nameIndex := 507, descriptorIndex := 334, attributes := #[] }, { accessFlags := 1, nameIndex := 543, descriptorIndex := 573, attributes := #[] }, { accessFlags := 1, nameIndex := 626, descriptorIndex := 627, attributes := #[] }, { accessFlags := 1, nameIndex := 635, descriptorIndex := 765, attributes := #[] }, { accessFlags := 1, nameIndex := 635, descriptorIndex := 636, attributes := #[] }, { accessFlags := 1, nameIndex := 683, descriptorIndex := 892, attributes := #[] }, { accessFlags := 1, nameIndex := 683, descriptorIndex := 684, attributes := #[] }, { accessFlags := 9, nameIndex := 782, descriptorIndex := 783, attributes := #[] }, { accessFlags := 2, nameIndex := 5, descriptorIndex := 29, attributes := #[] }, { accessFlags := 0, nameIndex := 5, descriptorIndex := 211, attributes := #[] }, { accessFlags := 0, nameIndex := 17, descriptorIndex := 337, attributes := #[] }, { accessFlags := 0, nameIndex := 494, descriptorIndex := 142, attributes := #[] }, { accessFlags := 8, nameIndex := 523, descriptorIndex := 524, attributes := #[] }] 49 2 #[1106, 1108, 575, 1110, 1112] #[{ accessFlags := 18, nameIndex := 13, descriptorIndex := 14, attributes := #[] }, { accessFlags := 18, nameIndex := 17, descriptorIndex := 18, attributes := #[] }, { accessFlags := 2, nameIndex := 21, descriptorIndex := 22, attributes := #[] }, { accessFlags := 2, nameIndex := 25, descriptorIndex := 26, attributes := #[] }, { accessFlags := 26, nameIndex := 1116, descriptorIndex := 1117, attributes := #[] }, { accessFlags := 24, nameIndex := 40, descriptorIndex := 26, attributes := #[] }, { accessFlags := 26, nameIndex := 1101, descriptorIndex := 1102, attributes := #[] }, { accessFlags := 26, nameIndex := 1121, descriptorIndex := 1122, attributes := #[] }, { accessFlags := 25, nameIndex := 599, descriptorIndex := 600, attributes := #[] }, { accessFlags := 24, nameIndex := 1125, descriptorIndex := 18, attributes := #[] }, { accessFlags := 24, nameIndex := 1127, descriptorIndex := 18, attributes := #[] }])
  fields := #[{ name := "value", type := (.array .byte), accessFlags := 18, slot := 0, constantValue := 0 }, { name := "coder", type := .byte, accessFlags := 18, slot := 1, constantValue := 0 }, { name := "hash", type := .int, accessFlags := 2, slot := 2, constantValue := 0 }, { name := "hashIsZero", type := .boolean, accessFlags := 2, slot := 3, constantValue := 0 }, { name := "serialVersionUID", type := .long, accessFlags := 26, slot := 0, constantValue := 0 }, { name := "COMPACT_STRINGS", type := .boolean, accessFlags := 24, slot := 1, constantValue := 0 }, { name := "serialPersistentFields", type := (.array (.object "java/io/ObjectStreamField")), accessFlags := 26, slot := 2, constantValue := 0 }, { name := "REPL", type := .char, accessFlags := 26, slot := 3, constantValue := 0 }, { name := "CASE_INSENSITIVE_ORDER", type := (.object "java/util/Comparator"), accessFlags := 25, slot := 4, constantValue := 0 }, { name := "LATIN1", type := .byte, accessFlags := 24, slot := 5, constantValue := 0 }, { name := "UTF16", type := .byte, accessFlags := 24, slot := 6, constantValue := 0 }]
  methods := #[k7m0, k7m1, k7m2, k7m3, k7m4, k7m5, k7m6, k7m7, k7m8, k7m9, k7m10, k7m11, k7m12, k7m13, k7m14]
  instanceTypes := #[(.array .byte), .byte, .int, .boolean]
  staticTypes := #[.long, .boolean, (.array (.object "java/io/ObjectStreamField")), .char, (.object "java/util/Comparator"), .byte, .byte]
  resolved := Array.replicate 1451 none
  statics := some 0 }

def pool8 : Array CpInfo := pool [(6, .class_ 8), (1, u "java/lang/Object"), (0, u "<init>"), (0, u "()V"), (1, .class_ 14), (1, u "java/lang/StringUTF16"), (31, u "$assertionsDisabled"), (0, u "Z"), (13, u "HI_BYTE_SHIFT"), (0, u "I"), (2, u "LO_BYTE_SHIFT"), (49, .methodref 12 116), (0, .nameAndType 117 118), (0, u "compress"), (0, u "([CI[BII)I"), (3, u "([CII)[B"), (138, u "coderFromArrayLen"), (0, u "([BI)B"), (106, .class_ 371), (1, u "java/lang/StringUTF16$LinesSpliterator"), (58, u "MAX_LENGTH"), (196, .class_ 628), (0, u "java/lang/StringUTF16$CodePointsSpliterator"), (0, .class_ 630), (0, u "java/lang/StringUTF16$CharsSpliterator")] 4

def k8m0 : Method := { name := "<init>", desc := "()V", sig := { parameters := [], returnType := none }, accessFlags := 0, code := none }
def k8c1 : Code := { maxStack := 2, maxLocals := 2, code := jdk_52_method_15_code, exceptionTable := #[], attributes := #[] }
def k8m1 : Method := { name := "coderFromArrayLen", desc := "([BI)B", sig := { parameters := [(.array .byte), .int], returnType := some .byte }, accessFlags := 8, code := some k8c1 }
def k8c2 : Code := { maxStack := 5, maxLocals := 6, code := jdk_52_method_16_code, exceptionTable := #[], attributes := #[] }
def k8m2 : Method := { name := "compress", desc := "([CII)[B", sig := { parameters := [(.array .char), .int, .int], returnType := some (.array .byte) }, accessFlags := 9, code := some k8c2 }
def k8c3 : Code := { maxStack := 3, maxLocals := 7, code := jdk_52_method_21_code, exceptionTable := #[], attributes := #[] }
def k8m3 : Method := { name := "compress", desc := "([CI[BII)I", sig := { parameters := [(.array .char), .int, (.array .byte), .int, .int], returnType := some .int }, accessFlags := 9, code := some k8c3 }
/-- java/lang/StringUTF16 -/
def k8 : Class := { plain "java/lang/StringUTF16" (some 0) with
  accessFlags := 48
  interfaces := #[]
  cf := some (fileOf pool8 12 #[.nestMembers #[627, 629, 369]] #[{ accessFlags := 0, nameIndex := 9, descriptorIndex := 10, attributes := #[] }, { accessFlags := 8, nameIndex := 261, descriptorIndex := 262, attributes := #[] }, { accessFlags := 9, nameIndex := 117, descriptorIndex := 122, attributes := #[] }, { accessFlags := 9, nameIndex := 117, descriptorIndex := 118, attributes := #[] }] 48 6 #[] #[{ accessFlags := 26, nameIndex := 61, descriptorIndex := 62, attributes := #[] }, { accessFlags := 26, nameIndex := 65, descriptorIndex := 62, attributes := #[] }, { accessFlags := 24, nameIndex := 430, descriptorIndex := 62, attributes := #[] }, { accessFlags := 4120, nameIndex := 46, descriptorIndex := 47, attributes := #[] }])
  fields := #[{ name := "HI_BYTE_SHIFT", type := .int, accessFlags := 26, slot := 0, constantValue := 0 }, { name := "LO_BYTE_SHIFT", type := .int, accessFlags := 26, slot := 1, constantValue := 0 }, { name := "MAX_LENGTH", type := .int, accessFlags := 24, slot := 2, constantValue := 0 }, { name := "$assertionsDisabled", type := .boolean, accessFlags := 4120, slot := 3, constantValue := 0 }]
  methods := #[k8m0, k8m1, k8m2, k8m3]
  instanceTypes := #[]
  staticTypes := #[.int, .int, .int, .boolean]
  resolved := Array.replicate 635 none
  statics := none }

def pool9 : Array CpInfo := pool [(2, .class_ 4), (1, u "com/example/naslov/naslov/Uri"), (4, u "<init>"), (0, u "(Ljava/lang/String;Ljava/lang/String;Ljava/lang/String;Ljava/lang/String;Ljava/lang/String;Ljava/lang/String;)V"), (0, .methodref 12 13), (0, .class_ 14), (0, .nameAndType 9 15), (0, u "java/lang/Object"), (0, u "()V"), (0, .fieldref 2 17), (0, .nameAndType 18 19), (0, u "text"), (0, u "Ljava/lang/String;"), (0, .fieldref 2 21), (0, .nameAndType 22 19), (0, u "scheme"), (0, .fieldref 2 24), (0, .nameAndType 25 19), (0, u "authority"), (0, .string 27), (0, u "path"), (0, .methodref 29 30), (0, .class_ 31), (0, .nameAndType 32 33), (0, u "java/util/Objects"), (0, u "requireNonNull"), (0, u "(Ljava/lang/Object;Ljava/lang/String;)Ljava/lang/Object;"), (0, .class_ 35), (0, u "java/lang/String"), (0, .fieldref 2 37), (0, .nameAndType 27 19), (0, .fieldref 2 39), (0, .nameAndType 40 19), (0, u "query"), (0, .fieldref 2 42), (0, .nameAndType 43 19), (0, u "fragment"), (0, .methodref 34 45), (0, .nameAndType 46 47), (0, u "indexOf"), (0, u "(I)I"), (0, .methodref 34 49), (0, .nameAndType 50 51), (0, u "substring"), (0, u "(II)Ljava/lang/String;"), (0, .string 53), (0, u "["), (0, .methodref 34 55), (0, .nameAndType 56 57), (0, u "startsWith"), (0, u "(Ljava/lang/String;I)Z"), (0, .methodref 34 59), (0, .nameAndType 46 60), (0, u "(II)I"), (0, .methodref 34 62), (0, .nameAndType 63 64), (0, u "length"), (0, u "()I"), (0, .methodref 34 66), (0, .nameAndType 50 67), (0, u "(I)Ljava/lang/String;"), (0, .fieldref 2 69), (0, .nameAndType 70 19), (0, u "userInfo"), (0, .fieldref 2 72), (0, .nameAndType 73 19), (0, u "host"), (0, .fieldref 2 75), (0, .nameAndType 76 19), (0, u "port"), (52, u "(Ljava/lang/Object;)Z"), (54, .nameAndType 185 129), (0, u "equals"), (17, .methodref 34 184)] 68

def k9c0 : Code := { maxStack := 3, maxLocals := 14, code := prog_10_method_2_code, exceptionTable := #[], attributes := #[] }
def k9m0 : Method := { name := "<init>", desc := "(Ljava/lang/String;Ljava/lang/String;Ljava/lang/String;Ljava/lang/String;Ljava/lang/String;Ljava/lang/String;)V", sig := { parameters := [(.object "java/lang/String"), (.object "java/lang/String"), (.object "java/lang/String"), (.object "java/lang/String"), (.object "java/lang/String"), (.object "java/lang/String")], returnType := none }, accessFlags := 0, code := some k9c0 }
def k9c1 : Code := { maxStack := 2, maxLocals := 2, code := prog_10_method_26_code, exceptionTable := #[], attributes := #[] }
def k9m1 : Method := { name := "equals", desc := "(Ljava/lang/Object;)Z", sig := { parameters := [(.object "java/lang/Object")], returnType := some .boolean }, accessFlags := 1, code := some k9c1 }
/-- com/example/naslov/naslov/Uri -/
def k9 : Class := { plain "com/example/naslov/naslov/Uri" (some 0) with
  accessFlags := 33
  interfaces := #[]
  cf := some (fileOf pool9 2 #[] #[{ accessFlags := 0, nameIndex := 9, descriptorIndex := 10, attributes := #[] }, { accessFlags := 1, nameIndex := 185, descriptorIndex := 129, attributes := #[] }] 33 12 #[] #[{ accessFlags := 18, nameIndex := 22, descriptorIndex := 19, attributes := #[] }, { accessFlags := 18, nameIndex := 25, descriptorIndex := 19, attributes := #[] }, { accessFlags := 18, nameIndex := 70, descriptorIndex := 19, attributes := #[] }, { accessFlags := 18, nameIndex := 73, descriptorIndex := 19, attributes := #[] }, { accessFlags := 18, nameIndex := 76, descriptorIndex := 19, attributes := #[] }, { accessFlags := 18, nameIndex := 27, descriptorIndex := 19, attributes := #[] }, { accessFlags := 18, nameIndex := 40, descriptorIndex := 19, attributes := #[] }, { accessFlags := 18, nameIndex := 43, descriptorIndex := 19, attributes := #[] }, { accessFlags := 18, nameIndex := 18, descriptorIndex := 19, attributes := #[] }])
  fields := #[{ name := "scheme", type := (.object "java/lang/String"), accessFlags := 18, slot := 0, constantValue := 0 }, { name := "authority", type := (.object "java/lang/String"), accessFlags := 18, slot := 1, constantValue := 0 }, { name := "userInfo", type := (.object "java/lang/String"), accessFlags := 18, slot := 2, constantValue := 0 }, { name := "host", type := (.object "java/lang/String"), accessFlags := 18, slot := 3, constantValue := 0 }, { name := "port", type := (.object "java/lang/String"), accessFlags := 18, slot := 4, constantValue := 0 }, { name := "path", type := (.object "java/lang/String"), accessFlags := 18, slot := 5, constantValue := 0 }, { name := "query", type := (.object "java/lang/String"), accessFlags := 18, slot := 6, constantValue := 0 }, { name := "fragment", type := (.object "java/lang/String"), accessFlags := 18, slot := 7, constantValue := 0 }, { name := "text", type := (.object "java/lang/String"), accessFlags := 18, slot := 8, constantValue := 0 }]
  methods := #[k9m0, k9m1]
  instanceTypes := #[(.object "java/lang/String"), (.object "java/lang/String"), (.object "java/lang/String"), (.object "java/lang/String"), (.object "java/lang/String"), (.object "java/lang/String"), (.object "java/lang/String"), (.object "java/lang/String"), (.object "java/lang/String")]
  staticTypes := #[]
  resolved := Array.replicate 272 none
  statics := none }

def pool10 : Array CpInfo := pool [(2, .class_ 4), (1, u "java/lang/Object"), (0, u "<init>"), (0, u "()V"), (35, .class_ 44), (1, u "java/util/Objects"), (0, u "requireNonNull"), (48, u "(Ljava/lang/Object;Ljava/lang/String;)Ljava/lang/Object;")] 89

def k10m0 : Method := { name := "<init>", desc := "()V", sig := { parameters := [], returnType := none }, accessFlags := 2, code := none }
def k10c1 : Code := { maxStack := 3, maxLocals := 2, code := jdk_31_method_11_code, exceptionTable := #[], attributes := #[] }
def k10m1 : Method := { name := "requireNonNull", desc := "(Ljava/lang/Object;Ljava/lang/String;)Ljava/lang/Object;", sig := { parameters := [(.object "java/lang/Object"), (.object "java/lang/String")], returnType := some (.object "java/lang/Object") }, accessFlags := 9, code := some k10c1 }
/-- java/util/Objects -/
def k10 : Class := { plain "java/util/Objects" (some 0) with
  accessFlags := 49
  interfaces := #[]
  cf := some (fileOf pool10 42 #[] #[{ accessFlags := 2, nameIndex := 5, descriptorIndex := 6, attributes := #[] }, { accessFlags := 9, nameIndex := 45, descriptorIndex := 94, attributes := #[] }] 49 2 #[] #[])
  fields := #[]
  methods := #[k10m0, k10m1]
  instanceTypes := #[]
  staticTypes := #[]
  resolved := Array.replicate 184 none
  statics := none }

def pool11 : Array CpInfo := pool [(1, .class_ 2), (0, u "java/lang/String"), (1, .class_ 6), (1, u "java/lang/Object"), (0, u "<init>"), (0, u "()V"), (5, .class_ 16), (1, u "java/lang/StringLatin1"), (21, .methodref 39 40), (0, .class_ 41), (0, .nameAndType 42 43), (0, u "java/lang/Math"), (0, u "min"), (0, u "(II)I"), (44, .methodref 14 89), (0, .nameAndType 90 91), (0, u "canEncode"), (0, u "(I)Z"), (0, .methodref 39 93), (0, .nameAndType 94 43), (0, u "max"), (0, .methodref 14 96), (0, .nameAndType 97 98), (0, u "indexOfChar"), (0, u "([BIII)I"), (2, u "indexOf"), (3, u "(C)Z"), (6, .methodref 1 113), (0, .nameAndType 7 114), (0, u "([BB)V"), (6, u "$assertionsDisabled"), (0, u "Z"), (8, .class_ 133), (1, u "java/util/Arrays"), (17, .string 152), (0, u ""), (43, u "newString"), (0, u "([BII)Ljava/lang/String;"), (23, .class_ 223), (1, u "java/lang/StringLatin1$LinesSpliterator"), (8, .methodref 131 233), (0, .nameAndType 234 235), (0, u "copyOfRange"), (0, u "([BII)[B"), (45, u "equals"), (0, u "([B[B)Z"), (97, u "toBytes"), (1, u "(C)[B"), (7, .class_ 391), (0, u "java/lang/StringLatin1$CharsSpliterator")] 3

def k11m0 : Method := { name := "<init>", desc := "()V", sig := { parameters := [], returnType := none }, accessFlags := 0, code := none }
def k11c1 : Code := { maxStack := 2, maxLocals := 1, code := jdk_43_method_3_code, exceptionTable := #[], attributes := #[] }
def k11m1 : Method := { name := "canEncode", desc := "(C)Z", sig := { parameters := [.char], returnType := some .boolean }, accessFlags := 9, code := some k11c1 }
def k11c2 : Code := { maxStack := 2, maxLocals := 1, code := jdk_43_method_4_code, exceptionTable := #[], attributes := #[] }
def k11m2 : Method := { name := "canEncode", desc := "(I)Z", sig := { parameters := [.int], returnType := some .boolean }, accessFlags := 9, code := some k11c2 }
def k11c3 : Code := { maxStack := 3, maxLocals := 3, code := jdk_43_method_13_code, exceptionTable := #[], attributes := #[] }
def k11m3 : Method := { name := "equals", desc := "([B[B)Z", sig := { parameters := [(.array .byte), (.array .byte)], returnType := some .boolean }, accessFlags := 9, code := some k11c3 }
def k11c4 : Code := { maxStack := 4, maxLocals := 4, code := jdk_43_method_22_code, exceptionTable := #[], attributes := #[] }
def k11m4 : Method := { name := "indexOf", desc := "([BIII)I", sig := { parameters := [(.array .byte), .int, .int, .int], returnType := some .int }, accessFlags := 9, code := some k11c4 }
def k11c5 : Code := { maxStack := 2, maxLocals := 6, code := jdk_43_method_23_code, exceptionTable := #[], attributes := #[] }
def k11m5 : Method := { name := "indexOfChar", desc := "([BIII)I", sig := { parameters := [(.array .byte), .int, .int, .int], returnType := some .int }, accessFlags := 10, code := some k11c5 }
def k11c6 : Code := { maxStack := 4, maxLocals := 1, code := jdk_43_method_46_code, exceptionTable := #[], attributes := #[] }
def k11m6 : Method := { name := "toBytes", desc := "(C)[B", sig := { parameters := [.char], returnType := some (.array .byte) }, accessFlags := 9, code := some k11c6 }
def k11c7 : Code := { maxStack := 6, maxLocals := 3, code := jdk_43_method_47_code, exceptionTable := #[], attributes := #[] }
def k11m7 : Method := { name := "newString", desc := "([BII)Ljava/lang/String;", sig := { parameters := [(.array .byte), .int, .int], returnType := some (.object "java/lang/String") }, accessFlags := 9, code := some k11c7 }
/-- java/lang/StringLatin1 -/
def k11 : Class := { plain "java/lang/StringLatin1" (some 0) with
  accessFlags := 48
  interfaces := #[]
  cf := some (fileOf pool11 14 #[.nestMembers #[390, 221]] #[{ accessFlags := 0, nameIndex := 7, descriptorIndex := 8, attributes := #[] }, { accessFlags := 9, nameIndex := 90, descriptorIndex := 105, attributes := #[] }, { accessFlags := 9, nameIndex := 90, descriptorIndex := 91, attributes := #[] }, { accessFlags := 9, nameIndex := 281, descriptorIndex := 282, attributes := #[] }, { accessFlags := 9, nameIndex := 101, descriptorIndex := 98, attributes := #[] }, { accessFlags := 10, nameIndex := 97, descriptorIndex := 98, attributes := #[] }, { accessFlags := 9, nameIndex := 380, descriptorIndex := 382, attributes := #[] }, { accessFlags := 9, nameIndex := 196, descriptorIndex := 197, attributes := #[] }] 48 4 #[] #[{ accessFlags := 4120, nameIndex := 121, descriptorIndex := 122, attributes := #[] }])
  fields := #[{ name := "$assertionsDisabled", type := .boolean, accessFlags := 4120, slot := 0, constantValue := 0 }]
  methods := #[k11m0, k11m1, k11m2, k11m3, k11m4, k11m5, k11m6, k11m7]
  instanceTypes := #[]
  staticTypes := #[.boolean]
  resolved := Array.replicate 395 none
  statics := none }

def pool12 : Array CpInfo := pool [(1, .class_ 2), (0, u "java/lang/Math"), (1, .class_ 6), (1, u "java/lang/Object"), (0, u "<init>"), (0, u "()V"), (89, .class_ 100), (1, u "java/lang/Math$RandomNumberGeneratorHolder"), (71, u "negativeZeroFloatBits"), (0, u "J"), (2, u "negativeZeroDoubleBits"), (21, u "max"), (2, u "min"), (43, u "$assertionsDisabled"), (0, u "Z"), (88, u "(II)I"), (2, u "twoToTheDoubleScaleDown"), (0, u "D"), (4, u "twoToTheDoubleScaleUp"), (9, u "E"), (3, u "PI"), (2, u "TAU"), (2, u "DEGREES_TO_RADIANS"), (0, u "RADIANS_TO_DEGREES")] 94

def k12m0 : Method := { name := "<init>", desc := "()V", sig := { parameters := [], returnType := none }, accessFlags := 2, code := none }
def k12c1 : Code := { maxStack := 2, maxLocals := 2, code := jdk_29_method_65_code, exceptionTable := #[], attributes := #[] }
def k12m1 : Method := { name := "max", desc := "(II)I", sig := { parameters := [.int, .int], returnType := some .int }, accessFlags := 9, code := some k12c1 }
def k12c2 : Code := { maxStack := 2, maxLocals := 2, code := jdk_29_method_69_code, exceptionTable := #[], attributes := #[] }
def k12m2 : Method := { name := "min", desc := "(II)I", sig := { parameters := [.int, .int], returnType := some .int }, accessFlags := 9, code := some k12c2 }
/-- java/lang/Math -/
def k12 : Class := { plain "java/lang/Math" (some 0) with
  accessFlags := 49
  interfaces := #[]
  cf := some (fileOf pool12 1 #[.nestMembers #[98]] #[{ accessFlags := 2, nameIndex := 7, descriptorIndex := 8, attributes := #[] }, { accessFlags := 9, nameIndex := 198, descriptorIndex := 335, attributes := #[] }, { accessFlags := 9, nameIndex := 201, descriptorIndex := 335, attributes := #[] }] 49 4 #[] #[{ accessFlags := 25, nameIndex := 354, descriptorIndex := 339, attributes := #[] }, { accessFlags := 25, nameIndex := 358, descriptorIndex := 339, attributes := #[] }, { accessFlags := 25, nameIndex := 361, descriptorIndex := 339, attributes := #[] }, { accessFlags := 26, nameIndex := 364, descriptorIndex := 339, attributes := #[] }, { accessFlags := 26, nameIndex := 365, descriptorIndex := 339, attributes := #[] }, { accessFlags := 26, nameIndex := 172, descriptorIndex := 173, attributes := #[] }, { accessFlags := 26, nameIndex := 176, descriptorIndex := 173, attributes := #[] }, { accessFlags := 8, nameIndex := 344, descriptorIndex := 339, attributes := #[] }, { accessFlags := 8, nameIndex := 338, descriptorIndex := 339, attributes := #[] }, { accessFlags := 4120, nameIndex := 245, descriptorIndex := 246, attributes := #[] }])
  fields := #[{ name := "E", type := .double, accessFlags := 25, slot := 0, constantValue := 0 }, { name := "PI", type := .double, accessFlags := 25, slot := 1, constantValue := 0 }, { name := "TAU", type := .double, accessFlags := 25, slot := 2, constantValue := 0 }, { name := "DEGREES_TO_RADIANS", type := .double, accessFlags := 26, slot := 3, constantValue := 0 }, { name := "RADIANS_TO_DEGREES", type := .double, accessFlags := 26, slot := 4, constantValue := 0 }, { name := "negativeZeroFloatBits", type := .long, accessFlags := 26, slot := 5, constantValue := 0 }, { name := "negativeZeroDoubleBits", type := .long, accessFlags := 26, slot := 6, constantValue := 0 }, { name := "twoToTheDoubleScaleUp", type := .double, accessFlags := 8, slot := 7, constantValue := 0 }, { name := "twoToTheDoubleScaleDown", type := .double, accessFlags := 8, slot := 8, constantValue := 0 }, { name := "$assertionsDisabled", type := .boolean, accessFlags := 4120, slot := 9, constantValue := 0 }]
  methods := #[k12m0, k12m1, k12m2]
  instanceTypes := #[]
  staticTypes := #[.double, .double, .double, .double, .double, .long, .long, .double, .double, .boolean]
  resolved := Array.replicate 460 none
  statics := none }

def pool13 : Array CpInfo := pool [(9, u "<init>"), (6, .class_ 18), (1, u "java/lang/Object"), (0, u "()V"), (1, .class_ 23), (1, u "jdk/internal/util/ArraysSupport"), (0, u "LOG2_ARRAY_LONG_INDEX_SCALE"), (0, u "I"), (2, u "U"), (0, u "Ljdk/internal/misc/Unsafe;"), (8, u "BIG_ENDIAN"), (0, u "Z"), (8, u "LOG2_BYTE_BIT_SIZE"), (4, u "LOG2_ARRAY_INT_INDEX_SCALE"), (54, u "JLA"), (0, u "Ljdk/internal/access/JavaLangAccess;"), (11, u "LOG2_ARRAY_BOOLEAN_INDEX_SCALE"), (9, u "LOG2_ARRAY_BYTE_INDEX_SCALE"), (5, u "LOG2_ARRAY_CHAR_INDEX_SCALE"), (5, u "LOG2_ARRAY_SHORT_INDEX_SCALE"), (5, u "mismatch"), (12, u "LOG2_ARRAY_FLOAT_INDEX_SCALE"), (24, u "LOG2_ARRAY_DOUBLE_INDEX_SCALE"), (89, u "T_BOOLEAN"), (2, u "T_CHAR"), (1, u "T_FLOAT"), (1, u "T_DOUBLE"), (1, u "T_BYTE"), (1, u "T_SHORT"), (1, u "T_INT"), (1, u "T_LONG"), (1, u "SOFT_MAX_ARRAY_LENGTH"), (42, u "([BI[BII)I")] 40

def k13m0 : Method := { name := "<init>", desc := "()V", sig := { parameters := [], returnType := none }, accessFlags := 2, code := none }
def k13c1 : Code := { maxStack := 8, maxLocals := 8, code := jdk_48_method_14_code, exceptionTable := #[], attributes := #[] }
def k13m1 : Method := { name := "mismatch", desc := "([BI[BII)I", sig := { parameters := [(.array .byte), .int, (.array .byte), .int, .int], returnType := some .int }, accessFlags := 9, code := some k13c1 }
/-- jdk/internal/util/ArraysSupport -/
def k13 : Class := { plain "jdk/internal/util/ArraysSupport" (some 0) with
  accessFlags := 33
  interfaces := #[]
  cf := some (fileOf pool13 21 #[] #[{ accessFlags := 2, nameIndex := 9, descriptorIndex := 19, attributes := #[] }, { accessFlags := 9, nameIndex := 149, descriptorIndex := 337, attributes := #[] }] 33 16 #[] #[{ accessFlags := 24, nameIndex := 28, descriptorIndex := 29, attributes := #[] }, { accessFlags := 26, nameIndex := 38, descriptorIndex := 39, attributes := #[] }, { accessFlags := 25, nameIndex := 121, descriptorIndex := 25, attributes := #[] }, { accessFlags := 25, nameIndex := 131, descriptorIndex := 25, attributes := #[] }, { accessFlags := 25, nameIndex := 137, descriptorIndex := 25, attributes := #[] }, { accessFlags := 25, nameIndex := 143, descriptorIndex := 25, attributes := #[] }, { accessFlags := 25, nameIndex := 53, descriptorIndex := 25, attributes := #[] }, { accessFlags := 25, nameIndex := 24, descriptorIndex := 25, attributes := #[] }, { accessFlags := 25, nameIndex := 162, descriptorIndex := 25, attributes := #[] }, { accessFlags := 25, nameIndex := 187, descriptorIndex := 25, attributes := #[] }, { accessFlags := 26, nameIndex := 48, descriptorIndex := 25, attributes := #[] }, { accessFlags := 25, nameIndex := 277, descriptorIndex := 25, attributes := #[] }, { accessFlags := 25, nameIndex := 280, descriptorIndex := 25, attributes := #[] }, { accessFlags := 25, nameIndex := 282, descriptorIndex := 25, attributes := #[] }, { accessFlags := 25, nameIndex := 284, descriptorIndex := 25, attributes := #[] }, { accessFlags := 25, nameIndex := 286, descriptorIndex := 25, attributes := #[] }, { accessFlags := 25, nameIndex := 288, descriptorIndex := 25, attributes := #[] }, { accessFlags := 25, nameIndex := 290, descriptorIndex := 25, attributes := #[] }, { accessFlags := 25, nameIndex := 292, descriptorIndex := 25, attributes := #[] }, { accessFlags := 26, nameIndex := 108, descriptorIndex := 109, attributes := #[] }, { accessFlags := 25, nameIndex := 294, descriptorIndex := 25, attributes := #[] }])
  fields := #[{ name := "U", type := (.object "jdk/internal/misc/Unsafe"), accessFlags := 24, slot := 0, constantValue := 0 }, { name := "BIG_ENDIAN", type := .boolean, accessFlags := 26, slot := 1, constantValue := 0 }, { name := "LOG2_ARRAY_BOOLEAN_INDEX_SCALE", type := .int, accessFlags := 25, slot := 2, constantValue := 0 }, { name := "LOG2_ARRAY_BYTE_INDEX_SCALE", type := .int, accessFlags := 25, slot := 3, constantValue := 0 }, { name := "LOG2_ARRAY_CHAR_INDEX_SCALE", type := .int, accessFlags := 25, slot := 4, constantValue := 0 }, { name := "LOG2_ARRAY_SHORT_INDEX_SCALE", type := .int, accessFlags := 25, slot := 5, constantValue := 0 }, { name := "LOG2_ARRAY_INT_INDEX_SCALE", type := .int, accessFlags := 25, slot := 6, constantValue := 0 }, { name := "LOG2_ARRAY_LONG_INDEX_SCALE", type := .int, accessFlags := 25, slot := 7, constantValue := 0 }, { name := "LOG2_ARRAY_FLOAT_INDEX_SCALE", type := .int, accessFlags := 25, slot := 8, constantValue := 0 }, { name := "LOG2_ARRAY_DOUBLE_INDEX_SCALE", type := .int, accessFlags := 25, slot := 9, constantValue := 0 }, { name := "LOG2_BYTE_BIT_SIZE", type := .int, accessFlags := 26, slot := 10, constantValue := 0 }, { name := "T_BOOLEAN", type := .int, accessFlags := 25, slot := 11, constantValue := 0 }, { name := "T_CHAR", type := .int, accessFlags := 25, slot := 12, constantValue := 0 }, { name := "T_FLOAT", type := .int, accessFlags := 25, slot := 13, constantValue := 0 }, { name := "T_DOUBLE", type := .int, accessFlags := 25, slot := 14, constantValue := 0 }, { name := "T_BYTE", type := .int, accessFlags := 25, slot := 15, constantValue := 0 }, { name := "T_SHORT", type := .int, accessFlags := 25, slot := 16, constantValue := 0 }, { name := "T_INT", type := .int, accessFlags := 25, slot := 17, constantValue := 0 }, { name := "T_LONG", type := .int, accessFlags := 25, slot := 18, constantValue := 0 }, { name := "JLA", type := (.object "jdk/internal/access/JavaLangAccess"), accessFlags := 26, slot := 19, constantValue := 0 }, { name := "SOFT_MAX_ARRAY_LENGTH", type := .int, accessFlags := 25, slot := 20, constantValue := 0 }]
  methods := #[k13m0, k13m1]
  instanceTypes := #[]
  staticTypes := #[(.object "jdk/internal/misc/Unsafe"), .boolean, .int, .int, .int, .int, .int, .int, .int, .int, .int, .int, .int, .int, .int, .int, .int, .int, .int, (.object "jdk/internal/access/JavaLangAccess"), .int]
  resolved := Array.replicate 378 none
  statics := none }

def pool14 : Array CpInfo := pool [(2, .class_ 4), (1, u "java/lang/Object"), (0, u "<init>"), (0, u "()V"), (17, .class_ 26), (1, u "jdk/internal/util/Preconditions"), (20, u "checkFromToIndex"), (7, .class_ 56), (0, u "jdk/internal/util/Preconditions$4"), (57, .class_ 115), (0, u "jdk/internal/util/Preconditions$1"), (7, u "SIOOBE_FORMATTER"), (0, u "Ljava/util/function/BiFunction;"), (0, .class_ 126), (0, u "jdk/internal/util/Preconditions$2"), (3, u "AIOOBE_FORMATTER"), (0, .class_ 132), (0, u "jdk/internal/util/Preconditions$3"), (3, u "IOOBE_FORMATTER"), (46, u "(IIILjava/util/function/BiFunction;)I")] 10

def k14m0 : Method := { name := "<init>", desc := "()V", sig := { parameters := [], returnType := none }, accessFlags := 1, code := none }
def k14c1 : Code := { maxStack := 4, maxLocals := 4, code := jdk_41_method_12_code, exceptionTable := #[], attributes := #[] }
def k14m1 : Method := { name := "checkFromToIndex", desc := "(IIILjava/util/function/BiFunction;)I", sig := { parameters := [.int, .int, .int, (.object "java/util/function/BiFunction")], returnType := some .int }, accessFlags := 9, code := some k14c1 }
/-- jdk/internal/util/Preconditions -/
def k14 : Class := { plain "jdk/internal/util/Preconditions" (some 0) with
  accessFlags := 33
  interfaces := #[]
  cf := some (fileOf pool14 24 #[.nestMembers #[55, 131, 125, 114]] #[{ accessFlags := 1, nameIndex := 5, descriptorIndex := 6, attributes := #[] }, { accessFlags := 9, nameIndex := 47, descriptorIndex := 183, attributes := #[] }] 33 2 #[] #[{ accessFlags := 25, nameIndex := 123, descriptorIndex := 124, attributes := #[] }, { accessFlags := 25, nameIndex := 130, descriptorIndex := 124, attributes := #[] }, { accessFlags := 25, nameIndex := 136, descriptorIndex := 124, attributes := #[] }])
  fields := #[{ name := "SIOOBE_FORMATTER", type := (.object "java/util/function/BiFunction"), accessFlags := 25, slot := 0, constantValue := 0 }, { name := "AIOOBE_FORMATTER", type := (.object "java/util/function/BiFunction"), accessFlags := 25, slot := 1, constantValue := 0 }, { name := "IOOBE_FORMATTER", type := (.object "java/util/function/BiFunction"), accessFlags := 25, slot := 2, constantValue := 0 }]
  methods := #[k14m0, k14m1]
  instanceTypes := #[]
  staticTypes := #[(.object "java/util/function/BiFunction"), (.object "java/util/function/BiFunction"), (.object "java/util/function/BiFunction")]
  resolved := Array.replicate 194 none
  statics := some 1 }

def pool15 : Array CpInfo := pool [(2, .class_ 4), (1, u "java/lang/Object"), (0, u "<init>"), (0, u "()V"), (7, .class_ 16), (1, u "java/util/Arrays"), (57, .class_ 76), (1, u "java/util/Arrays$NaturalOrder"), (36, .class_ 115), (1, u "java/util/Arrays$LegacyMergeSort"), (1, u "Z"), (21, u "copyOfRange"), (10, .methodref 151 152), (0, .class_ 153), (0, .nameAndType 154 155), (0, u "java/lang/System"), (0, u "arraycopy"), (0, u "(Ljava/lang/Object;ILjava/lang/Object;II)V"), (148, .methodref 305 306), (0, .class_ 307), (0, .nameAndType 308 309), (0, u "java/lang/Math"), (0, u "min"), (0, u "(II)I"), (29, .methodref 14 340), (0, .nameAndType 341 342), (0, u "copyOfRangeByte"), (0, u "([BII)[B"), (0, .methodref 14 344), (0, .nameAndType 345 346), (0, u "checkLength"), (0, u "(II)V"), (28, .class_ 376), (0, u "java/util/Arrays$ArrayList"), (68, u "$assertionsDisabled"), (269, u "MIN_ARRAY_SORT_GRAN"), (0, u "I"), (2, u "INSERTIONSORT_THRESHOLD"), (255, .class_ 976), (0, u "java/util/Arrays$ArrayItr")] 52

def k15m0 : Method := { name := "<init>", desc := "()V", sig := { parameters := [], returnType := none }, accessFlags := 2, code := none }
def k15c1 : Code := { maxStack := 4, maxLocals := 2, code := jdk_65_method_131_code, exceptionTable := #[], attributes := #[] }
def k15m1 : Method := { name := "checkLength", desc := "(II)V", sig := { parameters := [.int, .int], returnType := none }, accessFlags := 10, code := some k15c1 }
def k15c2 : Code := { maxStack := 3, maxLocals := 3, code := jdk_65_method_132_code, exceptionTable := #[], attributes := #[] }
def k15m2 : Method := { name := "copyOfRange", desc := "([BII)[B", sig := { parameters := [(.array .byte), .int, .int], returnType := some (.array .byte) }, accessFlags := 9, code := some k15c2 }
def k15c3 : Code := { maxStack := 6, maxLocals := 5, code := jdk_65_method_133_code, exceptionTable := #[], attributes := #[] }
def k15m3 : Method := { name := "copyOfRangeByte", desc := "([BII)[B", sig := { parameters := [(.array .byte), .int, .int], returnType := some (.array .byte) }, accessFlags := 10, code := some k15c3 }
/-- java/util/Arrays -/
def k15 : Class := { plain "java/util/Arrays" (some 0) with
  accessFlags := 49
  interfaces := #[]
  cf := some (fileOf pool15 14 #[.nestMembers #[975, 375, 113, 74]] #[{ accessFlags := 2, nameIndex := 5, descriptorIndex := 6, attributes := #[] }, { accessFlags := 10, nameIndex := 345, descriptorIndex := 346, attributes := #[] }, { accessFlags := 9, nameIndex := 139, descriptorIndex := 342, attributes := #[] }, { accessFlags := 10, nameIndex := 341, descriptorIndex := 342, attributes := #[] }] 49 2 #[] #[{ accessFlags := 26, nameIndex := 715, descriptorIndex := 716, attributes := #[] }, { accessFlags := 26, nameIndex := 719, descriptorIndex := 716, attributes := #[] }, { accessFlags := 4120, nameIndex := 445, descriptorIndex := 117, attributes := #[] }])
  fields := #[{ name := "MIN_ARRAY_SORT_GRAN", type := .int, accessFlags := 26, slot := 0, constantValue := 0 }, { name := "INSERTIONSORT_THRESHOLD", type := .int, accessFlags := 26, slot := 1, constantValue := 0 }, { name := "$assertionsDisabled", type := .boolean, accessFlags := 4120, slot := 2, constantValue := 0 }]
  methods := #[k15m0, k15m1, k15m2, k15m3]
  instanceTypes := #[]
  staticTypes := #[.int, .int, .boolean]
  resolved := Array.replicate 1029 none
  statics := none }

def pool16 : Array CpInfo := pool [(2, .class_ 4), (1, u "java/lang/Object"), (0, u "<init>"), (0, u "()V"), (1, .class_ 10), (1, u "java/lang/System"), (0, u "allowSecurityManager"), (0, u "I"), (16, u "cons"), (0, u "Ljava/io/Console;"), (77, .class_ 110), (1, u "java/lang/System$CallersHolder"), (43, u "initialErrStream"), (0, u "Ljava/io/PrintStream;"), (19, u "security"), (0, u "Ljava/lang/SecurityManager;"), (31, .class_ 209), (0, u "java/lang/System$1"), (7, u "props"), (0, u "Ljava/util/Properties;"), (2, u "lineSeparator"), (0, u "Ljava/lang/String;"), (96, .class_ 321), (1, u "java/lang/System$LoggerFinder"), (5, .class_ 328), (0, u "java/lang/System$Logger"), (67, u "err"), (2, u "out"), (91, u "notSupportedJnuEncoding"), (15, u "in"), (17, u "initialIn"), (0, u "Ljava/io/InputStream;"), (35, u "bootLayer"), (0, u "Ljava/lang/ModuleLayer;"), (99, .class_ 664), (0, u "java/lang/System$2"), (9, u "NEVER"), (2, u "MAYBE"), (49, u "arraycopy"), (0, u "(Ljava/lang/Object;ILjava/lang/Object;II)V"), (72, .class_ 802), (0, u "java/lang/System$Logger$Level")] 31

def k16m0 : Method := { name := "<init>", desc := "()V", sig := { parameters := [], returnType := none }, accessFlags := 2, code := none }
def k16m1 : Method := { name := "arraycopy", desc := "(Ljava/lang/Object;ILjava/lang/Object;II)V", sig := { parameters := [(.object "java/lang/Object"), .int, (.object "java/lang/Object"), .int, .int], returnType := none }, accessFlags := 265, code := none }
/-- java/lang/System -/
def k16 : Class := { plain "java/lang/System" (some 0) with
  accessFlags := 49
  interfaces := #[]
  cf := some (fileOf pool16 8 #[.nestMembers #[319, 327, 801, 108, 663, 208]] #[{ accessFlags := 2, nameIndex := 5, descriptorIndex := 6, attributes := #[] }, { accessFlags := 265, nameIndex := 727, descriptorIndex := 728, attributes := #[] }] 49 2 #[] #[{ accessFlags := 25, nameIndex := 507, descriptorIndex := 526, attributes := #[] }, { accessFlags := 25, nameIndex := 399, descriptorIndex := 155, attributes := #[] }, { accessFlags := 25, nameIndex := 396, descriptorIndex := 155, attributes := #[] }, { accessFlags := 10, nameIndex := 525, descriptorIndex := 526, attributes := #[] }, { accessFlags := 26, nameIndex := 674, descriptorIndex := 12, attributes := #[] }, { accessFlags := 26, nameIndex := 677, descriptorIndex := 12, attributes := #[] }, { accessFlags := 10, nameIndex := 11, descriptorIndex := 12, attributes := #[] }, { accessFlags := 74, nameIndex := 175, descriptorIndex := 176, attributes := #[] }, { accessFlags := 10, nameIndex := 491, descriptorIndex := 222, attributes := #[] }, { accessFlags := 74, nameIndex := 29, descriptorIndex := 30, attributes := #[] }, { accessFlags := 74, nameIndex := 154, descriptorIndex := 155, attributes := #[] }, { accessFlags := 10, nameIndex := 217, descriptorIndex := 218, attributes := #[] }, { accessFlags := 10, nameIndex := 221, descriptorIndex := 222, attributes := #[] }, { accessFlags := 8, nameIndex := 562, descriptorIndex := 563, attributes := #[] }])
  fields := #[{ name := "in", type := (.object "java/io/InputStream"), accessFlags := 25, slot := 0, constantValue := 0 }, { name := "out", type := (.object "java/io/PrintStream"), accessFlags := 25, slot := 1, constantValue := 0 }, { name := "err", type := (.object "java/io/PrintStream"), accessFlags := 25, slot := 2, constantValue := 0 }, { name := "initialIn", type := (.object "java/io/InputStream"), accessFlags := 10, slot := 3, constantValue := 0 }, { name := "NEVER", type := .int, accessFlags := 26, slot := 4, constantValue := 0 }, { name := "MAYBE", type := .int, accessFlags := 26, slot := 5, constantValue := 0 }, { name := "allowSecurityManager", type := .int, accessFlags := 10, slot := 6, constantValue := 0 }, { name := "security", type := (.object "java/lang/SecurityManager"), accessFlags := 74, slot := 7, constantValue := 0 }, { name := "notSupportedJnuEncoding", type := (.object "java/lang/String"), accessFlags := 10, slot := 8, constantValue := 0 }, { name := "cons", type := (.object "java/io/Console"), accessFlags := 74, slot := 9, constantValue := 0 }, { name := "initialErrStream", type := (.object "java/io/PrintStream"), accessFlags := 74, slot := 10, constantValue := 0 }, { name := "props", type := (.object "java/util/Properties"), accessFlags := 10, slot := 11, constantValue := 0 }, { name := "lineSeparator", type := (.object "java/lang/String"), accessFlags := 10, slot := 12, constantValue := 0 }, { name := "bootLayer", type := (.object "java/lang/ModuleLayer"), accessFlags := 8, slot := 13, constantValue := 0 }]
  methods := #[k16m0, k16m1]
  instanceTypes := #[]
  staticTypes := #[(.object "java/io/InputStream"), (.object "java/io/PrintStream"), (.object "java/io/PrintStream"), (.object "java/io/InputStream"), .int, .int, .int, (.object "java/lang/SecurityManager"), (.object "java/lang/String"), (.object "java/io/Console"), (.object "java/io/PrintStream"), (.object "java/util/Properties"), (.object "java/lang/String"), (.object "java/lang/ModuleLayer")]
  resolved := Array.replicate 834 none
  statics := none }

def pool17 : Array CpInfo := pool [(1, u "java/lang/Cloneable"), (0, .class_ 1), (0, u "java/lang/Object"), (0, .class_ 3)] 3

/-- java/lang/Cloneable -/
def k17 : Class := { plain "java/lang/Cloneable" (some 0) with
  accessFlags := 1537
  interfaces := #[]
  cf := some (fileOf pool17 2 #[] #[] 1537 4 #[] #[])
  fields := #[]
  methods := #[]
  instanceTypes := #[]
  staticTypes := #[]
  resolved := Array.replicate 8 none
  statics := none }

/-- the primitive byte -/
def k18 : Class := { plain "byte" none with kind := .primitive 'B', accessFlags := 0x411 }
/-- [B -/
def k19 : Class := { plain "[B" (some 0) with kind := .array 18 .byte, interfaces := #[17, 2], accessFlags := 1041 }

/-- the primitive char -/
def k20 : Class := { plain "char" none with kind := .primitive 'C', accessFlags := 0x411 }
/-- [C -/
def k21 : Class := { plain "[C" (some 0) with kind := .array 20 .char, interfaces := #[17, 2], accessFlags := 1041 }

/-- the primitive int -/
def k22 : Class := { plain "int" none with kind := .primitive 'I', accessFlags := 0x411 }
/-- [I -/
def k23 : Class := { plain "[I" (some 0) with kind := .array 22 .int, interfaces := #[17, 2], accessFlags := 1041 }

def heap : Heap := #[{ cls := 7, slots := #[.long 0, .int 1, .null, .int 0, .null, .int 0, .int 0], vm := .statics 7 },
  { cls := 14, slots := #[.null, .null, .null], vm := .statics 14 }]
def classes : Array Class := #[k0, k1, k2, k3, k4, k5, k6, k7, k8, k9, k10, k11, k12, k13, k14, k15, k16, k17, k18, k19, k20, k21, k22, k23]
def interned : List (Array UInt16 × Addr) := []
def slotsUsed : Nat := 10
def theMethod : MethodId := ⟨1, 2⟩
def args0 : Array Value := #[.int 5, .int 5, .int 5, .int 5, .int 5]
def aboutOver (below : List Frame) : State where
  vm := { classes := classes, interned := interned.toArray }
  heap := heap
  slotsUsed := slotsUsed
  threads := #[{ frames := .invoking theMethod args0 :: below }]
def below0 : List Frame := [.native { method := ⟨0, 0⟩, args := #[] }]
def about1 : State := aboutOver below0
def p0 : Program := .bare "" "" ""
def e0 : Env := launch0.env 0 0 0
theorem w_frames : about1.frames = Frame.invoking theMethod args0 :: below0 := rfl
set_option maxRecDepth 65536 in
theorem w_args : argsFit about1.vm theMethod args0 = true := by decide +kernel
set_option maxRecDepth 65536 in
theorem w_heap : heapFits about1 = true := by decide +kernel
set_option maxRecDepth 65536 in
theorem w_runnable : about1.curStatus? = some .runnable := by decide +kernel
set_option maxRecDepth 65536 in
theorem w_alone : about1.alone = true := by decide +kernel
set_option maxRecDepth 65536 in
theorem w_named : about1.methodNamed? x = some theMethod := by decide +kernel
set_option maxRecDepth 65536 in
theorem w_hears : about1.hears theMethod below0 = true := by decide +kernel
set_option maxRecDepth 65536 in
theorem w_ripe : about1.ripe theMethod args0 below0 = true := by decide +kernel
theorem w_running : about1.status = .running := rfl
set_option maxRecDepth 65536 in
theorem w_room : about1.hasRoom e0.platform room_1 = true :=
  launch0.hasRoom_least _ room_1 (by decide +kernel) (by decide +kernel) (by decide +kernel) (by decide +kernel) (by decide +kernel) (by decide +kernel)
theorem allAtoms_all (ts : List Jvm.Cond) (a : Array Jvm.Value) (st : Jvm.State) : (allAtoms ts).before a st = ts.all (fun c => c.before a st) := by
  induction ts with
  | nil => rfl
  | cons c t ih =>
    show (Jvm.Cond.and c (allAtoms t)).before a st = _
    rw [Jvm.Cond.before_and, ih, List.all_cons]
def words1 : List Jvm.Cond := Jvm.Cond.code x code maxLocals ret :: tables_1
/-- a 'code' word, met by the world's own term for the bytes: nothing is compared byte by byte -/
theorem code_word {y : MethodName} {bytes : ByteArray} {mx : Nat} {rt : Option FieldType} {a : Array Value} {s : State} {m : MethodId} {meth : Method} {c : Code} (h1 : s.methodNamed? y = some m) (h2 : s.vm.method? m = some meth) (h3 : meth.code = some c) (h4 : c.code = bytes)
    (h5 : (c.maxLocals == mx && c.exceptionTable.isEmpty && decide (c.maxStack ≤ mostOperands) && decide (meth.sig.returnType = rt) && !meth.locks && decide (parseMethodDescriptor y.desc = some meth.sig)) = true) : (Jvm.Cond.code y bytes mx rt).before a s = true := by
  simp only [Bool.and_eq_true, beq_iff_eq, Bool.not_eq_true', decide_eq_true_eq] at h5
  obtain ⟨⟨⟨⟨⟨g1, g2⟩, g3⟩, g4⟩, g5⟩, g6⟩ := h5
  simp [Cond.before, Cond.holds, Cond.value, h1, h2, h3, h4, g1, g2, g3, g4, g5, g6]
def isCode : Jvm.Cond → Bool
  | .code _ _ _ _ => true
  | _ => false
theorem all_split {L : List Jvm.Cond} {P : Jvm.Cond → Bool} (h1 : L.all (fun c => isCode c || P c) = true) (h2 : ∀ c ∈ L.filter isCode, P c = true) : L.all P = true := by
  refine List.all_eq_true.mpr fun c hc => ?_
  have h := List.all_eq_true.mp h1 c hc
  rcases Bool.eq_false_or_eq_true (isCode c) with hi | hi
  · exact h2 c (List.mem_filter.mpr ⟨hc, hi⟩)
  · simpa [hi] using h
set_option maxRecDepth 65536 in
theorem w_c0 : (Jvm.Cond.code x code maxLocals ret).before args0 about1 = true := code_word (m := ⟨1, 2⟩) (meth := k1m2) (c := k1c2) (by decide +kernel) rfl rfl rfl (by decide +kernel)
set_option maxRecDepth 65536 in
theorem w_c1 : (Jvm.Cond.code ({ cls := "com/example/naslov/naslov/UriEqualsPinLaw", name := "str", desc := "(II)Ljava/lang/String;" } : Jvm.MethodName) method_2_code (5 : Nat) (Option.some (Jvm.ClassFile.FieldType.object "java/lang/String"))).before args0 about1 = true := code_word (m := ⟨1, 1⟩) (meth := k1m1) (c := k1c1) (by decide +kernel) rfl rfl rfl (by decide +kernel)
set_option maxRecDepth 65536 in
theorem w_c2 : (Jvm.Cond.code ({ cls := "java/lang/String", name := "<init>", desc := "([C)V" } : Jvm.MethodName) jdk_42_method_3_code (2 : Nat) (Option.none : Option Jvm.ClassFile.FieldType)).before args0 about1 = true := code_word (m := ⟨7, 1⟩) (meth := k7m1) (c := k7c1) (by decide +kernel) rfl rfl rfl (by decide +kernel)
set_option maxRecDepth 65536 in
theorem w_c3 : (Jvm.Cond.code ({ cls := "java/lang/String", name := "<init>", desc := "([CIILjava/lang/Void;)V" } : Jvm.MethodName) jdk_42_method_149_code (6 : Nat) (Option.none : Option Jvm.ClassFile.FieldType)).before args0 about1 = true := code_word (m := ⟨7, 10⟩) (meth := k7m10) (c := k7c10) (by decide +kernel) rfl rfl rfl (by decide +kernel)
set_option maxRecDepth 65536 in
theorem w_c4 : (Jvm.Cond.code ({ cls := "java/lang/Object", name := "<init>", desc := "()V" } : Jvm.MethodName) object_method_1_code (1 : Nat) (Option.none : Option Jvm.ClassFile.FieldType)).before args0 about1 = true := code_word (m := ⟨0, 0⟩) (meth := k0m0) (c := k0c0) (by decide +kernel) rfl rfl rfl (by decide +kernel)
set_option maxRecDepth 65536 in
theorem w_c5 : (Jvm.Cond.code ({ cls := "java/lang/StringUTF16", name := "compress", desc := "([CII)[B" } : Jvm.MethodName) jdk_52_method_16_code (6 : Nat) (Option.some (Jvm.ClassFile.FieldType.array Jvm.ClassFile.FieldType.byte))).before args0 about1 = true := code_word (m := ⟨8, 2⟩) (meth := k8m2) (c := k8c2) (by decide +kernel) rfl rfl rfl (by decide +kernel)
set_option maxRecDepth 65536 in
theorem w_c6 : (Jvm.Cond.code ({ cls := "java/lang/StringUTF16", name := "compress", desc := "([CI[BII)I" } : Jvm.MethodName) jdk_52_method_21_code (7 : Nat) (Option.some Jvm.ClassFile.FieldType.int)).before args0 about1 = true := code_word (m := ⟨8, 3⟩) (meth := k8m3) (c := k8c3) (by decide +kernel) rfl rfl rfl (by decide +kernel)
set_option maxRecDepth 65536 in
theorem w_c7 : (Jvm.Cond.code ({ cls := "java/lang/StringUTF16", name := "coderFromArrayLen", desc := "([BI)B" } : Jvm.MethodName) jdk_52_method_15_code (2 : Nat) (Option.some Jvm.ClassFile.FieldType.byte)).before args0 about1 = true := code_word (m := ⟨8, 1⟩) (meth := k8m1) (c := k8c1) (by decide +kernel) rfl rfl rfl (by decide +kernel)
set_option maxRecDepth 65536 in
theorem w_c8 : (Jvm.Cond.code ({ cls := "com/example/naslov/naslov/Uri", name := "<init>", desc := "(Ljava/lang/String;Ljava/lang/String;Ljava/lang/String;Ljava/lang/String;Ljava/lang/String;Ljava/lang/String;)V" } : Jvm.MethodName) prog_10_method_2_code (14 : Nat) (Option.none : Option Jvm.ClassFile.FieldType)).before args0 about1 = true := code_word (m := ⟨9, 0⟩) (meth := k9m0) (c := k9c0) (by decide +kernel) rfl rfl rfl (by decide +kernel)
set_option maxRecDepth 65536 in
theorem w_c9 : (Jvm.Cond.code ({ cls := "java/util/Objects", name := "requireNonNull", desc := "(Ljava/lang/Object;Ljava/lang/String;)Ljava/lang/Object;" } : Jvm.MethodName) jdk_31_method_11_code (2 : Nat) (Option.some (Jvm.ClassFile.FieldType.object "java/lang/Object"))).before args0 about1 = true := code_word (m := ⟨10, 1⟩) (meth := k10m1) (c := k10c1) (by decide +kernel) rfl rfl rfl (by decide +kernel)
set_option maxRecDepth 65536 in
theorem w_c10 : (Jvm.Cond.code ({ cls := "com/example/naslov/naslov/Uri", name := "equals", desc := "(Ljava/lang/Object;)Z" } : Jvm.MethodName) prog_10_method_26_code (2 : Nat) (Option.some Jvm.ClassFile.FieldType.boolean)).before args0 about1 = true := code_word (m := ⟨9, 1⟩) (meth := k9m1) (c := k9c1) (by decide +kernel) rfl rfl rfl (by decide +kernel)
set_option maxRecDepth 65536 in
theorem w_c11 : (Jvm.Cond.code ({ cls := "java/lang/String", name := "equals", desc := "(Ljava/lang/Object;)Z" } : Jvm.MethodName) jdk_42_method_66_code (3 : Nat) (Option.some Jvm.ClassFile.FieldType.boolean)).before args0 about1 = true := code_word (m := ⟨7, 3⟩) (meth := k7m3) (c := k7c3) (by decide +kernel) rfl rfl rfl (by decide +kernel)
set_option maxRecDepth 65536 in
theorem w_c12 : (Jvm.Cond.code ({ cls := "java/lang/StringLatin1", name := "equals", desc := "([B[B)Z" } : Jvm.MethodName) jdk_43_method_13_code (3 : Nat) (Option.some Jvm.ClassFile.FieldType.boolean)).before args0 about1 = true := code_word (m := ⟨11, 3⟩) (meth := k11m3) (c := k11c3) (by decide +kernel) rfl rfl rfl (by decide +kernel)
set_option maxRecDepth 65536 in
theorem w_c13 : (Jvm.Cond.code ({ cls := "java/lang/String", name := "indexOf", desc := "(I)I" } : Jvm.MethodName) jdk_42_method_79_code (2 : Nat) (Option.some Jvm.ClassFile.FieldType.int)).before args0 about1 = true := code_word (m := ⟨7, 5⟩) (meth := k7m5) (c := k7c5) (by decide +kernel) rfl rfl rfl (by decide +kernel)
set_option maxRecDepth 65536 in
theorem w_c14 : (Jvm.Cond.code ({ cls := "java/lang/String", name := "indexOf", desc := "(II)I" } : Jvm.MethodName) jdk_42_method_80_code (3 : Nat) (Option.some Jvm.ClassFile.FieldType.int)).before args0 about1 = true := code_word (m := ⟨7, 6⟩) (meth := k7m6) (c := k7c6) (by decide +kernel) rfl rfl rfl (by decide +kernel)
set_option maxRecDepth 65536 in
theorem w_c15 : (Jvm.Cond.code ({ cls := "java/lang/String", name := "isLatin1", desc := "()Z" } : Jvm.MethodName) jdk_42_method_154_code (1 : Nat) (Option.some Jvm.ClassFile.FieldType.boolean)).before args0 about1 = true := code_word (m := ⟨7, 13⟩) (meth := k7m13) (c := k7c13) (by decide +kernel) rfl rfl rfl (by decide +kernel)
set_option maxRecDepth 65536 in
theorem w_c16 : (Jvm.Cond.code ({ cls := "java/lang/String", name := "length", desc := "()I" } : Jvm.MethodName) jdk_42_method_54_code (1 : Nat) (Option.some Jvm.ClassFile.FieldType.int)).before args0 about1 = true := code_word (m := ⟨7, 2⟩) (meth := k7m2) (c := k7c2) (by decide +kernel) rfl rfl rfl (by decide +kernel)
set_option maxRecDepth 65536 in
theorem w_c17 : (Jvm.Cond.code ({ cls := "java/lang/String", name := "coder", desc := "()B" } : Jvm.MethodName) jdk_42_method_152_code (1 : Nat) (Option.some Jvm.ClassFile.FieldType.byte)).before args0 about1 = true := code_word (m := ⟨7, 12⟩) (meth := k7m12) (c := k7c12) (by decide +kernel) rfl rfl rfl (by decide +kernel)
set_option maxRecDepth 65536 in
theorem w_c18 : (Jvm.Cond.code ({ cls := "java/lang/StringLatin1", name := "indexOf", desc := "([BIII)I" } : Jvm.MethodName) jdk_43_method_22_code (4 : Nat) (Option.some Jvm.ClassFile.FieldType.int)).before args0 about1 = true := code_word (m := ⟨11, 4⟩) (meth := k11m4) (c := k11c4) (by decide +kernel) rfl rfl rfl (by decide +kernel)
set_option maxRecDepth 65536 in
theorem w_c19 : (Jvm.Cond.code ({ cls := "java/lang/StringLatin1", name := "canEncode", desc := "(I)Z" } : Jvm.MethodName) jdk_43_method_4_code (1 : Nat) (Option.some Jvm.ClassFile.FieldType.boolean)).before args0 about1 = true := code_word (m := ⟨11, 2⟩) (meth := k11m2) (c := k11c2) (by decide +kernel) rfl rfl rfl (by decide +kernel)
set_option maxRecDepth 65536 in
theorem w_c20 : (Jvm.Cond.code ({ cls := "java/lang/Math", name := "max", desc := "(II)I" } : Jvm.MethodName) jdk_29_method_65_code (2 : Nat) (Option.some Jvm.ClassFile.FieldType.int)).before args0 about1 = true := code_word (m := ⟨12, 1⟩) (meth := k12m1) (c := k12c1) (by decide +kernel) rfl rfl rfl (by decide +kernel)
set_option maxRecDepth 65536 in
theorem w_c21 : (Jvm.Cond.code ({ cls := "java/lang/Math", name := "min", desc := "(II)I" } : Jvm.MethodName) jdk_29_method_69_code (2 : Nat) (Option.some Jvm.ClassFile.FieldType.int)).before args0 about1 = true := code_word (m := ⟨12, 2⟩) (meth := k12m2) (c := k12c2) (by decide +kernel) rfl rfl rfl (by decide +kernel)
set_option maxRecDepth 65536 in
theorem w_c22 : (Jvm.Cond.code ({ cls := "java/lang/StringLatin1", name := "indexOfChar", desc := "([BIII)I" } : Jvm.MethodName) jdk_43_method_23_code (6 : Nat) (Option.some Jvm.ClassFile.FieldType.int)).before args0 about1 = true := code_word (m := ⟨11, 5⟩) (meth := k11m5) (c := k11c5) (by decide +kernel) rfl rfl rfl (by decide +kernel)
set_option maxRecDepth 65536 in
theorem w_c23 : (Jvm.Cond.code ({ cls := "java/lang/String", name := "startsWith", desc := "(Ljava/lang/String;I)Z" } : Jvm.MethodName) jdk_42_method_75_code (8 : Nat) (Option.some Jvm.ClassFile.FieldType.boolean)).before args0 about1 = true := code_word (m := ⟨7, 4⟩) (meth := k7m4) (c := k7c4) (by decide +kernel) rfl rfl rfl (by decide +kernel)
set_option maxRecDepth 65536 in
theorem w_c24 : (Jvm.Cond.code ({ cls := "jdk/internal/util/ArraysSupport", name := "mismatch", desc := "([BI[BII)I" } : Jvm.MethodName) jdk_48_method_14_code (8 : Nat) (Option.some Jvm.ClassFile.FieldType.int)).before args0 about1 = true := code_word (m := ⟨13, 1⟩) (meth := k13m1) (c := k13c1) (by decide +kernel) rfl rfl rfl (by decide +kernel)
set_option maxRecDepth 65536 in
theorem w_c25 : (Jvm.Cond.code ({ cls := "java/lang/String", name := "substring", desc := "(I)Ljava/lang/String;" } : Jvm.MethodName) jdk_42_method_91_code (2 : Nat) (Option.some (Jvm.ClassFile.FieldType.object "java/lang/String"))).before args0 about1 = true := code_word (m := ⟨7, 7⟩) (meth := k7m7) (c := k7c7) (by decide +kernel) rfl rfl rfl (by decide +kernel)
set_option maxRecDepth 65536 in
theorem w_c26 : (Jvm.Cond.code ({ cls := "java/lang/String", name := "substring", desc := "(II)Ljava/lang/String;" } : Jvm.MethodName) jdk_42_method_92_code (5 : Nat) (Option.some (Jvm.ClassFile.FieldType.object "java/lang/String"))).before args0 about1 = true := code_word (m := ⟨7, 8⟩) (meth := k7m8) (c := k7c8) (by decide +kernel) rfl rfl rfl (by decide +kernel)
set_option maxRecDepth 65536 in
theorem w_c27 : (Jvm.Cond.code ({ cls := "java/lang/String", name := "checkBoundsBeginEnd", desc := "(III)V" } : Jvm.MethodName) jdk_42_method_158_code (3 : Nat) (Option.none : Option Jvm.ClassFile.FieldType)).before args0 about1 = true := code_word (m := ⟨7, 14⟩) (meth := k7m14) (c := k7c14) (by decide +kernel) rfl rfl rfl (by decide +kernel)
set_option maxRecDepth 65536 in
theorem w_c28 : (Jvm.Cond.code ({ cls := "jdk/internal/util/Preconditions", name := "checkFromToIndex", desc := "(IIILjava/util/function/BiFunction;)I" } : Jvm.MethodName) jdk_41_method_12_code (4 : Nat) (Option.some Jvm.ClassFile.FieldType.int)).before args0 about1 = true := code_word (m := ⟨14, 1⟩) (meth := k14m1) (c := k14c1) (by decide +kernel) rfl rfl rfl (by decide +kernel)
set_option maxRecDepth 65536 in
theorem w_c29 : (Jvm.Cond.code ({ cls := "java/lang/String", name := "valueOf", desc := "(C)Ljava/lang/String;" } : Jvm.MethodName) jdk_42_method_139_code (1 : Nat) (Option.some (Jvm.ClassFile.FieldType.object "java/lang/String"))).before args0 about1 = true := code_word (m := ⟨7, 9⟩) (meth := k7m9) (c := k7c9) (by decide +kernel) rfl rfl rfl (by decide +kernel)
set_option maxRecDepth 65536 in
theorem w_c30 : (Jvm.Cond.code ({ cls := "java/lang/StringLatin1", name := "canEncode", desc := "(C)Z" } : Jvm.MethodName) jdk_43_method_3_code (1 : Nat) (Option.some Jvm.ClassFile.FieldType.boolean)).before args0 about1 = true := code_word (m := ⟨11, 1⟩) (meth := k11m1) (c := k11c1) (by decide +kernel) rfl rfl rfl (by decide +kernel)
set_option maxRecDepth 65536 in
theorem w_c31 : (Jvm.Cond.code ({ cls := "java/lang/StringLatin1", name := "toBytes", desc := "(C)[B" } : Jvm.MethodName) jdk_43_method_46_code (1 : Nat) (Option.some (Jvm.ClassFile.FieldType.array Jvm.ClassFile.FieldType.byte))).before args0 about1 = true := code_word (m := ⟨11, 6⟩) (meth := k11m6) (c := k11c6) (by decide +kernel) rfl rfl rfl (by decide +kernel)
set_option maxRecDepth 65536 in
theorem w_c32 : (Jvm.Cond.code ({ cls := "java/lang/String", name := "<init>", desc := "([BB)V" } : Jvm.MethodName) jdk_42_method_151_code (3 : Nat) (Option.none : Option Jvm.ClassFile.FieldType)).before args0 about1 = true := code_word (m := ⟨7, 11⟩) (meth := k7m11) (c := k7c11) (by decide +kernel) rfl rfl rfl (by decide +kernel)
set_option maxRecDepth 65536 in
theorem w_c33 : (Jvm.Cond.code ({ cls := "java/lang/StringLatin1", name := "newString", desc := "([BII)Ljava/lang/String;" } : Jvm.MethodName) jdk_43_method_47_code (3 : Nat) (Option.some (Jvm.ClassFile.FieldType.object "java/lang/String"))).before args0 about1 = true := code_word (m := ⟨11, 7⟩) (meth := k11m7) (c := k11c7) (by decide +kernel) rfl rfl rfl (by decide +kernel)
set_option maxRecDepth 65536 in
theorem w_c34 : (Jvm.Cond.code ({ cls := "java/util/Arrays", name := "copyOfRange", desc := "([BII)[B" } : Jvm.MethodName) jdk_65_method_132_code (3 : Nat) (Option.some (Jvm.ClassFile.FieldType.array Jvm.ClassFile.FieldType.byte))).before args0 about1 = true := code_word (m := ⟨15, 2⟩) (meth := k15m2) (c := k15c2) (by decide +kernel) rfl rfl rfl (by decide +kernel)
set_option maxRecDepth 65536 in
theorem w_c35 : (Jvm.Cond.code ({ cls := "java/util/Arrays", name := "copyOfRangeByte", desc := "([BII)[B" } : Jvm.MethodName) jdk_65_method_133_code (5 : Nat) (Option.some (Jvm.ClassFile.FieldType.array Jvm.ClassFile.FieldType.byte))).before args0 about1 = true := code_word (m := ⟨15, 3⟩) (meth := k15m3) (c := k15c3) (by decide +kernel) rfl rfl rfl (by decide +kernel)
set_option maxRecDepth 65536 in
theorem w_c36 : (Jvm.Cond.code ({ cls := "java/util/Arrays", name := "checkLength", desc := "(II)V" } : Jvm.MethodName) jdk_65_method_131_code (2 : Nat) (Option.none : Option Jvm.ClassFile.FieldType)).before args0 about1 = true := code_word (m := ⟨15, 1⟩) (meth := k15m1) (c := k15c1) (by decide +kernel) rfl rfl rfl (by decide +kernel)
def codes1 : List Jvm.Cond := [Jvm.Cond.code x code maxLocals ret, Jvm.Cond.code ({ cls := "com/example/naslov/naslov/UriEqualsPinLaw", name := "str", desc := "(II)Ljava/lang/String;" } : Jvm.MethodName) method_2_code (5 : Nat) (Option.some (Jvm.ClassFile.FieldType.object "java/lang/String")), Jvm.Cond.code ({ cls := "java/lang/String", name := "<init>", desc := "([C)V" } : Jvm.MethodName) jdk_42_method_3_code (2 : Nat) (Option.none : Option Jvm.ClassFile.FieldType), Jvm.Cond.code ({ cls := "java/lang/String", name := "<init>", desc := "([CIILjava/lang/Void;)V" } : Jvm.MethodName) jdk_42_method_149_code (6 : Nat) (Option.none : Option Jvm.ClassFile.FieldType), Jvm.Cond.code ({ cls := "java/lang/Object", name := "<init>", desc := "()V" } : Jvm.MethodName) object_method_1_code (1 : Nat) (Option.none : Option Jvm.ClassFile.FieldType), Jvm.Cond.code ({ cls := "java/lang/StringUTF16", name := "compress", desc := "([CII)[B" } : Jvm.MethodName) jdk_52_method_16_code (6 : Nat) (Option.some (Jvm.ClassFile.FieldType.array Jvm.ClassFile.FieldType.byte)), Jvm.Cond.code ({ cls := "java/lang/StringUTF16", name := "compress", desc := "([CI[BII)I" } : Jvm.MethodName) jdk_52_method_21_code (7 : Nat) (Option.some Jvm.ClassFile.FieldType.int), Jvm.Cond.code ({ cls := "java/lang/StringUTF16", name := "coderFromArrayLen", desc := "([BI)B" } : Jvm.MethodName) jdk_52_method_15_code (2 : Nat) (Option.some Jvm.ClassFile.FieldType.byte), Jvm.Cond.code ({ cls := "com/example/naslov/naslov/Uri", name := "<init>", desc := "(Ljava/lang/String;Ljava/lang/String;Ljava/lang/String;Ljava/lang/String;Ljava/lang/String;Ljava/lang/String;)V" } : Jvm.MethodName) prog_10_method_2_code (14 : Nat) (Option.none : Option Jvm.ClassFile.FieldType), Jvm.Cond.code ({ cls := "java/util/Objects", name := "requireNonNull", desc := "(Ljava/lang/Object;Ljava/lang/String;)Ljava/lang/Object;" } : Jvm.MethodName) jdk_31_method_11_code (2 : Nat) (Option.some (Jvm.ClassFile.FieldType.object "java/lang/Object")), Jvm.Cond.code ({ cls := "com/example/naslov/naslov/Uri", name := "equals", desc := "(Ljava/lang/Object;)Z" } : Jvm.MethodName) prog_10_method_26_code (2 : Nat) (Option.some Jvm.ClassFile.FieldType.boolean), Jvm.Cond.code ({ cls := "java/lang/String", name := "equals", desc := "(Ljava/lang/Object;)Z" } : Jvm.MethodName) jdk_42_method_66_code (3 : Nat) (Option.some Jvm.ClassFile.FieldType.boolean), Jvm.Cond.code ({ cls := "java/lang/StringLatin1", name := "equals", desc := "([B[B)Z" } : Jvm.MethodName) jdk_43_method_13_code (3 : Nat) (Option.some Jvm.ClassFile.FieldType.boolean), Jvm.Cond.code ({ cls := "java/lang/String", name := "indexOf", desc := "(I)I" } : Jvm.MethodName) jdk_42_method_79_code (2 : Nat) (Option.some Jvm.ClassFile.FieldType.int), Jvm.Cond.code ({ cls := "java/lang/String", name := "indexOf", desc := "(II)I" } : Jvm.MethodName) jdk_42_method_80_code (3 : Nat) (Option.some Jvm.ClassFile.FieldType.int), Jvm.Cond.code ({ cls := "java/lang/String", name := "isLatin1", desc := "()Z" } : Jvm.MethodName) jdk_42_method_154_code (1 : Nat) (Option.some Jvm.ClassFile.FieldType.boolean), Jvm.Cond.code ({ cls := "java/lang/String", name := "length", desc := "()I" } : Jvm.MethodName) jdk_42_method_54_code (1 : Nat) (Option.some Jvm.ClassFile.FieldType.int), Jvm.Cond.code ({ cls := "java/lang/String", name := "coder", desc := "()B" } : Jvm.MethodName) jdk_42_method_152_code (1 : Nat) (Option.some Jvm.ClassFile.FieldType.byte), Jvm.Cond.code ({ cls := "java/lang/StringLatin1", name := "indexOf", desc := "([BIII)I" } : Jvm.MethodName) jdk_43_method_22_code (4 : Nat) (Option.some Jvm.ClassFile.FieldType.int), Jvm.Cond.code ({ cls := "java/lang/StringLatin1", name := "canEncode", desc := "(I)Z" } : Jvm.MethodName) jdk_43_method_4_code (1 : Nat) (Option.some Jvm.ClassFile.FieldType.boolean), Jvm.Cond.code ({ cls := "java/lang/Math", name := "max", desc := "(II)I" } : Jvm.MethodName) jdk_29_method_65_code (2 : Nat) (Option.some Jvm.ClassFile.FieldType.int), Jvm.Cond.code ({ cls := "java/lang/Math", name := "min", desc := "(II)I" } : Jvm.MethodName) jdk_29_method_69_code (2 : Nat) (Option.some Jvm.ClassFile.FieldType.int), Jvm.Cond.code ({ cls := "java/lang/StringLatin1", name := "indexOfChar", desc := "([BIII)I" } : Jvm.MethodName) jdk_43_method_23_code (6 : Nat) (Option.some Jvm.ClassFile.FieldType.int), Jvm.Cond.code ({ cls := "java/lang/String", name := "startsWith", desc := "(Ljava/lang/String;I)Z" } : Jvm.MethodName) jdk_42_method_75_code (8 : Nat) (Option.some Jvm.ClassFile.FieldType.boolean), Jvm.Cond.code ({ cls := "jdk/internal/util/ArraysSupport", name := "mismatch", desc := "([BI[BII)I" } : Jvm.MethodName) jdk_48_method_14_code (8 : Nat) (Option.some Jvm.ClassFile.FieldType.int), Jvm.Cond.code ({ cls := "java/lang/String", name := "substring", desc := "(I)Ljava/lang/String;" } : Jvm.MethodName) jdk_42_method_91_code (2 : Nat) (Option.some (Jvm.ClassFile.FieldType.object "java/lang/String")), Jvm.Cond.code ({ cls := "java/lang/String", name := "substring", desc := "(II)Ljava/lang/String;" } : Jvm.MethodName) jdk_42_method_92_code (5 : Nat) (Option.some (Jvm.ClassFile.FieldType.object "java/lang/String")), Jvm.Cond.code ({ cls := "java/lang/String", name := "checkBoundsBeginEnd", desc := "(III)V" } : Jvm.MethodName) jdk_42_method_158_code (3 : Nat) (Option.none : Option Jvm.ClassFile.FieldType), Jvm.Cond.code ({ cls := "jdk/internal/util/Preconditions", name := "checkFromToIndex", desc := "(IIILjava/util/function/BiFunction;)I" } : Jvm.MethodName) jdk_41_method_12_code (4 : Nat) (Option.some Jvm.ClassFile.FieldType.int), Jvm.Cond.code ({ cls := "java/lang/String", name := "valueOf", desc := "(C)Ljava/lang/String;" } : Jvm.MethodName) jdk_42_method_139_code (1 : Nat) (Option.some (Jvm.ClassFile.FieldType.object "java/lang/String")), Jvm.Cond.code ({ cls := "java/lang/StringLatin1", name := "canEncode", desc := "(C)Z" } : Jvm.MethodName) jdk_43_method_3_code (1 : Nat) (Option.some Jvm.ClassFile.FieldType.boolean), Jvm.Cond.code ({ cls := "java/lang/StringLatin1", name := "toBytes", desc := "(C)[B" } : Jvm.MethodName) jdk_43_method_46_code (1 : Nat) (Option.some (Jvm.ClassFile.FieldType.array Jvm.ClassFile.FieldType.byte)), Jvm.Cond.code ({ cls := "java/lang/String", name := "<init>", desc := "([BB)V" } : Jvm.MethodName) jdk_42_method_151_code (3 : Nat) (Option.none : Option Jvm.ClassFile.FieldType), Jvm.Cond.code ({ cls := "java/lang/StringLatin1", name := "newString", desc := "([BII)Ljava/lang/String;" } : Jvm.MethodName) jdk_43_method_47_code (3 : Nat) (Option.some (Jvm.ClassFile.FieldType.object "java/lang/String")), Jvm.Cond.code ({ cls := "java/util/Arrays", name := "copyOfRange", desc := "([BII)[B" } : Jvm.MethodName) jdk_65_method_132_code (3 : Nat) (Option.some (Jvm.ClassFile.FieldType.array Jvm.ClassFile.FieldType.byte)), Jvm.Cond.code ({ cls := "java/util/Arrays", name := "copyOfRangeByte", desc := "([BII)[B" } : Jvm.MethodName) jdk_65_method_133_code (5 : Nat) (Option.some (Jvm.ClassFile.FieldType.array Jvm.ClassFile.FieldType.byte)), Jvm.Cond.code ({ cls := "java/util/Arrays", name := "checkLength", desc := "(II)V" } : Jvm.MethodName) jdk_65_method_131_code (2 : Nat) (Option.none : Option Jvm.ClassFile.FieldType)]
set_option maxRecDepth 65536 in
theorem codes_eq : words1.filter isCode = codes1 := rfl
theorem w_codes : ∀ c ∈ words1.filter isCode, c.before args0 about1 = true := by
  rw [codes_eq]
  intro c hc
  simp only [codes1, List.mem_cons, List.not_mem_nil, or_false] at hc
  rcases hc with rfl | rfl | rfl | rfl | rfl | rfl | rfl | rfl | rfl | rfl | rfl | rfl | rfl | rfl | rfl | rfl | rfl | rfl | rfl | rfl | rfl | rfl | rfl | rfl | rfl | rfl | rfl | rfl | rfl | rfl | rfl | rfl | rfl | rfl | rfl | rfl | rfl
  · exact w_c0
  · exact w_c1
  · exact w_c2
  · exact w_c3
  · exact w_c4
  · exact w_c5
  · exact w_c6
  · exact w_c7
  · exact w_c8
  · exact w_c9
  · exact w_c10
  · exact w_c11
  · exact w_c12
  · exact w_c13
  · exact w_c14
  · exact w_c15
  · exact w_c16
  · exact w_c17
  · exact w_c18
  · exact w_c19
  · exact w_c20
  · exact w_c21
  · exact w_c22
  · exact w_c23
  · exact w_c24
  · exact w_c25
  · exact w_c26
  · exact w_c27
  · exact w_c28
  · exact w_c29
  · exact w_c30
  · exact w_c31
  · exact w_c32
  · exact w_c33
  · exact w_c34
  · exact w_c35
  · exact w_c36
set_option maxRecDepth 65536 in
theorem w_t1 : (words1.take 24).all (fun c => isCode c || c.before args0 about1) = true := by decide +kernel
set_option maxRecDepth 65536 in
theorem w_t2 : ((words1.drop 24).take 24).all (fun c => isCode c || c.before args0 about1) = true := by decide +kernel
set_option maxRecDepth 65536 in
theorem w_t3 : (((words1.drop 24).drop 24).take 24).all (fun c => isCode c || c.before args0 about1) = true := by decide +kernel
set_option maxRecDepth 65536 in
theorem w_t4 : ((((words1.drop 24).drop 24).drop 24).take 24).all (fun c => isCode c || c.before args0 about1) = true := by decide +kernel
set_option maxRecDepth 65536 in
theorem w_t5 : (((((words1.drop 24).drop 24).drop 24).drop 24).take 24).all (fun c => isCode c || c.before args0 about1) = true := by decide +kernel
set_option maxRecDepth 65536 in
theorem w_t6 : ((((((words1.drop 24).drop 24).drop 24).drop 24).drop 24).take 24).all (fun c => isCode c || c.before args0 about1) = true := by decide +kernel
set_option maxRecDepth 65536 in
theorem w_t7 : (((((((words1.drop 24).drop 24).drop 24).drop 24).drop 24).drop 24).take 24).all (fun c => isCode c || c.before args0 about1) = true := by decide +kernel
set_option maxRecDepth 65536 in
theorem w_t8 : ((((((((words1.drop 24).drop 24).drop 24).drop 24).drop 24).drop 24).drop 24).take 24).all (fun c => isCode c || c.before args0 about1) = true := by decide +kernel
set_option maxRecDepth 65536 in
theorem w_t9 : ((((((((words1.drop 24).drop 24).drop 24).drop 24).drop 24).drop 24).drop 24).drop 24).all (fun c => isCode c || c.before args0 about1) = true := by decide +kernel
theorem w_tables : (allAtoms (Jvm.Cond.code x code maxLocals ret :: tables_1)).before args0 about1 = true := by
  rw [allAtoms_all]
  show words1.all (fun c => c.before args0 about1) = true
  refine all_split ?_ w_codes
  rw [← List.take_append_drop 24 words1, List.all_append, w_t1, ← List.take_append_drop 24 (words1.drop 24), List.all_append, w_t2, ← List.take_append_drop 24 ((words1.drop 24).drop 24), List.all_append, w_t3, ← List.take_append_drop 24 (((words1.drop 24).drop 24).drop 24), List.all_append, w_t4, ← List.take_append_drop 24 ((((words1.drop 24).drop 24).drop 24).drop 24), List.all_append, w_t5, ← List.take_append_drop 24 (((((words1.drop 24).drop 24).drop 24).drop 24).drop 24), List.all_append, w_t6, ← List.take_append_drop 24 ((((((words1.drop 24).drop 24).drop 24).drop 24).drop 24).drop 24), List.all_append, w_t7, ← List.take_append_drop 24 (((((((words1.drop 24).drop 24).drop 24).drop 24).drop 24).drop 24).drop 24), List.all_append, w_t8, w_t9]
  rfl
set_option maxRecDepth 65536 in
theorem w_rest : rest_1_c.before args0 about1 = true := by decide +kernel
set_option maxRecDepth 65536 in
theorem w_case : (Jvm.Cond.and given_1 narrow_1).before args0 about1 = true := by decide +kernel
set_option maxRecDepth 65536 in
theorem w_consts : constsHeld consts_1 about1 := Jvm.Lit.constsHeldB_iff.mp (by decide +kernel)
theorem w_applies : (headSpec (Jvm.Cond.code x code maxLocals ret :: tables_1) room_1).applies x e0.platform about1 = true :=
  (Spec.applies_iff w_frames).mpr ⟨w_running, w_runnable, w_alone, w_named, w_hears, w_ripe, w_room, w_tables⟩
theorem atStart : AtStart classFile x code maxLocals ret World_1 tables_1 room_1 Calls_1 rest_1 Pre_1 launch0 p0 e0 about1 theMethod args0 below0 :=
  ⟨lists_1, trivial, launch0.admits_env _ _ _, launch0.least_env, fairChoices_fair.cas, fairChoices_fair.clock, w_frames, w_args, w_heap, w_applies, ⟨w_consts, trivial⟩, w_rest, w_case⟩
end start1
theorem witness_1 : WitnessClaimed_1 := ⟨start1.p0, start1.e0, start1.about1, start1.theMethod, start1.args0, start1.below0, start1.atStart⟩
end Jvm.Pilot.@@N@@
