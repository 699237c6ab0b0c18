import JvmDerived
import JvmDerived.Pilot.@@N@@Statement
import JvmDerived.Pilot.@@N@@Code
set_option linter.unusedVariables false
set_option linter.unusedSimpArgs false
/- laws to paste: Road.backV, Road.lenW, Road.chN, Road.eqW, Road.codOf (cut by pick.py; bodies as the Statement names them) -/
namespace Jvm.Pilot.@@N@@
namespace StrChars
open Jvm Sem ClassFile Op Lib Jvm.Stand Jvm.Free.XT Jvm.Free.ALB Jvm.Free.JM Jvm.Free
open Jvm.Lib.Cold (StaticIs)
/-- a char array whose places are chars -/
def Ch (a : Addr) (A : Cell) (U : State) : Prop := Arr .char a A U ∧ Typed .char A
theorem Ch.mv {a : Addr} {A : Cell} {U U' : State} (h : Ch a A U) (hal : U.vm.Alike U'.vm) (hh : U'.heap = U.heap) : Ch a A U' := ⟨h.1.mv hal hh, h.2⟩
theorem Ch.keep {a : Addr} {A : Cell} {U U' : State} (h : Ch a A U) (hal : U.vm.Alike U'.vm) (hk : U'.heap[a]? = some A) : Ch a A U' := ⟨h.1.keep hal hk, h.2⟩
/-- what place i of a char[]'s cell holds -/
def cv (A : Cell) (i : Nat) : Int32 := match A.slots[i]? with | some (.int x) => x | _ => 0
theorem Ch.get {a : Addr} {A : Cell} {U : State} (h : Ch a A U) {i : Nat} (hi : i < A.slots.size) : A.slots[i]? = some (.int (cv A i)) := by
  have e := Array.getElem?_eq_getElem hi
  have f := h.2 i _ e
  unfold cv; rw [e]
  generalize A.slots[i] = v at f
  cases v <;> simp [fits] at f ⊢
/-- the byte that i2b leaves of a char -/
def lo8 (x : Int32) : Int32 := x.toInt8.toInt32
theorem fits_lo8 (y : Int32) : fits .byte (.int (lo8 y)) = true := by
  have h1 := y.toInt8.le_toInt
  have h2 := y.toInt8.toInt_lt
  simp only [lo8, fits, Bool.and_eq_true, decide_eq_true_eq, Int32.le_iff_toInt_le, Int8.toInt_toInt32, show (-128 : Int32).toInt = -128 from by decide, show (127 : Int32).toInt = 127 from by decide]
  omega
/-- A' is A but that each place j of lo .. hi - 1 holds f j -/
def Laid (A A' : Cell) (lo hi : Nat) (f : Nat → Value) : Prop := A'.cls = A.cls ∧ A'.vm = A.vm ∧ A'.slots.size = A.slots.size ∧ ∀ i, A'.slots[i]? = if lo ≤ i ∧ i < hi then some (f i) else A.slots[i]?
theorem Laid.zero (A : Cell) (lo : Nat) (f : Nat → Value) : Laid A A lo (lo + 0) f := ⟨rfl, rfl, rfl, fun i => by rw [if_neg (by omega)]⟩
theorem Laid.step {A Ak : Cell} {lo k : Nat} {f : Nat → Value} {v : Value} (h : Laid A Ak lo k f) (hlo : lo ≤ k) (hk : k < Ak.slots.size) (hv : v = f k) : Laid A (Ak.setSlot k v) lo (k + 1) f := by
  refine ⟨h.1, h.2.1, by simpa [Cell.setSlot] using h.2.2.1, fun i => ?_⟩
  by_cases e : k = i
  · subst e; rw [Cell.slots_setSlot_self v hk, if_pos (by omega), hv]
  · rw [Cell.slots_setSlot_ne v e, h.2.2.2 i]
    by_cases q : lo ≤ i ∧ i < k
    · rw [if_pos q, if_pos (by omega)]
    · rw [if_neg q, if_neg (by omega)]
def U16 : String := "java/lang/StringUTF16"
namespace Cmp5
def yN : MethodName := ⟨"java/lang/StringUTF16", "compress", "([CI[BII)I"⟩
abbrev yB : ByteArray := jdk_52_method_21_code
theorem d0 : decode yB 0 = .ok (.iconst 0, 1) := by decide +kernel
theorem d1 : decode yB 1 = .ok (.istore 5, 2) := by decide +kernel
theorem d3 : decode yB 3 = .ok (.iload 5, 2) := by decide +kernel
theorem d5 : decode yB 5 = .ok (.iload 4, 2) := by decide +kernel
theorem d7 : decode yB 7 = .ok (.if_icmp (.ge) 37, 3) := by decide +kernel
theorem d10 : decode yB 10 = .ok (.aload_n 0, 1) := by decide +kernel
theorem d11 : decode yB 11 = .ok (.iload_n 1, 1) := by decide +kernel
theorem d12 : decode yB 12 = .ok (.caload, 1) := by decide +kernel
theorem d13 : decode yB 13 = .ok (.istore 6, 2) := by decide +kernel
theorem d15 : decode yB 15 = .ok (.iload 6, 2) := by decide +kernel
theorem d17 : decode yB 17 = .ok (.sipush 255, 3) := by decide +kernel
theorem d20 : decode yB 20 = .ok (.if_icmp (.le) 6, 3) := by decide +kernel
theorem d26 : decode yB 26 = .ok (.aload_n 2, 1) := by decide +kernel
theorem d27 : decode yB 27 = .ok (.iload_n 3, 1) := by decide +kernel
theorem d28 : decode yB 28 = .ok (.iload 6, 2) := by decide +kernel
theorem d30 : decode yB 30 = .ok (.i2b, 1) := by decide +kernel
theorem d31 : decode yB 31 = .ok (.bastore, 1) := by decide +kernel
theorem d32 : decode yB 32 = .ok (.iinc 1 1, 3) := by decide +kernel
theorem d35 : decode yB 35 = .ok (.iinc 3 1, 3) := by decide +kernel
theorem d38 : decode yB 38 = .ok (.iinc 5 1, 3) := by decide +kernel
theorem d41 : decode yB 41 = .ok (.goto (-38), 3) := by decide +kernel
theorem d44 : decode yB 44 = .ok (.iload 4, 2) := by decide +kernel
theorem d46 : decode yB 46 = .ok (.ireturn, 1) := by decide +kernel
def site : List Cond := []
def tab : Cond := tabOf yN yB 7 (some .int) site
def P (b : Addr) (A : Cell) (d : Addr) (B : Cell) (o q len : Nat) (args : Array Value) (s : State) : Prop := args = #[.ref b, .int (Int32.ofNat o), .ref d, .int (Int32.ofNat q), .int (Int32.ofNat len)] ∧ Ch b A s ∧ Arr .byte d B s ∧ b ≠ d ∧ o + len ≤ A.slots.size ∧ q + len ≤ B.slots.size ∧ ∀ i, i < len → ¬ 255 < cv A (o + i)
def E (b : Addr) (A : Cell) (d : Addr) (B : Cell) (o q len : Nat) (r : Option Value) (s u : State) : Prop := r = some (.int (Int32.ofNat len)) ∧ ∃ B', Put d B' s u ∧ Laid B B' q (q + len) (fun j => Value.int (lo8 (cv A (o + (j - q)))))
/-- no char of the range above 255: len; the places written hold each char's low byte -/
theorem law (l : Launch) (b : Addr) (A : Cell) (d : Addr) (B : Cell) (o q len : Nat) : Law l yN 5 5 0 0 yB 7 (some .int) site (P b A d B o q len) (E b A d B o q len) (copyLocs d q len) 0 0 := by
  refine Law.of_walk (plainFor_of_name (by decide +kernel)) (by decide +kernel) (by decide +kernel) (by decide) (fun _ _ h => by rw [h.1]; rfl) (fun _ U U' hal hh h => ⟨h.1, h.2.1.mv hal hh, h.2.2.1.mv hal hh, h.2.2.2⟩) (fun r U U' V V' h1 hal h2 h => ⟨h.1, h.2.elim fun B' q => ⟨B', q.1.mv h1 h2, q.2⟩⟩) ?_
  intro p e s m args below meth c s₁ X0 hexec hbytes hml hret hlk hnm hown hh0 W hP
  obtain ⟨rfl, hA, hB, hne, l1, l2, hp⟩ := hP
  have c1 : Steps p.tables e below (s₁.setTop (entryFrame m #[.ref b, .int (Int32.ofNat o), .ref d, .int (Int32.ofNat q), .int (Int32.ofNat len)] 7)) (s₁.setTop (mkF m 0 #[.val (.ref b), .val (.int (Int32.ofNat o)), .val (.ref d), .val (.int (Int32.ofNat q)), .val (.int (Int32.ofNat len)), .unset, .unset] [])) := entry rfl
  have hA0 := hA.1.mv X0.warmed.alike hh0
  have hB0 := hB.mv X0.warmed.alike hh0
  have a31 := hA.1.2.2.2
  have c2 : Steps p.tables e below (s₁.setTop (entryFrame m #[.ref b, .int (Int32.ofNat o), .ref d, .int (Int32.ofNat q), .int (Int32.ofNat len)] 7)) (s₁.setTop (mkF m 3 #[.val (.ref b), .val (.int (Int32.ofNat o)), .val (.ref d), .val (.int (Int32.ofNat q)), .val (.int (Int32.ofNat len)), .val (.int 0), .unset] [])) := c1.trans (by
    refine iconstV X0.here hexec rfl 0 (hb hbytes d0) (by decide) ?_
    refine XS.istore X0.here hexec rfl (hb hbytes d1) rfl rfl ?_
    exact Steps.refl _)
  have loop : ∀ (r i : Nat), i + r = len → ∀ (z : Slot), (z = .unset ∨ ∃ w, z = .val w ∧ w.category = 1) → ∀ (Tl : State) (Bk : Cell), Stand p l e { frames := 0, locals := 0, cells := 0, slots := 0 } s m #[.ref b, .int (Int32.ofNat o), .ref d, .int (Int32.ofNat q), .int (Int32.ofNat len)] below meth c Tl ([] ++ copyLocs d q i) 0 0 → Put d Bk s₁ Tl → Laid B Bk q (q + i) (fun j => Value.int (lo8 (cv A (o + (j - q))))) →
      Steps p.tables e below (s₁.setTop (entryFrame m #[.ref b, .int (Int32.ofNat o), .ref d, .int (Int32.ofNat q), .int (Int32.ofNat len)] 7)) (Tl.setTop (mkF m 3 #[.val (.ref b), .val (.int (Int32.ofNat (o + i))), .val (.ref d), .val (.int (Int32.ofNat (q + i))), .val (.int (Int32.ofNat len)), .val (.int (Int32.ofNat i)), z] [])) → ∃ (T' : State) (B' : Cell) (z' : Slot), Stand p l e { frames := 0, locals := 0, cells := 0, slots := 0 } s m #[.ref b, .int (Int32.ofNat o), .ref d, .int (Int32.ofNat q), .int (Int32.ofNat len)] below meth c T' ([] ++ copyLocs d q len) 0 0 ∧ Put d B' s₁ T' ∧ Laid B B' q (q + len) (fun j => Value.int (lo8 (cv A (o + (j - q))))) ∧
      Steps p.tables e below (s₁.setTop (entryFrame m #[.ref b, .int (Int32.ofNat o), .ref d, .int (Int32.ofNat q), .int (Int32.ofNat len)] 7)) (T'.setTop (mkF m 3 #[.val (.ref b), .val (.int (Int32.ofNat (o + len))), .val (.ref d), .val (.int (Int32.ofNat (q + len))), .val (.int (Int32.ofNat len)), .val (.int (Int32.ofNat len)), z'] [])) := by
    intro r
    induction r with
    | zero =>
      intro i hi z hz Tl Bk Xl pl fl cl
      have hil : i = len := by omega
      rw [hil] at Xl fl cl
      exact ⟨Tl, Bk, z, Xl, pl, fl, cl⟩
    | succ r ih =>
      intro i hi z hz Tl Bk Xl pl fl cl
      have all := X0.warmed.alike.symm.trans Xl.warmed.alike
      have hAl := hA0.keep all (pl.other hne hA0.1)
      have hBk := hB0.like all pl.1 fl.1 fl.2.1 fl.2.2.1
      have hlt : q + i < Bk.slots.size := by rw [fl.2.2.1]; omega
      have c3 : Steps p.tables e below (s₁.setTop (entryFrame m #[.ref b, .int (Int32.ofNat o), .ref d, .int (Int32.ofNat q), .int (Int32.ofNat len)] 7)) (Tl.setTop (mkF m 12 #[.val (.ref b), .val (.int (Int32.ofNat (o + i))), .val (.ref d), .val (.int (Int32.ofNat (q + i))), .val (.int (Int32.ofNat len)), .val (.int (Int32.ofNat i)), z] [.int (Int32.ofNat (o + i)), .ref b])) := cl.trans (by
        refine XS.iload Xl.here hexec rfl (hb hbytes d3) rfl ?_
        refine XS.iload Xl.here hexec rfl (hb hbytes d5) rfl ?_
        refine XS.icmpNo Xl.here hexec rfl (hb hbytes d7) rfl (ii_ge_f (lt32 (by omega) (by omega))) ?_
        refine XS.aloadN Xl.here hexec rfl (hb hbytes d10) rfl rfl ?_
        refine XS.iloadN Xl.here hexec rfl (hb hbytes d11) rfl ?_
        exact Steps.refl _)
      have c4 : Steps p.tables e below (s₁.setTop (entryFrame m #[.ref b, .int (Int32.ofNat o), .ref d, .int (Int32.ofNat q), .int (Int32.ofNat len)] 7)) (Tl.setTop (mkF m 13 #[.val (.ref b), .val (.int (Int32.ofNat (o + i))), .val (.ref d), .val (.int (Int32.ofNat (q + i))), .val (.int (Int32.ofNat len)), .val (.int (Int32.ofNat i)), z] [.int (cv A (o + i))])) := c3.trans (by
        refine Xl.aget hexec hAl rfl (hA.get (i := o + i) (by omega)) rfl rfl (hb hbytes d12) ?_
        exact Steps.refl _)
      have c5 : Steps p.tables e below (s₁.setTop (entryFrame m #[.ref b, .int (Int32.ofNat o), .ref d, .int (Int32.ofNat q), .int (Int32.ofNat len)] 7)) (Tl.setTop (mkF m 15 #[.val (.ref b), .val (.int (Int32.ofNat (o + i))), .val (.ref d), .val (.int (Int32.ofNat (q + i))), .val (.int (Int32.ofNat len)), .val (.int (Int32.ofNat i)), .val (.int (cv A (o + i)))] [])) := c4.trans (by
        refine XS.istoreS Xl.here hexec rfl (hb hbytes d13) rfl rfl hz ?_
        exact Steps.refl _)
      have c6 : Steps p.tables e below (s₁.setTop (entryFrame m #[.ref b, .int (Int32.ofNat o), .ref d, .int (Int32.ofNat q), .int (Int32.ofNat len)] 7)) (Tl.setTop (mkF m 31 #[.val (.ref b), .val (.int (Int32.ofNat (o + i))), .val (.ref d), .val (.int (Int32.ofNat (q + i))), .val (.int (Int32.ofNat len)), .val (.int (Int32.ofNat i)), .val (.int (cv A (o + i)))] [.int (lo8 (cv A (o + i))), .int (Int32.ofNat (q + i)), .ref d])) := c5.trans (by
        refine XS.iload Xl.here hexec rfl (hb hbytes d15) rfl ?_
        refine sipushV Xl.here hexec rfl 255 (hb hbytes d17) (by decide) ?_
        refine XS.icmpYes Xl.here hexec rfl (pc0 := 20) rfl (hb hbytes d20) rfl (ii_le_t (hp i (by omega))) (by decide) rfl ?_
        refine XS.aloadN Xl.here hexec rfl (hb hbytes d26) rfl rfl ?_
        refine XS.iloadN Xl.here hexec rfl (hb hbytes d27) rfl ?_
        refine XS.iload Xl.here hexec rfl (hb hbytes d28) rfl ?_
        refine i2b Xl.here hexec rfl (hb hbytes d30) rfl ?_
        exact Steps.refl _)
      obtain ⟨T7, X7, p7, st7⟩ := Xl.aput hexec hBk rfl hlt rfl (fits_lo8 (cv A (o + i))) (g := (mkF m 31 #[.val (.ref b), .val (.int (Int32.ofNat (o + i))), .val (.ref d), .val (.int (Int32.ofNat (q + i))), .val (.int (Int32.ofNat len)), .val (.int (Int32.ofNat i)), .val (.int (cv A (o + i)))] [.int (lo8 (cv A (o + i))), .int (Int32.ofNat (q + i)), .ref d])) rfl (rest := []) rfl (hb hbytes d31)
      have c8 : Steps p.tables e below (s₁.setTop (entryFrame m #[.ref b, .int (Int32.ofNat o), .ref d, .int (Int32.ofNat q), .int (Int32.ofNat len)] 7)) (T7.setTop (mkF m 32 #[.val (.ref b), .val (.int (Int32.ofNat (o + i))), .val (.ref d), .val (.int (Int32.ofNat (q + i))), .val (.int (Int32.ofNat len)), .val (.int (Int32.ofNat i)), .val (.int (cv A (o + i)))] [])) := c6.trans (st7 _ (Steps.refl _))
      have c9 : Steps p.tables e below (s₁.setTop (entryFrame m #[.ref b, .int (Int32.ofNat o), .ref d, .int (Int32.ofNat q), .int (Int32.ofNat len)] 7)) (T7.setTop (mkF m 3 #[.val (.ref b), .val (.int (Int32.ofNat (o + i) + 1)), .val (.ref d), .val (.int (Int32.ofNat (q + i) + 1)), .val (.int (Int32.ofNat len)), .val (.int (Int32.ofNat i + 1)), .val (.int (cv A (o + i)))] [])) := c8.trans (by
        refine iincV X7.here hexec rfl 1 (hb hbytes d32) (by decide) rfl rfl ?_
        refine iincV X7.here hexec rfl 1 (hb hbytes d35) (by decide) rfl rfl ?_
        refine iincV X7.here hexec rfl 1 (hb hbytes d38) (by decide) rfl rfl ?_
        refine XS.goto X7.here hexec rfl (pc0 := 41) rfl (hb hbytes d41) (by decide) rfl ?_
        exact Steps.refl _)
      have c10 : Steps p.tables e below (s₁.setTop (entryFrame m #[.ref b, .int (Int32.ofNat o), .ref d, .int (Int32.ofNat q), .int (Int32.ofNat len)] 7)) (T7.setTop (mkF m 3 #[.val (.ref b), .val (.int (Int32.ofNat (o + (i + 1)))), .val (.ref d), .val (.int (Int32.ofNat (q + (i + 1)))), .val (.int (Int32.ofNat len)), .val (.int (Int32.ofNat (i + 1))), .val (.int (cv A (o + i)))] [])) := by
        have := c9
        rw [succ32, succ32, succ32] at this
        exact this
      exact ih (i + 1) (by omega) _ (Or.inr ⟨_, rfl, rfl⟩) T7 _ (by rw [copyLocs_step, ← List.append_assoc]; exact X7) (pl.trans p7) (fl.step (by omega) hlt (by simp)) c10
  obtain ⟨T9, B9, z9, X9, p9, f9, g9⟩ := loop len 0 (by omega) .unset (Or.inl rfl) s₁ B (by simpa [copyLocs] using X0) ⟨hB0.1, fun _ _ => rfl, rfl⟩ (Laid.zero _ _ _) c2
  have c11 : Steps p.tables e below (s₁.setTop (entryFrame m #[.ref b, .int (Int32.ofNat o), .ref d, .int (Int32.ofNat q), .int (Int32.ofNat len)] 7)) (T9.setTop (mkF m 46 #[.val (.ref b), .val (.int (Int32.ofNat (o + len))), .val (.ref d), .val (.int (Int32.ofNat (q + len))), .val (.int (Int32.ofNat len)), .val (.int (Int32.ofNat len)), z9] [.int (Int32.ofNat len)])) := g9.trans (by
    refine XS.iload X9.here hexec rfl (hb hbytes d3) rfl ?_
    refine XS.iload X9.here hexec rfl (hb hbytes d5) rfl ?_
    refine XS.icmpYes X9.here hexec rfl (pc0 := 7) rfl (hb hbytes d7) rfl (ii_ge_t (nlt32 (by omega) (Nat.le_refl _))) (by decide) rfl ?_
    refine XS.iload X9.here hexec rfl (hb hbytes d44) rfl ?_
    exact Steps.refl _)
  exact ⟨T9, some (.int (Int32.ofNat len)), _, _, _, X9, by simp, rfl, rfl, (fun h => by cases h), ⟨rfl, B9, p9.from hh0, f9⟩, fun fs hl => c11.trans (X9.ireturnOut hexec hret rfl (Or.inl rfl) (hb hbytes d46) hl)⟩
end Cmp5
namespace Cmp3
def yN : MethodName := ⟨"java/lang/StringUTF16", "compress", "([CII)[B"⟩
abbrev yB : ByteArray := jdk_52_method_16_code
theorem d0 : decode yB 0 = .ok (.iload_n 2, 1) := by decide +kernel
theorem d1 : decode yB 1 = .ok (.newarray .byte, 2) := by decide +kernel
theorem d3 : decode yB 3 = .ok (.astore_n 3, 1) := by decide +kernel
theorem d4 : decode yB 4 = .ok (.aload_n 0, 1) := by decide +kernel
theorem d5 : decode yB 5 = .ok (.iload_n 1, 1) := by decide +kernel
theorem d6 : decode yB 6 = .ok (.aload_n 3, 1) := by decide +kernel
theorem d7 : decode yB 7 = .ok (.iconst 0, 1) := by decide +kernel
theorem d8 : decode yB 8 = .ok (.iload_n 2, 1) := by decide +kernel
theorem d9 : decode yB 9 = .ok (.invokestatic 115, 3) := by decide +kernel
theorem d12 : decode yB 12 = .ok (.istore 4, 2) := by decide +kernel
theorem d14 : decode yB 14 = .ok (.iload 4, 2) := by decide +kernel
theorem d16 : decode yB 16 = .ok (.iload_n 2, 1) := by decide +kernel
theorem d17 : decode yB 17 = .ok (.if_icmp (.eq) 40, 3) := by decide +kernel
theorem d57 : decode yB 57 = .ok (.aload_n 3, 1) := by decide +kernel
theorem d58 : decode yB 58 = .ok (.areturn, 1) := by decide +kernel
def site : List Cond := [.arrayClass .byte, Cmp5.tab] ++ staticW U16 115 Cmp5.yN
def tab : Cond := tabOf yN yB 6 (some (.array .byte)) site
def P (b : Addr) (A : Cell) (o len : Nat) (args : Array Value) (s : State) : Prop := args = #[.ref b, .int (Int32.ofNat o), .int (Int32.ofNat len)] ∧ Ch b A s ∧ o + len ≤ A.slots.size ∧ len ≤ 536870912 ∧ ∀ i, i < len → ¬ 255 < cv A (o + i)
def E (b : Addr) (A : Cell) (o len : Nat) (r : Option Value) (s u : State) : Prop := NewArr .byte "[B" len (fun j => .int (lo8 (cv A (o + j)))) r s u ∧ u.heap.size = s.heap.size + 1
/-- no char of the range above 255: a new byte[] of their low bytes -/
theorem law (l : Launch) (b : Addr) (A : Cell) (o len : Nat) : Law l yN 3 3 1 18 yB 6 (some (.array .byte)) site (P b A o len) (E b A o len) [] 1 len := by
  refine Law.of_walk (plainFor_of_name (by decide +kernel)) (by decide +kernel) (by decide +kernel) (by decide) (fun _ _ h => by rw [h.1]; rfl) (fun _ U U' hal hh h => ⟨h.1, h.2.1.mv hal hh, h.2.2⟩) (fun r U U' V V' h1 hal h2 h => ⟨NewArr.mv r U U' V V' h1 hal h2 h.1, by rw [h1, h2]; exact h.2⟩) ?_
  intro p e s m args below meth c s₁ X0 hexec hbytes hml hret hlk hnm hown hh0 W hP
  obtain ⟨rfl, hA, l1, l2, hp⟩ := hP
  have a31 := hA.1.2.2.2
  have c1 : Steps p.tables e below (s₁.setTop (entryFrame m #[.ref b, .int (Int32.ofNat o), .int (Int32.ofNat len)] 6)) (s₁.setTop (mkF m 0 #[.val (.ref b), .val (.int (Int32.ofNat o)), .val (.int (Int32.ofNat len)), .unset, .unset, .unset] [])) := entry rfl
  have c2 : Steps p.tables e below (s₁.setTop (entryFrame m #[.ref b, .int (Int32.ofNat o), .int (Int32.ofNat len)] 6)) (s₁.setTop (mkF m 1 #[.val (.ref b), .val (.int (Int32.ofNat o)), .val (.int (Int32.ofNat len)), .unset, .unset, .unset] [.int (Int32.ofNat len)])) := c1.trans (by
    refine XS.iloadN X0.here hexec rfl (hb hbytes d0) rfl ?_
    exact Steps.refl _)
  obtain ⟨T3, B3, X3, ba3, bs3, bv3, bh3, bf3, st3⟩ := X0.anew hexec (atype := .byte) (wk W (.arrayClass .byte)) rfl (by show len * 1 ≤ _; omega) (by omega) (g := (mkF m 1 #[.val (.ref b), .val (.int (Int32.ofNat o)), .val (.int (Int32.ofNat len)), .unset, .unset, .unset] [.int (Int32.ofNat len)])) rfl (hb hbytes d1) (rest := []) rfl (Nat.le_refl _) (by show 0 + len ≤ len; omega)
  rw [hh0] at ba3 st3
  have kp3 : XT.Kept s T3 := (XT.Kept.of_eq hh0).push bh3
  have hA3 := hA.keep X3.warmed.alike (kp3 _ _ hA.1.1)
  have hne : b ≠ s.heap.size := hA.1.ne
  have c4 : Steps p.tables e below (s₁.setTop (entryFrame m #[.ref b, .int (Int32.ofNat o), .int (Int32.ofNat len)] 6)) (T3.setTop (mkF m 3 #[.val (.ref b), .val (.int (Int32.ofNat o)), .val (.int (Int32.ofNat len)), .unset, .unset, .unset] [.ref s.heap.size])) := c2.trans (st3 _ (Steps.refl _))
  have c5 : Steps p.tables e below (s₁.setTop (entryFrame m #[.ref b, .int (Int32.ofNat o), .int (Int32.ofNat len)] 6)) (T3.setTop (mkF m 9 #[.val (.ref b), .val (.int (Int32.ofNat o)), .val (.int (Int32.ofNat len)), .val (.ref s.heap.size), .unset, .unset] [.int (Int32.ofNat len), .int 0, .ref s.heap.size, .int (Int32.ofNat o), .ref b])) := c4.trans (by
    refine XS.astoreN X3.here hexec rfl (hb hbytes d3) rfl rfl rfl ?_
    refine XS.aloadN X3.here hexec rfl (hb hbytes d4) rfl rfl ?_
    refine XS.iloadN X3.here hexec rfl (hb hbytes d5) rfl ?_
    refine XS.aloadN X3.here hexec rfl (hb hbytes d6) rfl rfl ?_
    refine iconstV X3.here hexec rfl 0 (hb hbytes d7) (by decide) ?_
    refine XS.iloadN X3.here hexec rfl (hb hbytes d8) rfl ?_
    exact Steps.refl _)
  obtain ⟨v6, T6, X6, E6, g6⟩ := X3.callS hexec (Cmp5.law l b A s.heap.size B3 o 0 len) hown (wks W (staticW U16 115 Cmp5.yN)) (wk W Cmp5.tab) (W := 0) (Nat.le_of_ble_eq_true rfl) (Nat.le_of_ble_eq_true rfl) (Nat.le_refl _) (by show 0 + len + 0 ≤ len; omega) (g := (mkF m 9 #[.val (.ref b), .val (.int (Int32.ofNat o)), .val (.int (Int32.ofNat len)), .val (.ref s.heap.size), .unset, .unset] [.int (Int32.ofNat len), .int (Int32.ofNat 0), .ref s.heap.size, .int (Int32.ofNat o), .ref b])) rfl (by rw [hml]; rfl) c5 (argsL := [.ref b, .int (Int32.ofNat o), .ref s.heap.size, .int (Int32.ofNat 0), .int (Int32.ofNat len)]) (rest := []) rfl rfl (by show 2 * 0 + 0 ≤ _; decide) (hb hbytes d9) (⟨rfl, hA3, ba3, hne, l1, by rw [bs3]; simp, hp⟩)
  obtain ⟨rfl, B6, p6, f6⟩ := E6
  have c7 : Steps p.tables e below (s₁.setTop (entryFrame m #[.ref b, .int (Int32.ofNat o), .int (Int32.ofNat len)] 6)) (T6.setTop (mkF m 12 #[.val (.ref b), .val (.int (Int32.ofNat o)), .val (.int (Int32.ofNat len)), .val (.ref s.heap.size), .unset, .unset] [.int (Int32.ofNat len)])) := g6
  have c8 : Steps p.tables e below (s₁.setTop (entryFrame m #[.ref b, .int (Int32.ofNat o), .int (Int32.ofNat len)] 6)) (T6.setTop (mkF m 58 #[.val (.ref b), .val (.int (Int32.ofNat o)), .val (.int (Int32.ofNat len)), .val (.ref s.heap.size), .val (.int (Int32.ofNat len)), .unset] [.ref s.heap.size])) := c7.trans (by
    refine XS.istore X6.here hexec rfl (hb hbytes d12) rfl rfl ?_
    refine XS.iload X6.here hexec rfl (hb hbytes d14) rfl ?_
    refine XS.iloadN X6.here hexec rfl (hb hbytes d16) rfl ?_
    refine XS.icmpYes X6.here hexec rfl (pc0 := 17) rfl (hb hbytes d17) rfl (ii_eq_t rfl) (by decide) rfl ?_
    refine XS.aloadN X6.here hexec rfl (hb hbytes d57) rfl rfl ?_
    exact Steps.refl _)
  have X8 := X6.wide (L' := []) (cells' := 1) (slots' := len) (fun x hx hlt => by
    simp only [List.nil_append, copyLocs, List.mem_map, List.mem_range] at hx
    obtain ⟨i, -, rfl⟩ := hx
    exact absurd hlt (Nat.lt_irrefl _)) (Nat.le_refl _) (by omega)
  exact ⟨T6, some (.ref s.heap.size), _, _, _, X8, rfl, rfl, rfl, (fun h => by cases h), ⟨⟨rfl, B6, ba3.like (X3.warmed.alike.symm.trans X6.warmed.alike) p6.1 f6.1 f6.2.1 f6.2.2.1, f6.2.1.trans bv3, by rw [X6.warmed.alike.findClass, f6.1]; exact bf3, by rw [f6.2.2.1, bs3]; simp, fun j hj => by rw [f6.2.2.2 j, if_pos (by omega)]; rfl, kp3.put p6 (Nat.le_refl _)⟩, by rw [p6.2.2, bh3, hh0]; simp⟩, fun fs hl => c8.trans (X8.areturnOut hexec rfl hret rfl (hb hbytes d58) hl)⟩
end Cmp3
namespace CodL
def yN : MethodName := ⟨"java/lang/StringUTF16", "coderFromArrayLen", "([BI)B"⟩
abbrev yB : ByteArray := jdk_52_method_15_code
theorem d0 : decode yB 0 = .ok (.iload_n 1, 1) := by decide +kernel
theorem d1 : decode yB 1 = .ok (.aload_n 0, 1) := by decide +kernel
theorem d2 : decode yB 2 = .ok (.arraylength, 1) := by decide +kernel
theorem d3 : decode yB 3 = .ok (.isub, 1) := by decide +kernel
theorem d4 : decode yB 4 = .ok (.bipush 31, 2) := by decide +kernel
theorem d6 : decode yB 6 = .ok (.iushr, 1) := by decide +kernel
theorem d7 : decode yB 7 = .ok (.i2b, 1) := by decide +kernel
theorem d8 : decode yB 8 = .ok (.ireturn, 1) := by decide +kernel
def site : List Cond := []
def tab : Cond := tabOf yN yB 2 (some .byte) site
def P (d : Addr) (B : Cell) (args : Array Value) (s : State) : Prop := args = #[.ref d, .int (Int32.ofNat B.slots.size)] ∧ Arr .byte d B s
def E (r : Option Value) (s u : State) : Prop := XT.PureE (some (.int 0)) r s u
/-- an array as long as the number of chars: LATIN1 -/
theorem law (l : Launch) (d : Addr) (B : Cell) : Law l yN 2 2 0 0 yB 2 (some .byte) site (P d B) E [] 0 0 := by
  refine Law.of_walk (plainFor_of_name (by decide +kernel)) (by decide +kernel) (by decide +kernel) (by decide) (fun _ _ h => by rw [h.1]; rfl) (fun _ U U' hal hh h => ⟨h.1, h.2.mv hal hh⟩) (fun r U U' V V' h1 hal h2 h => XT.PureE.mv r U U' V V' h1 hal h2 h) ?_
  intro p e s m args below meth c s₁ X0 hexec hbytes hml hret hlk hnm hown hh0 W hP
  obtain ⟨rfl, hB⟩ := hP
  have hB0 := hB.mv X0.warmed.alike hh0
  have c1 : Steps p.tables e below (s₁.setTop (entryFrame m #[.ref d, .int (Int32.ofNat B.slots.size)] 2)) (s₁.setTop (mkF m 0 #[.val (.ref d), .val (.int (Int32.ofNat B.slots.size))] [])) := entry rfl
  have c2 : Steps p.tables e below (s₁.setTop (entryFrame m #[.ref d, .int (Int32.ofNat B.slots.size)] 2)) (s₁.setTop (mkF m 2 #[.val (.ref d), .val (.int (Int32.ofNat B.slots.size))] [.ref d, .int (Int32.ofNat B.slots.size)])) := c1.trans (by
    refine XS.iloadN X0.here hexec rfl (hb hbytes d0) rfl ?_
    refine XS.aloadN X0.here hexec rfl (hb hbytes d1) rfl rfl ?_
    exact Steps.refl _)
  have c3 : Steps p.tables e below (s₁.setTop (entryFrame m #[.ref d, .int (Int32.ofNat B.slots.size)] 2)) (s₁.setTop (mkF m 8 #[.val (.ref d), .val (.int (Int32.ofNat B.slots.size))] [.int (lo8 (ushr (Int32.ofNat B.slots.size - Int32.ofNat B.slots.size) 31))])) := c2.trans (by
    refine X0.alen hexec hB0 rfl rfl (hb hbytes d2) ?_
    refine XS.isub X0.here hexec rfl (hb hbytes d3) rfl ?_
    refine bipushV X0.here hexec rfl 31 (hb hbytes d4) (by decide) ?_
    refine iushr X0.here hexec rfl (hb hbytes d6) rfl ?_
    refine i2b X0.here hexec rfl (hb hbytes d7) rfl ?_
    exact Steps.refl _)
  have e0 : lo8 (ushr (Int32.ofNat B.slots.size - Int32.ofNat B.slots.size) 31) = 0 := by rw [Int32.sub_self]; decide
  rw [e0] at c3
  exact ⟨s₁, some (.int 0), _, _, _, X0, rfl, rfl, rfl, (fun h => by cases h), ⟨rfl, hh0⟩, fun fs hl => c3.trans (X0.ireturnOut hexec hret rfl (Or.inr (Or.inr (Or.inl rfl))) (hb hbytes d8) hl)⟩
end CodL
/-- the String at a is Latin-1 over a new byte[] (the heap's one new cell): the low bytes of the len chars of A from o on; every cell but a is kept -/
def Got (a : Addr) (D : Cell) (fV fC : Field) (A : Cell) (o len : Nat) (r : Option Value) (s u : State) : Prop := r = none ∧ ∃ D' V : Cell, Blank "java/lang/String" a D' u ∧ Same D D' [fV.slot, fC.slot] ∧ D'.slots[fV.slot]? = some (.ref s.heap.size) ∧ D'.slots[fC.slot]? = some (.int 0) ∧ Arr .byte s.heap.size V u ∧ V.vm = .none ∧ u.vm.findClass "[B" = some V.cls ∧ V.slots.size = len ∧ (∀ j, j < len → V.slots[j]? = some (.int (lo8 (cv A (o + j))))) ∧ (∀ (y : Addr) (c : Cell), y ≠ a → s.heap[y]? = some c → u.heap[y]? = some c) ∧ u.heap.size = s.heap.size + 1
theorem Got.mv {a : Addr} {D A : Cell} {fV fC : Field} {o len : Nat} : ∀ r (U U' V V' : State), U'.heap = U.heap → V.vm.Alike V'.vm → V'.heap = V.heap → Got a D fV fC A o len r U V → Got a D fV fC A o len r U' V' :=
  fun r U U' V V' h1 hal h2 ⟨e0, D', X, a1, a2, a3, a4, a5, a6, a7, a8, a9, a10, a11⟩ => ⟨e0, D', X, a1.mv hal h2, a2, by rw [h1]; exact a3, a4, by rw [h1]; exact a5.mv hal h2, a6, by rw [hal.findClass]; exact a7, a8, a9, by rw [h1, h2]; exact a10, by rw [h1, h2]; exact a11⟩
namespace New4
def yN : MethodName := ⟨"java/lang/String", "<init>", "([CIILjava/lang/Void;)V"⟩
abbrev yB : ByteArray := jdk_42_method_149_code
theorem d0 : decode yB 0 = .ok (.aload_n 0, 1) := by decide +kernel
theorem d1 : decode yB 1 = .ok (.invokespecial 1, 3) := by decide +kernel
theorem d4 : decode yB 4 = .ok (.iload_n 3, 1) := by decide +kernel
theorem d5 : decode yB 5 = .ok (.ifCond (.ne) 22, 3) := by decide +kernel
theorem d27 : decode yB 27 = .ok (.getstatic 38, 3) := by decide +kernel
theorem d30 : decode yB 30 = .ok (.ifCond (.eq) 28, 3) := by decide +kernel
theorem d33 : decode yB 33 = .ok (.aload_n 1, 1) := by decide +kernel
theorem d34 : decode yB 34 = .ok (.iload_n 2, 1) := by decide +kernel
theorem d35 : decode yB 35 = .ok (.iload_n 3, 1) := by decide +kernel
theorem d36 : decode yB 36 = .ok (.invokestatic 177, 3) := by decide +kernel
theorem d39 : decode yB 39 = .ok (.astore 5, 2) := by decide +kernel
theorem d41 : decode yB 41 = .ok (.aload_n 0, 1) := by decide +kernel
theorem d42 : decode yB 42 = .ok (.aload 5, 2) := by decide +kernel
theorem d44 : decode yB 44 = .ok (.iload_n 3, 1) := by decide +kernel
theorem d45 : decode yB 45 = .ok (.invokestatic 47, 3) := by decide +kernel
theorem d48 : decode yB 48 = .ok (.putfield 15, 3) := by decide +kernel
theorem d51 : decode yB 51 = .ok (.aload_n 0, 1) := by decide +kernel
theorem d52 : decode yB 52 = .ok (.aload 5, 2) := by decide +kernel
theorem d54 : decode yB 54 = .ok (.putfield 9, 3) := by decide +kernel
theorem d57 : decode yB 57 = .ok (.return_, 1) := by decide +kernel
def site : List Cond := [.fieldLink "java/lang/String" 38 "java/lang/String" "COMPACT_STRINGS" "Z", Cmp3.tab, CodL.tab, .laysFinal "java/lang/String" "java/lang/String" "value" "[B", .fieldLink "java/lang/String" 9 "java/lang/String" "value" "[B", .laysFinal "java/lang/String" "java/lang/String" "coder" "B", .fieldLink "java/lang/String" 15 "java/lang/String" "coder" "B"] ++ objW "java/lang/String" 1 ++ staticW "java/lang/String" 177 Cmp3.yN ++ staticW "java/lang/String" 47 CodL.yN
def tab : Cond := tabOf yN yB 6 none site
def P (a : Addr) (D : Cell) (fV fC : Field) (b : Addr) (A : Cell) (z : Int32) (o len : Nat) (args : Array Value) (s : State) : Prop := args = #[.ref a, .ref b, .int (Int32.ofNat o), .int (Int32.ofNat len), .null] ∧ Blank "java/lang/String" a D s ∧ Found "java/lang/String" "value" "[B" fV s ∧ Found "java/lang/String" "coder" "B" fC s ∧ Ch b A s ∧ StaticIs s "java/lang/String" "COMPACT_STRINGS" "Z" (.int z) ∧ ¬ z = 0 ∧ 0 < len ∧ o + len ≤ A.slots.size ∧ len ≤ 536870912 ∧ ∀ i, i < len → ¬ 255 < cv A (o + i)
def E (a : Addr) (D : Cell) (fV fC : Field) (A : Cell) (o len : Nat) (r : Option Value) (s u : State) : Prop := Got a D fV fC A o len r s u
/-- len > 0, no char of the range above 255: a Latin-1 String of their low bytes -/
theorem law (l : Launch) (a : Addr) (D : Cell) (fV fC : Field) (b : Addr) (A : Cell) (z : Int32) (o len : Nat) : Law l yN 5 4 2 35 yB 6 none site (P a D fV fC b A z o len) (E a D fV fC A o len) [⟨a, fC.slot⟩, ⟨a, fV.slot⟩] 1 len := by
  refine Law.of_walk (plainFor_of_name (by decide +kernel)) (by decide +kernel) (by decide +kernel) (by decide) (fun _ _ h => by rw [h.1]; rfl) (fun _ U U' hal hh h => ⟨h.1, h.2.1.mv hal hh, h.2.2.1.al hal, h.2.2.2.1.al hal, h.2.2.2.2.1.mv hal hh, h.2.2.2.2.2.1.there hal hh, h.2.2.2.2.2.2⟩) (fun r U U' V V' h1 hal h2 h => Got.mv r U U' V V' h1 hal h2 h) ?_
  intro p e s m args below meth c s₁ X0 hexec hbytes hml hret hlk hnm hown hh0 W hP
  obtain ⟨rfl, hB, f1, f2, hA, s1, hz, l0, l1, l2, hp⟩ := hP
  have a31 := hA.1.2.2.2
  have c1 : Steps p.tables e below (s₁.setTop (entryFrame m #[.ref a, .ref b, .int (Int32.ofNat o), .int (Int32.ofNat len), .null] 6)) (s₁.setTop (mkF m 0 #[.val (.ref a), .val (.ref b), .val (.int (Int32.ofNat o)), .val (.int (Int32.ofNat len)), .val .null, .unset] [])) := entry rfl
  have c2 : Steps p.tables e below (s₁.setTop (entryFrame m #[.ref a, .ref b, .int (Int32.ofNat o), .int (Int32.ofNat len), .null] 6)) (s₁.setTop (mkF m 1 #[.val (.ref a), .val (.ref b), .val (.int (Int32.ofNat o)), .val (.int (Int32.ofNat len)), .val .null, .unset] [.ref a])) := c1.trans (by
    refine XS.aloadN X0.here hexec rfl (hb hbytes d0) rfl rfl ?_
    exact Steps.refl _)
  obtain ⟨T3, X3, q3, st3⟩ := X0.oinit hexec hown (wks W (objW "java/lang/String" 1)) (g := (mkF m 1 #[.val (.ref a), .val (.ref b), .val (.int (Int32.ofNat o)), .val (.int (Int32.ofNat len)), .val .null, .unset] [.ref a])) rfl (by rw [hml]; rfl) (rest := []) rfl (hb hbytes d1) (W := 0) (by show 2 * 0 + 0 ≤ _; decide) (Nat.le_of_ble_eq_true rfl) (Nat.le_of_ble_eq_true rfl)
  have hh3 := q3.trans hh0
  have c4 : Steps p.tables e below (s₁.setTop (entryFrame m #[.ref a, .ref b, .int (Int32.ofNat o), .int (Int32.ofNat len), .null] 6)) (T3.setTop (mkF m 27 #[.val (.ref a), .val (.ref b), .val (.int (Int32.ofNat o)), .val (.int (Int32.ofNat len)), .val .null, .unset] [])) := (c2.trans (st3 _ (Steps.refl _))).trans (by
    refine XS.iloadN X3.here hexec rfl (hb hbytes d4) rfl ?_
    refine XS.ifYes X3.here hexec rfl (pc0 := 5) rfl (hb hbytes d5) rfl (i0_ne_t (nz32 (by omega) l0)) (by decide) rfl ?_
    exact Steps.refl _)
  obtain ⟨T5, X5, q5, st5⟩ := X3.sget hexec hown (wk W (.fieldLink "java/lang/String" 38 "java/lang/String" "COMPACT_STRINGS" "Z")) s1 (fun _ _ h => by rw [hh3]; exact h) (g := (mkF m 27 #[.val (.ref a), .val (.ref b), .val (.int (Int32.ofNat o)), .val (.int (Int32.ofNat len)), .val .null, .unset] [])) rfl (hb hbytes d27)
  have hh5 := q5.trans hh3
  have c6 : Steps p.tables e below (s₁.setTop (entryFrame m #[.ref a, .ref b, .int (Int32.ofNat o), .int (Int32.ofNat len), .null] 6)) (T5.setTop (mkF m 30 #[.val (.ref a), .val (.ref b), .val (.int (Int32.ofNat o)), .val (.int (Int32.ofNat len)), .val .null, .unset] [.int z])) := c4.trans (st5 _ (Steps.refl _))
  have c7 : Steps p.tables e below (s₁.setTop (entryFrame m #[.ref a, .ref b, .int (Int32.ofNat o), .int (Int32.ofNat len), .null] 6)) (T5.setTop (mkF m 36 #[.val (.ref a), .val (.ref b), .val (.int (Int32.ofNat o)), .val (.int (Int32.ofNat len)), .val .null, .unset] [.int (Int32.ofNat len), .int (Int32.ofNat o), .ref b])) := c6.trans (by
    refine XS.ifNo X5.here hexec rfl (hb hbytes d30) rfl (i0_eq_f hz) ?_
    refine XS.aloadN X5.here hexec rfl (hb hbytes d33) rfl rfl ?_
    refine XS.iloadN X5.here hexec rfl (hb hbytes d34) rfl ?_
    refine XS.iloadN X5.here hexec rfl (hb hbytes d35) rfl ?_
    exact Steps.refl _)
  obtain ⟨v8, T8, X8, E8, g8⟩ := X5.callS hexec (Cmp3.law l b A o len) hown (wks W (staticW "java/lang/String" 177 Cmp3.yN)) (wk W Cmp3.tab) (W := 0) (Nat.le_of_ble_eq_true rfl) (Nat.le_of_ble_eq_true rfl) (Nat.le_refl _) (by show 0 + len ≤ len; omega) (g := (mkF m 36 #[.val (.ref a), .val (.ref b), .val (.int (Int32.ofNat o)), .val (.int (Int32.ofNat len)), .val .null, .unset] [.int (Int32.ofNat len), .int (Int32.ofNat o), .ref b])) rfl (by rw [hml]; rfl) c7 (argsL := [.ref b, .int (Int32.ofNat o), .int (Int32.ofNat len)]) (rest := []) rfl rfl (by show 2 * 0 + 0 ≤ _; decide) (hb hbytes d36) (⟨rfl, hA.mv X5.warmed.alike hh5, l1, l2, hp⟩)
  obtain ⟨e8, z8⟩ := E8
  obtain ⟨rfl, N, n1, n2, n3, n4, n5, n6⟩ := NewArr.mv _ T5 s _ _ hh5.symm (Vm.Alike.refl _) rfl e8
  rw [hh5] at z8
  have hB1 := hB.keep X8.warmed.alike (n6 _ _ hB.1)
  have hne : s.heap.size ≠ a := (Nat.ne_of_lt (Array.getElem?_eq_some_iff.mp hB.1).1).symm
  have c9 : Steps p.tables e below (s₁.setTop (entryFrame m #[.ref a, .ref b, .int (Int32.ofNat o), .int (Int32.ofNat len), .null] 6)) (T8.setTop (mkF m 39 #[.val (.ref a), .val (.ref b), .val (.int (Int32.ofNat o)), .val (.int (Int32.ofNat len)), .val .null, .unset] [.ref s.heap.size])) := g8
  have c10 : Steps p.tables e below (s₁.setTop (entryFrame m #[.ref a, .ref b, .int (Int32.ofNat o), .int (Int32.ofNat len), .null] 6)) (T8.setTop (mkF m 45 #[.val (.ref a), .val (.ref b), .val (.int (Int32.ofNat o)), .val (.int (Int32.ofNat len)), .val .null, .val (.ref s.heap.size)] [.int (Int32.ofNat N.slots.size), .ref s.heap.size, .ref a])) := by
    have hc : Steps p.tables e below (s₁.setTop (entryFrame m #[.ref a, .ref b, .int (Int32.ofNat o), .int (Int32.ofNat len), .null] 6)) (T8.setTop (mkF m 45 #[.val (.ref a), .val (.ref b), .val (.int (Int32.ofNat o)), .val (.int (Int32.ofNat len)), .val .null, .val (.ref s.heap.size)] [.int (Int32.ofNat len), .ref s.heap.size, .ref a])) := c9.trans (by
      refine XS.astore X8.here hexec rfl (hb hbytes d39) rfl rfl rfl ?_
      refine XS.aloadN X8.here hexec rfl (hb hbytes d41) rfl rfl ?_
      refine XS.aload X8.here hexec rfl (hb hbytes d42) rfl rfl ?_
      refine XS.iloadN X8.here hexec rfl (hb hbytes d44) rfl ?_
      exact Steps.refl _)
    rw [n4]; exact hc
  obtain ⟨v11, T11, X11, E11, g11⟩ := X8.callS hexec (CodL.law l s.heap.size N) hown (wks W (staticW "java/lang/String" 47 CodL.yN)) (wk W CodL.tab) (W := 1) (Nat.le_of_ble_eq_true rfl) (Nat.le_of_ble_eq_true rfl) (Nat.le_refl _) (by show 0 + len + 0 ≤ len; omega) (g := (mkF m 45 #[.val (.ref a), .val (.ref b), .val (.int (Int32.ofNat o)), .val (.int (Int32.ofNat len)), .val .null, .val (.ref s.heap.size)] [.int (Int32.ofNat N.slots.size), .ref s.heap.size, .ref a])) rfl (by rw [hml]; rfl) c10 (argsL := [.ref s.heap.size, .int (Int32.ofNat N.slots.size)]) (rest := [.ref a]) rfl rfl (by show 2 * 0 + (1 + 0) ≤ _; decide) (hb hbytes d45) (⟨rfl, n1⟩)
  obtain ⟨rfl, q11⟩ := E11
  have hB11 := hB1.mv (X8.warmed.alike.symm.trans X11.warmed.alike) q11
  have c12 : Steps p.tables e below (s₁.setTop (entryFrame m #[.ref a, .ref b, .int (Int32.ofNat o), .int (Int32.ofNat len), .null] 6)) (T11.setTop (mkF m 48 #[.val (.ref a), .val (.ref b), .val (.int (Int32.ofNat o)), .val (.int (Int32.ofNat len)), .val .null, .val (.ref s.heap.size)] [.int 0, .ref a])) := g11
  obtain ⟨T13, X13, p13, bl13, sl13, st13⟩ := X11.finit hexec hown (wk W (.fieldLink "java/lang/String" 15 "java/lang/String" "coder" "B")) (Or.inr ⟨_, (wk W (.laysFinal "java/lang/String" "java/lang/String" "coder" "B"))⟩) (Or.inl ⟨rfl, hnm⟩) f2 (Or.inl rfl) hB11 (t := .byte) (by decide +kernel) rfl (g := (mkF m 48 #[.val (.ref a), .val (.ref b), .val (.int (Int32.ofNat o)), .val (.int (Int32.ofNat len)), .val .null, .val (.ref s.heap.size)] [.int 0, .ref a])) rfl (rest := []) rfl (hb hbytes d48)
  have c14 : Steps p.tables e below (s₁.setTop (entryFrame m #[.ref a, .ref b, .int (Int32.ofNat o), .int (Int32.ofNat len), .null] 6)) (T13.setTop (mkF m 54 #[.val (.ref a), .val (.ref b), .val (.int (Int32.ofNat o)), .val (.int (Int32.ofNat len)), .val .null, .val (.ref s.heap.size)] [.ref s.heap.size, .ref a])) := (c12.trans (st13 _ (Steps.refl _))).trans (by
    refine XS.aloadN X13.here hexec rfl (hb hbytes d51) rfl rfl ?_
    refine XS.aload X13.here hexec rfl (hb hbytes d52) rfl rfl ?_
    exact Steps.refl _)
  obtain ⟨T15, X15, p15, bl15, sl15, st15⟩ := X13.finit hexec hown (wk W (.fieldLink "java/lang/String" 9 "java/lang/String" "value" "[B")) (Or.inr ⟨_, (wk W (.laysFinal "java/lang/String" "java/lang/String" "value" "[B"))⟩) (Or.inl ⟨rfl, hnm⟩) f1 (Or.inl rfl) bl13 (t := (.array .byte)) (by decide +kernel) rfl (g := (mkF m 54 #[.val (.ref a), .val (.ref b), .val (.int (Int32.ofNat o)), .val (.int (Int32.ofNat len)), .val .null, .val (.ref s.heap.size)] [.ref s.heap.size, .ref a])) rfl (rest := []) rfl (hb hbytes d54)
  have c16 : Steps p.tables e below (s₁.setTop (entryFrame m #[.ref a, .ref b, .int (Int32.ofNat o), .int (Int32.ofNat len), .null] 6)) (T15.setTop (mkF m 57 #[.val (.ref a), .val (.ref b), .val (.int (Int32.ofNat o)), .val (.int (Int32.ofNat len)), .val .null, .val (.ref s.heap.size)] [])) := c14.trans (st15 _ (Steps.refl _))
  have ap := apart (Or.inr ⟨_, (wk W (.laysFinal "java/lang/String" "java/lang/String" "value" "[B"))⟩) (Or.inr ⟨_, (wk W (.laysFinal "java/lang/String" "java/lang/String" "coder" "B"))⟩) f1 f2 (t₁ := .array .byte) (t₂ := .byte) (by decide +kernel) (by decide +kernel) (by decide)
  have al := X8.warmed.alike.symm.trans X15.warmed.alike
  have n7 : T11.heap[s.heap.size]? = some N := by rw [q11]; exact n1.1
  exact ⟨T15, none, _, _, _, X15, by simp, rfl, by omega, (fun _ => rfl), ⟨rfl, _, N, bl15, ((Same.refl D _).set _ (by simp)).set _ (by simp), sl15, (Cell.slots_setSlot_ne _ ap).trans sl13, n1.keep al (p15.other hne (p13.other hne n7)), n2, by rw [al.findClass]; exact n3, n4, n5, fun y c h1 h2 => p15.other h1 (p13.other h1 (by rw [q11]; exact n6 y c h2)), by rw [p15.2.2, p13.2.2, q11]; exact z8⟩, fun fs hl => c16.trans (X15.returnOut hexec hret (hb hbytes d57) hl)⟩
end New4
namespace New1
def yN : MethodName := ⟨"java/lang/String", "<init>", "([C)V"⟩
abbrev yB : ByteArray := jdk_42_method_3_code
theorem d0 : decode yB 0 = .ok (.aload_n 0, 1) := by decide +kernel
theorem d1 : decode yB 1 = .ok (.aload_n 1, 1) := by decide +kernel
theorem d2 : decode yB 2 = .ok (.iconst 0, 1) := by decide +kernel
theorem d3 : decode yB 3 = .ok (.aload_n 1, 1) := by decide +kernel
theorem d4 : decode yB 4 = .ok (.arraylength, 1) := by decide +kernel
theorem d5 : decode yB 5 = .ok (.aconst_null, 1) := by decide +kernel
theorem d6 : decode yB 6 = .ok (.invokespecial 27, 3) := by decide +kernel
theorem d9 : decode yB 9 = .ok (.return_, 1) := by decide +kernel
def site : List Cond := [New4.tab] ++ initW "java/lang/String" 27 New4.yN
def tab : Cond := tabOf yN yB 2 none site
def P (a : Addr) (D : Cell) (fV fC : Field) (b : Addr) (A : Cell) (z : Int32) (args : Array Value) (s : State) : Prop := args = #[.ref a, .ref b] ∧ Blank "java/lang/String" a D s ∧ Found "java/lang/String" "value" "[B" fV s ∧ Found "java/lang/String" "coder" "B" fC s ∧ Ch b A s ∧ StaticIs s "java/lang/String" "COMPACT_STRINGS" "Z" (.int z) ∧ ¬ z = 0 ∧ 0 < A.slots.size ∧ A.slots.size ≤ 536870912 ∧ ∀ i, i < A.slots.size → ¬ 255 < cv A i
def E (a : Addr) (D : Cell) (fV fC : Field) (A : Cell) (r : Option Value) (s u : State) : Prop := Got a D fV fC A 0 A.slots.size r s u
/-- new String(chars), not empty, no char above 255: a Latin-1 String of their low bytes -/
theorem law (l : Launch) (a : Addr) (D : Cell) (fV fC : Field) (b : Addr) (A : Cell) (z : Int32) : Law l yN 2 1 3 52 yB 2 none site (P a D fV fC b A z) (E a D fV fC A) [⟨a, fC.slot⟩, ⟨a, fV.slot⟩] 1 A.slots.size := by
  refine Law.of_walk (plainFor_of_name (by decide +kernel)) (by decide +kernel) (by decide +kernel) (by decide) (fun _ _ h => by rw [h.1]; rfl) (fun _ U U' hal hh h => ⟨h.1, h.2.1.mv hal hh, h.2.2.1.al hal, h.2.2.2.1.al hal, h.2.2.2.2.1.mv hal hh, h.2.2.2.2.2.1.there hal hh, h.2.2.2.2.2.2⟩) (fun r U U' V V' h1 hal h2 h => Got.mv r U U' V V' h1 hal h2 h) ?_
  intro p e s m args below meth c s₁ X0 hexec hbytes hml hret hlk hnm hown hh0 W hP
  obtain ⟨rfl, hB, f1, f2, hA, s1, hz, l0, l2, hp⟩ := hP
  have c1 : Steps p.tables e below (s₁.setTop (entryFrame m #[.ref a, .ref b] 2)) (s₁.setTop (mkF m 0 #[.val (.ref a), .val (.ref b)] [])) := entry rfl
  have c2 : Steps p.tables e below (s₁.setTop (entryFrame m #[.ref a, .ref b] 2)) (s₁.setTop (mkF m 6 #[.val (.ref a), .val (.ref b)] [.null, .int (Int32.ofNat A.slots.size), .int 0, .ref b, .ref a])) := c1.trans (by
    refine XS.aloadN X0.here hexec rfl (hb hbytes d0) rfl rfl ?_
    refine XS.aloadN X0.here hexec rfl (hb hbytes d1) rfl rfl ?_
    refine iconstV X0.here hexec rfl 0 (hb hbytes d2) (by decide) ?_
    refine XS.aloadN X0.here hexec rfl (hb hbytes d3) rfl rfl ?_
    refine X0.alen hexec (hA.1.mv X0.warmed.alike hh0) rfl rfl (hb hbytes d4) ?_
    refine XS.aconstNull X0.here hexec rfl (hb hbytes d5) ?_
    exact Steps.refl _)
  obtain ⟨v3, T3, X3, E3, g3⟩ := X0.callN hexec (New4.law l a D fV fC b A z 0 A.slots.size) rfl hown (wks W (initW "java/lang/String" 27 New4.yN)) (W New4.tab (by simp only [site, List.mem_cons, List.mem_append, true_or, or_true])) (W := 0) (Nat.le_of_ble_eq_true rfl) (Nat.le_of_ble_eq_true rfl) (Nat.le_refl _) (by show 0 + A.slots.size ≤ A.slots.size; omega) (g := (mkF m 6 #[.val (.ref a), .val (.ref b)] [.null, .int (Int32.ofNat A.slots.size), .int (Int32.ofNat 0), .ref b, .ref a])) rfl (by rw [hml]; rfl) c2 (argsL := [.ref b, .int (Int32.ofNat 0), .int (Int32.ofNat A.slots.size), .null]) (rest := []) rfl rfl (by show 2 * 0 + 0 ≤ _; decide) (hb hbytes d6) (⟨rfl, hB.mv X0.warmed.alike hh0, f1.al X0.warmed.alike, f2.al X0.warmed.alike, hA.mv X0.warmed.alike hh0, s1.there X0.warmed.alike hh0, hz, l0, by omega, l2, fun i hi => by rw [Nat.zero_add]; exact hp i hi⟩)
  have e0 := Got.mv _ s₁ s _ _ hh0.symm (Vm.Alike.refl _) rfl E3
  obtain rfl := e0.1
  have c4 : Steps p.tables e below (s₁.setTop (entryFrame m #[.ref a, .ref b] 2)) (T3.setTop (mkF m 9 #[.val (.ref a), .val (.ref b)] [])) := g3
  exact ⟨T3, none, _, _, _, X3, by simp, rfl, by omega, (fun _ => rfl), e0, fun fs hl => c4.trans (X3.returnOut hexec hret (hb hbytes d9) hl)⟩
theorem pays {l : Launch} {R : Room} {p : Program} {e : Env} {below : List Frame} {s : State} {sargs : Array Value} {len W : Nat} (a : Addr) (D : Cell) (fV fC : Field) (b : Addr) (A : Cell) (z : Int32) (htab : tab.before sargs s = true) (hfr : 4 ≤ R.frames) (hlo : W + 65 ≤ R.locals) :
    Back l R p e below s sargs yN len W (fun A₁ a₁ => A₁.cells + 1 ≤ R.cells ∧ A₁.slots + A.slots.size ≤ R.slots ∧ P a D fV fC b A z a₁ A₁.U) (fun A₁ _ v₁ B₁ => E a D fV fC A v₁ A₁.U B₁.U ∧ B₁.locs = A₁.locs ++ [⟨a, fC.slot⟩, ⟨a, fV.slot⟩] ∧ B₁.cells = A₁.cells + 1 ∧ B₁.slots = A₁.slots + A.slots.size) :=
  (law l a D fV fC b A z).pays htab hfr (by omega)
end New1
/-- the byte, read back as charAt reads it, is the char -/
theorem lo8_mask {x : Int32} (h0 : ¬ x < 0) (h1 : ¬ 255 < x) : lo8 x &&& 255 = x := by
  have t : ∀ k : Fin 256, lo8 (Int32.ofNat k.val) &&& 255 = Int32.ofNat k.val := by decide +kernel
  rw [Int32.lt_iff_toInt_lt] at h0 h1
  have e0 : (0 : Int32).toInt = 0 := rfl
  have e1 : (255 : Int32).toInt = 255 := rfl
  obtain ⟨k, hk⟩ : ∃ k : Nat, x.toInt = k := ⟨x.toInt.toNat, by omega⟩
  have hx : x = Int32.ofNat k := Int32.toInt_inj.mp (by rw [hk, Int32.toInt_ofNat_small (by omega)])
  rw [hx]
  exact t ⟨k, by omega⟩
end StrChars
namespace StrChars.Road
open Jvm Sem ClassFile Op Lib Jvm.Stand Jvm.Free Jvm.Free.XT
open Jvm.Lib.Cold (StaticIs)
abbrev ST : String := "java/lang/String"
/-- every table word that New1's law asks, flat -/
abbrev words : List Jvm.Cond := [.code New1.yN New1.yB 2 none, .initialized ST, .methodLink ST 27 New4.yN, .instanceMethod New4.yN,
  .code New4.yN New4.yB 6 none, .fieldLink ST 38 ST "COMPACT_STRINGS" "Z", .laysFinal ST ST "value" "[B", .fieldLink ST 9 ST "value" "[B", .laysFinal ST ST "coder" "B", .fieldLink ST 15 ST "coder" "B",
  .methodLink ST 1 Lib.objectInit, .instanceMethod Lib.objectInit, .code Lib.objectInit ⟨#[0xb1]⟩ 1 none, .methodLink ST 177 Cmp3.yN, .static Cmp3.yN, .methodLink ST 47 CodL.yN, .static CodL.yN,
  .code Cmp3.yN Cmp3.yB 6 (some (.array .byte)), .initialized U16, .arrayClass .byte, .methodLink U16 115 Cmp5.yN, .static Cmp5.yN, .code Cmp5.yN Cmp5.yB 7 (some .int), .code CodL.yN CodL.yB 2 (some .byte)]
theorem tab_of {a : Array Value} {s : State} (h : ∀ w ∈ words, w.before a s = true) : New1.tab.before a s = true := by
  have h5 : Cmp5.tab.before a s = true := unparts (wk h (.code Cmp5.yN Cmp5.yB 7 (some .int))) (wks h (.initialized Cmp5.yN.cls :: Cmp5.site))
  have hc : CodL.tab.before a s = true := unparts (wk h (.code CodL.yN CodL.yB 2 (some .byte))) (wks h (.initialized CodL.yN.cls :: CodL.site))
  have q5 : ∀ w ∈ Cmp5.tab :: words, w.before a s = true := fun w hw => (List.mem_cons.mp hw).elim (fun e => e ▸ h5) (h w)
  have h3 : Cmp3.tab.before a s = true := unparts (wk q5 (.code Cmp3.yN Cmp3.yB 6 (some (.array .byte)))) (wks q5 (.initialized Cmp3.yN.cls :: Cmp3.site))
  have q3 : ∀ w ∈ Cmp3.tab :: CodL.tab :: words, w.before a s = true := fun w hw => (List.mem_cons.mp hw).elim (fun e => e ▸ h3) fun hw => (List.mem_cons.mp hw).elim (fun e => e ▸ hc) (h w)
  have h4 : New4.tab.before a s = true := unparts (wk q3 (.code New4.yN New4.yB 6 none)) (wks q3 (.initialized New4.yN.cls :: New4.site))
  have q4 : ∀ w ∈ New4.tab :: words, w.before a s = true := fun w hw => (List.mem_cons.mp hw).elim (fun e => e ▸ h4) (h w)
  exact unparts (wk q4 (.code New1.yN New1.yB 2 none)) (wks q4 (.initialized New1.yN.cls :: New1.site))
/-- the words ride from the start Z to the walk's own state -/
theorem moved {Z s : State} {a0 args : Array Value} (hZ : Z.Warmed39 s.vm) (hw : ∀ d ∈ words, d.before a0 Z = true) : ∀ d ∈ words, d.before args s = true := fun d hd => by
  have q := hw d hd
  have t : ∀ d ∈ words, d = .arrayClass .byte ∨ (d.onTables && d.keepsFace) = true := by decide +kernel
  rcases t d hd with rfl | t
  · exact RoadKit.mvA hZ q
  · exact RoadKit.mv hZ q t
/-- WHAT COMES BACK, over the tables of the start Z: h the heap at the call, h' behind it -/
def Q (Z : State) (x : Addr) (A : Cell) (h : Heap) (v : Option Value) (h' : Heap) (L : List Loc) : Prop := v = none ∧ (∀ y ∈ L, y.base = x) ∧ RoadKit.Keep h h' [x] ∧ h'.size = h.size + 1 ∧ RoadKit.Exa Z h' x ST ∧ RoadKit.Fld Z h' x ST "value" "[B" (.ref h.size) ∧ RoadKit.Fld Z h' x ST "coder" "B" (.int 0) ∧
  (∃ V : Cell, RoadKit.Arr Z h' h.size V .byte ∧ V.vm = .none ∧ Z.vm.findClass "[B" = some V.cls ∧ V.slots.size = A.slots.size ∧ ∀ j, j < A.slots.size → V.slots[j]? = some (.int (lo8 (cv A j)))) ∧
  ∀ (O n d : String) (w : Value), RoadKit.Fld Z h x O n d w → RoadKit.slotOf Z O n d ≠ RoadKit.slotOf Z ST "value" "[B" → RoadKit.slotOf Z O n d ≠ RoadKit.slotOf Z ST "coder" "B" → RoadKit.Fld Z h' x O n d w
/-- **new String(chars) AT A CALL, IN THE ROAD'S FORM**: for specialBack behind newO: x the fresh String, b the char[] with the cell A -/
theorem back {p : Program} {l : Launch} {e : Env} {R : Room} {s : State} {args : Array Value} {below : List Frame} {len W : Nat} {Z : State} {a0 : Array Value} {h : Heap} (hZ : Z.Warmed39 s.vm) (hw : ∀ d ∈ words, d.before a0 Z = true) {kI : Nat} (wi : (Jvm.Cond.instantiable ST kI).before a0 Z = true)
    {x b : Addr} {A : Cell} {z : Int32} {v0 c0 : Value} (E : RoadKit.Exa Z h x ST) (V : RoadKit.Fld Z h x ST "value" "[B" v0) (C : RoadKit.Fld Z h x ST "coder" "B" c0) (K : RoadKit.Arr Z h b A .char) (hty : Typed .char A) (S : RoadKit.Sta Z h ST "COMPACT_STRINGS" "Z" (.int z)) (hz : ¬ z = 0)
    (l0 : 0 < A.slots.size) (l2 : A.slots.size ≤ 536870912) (hp : ∀ i, i < A.slots.size → ¬ 255 < cv A i) (hfr : 4 ≤ R.frames) (hlo : W + 65 ≤ R.locals) :
    Back l R p e below s args New1.yN len W (fun P a => a = #[.ref x, .ref b] ∧ P.U.heap = h ∧ P.cells + 1 ≤ R.cells ∧ P.slots + A.slots.size ≤ R.slots)
      (fun P _ v B => ∃ L, Q Z x A h v B.U.heap L ∧ B.locs = P.locs ++ L ∧ B.cells = P.cells + 1 ∧ B.slots = P.slots + A.slots.size) := by
  intro m meth c P g ig mk a X hg hsize hdg hW hn hp'
  obtain ⟨rfl, rfl, r1, r2⟩ := hp'
  have al : Z.vm.Alike P.U.vm := hZ.alike.trans X.warmed.alike
  obtain ⟨D, cfV, kV, iV, fV, hD, gV, stV, knV, obV, asV, slV⟩ := id V
  obtain ⟨D', cfC, kC, iC, fC, hD', gC, stC, -, -, asC, slC⟩ := id C
  cases hD.symm.trans hD'
  obtain ⟨D2, kD, e1, e2, e3, e4, e5⟩ := id E
  cases hD.symm.trans e1
  obtain ⟨c2, k2, i1, i2, i3, -⟩ := Cond.instantiable_spec wi
  cases e2.symm.trans i1
  cases e3.symm.trans i2
  obtain ⟨kU, u1, u2⟩ := al.2.2 _ _ e3
  have hB : Blank ST x D P.U := ⟨hD, ⟨knV, fun q hq => by rw [hq] at obV; cases obV⟩, by rw [al.findClass]; exact e2, kU, u1, by rw [u2]; exact i3, by rw [u2]; exact e5 i3⟩
  have F1 : Found ST "value" "[B" fV P.U := ⟨SBG.found_only al ⟨cfV, kV, iV, gV⟩, stV⟩
  have F2 : Found ST "coder" "B" fC P.U := ⟨SBG.found_only al ⟨cfC, kC, iC, gC⟩, stC⟩
  have hA : Ch b A P.U := ⟨⟨K.1, State.isArrayOf_alike al K.2.1, K.2.2, by omega⟩, hty⟩
  have hS : StaticIs P.U ST "COMPACT_STRINGS" "Z" (.int z) := by
    obtain ⟨cfS, iS, kS, fS, st, cS, t1, t2, t3, t4, t5, t6, t7⟩ := S
    exact StaticIs.there (s := { Z with heap := P.U.heap }) ⟨cfS, iS, kS, fS, st, cS, t1, t2, t3, t4, t5, (fun q => by rw [q] at t6; cases t6), t7⟩ al rfl
  obtain ⟨v, B, X', ⟨⟨hv, E', V', q1, q2, q3, q4, q5, q6, q7, q8, q9, q10, q11⟩, hl, hc, hs⟩, st⟩ := New1.pays x D fV fC b A z (tab_of (moved hZ hw)) hfr hlo m meth c P g ig mk _ X hg hsize hdg hW hn ⟨r1, r2, rfl, hB, F1, F2, hA, hS, hz, l0, l2, hp⟩
  have al' : Z.vm.Alike B.U.vm := hZ.alike.trans X'.warmed.alike
  have hsz : E'.slots.size = D.slots.size := by
    obtain ⟨-, -, -, kB, w1, w2, w3⟩ := q1
    obtain ⟨kB', y1, y2⟩ := al'.2.2 _ _ e3
    rw [q2.2.1] at w1
    cases w1.symm.trans y1
    rw [w3, e5 i3, y2]
  refine ⟨v, B, X', ⟨_, ⟨hv, ?_, ⟨by omega, fun y cy hy hn' => q10 y cy (by simpa using hn') hy, fun y cy hy => ?_⟩, q11, ⟨E', _, q1.1, by rw [q2.2.1]; exact e2, by rw [q2.2.1]; exact e3, by rw [q2.1]; exact obV, fun _ => by rw [hsz]; exact e5 i3⟩,
    ⟨E', cfV, kV, iV, fV, q1.1, gV, stV, by rw [q2.1]; exact knV, by rw [q2.1]; exact obV, by rw [q2.2.1]; exact asV, q3⟩, ⟨E', cfC, kC, iC, fC, q1.1, gC, stC, by rw [q2.1]; exact knV, by rw [q2.1]; exact obV, by rw [q2.2.1]; exact asC, q4⟩,
    ⟨V', ⟨q5.1, State.isArrayOf_alike al'.symm q5.2.1, q5.2.2.1⟩, q6, by rw [← al'.findClass]; exact q7, q8, fun j hj => by have := q9 j hj; rwa [Nat.zero_add] at this⟩, fun O n d w F n1 n2 => ?_⟩, hl, hc, hs⟩, st⟩
  · intro y hy
    simp only [List.mem_cons, List.not_mem_nil, or_false] at hy
    rcases hy with rfl | rfl <;> rfl
  · by_cases q : y = x
    · subst q
      cases hD.symm.trans hy
      exact ⟨E', q1.1, q2.2.1, q2.1, hsz⟩
    · exact ⟨cy, q10 y cy q hy, rfl, rfl, rfl⟩
  · obtain ⟨D3, cf, k, i, f, g1, g2, g3, g4, g5, g6, g7⟩ := F
    cases hD.symm.trans g1
    simp only [RoadKit.slotOf, g2, gV, gC, Option.map_some, Option.getD_some] at n1 n2
    exact ⟨E', cf, k, i, f, q1.1, g2, g3, by rw [q2.1]; exact g4, by rw [q2.1]; exact g5, by rw [q2.2.1]; exact g6, by rw [q2.2.2 f.slot (by simp [n1, n2])]; exact g7⟩
end StrChars.Road
namespace StrChars.Road
open Jvm Sem ClassFile Op Lib Jvm.Stand Jvm.Free Jvm.Free.XT
/-- WHAT COMES BACK, the byte[] as a list of values -/
def QA (Z : State) (x : Addr) (zn : Int32) (cs : List Int32) (h : Heap) (v : Option Value) (h' : Heap) (L : List Loc) : Prop := v = none ∧ (∀ y ∈ L, y.base = x) ∧ RoadKit.Keep h h' [x] ∧ h'.size = h.size + 1 ∧ RoadKit.Exa Z h' x ST ∧ RoadKit.Fld Z h' x ST "value" "[B" (.ref h.size) ∧ RoadKit.Fld Z h' x ST "coder" "B" (.int 0) ∧
  (∃ kb, Z.vm.findClass "[B" = some kb ∧ RoadKit.Arv Z h' h.size kb .byte zn (cs.map fun c => .int (lo8 c)) (.int 0)) ∧
  ∀ (O n d : String) (w : Value), RoadKit.Fld Z h x O n d w → RoadKit.slotOf Z O n d ≠ RoadKit.slotOf Z ST "value" "[B" → RoadKit.slotOf Z O n d ≠ RoadKit.slotOf Z ST "coder" "B" → RoadKit.Fld Z h' x O n d w
/-- **new String(chars) AT A CALL, THE ARRAYS AS LISTS**: the char[] at b holds cs, not empty, no char above 255 -/
theorem backArv {p : Program} {l : Launch} {e : Env} {R : Room} {s : State} {args : Array Value} {below : List Frame} {len W : Nat} {Z : State} {a0 : Array Value} {h : Heap} (hZ : Z.Warmed39 s.vm) (hw : ∀ d ∈ words, d.before a0 Z = true) {kI : Nat} (wi : (Jvm.Cond.instantiable ST kI).before a0 Z = true)
    {x b : Addr} {k : ClassId} {zn z : Int32} {cs : List Int32} {dv v0 c0 : Value} (E : RoadKit.Exa Z h x ST) (V : RoadKit.Fld Z h x ST "value" "[B" v0) (C : RoadKit.Fld Z h x ST "coder" "B" c0) (K : RoadKit.Arv Z h b k .char zn (cs.map Value.int) dv) (S : RoadKit.Sta Z h ST "COMPACT_STRINGS" "Z" (.int z)) (hz : ¬ z = 0)
    (hlen : zn.toNatClampNeg = cs.length) (h0 : 0 < cs.length) (hbig : cs.length ≤ 536870912) (hall : ∀ c ∈ cs, ¬ 255 < c) (hfr : 4 ≤ R.frames) (hlo : W + 65 ≤ R.locals) :
    Back l R p e below s args New1.yN len W (fun P a => a = #[.ref x, .ref b] ∧ P.U.heap = h ∧ P.cells + 1 ≤ R.cells ∧ P.slots + cs.length ≤ R.slots)
      (fun P _ v B => ∃ L, QA Z x zn cs h v B.U.heap L ∧ B.locs = P.locs ++ L ∧ B.cells = P.cells + 1 ∧ B.slots = P.slots + cs.length) := by
  obtain ⟨A, K1, K2, K3, K4, K5, K6⟩ := K
  have e : A.slots.size = cs.length := K3.trans hlen
  have hat : ∀ (i : Nat) (hi : i < cs.length), A.slots[i]? = some (.int cs[i]) := fun i hi => by rw [K5 i (by omega)]; simp [List.getD_eq_getElem?_getD, hi]
  have hcv : ∀ (i : Nat) (hi : i < cs.length), cv A i = cs[i] := fun i hi => by unfold cv; rw [hat i hi]
  have hty : Typed .char A := fun i v hv => by
    have hi : i < A.slots.size := (Array.getElem?_eq_some_iff.mp hv).1
    have q := K5 i hi
    rw [hv] at q
    rw [Option.some.inj q]
    exact K6 i hi
  refine Back.mono (back hZ hw wi E V C K1 hty S hz (by omega) (by omega) (fun i hi => by rw [hcv i (by omega)]; exact hall _ (List.getElem_mem _)) hfr hlo) (fun P a hp => ⟨hp.1, hp.2.1, hp.2.2.1, by rw [e]; exact hp.2.2.2⟩) (fun P a v B hp hq => ?_)
  obtain ⟨L, ⟨q1, q2, q3, q4, q5, q6, q7, ⟨V', v1, v2, v3, v4, v5⟩, q9⟩, hl, hc, hs⟩ := hq
  refine ⟨L, ⟨q1, q2, q3, q4, q5, q6, q7, ⟨V'.cls, v3, V', v1, rfl, by rw [v4, e, hlen], K4, fun i hi => ?_, fun i hi => ?_⟩, q9⟩, hl, hc, by rw [hs, e]⟩
  · have hi' : i < cs.length := by omega
    rw [v5 i (by omega), hcv i hi']; simp [List.getD_eq_getElem?_getD, hi']
  · have hi' : i < cs.length := by omega
    simp only [List.getD_eq_getElem?_getD, List.getElem?_map, List.getElem?_eq_getElem hi', Option.map_some, Option.getD_some]
    exact fits_lo8 _
end StrChars.Road
namespace StrChars.Road
open Jvm Sem ClassFile Op Lib Jvm.Stand Jvm.Free Jvm.Free.XT
/-- WHAT COMES BACK, in the writer's own shape -/
def QV (Z : State) (x : Addr) (N : Int32) (bs : List Int32) (h : Heap) (n0 : Nat) (v : Option Value) (h' : Heap) (L : List Loc) : Prop := v = none ∧ RoadKit.Fr n0 L ∧ RoadKit.Keep h h' [x] ∧ RoadKit.Exa Z h' x ST ∧ RoadKit.Fld Z h' x ST "coder" "B" (.int 0) ∧
  ∃ (t : Addr) (kb : ClassId), n0 ≤ t ∧ h.size ≤ t ∧ ¬ t = x ∧ RoadKit.Fld Z h' x ST "value" "[B" (.ref t) ∧ RoadKit.Arv Z h' t kb .byte N (bs.map Value.int) (.int 0)
/-- **new String(chars) AT A CALL, FOR THE WRITER**: a char[] of n known ints, each 0 to 255 -/
theorem backV {p : Program} {l : Launch} {e : Env} {R : Room} {s : State} {args : Array Value} {below : List Frame} {len W : Nat} {Z : State} {a0 : Array Value} {h : Heap} (hZ : Z.Warmed39 s.vm) (hw : ∀ d ∈ words, d.before a0 Z = true) {kI : Nat} (wi : (Jvm.Cond.instantiable ST kI).before a0 Z = true)
    {x b : Addr} {kC : ClassId} {cs bs : List Int32} {d v0 c0 : Value} {z N : Int32} {n n0 : Nat} (hx0 : n0 ≤ x) (hh0 : n0 ≤ h.size) (E : RoadKit.Exa Z h x ST) (V : RoadKit.Fld Z h x ST "value" "[B" v0) (C : RoadKit.Fld Z h x ST "coder" "B" c0) (K : RoadKit.Arv Z h b kC .char N (cs.map Value.int) d) (S : RoadKit.Sta Z h ST "COMPACT_STRINGS" "Z" (.int z)) (hz : ¬ z = 0)
    (hn : cs.length = n) (hN : N = Int32.ofNat n) (l0 : 0 < n) (l2 : n ≤ 4000) (hp : ∀ c ∈ cs, ¬ c < 0 ∧ ¬ (255 : Int32) < c) (hb : bs = cs.map (fun c => c.toInt8.toInt32)) (hfr : 4 ≤ R.frames) (hlo : W + 65 ≤ R.locals) :
    Back l R p e below s args (⟨"java/lang/String", "<init>", "([C)V"⟩ : MethodName) len W (fun P a => a = #[.ref x, .ref b] ∧ P.U.heap = h ∧ P.cells + 1 ≤ R.cells ∧ P.slots + n ≤ R.slots)
      (fun P _ v B => ∃ L, QV Z x N bs h n0 v B.U.heap L ∧ B.locs = P.locs ++ L ∧ B.cells = P.cells + 1 ∧ B.slots = P.slots + n) := by
  subst hn hN hb
  refine Back.mono (backArv hZ hw wi E V C K S hz (n32 (by omega)) l0 (by omega) (fun c hc => (hp c hc).2) hfr hlo) (fun P a hp => hp) (fun P a v B hp hq => ?_)
  obtain ⟨L, ⟨q1, q2, q3, q4, q5, q6, q7, ⟨kb, v1, v2⟩, q9⟩, hl, hc, hs⟩ := hq
  exact ⟨L, ⟨q1, fun y hy => by rw [q2 y hy]; exact hx0, q3, q5, q7, h.size, kb, hh0, Nat.le_refl _, Nat.ne_of_gt E.lt, q6, by rw [List.map_map]; exact v2⟩, hl, hc, hs⟩
end StrChars.Road
namespace StrChars
open Jvm Sem ClassFile Op Lib Jvm.Stand Jvm.Free.XT Jvm.Free.ALB Jvm.Free.JM Jvm.Free
open Jvm.Lib.Cold (StaticIs)
def hi8 (x : Int32) : Int32 := lo8 (x >>> ((8 : Int32) &&& 31))
/-- what StringUTF16.getChar makes of two bytes -/
def pairCh (u v : Int32) : Int32 := (((u &&& 255) <<< ((0 : Int32) &&& 31)) ||| ((v &&& 255) <<< ((8 : Int32) &&& 31))).toUInt32.toUInt16.toUInt32.toInt32
theorem shr0 (c : Int32) : c >>> ((0 : Int32) &&& 31) = c := by
  have e : ((0 : Int32) &&& 31) = 0 := by decide
  rw [e]
  apply Int32.toBitVec_inj.mp
  rw [Int32.toBitVec_shiftRight]
  have e1 : ((0 : Int32).toBitVec.smod 32) = 0#32 := by decide
  rw [e1, BitVec.sshiftRight_eq']
  exact BitVec.sshiftRight_zero
theorem lo8_and (x : Int32) : (lo8 x &&& 255).toBitVec.toNat = x.toBitVec.toNat % 256 := by
  have h : (lo8 x).toBitVec = (x.toBitVec.signExtend 8).signExtend 32 := by rw [lo8, Int8.toBitVec_toInt32, Int32.toBitVec_toInt8]
  rw [Int32.toBitVec_and, BitVec.toNat_and, h]
  have e : ((x.toBitVec.signExtend 8).signExtend 32).toNat % 256 = x.toBitVec.toNat % 256 := by
    rw [BitVec.toNat_signExtend]
    have hlt := x.toBitVec.isLt
    simp only [BitVec.toNat_setWidth, BitVec.toNat_signExtend]
    split <;> split <;> omega
  rw [← e]
  exact Nat.and_two_pow_sub_one_eq_mod _ 8
theorem pair_says {c : Int32} (h0 : ¬ c < 0) (h1 : ¬ 65535 < c) : pairCh (lo8 c) (hi8 c) = c := by
  rw [Int32.lt_iff_toInt_lt] at h0 h1
  have e0 : (0 : Int32).toInt = 0 := rfl
  have e1 : (65535 : Int32).toInt = 65535 := rfl
  have hc : c.toInt = c.toBitVec.toNat := by
    have := c.toBitVec.isLt
    have e : c.toInt = c.toBitVec.toInt := rfl
    rw [e] at h0 h1
    rw [e]
    rw [BitVec.toInt_eq_toNat_cond] at h0 h1 ⊢
    split at h0 <;> split <;> omega
  have hn : c.toBitVec.toNat < 65536 := by omega
  have a1 := lo8_and c
  have a2 : (hi8 c &&& 255).toBitVec.toNat = c.toBitVec.toNat / 256 := by
    rw [hi8, lo8_and]
    have e : ((8 : Int32) &&& 31) = 8 := by decide
    rw [e, Int32.toBitVec_shiftRight]
    have e2 : ((8 : Int32).toBitVec.smod 32) = 8#32 := by decide
    rw [e2, BitVec.sshiftRight_eq', BitVec.toNat_sshiftRight_of_msb_false (by rw [BitVec.msb_eq_false_iff_two_mul_lt]; omega)]
    show c.toBitVec.toNat >>> 8 % 256 = _
    rw [Nat.shiftRight_eq_div_pow]
    omega
  unfold pairCh
  apply Int32.toBitVec_inj.mp
  apply BitVec.eq_of_toNat_eq
  have f0 : ((0 : Int32) &&& 31) = 0 := by decide
  have f8 : ((8 : Int32) &&& 31) = 8 := by decide
  rw [f0, f8]
  have g : (((lo8 c &&& 255) <<< (0 : Int32)) ||| ((hi8 c &&& 255) <<< (8 : Int32))).toBitVec.toNat = c.toBitVec.toNat := by
    rw [Int32.toBitVec_or, Int32.toBitVec_shiftLeft, Int32.toBitVec_shiftLeft]
    have s0 : ((0 : Int32).toBitVec.smod 32) = 0#32 := by decide
    have s8 : ((8 : Int32).toBitVec.smod 32) = 8#32 := by decide
    rw [s0, s8, BitVec.toNat_or]
    simp only [BitVec.shiftLeft_eq', BitVec.toNat_shiftLeft, a1, a2]
    show (c.toBitVec.toNat % 256) <<< 0 % 2 ^ 32 ||| (c.toBitVec.toNat / 256) <<< 8 % 2 ^ 32 = _
    rw [Nat.shiftLeft_zero, Nat.mod_eq_of_lt (show c.toBitVec.toNat % 256 < 2 ^ 32 by omega), Nat.mod_eq_of_lt (show (c.toBitVec.toNat / 256) <<< 8 < 2 ^ 32 by rw [Nat.shiftLeft_eq]; omega), Nat.or_comm, ← Nat.shiftLeft_add_eq_or_of_lt (by omega), Nat.shiftLeft_eq]
    omega
  show BitVec.toNat (((((lo8 c &&& 255) <<< (0 : Int32)) ||| ((hi8 c &&& 255) <<< (8 : Int32))).toBitVec.setWidth 16).setWidth 32) = _
  rw [BitVec.toNat_setWidth, BitVec.toNat_setWidth, g]
  omega
end StrChars
namespace StrChars
open Jvm Sem ClassFile Op Lib Jvm.Stand Jvm.Free.XT Jvm.Free.ALB Jvm.Free.JM Jvm.Free
open Jvm.Lib.Cold (StaticIs)
theorem shr1 {n : Nat} (h : 2 * n < 2 ^ 31) : Int32.ofNat (2 * n) >>> ((1 : Int32) &&& 31) = Int32.ofNat n := by
  have e : ((1 : Int32) &&& 31) = 1 := by decide
  rw [e]
  apply Int32.toBitVec_inj.mp
  rw [Int32.toBitVec_shiftRight]
  have e1 : ((1 : Int32).toBitVec.smod 32) = 1#32 := by decide
  have hm : (BitVec.ofNat 32 (2 * n)).toNat = 2 * n := by rw [BitVec.toNat_ofNat, Nat.mod_eq_of_lt (by omega)]
  rw [e1, BitVec.sshiftRight_eq']
  apply BitVec.eq_of_toNat_eq
  show ((BitVec.ofNat 32 (2 * n)).sshiftRight 1).toNat = (BitVec.ofNat 32 n).toNat
  rw [BitVec.toNat_sshiftRight_of_msb_false (by rw [BitVec.msb_eq_false_iff_two_mul_lt, hm]; omega), hm, BitVec.toNat_ofNat, Nat.shiftRight_eq_div_pow]
  omega
/-- charAt's cast of a byte read back -/
def chr8 (u : Int32) : Int32 := (u &&& 255).toUInt32.toUInt16.toUInt32.toInt32
theorem chr8_lo8 {c : Int32} (h0 : ¬ c < 0) (h1 : ¬ 255 < c) : chr8 (lo8 c) = c := by
  have t : ∀ k : Fin 256, (Int32.ofNat k.val).toUInt32.toUInt16.toUInt32.toInt32 = Int32.ofNat k.val := by decide +kernel
  unfold chr8
  rw [lo8_mask h0 h1]
  rw [Int32.lt_iff_toInt_lt] at h0 h1
  have e0 : (0 : Int32).toInt = 0 := rfl
  have e1 : (255 : Int32).toInt = 255 := rfl
  obtain ⟨k, hk⟩ : ∃ k : Nat, c.toInt = k := ⟨c.toInt.toNat, by omega⟩
  have hx : c = Int32.ofNat k := Int32.toInt_inj.mp (by rw [hk, Int32.toInt_ofNat_small (by omega)])
  rw [hx]
  exact t ⟨k, by omega⟩
theorem narrow_ch {c : Int32} (h0 : ¬ c < 0) (h1 : ¬ 65535 < c) : narrow .char (.int c) = .int c := by
  have q : narrow .char (.int (pairCh (lo8 c) (hi8 c))) = .int (pairCh (lo8 c) (hi8 c)) := narrow_c _
  rwa [pair_says h0 h1] at q
/-- the array's cell V codes the n chars f 0 .. f (n - 1) by the coder cd, as the JDK does: coder 1 just where some char is above 255 -/
def Cod (cd : Int32) (n : Nat) (f : Nat → Int32) (V : Cell) : Prop := (cd = 0 ∧ V.slots.size = n ∧ ∀ j, j < n → V.slots[j]? = some (.int (lo8 (f j))) ∧ ¬ 255 < f j) ∨ (cd = 1 ∧ V.slots.size = 2 * n ∧ (∀ j, j < n → V.slots[2 * j]? = some (.int (lo8 (f j))) ∧ V.slots[2 * j + 1]? = some (.int (hi8 (f j)))) ∧ ∃ j, j < n ∧ 255 < f j)
theorem Cod.cd {cd : Int32} {n : Nat} {f : Nat → Int32} {V : Cell} (h : Cod cd n f V) : cd = 0 ∨ cd = 1 := h.imp (fun q => q.1) fun q => q.1
theorem Cod.len {cd : Int32} {n : Nat} {f : Nat → Int32} {V : Cell} (h : Cod cd n f V) (hs : V.slots.size < 2 ^ 31) : Int32.ofNat V.slots.size >>> (cd &&& 31) = Int32.ofNat n := by
  rcases h with ⟨rfl, h, -⟩ | ⟨rfl, h, -⟩
  · rw [shr0, h]
  · rw [h, shr1 (by omega)]
/-- **x is a String of the n chars f 0 .. f (n - 1)**, Latin-1 or UTF-16; its array at t has the cell V -/
def Txt (x t : Addr) (V : Cell) (cd : Int32) (n : Nat) (f : Nat → Int32) (U : State) : Prop := Exact "java/lang/String" x U ∧ Has x "java/lang/String" "value" "[B" (.ref t) U ∧ Has x "java/lang/String" "coder" "B" (.int cd) U ∧ XT.Arr .byte t V U ∧ Cod cd n f V ∧ ∀ j, j < n → ¬ f j < 0 ∧ ¬ 65535 < f j
theorem Txt.mv {x t : Addr} {V : Cell} {cd : Int32} {n : Nat} {f : Nat → Int32} {U U' : State} (h : Txt x t V cd n f U) (hal : U.vm.Alike U'.vm) (hh : U'.heap = U.heap) : Txt x t V cd n f U' := ⟨h.1.mv hal hh, h.2.1.mv hal hh, h.2.2.1.mv hal hh, h.2.2.2.1.mv hal hh, h.2.2.2.2⟩
namespace Cdr
def yN : MethodName := ⟨"java/lang/String", "coder", "()B"⟩
abbrev yB : ByteArray := jdk_42_method_152_code
theorem d0 : decode yB 0 = .ok (.getstatic 38, 3) := by decide +kernel
theorem d3 : decode yB 3 = .ok (.ifCond (.eq) 10, 3) := by decide +kernel
theorem d6 : decode yB 6 = .ok (.aload_n 0, 1) := by decide +kernel
theorem d7 : decode yB 7 = .ok (.getfield 15, 3) := by decide +kernel
theorem d10 : decode yB 10 = .ok (.goto 4, 3) := by decide +kernel
theorem d14 : decode yB 14 = .ok (.ireturn, 1) := by decide +kernel
def site : List Cond := [.fieldLink "java/lang/String" 38 "java/lang/String" "COMPACT_STRINGS" "Z", .fieldLink "java/lang/String" 15 "java/lang/String" "coder" "B"]
def tab : Cond := tabOf yN yB 1 (some .byte) site
def P (x : Addr) (cd z : Int32) (args : Array Value) (s : State) : Prop := args = #[.ref x] ∧ Has x "java/lang/String" "coder" "B" (.int cd) s ∧ (cd = 0 ∨ cd = 1) ∧ StaticIs s "java/lang/String" "COMPACT_STRINGS" "Z" (.int z) ∧ ¬ z = 0
def E (cd : Int32) (r : Option Value) (s u : State) : Prop := XT.PureE (some (.int cd)) r s u
theorem law (l : Launch) (x : Addr) (cd z : Int32) : Law l yN 1 0 0 0 yB 1 (some .byte) site (P x cd z) (E cd) [] 0 0 := by
  refine Law.of_walk (plainFor_of_name (by decide +kernel)) (by decide +kernel) (by decide +kernel) (by decide) (fun _ _ h => by rw [h.1]; rfl) (fun _ U U' hal hh h => ⟨h.1, h.2.1.mv hal hh, h.2.2.1, h.2.2.2.1.there hal hh, h.2.2.2.2⟩) (fun r U U' V V' h1 hal h2 h => XT.PureE.mv r U U' V V' h1 hal h2 h) ?_
  intro p e s m args below meth c s₁ X0 hexec hbytes hml hret hlk hnm hown hh0 W hP
  obtain ⟨rfl, hx, hc, s1, hz⟩ := hP
  have c1 : Steps p.tables e below (s₁.setTop (entryFrame m #[.ref x] 1)) (s₁.setTop (mkF m 0 #[.val (.ref x)] [])) := entry rfl
  obtain ⟨T2, X2, q2, st2⟩ := X0.sget hexec hown (wk W (.fieldLink "java/lang/String" 38 "java/lang/String" "COMPACT_STRINGS" "Z")) s1 (fun _ _ h => by rw [hh0]; exact h) (g := (mkF m 0 #[.val (.ref x)] [])) rfl (hb hbytes d0)
  have hh2 := q2.trans hh0
  have c3 : Steps p.tables e below (s₁.setTop (entryFrame m #[.ref x] 1)) (T2.setTop (mkF m 7 #[.val (.ref x)] [.ref x])) := (c1.trans (st2 _ (Steps.refl _))).trans (by
    refine XS.ifNo X2.here hexec rfl (hb hbytes d3) rfl (i0_eq_f hz) ?_
    refine XS.aloadN X2.here hexec rfl (hb hbytes d6) rfl rfl ?_
    exact Steps.refl _)
  obtain ⟨T4, X4, q4, st4⟩ := X2.hget hexec hown (wk W (.fieldLink "java/lang/String" 15 "java/lang/String" "coder" "B")) (hx.mv X2.warmed.alike hh2) (g := (mkF m 7 #[.val (.ref x)] [.ref x])) rfl (rest := []) rfl (hb hbytes d7)
  have c5 : Steps p.tables e below (s₁.setTop (entryFrame m #[.ref x] 1)) (T4.setTop (mkF m 14 #[.val (.ref x)] [.int cd])) := (c3.trans (st4 _ (Steps.refl _))).trans (by
    refine XS.goto X4.here hexec rfl (pc0 := 10) rfl (hb hbytes d10) (by decide) rfl ?_
    exact Steps.refl _)
  exact ⟨T4, some (.int cd), _, _, _, X4, rfl, rfl, rfl, (fun h => by cases h), ⟨rfl, q4.trans hh2⟩, fun fs hl => c5.trans (X4.ireturnOut hexec hret (by rcases hc with rfl | rfl <;> rfl) (Or.inr (Or.inr (Or.inl rfl))) (hb hbytes d14) hl)⟩
end Cdr
namespace Len
def yN : MethodName := ⟨"java/lang/String", "length", "()I"⟩
abbrev yB : ByteArray := jdk_42_method_54_code
theorem d0 : decode yB 0 = .ok (.aload_n 0, 1) := by decide +kernel
theorem d1 : decode yB 1 = .ok (.getfield 9, 3) := by decide +kernel
theorem d4 : decode yB 4 = .ok (.arraylength, 1) := by decide +kernel
theorem d5 : decode yB 5 = .ok (.aload_n 0, 1) := by decide +kernel
theorem d6 : decode yB 6 = .ok (.invokevirtual 335, 3) := by decide +kernel
theorem d9 : decode yB 9 = .ok (.ishr, 1) := by decide +kernel
theorem d10 : decode yB 10 = .ok (.ireturn, 1) := by decide +kernel
def site : List Cond := [.fieldLink "java/lang/String" 9 "java/lang/String" "value" "[B", Cdr.tab] ++ virtW "java/lang/String" 335 "java/lang/String" Cdr.yN Cdr.yN
def tab : Cond := tabOf yN yB 1 (some .int) site
def P (x t : Addr) (V : Cell) (cd : Int32) (n : Nat) (f : Nat → Int32) (z : Int32) (args : Array Value) (s : State) : Prop := args = #[.ref x] ∧ Txt x t V cd n f s ∧ StaticIs s "java/lang/String" "COMPACT_STRINGS" "Z" (.int z) ∧ ¬ z = 0
def E (n : Nat) (r : Option Value) (s u : State) : Prop := XT.PureE (some (.int (Int32.ofNat n))) r s u
/-- length() of a String of n chars, in either coding -/
theorem law (l : Launch) (x t : Addr) (V : Cell) (cd : Int32) (n : Nat) (f : Nat → Int32) (z : Int32) : Law l yN 1 0 1 13 yB 1 (some .int) site (P x t V cd n f z) (E n) [] 0 0 := by
  refine Law.of_walk (plainFor_of_name (by decide +kernel)) (by decide +kernel) (by decide +kernel) (by decide) (fun _ _ h => by rw [h.1]; rfl) (fun _ U U' hal hh h => ⟨h.1, h.2.1.mv hal hh, h.2.2.1.there hal hh, h.2.2.2⟩) (fun r U U' V V' h1 hal h2 h => XT.PureE.mv r U U' V V' h1 hal h2 h) ?_
  intro p e s m args below meth c s₁ X0 hexec hbytes hml hret hlk hnm hown hh0 W hP
  obtain ⟨rfl, hx, s1, hz⟩ := hP
  have v31 := hx.2.2.2.1.2.2.2
  have c1 : Steps p.tables e below (s₁.setTop (entryFrame m #[.ref x] 1)) (s₁.setTop (mkF m 1 #[.val (.ref x)] [.ref x])) := Steps.trans (entry rfl) (by
    show Steps p.tables e below (s₁.setTop (mkF m 0 #[.val (.ref x)] [])) _
    refine XS.aloadN X0.here hexec rfl (hb hbytes d0) rfl rfl ?_
    exact Steps.refl _)
  obtain ⟨T2, X2, q2, st2⟩ := X0.hget hexec hown (wk W (.fieldLink "java/lang/String" 9 "java/lang/String" "value" "[B")) (hx.mv X0.warmed.alike hh0).2.1 (g := (mkF m 1 #[.val (.ref x)] [.ref x])) rfl (rest := []) rfl (hb hbytes d1)
  have hh2 := q2.trans hh0
  have hx2 := hx.mv X2.warmed.alike hh2
  have c3 : Steps p.tables e below (s₁.setTop (entryFrame m #[.ref x] 1)) (T2.setTop (mkF m 6 #[.val (.ref x)] [.ref x, .int (Int32.ofNat V.slots.size)])) := (c1.trans (st2 _ (Steps.refl _))).trans (by
    refine X2.alen hexec hx2.2.2.2.1 rfl rfl (hb hbytes d4) ?_
    refine XS.aloadN X2.here hexec rfl (hb hbytes d5) rfl rfl ?_
    exact Steps.refl _)
  obtain ⟨v4, T4, X4, E4, g4⟩ := X2.callV hexec (Cdr.law l x cd z) hown (wks W (virtW "java/lang/String" 335 "java/lang/String" Cdr.yN Cdr.yN)) rfl (by decide) (wk W Cdr.tab) (W := 1) (Nat.le_of_ble_eq_true rfl) (Nat.le_of_ble_eq_true rfl) (Nat.le_refl _) (Nat.le_refl _) (hx2.1.fc X2.warmed.alike) hx2.1.is (g := (mkF m 6 #[.val (.ref x)] [.ref x, .int (Int32.ofNat V.slots.size)])) rfl (by rw [hml]; rfl) c3 (argsL := []) (rest := [.int (Int32.ofNat V.slots.size)]) rfl rfl (by show 2 * 0 + (1 + 0) ≤ _; decide) (hb hbytes d6) (⟨rfl, hx2.2.2.1, hx.2.2.2.2.1.cd, s1.there X2.warmed.alike hh2, hz⟩)
  obtain ⟨rfl, q4⟩ := E4
  have c5 : Steps p.tables e below (s₁.setTop (entryFrame m #[.ref x] 1)) (T4.setTop (mkF m 10 #[.val (.ref x)] [.int (Int32.ofNat V.slots.size >>> (cd &&& 31))])) := Steps.trans g4 (by
    refine ishr X4.here hexec rfl (hb hbytes d9) rfl ?_
    exact Steps.refl _)
  rw [hx.2.2.2.2.1.len v31] at c5
  exact ⟨T4, some (.int (Int32.ofNat n)), _, _, _, X4, rfl, rfl, rfl, (fun h => by cases h), ⟨rfl, q4.trans hh2⟩, fun fs hl => c5.trans (X4.ireturnOut hexec hret rfl (Or.inl rfl) (hb hbytes d10) hl)⟩
theorem pays {l : Launch} {R : Room} {p : Program} {e : Env} {below : List Frame} {s : State} {sargs : Array Value} {len W : Nat} (x t : Addr) (V : Cell) (cd : Int32) (n : Nat) (f : Nat → Int32) (z : Int32) (htab : tab.before sargs s = true) (hfr : 2 ≤ R.frames) (hlo : W + 25 ≤ R.locals) :
    Back l R p e below s sargs yN len W (fun A₁ a₁ => A₁.cells + 0 ≤ R.cells ∧ A₁.slots + 0 ≤ R.slots ∧ P x t V cd n f z a₁ A₁.U) (fun A₁ _ v₁ B₁ => E n v₁ A₁.U B₁.U ∧ B₁.locs = A₁.locs ++ [] ∧ B₁.cells = A₁.cells + 0 ∧ B₁.slots = A₁.slots + 0) :=
  (law l x t V cd n f z).pays htab hfr (by omega)
end Len
namespace IsL
def yN : MethodName := ⟨"java/lang/String", "isLatin1", "()Z"⟩
abbrev yB : ByteArray := jdk_42_method_154_code
theorem d0 : decode yB 0 = .ok (.getstatic 38, 3) := by decide +kernel
theorem d3 : decode yB 3 = .ok (.ifCond (.eq) 14, 3) := by decide +kernel
theorem d6 : decode yB 6 = .ok (.aload_n 0, 1) := by decide +kernel
theorem d7 : decode yB 7 = .ok (.getfield 15, 3) := by decide +kernel
theorem d10 : decode yB 10 = .ok (.ifCond (.ne) 7, 3) := by decide +kernel
theorem d13 : decode yB 13 = .ok (.iconst 1, 1) := by decide +kernel
theorem d14 : decode yB 14 = .ok (.goto 4, 3) := by decide +kernel
theorem d17 : decode yB 17 = .ok (.iconst 0, 1) := by decide +kernel
theorem d18 : decode yB 18 = .ok (.ireturn, 1) := by decide +kernel
def site : List Cond := [.fieldLink "java/lang/String" 38 "java/lang/String" "COMPACT_STRINGS" "Z", .fieldLink "java/lang/String" 15 "java/lang/String" "coder" "B"]
def tab : Cond := tabOf yN yB 1 (some .boolean) site
def P (x : Addr) (cd z : Int32) (args : Array Value) (s : State) : Prop := args = #[.ref x] ∧ Has x "java/lang/String" "coder" "B" (.int cd) s ∧ (cd = 0 ∨ cd = 1) ∧ StaticIs s "java/lang/String" "COMPACT_STRINGS" "Z" (.int z) ∧ ¬ z = 0
def E (cd : Int32) (r : Option Value) (s u : State) : Prop := XT.PureE (some (.int (1 - cd))) r s u
theorem law (l : Launch) (x : Addr) (cd z : Int32) : Law l yN 1 0 0 0 yB 1 (some .boolean) site (P x cd z) (E cd) [] 0 0 := by
  refine Law.of_walk (plainFor_of_name (by decide +kernel)) (by decide +kernel) (by decide +kernel) (by decide) (fun _ _ h => by rw [h.1]; rfl) (fun _ U U' hal hh h => ⟨h.1, h.2.1.mv hal hh, h.2.2.1, h.2.2.2.1.there hal hh, h.2.2.2.2⟩) (fun r U U' V V' h1 hal h2 h => XT.PureE.mv r U U' V V' h1 hal h2 h) ?_
  intro p e s m args below meth c s₁ X0 hexec hbytes hml hret hlk hnm hown hh0 W hP
  obtain ⟨rfl, hx, hc, s1, hz⟩ := hP
  have c1 : Steps p.tables e below (s₁.setTop (entryFrame m #[.ref x] 1)) (s₁.setTop (mkF m 0 #[.val (.ref x)] [])) := entry rfl
  obtain ⟨T2, X2, q2, st2⟩ := X0.sget hexec hown (wk W (.fieldLink "java/lang/String" 38 "java/lang/String" "COMPACT_STRINGS" "Z")) s1 (fun _ _ h => by rw [hh0]; exact h) (g := (mkF m 0 #[.val (.ref x)] [])) rfl (hb hbytes d0)
  have hh2 := q2.trans hh0
  have c3 : Steps p.tables e below (s₁.setTop (entryFrame m #[.ref x] 1)) (T2.setTop (mkF m 7 #[.val (.ref x)] [.ref x])) := (c1.trans (st2 _ (Steps.refl _))).trans (by
    refine XS.ifNo X2.here hexec rfl (hb hbytes d3) rfl (i0_eq_f hz) ?_
    refine XS.aloadN X2.here hexec rfl (hb hbytes d6) rfl rfl ?_
    exact Steps.refl _)
  obtain ⟨T4, X4, q4, st4⟩ := X2.hget hexec hown (wk W (.fieldLink "java/lang/String" 15 "java/lang/String" "coder" "B")) (hx.mv X2.warmed.alike hh2) (g := (mkF m 7 #[.val (.ref x)] [.ref x])) rfl (rest := []) rfl (hb hbytes d7)
  have c5 : Steps p.tables e below (s₁.setTop (entryFrame m #[.ref x] 1)) (T4.setTop (mkF m 10 #[.val (.ref x)] [.int cd])) := c3.trans (st4 _ (Steps.refl _))
  have c6 : Steps p.tables e below (s₁.setTop (entryFrame m #[.ref x] 1)) (T4.setTop (mkF m 18 #[.val (.ref x)] [.int (1 - cd)])) := by
    rcases hc with rfl | rfl
    · exact c5.trans (by
        refine XS.ifNo X4.here hexec rfl (hb hbytes d10) rfl (i0_ne_f rfl) ?_
        refine iconstV X4.here hexec rfl 1 (hb hbytes d13) (by decide) ?_
        refine XS.goto X4.here hexec rfl (pc0 := 14) rfl (hb hbytes d14) (by decide) rfl ?_
        exact Steps.refl _)
    · exact c5.trans (by
        refine XS.ifYes X4.here hexec rfl (pc0 := 10) rfl (hb hbytes d10) rfl (i0_ne_t (by decide)) (by decide) rfl ?_
        refine iconstV X4.here hexec rfl 0 (hb hbytes d17) (by decide) ?_
        exact Steps.refl _)
  exact ⟨T4, some (.int (1 - cd)), _, _, _, X4, rfl, rfl, rfl, (fun h => by cases h), ⟨rfl, q4.trans hh2⟩, fun fs hl => c6.trans (X4.ireturnOut hexec hret (by rcases hc with rfl | rfl <;> rfl) (Or.inr (Or.inl rfl)) (hb hbytes d18) hl)⟩
end IsL
namespace LChA
def yN : MethodName := ⟨"java/lang/StringLatin1", "charAt", "([BI)C"⟩
abbrev yB : ByteArray := jdk_43_method_2_code
theorem d0 : decode yB 0 = .ok (.iload_n 1, 1) := by decide +kernel
theorem d1 : decode yB 1 = .ok (.aload_n 0, 1) := by decide +kernel
theorem d2 : decode yB 2 = .ok (.arraylength, 1) := by decide +kernel
theorem d3 : decode yB 3 = .ok (.invokestatic 9, 3) := by decide +kernel
theorem d6 : decode yB 6 = .ok (.aload_n 0, 1) := by decide +kernel
theorem d7 : decode yB 7 = .ok (.iload_n 1, 1) := by decide +kernel
theorem d8 : decode yB 8 = .ok (.baload, 1) := by decide +kernel
theorem d9 : decode yB 9 = .ok (.sipush 255, 3) := by decide +kernel
theorem d12 : decode yB 12 = .ok (.iand, 1) := by decide +kernel
theorem d13 : decode yB 13 = .ok (.i2c, 1) := by decide +kernel
theorem d14 : decode yB 14 = .ok (.ireturn, 1) := by decide +kernel
def site : List Cond := [JO.Str_checkIndex.tab] ++ staticW "java/lang/StringLatin1" 9 JO.Str_checkIndex.yN
def tab : Cond := tabOf yN yB 2 (some .char) site
def P (t : Addr) (V : Cell) (i : Nat) (u : Int32) (fm : Value) (args : Array Value) (s : State) : Prop := args = #[.ref t, .int (Int32.ofNat i)] ∧ XT.Arr .byte t V s ∧ V.slots[i]? = some (.int u) ∧ (StaticIs s "jdk/internal/util/Preconditions" "SIOOBE_FORMATTER" "Ljava/util/function/BiFunction;" fm ∧ fm.isRef = true)
def E (u : Int32) (r : Option Value) (s w : State) : Prop := XT.PureE (some (.int (chr8 u))) r s w
theorem law (l : Launch) (t : Addr) (V : Cell) (i : Nat) (u : Int32) (fm : Value) : Law l yN 2 2 2 27 yB 2 (some .char) site (P t V i u fm) (E u) [] 0 0 := by
  refine Law.of_walk (plainFor_of_name (by decide +kernel)) (by decide +kernel) (by decide +kernel) (by decide) (fun _ _ h => by rw [h.1]; rfl) (fun _ U U' hal hh h => ⟨h.1, h.2.1.mv hal hh, h.2.2.1, h.2.2.2.1.there hal hh, h.2.2.2.2⟩) (fun r U U' V V' h1 hal h2 h => XT.PureE.mv r U U' V V' h1 hal h2 h) ?_
  intro p e s m args below meth c s₁ X0 hexec hbytes hml hret hlk hnm hown hh0 W hP
  obtain ⟨rfl, hV, hu, s1, rf⟩ := hP
  have v31 := hV.2.2.2
  have hi : i < V.slots.size := (Array.getElem?_eq_some_iff.mp hu).1
  have c1 : Steps p.tables e below (s₁.setTop (entryFrame m #[.ref t, .int (Int32.ofNat i)] 2)) (s₁.setTop (mkF m 0 #[.val (.ref t), .val (.int (Int32.ofNat i))] [])) := entry rfl
  have c2 : Steps p.tables e below (s₁.setTop (entryFrame m #[.ref t, .int (Int32.ofNat i)] 2)) (s₁.setTop (mkF m 3 #[.val (.ref t), .val (.int (Int32.ofNat i))] [.int (Int32.ofNat V.slots.size), .int (Int32.ofNat i)])) := c1.trans (by
    refine XS.iloadN X0.here hexec rfl (hb hbytes d0) rfl ?_
    refine XS.aloadN X0.here hexec rfl (hb hbytes d1) rfl rfl ?_
    refine X0.alen hexec (hV.mv X0.warmed.alike hh0) rfl rfl (hb hbytes d2) ?_
    exact Steps.refl _)
  obtain ⟨v3, T3, X3, E3, g3⟩ := X0.callS hexec (JO.Str_checkIndex.law l (Int32.ofNat i) (Int32.ofNat V.slots.size) fm) hown (wks W (staticW "java/lang/StringLatin1" 9 JO.Str_checkIndex.yN)) (wk W JO.Str_checkIndex.tab) (W := 0) (Nat.le_of_ble_eq_true rfl) (Nat.le_of_ble_eq_true rfl) (Nat.le_refl _) (Nat.le_refl _) (g := (mkF m 3 #[.val (.ref t), .val (.int (Int32.ofNat i))] [.int (Int32.ofNat V.slots.size), .int (Int32.ofNat i)])) rfl (by rw [hml]; rfl) c2 (argsL := [.int (Int32.ofNat i), .int (Int32.ofNat V.slots.size)]) (rest := []) rfl rfl (by show 2 * 0 + 0 ≤ _; decide) (hb hbytes d3) (⟨rfl, rf, s1.there X0.warmed.alike hh0, Int32.ofNat_not_neg (by omega), lt32 v31 hi⟩)
  obtain ⟨rfl, q3⟩ := E3
  have hh3 := q3.trans hh0
  have c4 : Steps p.tables e below (s₁.setTop (entryFrame m #[.ref t, .int (Int32.ofNat i)] 2)) (T3.setTop (mkF m 14 #[.val (.ref t), .val (.int (Int32.ofNat i))] [.int (chr8 u)])) := Steps.trans g3 (by
    refine XS.aloadN X3.here hexec rfl (hb hbytes d6) rfl rfl ?_
    refine XS.iloadN X3.here hexec rfl (hb hbytes d7) rfl ?_
    refine X3.aget hexec (hV.mv X3.warmed.alike hh3) rfl hu rfl rfl (hb hbytes d8) ?_
    refine sipushV X3.here hexec rfl 255 (hb hbytes d9) (by decide) ?_
    refine XS.iand X3.here hexec rfl (hb hbytes d12) rfl ?_
    refine i2c X3.here hexec rfl (hb hbytes d13) rfl ?_
    exact Steps.refl _)
  exact ⟨T3, some (.int (chr8 u)), _, _, _, X3, rfl, rfl, rfl, (fun h => by cases h), ⟨rfl, hh3⟩, fun fs hl => c4.trans (X3.ireturnOut hexec hret (narrow_c _) (Or.inr (Or.inr (Or.inr (Or.inl rfl)))) (hb hbytes d14) hl)⟩
end LChA
end StrChars
namespace StrChars.Road
open Jvm Sem ClassFile Op Lib Jvm.Stand Jvm.Free Jvm.Free.XT
open Jvm.Lib.Cold (StaticIs)
theorem consq {a : Array Value} {s : State} {c : Jvm.Cond} {L : List Jvm.Cond} (h0 : c.before a s = true) (h : ∀ w ∈ L, w.before a s = true) : ∀ w ∈ c :: L, w.before a s = true := fun w hw => (List.mem_cons.mp hw).elim (fun e => e ▸ h0) (h w)
/-- the words of String.length(), either coding -/
abbrev wordsLen : List Jvm.Cond := [.code Len.yN Len.yB 1 (some .int), .initialized ST, .fieldLink ST 9 ST "value" "[B", .fieldLink ST 38 ST "COMPACT_STRINGS" "Z", .fieldLink ST 15 ST "coder" "B", .code Cdr.yN Cdr.yB 1 (some .byte), .methodLink ST 335 Cdr.yN, .declares Cdr.yN, .selects ST Cdr.yN Cdr.yN, .instanceMethod Cdr.yN]
theorem tabLen_of {a : Array Value} {s : State} (h : ∀ w ∈ wordsLen, w.before a s = true) : Len.tab.before a s = true := by
  have hc : Cdr.tab.before a s = true := unparts (wk h (.code Cdr.yN Cdr.yB 1 (some .byte))) (wks h (.initialized Cdr.yN.cls :: Cdr.site))
  have q := consq hc h
  exact unparts (wk q (.code Len.yN Len.yB 1 (some .int))) (wks q (.initialized Len.yN.cls :: Len.site))
theorem movedLen {Z s : State} {a0 args : Array Value} (hZ : Z.Warmed39 s.vm) (hw : ∀ d ∈ wordsLen, d.before a0 Z = true) : ∀ d ∈ wordsLen, d.before args s = true := fun d hd => by
  have q := hw d hd
  have t : ∀ d ∈ wordsLen, d = .arrayClass .byte ∨ (d.onTables && d.keepsFace) = true := by decide +kernel
  rcases t d hd with rfl | t
  · exact RoadKit.mvA hZ q
  · exact RoadKit.mv hZ q t
/-- the bytes of the chars cs, low before high -/
def wideBytes : List Int32 → List Value
  | [] => []
  | c :: cs => .int (lo8 c) :: .int (hi8 c) :: wideBytes cs
theorem wide_lo (d : Value) : ∀ (cs : List Int32) (j : Nat), j < cs.length → (wideBytes cs).getD (2 * j) d = .int (lo8 (cs.getD j 0))
  | [], j, h => absurd h (Nat.not_lt_zero j)
  | c :: cs, 0, _ => rfl
  | c :: cs, j + 1, h => by
    have q := wide_lo d cs j (by simpa using h)
    rw [show 2 * (j + 1) = 2 * j + 1 + 1 from by omega]
    simpa [wideBytes] using q
theorem wide_hi (d : Value) : ∀ (cs : List Int32) (j : Nat), j < cs.length → (wideBytes cs).getD (2 * j + 1) d = .int (hi8 (cs.getD j 0))
  | [], j, h => absurd h (Nat.not_lt_zero j)
  | c :: cs, 0, _ => rfl
  | c :: cs, j + 1, h => by
    have q := wide_hi d cs j (by simpa using h)
    rw [show 2 * (j + 1) + 1 = 2 * j + 1 + 1 + 1 from by omega]
    simpa [wideBytes] using q
theorem low_at (d : Value) (cs : List Int32) (j : Nat) (h : j < cs.length) : (cs.map fun c => Value.int (lo8 c)).getD j d = .int (lo8 (cs.getD j 0)) := by
  simp [List.getD_eq_getElem?_getD, h]
/-- an array of N2 bytes vs codes the chars cs by the coder cd -/
def CodA (cs : List Int32) (cd N2 : Int32) (vs : List Value) : Prop := (cd = 0 ∧ N2 = Int32.ofNat cs.length ∧ vs = (cs.map fun c => Value.int (lo8 c)) ∧ ∀ c ∈ cs, ¬ 255 < c) ∨ (cd = 1 ∧ N2 = Int32.ofNat (2 * cs.length) ∧ vs = wideBytes cs ∧ ∃ c ∈ cs, 255 < c)
theorem CodA.cod {cs : List Int32} {cd N2 : Int32} {vs : List Value} {V : Cell} (h : CodA cs cd N2 vs) (hn : 2 * cs.length < 2 ^ 31) (hs : V.slots.size = N2.toNatClampNeg) (hv : RoadKit.Has V vs (.int 0)) : Cod cd cs.length (fun j => cs.getD j 0) V := by
  rcases h with ⟨rfl, rfl, rfl, h⟩ | ⟨rfl, rfl, rfl, c, hc, hw⟩
  · rw [n32 (by omega)] at hs
    exact Or.inl ⟨rfl, hs, fun j hj => ⟨by rw [hv j (by omega), low_at _ _ _ hj], by
      have e : cs.getD j 0 = cs[j] := by simp [List.getD_eq_getElem?_getD, hj]
      show ¬ 255 < cs.getD j 0
      rw [e]; exact h _ (List.getElem_mem _)⟩⟩
  · rw [n32 (by omega)] at hs
    obtain ⟨j, hj, rfl⟩ := List.getElem_of_mem hc
    exact Or.inr ⟨rfl, hs, fun j hj => ⟨by rw [hv _ (by omega), wide_lo _ _ _ hj], by rw [hv _ (by omega), wide_hi _ _ _ hj]⟩, j, hj, by
      have e : cs.getD j 0 = cs[j] := by simp [List.getD_eq_getElem?_getD, hj]
      show 255 < cs.getD j 0
      rw [e]; exact hw⟩
/-- an object of exactly java/lang/String, its two fields found: as the laws ask it -/
theorem strObj {Z U : State} {a0 : Array Value} {kI : Nat} (wi : (Jvm.Cond.instantiable ST kI).before a0 Z = true) (al : Z.vm.Alike U.vm) {x : Addr} {v0 c0 : Value} (E : RoadKit.Exa Z U.heap x ST) (V : RoadKit.Fld Z U.heap x ST "value" "[B" v0) (C : RoadKit.Fld Z U.heap x ST "coder" "B" c0) :
    ∃ (D : Cell) (fV fC : Field), Blank ST x D U ∧ Found ST "value" "[B" fV U ∧ Found ST "coder" "B" fC U ∧ D.slots[fV.slot]? = some v0 ∧ D.slots[fC.slot]? = some c0 ∧ RoadKit.slotOf Z ST "value" "[B" = fV.slot ∧ RoadKit.slotOf Z ST "coder" "B" = fC.slot := by
  obtain ⟨D, cfV, kV, iV, fV, hD, gV, stV, knV, obV, asV, slV⟩ := V
  obtain ⟨D', cfC, kC, iC, fC, hD', gC, stC, -, -, asC, slC⟩ := C
  cases hD.symm.trans hD'
  obtain ⟨D2, kD, e1, e2, e3, e4, e5⟩ := E
  cases hD.symm.trans e1
  obtain ⟨c2, k2, i1, i2, i3, -⟩ := Cond.instantiable_spec wi
  cases e2.symm.trans i1
  cases e3.symm.trans i2
  obtain ⟨kU, u1, u2⟩ := al.2.2 _ _ e3
  exact ⟨D, fV, fC, ⟨hD, ⟨knV, fun q hq => by rw [hq] at obV; cases obV⟩, by rw [al.findClass]; exact e2, kU, u1, by rw [u2]; exact i3, by rw [u2]; exact e5 i3⟩, ⟨SBG.found_only al ⟨cfV, kV, iV, gV⟩, stV⟩, ⟨SBG.found_only al ⟨cfC, kC, iC, gC⟩, stC⟩, slV, slC, by simp [RoadKit.slotOf, gV], by simp [RoadKit.slotOf, gC]⟩
theorem sta_is {Z U : State} (al : Z.vm.Alike U.vm) {C n d : String} {v : Value} (S : RoadKit.Sta Z U.heap C n d v) : StaticIs U C n d v := by
  obtain ⟨cfS, iS, kS, fS, st, cS, t1, t2, t3, t4, t5, t6, t7⟩ := S
  exact StaticIs.there (s := { Z with heap := U.heap }) ⟨cfS, iS, kS, fS, st, cS, t1, t2, t3, t4, t5, (fun q => by rw [q] at t6; cases t6), t7⟩ al rfl
/-- **length() OF SUCH A STRING** -/
theorem lenW {p : Program} {l : Launch} {e : Env} {R : Room} {s : State} {args : Array Value} {below : List Frame} {len W : Nat} {Z : State} {a0 : Array Value} {h : Heap} (hZ : Z.Warmed39 s.vm) (hw : ∀ d ∈ wordsLen, d.before a0 Z = true) {kI : Nat} (wi : (Jvm.Cond.instantiable ST kI).before a0 Z = true)
    {x t : Addr} {kb : ClassId} {cs : List Int32} {cd N2 z : Int32} {vs : List Value} (E : RoadKit.Exa Z h x ST) (V : RoadKit.Fld Z h x ST "value" "[B" (.ref t)) (C : RoadKit.Fld Z h x ST "coder" "B" (.int cd)) (K : RoadKit.Arv Z h t kb .byte N2 vs (.int 0)) (hc : CodA cs cd N2 vs) (hb : ∀ c ∈ cs, ¬ c < 0 ∧ ¬ (65535 : Int32) < c)
    (S : RoadKit.Sta Z h ST "COMPACT_STRINGS" "Z" (.int z)) (hz : ¬ z = 0) (l2 : cs.length ≤ 4000) (hfr : 2 ≤ R.frames) (hlo : W + 25 ≤ R.locals) :
    Back l R p e below s args (⟨"java/lang/String", "length", "()I"⟩ : MethodName) len W (fun P a => a = #[.ref x] ∧ P.U.heap = h ∧ P.cells + 0 ≤ R.cells ∧ P.slots + 0 ≤ R.slots)
      (fun P _ v B => ∃ L, (v = some (.int (Int32.ofNat cs.length)) ∧ L = [] ∧ B.U.heap = h) ∧ B.locs = P.locs ++ L ∧ B.cells = P.cells + 0 ∧ B.slots = P.slots + 0) := by
  obtain ⟨A, K1, K2, K3, K4, K5, K6⟩ := K
  have hcod := hc.cod (by omega) K3 K5
  intro m meth c P g ig mk a X hg hsize hdg hW hn hp'
  obtain ⟨rfl, rfl, r1, r2⟩ := hp'
  have al : Z.vm.Alike P.U.vm := hZ.alike.trans X.warmed.alike
  obtain ⟨D, fV, fC, hB, F1, F2, g1, g2, -, -⟩ := strObj wi al E V C
  have hx : Txt x t A cd cs.length (fun j => cs.getD j 0) P.U := ⟨⟨_, hB.2.2.1, D, hB.1, rfl, by cases q : D.vm <;> first | rfl | exact absurd q (hB.2.1.2 _)⟩, Has.of hB F1 g1, Has.of hB F2 g2, ⟨K1.1, State.isArrayOf_alike al K1.2.1, K1.2.2, by rcases hcod with ⟨-, q, -⟩ | ⟨-, q, -⟩ <;> omega⟩, hcod, fun j hj => by
    have e : cs.getD j 0 = cs[j] := by simp [List.getD_eq_getElem?_getD, hj]
    show ¬ cs.getD j 0 < 0 ∧ ¬ 65535 < cs.getD j 0
    rw [e]; exact hb _ (List.getElem_mem _)⟩
  obtain ⟨v, B, X', ⟨⟨hv, hh⟩, hl, hk, hs⟩, st⟩ := Len.pays x t A cd cs.length (fun j => cs.getD j 0) z (tabLen_of (movedLen hZ hw)) hfr hlo m meth c P g ig mk _ X hg hsize hdg hW hn ⟨r1, r2, rfl, hx, sta_is al S, hz⟩
  exact ⟨v, B, X', ⟨[], ⟨hv, rfl, hh⟩, hl, hk, hs⟩, st⟩
end StrChars.Road
namespace StrChars
open Jvm Sem ClassFile Op Lib Jvm.Stand Jvm.Free.XT Jvm.Free.ALB Jvm.Free.JM Jvm.Free
open Jvm.Lib.Cold (StaticIs)
/-- what place i of a byte[]'s cell holds -/
def yv (A : Cell) (i : Nat) : Int32 := match A.slots[i]? with | some (.int x) => x | _ => 0
theorem yv_get {a : Addr} {A : Cell} {U : State} (h : XT.Arr .byte a A U) (ht : Typed .byte A) {i : Nat} (hi : i < A.slots.size) : A.slots[i]? = some (.int (yv A i)) := by
  have e := Array.getElem?_eq_getElem hi
  have f := ht i _ e
  unfold yv; rw [e]
  generalize A.slots[i] = v at f
  cases v <;> simp [fits] at f ⊢
/-- the two arrays are equal, place for place -/
def EqC (A B : Cell) : Prop := A.slots.size = B.slots.size ∧ ∀ i, i < A.slots.size → yv A i = yv B i
/-- a boolean that says whether p -/
def Says01 (q : Prop) (r : Option Value) (s u : State) : Prop := ∃ v : Int32, r = some (.int v) ∧ u.heap = s.heap ∧ ((v = 1 ∧ q) ∨ (v = 0 ∧ ¬ q))
theorem Says01.mv {q : Prop} : ∀ r (U U' V V' : State), U'.heap = U.heap → V.vm.Alike V'.vm → V'.heap = V.heap → Says01 q r U V → Says01 q r U' V' :=
  fun r U U' V V' h1 _ h2 ⟨v, a, b, c⟩ => ⟨v, a, by rw [h1, h2]; exact b, c⟩
namespace LEq
def yN : MethodName := ⟨"java/lang/StringLatin1", "equals", "([B[B)Z"⟩
abbrev yB : ByteArray := jdk_43_method_13_code
theorem d0 : decode yB 0 = .ok (.aload_n 0, 1) := by decide +kernel
theorem d1 : decode yB 1 = .ok (.arraylength, 1) := by decide +kernel
theorem d2 : decode yB 2 = .ok (.aload_n 1, 1) := by decide +kernel
theorem d3 : decode yB 3 = .ok (.arraylength, 1) := by decide +kernel
theorem d4 : decode yB 4 = .ok (.if_icmp (.ne) 30, 3) := by decide +kernel
theorem d7 : decode yB 7 = .ok (.iconst 0, 1) := by decide +kernel
theorem d8 : decode yB 8 = .ok (.istore_n 2, 1) := by decide +kernel
theorem d9 : decode yB 9 = .ok (.iload_n 2, 1) := by decide +kernel
theorem d10 : decode yB 10 = .ok (.aload_n 0, 1) := by decide +kernel
theorem d11 : decode yB 11 = .ok (.arraylength, 1) := by decide +kernel
theorem d12 : decode yB 12 = .ok (.if_icmp (.ge) 20, 3) := by decide +kernel
theorem d15 : decode yB 15 = .ok (.aload_n 0, 1) := by decide +kernel
theorem d16 : decode yB 16 = .ok (.iload_n 2, 1) := by decide +kernel
theorem d17 : decode yB 17 = .ok (.baload, 1) := by decide +kernel
theorem d18 : decode yB 18 = .ok (.aload_n 1, 1) := by decide +kernel
theorem d19 : decode yB 19 = .ok (.iload_n 2, 1) := by decide +kernel
theorem d20 : decode yB 20 = .ok (.baload, 1) := by decide +kernel
theorem d21 : decode yB 21 = .ok (.if_icmp (.eq) 5, 3) := by decide +kernel
theorem d24 : decode yB 24 = .ok (.iconst 0, 1) := by decide +kernel
theorem d25 : decode yB 25 = .ok (.ireturn, 1) := by decide +kernel
theorem d26 : decode yB 26 = .ok (.iinc 2 1, 3) := by decide +kernel
theorem d29 : decode yB 29 = .ok (.goto (-20), 3) := by decide +kernel
theorem d32 : decode yB 32 = .ok (.iconst 1, 1) := by decide +kernel
theorem d33 : decode yB 33 = .ok (.ireturn, 1) := by decide +kernel
theorem d34 : decode yB 34 = .ok (.iconst 0, 1) := by decide +kernel
theorem d35 : decode yB 35 = .ok (.ireturn, 1) := by decide +kernel
def site : List Cond := []
def tab : Cond := tabOf yN yB 3 (some .boolean) site
def P (a : Addr) (A : Cell) (b : Addr) (B : Cell) (args : Array Value) (s : State) : Prop := args = #[.ref a, .ref b] ∧ XT.Arr .byte a A s ∧ Typed .byte A ∧ XT.Arr .byte b B s ∧ Typed .byte B
/-- whether two byte[] are equal, place for place -/
theorem law (l : Launch) (a : Addr) (A : Cell) (b : Addr) (B : Cell) : Law l yN 2 2 0 0 yB 3 (some .boolean) site (P a A b B) (Says01 (EqC A B)) [] 0 0 := by
  refine Law.of_walk (plainFor_of_name (by decide +kernel)) (by decide +kernel) (by decide +kernel) (by decide) (fun _ _ h => by rw [h.1]; rfl) (fun _ U U' hal hh h => ⟨h.1, h.2.1.mv hal hh, h.2.2.1, h.2.2.2.1.mv hal hh, h.2.2.2.2⟩) (fun r U U' V V' h1 hal h2 h => Says01.mv r U U' V V' h1 hal h2 h) ?_
  intro p e s m args below meth c s₁ X0 hexec hbytes hml hret hlk hnm hown hh0 W hP
  obtain ⟨rfl, hA, tA, hB, tB⟩ := hP
  have a31 := hA.2.2.2
  have b31 := hB.2.2.2
  have hA0 := hA.mv X0.warmed.alike hh0
  have hB0 := hB.mv X0.warmed.alike hh0
  have c1 : Steps p.tables e below (s₁.setTop (entryFrame m #[.ref a, .ref b] 3)) (s₁.setTop (mkF m 0 #[.val (.ref a), .val (.ref b), .unset] [])) := entry rfl
  have c2 : Steps p.tables e below (s₁.setTop (entryFrame m #[.ref a, .ref b] 3)) (s₁.setTop (mkF m 4 #[.val (.ref a), .val (.ref b), .unset] [.int (Int32.ofNat B.slots.size), .int (Int32.ofNat A.slots.size)])) := c1.trans (by
    refine XS.aloadN X0.here hexec rfl (hb hbytes d0) rfl rfl ?_
    refine X0.alen hexec hA0 rfl rfl (hb hbytes d1) ?_
    refine XS.aloadN X0.here hexec rfl (hb hbytes d2) rfl rfl ?_
    refine X0.alen hexec hB0 rfl rfl (hb hbytes d3) ?_
    exact Steps.refl _)
  by_cases hs : A.slots.size = B.slots.size
  · have c3 : Steps p.tables e below (s₁.setTop (entryFrame m #[.ref a, .ref b] 3)) (s₁.setTop (mkF m 9 #[.val (.ref a), .val (.ref b), .val (.int 0)] [])) := c2.trans (by
      refine XS.icmpNo X0.here hexec rfl (hb hbytes d4) rfl (ii_ne_f (by rw [hs])) ?_
      refine iconstV X0.here hexec rfl 0 (hb hbytes d7) (by decide) ?_
      refine XS.istoreN X0.here hexec rfl (hb hbytes d8) rfl rfl ?_
      exact Steps.refl _)
    have loop : ∀ (r i : Nat), i + r = A.slots.size → (∀ j, j < i → yv A j = yv B j) → Steps p.tables e below (s₁.setTop (entryFrame m #[.ref a, .ref b] 3)) (s₁.setTop (mkF m 9 #[.val (.ref a), .val (.ref b), .val (.int (Int32.ofNat i))] [])) → ∃ (pc : Nat) (Ls : Array Slot) (v : Int32), (pc = 25 ∨ pc = 33) ∧ ((v = 1 ∧ EqC A B) ∨ (v = 0 ∧ ¬ EqC A B)) ∧ Steps p.tables e below (s₁.setTop (entryFrame m #[.ref a, .ref b] 3)) (s₁.setTop (mkF m pc Ls [.int v])) := by
      intro r
      induction r with
      | zero =>
        intro i hi he cl
        exact ⟨33, _, 1, Or.inr rfl, Or.inl ⟨rfl, hs, fun j hj => he j (by omega)⟩, cl.trans (by
          refine XS.iloadN X0.here hexec rfl (hb hbytes d9) rfl ?_
          refine XS.aloadN X0.here hexec rfl (hb hbytes d10) rfl rfl ?_
          refine X0.alen hexec hA0 rfl rfl (hb hbytes d11) ?_
          refine XS.icmpYes X0.here hexec rfl (pc0 := 12) rfl (hb hbytes d12) rfl (ii_ge_t (nlt32 (by omega) (by omega))) (by decide) rfl ?_
          refine iconstV X0.here hexec rfl 1 (hb hbytes d32) (by decide) ?_
          exact Steps.refl _)⟩
      | succ r ih =>
        intro i hi he cl
        have c4 : Steps p.tables e below (s₁.setTop (entryFrame m #[.ref a, .ref b] 3)) (s₁.setTop (mkF m 21 #[.val (.ref a), .val (.ref b), .val (.int (Int32.ofNat i))] [.int (yv B i), .int (yv A i)])) := cl.trans (by
          refine XS.iloadN X0.here hexec rfl (hb hbytes d9) rfl ?_
          refine XS.aloadN X0.here hexec rfl (hb hbytes d10) rfl rfl ?_
          refine X0.alen hexec hA0 rfl rfl (hb hbytes d11) ?_
          refine XS.icmpNo X0.here hexec rfl (hb hbytes d12) rfl (ii_ge_f (lt32 (by omega) (by omega))) ?_
          refine XS.aloadN X0.here hexec rfl (hb hbytes d15) rfl rfl ?_
          refine XS.iloadN X0.here hexec rfl (hb hbytes d16) rfl ?_
          refine X0.aget hexec hA0 rfl (yv_get hA tA (i := i) (by omega)) rfl rfl (hb hbytes d17) ?_
          refine XS.aloadN X0.here hexec rfl (hb hbytes d18) rfl rfl ?_
          refine XS.iloadN X0.here hexec rfl (hb hbytes d19) rfl ?_
          refine X0.aget hexec hB0 rfl (yv_get hB tB (i := i) (by omega)) rfl rfl (hb hbytes d20) ?_
          exact Steps.refl _)
        by_cases hv : yv A i = yv B i
        · have c5 : Steps p.tables e below (s₁.setTop (entryFrame m #[.ref a, .ref b] 3)) (s₁.setTop (mkF m 9 #[.val (.ref a), .val (.ref b), .val (.int (Int32.ofNat i + 1))] [])) := c4.trans (by
            refine XS.icmpYes X0.here hexec rfl (pc0 := 21) rfl (hb hbytes d21) rfl (ii_eq_t hv) (by decide) rfl ?_
            refine iincV X0.here hexec rfl 1 (hb hbytes d26) (by decide) rfl rfl ?_
            refine XS.goto X0.here hexec rfl (pc0 := 29) rfl (hb hbytes d29) (by decide) rfl ?_
            exact Steps.refl _)
          rw [succ32] at c5
          exact ih (i + 1) (by omega) (fun j hj => by
            by_cases e : j = i
            · rw [e]; exact hv
            · exact he j (by omega)) c5
        · exact ⟨25, _, 0, Or.inl rfl, Or.inr ⟨rfl, fun q => hv (q.2 i (by omega))⟩, c4.trans (by
            refine XS.icmpNo X0.here hexec rfl (hb hbytes d21) rfl (ii_eq_f hv) ?_
            refine iconstV X0.here hexec rfl 0 (hb hbytes d24) (by decide) ?_
            exact Steps.refl _)⟩
    obtain ⟨pc, Ls, v, hpc, hv, cz⟩ := loop A.slots.size 0 (by omega) (fun j hj => absurd hj (Nat.not_lt_zero j)) c3
    have nv : narrow .boolean (.int v) = .int v := by rcases hv with ⟨rfl, -⟩ | ⟨rfl, -⟩ <;> rfl
    rcases hpc with rfl | rfl
    · exact ⟨s₁, some (.int v), _, _, _, X0, rfl, rfl, rfl, (fun h => by cases h), ⟨v, rfl, hh0, hv⟩, fun fs hl => cz.trans (X0.ireturnOut hexec hret nv (Or.inr (Or.inl rfl)) (hb hbytes d25) hl)⟩
    · exact ⟨s₁, some (.int v), _, _, _, X0, rfl, rfl, rfl, (fun h => by cases h), ⟨v, rfl, hh0, hv⟩, fun fs hl => cz.trans (X0.ireturnOut hexec hret nv (Or.inr (Or.inl rfl)) (hb hbytes d33) hl)⟩
  · have c3 : Steps p.tables e below (s₁.setTop (entryFrame m #[.ref a, .ref b] 3)) (s₁.setTop (mkF m 35 #[.val (.ref a), .val (.ref b), .unset] [.int 0])) := c2.trans (by
      refine XS.icmpYes X0.here hexec rfl (pc0 := 4) rfl (hb hbytes d4) rfl (ii_ne_t (ne32 a31 b31 hs)) (by decide) rfl ?_
      refine iconstV X0.here hexec rfl 0 (hb hbytes d34) (by decide) ?_
      exact Steps.refl _)
    exact ⟨s₁, some (.int 0), _, _, _, X0, rfl, rfl, rfl, (fun h => by cases h), ⟨0, rfl, hh0, Or.inr ⟨rfl, fun q => hs q.1⟩⟩, fun fs hl => c3.trans (X0.ireturnOut hexec hret rfl (Or.inr (Or.inl rfl)) (hb hbytes d35) hl)⟩
end LEq
theorem Cod.ty {cd : Int32} {n : Nat} {f : Nat → Int32} {V : Cell} (h : Cod cd n f V) : Typed .byte V := fun i v hv => by
  have hi : i < V.slots.size := (Array.getElem?_eq_some_iff.mp hv).1
  rcases h with ⟨-, k1, k2⟩ | ⟨-, k1, k2, -⟩
  · rw [(k2 i (by omega)).1] at hv; cases hv; exact fits_lo8 _
  · rcases Nat.mod_two_eq_zero_or_one i with e | e
    · obtain ⟨j, rfl⟩ : ∃ j, i = 2 * j := ⟨i / 2, by omega⟩
      rw [(k2 j (by omega)).1] at hv; cases hv; exact fits_lo8 _
    · obtain ⟨j, rfl⟩ : ∃ j, i = 2 * j + 1 := ⟨i / 2, by omega⟩
      rw [(k2 j (by omega)).2] at hv; cases hv; exact fits_lo8 _
/-- the same text -/
def SameT (n : Nat) (f : Nat → Int32) (k : Nat) (g : Nat → Int32) : Prop := n = k ∧ ∀ j, j < n → f j = g j
theorem lo8_inj {x y : Int32} (h0 : ¬ x < 0) (h1 : ¬ 255 < x) (k0 : ¬ y < 0) (k1 : ¬ 255 < y) (h : lo8 x = lo8 y) : x = y := by
  rw [← lo8_mask h0 h1, ← lo8_mask k0 k1, h]
/-- arrays coded by one coder are equal just where the texts are -/
theorem Cod.eqv {cd : Int32} {n k : Nat} {f g : Nat → Int32} {V V' : Cell} (h : Cod cd n f V) (h' : Cod cd k g V') (hf : ∀ j, j < n → ¬ f j < 0 ∧ ¬ 65535 < f j) (hg : ∀ j, j < k → ¬ g j < 0 ∧ ¬ 65535 < g j) : EqC V V' ↔ SameT n f k g := by
  have yvv : ∀ {W : Cell} {i : Nat} {x : Int32}, W.slots[i]? = some (.int x) → yv W i = x := fun q => by unfold yv; rw [q]
  rcases h with ⟨rfl, k1, k2⟩ | ⟨rfl, k1, k2, -⟩
  · rcases h' with ⟨-, m1, m2⟩ | ⟨e, -⟩
    · constructor
      · rintro ⟨e1, e2⟩
        refine ⟨by omega, fun j hj => ?_⟩
        have q := e2 j (by omega)
        rw [yvv (k2 j hj).1, yvv (m2 j (by omega)).1] at q
        exact lo8_inj (hf j hj).1 (k2 j hj).2 (hg j (by omega)).1 (m2 j (by omega)).2 q
      · rintro ⟨rfl, e2⟩
        refine ⟨by omega, fun j hj => ?_⟩
        rw [yvv (k2 j (by omega)).1, yvv (m2 j (by omega)).1, e2 j (by omega)]
    · exact absurd e (by decide)
  · rcases h' with ⟨e, -⟩ | ⟨-, m1, m2, -⟩
    · exact absurd e (by decide)
    · constructor
      · rintro ⟨e1, e2⟩
        refine ⟨by omega, fun j hj => ?_⟩
        have q1 := e2 (2 * j) (by omega)
        have q2 := e2 (2 * j + 1) (by omega)
        rw [yvv (k2 j hj).1, yvv (m2 j (by omega)).1] at q1
        rw [yvv (k2 j hj).2, yvv (m2 j (by omega)).2] at q2
        rw [← pair_says (hf j hj).1 (hf j hj).2, ← pair_says (hg j (by omega)).1 (hg j (by omega)).2, q1, q2]
      · rintro ⟨rfl, e2⟩
        refine ⟨by omega, fun i hi => ?_⟩
        rcases Nat.mod_two_eq_zero_or_one i with e | e
        · obtain ⟨j, rfl⟩ : ∃ j, i = 2 * j := ⟨i / 2, by omega⟩
          rw [yvv (k2 j (by omega)).1, yvv (m2 j (by omega)).1, e2 j (by omega)]
        · obtain ⟨j, rfl⟩ : ∃ j, i = 2 * j + 1 := ⟨i / 2, by omega⟩
          rw [yvv (k2 j (by omega)).2, yvv (m2 j (by omega)).2, e2 j (by omega)]
/-- two codings differ: so do the texts -/
theorem Cod.dif {cd cd' : Int32} {n k : Nat} {f g : Nat → Int32} {V V' : Cell} (h : Cod cd n f V) (h' : Cod cd' k g V') (hne : ¬ cd = cd') : ¬ SameT n f k g := by
  rintro ⟨rfl, e⟩
  rcases h with ⟨rfl, -, k2⟩ | ⟨rfl, -, -, j, hj, hw⟩
  · rcases h' with ⟨rfl, -⟩ | ⟨-, -, -, j, hj, hw⟩
    · exact hne rfl
    · exact (k2 j hj).2 (by rw [e j hj]; exact hw)
  · rcases h' with ⟨-, -, m2⟩ | ⟨rfl, -⟩
    · exact (m2 j hj).2 (by rw [← e j hj]; exact hw)
    · exact hne rfl
/-- an object of exactly C is an instance of C -/
theorem cinst {p : Program} {l : Launch} {e : Env} {R : Room} {s : State} {m : MethodId} {args : Array Value} {below : List Frame} {meth : Method} {c : Code} {T : State} {locs : List Loc} {cells slots : Nat} (X : Stand p l e R s m args below meth c T locs cells slots) (hexec : p.tables.exec = Jvm.exec) {own C : String} {index : Nat} (hown : s.vm.findClass own = some m.cls) (hlink : (Cond.classLink own index C).before args s = true) {a : Addr} (hE : Exact C a T)
    {g : JFrame} (hg : g.method = m) {rest : List Value} (hstack : g.stack = .ref a :: rest) (hdg : decode c.code g.pc = .ok (.instanceof index, 3)) :
    ∃ T', Stand p l e R s m args below meth c T' locs cells slots ∧ T'.heap = T.heap ∧ ∀ target, Steps p.tables e below (T'.setTop { g with pc := g.pc + 3, stack := .int 1 :: rest }) target → Steps p.tables e below (T.setTop g) target := by
  obtain ⟨cB, h1, D, h2, h3, h4⟩ := hE
  have h1' : s.vm.findClass C = some cB := by rw [← X.warmed.alike.findClass]; exact h1
  obtain ⟨vm', X', st⟩ := X.instanceofYes hexec hown hlink h2 h4 h1' (by rw [h3]; exact Jvm.Free.SB.assignable_self _ _) hg hstack hdg
  exact ⟨_, X', rfl, st⟩
theorem cself {p : Program} {l : Launch} {e : Env} {R : Room} {s : State} {m : MethodId} {args : Array Value} {below : List Frame} {meth : Method} {c : Code} {T : State} {locs : List Loc} {cells slots : Nat} (X : Stand p l e R s m args below meth c T locs cells slots) (hexec : p.tables.exec = Jvm.exec) {own C : String} {index : Nat} (hown : s.vm.findClass own = some m.cls) (hlink : (Cond.classLink own index C).before args s = true) {a : Addr} (hE : Exact C a T)
    {g : JFrame} (hg : g.method = m) {rest : List Value} (hstack : g.stack = .ref a :: rest) (hdg : decode c.code g.pc = .ok (.checkcast index, 3)) :
    ∃ T', Stand p l e R s m args below meth c T' locs cells slots ∧ T'.heap = T.heap ∧ ∀ target, Steps p.tables e below (T'.setTop { g with pc := g.pc + 3, stack := .ref a :: rest }) target → Steps p.tables e below (T.setTop g) target := by
  obtain ⟨cB, h1, D, h2, h3, h4⟩ := hE
  have h1' : s.vm.findClass C = some cB := by rw [← X.warmed.alike.findClass]; exact h1
  obtain ⟨vm', X', st⟩ := X.checkcastYes hexec hown hlink h2 h4 h1' (by rw [h3]; exact Jvm.Free.SB.assignable_self _ _) hg hstack hdg
  exact ⟨_, X', rfl, fun t h => st t (by rw [← hstack] at h; exact h)⟩
namespace SEq
def yN : MethodName := ⟨"java/lang/String", "equals", "(Ljava/lang/Object;)Z"⟩
abbrev yB : ByteArray := jdk_42_method_66_code
theorem d0 : decode yB 0 = .ok (.aload_n 0, 1) := by decide +kernel
theorem d1 : decode yB 1 = .ok (.aload_n 1, 1) := by decide +kernel
theorem d2 : decode yB 2 = .ok (.if_acmp (.ne) 5, 3) := by decide +kernel
theorem d5 : decode yB 5 = .ok (.iconst 1, 1) := by decide +kernel
theorem d6 : decode yB 6 = .ok (.ireturn, 1) := by decide +kernel
theorem d7 : decode yB 7 = .ok (.aload_n 1, 1) := by decide +kernel
theorem d8 : decode yB 8 = .ok (.instanceof 10, 3) := by decide +kernel
theorem d11 : decode yB 11 = .ok (.ifCond (.eq) 43, 3) := by decide +kernel
theorem d14 : decode yB 14 = .ok (.aload_n 1, 1) := by decide +kernel
theorem d15 : decode yB 15 = .ok (.checkcast 10, 3) := by decide +kernel
theorem d18 : decode yB 18 = .ok (.astore_n 2, 1) := by decide +kernel
theorem d19 : decode yB 19 = .ok (.getstatic 38, 3) := by decide +kernel
theorem d22 : decode yB 22 = .ok (.ifCond (.eq) 14, 3) := by decide +kernel
theorem d25 : decode yB 25 = .ok (.aload_n 0, 1) := by decide +kernel
theorem d26 : decode yB 26 = .ok (.getfield 15, 3) := by decide +kernel
theorem d29 : decode yB 29 = .ok (.aload_n 2, 1) := by decide +kernel
theorem d30 : decode yB 30 = .ok (.getfield 15, 3) := by decide +kernel
theorem d33 : decode yB 33 = .ok (.if_icmp (.ne) 21, 3) := by decide +kernel
theorem d36 : decode yB 36 = .ok (.aload_n 0, 1) := by decide +kernel
theorem d37 : decode yB 37 = .ok (.getfield 9, 3) := by decide +kernel
theorem d40 : decode yB 40 = .ok (.aload_n 2, 1) := by decide +kernel
theorem d41 : decode yB 41 = .ok (.getfield 9, 3) := by decide +kernel
theorem d44 : decode yB 44 = .ok (.invokestatic 541, 3) := by decide +kernel
theorem d47 : decode yB 47 = .ok (.ifCond (.eq) 7, 3) := by decide +kernel
theorem d50 : decode yB 50 = .ok (.iconst 1, 1) := by decide +kernel
theorem d51 : decode yB 51 = .ok (.goto 4, 3) := by decide +kernel
theorem d54 : decode yB 54 = .ok (.iconst 0, 1) := by decide +kernel
theorem d55 : decode yB 55 = .ok (.ireturn, 1) := by decide +kernel
def site : List Cond := [.classLink "java/lang/String" 10 "java/lang/String", .fieldLink "java/lang/String" 38 "java/lang/String" "COMPACT_STRINGS" "Z", .fieldLink "java/lang/String" 15 "java/lang/String" "coder" "B", .fieldLink "java/lang/String" 9 "java/lang/String" "value" "[B", LEq.tab] ++ staticW "java/lang/String" 541 LEq.yN
def tab : Cond := tabOf yN yB 3 (some .boolean) site
def P (x t : Addr) (V : Cell) (cd : Int32) (n : Nat) (f : Nat → Int32) (y t' : Addr) (V' : Cell) (cd' : Int32) (k : Nat) (g : Nat → Int32) (z : Int32) (args : Array Value) (s : State) : Prop := args = #[.ref x, .ref y] ∧ Txt x t V cd n f s ∧ Txt y t' V' cd' k g s ∧ StaticIs s "java/lang/String" "COMPACT_STRINGS" "Z" (.int z) ∧ ¬ z = 0
/-- equals(Object) of two Strings: whether the texts are the same -/
theorem law (l : Launch) (x t : Addr) (V : Cell) (cd : Int32) (n : Nat) (f : Nat → Int32) (y t' : Addr) (V' : Cell) (cd' : Int32) (k : Nat) (g : Nat → Int32) (z : Int32) : Law l yN 2 1 1 14 yB 3 (some .boolean) site (P x t V cd n f y t' V' cd' k g z) (Says01 (SameT n f k g)) [] 0 0 := by
  refine Law.of_walk (plainFor_of_name (by decide +kernel)) (by decide +kernel) (by decide +kernel) (by decide) (fun _ _ h => by rw [h.1]; rfl) (fun _ U U' hal hh h => ⟨h.1, h.2.1.mv hal hh, h.2.2.1.mv hal hh, h.2.2.2.1.there hal hh, h.2.2.2.2⟩) (fun r U U' V V' h1 hal h2 h => Says01.mv r U U' V V' h1 hal h2 h) ?_
  intro p e s m args below meth c s₁ X0 hexec hbytes hml hret hlk hnm hown hh0 W hP
  obtain ⟨rfl, hx, hy, s1, hz⟩ := hP
  have c1 : Steps p.tables e below (s₁.setTop (entryFrame m #[.ref x, .ref y] 3)) (s₁.setTop (mkF m 2 #[.val (.ref x), .val (.ref y), .unset] [.ref y, .ref x])) := Steps.trans (entry rfl) (by
    show Steps p.tables e below (s₁.setTop (mkF m 0 #[.val (.ref x), .val (.ref y), .unset] [])) _
    refine XS.aloadN X0.here hexec rfl (hb hbytes d0) rfl rfl ?_
    refine XS.aloadN X0.here hexec rfl (hb hbytes d1) rfl rfl ?_
    exact Steps.refl _)
  by_cases hxy : x = y
  · have c2 : Steps p.tables e below (s₁.setTop (entryFrame m #[.ref x, .ref y] 3)) (s₁.setTop (mkF m 6 #[.val (.ref x), .val (.ref y), .unset] [.int 1])) := c1.trans (by
      refine acmpNo X0.here hexec rfl (hb hbytes d2) rfl rfl rfl (by simp [acmp, hxy]) ?_
      refine iconstV X0.here hexec rfl 1 (hb hbytes d5) (by decide) ?_
      exact Steps.refl _)
    subst hxy
    have ec : cd = cd' := by
      obtain ⟨D, fd, a1, a2, a3⟩ := hx.2.2.1
      obtain ⟨D', fd', b1, b2, b3⟩ := hy.2.2.1
      cases a1.symm.trans b1
      obtain ⟨q1, q2, q3, q4⟩ := a2.1
      obtain ⟨r1, r2, r3, r4⟩ := b2.1
      cases q4.symm.trans r4
      cases a3.symm.trans b3; rfl
    have et : t = t' := by
      obtain ⟨D, fd, a1, a2, a3⟩ := hx.2.1
      obtain ⟨D', fd', b1, b2, b3⟩ := hy.2.1
      cases a1.symm.trans b1
      obtain ⟨q1, q2, q3, q4⟩ := a2.1
      obtain ⟨r1, r2, r3, r4⟩ := b2.1
      cases q4.symm.trans r4
      cases a3.symm.trans b3; rfl
    subst ec et
    have ev : V = V' := by cases hx.2.2.2.1.1.symm.trans hy.2.2.2.1.1; rfl
    subst ev
    have hs : SameT n f k g := (Cod.eqv hx.2.2.2.2.1 hy.2.2.2.2.1 hx.2.2.2.2.2 hy.2.2.2.2.2).mp ⟨rfl, fun _ _ => rfl⟩
    exact ⟨s₁, some (.int 1), _, _, _, X0, rfl, rfl, rfl, (fun h => by cases h), ⟨1, rfl, hh0, Or.inl ⟨rfl, hs⟩⟩, fun fs hl => c2.trans (X0.ireturnOut hexec hret rfl (Or.inr (Or.inl rfl)) (hb hbytes d6) hl)⟩
  · have c2 : Steps p.tables e below (s₁.setTop (entryFrame m #[.ref x, .ref y] 3)) (s₁.setTop (mkF m 8 #[.val (.ref x), .val (.ref y), .unset] [.ref y])) := c1.trans (by
      refine acmpYes X0.here hexec rfl (pc0 := 2) rfl (hb hbytes d2) rfl rfl rfl (by simp [acmp, hxy]) (by decide) rfl ?_
      refine XS.aloadN X0.here hexec rfl (hb hbytes d7) rfl rfl ?_
      exact Steps.refl _)
    obtain ⟨T3, X3, q3, st3⟩ := cinst X0 hexec hown (wk W (.classLink "java/lang/String" 10 "java/lang/String")) (hy.mv X0.warmed.alike hh0).1 (g := (mkF m 8 #[.val (.ref x), .val (.ref y), .unset] [.ref y])) rfl (rest := []) rfl (hb hbytes d8)
    have hh3 := q3.trans hh0
    have c4 : Steps p.tables e below (s₁.setTop (entryFrame m #[.ref x, .ref y] 3)) (T3.setTop (mkF m 15 #[.val (.ref x), .val (.ref y), .unset] [.ref y])) := (c2.trans (st3 _ (Steps.refl _))).trans (by
      refine XS.ifNo X3.here hexec rfl (hb hbytes d11) rfl (i0_eq_f (by decide)) ?_
      refine XS.aloadN X3.here hexec rfl (hb hbytes d14) rfl rfl ?_
      exact Steps.refl _)
    obtain ⟨T5, X5, q5, st5⟩ := cself X3 hexec hown (wk W (.classLink "java/lang/String" 10 "java/lang/String")) (hy.mv X3.warmed.alike hh3).1 (g := (mkF m 15 #[.val (.ref x), .val (.ref y), .unset] [.ref y])) rfl (rest := []) rfl (hb hbytes d15)
    have hh5 := q5.trans hh3
    have c6 : Steps p.tables e below (s₁.setTop (entryFrame m #[.ref x, .ref y] 3)) (T5.setTop (mkF m 19 #[.val (.ref x), .val (.ref y), .val (.ref y)] [])) := (c4.trans (st5 _ (Steps.refl _))).trans (by
      refine XS.astoreN X5.here hexec rfl (hb hbytes d18) rfl rfl rfl ?_
      exact Steps.refl _)
    obtain ⟨T7, X7, q7, st7⟩ := X5.sget hexec hown (wk W (.fieldLink "java/lang/String" 38 "java/lang/String" "COMPACT_STRINGS" "Z")) s1 (fun _ _ h => by rw [hh5]; exact h) (g := (mkF m 19 #[.val (.ref x), .val (.ref y), .val (.ref y)] [])) rfl (hb hbytes d19)
    have hh7 := q7.trans hh5
    have c8 : Steps p.tables e below (s₁.setTop (entryFrame m #[.ref x, .ref y] 3)) (T7.setTop (mkF m 26 #[.val (.ref x), .val (.ref y), .val (.ref y)] [.ref x])) := (c6.trans (st7 _ (Steps.refl _))).trans (by
      refine XS.ifNo X7.here hexec rfl (hb hbytes d22) rfl (i0_eq_f hz) ?_
      refine XS.aloadN X7.here hexec rfl (hb hbytes d25) rfl rfl ?_
      exact Steps.refl _)
    obtain ⟨T9, X9, q9, st9⟩ := X7.hget hexec hown (wk W (.fieldLink "java/lang/String" 15 "java/lang/String" "coder" "B")) (hx.mv X7.warmed.alike hh7).2.2.1 (g := (mkF m 26 #[.val (.ref x), .val (.ref y), .val (.ref y)] [.ref x])) rfl (rest := []) rfl (hb hbytes d26)
    have hh9 := q9.trans hh7
    have c10 : Steps p.tables e below (s₁.setTop (entryFrame m #[.ref x, .ref y] 3)) (T9.setTop (mkF m 30 #[.val (.ref x), .val (.ref y), .val (.ref y)] [.ref y, .int cd])) := (c8.trans (st9 _ (Steps.refl _))).trans (by
      refine XS.aloadN X9.here hexec rfl (hb hbytes d29) rfl rfl ?_
      exact Steps.refl _)
    obtain ⟨T11, X11, q11, st11⟩ := X9.hget hexec hown (wk W (.fieldLink "java/lang/String" 15 "java/lang/String" "coder" "B")) (hy.mv X9.warmed.alike hh9).2.2.1 (g := (mkF m 30 #[.val (.ref x), .val (.ref y), .val (.ref y)] [.ref y, .int cd])) rfl (rest := [.int cd]) rfl (hb hbytes d30)
    have hh11 := q11.trans hh9
    have c12 : Steps p.tables e below (s₁.setTop (entryFrame m #[.ref x, .ref y] 3)) (T11.setTop (mkF m 33 #[.val (.ref x), .val (.ref y), .val (.ref y)] [.int cd', .int cd])) := c10.trans (st11 _ (Steps.refl _))
    by_cases hcd : cd = cd'
    · subst hcd
      have c13 : Steps p.tables e below (s₁.setTop (entryFrame m #[.ref x, .ref y] 3)) (T11.setTop (mkF m 37 #[.val (.ref x), .val (.ref y), .val (.ref y)] [.ref x])) := c12.trans (by
        refine XS.icmpNo X11.here hexec rfl (hb hbytes d33) rfl (ii_ne_f rfl) ?_
        refine XS.aloadN X11.here hexec rfl (hb hbytes d36) rfl rfl ?_
        exact Steps.refl _)
      obtain ⟨T14, X14, q14, st14⟩ := X11.hget hexec hown (wk W (.fieldLink "java/lang/String" 9 "java/lang/String" "value" "[B")) (hx.mv X11.warmed.alike hh11).2.1 (g := (mkF m 37 #[.val (.ref x), .val (.ref y), .val (.ref y)] [.ref x])) rfl (rest := []) rfl (hb hbytes d37)
      have hh14 := q14.trans hh11
      have c15 : Steps p.tables e below (s₁.setTop (entryFrame m #[.ref x, .ref y] 3)) (T14.setTop (mkF m 41 #[.val (.ref x), .val (.ref y), .val (.ref y)] [.ref y, .ref t])) := (c13.trans (st14 _ (Steps.refl _))).trans (by
        refine XS.aloadN X14.here hexec rfl (hb hbytes d40) rfl rfl ?_
        exact Steps.refl _)
      obtain ⟨T16, X16, q16, st16⟩ := X14.hget hexec hown (wk W (.fieldLink "java/lang/String" 9 "java/lang/String" "value" "[B")) (hy.mv X14.warmed.alike hh14).2.1 (g := (mkF m 41 #[.val (.ref x), .val (.ref y), .val (.ref y)] [.ref y, .ref t])) rfl (rest := [.ref t]) rfl (hb hbytes d41)
      have hh16 := q16.trans hh14
      have c17 : Steps p.tables e below (s₁.setTop (entryFrame m #[.ref x, .ref y] 3)) (T16.setTop (mkF m 44 #[.val (.ref x), .val (.ref y), .val (.ref y)] [.ref t', .ref t])) := c15.trans (st16 _ (Steps.refl _))
      obtain ⟨v18, T18, X18, E18, g18⟩ := X16.callS hexec (LEq.law l t V t' V') hown (wks W (staticW "java/lang/String" 541 LEq.yN)) (wk W LEq.tab) (W := 0) (Nat.le_of_ble_eq_true rfl) (Nat.le_of_ble_eq_true rfl) (Nat.le_refl _) (Nat.le_refl _) (g := (mkF m 44 #[.val (.ref x), .val (.ref y), .val (.ref y)] [.ref t', .ref t])) rfl (by rw [hml]; rfl) c17 (argsL := [.ref t, .ref t']) (rest := []) rfl rfl (by show 2 * 0 + 0 ≤ _; decide) (hb hbytes d44) (⟨rfl, hx.2.2.2.1.mv X16.warmed.alike hh16, hx.2.2.2.2.1.ty, hy.2.2.2.1.mv X16.warmed.alike hh16, hy.2.2.2.2.1.ty⟩)
      obtain ⟨v, rfl, q18, hv⟩ := E18
      have iff := Cod.eqv hx.2.2.2.2.1 hy.2.2.2.2.1 hx.2.2.2.2.2 hy.2.2.2.2.2
      rcases hv with ⟨rfl, he⟩ | ⟨rfl, he⟩
      · have c19 : Steps p.tables e below (s₁.setTop (entryFrame m #[.ref x, .ref y] 3)) (T18.setTop (mkF m 55 #[.val (.ref x), .val (.ref y), .val (.ref y)] [.int 1])) := Steps.trans g18 (by
          refine XS.ifNo X18.here hexec rfl (hb hbytes d47) rfl (i0_eq_f (by decide)) ?_
          refine iconstV X18.here hexec rfl 1 (hb hbytes d50) (by decide) ?_
          refine XS.goto X18.here hexec rfl (pc0 := 51) rfl (hb hbytes d51) (by decide) rfl ?_
          exact Steps.refl _)
        exact ⟨T18, some (.int 1), _, _, _, X18, rfl, rfl, rfl, (fun h => by cases h), ⟨1, rfl, q18.trans hh16, Or.inl ⟨rfl, iff.mp he⟩⟩, fun fs hl => c19.trans (X18.ireturnOut hexec hret rfl (Or.inr (Or.inl rfl)) (hb hbytes d55) hl)⟩
      · have c19 : Steps p.tables e below (s₁.setTop (entryFrame m #[.ref x, .ref y] 3)) (T18.setTop (mkF m 55 #[.val (.ref x), .val (.ref y), .val (.ref y)] [.int 0])) := Steps.trans g18 (by
          refine XS.ifYes X18.here hexec rfl (pc0 := 47) rfl (hb hbytes d47) rfl (i0_eq_t rfl) (by decide) rfl ?_
          refine iconstV X18.here hexec rfl 0 (hb hbytes d54) (by decide) ?_
          exact Steps.refl _)
        exact ⟨T18, some (.int 0), _, _, _, X18, rfl, rfl, rfl, (fun h => by cases h), ⟨0, rfl, q18.trans hh16, Or.inr ⟨rfl, fun q => he (iff.mpr q)⟩⟩, fun fs hl => c19.trans (X18.ireturnOut hexec hret rfl (Or.inr (Or.inl rfl)) (hb hbytes d55) hl)⟩
    · have c13 : Steps p.tables e below (s₁.setTop (entryFrame m #[.ref x, .ref y] 3)) (T11.setTop (mkF m 55 #[.val (.ref x), .val (.ref y), .val (.ref y)] [.int 0])) := c12.trans (by
        refine XS.icmpYes X11.here hexec rfl (pc0 := 33) rfl (hb hbytes d33) rfl (ii_ne_t hcd) (by decide) rfl ?_
        refine iconstV X11.here hexec rfl 0 (hb hbytes d54) (by decide) ?_
        exact Steps.refl _)
      exact ⟨T11, some (.int 0), _, _, _, X11, rfl, rfl, rfl, (fun h => by cases h), ⟨0, rfl, hh11, Or.inr ⟨rfl, Cod.dif hx.2.2.2.2.1 hy.2.2.2.2.1 hcd⟩⟩, fun fs hl => c13.trans (X11.ireturnOut hexec hret rfl (Or.inr (Or.inl rfl)) (hb hbytes d55) hl)⟩
theorem pays {l : Launch} {R : Room} {p : Program} {e : Env} {below : List Frame} {s : State} {sargs : Array Value} {len W : Nat} (x t : Addr) (V : Cell) (cd : Int32) (n : Nat) (f : Nat → Int32) (y t' : Addr) (V' : Cell) (cd' : Int32) (k : Nat) (g : Nat → Int32) (z : Int32) (htab : tab.before sargs s = true) (hfr : 2 ≤ R.frames) (hlo : W + 28 ≤ R.locals) :
    Back l R p e below s sargs yN len W (fun A₁ a₁ => A₁.cells + 0 ≤ R.cells ∧ A₁.slots + 0 ≤ R.slots ∧ P x t V cd n f y t' V' cd' k g z a₁ A₁.U) (fun A₁ _ v₁ B₁ => Says01 (SameT n f k g) v₁ A₁.U B₁.U ∧ B₁.locs = A₁.locs ++ [] ∧ B₁.cells = A₁.cells + 0 ∧ B₁.slots = A₁.slots + 0) :=
  (law l x t V cd n f y t' V' cd' k g z).pays htab hfr (by omega)
end SEq
end StrChars
namespace StrChars.Road
open Jvm Sem ClassFile Op Lib Jvm.Stand Jvm.Free Jvm.Free.XT
open Jvm.Lib.Cold (StaticIs)
/-- the words of String.equals(Object) -/
abbrev wordsEq : List Jvm.Cond := [.code SEq.yN SEq.yB 3 (some .boolean), .initialized ST, .classLink ST 10 ST, .fieldLink ST 38 ST "COMPACT_STRINGS" "Z", .fieldLink ST 15 ST "coder" "B", .fieldLink ST 9 ST "value" "[B", .methodLink ST 541 LEq.yN, .static LEq.yN, .code LEq.yN LEq.yB 3 (some .boolean), .initialized "java/lang/StringLatin1"]
theorem tabEq_of {a : Array Value} {s : State} (h : ∀ w ∈ wordsEq, w.before a s = true) : SEq.tab.before a s = true := by
  have hl : LEq.tab.before a s = true := unparts (wk h (.code LEq.yN LEq.yB 3 (some .boolean))) (wks h (.initialized LEq.yN.cls :: LEq.site))
  have q := consq hl h
  exact unparts (wk q (.code SEq.yN SEq.yB 3 (some .boolean))) (wks q (.initialized SEq.yN.cls :: SEq.site))
theorem movedEq {Z s : State} {a0 args : Array Value} (hZ : Z.Warmed39 s.vm) (hw : ∀ d ∈ wordsEq, d.before a0 Z = true) : ∀ d ∈ wordsEq, d.before args s = true := fun d hd => by
  have t : ∀ d ∈ wordsEq, (d.onTables && d.keepsFace) = true := by decide +kernel
  exact RoadKit.mv hZ (hw d hd) (t d hd)
/-- the road's facts of a String, as the laws ask it -/
theorem txt_of {Z U : State} {a0 : Array Value} {kI : Nat} (wi : (Jvm.Cond.instantiable ST kI).before a0 Z = true) (al : Z.vm.Alike U.vm) {x t : Addr} {kb : ClassId} {cs : List Int32} {cd N2 : Int32} {vs : List Value} (E : RoadKit.Exa Z U.heap x ST) (V : RoadKit.Fld Z U.heap x ST "value" "[B" (.ref t)) (C : RoadKit.Fld Z U.heap x ST "coder" "B" (.int cd)) (K : RoadKit.Arv Z U.heap t kb .byte N2 vs (.int 0)) (hc : CodA cs cd N2 vs) (hb : ∀ c ∈ cs, ¬ c < 0 ∧ ¬ (65535 : Int32) < c) (l2 : cs.length ≤ 4000) :
    ∃ A, Txt x t A cd cs.length (fun j => cs.getD j 0) U := by
  obtain ⟨A, K1, K2, K3, K4, K5, K6⟩ := K
  have hcod := hc.cod (by omega) K3 K5
  obtain ⟨D, fV, fC, hB, F1, F2, g1, g2, -, -⟩ := strObj wi al E V C
  exact ⟨A, ⟨_, hB.2.2.1, D, hB.1, rfl, by cases q : D.vm <;> first | rfl | exact absurd q (hB.2.1.2 _)⟩, Has.of hB F1 g1, Has.of hB F2 g2, ⟨K1.1, State.isArrayOf_alike al K1.2.1, K1.2.2, by rcases hcod with ⟨-, q, -⟩ | ⟨-, q, -⟩ <;> omega⟩, hcod, fun j hj => by
    have e : cs.getD j 0 = cs[j] := by simp [List.getD_eq_getElem?_getD, hj]
    show ¬ cs.getD j 0 < 0 ∧ ¬ 65535 < cs.getD j 0
    rw [e]; exact hb _ (List.getElem_mem _)⟩
theorem same_list (cs ds : List Int32) : SameT cs.length (fun j => cs.getD j 0) ds.length (fun j => ds.getD j 0) ↔ cs = ds := by
  constructor
  · rintro ⟨e, q⟩
    refine List.ext_getElem e fun j h1 h2 => ?_
    have := q j h1
    simpa [List.getD_eq_getElem?_getD, h1, h2] using this
  · rintro rfl
    exact ⟨rfl, fun _ _ => rfl⟩
/-- **equals(Object) OF TWO SUCH STRINGS**: 1 just where the chars are the same -/
theorem eqW {p : Program} {l : Launch} {e : Env} {R : Room} {s : State} {args : Array Value} {below : List Frame} {len W : Nat} {Z : State} {a0 : Array Value} {h : Heap} (hZ : Z.Warmed39 s.vm) (hw : ∀ d ∈ wordsEq, d.before a0 Z = true) {kI : Nat} (wi : (Jvm.Cond.instantiable ST kI).before a0 Z = true)
    {x t : Addr} {kb : ClassId} {cs : List Int32} {cd N2 : Int32} {vs : List Value} (E : RoadKit.Exa Z h x ST) (V : RoadKit.Fld Z h x ST "value" "[B" (.ref t)) (C : RoadKit.Fld Z h x ST "coder" "B" (.int cd)) (K : RoadKit.Arv Z h t kb .byte N2 vs (.int 0)) (hc : CodA cs cd N2 vs) (hb : ∀ c ∈ cs, ¬ c < 0 ∧ ¬ (65535 : Int32) < c) (l2 : cs.length ≤ 4000)
    {y t' : Addr} {kb' : ClassId} {ds : List Int32} {cd' N2' : Int32} {vs' : List Value} (E' : RoadKit.Exa Z h y ST) (V' : RoadKit.Fld Z h y ST "value" "[B" (.ref t')) (C' : RoadKit.Fld Z h y ST "coder" "B" (.int cd')) (K' : RoadKit.Arv Z h t' kb' .byte N2' vs' (.int 0)) (hc' : CodA ds cd' N2' vs') (hb' : ∀ c ∈ ds, ¬ c < 0 ∧ ¬ (65535 : Int32) < c) (l2' : ds.length ≤ 4000)
    {z : Int32} (S : RoadKit.Sta Z h ST "COMPACT_STRINGS" "Z" (.int z)) (hz : ¬ z = 0) (hfr : 2 ≤ R.frames) (hlo : W + 28 ≤ R.locals) :
    Back l R p e below s args (⟨"java/lang/String", "equals", "(Ljava/lang/Object;)Z"⟩ : MethodName) len W (fun P a => a = #[.ref x, .ref y] ∧ P.U.heap = h ∧ P.cells + 0 ≤ R.cells ∧ P.slots + 0 ≤ R.slots)
      (fun P _ v B => ∃ L, (((v = some (.int 1) ∧ cs = ds) ∨ (v = some (.int 0) ∧ ¬ cs = ds)) ∧ L = [] ∧ B.U.heap = h) ∧ B.locs = P.locs ++ L ∧ B.cells = P.cells + 0 ∧ B.slots = P.slots + 0) := by
  intro m meth c P g ig mk a X hg hsize hdg hW hn hp'
  obtain ⟨rfl, rfl, r1, r2⟩ := hp'
  have al : Z.vm.Alike P.U.vm := hZ.alike.trans X.warmed.alike
  obtain ⟨A, hx⟩ := txt_of wi al E V C K hc hb l2
  obtain ⟨A', hy⟩ := txt_of wi al E' V' C' K' hc' hb' l2'
  obtain ⟨v, B, X', ⟨⟨w, hv, hh, hq⟩, hl, hk, hs⟩, st⟩ := SEq.pays x t A cd cs.length (fun j => cs.getD j 0) y t' A' cd' ds.length (fun j => ds.getD j 0) z (tabEq_of (movedEq hZ hw)) hfr hlo m meth c P g ig mk _ X hg hsize hdg hW hn ⟨r1, r2, rfl, hx, hy, sta_is al S, hz⟩
  refine ⟨v, B, X', ⟨[], ⟨?_, rfl, hh⟩, hl, hk, hs⟩, st⟩
  rcases hq with ⟨rfl, q⟩ | ⟨rfl, q⟩
  · exact Or.inl ⟨hv, (same_list cs ds).mp q⟩
  · exact Or.inr ⟨hv, fun e => q ((same_list cs ds).mpr e)⟩
end StrChars.Road
namespace StrChars
open Jvm Sem ClassFile Op Lib Jvm.Stand Jvm.Free.XT Jvm.Free.ALB Jvm.Free.JM Jvm.Free
open Jvm.Lib.Cold (StaticIs)
namespace ChN
def yN : MethodName := ⟨"java/lang/String", "charAt", "(I)C"⟩
abbrev yB : ByteArray := jdk_42_method_56_code
theorem d0 : decode yB 0 = .ok (.aload_n 0, 1) := by decide +kernel
theorem d1 : decode yB 1 = .ok (.invokevirtual 492, 3) := by decide +kernel
theorem d4 : decode yB 4 = .ok (.ifCond (.eq) 12, 3) := by decide +kernel
theorem d7 : decode yB 7 = .ok (.aload_n 0, 1) := by decide +kernel
theorem d8 : decode yB 8 = .ok (.getfield 9, 3) := by decide +kernel
theorem d11 : decode yB 11 = .ok (.iload_n 1, 1) := by decide +kernel
theorem d12 : decode yB 12 = .ok (.invokestatic 495, 3) := by decide +kernel
theorem d15 : decode yB 15 = .ok (.ireturn, 1) := by decide +kernel
def site : List Cond := [.fieldLink "java/lang/String" 9 "java/lang/String" "value" "[B", IsL.tab, LChA.tab] ++ virtW "java/lang/String" 492 "java/lang/String" IsL.yN IsL.yN ++ staticW "java/lang/String" 495 LChA.yN
def tab : Cond := tabOf yN yB 2 (some .char) site
def P (x t : Addr) (V : Cell) (n : Nat) (f : Nat → Int32) (z : Int32) (fm : Value) (i : Nat) (args : Array Value) (s : State) : Prop := args = #[.ref x, .int (Int32.ofNat i)] ∧ Txt x t V 0 n f s ∧ i < n ∧ StaticIs s "java/lang/String" "COMPACT_STRINGS" "Z" (.int z) ∧ ¬ z = 0 ∧ StaticIs s "jdk/internal/util/Preconditions" "SIOOBE_FORMATTER" "Ljava/util/function/BiFunction;" fm ∧ fm.isRef = true
def E (f : Nat → Int32) (i : Nat) (r : Option Value) (s u : State) : Prop := XT.PureE (some (.int (f i))) r s u
/-- charAt(i) of a Latin-1 String of n chars, i < n: f i -/
theorem law (l : Launch) (x t : Addr) (V : Cell) (n : Nat) (f : Nat → Int32) (z : Int32) (fm : Value) (i : Nat) : Law l yN 2 1 3 40 yB 2 (some .char) site (P x t V n f z fm i) (E f i) [] 0 0 := by
  refine Law.of_walk (plainFor_of_name (by decide +kernel)) (by decide +kernel) (by decide +kernel) (by decide) (fun _ _ h => by rw [h.1]; rfl) (fun _ U U' hal hh h => ⟨h.1, h.2.1.mv hal hh, h.2.2.1, h.2.2.2.1.there hal hh, h.2.2.2.2.1, h.2.2.2.2.2.1.there hal hh, h.2.2.2.2.2.2⟩) (fun r U U' V V' h1 hal h2 h => XT.PureE.mv r U U' V V' h1 hal h2 h) ?_
  intro p e s m args below meth c s₁ X0 hexec hbytes hml hret hlk hnm hown hh0 W hP
  obtain ⟨rfl, hx, hi, s1, hz, s3, rf⟩ := hP
  have v31 := hx.2.2.2.1.2.2.2
  have hr := hx.2.2.2.2.2 i hi
  have hx0 := hx.mv X0.warmed.alike hh0
  have c1 : Steps p.tables e below (s₁.setTop (entryFrame m #[.ref x, .int (Int32.ofNat i)] 2)) (s₁.setTop (mkF m 1 #[.val (.ref x), .val (.int (Int32.ofNat i))] [.ref x])) := Steps.trans (entry rfl) (by
    show Steps p.tables e below (s₁.setTop (mkF m 0 #[.val (.ref x), .val (.int (Int32.ofNat i))] [])) _
    refine XS.aloadN X0.here hexec rfl (hb hbytes d0) rfl rfl ?_
    exact Steps.refl _)
  obtain ⟨v2, T2, X2, E2, g2⟩ := X0.callV hexec (IsL.law l x 0 z) hown (wks W (virtW "java/lang/String" 492 "java/lang/String" IsL.yN IsL.yN)) rfl (by decide) (wk W IsL.tab) (W := 0) (Nat.le_of_ble_eq_true rfl) (Nat.le_of_ble_eq_true rfl) (Nat.le_refl _) (Nat.le_refl _) (hx0.1.fc X0.warmed.alike) hx0.1.is (g := (mkF m 1 #[.val (.ref x), .val (.int (Int32.ofNat i))] [.ref x])) rfl (by rw [hml]; rfl) c1 (argsL := []) (rest := []) rfl rfl (by show 2 * 0 + 0 ≤ _; decide) (hb hbytes d1) (⟨rfl, hx0.2.2.1, hx.2.2.2.2.1.cd, s1.there X0.warmed.alike hh0, hz⟩)
  obtain ⟨rfl, q2⟩ := E2
  have hh2 := q2.trans hh0
  have hx2 := hx.mv X2.warmed.alike hh2
  obtain ⟨-, k1, k2⟩ | ⟨k0, -⟩ := hx.2.2.2.2.1
  · have c3 : Steps p.tables e below (s₁.setTop (entryFrame m #[.ref x, .int (Int32.ofNat i)] 2)) (T2.setTop (mkF m 8 #[.val (.ref x), .val (.int (Int32.ofNat i))] [.ref x])) := Steps.trans g2 (by
      refine XS.ifNo X2.here hexec rfl (hb hbytes d4) rfl (i0_eq_f (by decide)) ?_
      refine XS.aloadN X2.here hexec rfl (hb hbytes d7) rfl rfl ?_
      exact Steps.refl _)
    obtain ⟨T4, X4, q4, st4⟩ := X2.hget hexec hown (wk W (.fieldLink "java/lang/String" 9 "java/lang/String" "value" "[B")) hx2.2.1 (g := (mkF m 8 #[.val (.ref x), .val (.int (Int32.ofNat i))] [.ref x])) rfl (rest := []) rfl (hb hbytes d8)
    have hh4 := q4.trans hh2
    have c5 : Steps p.tables e below (s₁.setTop (entryFrame m #[.ref x, .int (Int32.ofNat i)] 2)) (T4.setTop (mkF m 12 #[.val (.ref x), .val (.int (Int32.ofNat i))] [.int (Int32.ofNat i), .ref t])) := (c3.trans (st4 _ (Steps.refl _))).trans (by
      refine XS.iloadN X4.here hexec rfl (hb hbytes d11) rfl ?_
      exact Steps.refl _)
    obtain ⟨v6, T6, X6, E6, g6⟩ := X4.callS hexec (LChA.law l t V i (lo8 (f i)) fm) hown (wks W (staticW "java/lang/String" 495 LChA.yN)) (wk W LChA.tab) (W := 0) (Nat.le_of_ble_eq_true rfl) (Nat.le_of_ble_eq_true rfl) (Nat.le_refl _) (Nat.le_refl _) (g := (mkF m 12 #[.val (.ref x), .val (.int (Int32.ofNat i))] [.int (Int32.ofNat i), .ref t])) rfl (by rw [hml]; rfl) c5 (argsL := [.ref t, .int (Int32.ofNat i)]) (rest := []) rfl rfl (by show 2 * 0 + 0 ≤ _; decide) (hb hbytes d12) (⟨rfl, hx.2.2.2.1.mv X4.warmed.alike hh4, (k2 i hi).1, s3.there X4.warmed.alike hh4, rf⟩)
    obtain ⟨rfl, q6⟩ := E6
    rw [chr8_lo8 hr.1 (k2 i hi).2] at g6
    exact ⟨T6, some (.int (f i)), _, _, _, X6, rfl, rfl, rfl, (fun h => by cases h), ⟨rfl, q6.trans hh4⟩, fun fs hl => Steps.trans g6 (X6.ireturnOut hexec hret (narrow_ch hr.1 hr.2) (Or.inr (Or.inr (Or.inr (Or.inl rfl)))) (hb hbytes d15) hl)⟩
  · exact absurd k0 (by decide)
theorem pays {l : Launch} {R : Room} {p : Program} {e : Env} {below : List Frame} {s : State} {sargs : Array Value} {len W : Nat} (x t : Addr) (V : Cell) (n : Nat) (f : Nat → Int32) (z : Int32) (fm : Value) (i : Nat) (htab : tab.before sargs s = true) (hfr : 4 ≤ R.frames) (hlo : W + 53 ≤ R.locals) :
    Back l R p e below s sargs yN len W (fun A₁ a₁ => A₁.cells + 0 ≤ R.cells ∧ A₁.slots + 0 ≤ R.slots ∧ P x t V n f z fm i a₁ A₁.U) (fun A₁ _ v₁ B₁ => E f i v₁ A₁.U B₁.U ∧ B₁.locs = A₁.locs ++ [] ∧ B₁.cells = A₁.cells + 0 ∧ B₁.slots = A₁.slots + 0) :=
  (law l x t V n f z fm i).pays htab hfr (by omega)
end ChN
end StrChars
namespace StrChars.Road
open Jvm Sem ClassFile Op Lib Jvm.Stand Jvm.Free Jvm.Free.XT
open Jvm.Lib.Cold (StaticIs)
/-- the words of String.charAt(int), the Latin-1 road alone -/
abbrev wordsChN : List Jvm.Cond := [.code ChN.yN ChN.yB 2 (some .char), .initialized ST, .fieldLink ST 9 ST "value" "[B", .fieldLink ST 38 ST "COMPACT_STRINGS" "Z", .fieldLink ST 15 ST "coder" "B", .code IsL.yN IsL.yB 1 (some .boolean), .methodLink ST 492 IsL.yN, .declares IsL.yN, .selects ST IsL.yN IsL.yN, .instanceMethod IsL.yN,
  .methodLink ST 495 LChA.yN, .static LChA.yN, .code LChA.yN LChA.yB 2 (some .char), .initialized "java/lang/StringLatin1", .methodLink "java/lang/StringLatin1" 9 JO.Str_checkIndex.yN, .static JO.Str_checkIndex.yN, .code JO.Str_checkIndex.yN JO.Str_checkIndex.yB 2 none,
  .fieldLink ST 1053 "jdk/internal/util/Preconditions" "SIOOBE_FORMATTER" "Ljava/util/function/BiFunction;", .methodLink ST 1059 JC.PreCheck.yN, .static JC.PreCheck.yN, .code JC.PreCheck.yN JC.PreCheck.yB 3 (some .int), .initialized "jdk/internal/util/Preconditions"]
theorem tabChN_of {a : Array Value} {s : State} (h : ∀ w ∈ wordsChN, w.before a s = true) : ChN.tab.before a s = true := by
  have hp : JC.PreCheck.tab.before a s = true := unparts (wk h (.code JC.PreCheck.yN JC.PreCheck.yB 3 (some .int))) (wks h (.initialized JC.PreCheck.yN.cls :: JC.PreCheck.site))
  have qk := consq hp h
  have hk : JO.Str_checkIndex.tab.before a s = true := unparts (wk qk (.code JO.Str_checkIndex.yN JO.Str_checkIndex.yB 2 none)) (wks qk (.initialized JO.Str_checkIndex.yN.cls :: JO.Str_checkIndex.site))
  have ql := consq hk h
  have hl : LChA.tab.before a s = true := unparts (wk ql (.code LChA.yN LChA.yB 2 (some .char))) (wks ql (.initialized LChA.yN.cls :: LChA.site))
  have hi : IsL.tab.before a s = true := unparts (wk h (.code IsL.yN IsL.yB 1 (some .boolean))) (wks h (.initialized IsL.yN.cls :: IsL.site))
  have q := consq hi (consq hl h)
  exact unparts (wk q (.code ChN.yN ChN.yB 2 (some .char))) (wks q (.initialized ChN.yN.cls :: ChN.site))
theorem movedChN {Z s : State} {a0 args : Array Value} (hZ : Z.Warmed39 s.vm) (hw : ∀ d ∈ wordsChN, d.before a0 Z = true) : ∀ d ∈ wordsChN, d.before args s = true := fun d hd => by
  have t : ∀ d ∈ wordsChN, (d.onTables && d.keepsFace) = true := by decide +kernel
  exact RoadKit.mv hZ (hw d hd) (t d hd)
/-- **charAt(i) OF A LATIN-1 STRING**, i < n: the char -/
theorem chN {p : Program} {l : Launch} {e : Env} {R : Room} {s : State} {args : Array Value} {below : List Frame} {len W : Nat} {Z : State} {a0 : Array Value} {h : Heap} (hZ : Z.Warmed39 s.vm) (hw : ∀ d ∈ wordsChN, d.before a0 Z = true) {kI : Nat} (wi : (Jvm.Cond.instantiable ST kI).before a0 Z = true)
    {x t : Addr} {kb : ClassId} {cs : List Int32} {N2 z : Int32} {vs : List Value} {fm : Value} {i : Nat} {j : Int32} (E : RoadKit.Exa Z h x ST) (V : RoadKit.Fld Z h x ST "value" "[B" (.ref t)) (C : RoadKit.Fld Z h x ST "coder" "B" (.int 0)) (K : RoadKit.Arv Z h t kb .byte N2 vs (.int 0)) (hc : CodA cs 0 N2 vs) (hb : ∀ c ∈ cs, ¬ c < 0 ∧ ¬ (65535 : Int32) < c)
    (S : RoadKit.Sta Z h ST "COMPACT_STRINGS" "Z" (.int z)) (hz : ¬ z = 0) (F : RoadKit.Sta Z h "jdk/internal/util/Preconditions" "SIOOBE_FORMATTER" "Ljava/util/function/BiFunction;" fm) (rf : fm.isRef = true) (l2 : cs.length ≤ 4000) (hi : i < cs.length) (hj : j = Int32.ofNat i) (hfr : 4 ≤ R.frames) (hlo : W + 53 ≤ R.locals) :
    Back l R p e below s args (⟨"java/lang/String", "charAt", "(I)C"⟩ : MethodName) len W (fun P a => a = #[.ref x, .int j] ∧ P.U.heap = h ∧ P.cells + 0 ≤ R.cells ∧ P.slots + 0 ≤ R.slots)
      (fun P _ v B => ∃ L, (v = some (.int (cs.getD i 0)) ∧ L = [] ∧ B.U.heap = h) ∧ B.locs = P.locs ++ L ∧ B.cells = P.cells + 0 ∧ B.slots = P.slots + 0) := by
  subst hj
  intro m meth c P g ig mk a X hg hsize hdg hW hn hp'
  obtain ⟨rfl, rfl, r1, r2⟩ := hp'
  have al : Z.vm.Alike P.U.vm := hZ.alike.trans X.warmed.alike
  obtain ⟨A, hx⟩ := txt_of wi al E V C K hc hb l2
  obtain ⟨v, B, X', ⟨⟨hv, hh⟩, hl, hk, hs⟩, st⟩ := ChN.pays x t A cs.length (fun j => cs.getD j 0) z fm i (tabChN_of (movedChN hZ hw)) hfr hlo m meth c P g ig mk _ X hg hsize hdg hW hn ⟨r1, r2, rfl, hx, hi, sta_is al S, hz, sta_is al F, rf⟩
  exact ⟨v, B, X', ⟨[], ⟨hv, rfl, hh⟩, hl, hk, hs⟩, st⟩
/-- what backV says of its String, as the contracts of this text ask it: cs's low bytes, coder 0 -/
theorem codOf {cs : List Int32} {n : Nat} (hn : cs.length = n) (hb : ∀ c ∈ cs, ¬ 255 < c) : CodA cs 0 (Int32.ofNat n) ((cs.map lo8).map Value.int) := Or.inl ⟨rfl, by rw [hn], by simp [List.map_map, Function.comp_def], hb⟩
end StrChars.Road
end Jvm.Pilot.@@N@@

namespace Jvm.Pilot.@@N@@
open Jvm Jvm.ClassFile Sem Op Lib Jvm.Free Jvm.Stand Jvm.LawKit Jvm.RoadKit Bundle Jvm.Pilot.@@N@@.Jvm.D
theorem ow {Z : State} {a0 : Array Value} (hw : ∀ d ∈ tables_1, d.before a0 Z = true) (i : Nat) {d : Jvm.Cond} (h : tables_1[i]? = some d) : d.before a0 Z = true := hw _ (List.mem_of_getElem? h)
theorem own_irr {x : Int32} : ¬ x < x := fun h => Int.lt_irrefl _ (Int32.lt_iff_toInt_lt.mp h)
theorem own_neA {Z : State} {h : Heap} {a b : Addr} {k k' : ClassId} {ty ty' : FieldType} {z z' : Int32} {vs vs' : List Value} {d d' : Value} (A : Arv Z h a k ty z vs d) (B : Arv Z h b k' ty' z' vs' d') (hn : ty ≠ ty') : a ≠ b := fun q => by
  subst q
  obtain ⟨c1, ⟨e1, hA, -⟩, -⟩ := A
  obtain ⟨c2, ⟨e2, hB, -⟩, -⟩ := B
  cases e1.symm.trans e2
  obtain ⟨-, k1, g1, comp, hk⟩ := hA
  obtain ⟨-, k2, g2, comp', hk'⟩ := hB
  cases g1.symm.trans g2
  rw [hk] at hk'
  injection hk' with h1 h2
  exact hn h2
section Own
variable {p : Program} {l : Launch} {e : Env} {R : Room} {s : State} {m : MethodId} {args : Array Value} {below : List Frame} {meth : Method} {c : Code} {T : State} {locs : List Loc} {cells slots : Nat} {Z : State} {a0 : Array Value} {h : Heap} {vm0 : Vm} {EL : List (String × Nat)}
/-! own layer: contracts in CPS form. G is the goal at a state; go takes steps backwards, fin ends the walk. -/
def own_MetN (l : Launch) (Z : State) (y : MethodName) (bytes : ByteArray) (maxL : Nat) (ret : Option FieldType) (ws : List Jvm.Cond) (rm : Room) (as' : Array Value) (h0 : Heap) (Q : Option Value → Heap → List Loc → Prop) : Prop :=
  MetFree l y (head1 (Jvm.Cond.code y bytes maxL ret :: ws) rm) (fun a U => a = as' ∧ Z.Warmed39 U.vm ∧ U.heap = h0) (fun _ _ _ _ _ => True) (fun _ U o U' => ∃ v L, o = .returned v ∧ Q v U'.heap L ∧ FrameEnd U o U' L rm.cells rm.slots)
def own_MetH (l : Launch) (Z : State) (EL : List (String × Nat)) (y : MethodName) (bytes : ByteArray) (maxL : Nat) (ret : Option FieldType) (ws : List Jvm.Cond) (rm : Room) (as' : Array Value) (h0 : Heap) (Q : Option Value → Heap → List Loc → Prop) : Prop :=
  MetFree l y (head1 (Jvm.Cond.code y bytes maxL ret :: ws) rm) (fun a U => a = as' ∧ Z.Warmed39 U.vm ∧ U.heap = h0 ∧ CHv Z EL U.vm h0) (fun _ _ _ _ _ => True) (fun _ U o U' => ∃ v L, o = .returned v ∧ Q v U'.heap L ∧ CHr Z EL U.vm U.heap U'.vm U'.heap ∧ ReturnedEndW U o U' L rm.cells rm.slots)
def own_Go (p : Program) (e : Env) (below : List Frame) (G : State → Prop) : Prop := ∀ A B, (∀ t, Steps p.tables e below B t → Steps p.tables e below A t) → G B → G A
def own_Ret (p : Program) (e : Env) (below : List Frame) (m : MethodId) (T : State) (v : Option Value) (g : JFrame) : Prop :=
  ∀ fs, (∀ (f : JFrame) (acts : List Action), f.method = m → f.locked = none → f.entered = [] → (doReturn e (T.setTop f) acts v).1 = T.setFrames fs) → Steps p.tables e below (T.setTop g) (T.setFrames fs)
theorem own_metN {y : MethodName} {bytes : ByteArray} {maxL : Nat} {ret : Option FieldType} {ws : List Jvm.Cond} {rm : Room} {as' : Array Value} {h0 : Heap} {Q : Option Value → Heap → List Loc → Prop} (pn : plainFor y = true)
    (K : ∀ (p : Program) (e : Env) (s : State) (m : MethodId) (below : List Frame) (meth : Method) (c : Code) (s₁ : State) (G : State → Prop), p.tables.exec = Jvm.exec → c.code = bytes → c.maxLocals = maxL → Z.Warmed39 s.vm → s.vm.findClass y.cls = some m.cls → meth.name = y.name → meth.sig.returnType = ret →
      Stand p l e rm s m as' below meth c s₁ [] 0 0 → s₁.heap = h0 → own_Go p e below G →
      (∀ (T : State) (L : List Loc) (cells slots : Nat) (v : Option Value), Stand p l e rm s m as' below meth c T L cells slots → (ret = none → v = none) → cells ≤ rm.cells → slots ≤ rm.slots → Q v T.heap L → ∀ g : JFrame, own_Ret p e below m T v g → G (T.setTop g)) →
      G (s₁.setTop (entryFrame m as' maxL))) :
    own_MetN l Z y bytes maxL ret ws rm as' h0 Q := by
  refine MetFree.of_bodySF pn hisR ?_
  intro p e s m args below meth c s₁ Bd hml0 hP hK
  obtain ⟨rfl, hZ, hh⟩ := hP
  refine K p e s m below meth c s₁ (fun A => ∃ s₂ o, Steps p.tables e below A s₂ ∧ s₂.status = .running ∧ Ended s₂ below o ∧ ∃ v L, o = .returned v ∧ Q v s₂.heap L ∧ FrameEnd s o s₂ L rm.cells rm.slots) Bd.exec Bd.bytes hml0 hZ (findClass_of_methodNamed Bd.named) (name_of_methodNamed Bd.named Bd.method).1 Bd.returns (Stand.of_body Bd) (by rw [← hh, Bd.state]; rfl) ?_ ?_
  · rintro A B st ⟨s₂, o, h1, h2⟩; exact ⟨s₂, o, st _ h1, h2⟩
  · intro T L cells slots v X hv hc hs hq g hg
    obtain ⟨fs, hr, hrun, hended, hW, hsame⟩ := X.leave (v := v) (fun q => hv (Bd.returns.symm.trans q))
    exact ⟨_, _, hg fs hr, hrun, hended, _, _, rfl, hq, ⟨_, rfl⟩, hW, hsame.mono hc hs⟩
theorem own_metH {y : MethodName} {bytes : ByteArray} {maxL : Nat} {ret : Option FieldType} {ws : List Jvm.Cond} {rm : Room} {as' : Array Value} {h0 : Heap} {Q : Option Value → Heap → List Loc → Prop} (pn : plainFor y = true) (hEL : EW Z a0 EL)
    (K : ∀ (p : Program) (e : Env) (s : State) (m : MethodId) (below : List Frame) (meth : Method) (c : Code) (s₁ : State) (G : State → Prop), p.tables.exec = Jvm.exec → c.code = bytes → c.maxLocals = maxL → Z.Warmed39 s.vm → s.vm.findClass y.cls = some m.cls → meth.name = y.name → meth.sig.returnType = ret →
      Stand p l e rm (s.setVm s.vm) m as' below meth c s₁ [] 0 0 → s₁.heap = h0 → s.Since s.vm h0.size → CHr Z EL s.vm h0 s.vm h0 → own_Go p e below G →
      (∀ (T : State) (L : List Loc) (cells slots : Nat) (v : Option Value) (vm0 : Vm) (k0 : Nat), Stand p l e rm (s.setVm vm0) m as' below meth c T L cells slots → Z.Warmed39 vm0 → s.Since vm0 k0 → k0 ≤ T.heap.size → CHr Z EL s.vm h0 vm0 T.heap → (ret = none → v = none) → cells ≤ rm.cells → slots ≤ rm.slots → Q v T.heap L → ∀ g : JFrame, own_Ret p e below m T v g → G (T.setTop g)) →
      G (s₁.setTop (entryFrame m as' maxL))) :
    own_MetH l Z EL y bytes maxL ret ws rm as' h0 Q := by
  refine MetFree.of_bodySF pn hisR ?_
  intro p e s m args below meth c s₁ Bd hml0 hP hK
  obtain ⟨rfl, hZ, hh, hC⟩ := hP
  refine K p e s m below meth c s₁ (fun A => ∃ s₂ o, Steps p.tables e below A s₂ ∧ s₂.status = .running ∧ Ended s₂ below o ∧ ∃ v L, o = .returned v ∧ Q v s₂.heap L ∧ CHr Z EL s.vm s.heap s₂.vm s₂.heap ∧ ReturnedEndW s o s₂ L rm.cells rm.slots) Bd.exec Bd.bytes hml0 hZ (findClass_of_methodNamed Bd.named) (name_of_methodNamed Bd.named Bd.method).1 Bd.returns (Stand.of_body Bd) (by rw [← hh, Bd.state]; rfl) ((State.WarmedH.refl s).since _) (CHr.refl hC) ?_ ?_
  · rintro A B st ⟨s₂, o, h1, h2⟩; exact ⟨s₂, o, st _ h1, h2⟩
  · intro T L cells slots v vm0 k0 X hZ0 hS hk hR hv hc hs hq g hg
    obtain ⟨fs, hr, hrun, hended, e1, e2, e3, e4⟩ := X.leaveW (v := v) hS hk (fun q => hv (Bd.returns.symm.trans q))
    refine ⟨_, _, hg fs hr, hrun, hended, _, _, rfl, hq, ?_, e1, e2, e3, e4.mono hc hs⟩
    rw [hh]
    show CHr Z EL s.vm h0 T.vm T.heap
    exact hR.trans (CHv.at X hZ0 hEL hR.1)
theorem own_nfS {y y' z' : MethodName} {C' : String} {as' : Array Value} (hc : z'.cls = y.cls) (ws : (Jvm.Cond.selects C' y' z').before as' s = true) : NotFace s y := fun r0 h0 => by
  obtain ⟨c2, r2, m2, -, -, q3, -, kP, hkP, hkPi⟩ := Cond.selects_spec ws
  have f1 := findClass_of_methodNamed h0
  have f2 := findClass_of_methodNamed q3
  rw [hc] at f2
  have e : m2.cls = r0.cls := Option.some.inj (f2.symm.trans f1)
  rw [e] at hkP
  exact ⟨kP, hkP, hkPi⟩
/-! calls: the callee's law in backOf's shape pays -/
theorem own_bkN {y : MethodName} {bytes : ByteArray} {maxL : Nat} {ret : Option FieldType} {rm : Room} {len W : Nat} {as' : Array Value} {Q : Option Value → Heap → List Loc → Prop} (hM : own_MetN l Z y bytes maxL ret [] rm as' h Q)
    (hZ : Z.Warmed39 s.vm) (wc : (Jvm.Cond.code y bytes maxL ret).before a0 Z = true) (wz : (Jvm.Cond.initialized y.cls).before a0 Z = true) (hf : rm.frames + 1 ≤ R.frames) (hl : W + (maxL + 11) + rm.locals ≤ R.locals) :
    Back l R p e below s args y len W (fun A a => a = as' ∧ A.U.heap = h ∧ A.cells + rm.cells ≤ R.cells ∧ A.slots + rm.slots ≤ R.slots) (fun A _ v B => ∃ L, Q v B.U.heap L ∧ B.locs = A.locs ++ L ∧ B.cells = A.cells + rm.cells ∧ B.slots = A.slots + rm.slots) :=
  backOf (Q := Q) hM hZ wc wz hf hl
theorem own_bkH {y : MethodName} {bytes : ByteArray} {maxL : Nat} {ret : Option FieldType} {rm : Room} {len W : Nat} {as' : Array Value} {Q : Option Value → Heap → List Loc → Prop} (hM : own_MetH l Z EL y bytes maxL ret [] rm as' h Q)
    (hZ : Z.Warmed39 vm0) (wc : (Jvm.Cond.code y bytes maxL ret).before a0 Z = true) (wz : (Jvm.Cond.initialized y.cls).before a0 Z = true) (hf : rm.frames + 1 ≤ R.frames) (hl : W + (maxL + 11) + rm.locals ≤ R.locals) (hEL : EW Z a0 EL) (H : CHv Z EL vm0 h) :
    BackS l R p e below (s.setVm vm0) args y len W (fun A a => a = as' ∧ A.U.heap = h ∧ A.cells + rm.cells ≤ R.cells ∧ A.slots + rm.slots ≤ R.slots) (fun A _ v B => ∃ L, Q v B.U.heap L ∧ B.locs = A.locs ++ L ∧ B.cells = A.cells + rm.cells ∧ B.slots = A.slots + rm.slots ∧ CHr Z EL vm0 h B.U.vm B.U.heap) :=
  backOfSH (Q := Q) hM hZ wc wz hf hl hEL H
theorem own_st (X : Stand p l e R s m args below meth c T locs cells slots) (hx : p.tables.exec = Jvm.exec) (hZ : Z.Warmed39 s.vm) {own : String} {index : Nat} {y : MethodName} {bytes : ByteArray} {maxL : Nat} {ret : Option FieldType}
    (hown : s.vm.findClass own = some m.cls) (w1 : (Jvm.Cond.methodLink own index y).before a0 Z = true) (w2 : (Jvm.Cond.static y).before a0 Z = true) (w3 : (Jvm.Cond.initialized y.cls).before a0 Z = true) (w4 : (Jvm.Cond.code y bytes maxL ret).before a0 Z = true)
    (hy : y.cls ≠ "java/lang/invoke/MethodHandle" ∧ y.cls ≠ "java/lang/invoke/VarHandle") {W kc ks : Nat} {as' : Array Value} {Q : Option Value → Heap → List Loc → Prop}
    (hK : Back l R p e below s args y 3 W (fun A a => a = as' ∧ A.U.heap = h ∧ A.cells + kc ≤ R.cells ∧ A.slots + ks ≤ R.slots) (fun A _ v B => ∃ L, Q v B.U.heap L ∧ B.locs = A.locs ++ L ∧ B.cells = A.cells + kc ∧ B.slots = A.slots + ks))
    (eT : T.heap = h) {g : JFrame} (hg : g.method = m) (hsize : g.locals.size = c.maxLocals) {argsL rest : List Value} (ha : argsL.toArray = as') (hlen : ∀ sig, parseMethodDescriptor y.desc = some sig → argsL.length = sig.parameters.length)
    (hstack : g.stack = argsL.reverse ++ rest) (hW : 2 * g.monitorRoom + (rest.map fun v => v.category).sum ≤ W) (hdg : decode c.code g.pc = .ok (.invokestatic index, 3)) (hc : cells + kc ≤ R.cells) (hs : slots + ks ≤ R.slots) :
    ∃ (v : Option Value) (T' : State) (L : List Loc), Stand p l e R s m args below meth c T' (locs ++ L) (cells + kc) (slots + ks) ∧ Q v T'.heap L ∧ ∀ t, Steps p.tables e below (T'.setTop { g with pc := g.pc + 3, stack := v.toList ++ rest }) t → Steps p.tables e below (T.setTop g) t := by
  obtain ⟨v, vm₁, ⟨T', L', k', n'⟩, -, X', ⟨L, hq, hl, hk, hn⟩, st⟩ := Jvm.LawKit.callS X hx hown (mvT hZ w1) (mvT hZ w2) (mvT hZ w3) (mvT hZ w4) hy hK hg hsize hlen hstack hW hdg (fun _ _ => ⟨ha, eT, hc, hs⟩)
  dsimp only [Pt.U, Pt.locs, Pt.cells, Pt.slots] at X' hq hl hk hn st
  subst hl hk hn
  exact ⟨v, T', L, X', hq, st⟩
theorem own_sp (X : Stand p l e R s m args below meth c T locs cells slots) (hx : p.tables.exec = Jvm.exec) (hZ : Z.Warmed39 s.vm) {own : String} {index : Nat} {y : MethodName} {bytes : ByteArray} {maxL : Nat} (hy1 : y.name = "<init>")
    (hown : s.vm.findClass own = some m.cls) (w1 : (Jvm.Cond.methodLink own index y).before a0 Z = true) (w2 : (Jvm.Cond.instanceMethod y).before a0 Z = true) (w4 : (Jvm.Cond.code y bytes maxL none).before a0 Z = true)
    (hy : y.cls ≠ "java/lang/invoke/MethodHandle" ∧ y.cls ≠ "java/lang/invoke/VarHandle") {W kc ks : Nat} {as' : Array Value} {Q : Option Value → Heap → List Loc → Prop}
    (hK : Back l R p e below s args y 3 W (fun A a => a = as' ∧ A.U.heap = h ∧ A.cells + kc ≤ R.cells ∧ A.slots + ks ≤ R.slots) (fun A _ v B => ∃ L, Q v B.U.heap L ∧ B.locs = A.locs ++ L ∧ B.cells = A.cells + kc ∧ B.slots = A.slots + ks))
    (eT : T.heap = h) {g : JFrame} (hg : g.method = m) (hsize : g.locals.size = c.maxLocals) {a : Addr} {argsL rest : List Value} (ha : (.ref a :: argsL).toArray = as') (hlen : ∀ sig, parseMethodDescriptor y.desc = some sig → argsL.length = sig.parameters.length)
    (hstack : g.stack = argsL.reverse ++ .ref a :: rest) (hW : 2 * g.monitorRoom + (rest.map fun v => v.category).sum ≤ W) (hdg : decode c.code g.pc = .ok (.invokespecial index, 3)) (hc : cells + kc ≤ R.cells) (hs : slots + ks ≤ R.slots) :
    ∃ (v : Option Value) (T' : State) (L : List Loc), Stand p l e R s m args below meth c T' (locs ++ L) (cells + kc) (slots + ks) ∧ Q v T'.heap L ∧ ∀ t, Steps p.tables e below (T'.setTop { g with pc := g.pc + 3, stack := v.toList ++ rest }) t → Steps p.tables e below (T.setTop g) t := by
  obtain ⟨v, vm₁, ⟨T', L', k', n'⟩, -, X', ⟨L, hq, hl, hk, hn⟩, st⟩ := X.specialBack hx hy1 hown (mvT hZ w1) (mvT hZ w2) (mvT hZ w4) hy hK hg hsize (Steps.refl _) hlen hstack hW hdg (fun _ _ => ⟨ha, eT, hc, hs⟩)
  dsimp only [Pt.U, Pt.locs, Pt.cells, Pt.slots] at X' hq hl hk hn st
  subst hl hk hn
  exact ⟨v, T', L, X', hq, fun _ k => st.trans k⟩
theorem own_vi (X : Stand p l e R s m args below meth c T locs cells slots) (hx : p.tables.exec = Jvm.exec) (hZ : Z.Warmed39 s.vm) {own C : String} {index : Nat} {y z : MethodName}
    (hown : s.vm.findClass own = some m.cls) (w1 : (Jvm.Cond.methodLink own index y).before a0 Z = true) (w2 : (Jvm.Cond.declares y).before a0 Z = true) (w3 : (Jvm.Cond.selects C y z).before a0 Z = true) (w4 : (Jvm.Cond.instanceMethod z).before a0 Z = true) (hn : z = y ∨ (∃ S, (Jvm.Cond.superclass y.cls S).before a0 Z = true) ∨ (Jvm.Cond.noSuperclass y.cls).before a0 Z = true ∨ ∃ C' y' z', z'.cls = y.cls ∧ (Jvm.Cond.selects C' y' z').before a0 Z = true)
    (hy : y.cls ≠ "java/lang/invoke/MethodHandle" ∧ y.cls ≠ "java/lang/invoke/VarHandle") {W kc ks : Nat} {as' : Array Value} {Q : Option Value → Heap → List Loc → Prop}
    (hK : Back l R p e below s args z 3 W (fun A a => a = as' ∧ A.U.heap = h ∧ A.cells + kc ≤ R.cells ∧ A.slots + ks ≤ R.slots) (fun A _ v B => ∃ L, Q v B.U.heap L ∧ B.locs = A.locs ++ L ∧ B.cells = A.cells + kc ∧ B.slots = A.slots + ks))
    (eT : T.heap = h) {b : Addr} (E : Exa Z h b C) {g : JFrame} (hg : g.method = m) (hsize : g.locals.size = c.maxLocals) {argsL rest : List Value} (ha : (.ref b :: argsL).toArray = as') (hlen : ∀ sig, parseMethodDescriptor y.desc = some sig → argsL.length = sig.parameters.length)
    (hstack : g.stack = argsL.reverse ++ .ref b :: rest) (hW : 2 * g.monitorRoom + (rest.map fun v => v.category).sum ≤ W) (hdg : decode c.code g.pc = .ok (.invokevirtual index, 3)) (hc : cells + kc ≤ R.cells) (hs : slots + ks ≤ R.slots) :
    ∃ (v : Option Value) (T' : State) (L : List Loc), Stand p l e R s m args below meth c T' (locs ++ L) (cells + kc) (slots + ks) ∧ Q v T'.heap L ∧ ∀ t, Steps p.tables e below (T'.setTop { g with pc := g.pc + 3, stack := v.toList ++ rest }) t → Steps p.tables e below (T.setTop g) t := by
  have hnf : NotFace s y := by
    rcases hn with rfl | ⟨S, w⟩ | w | ⟨C', y', z', hc, w⟩
    · exact notFace_of_selects (args := #[]) (mvT hZ w3)
    · exact nf_super (args := #[]) (mvT hZ w)
    · exact nf_top (args := #[]) (mvT hZ w)
    · exact own_nfS hc (mvT (args := #[]) hZ w)
  obtain ⟨cq, kq, qa, qb, qc⟩ := isOf hZ eT E
  obtain ⟨v, vm₁, ⟨T', L', k', n'⟩, -, X', ⟨L, hq, hl, hk, hn⟩, st⟩ := X.virtualBack hx (y := y) (z := z) hown (mvT hZ w1) (mvT hZ w2) hnf (mvT hZ w3) (mvT hZ w4) hy hK qa qc hg hsize (Steps.refl _) hlen hstack hW hdg (fun _ _ => ⟨ha, eT, hc, hs⟩)
  dsimp only [Pt.U, Pt.locs, Pt.cells, Pt.slots] at X' hq hl hk hn st
  subst hl hk hn
  exact ⟨v, T', L, X', hq, fun _ k => st.trans k⟩
/-! .. of a callee that may load String constants: the walk goes on over the tables at hand -/
theorem own_stW (X : Stand p l e R (s.setVm vm0) m args below meth c T locs cells slots) (hx : p.tables.exec = Jvm.exec) (hZ : Z.Warmed39 vm0) {own : String} {index : Nat} {y : MethodName} {bytes : ByteArray} {maxL : Nat} {ret : Option FieldType}
    (hown : vm0.findClass own = some m.cls) (w1 : (Jvm.Cond.methodLink own index y).before a0 Z = true) (w2 : (Jvm.Cond.static y).before a0 Z = true) (w3 : (Jvm.Cond.initialized y.cls).before a0 Z = true) (w4 : (Jvm.Cond.code y bytes maxL ret).before a0 Z = true)
    (hy : y.cls ≠ "java/lang/invoke/MethodHandle" ∧ y.cls ≠ "java/lang/invoke/VarHandle") {W kc ks : Nat} {as' : Array Value} {Q : Option Value → Heap → List Loc → Prop}
    (hK : BackS l R p e below (s.setVm vm0) args y 3 W (fun A a => a = as' ∧ A.U.heap = h ∧ A.cells + kc ≤ R.cells ∧ A.slots + ks ≤ R.slots) (fun A _ v B => ∃ L, Q v B.U.heap L ∧ B.locs = A.locs ++ L ∧ B.cells = A.cells + kc ∧ B.slots = A.slots + ks ∧ CHr Z EL vm0 h B.U.vm B.U.heap))
    (eT : T.heap = h) {k0 : Nat} (hS : s.Since vm0 k0) (hk0 : k0 ≤ h.size) {g : JFrame} (hg : g.method = m) (hsize : g.locals.size = c.maxLocals) {argsL rest : List Value} (ha : argsL.toArray = as') (hlen : ∀ sig, parseMethodDescriptor y.desc = some sig → argsL.length = sig.parameters.length)
    (hstack : g.stack = argsL.reverse ++ rest) (hW : 2 * g.monitorRoom + (rest.map fun v => v.category).sum ≤ W) (hdg : decode c.code g.pc = .ok (.invokestatic index, 3)) (hc : cells + kc ≤ R.cells) (hs : slots + ks ≤ R.slots) :
    ∃ (v : Option Value) (T' : State) (L : List Loc), Stand p l e R (s.setVm T'.vm) m args below meth c T' (locs ++ L) (cells + kc) (slots + ks) ∧ Q v T'.heap L ∧ Z.Warmed39 T'.vm ∧ T'.vm.findClass own = some m.cls ∧ s.Since T'.vm T'.heap.size ∧ CHr Z EL vm0 h T'.vm T'.heap ∧ ∀ t, Steps p.tables e below (T'.setTop { g with pc := g.pc + 3, stack := v.toList ++ rest }) t → Steps p.tables e below (T.setTop g) t := by
  have hZ' : Z.Warmed39 (s.setVm vm0).vm := hZ
  obtain ⟨v, vm₁, ⟨T', L', k', n'⟩, -, X', hS', hg', ⟨L, hq, hl, hk, hn, hC⟩, st⟩ := callSS X hx (own := own) (index := index) hown (mvT hZ' w1) (mvT hZ' w2) (mvT hZ' w3) (mvT hZ' w4) hy hK hg hsize hlen hstack hW hdg (fun _ _ => ⟨ha, eT, hc, hs⟩)
  dsimp only [Pt.U, Pt.locs, Pt.cells, Pt.slots] at X' hS' hg' hq hl hk hn hC st
  subst hl hk hn eT
  obtain ⟨Y, hS2, hZ2, hown2⟩ := rebS hS hk0 X' hS' hg' hZ' hown
  exact ⟨v, T', L, Y, hq, hZ2, hown2, hS2, hC, fun _ k => st.trans k⟩
theorem own_spW (X : Stand p l e R (s.setVm vm0) m args below meth c T locs cells slots) (hx : p.tables.exec = Jvm.exec) (hZ : Z.Warmed39 vm0) {own : String} {index : Nat} {y : MethodName} {bytes : ByteArray} {maxL : Nat} (hy1 : y.name = "<init>")
    (hown : vm0.findClass own = some m.cls) (w1 : (Jvm.Cond.methodLink own index y).before a0 Z = true) (w2 : (Jvm.Cond.instanceMethod y).before a0 Z = true) (w4 : (Jvm.Cond.code y bytes maxL none).before a0 Z = true)
    (hy : y.cls ≠ "java/lang/invoke/MethodHandle" ∧ y.cls ≠ "java/lang/invoke/VarHandle") {W kc ks : Nat} {as' : Array Value} {Q : Option Value → Heap → List Loc → Prop}
    (hK : BackS l R p e below (s.setVm vm0) args y 3 W (fun A a => a = as' ∧ A.U.heap = h ∧ A.cells + kc ≤ R.cells ∧ A.slots + ks ≤ R.slots) (fun A _ v B => ∃ L, Q v B.U.heap L ∧ B.locs = A.locs ++ L ∧ B.cells = A.cells + kc ∧ B.slots = A.slots + ks ∧ CHr Z EL vm0 h B.U.vm B.U.heap))
    (eT : T.heap = h) {k0 : Nat} (hS : s.Since vm0 k0) (hk0 : k0 ≤ h.size) {g : JFrame} (hg : g.method = m) (hsize : g.locals.size = c.maxLocals) {a : Addr} {argsL rest : List Value} (ha : (.ref a :: argsL).toArray = as') (hlen : ∀ sig, parseMethodDescriptor y.desc = some sig → argsL.length = sig.parameters.length)
    (hstack : g.stack = argsL.reverse ++ .ref a :: rest) (hW : 2 * g.monitorRoom + (rest.map fun v => v.category).sum ≤ W) (hdg : decode c.code g.pc = .ok (.invokespecial index, 3)) (hc : cells + kc ≤ R.cells) (hs : slots + ks ≤ R.slots) :
    ∃ (v : Option Value) (T' : State) (L : List Loc), Stand p l e R (s.setVm T'.vm) m args below meth c T' (locs ++ L) (cells + kc) (slots + ks) ∧ Q v T'.heap L ∧ Z.Warmed39 T'.vm ∧ T'.vm.findClass own = some m.cls ∧ s.Since T'.vm T'.heap.size ∧ CHr Z EL vm0 h T'.vm T'.heap ∧ ∀ t, Steps p.tables e below (T'.setTop { g with pc := g.pc + 3, stack := v.toList ++ rest }) t → Steps p.tables e below (T.setTop g) t := by
  have hZ' : Z.Warmed39 (s.setVm vm0).vm := hZ
  obtain ⟨v, vm₁, ⟨T', L', k', n'⟩, -, X', hS', hg', ⟨L, hq, hl, hk, hn, hC⟩, st⟩ := X.specialBackS hx hy1 (own := own) (index := index) hown (mvT hZ' w1) (mvT hZ' w2) (mvT hZ' w4) hy hK hg hsize (Steps.refl _) hlen hstack hW hdg (fun _ _ => ⟨ha, eT, hc, hs⟩)
  dsimp only [Pt.U, Pt.locs, Pt.cells, Pt.slots] at X' hS' hg' hq hl hk hn hC st
  subst hl hk hn eT
  obtain ⟨Y, hS2, hZ2, hown2⟩ := rebS hS hk0 X' hS' hg' hZ' hown
  exact ⟨v, T', L, Y, hq, hZ2, hown2, hS2, hC, fun _ k => st.trans k⟩
theorem own_viW (X : Stand p l e R (s.setVm vm0) m args below meth c T locs cells slots) (hx : p.tables.exec = Jvm.exec) (hZ : Z.Warmed39 vm0) {own C : String} {index : Nat} {y z : MethodName}
    (hown : vm0.findClass own = some m.cls) (w1 : (Jvm.Cond.methodLink own index y).before a0 Z = true) (w2 : (Jvm.Cond.declares y).before a0 Z = true) (w3 : (Jvm.Cond.selects C y z).before a0 Z = true) (w4 : (Jvm.Cond.instanceMethod z).before a0 Z = true) (hn : z = y ∨ (∃ S, (Jvm.Cond.superclass y.cls S).before a0 Z = true) ∨ (Jvm.Cond.noSuperclass y.cls).before a0 Z = true ∨ ∃ C' y' z', z'.cls = y.cls ∧ (Jvm.Cond.selects C' y' z').before a0 Z = true)
    (hy : y.cls ≠ "java/lang/invoke/MethodHandle" ∧ y.cls ≠ "java/lang/invoke/VarHandle") {W kc ks : Nat} {as' : Array Value} {Q : Option Value → Heap → List Loc → Prop}
    (hK : BackS l R p e below (s.setVm vm0) args z 3 W (fun A a => a = as' ∧ A.U.heap = h ∧ A.cells + kc ≤ R.cells ∧ A.slots + ks ≤ R.slots) (fun A _ v B => ∃ L, Q v B.U.heap L ∧ B.locs = A.locs ++ L ∧ B.cells = A.cells + kc ∧ B.slots = A.slots + ks ∧ CHr Z EL vm0 h B.U.vm B.U.heap))
    (eT : T.heap = h) {k0 : Nat} (hS : s.Since vm0 k0) (hk0 : k0 ≤ h.size) {b : Addr} (E : Exa Z h b C) {g : JFrame} (hg : g.method = m) (hsize : g.locals.size = c.maxLocals) {argsL rest : List Value} (ha : (.ref b :: argsL).toArray = as') (hlen : ∀ sig, parseMethodDescriptor y.desc = some sig → argsL.length = sig.parameters.length)
    (hstack : g.stack = argsL.reverse ++ .ref b :: rest) (hW : 2 * g.monitorRoom + (rest.map fun v => v.category).sum ≤ W) (hdg : decode c.code g.pc = .ok (.invokevirtual index, 3)) (hc : cells + kc ≤ R.cells) (hs : slots + ks ≤ R.slots) :
    ∃ (v : Option Value) (T' : State) (L : List Loc), Stand p l e R (s.setVm T'.vm) m args below meth c T' (locs ++ L) (cells + kc) (slots + ks) ∧ Q v T'.heap L ∧ Z.Warmed39 T'.vm ∧ T'.vm.findClass own = some m.cls ∧ s.Since T'.vm T'.heap.size ∧ CHr Z EL vm0 h T'.vm T'.heap ∧ ∀ t, Steps p.tables e below (T'.setTop { g with pc := g.pc + 3, stack := v.toList ++ rest }) t → Steps p.tables e below (T.setTop g) t := by
  have hZ' : Z.Warmed39 (s.setVm vm0).vm := hZ
  have hnf : NotFace (s.setVm vm0) y := by
    rcases hn with rfl | ⟨S, w⟩ | w | ⟨C', y', z', hc, w⟩
    · exact notFace_of_selects (args := #[]) (mvT hZ' w3)
    · exact nf_super (args := #[]) (mvT hZ' w)
    · exact nf_top (args := #[]) (mvT hZ' w)
    · exact own_nfS hc (mvT (args := #[]) hZ' w)
  obtain ⟨cq, kq, qa, qb, qc⟩ := isOf hZ' eT E
  obtain ⟨v, vm₁, ⟨T', L', k', n'⟩, -, X', hS', hg', ⟨L, hq, hl, hk, hn, hC⟩, st⟩ := X.virtualBackS hx (y := y) (z := z) (own := own) (index := index) hown (mvT hZ' w1) (mvT hZ' w2) hnf (mvT hZ' w3) (mvT hZ' w4) hy hK qa qc hg hsize (Steps.refl _) hlen hstack hW hdg (fun _ _ => ⟨ha, eT, hc, hs⟩)
  dsimp only [Pt.U, Pt.locs, Pt.cells, Pt.slots] at X' hS' hg' hq hl hk hn hC st
  subst hl hk hn eT
  obtain ⟨Y, hS2, hZ2, hown2⟩ := rebS hS hk0 X' hS' hg' hZ' hown
  exact ⟨v, T', L, Y, hq, hZ2, hown2, hS2, hC, fun _ k => st.trans k⟩
theorem own_catR {a : Addr} : (Value.ref a).category = 1 := rfl
theorem own_catI {a : Int32} : (Value.int a).category = 1 := rfl
theorem own_catN : Value.null.category = 1 := rfl
theorem own_catJ {a : Int64} : (Value.long a).category = 2 := rfl
theorem own_cat {v : Value} (hv : v.isRef = true) : v.category = 1 := by rcases ref_cases hv with rfl | ⟨a, rfl⟩ <;> rfl
theorem own_narR {v : Value} {C : String} : narrow (.object C) v = v := by cases v <;> rfl
theorem own_fitR {v : Value} {C : String} (hv : v.isRef = true) : fits (.object C) v = true := by rcases ref_cases hv with rfl | ⟨a, rfl⟩ <;> rfl
theorem own_retA (X : Stand p l e R s m args below meth c T locs cells slots) (hx : p.tables.exec = Jvm.exec) {pc : Nat} {Ls : Array Slot} {w : Value} {t : FieldType} {rest : List Value} (hret : meth.sig.returnType = some t) (ht : t.isReference = true) (hw : w.isRef = true) (hn : narrow t w = w) (hd : decode c.code pc = .ok (.areturn, 1)) :
    own_Ret p e below m T (some w) (mkF m pc Ls (w :: rest)) := fun _ hl => retOut X hx hret hn (Or.inr (Or.inr (Or.inr (Or.inr ⟨rfl, ht, hw⟩)))) hd hl
theorem own_retI (X : Stand p l e R s m args below meth c T locs cells slots) (hx : p.tables.exec = Jvm.exec) {pc : Nat} {Ls : Array Slot} {z : Int32} {rest : List Value} (hret : meth.sig.returnType = some .int) (hd : decode c.code pc = .ok (.ireturn, 1)) :
    own_Ret p e below m T (some (.int z)) (mkF m pc Ls (.int z :: rest)) := fun _ hl => retOut X hx hret rfl (Or.inl ⟨rfl, Or.inl rfl, z, rfl⟩) hd hl
theorem own_retN (X : Stand p l e R s m args below meth c T locs cells slots) (hx : p.tables.exec = Jvm.exec) {pc : Nat} {Ls : Array Slot} {z : Int32} {t : FieldType} {rest : List Value} (hret : meth.sig.returnType = some t) (ht : t = .boolean ∨ t = .byte ∨ t = .char ∨ t = .short) (hd : decode c.code pc = .ok (.ireturn, 1)) :
    own_Ret p e below m T (some (.int (nar t z))) (mkF m pc Ls (.int z :: rest)) := fun _ hl => retN X hx hret ht hd hl
theorem own_retV (X : Stand p l e R s m args below meth c T locs cells slots) (hx : p.tables.exec = Jvm.exec) {pc : Nat} {Ls : Array Slot} (hret : meth.sig.returnType = none) (hd : decode c.code pc = .ok (.return_, 1)) :
    own_Ret p e below m T none (mkF m pc Ls []) := fun _ hl => X.returnOut hx hret hd hl
theorem own_in (X : Stand p l e R s m args below meth c T locs cells slots) (hx : p.tables.exec = Jvm.exec) (hZ : Z.Warmed39 s.vm) {own C : String} {index count : Nat} {xi y : MethodName}
    (hown : s.vm.findClass own = some m.cls) (w1 : (Jvm.Cond.methodLink own index xi).before a0 Z = true) (w2 : (Jvm.Cond.declares xi).before a0 Z = true) (w3 : (Jvm.Cond.interfaceMethod xi.cls xi.cls xi.name xi.desc).before a0 Z = true) (w4 : (Jvm.Cond.selects C xi y).before a0 Z = true) (w5 : (Jvm.Cond.instanceMethod y).before a0 Z = true)
    (w6 : (Jvm.Cond.publicMethod y).before a0 Z = true) (w7 : (Jvm.Cond.unhidden C xi.name xi.desc).before a0 Z = true) (w8 : (Jvm.Cond.castable C xi.cls).before a0 Z = true)
    (hy : xi.cls ≠ "java/lang/invoke/MethodHandle" ∧ xi.cls ≠ "java/lang/invoke/VarHandle") {W kc ks : Nat} {as' : Array Value} {Q : Option Value → Heap → List Loc → Prop}
    (hK : Back l R p e below s args y 5 W (fun A a => a = as' ∧ A.U.heap = h ∧ A.cells + kc ≤ R.cells ∧ A.slots + ks ≤ R.slots) (fun A _ v B => ∃ L, Q v B.U.heap L ∧ B.locs = A.locs ++ L ∧ B.cells = A.cells + kc ∧ B.slots = A.slots + ks))
    (eT : T.heap = h) {b : Addr} (E : Exa Z h b C) {g : JFrame} (hg : g.method = m) (hsize : g.locals.size = c.maxLocals) {argsL rest : List Value} (ha : (.ref b :: argsL).toArray = as') (hlen : ∀ sig, parseMethodDescriptor xi.desc = some sig → argsL.length = sig.parameters.length)
    (hstack : g.stack = argsL.reverse ++ .ref b :: rest) (hW : 2 * g.monitorRoom + (rest.map fun v => v.category).sum ≤ W) (hdg : decode c.code g.pc = .ok (.invokeinterface index count, 5)) (hc : cells + kc ≤ R.cells) (hs : slots + ks ≤ R.slots) :
    ∃ (v : Option Value) (T' : State) (L : List Loc), Stand p l e R s m args below meth c T' (locs ++ L) (cells + kc) (slots + ks) ∧ Q v T'.heap L ∧ ∀ t, Steps p.tables e below (T'.setTop { g with pc := g.pc + 5, stack := v.toList ++ rest }) t → Steps p.tables e below (T.setTop g) t := by
  obtain ⟨cq, kq, qa, qb, qc⟩ := isOf hZ eT E
  obtain ⟨v, vm₁, ⟨T', L', k', n'⟩, -, X', ⟨L, hq, hl, hk, hn⟩, st⟩ := X.interfaceBack hx (xi := xi) (y := y) hown (mvT hZ w1) (mvT hZ w2) (mvT hZ w3 (by simp [Cond.onTables, Cond.keepsFace, Cond.keeps, Cond.steady, Cond.faceAtom, hy.1, hy.2])) (mvT hZ w4) (mvT hZ w5) (mvT hZ w6) (mvT hZ w7) (mvT hZ w8) hy hK qa qb qc hg hsize (Steps.refl _) hlen hstack hW hdg (fun _ _ => ⟨ha, eT, hc, hs⟩)
  dsimp only [Pt.U, Pt.locs, Pt.cells, Pt.slots] at X' hq hl hk hn st
  subst hl hk hn
  exact ⟨v, T', L, X', hq, fun _ k => st.trans k⟩
/-- instanceof, whatever it says -/
theorem own_inst (X : Stand p l e R s m args below meth c T locs cells slots) (hx : p.tables.exec = Jvm.exec) (hZ : Z.Warmed39 s.vm) {own K C : String} {index : Nat} (hown : s.vm.findClass own = some m.cls) (w : (Jvm.Cond.classLink own index K).before a0 Z = true) (eT : T.heap = h) {a : Addr} (E : Exa Z h a C)
    {g : JFrame} (hg : g.method = m) {rest : List Value} (hs : g.stack = .ref a :: rest) (hd : decode c.code g.pc = .ok (.instanceof index, 3)) :
    ∃ (z : Int32) (T' : State), (z = 0 ∨ z = 1) ∧ Stand p l e R s m args below meth c T' locs cells slots ∧ T'.heap = h ∧ ∀ t, Steps p.tables e below (T'.setTop { g with pc := g.pc + 3, stack := .int z :: rest }) t → Steps p.tables e below (T.setTop g) t := by
  obtain ⟨cell, k, e1, e2, e3, e4, e5⟩ := E
  have w' : (Jvm.Cond.classLink own index K).before args s = true := mv hZ w
  have hpl : e.platform.magicAccessors = ({} : Platform).magicAccessors := by rw [X.admits.platform]
  obtain ⟨cT, hcT, -⟩ := Cond.classLink_spec hown w' e.platform hpl
  obtain ⟨k', q, -⟩ := hZ.alike.2.2 _ _ e3
  cases hb : s.vm.assignable cell.cls cT with
  | true =>
    obtain ⟨vm', X', st⟩ := X.instanceofYes hx hown w' (by rw [eT]; exact e1) e4 hcT hb hg hs hd
    exact ⟨1, _, Or.inr rfl, X', eT, st⟩
  | false =>
    obtain ⟨T', X', e', st⟩ := instNo X hx hZ hown w eT (C := C) ⟨cell, k, e1, e2, e3, e4, e5⟩ ⟨cell.cls, cT, e2, by rw [← hZ.alike.findClass]; exact hcT, by rw [← hZ.alike.assignable]; exact hb⟩ hg hs hd
    exact ⟨0, _, Or.inl rfl, X', e', st⟩
/-- a class that isn't among the superclasses and is no interface (the word instantiable says so) -/
theorem own_NSroot {O K : String} {n : Nat} (w : (Jvm.Cond.noSuperclass O).before a0 Z = true) (wk : (Jvm.Cond.instantiable K n).before a0 Z = true) (hn : O ≠ K) : NS Z O K := by
  obtain ⟨c, k, h1, h2, h3, -, -⟩ := Cond.noSuperclass_spec w
  obtain ⟨t, kt, g1, -⟩ := Cond.instantiable_spec wk
  have ne := ids_ne h1 g1 hn
  refine ⟨c, t, h1, g1, fun fuel => ?_⟩
  cases fuel with
  | zero => rfl
  | succ f => simp [Vm.isSubclassAux, ne, h2, h3]
theorem own_NSno {C S K : String} {n : Nat} (w : (Jvm.Cond.superclass C S).before a0 Z = true) (wk : (Jvm.Cond.instantiable K n).before a0 Z = true) (q : NS Z C K) (hn : C ≠ K) : ∃ c t, Z.vm.findClass C = some c ∧ Z.vm.findClass K = some t ∧ Z.vm.assignable c t = false := by
  obtain ⟨c, t, h0, g0, n3⟩ := q
  obtain ⟨p, k, kp, h1, h2, h3, h4, h5, -, h7⟩ := Cond.superclass_spec h0 w
  obtain ⟨t', kt, g1, g2, g3, g4, -⟩ := Cond.instantiable_spec wk
  cases g0.symm.trans g1
  have g5 : kt.isInterface = false := by simp only [Bool.or_eq_false_iff] at g4; exact g4.1
  have ne := ids_ne h0 g0 hn
  refine ⟨c, t, h0, g0, ?_⟩
  show Z.vm.assignableAux (255 + 1) c t = false
  simp [Vm.assignableAux, ne, h2, g2, h5, g3, g5, Vm.isSubclass, n3]
theorem own_pr (X : Stand p l e R s m args below meth c T locs cells slots) (hx : p.tables.exec = Jvm.exec) (hZ : Z.Warmed39 s.vm) {own C : String} {index : Nat} {y : MethodName} {bytes : ByteArray} {maxL : Nat} {ret : Option FieldType}
    (hown : s.vm.findClass own = some m.cls) (w1 : (Jvm.Cond.methodLink own index y).before a0 Z = true) (w2 : (Jvm.Cond.instanceMethod y).before a0 Z = true) (w3 : (Jvm.Cond.selects C y y).before a0 Z = true) (w4 : (Jvm.Cond.privateMethod y).before a0 Z = true) (w5 : (Jvm.Cond.code y bytes maxL ret).before a0 Z = true)
    (hy : y.cls ≠ "java/lang/invoke/MethodHandle" ∧ y.cls ≠ "java/lang/invoke/VarHandle") {W kc ks : Nat} {as' : Array Value} {Q : Option Value → Heap → List Loc → Prop}
    (hK : Back l R p e below s args y 3 W (fun A a => a = as' ∧ A.U.heap = h ∧ A.cells + kc ≤ R.cells ∧ A.slots + ks ≤ R.slots) (fun A _ v B => ∃ L, Q v B.U.heap L ∧ B.locs = A.locs ++ L ∧ B.cells = A.cells + kc ∧ B.slots = A.slots + ks))
    (eT : T.heap = h) {b : Addr} {C' : String} (E : Exa Z h b C') {g : JFrame} (hg : g.method = m) (hsize : g.locals.size = c.maxLocals) {argsL rest : List Value} (ha : (.ref b :: argsL).toArray = as') (hlen : ∀ sig, parseMethodDescriptor y.desc = some sig → argsL.length = sig.parameters.length)
    (hstack : g.stack = argsL.reverse ++ .ref b :: rest) (hW : 2 * g.monitorRoom + (rest.map fun v => v.category).sum ≤ W) (hdg : decode c.code g.pc = .ok (.invokevirtual index, 3)) (hc : cells + kc ≤ R.cells) (hs : slots + ks ≤ R.slots) :
    ∃ (v : Option Value) (T' : State) (L : List Loc), Stand p l e R s m args below meth c T' (locs ++ L) (cells + kc) (slots + ks) ∧ Q v T'.heap L ∧ ∀ t, Steps p.tables e below (T'.setTop { g with pc := g.pc + 3, stack := v.toList ++ rest }) t → Steps p.tables e below (T.setTop g) t := by
  obtain ⟨cq, q, q'⟩ := E.cell
  have hpriv : s.PrivateAt y := Cond.privateMethod_at (mvP hZ w4 (args := #[]))
  obtain ⟨mk, methM, hnamed, hmethM, hstM, habM⟩ := Cond.instanceMethod_spec (mvT (args := args) hZ w2)
  obtain ⟨methM', cM, hmethM', -, -, -, -, -, -, hsigM⟩ := Cond.code_spec hnamed (mvT (args := args) hZ w5)
  cases hmethM.symm.trans hmethM'
  obtain ⟨c2, r2, m2, -, -, q3, -, kP, hkP, hkPi⟩ := Cond.selects_spec (mvT (args := args) hZ w3)
  cases hnamed.symm.trans q3
  have hselP : selectMethod e.platform s.vm cq.cls mk = .method mk := selectMethod_private hmethM (hpriv mk methM hnamed hmethM)
  obtain ⟨vm₁, X₁, hstep₁⟩ := X.invokevirtual hx hown (mvT hZ w1) hnamed hmethM hstM hkP hkPi hy (a := b) (cell := cq) (by rw [eT]; exact q) q' hselP hmethM habM hkP hkPi (g := g) hg (argsL := argsL) (rest := rest) (hlen _ hsigM) hstack hdg
  obtain ⟨v, ⟨T', L', k', n'⟩, X', ⟨L, hq, hl, hk, hn⟩, hsteps⟩ := hK m meth c ⟨T.setVm vm₁, locs, cells, slots⟩ { g with stack := rest } (.invokevirtual index) mk (.ref b :: argsL).toArray X₁ hg hsize hdg hW (X₁.named hnamed) ⟨ha, eT, hc, hs⟩
  dsimp only [Pt.U, Pt.locs, Pt.cells, Pt.slots] at X' hq hl hk hn hsteps
  subst hl hk hn
  exact ⟨v, T', L, X', hq, fun _ k => (hstep₁ _ fun acts => by rw [doInvoke_state]; exact Steps.refl _).trans (hsteps.trans k)⟩
theorem own_selfp {y : MethodName} {n : Nat} (w3 : (Jvm.Cond.privateMethod y).before a0 Z = true) (wi : (Jvm.Cond.instanceMethod y).before a0 Z = true) (wk : (Jvm.Cond.instantiable y.cls n).before a0 Z = true) (hy : y.cls ≠ "java/lang/invoke/MethodHandle" ∧ y.cls ≠ "java/lang/invoke/VarHandle") : (Jvm.Cond.selects y.cls y y).before a0 Z = true := by
  obtain ⟨t, kt, g1, g2, g3, g4, -⟩ := Cond.instantiable_spec wk
  have g5 : kt.isInterface = false := by simp only [Bool.or_eq_false_iff] at g4; exact g4.1
  exact selects_self_of_private g1 g2 g5 (Cond.privateMethod_at w3) wi hy
/-- the entry's class has the method itself, and it is no interface: a 'selects' word of another method of that class says so -/
theorem own_same {y y' z : MethodName} {C : String} (hy : y.cls ≠ "java/lang/invoke/MethodHandle" ∧ y.cls ≠ "java/lang/invoke/VarHandle") (hc : z.cls = y.cls) (ws : (Jvm.Cond.selects C y' z).before a0 Z = true) (wi : (Jvm.Cond.instanceMethod y).before a0 Z = true) : (Jvm.Cond.sameMethod y.cls y.cls y.name y.desc).before a0 Z = true := by
  obtain ⟨mk, methM, hnamed, -⟩ := Cond.instanceMethod_spec wi
  obtain ⟨c2, r2, m2, -, -, q3, -, kP, hkP, hkPi⟩ := Cond.selects_spec ws
  have f1 := findClass_of_methodNamed hnamed
  have f2 := findClass_of_methodNamed q3
  rw [hc] at f2
  have e : m2.cls = mk.cls := Option.some.inj (f2.symm.trans f1)
  have f3 : Z.methodFound? y.cls y.name y.desc = some mk := State.methodFound?_of_named hnamed hy
  have f4 : Z.methodNamed? (⟨y.cls, y.name, y.desc⟩ : MethodName) = some mk := hnamed
  rw [e] at hkP
  simp [Cond.before, Cond.holds, Cond.value, f1, f3, f4, hkP, hkPi]
theorem own_su (X : Stand p l e R s m args below meth c T locs cells slots) (hx : p.tables.exec = Jvm.exec) (hZ : Z.Warmed39 s.vm) {own C : String} {index : Nat} {y : MethodName} {bytes : ByteArray} {maxL : Nat} {ret : Option FieldType}
    (hown : s.vm.findClass own = some m.cls) (w1 : (Jvm.Cond.methodLink own index y).before a0 Z = true) (w2 : (Jvm.Cond.sameMethod y.cls y.cls y.name y.desc).before a0 Z = true) (w3 : (Jvm.Cond.instanceMethod y).before a0 Z = true) (w4 : (Jvm.Cond.superclass own y.cls).before a0 Z = true) (hn : y.name ≠ "<init>") (w5 : (Jvm.Cond.code y bytes maxL ret).before a0 Z = true)
    {W kc ks : Nat} {as' : Array Value} {Q : Option Value → Heap → List Loc → Prop}
    (hK : Back l R p e below s args y 3 W (fun A a => a = as' ∧ A.U.heap = h ∧ A.cells + kc ≤ R.cells ∧ A.slots + ks ≤ R.slots) (fun A _ v B => ∃ L, Q v B.U.heap L ∧ B.locs = A.locs ++ L ∧ B.cells = A.cells + kc ∧ B.slots = A.slots + ks))
    (eT : T.heap = h) {b : Addr} (E : Exa Z h b C) {g : JFrame} (hg : g.method = m) (hsize : g.locals.size = c.maxLocals) {argsL rest : List Value} (ha : (.ref b :: argsL).toArray = as') (hlen : ∀ sig, parseMethodDescriptor y.desc = some sig → argsL.length = sig.parameters.length)
    (hstack : g.stack = argsL.reverse ++ .ref b :: rest) (hW : 2 * g.monitorRoom + (rest.map fun v => v.category).sum ≤ W) (hdg : decode c.code g.pc = .ok (.invokespecial index, 3)) (hc : cells + kc ≤ R.cells) (hs : slots + ks ≤ R.slots) :
    ∃ (v : Option Value) (T' : State) (L : List Loc), Stand p l e R s m args below meth c T' (locs ++ L) (cells + kc) (slots + ks) ∧ Q v T'.heap L ∧ ∀ t, Steps p.tables e below (T'.setTop { g with pc := g.pc + 3, stack := v.toList ++ rest }) t → Steps p.tables e below (T.setTop g) t := by
  obtain ⟨v, vm₁, ⟨T', L', k', n'⟩, -, X', ⟨L, hq, hl, hk, hn'⟩, st⟩ := superBack X hx hZ hown w1 w2 w3 w4 hn hK eT (Ins.self E) hg hsize w5 hlen hstack hW hdg (fun _ _ => ⟨ha, eT, hc, hs⟩)
  dsimp only [Pt.U, Pt.locs, Pt.cells, Pt.slots] at X' hq hl hk hn' st
  subst hl hk hn'
  exact ⟨v, T', L, X', hq, fun _ k => st.trans k⟩
end Own

theorem own_sat_in : ∀ d ∈ Bundle.stringAtoms, d ∈ tables_1 := by decide +kernel
theorem own_sat {Z : State} {a0 : Array Value} (hw : ∀ d ∈ tables_1, d.before a0 Z = true) : ∀ d ∈ Bundle.stringAtoms, d.before a0 Z = true := fun d hd => hw d (own_sat_in d hd)
theorem own_i2c (x : Int32) : nar .char (x.toUInt32.toUInt16.toUInt32.toInt32) = x.toUInt32.toUInt16.toUInt32.toInt32 := by
  have a := c_i2c x
  have b := c_i2c (x.toUInt32.toUInt16.toUInt32.toInt32)
  apply Int32.toInt_inj.mp
  show ((x.toUInt32.toUInt16.toUInt32.toInt32).toUInt32.toUInt16.toUInt32.toInt32).toInt = _
  omega
theorem own_i2b (x : Int32) : nar .byte (x.toInt8.toInt32) = x.toInt8.toInt32 := by
  simp [nar]
theorem own_i2bb (x : Int32) : x.toInt8.toInt32.toInt8.toInt32 = x.toInt8.toInt32 := own_i2b x
theorem own_c255 (x : Int32) : ¬ (x &&& (255 : Int32)) < 0 ∧ ¬ (255 : Int32) < (x &&& (255 : Int32)) := by
  have a := c_and x 255 (by decide)
  have e : (255 : Int32).toInt = 255 := rfl
  have z : (0 : Int32).toInt = 0 := rfl
  rw [Int32.lt_iff_toInt_lt, Int32.lt_iff_toInt_lt]
  omega
theorem own_and255 (x : Int32) : ¬ ((x &&& (255 : Int32)).toUInt32.toUInt16.toUInt32.toInt32) < 0 ∧ ¬ (255 : Int32) < ((x &&& (255 : Int32)).toUInt32.toUInt16.toUInt32.toInt32) := by
  rw [i2c_mask]; exact own_c255 x
theorem own_narc {x : Int32} (h1 : ¬ x < (0 : Int32)) (h2 : ¬ (255 : Int32) < x) : nar .char x = x := by
  have a := c_i2c x
  have e : (255 : Int32).toInt = 255 := rfl
  have z : (0 : Int32).toInt = 0 := rfl
  rw [Int32.lt_iff_toInt_lt] at h1 h2
  apply Int32.toInt_inj.mp
  show x.toUInt32.toUInt16.toUInt32.toInt32.toInt = x.toInt
  omega
theorem own_one {x : Int32} (h1 : ¬ x < (0 : Int32)) (h2 : ¬ (255 : Int32) < x) : ∀ c ∈ ([x] : List Int32), ¬ c < 0 ∧ ¬ (255 : Int32) < c := fun c hc => by rw [List.mem_singleton.mp hc]; exact ⟨h1, h2⟩
/-- the String at a spells cs (Latin-1) -/
def own_Str (Z : State) (h : Heap) (a : Addr) (cs : List Int32) : Prop := ∃ (t : Addr) (kb : ClassId), Exa Z h a "java/lang/String" ∧ Fld Z h a "java/lang/String" "value" "[B" (.ref t) ∧ Fld Z h a "java/lang/String" "coder" "B" (.int 0) ∧ Arv Z h t kb .byte (Int32.ofNat cs.length) ((cs.map fun c => c.toInt8.toInt32).map Value.int) (.int 0) ∧ (∀ c ∈ cs, ¬ c < 0 ∧ ¬ (255 : Int32) < c) ∧ cs.length ≤ 4000
theorem own_Str_keep {Z : State} {h h' : Heap} {a : Addr} {cs : List Int32} (F : own_Str Z h a cs) (K : Keep h h' []) : own_Str Z h' a cs := by
  obtain ⟨t, kb, E, V, C, A, r⟩ := F
  exact ⟨t, kb, E.keep K, V.keep K nin0, C.keep K nin0, A.keep K nin0, r⟩
theorem own_Str_keep1 {Z : State} {a0 : Array Value} {h h' : Heap} {a b : Addr} {cs : List Int32} {D : String} {k : Nat} (F : own_Str Z h a cs) (K : Keep h h' [b]) (E : Exa Z h b D) (hD : "java/lang/String" ≠ D) (w : (Jvm.Cond.instantiable D k).before a0 Z = true) : own_Str Z h' a cs := by
  obtain ⟨t, kb, Es, V, C, A, r⟩ := F
  have n1 : a ≠ b := Exa.ne Es E hD
  have n2 : t ≠ b := Ne.symm (Exa.neArv E A w)
  exact ⟨t, kb, Es.keep K, V.keep K (ninS n1 nin0), C.keep K (ninS n1 nin0), A.keep K (ninS n2 nin0), r⟩
theorem own_up {cs : List Int32} (h : ∀ c ∈ cs, ¬ c < 0 ∧ ¬ (255 : Int32) < c) : ∀ c ∈ cs, ¬ c < 0 ∧ ¬ (65535 : Int32) < c := fun c hc => ⟨(h c hc).1, fun q => (h c hc).2 (by rw [Int32.lt_iff_toInt_lt] at q ⊢; have e1 : (65535 : Int32).toInt = 65535 := rfl; have e2 : (255 : Int32).toInt = 255 := rfl; omega)⟩
set_option maxRecDepth 65536 in
theorem own_hws_in : ∀ d ∈ StrChars.Road.words, d ∈ tables_1 := by decide +kernel
theorem own_hws {Z : State} {a0 : Array Value} (hw : ∀ d ∈ tables_1, d.before a0 Z = true) : ∀ d ∈ StrChars.Road.words, d.before a0 Z = true := fun d hd => hw d (own_hws_in d hd)
set_option maxRecDepth 65536 in
theorem own_hln_in : ∀ d ∈ StrChars.Road.wordsLen, d ∈ tables_1 := by decide +kernel
theorem own_hln {Z : State} {a0 : Array Value} (hw : ∀ d ∈ tables_1, d.before a0 Z = true) : ∀ d ∈ StrChars.Road.wordsLen, d.before a0 Z = true := fun d hd => hw d (own_hln_in d hd)
set_option maxRecDepth 65536 in
theorem own_hch_in : ∀ d ∈ StrChars.Road.wordsChN, d ∈ tables_1 := by decide +kernel
theorem own_hch {Z : State} {a0 : Array Value} (hw : ∀ d ∈ tables_1, d.before a0 Z = true) : ∀ d ∈ StrChars.Road.wordsChN, d.before a0 Z = true := fun d hd => hw d (own_hch_in d hd)
set_option maxRecDepth 65536 in
theorem own_heq_in : ∀ d ∈ StrChars.Road.wordsEq, d ∈ tables_1 := by decide +kernel
theorem own_heq {Z : State} {a0 : Array Value} (hw : ∀ d ∈ tables_1, d.before a0 Z = true) : ∀ d ∈ StrChars.Road.wordsEq, d.before a0 Z = true := fun d hd => hw d (own_heq_in d hd)
theorem own_Str_W {Z : State} {h : Heap} {a : Addr} {cs : List Int32} (F : own_Str Z h a cs) : ∃ (t : Addr) (kb : ClassId), Exa Z h a "java/lang/String" ∧ Fld Z h a "java/lang/String" "value" "[B" (.ref t) ∧ Fld Z h a "java/lang/String" "coder" "B" (.int 0) ∧ Arv Z h t kb .byte (Int32.ofNat cs.length) ((cs.map fun c => c.toInt8.toInt32).map Value.int) (.int 0) ∧ StrChars.Road.CodA cs 0 (Int32.ofNat cs.length) ((cs.map fun c => c.toInt8.toInt32).map Value.int) ∧ (∀ c ∈ cs, ¬ c < 0 ∧ ¬ (65535 : Int32) < c) ∧ cs.length ≤ 4000 := by
  obtain ⟨t, kb, E, V, C, A, b, n⟩ := F
  exact ⟨t, kb, E, V, C, A, StrChars.Road.codOf rfl (fun c hc => (b c hc).2), own_up b, n⟩
def i' (z : Int32) : Slot := .val (.int z)
def r' (a : Addr) : Slot := .val (.ref a)
def u' : Slot := .unset
section OwnSB
variable {p : Program} {l : Launch} {e : Env} {R : Room} {s : State} {m : MethodId} {args : Array Value} {below : List Frame} {meth : Method} {c : Code} {T : State} {locs : List Loc} {cells slots : Nat} {Z : State} {a0 : Array Value} {h : Heap}
def own_n (cs : List Int32) : Int32 := Int32.ofNat cs.length
def own_bs (cs : List Int32) : List Value := (cs.map fun c => c.toInt8.toInt32).map Value.int
theorem own_bs_len (cs : List Int32) : (own_bs cs).length = cs.length := by simp [own_bs]
theorem own_bs_app (a b : List Int32) : own_bs (a ++ b) = own_bs a ++ own_bs b := by simp [own_bs]
theorem own_nI {n : Nat} (h : n ≤ 4000) : (Int32.ofNat n).toInt = n := len_toInt (show n < 2 ^ 31 by omega)
theorem own_nN {n : Nat} (h : n ≤ 4000) : (Int32.ofNat n).toNatClampNeg = n ∧ ¬ Int32.ofNat n < 0 := by
  have e := own_nI h
  refine ⟨by simp only [Int32.toNatClampNeg, e]; omega, ?_⟩
  rw [Int32.lt_iff_toInt_lt, e]
  have z : (0 : Int32).toInt = 0 := rfl
  omega
theorem own_nadd {a b : Nat} : Int32.ofNat a + Int32.ofNat b = Int32.ofNat (a + b) := by
  apply Int32.toBitVec_inj.mp
  show BitVec.ofNat 32 a + BitVec.ofNat 32 b = BitVec.ofNat 32 (a + b)
  rw [← BitVec.ofNat_add]
theorem own_napp (a b : List Int32) : own_n a + own_n b = own_n (a ++ b) := by
  unfold own_n; rw [own_nadd, List.length_append]
theorem own_shl0 (x : Int32) : x <<< ((0 : Int32) &&& 31) = x := by
  apply Int32.toBitVec_inj.mp
  simp
theorem own_us (vs : List Value) (dv : Value) : vs = (List.range vs.length).map fun i => vs.getD (0 + i) dv := by
  apply List.ext_getElem
  · simp
  · intro i h1 h2
    simp [List.getD_eq_getElem?_getD, h1]
/-- System.arraycopy of the first bytes of a byte[] behind those of another -/
theorem own_cp (X : Stand p l e R s m args below meth c T locs cells slots) (hx : p.tables.exec = Jvm.exec) (hZ : Z.Warmed39 s.vm) {own : String} {index : Nat} (hown : s.vm.findClass own = some m.cls)
    (w1 : (Jvm.Cond.methodLink own index Jvm.Stand.acN).before a0 Z = true) (w2 : (Jvm.Cond.native Jvm.Stand.acN).before a0 Z = true) (w3 : (Jvm.Cond.static Jvm.Stand.acN).before a0 Z = true) (w4 : (Jvm.Cond.initialized "java/lang/System").before a0 Z = true) (eT : T.heap = h)
    {a b : Addr} {k k' : ClassId} {z z' : Int32} {cs ds : List Int32} (A : Arv Z h a k .byte z (own_bs ds) (.int 0)) (B : Arv Z h b k' .byte z' (own_bs cs) (.int 0)) (hd : ds.length ≤ 4000) (hc : cs.length ≤ 4000) (hza : ds.length ≤ z.toNatClampNeg) (hz : cs.length + ds.length ≤ z'.toNatClampNeg)
    {n0 : Nat} (N : Fr n0 locs) (ge : n0 ≤ b) {g : JFrame} (hg : g.method = m) (hsize : g.locals.size = c.maxLocals) {rest : List Value} (hs : g.stack = .int (own_n ds) :: .int (own_n cs) :: .ref b :: .int 0 :: .ref a :: rest) (hdc : decode c.code g.pc = .ok (.invokestatic index, 3))
    (hf : 1 ≤ R.frames) {W : Nat} (hW : 2 * g.monitorRoom + (rest.map fun v => v.category).sum ≤ W) (hlo : W + (nativeFrameWords "java/lang/System" "arraycopy" 5 + 11) ≤ R.locals) :
    ∃ T' h' L, Stand p l e R s m args below meth c T' L cells slots ∧ T'.heap = h' ∧ Fr n0 L ∧ Keep h h' [b] ∧ Arv Z h' b k' .byte z' (own_bs (cs ++ ds)) (.int 0) ∧
      ∀ target, Steps p.tables e below (T'.setTop { g with pc := g.pc + 3, stack := rest }) target → Steps p.tables e below (T.setTop g) target := by
  have B' : Arv Z h b k' .byte z' (own_bs cs ++ List.replicate ds.length (.int 0)) (.int 0) := B.pad (pad_rep _ _ _)
  obtain ⟨c1, c2⟩ := own_nN hc
  obtain ⟨d1, d2⟩ := own_nN hd
  obtain ⟨T', h', L, X', e', N', K', V', st⟩ := cpA X hx hZ hown w1 w2 w3 w4 eT A B' (us := own_bs ds) (sp := 0) (dp := own_n cs) (nn := own_n ds) (Or.inl ⟨rfl, rfl⟩) (by decide) c2 d2
    (by show (0 : Int32).toNatClampNeg + (Int32.ofNat ds.length).toNatClampNeg ≤ _; rw [d1]; show 0 + _ ≤ _; omega)
    (by show (Int32.ofNat cs.length).toNatClampNeg + (Int32.ofNat ds.length).toNatClampNeg ≤ _; rw [c1, d1]; exact hz)
    (by show own_bs ds = (List.range (Int32.ofNat ds.length).toNatClampNeg).map _; rw [d1, ← own_bs_len ds]; exact own_us (own_bs ds) (.int 0))
    (by show (Int32.ofNat cs.length).toNatClampNeg + (Int32.ofNat ds.length).toNatClampNeg ≤ _; rw [c1, d1]; simp [own_bs_len]) N ge hg hsize hs hdc hf hW hlo
  refine ⟨T', h', L, X', e', N', K', ?_, st⟩
  have q : (own_bs cs ++ List.replicate ds.length (Value.int 0)).take (own_n cs).toNatClampNeg ++ own_bs ds ++ (own_bs cs ++ List.replicate ds.length (Value.int 0)).drop ((own_n cs).toNatClampNeg + (own_n ds).toNatClampNeg) = own_bs (cs ++ ds) := by
    have e1 : (own_n cs).toNatClampNeg = cs.length := c1
    have e2 : (own_n ds).toNatClampNeg = ds.length := d1
    rw [e1, e2, own_bs_app, List.take_left' (own_bs_len cs), List.drop_eq_nil_of_le (by simp [own_bs_len]), List.append_nil]
  rw [q] at V'
  exact V'
end OwnSB
theorem own_n1 (cs : List Int32) (q : Int32) : own_n cs + (1 : Int32) = own_n (cs ++ [q]) := own_napp cs [q]
theorem own_bset (cs : List Int32) (q : Int32) : (own_bs cs ++ [Value.int 0]).set cs.length (.int (q.toInt8.toInt32)) = own_bs (cs ++ [q]) := by
  rw [own_bs_app, ← own_bs_len cs]
  simp [own_bs]
theorem own_cap {cs ds : List Int32} (h : cs.length + ds.length ≤ 16) : ¬ (0 : Int32) < ((own_n cs) + (own_n ds)) - (16 : Int32) := by
  have e : own_n cs + own_n ds = Int32.ofNat (cs.length + ds.length) := own_nadd
  rw [e, Int32.lt_iff_toInt_lt, Int32.toInt_sub, own_nI (by omega)]
  have z : (0 : Int32).toInt = 0 := rfl
  have t : (16 : Int32).toInt = 16 := rfl
  rw [z, t]
  have q := bm32 (((cs.length + ds.length : Nat) : Int) - 16)
  have q1 := Int.bmod_lt (x := ((cs.length + ds.length : Nat) : Int) - 16) (m := 2 ^ 32) (by decide)
  have q2 := Int.le_bmod (x := ((cs.length + ds.length : Nat) : Int) - 16) (m := 2 ^ 32) (by decide)
  omega
theorem own_n_lt {cs : List Int32} {k : Nat} {z : Int32} (hz : z.toInt = k) (h : cs.length < k) (hk : k ≤ 4000) : own_n cs < z := by
  have e : (own_n cs).toInt = cs.length := own_nI (by omega)
  rw [Int32.lt_iff_toInt_lt, hz, e]; omega
theorem own_n_ne {cs : List Int32} {k : Nat} {z : Int32} (hz : z.toInt = k) (h : cs.length < k) (hk : k ≤ 4000) : ¬ own_n cs = z := fun q => by
  have e : (own_n cs).toInt = cs.length := own_nI (by omega)
  rw [q, hz] at e; omega
theorem own_n_nn {cs : List Int32} (h : cs.length ≤ 4000) : ¬ own_n cs < (0 : Int32) := (own_nN h).2
theorem own_cap1 {cs : List Int32} (h : cs.length + 1 ≤ 16) : ¬ (0 : Int32) < ((own_n cs) + (1 : Int32)) - (16 : Int32) := own_cap (ds := [0]) h
def own_raw (c d : Int32) : List Int32 := if c = 92 then [d] else [c, d]
theorem own_raw1 {c d : Int32} (h : c = (92 : Int32)) : own_raw c d = ([d] : List Int32) := by simp [own_raw, h]
theorem own_raw2 {c d : Int32} (h : ¬ c = (92 : Int32)) : own_raw c d = ([c, d] : List Int32) := by simp [own_raw, h]
theorem own_bd0 : ∀ c ∈ ([] : List Int32), ¬ c < 0 ∧ ¬ (255 : Int32) < c := fun _ h => nomatch h
theorem own_bdc {a : List Int32} {x : Int32} (h : ∀ c ∈ a, ¬ c < 0 ∧ ¬ (255 : Int32) < c) (g : ¬ x < 0 ∧ ¬ (255 : Int32) < x) : ∀ c ∈ a ++ [x], ¬ c < 0 ∧ ¬ (255 : Int32) < c := fun c hc => (List.mem_append.mp hc).elim (h c) (fun q => by rw [List.mem_singleton.mp q]; exact g)
theorem own_ord1 {q : Int32} (h : q = (92 : Int32)) : ¬ ((q + (1 : Int32)).toUInt32.toUInt16.toUInt32.toInt32) < (0 : Int32) ∧ ¬ (255 : Int32) < ((q + (1 : Int32)).toUInt32.toUInt16.toUInt32.toInt32) ∧ ¬ ((q + (1 : Int32)).toUInt32.toUInt16.toUInt32.toInt32) = (92 : Int32) ∧ ¬ ((q + (1 : Int32)).toUInt32.toUInt16.toUInt32.toInt32) = (124 : Int32) := by subst h; decide
theorem own_ord2 {q : Int32} (h : q = (124 : Int32)) : ¬ ((q + (1 : Int32)).toUInt32.toUInt16.toUInt32.toInt32) < (0 : Int32) ∧ ¬ (255 : Int32) < ((q + (1 : Int32)).toUInt32.toUInt16.toUInt32.toInt32) ∧ ¬ ((q + (1 : Int32)).toUInt32.toUInt16.toUInt32.toInt32) = (92 : Int32) ∧ ¬ ((q + (1 : Int32)).toUInt32.toUInt16.toUInt32.toInt32) = (124 : Int32) := by subst h; decide
theorem own_and3 (x : Int32) : x &&& (3 : Int32) = (0 : Int32) ∨ x &&& (3 : Int32) = (1 : Int32) ∨ x &&& (3 : Int32) = (2 : Int32) ∨ x &&& (3 : Int32) = (3 : Int32) := by
  have a := c_and x 3 (by decide)
  have e3 : (3 : Int32).toInt = 3 := rfl
  generalize x &&& (3 : Int32) = z at a ⊢
  have t1 : (1 : Int32).toInt = 1 := rfl
  have t2 : (2 : Int32).toInt = 2 := rfl
  have t0 : (0 : Int32).toInt = 0 := rfl
  have h : z.toInt = 0 ∨ z.toInt = 1 ∨ z.toInt = 2 ∨ z.toInt = 3 := by omega
  rcases h with h | h | h | h
  · exact Or.inl (Int32.toInt_inj.mp (by rw [h, t0]))
  · exact Or.inr (Or.inl (Int32.toInt_inj.mp (by rw [h, t1])))
  · exact Or.inr (Or.inr (Or.inl (Int32.toInt_inj.mp (by rw [h, t2]))))
  · exact Or.inr (Or.inr (Or.inr (Int32.toInt_inj.mp (by rw [h, e3]))))

abbrev own_EL : List (String × Nat) := []
theorem own_hEL {Z : State} {a0 : Array Value} (hw : ∀ d ∈ tables_1, d.before a0 Z = true) : EW Z a0 own_EL := EW.nil
theorem own_pn0 : plainName "java/lang/AbstractStringBuilder" = true := by decide +kernel
theorem own_d13_0 : decode jdk_68_method_2_code 0 = .ok (.aload_n 0, 1) := by decide +kernel
theorem own_d13_1 : decode jdk_68_method_2_code 1 = .ok (.invokespecial 3, 3) := by decide +kernel
theorem own_d13_4 : decode jdk_68_method_2_code 4 = .ok (.getstatic 18, 3) := by decide +kernel
theorem own_d13_7 : decode jdk_68_method_2_code 7 = .ok (.ifCond .eq 18, 3) := by decide +kernel
theorem own_d13_10 : decode jdk_68_method_2_code 10 = .ok (.aload_n 0, 1) := by decide +kernel
theorem own_d13_11 : decode jdk_68_method_2_code 11 = .ok (.iload_n 1, 1) := by decide +kernel
theorem own_d13_12 : decode jdk_68_method_2_code 12 = .ok (.newarray .byte, 2) := by decide +kernel
theorem own_d13_14 : decode jdk_68_method_2_code 14 = .ok (.putfield 15, 3) := by decide +kernel
theorem own_d13_17 : decode jdk_68_method_2_code 17 = .ok (.aload_n 0, 1) := by decide +kernel
theorem own_d13_18 : decode jdk_68_method_2_code 18 = .ok (.iconst 0, 1) := by decide +kernel
theorem own_d13_19 : decode jdk_68_method_2_code 19 = .ok (.putfield 22, 3) := by decide +kernel
theorem own_d13_22 : decode jdk_68_method_2_code 22 = .ok (.goto 16, 3) := by decide +kernel
theorem own_d13_38 : decode jdk_68_method_2_code 38 = .ok (.return_, 1) := by decide +kernel
set_option maxHeartbeats 4000000 in
theorem own_ef_rm13 (m : MethodId) (x0 : Addr) (x1 : Int32) : entryFrame m #[(.ref x0), (.int x1)] 2 = mkF m 0 #[.val (.ref x0), .val (.int x1)] [] := by rfl
set_option maxRecDepth 65536 in
set_option maxHeartbeats 40000000 in
theorem rm13 (l : Launch) (Z : State) (a0 : Array Value) (hw : ∀ d ∈ tables_1, d.before a0 Z = true) (z0 : Int32) (O2 : Sta Z Z.heap "java/lang/String" "COMPACT_STRINGS" "Z" (.int z0)) (P5 : ¬ z0 = (0 : Int32)) (fm0 : Value) (O4 : Sta Z Z.heap "jdk/internal/util/Preconditions" "SIOOBE_FORMATTER" "Ljava/util/function/BiFunction;" fm0) (R4 : fm0.isRef = true) (ws : List Jvm.Cond) (a : Addr) (h0 : Heap) (n0 : Nat) (Z0 : n0 ≤ h0.size) (Xo : Old Z n0 h0) (Ea : Exa Z h0 a "java/lang/StringBuilder") (Fv : Fld Z h0 a "java/lang/AbstractStringBuilder" "value" "[B" .null) (Fc : Fld Z h0 a "java/lang/AbstractStringBuilder" "coder" "B" (.int (0 : Int32))) (Fn : Fld Z h0 a "java/lang/AbstractStringBuilder" "count" "I" (.int (0 : Int32))) (gz_a : n0 ≤ a) :
    own_MetN l Z (⟨"java/lang/AbstractStringBuilder", "<init>", "(I)V"⟩ : MethodName) jdk_68_method_2_code 2 none ws ({ frames := 1, cells := 1, slots := 16, locals := 12 } : Room) #[(.ref a), (.int (16 : Int32))] h0 (fun v h L => Fr n0 L ∧ Keep h0 h [a] ∧ ((∃ (t : Addr) (kb : ClassId), (v = none) ∧ (h0.size ≤ t) ∧ (Exa Z h a "java/lang/StringBuilder") ∧ (Fld Z h a "java/lang/AbstractStringBuilder" "value" "[B" (.ref t)) ∧ (Fld Z h a "java/lang/AbstractStringBuilder" "coder" "B" (.int (0 : Int32))) ∧ (Fld Z h a "java/lang/AbstractStringBuilder" "count" "I" (.int (own_n ([] : List Int32)))) ∧ (Arv Z h t kb .byte (16 : Int32) (own_bs ([] : List Int32)) (.int (0 : Int32)))))) := by
  refine own_metN (plainFor_of_name own_pn0) ?_
  intro p e s m below meth c s₁ G hx hby hml hZ hown hnm hret X0 e0 go fin
  have N0 := Fr.nil n0
  refine go _ _ (fun _ k => castTop (own_ef_rm13 m a (16 : Int32)) k) ?_
  show G (s₁.setTop (mkF m 0 #[r' a, i' 16] []))
  refine go _ _ (fun _ k => XS.aloadN X0.here hx rfl (hb hby own_d13_0) rfl rfl k) ?_
  obtain ⟨T101, X101, e101, st101⟩ := initO X0 hx hZ hown (ow hw 67 rfl) (ow hw 16 rfl) (ow hw 17 rfl) e0 (g := (mkF m 1 #[r' a, i' 16] [(.ref a)])) rfl (by rw [hml]; rfl) rfl (hb hby own_d13_1) (by decide) (W := 0) (by show 2 * 0 + _ ≤ _; exact Nat.le_of_eq rfl) (by decide)
  refine go _ _ (st101) ?_
  obtain ⟨T102, X102, e102, st102⟩ := getS2 X101 hx hZ (host := "") hown (Or.inl (ow hw 68 rfl)) Via.refl e101 (O2.ext Xo.2) (g := (mkF m 4 #[r' a, i' 16] [])) rfl (hb hby own_d13_4)
  refine go _ _ (st102) ?_
  show G (T102.setTop (mkF m 7 #[r' a, i' 16] [(.int z0)]))
  refine go _ _ (fun _ k => XS.ifNo X102.here hx rfl (hb hby own_d13_7) rfl ((if0 _ _).trans (feq P5).1) k) ?_
  show G (T102.setTop (mkF m 10 #[r' a, i' 16] []))
  refine go _ _ (fun _ k => XS.aloadN X102.here hx rfl (hb hby own_d13_10) rfl rfl (XS.iloadN X102.here hx rfl (hb hby own_d13_11) rfl k)) ?_
  obtain ⟨T103, h103, k103, X103, e103, E103, A103, st103⟩ := newP X102 hx hZ (ow hw 23 rfl) e102 (g := (mkF m 12 #[r' a, i' 16] [(.int 16), (.ref a)])) rfl (hb hby own_d13_12) rfl (by decide) (cap := 16) (by decide) (by decide) (by decide) (by decide)
  obtain ⟨b103, g103⟩ : ∃ z, z = h0.size := ⟨_, rfl⟩
  rw [← g103] at A103 st103
  have V103 : Arv Z h103 b103 k103 .byte (16 : Int32) [(.int (0 : Int32)), (.int (0 : Int32)), (.int (0 : Int32)), (.int (0 : Int32)), (.int (0 : Int32)), (.int (0 : Int32)), (.int (0 : Int32)), (.int (0 : Int32)), (.int (0 : Int32)), (.int (0 : Int32)), (.int (0 : Int32)), (.int (0 : Int32)), (.int (0 : Int32)), (.int (0 : Int32)), (.int (0 : Int32)), (.int (0 : Int32))] (.int (0 : Int32)) := (Arv.new A103 (by decide)).pad (pad_rep [] (.int (0 : Int32)) 16)
  refine go _ _ (st103) ?_
  have K105 : Keep h0 h103 [] := (Keep.refl h0 []).ext E103
  have F106 : Fld Z h103 a "java/lang/AbstractStringBuilder" "value" "[B" .null := (Fv.keep K105 nin0)
  have F107 : Exa Z h103 a "java/lang/StringBuilder" := (Ea.keep K105)
  obtain ⟨T104, h104, X104, e104, W104, st104⟩ := putF X103 hx hZ hown (host := "") (Or.inl (ow hw 69 rfl)) Via.refl e103 F106 F107 (Or.inl (ow hw 70 rfl)) (ow hw 56 rfl) (ty := (.array .byte)) (by decide) rfl rfl (g := (mkF m 14 #[r' a, i' 16] [(.ref b103), (.ref a)])) rfl rfl (hb hby own_d13_14)
  have F108 : Fld Z h103 a "java/lang/AbstractStringBuilder" "coder" "B" (.int (0 : Int32)) := (Fc.keep K105 nin0)
  have F109 : Fld Z h103 a "java/lang/AbstractStringBuilder" "count" "I" (.int (0 : Int32)) := (Fn.keep K105 nin0)
  have N104 := Fr.snoc X104 N0 gz_a
  refine go _ _ (st104) ?_
  show G (T104.setTop (mkF m 17 #[r' a, i' 16] []))
  refine go _ _ (fun _ k => XS.aloadN X104.here hx rfl (hb hby own_d13_17) rfl rfl (XS.iconst X104.here hx rfl (hb hby own_d13_18) k)) ?_
  obtain ⟨T110, h110, X110, e110, W110, st110⟩ := putF X104 hx hZ hown (host := "") (Or.inl (ow hw 71 rfl)) Via.refl e104 (F108.other W104 (Or.inr (RoadKit.slot_ne (t := .byte) (t' := (.array .byte)) (Or.inl (ow hw 72 rfl)) (Or.inl (ow hw 70 rfl)) (by decide) (by decide) (by decide)))) (F107.wr W104) (Or.inl (ow hw 72 rfl)) (ow hw 56 rfl) (ty := .byte) (by decide) rfl rfl (g := (mkF m 19 #[r' a, i' 16] [(.int 0), (.ref a)])) rfl rfl (hb hby own_d13_19)
  have N110 := Fr.snoc X110 N104 gz_a
  refine go _ _ (st110) ?_
  show G (T110.setTop (mkF m 22 #[r' a, i' 16] []))
  refine go _ _ (fun _ k => XS.goto X110.here hx rfl (pc0 := 22) (pc' := 38) rfl (hb hby own_d13_22) (by decide) (by decide) k) ?_
  show G (T110.setTop (mkF m 38 #[r' a, i' 16] []))
  have K111 : Keep h0 h103 [a] := (Keep.refl h0 [a]).ext E103
  have K112 : Keep h0 h104 [a] := K111.wr W104 (Or.inl (List.mem_of_getElem? (i := 0) rfl))
  have K113 : Keep h0 h110 [a] := K112.wr W110 (Or.inl (List.mem_of_getElem? (i := 0) rfl))
  have K114 : Keep h103 h104 [a] := (Keep.refl h103 [a]).wr W104 (Or.inl (List.mem_of_getElem? (i := 0) rfl))
  have K115 : Keep h103 h110 [a] := K114.wr W110 (Or.inl (List.mem_of_getElem? (i := 0) rfl))
  have F116 : Arv Z h110 b103 k103 .byte (16 : Int32) (own_bs ([] : List Int32)) (.int (0 : Int32)) := ((Arv.new A103 (by decide)).keep K115 (ninS (Ne.symm (Nat.ne_of_lt (Nat.lt_of_lt_of_le Fv.lt (Nat.le_of_eq g103.symm)))) nin0))
  refine fin T110 _ _ _ none X110 (fun _ => rfl) (by decide) (by decide) (by rw [e110]; exact ⟨N110, K113, ⟨b103, k103, rfl, (Nat.le_of_eq g103.symm), ((F107.wr W104).wr W110), ((F106.same W104).other W110 (Or.inr (RoadKit.slot_ne (t := (.array .byte)) (t' := .byte) (Or.inl (ow hw 70 rfl)) (Or.inl (ow hw 72 rfl)) (by decide) (by decide) (by decide)))), ((F108.other W104 (Or.inr (RoadKit.slot_ne (t := .byte) (t' := (.array .byte)) (Or.inl (ow hw 72 rfl)) (Or.inl (ow hw 70 rfl)) (by decide) (by decide) (by decide)))).same W110), ((F109.other W104 (Or.inr (RoadKit.slot_ne (t := .int) (t' := (.array .byte)) (Or.inl (ow hw 115 rfl)) (Or.inl (ow hw 70 rfl)) (by decide) (by decide) (by decide)))).other W110 (Or.inr (RoadKit.slot_ne (t := .int) (t' := .byte) (Or.inl (ow hw 115 rfl)) (Or.inl (ow hw 72 rfl)) (by decide) (by decide) (by decide)))), F116⟩⟩) _ (own_retV X110 hx hret (hb hby own_d13_38))
theorem own_pn1 : plainName "java/lang/StringBuilder" = true := by decide +kernel
theorem own_d12_0 : decode jdk_67_method_1_code 0 = .ok (.aload_n 0, 1) := by decide +kernel
theorem own_d12_1 : decode jdk_67_method_1_code 1 = .ok (.bipush 16, 2) := by decide +kernel
theorem own_pd0 : parseMethodDescriptor "(I)V" = some ⟨[.int], none⟩ := by decide +kernel
theorem own_d12_3 : decode jdk_67_method_1_code 3 = .ok (.invokespecial 1, 3) := by decide +kernel
theorem own_d12_6 : decode jdk_67_method_1_code 6 = .ok (.return_, 1) := by decide +kernel
set_option maxHeartbeats 4000000 in
theorem own_ef_rm12 (m : MethodId) (x0 : Addr) : entryFrame m #[(.ref x0)] 1 = mkF m 0 #[.val (.ref x0)] [] := by rfl
set_option maxRecDepth 65536 in
set_option maxHeartbeats 40000000 in
theorem rm12 (l : Launch) (Z : State) (a0 : Array Value) (hw : ∀ d ∈ tables_1, d.before a0 Z = true) (z0 : Int32) (O2 : Sta Z Z.heap "java/lang/String" "COMPACT_STRINGS" "Z" (.int z0)) (P5 : ¬ z0 = (0 : Int32)) (fm0 : Value) (O4 : Sta Z Z.heap "jdk/internal/util/Preconditions" "SIOOBE_FORMATTER" "Ljava/util/function/BiFunction;" fm0) (R4 : fm0.isRef = true) (ws : List Jvm.Cond) (a : Addr) (h0 : Heap) (n0 : Nat) (Z0 : n0 ≤ h0.size) (Xo : Old Z n0 h0) (Ea : Exa Z h0 a "java/lang/StringBuilder") (Fv : Fld Z h0 a "java/lang/AbstractStringBuilder" "value" "[B" .null) (Fc : Fld Z h0 a "java/lang/AbstractStringBuilder" "coder" "B" (.int (0 : Int32))) (Fn : Fld Z h0 a "java/lang/AbstractStringBuilder" "count" "I" (.int (0 : Int32))) (gz_a : n0 ≤ a) :
    own_MetN l Z (⟨"java/lang/StringBuilder", "<init>", "()V"⟩ : MethodName) jdk_67_method_1_code 1 none ws ({ frames := 2, cells := 1, slots := 16, locals := 25 } : Room) #[(.ref a)] h0 (fun v h L => Fr n0 L ∧ Keep h0 h [a] ∧ ((∃ (t : Addr) (kb : ClassId), (v = none) ∧ (h0.size ≤ t) ∧ (Exa Z h a "java/lang/StringBuilder") ∧ (Fld Z h a "java/lang/AbstractStringBuilder" "value" "[B" (.ref t)) ∧ (Fld Z h a "java/lang/AbstractStringBuilder" "coder" "B" (.int (0 : Int32))) ∧ (Fld Z h a "java/lang/AbstractStringBuilder" "count" "I" (.int (own_n ([] : List Int32)))) ∧ (Arv Z h t kb .byte (16 : Int32) (own_bs ([] : List Int32)) (.int (0 : Int32)))))) := by
  refine own_metN (plainFor_of_name own_pn1) ?_
  intro p e s m below meth c s₁ G hx hby hml hZ hown hnm hret X0 e0 go fin
  have N0 := Fr.nil n0
  refine go _ _ (fun _ k => castTop (own_ef_rm12 m a) k) ?_
  show G (s₁.setTop (mkF m 0 #[r' a] []))
  refine go _ _ (fun _ k => XS.aloadN X0.here hx rfl (hb hby own_d12_0) rfl rfl (XS.bipush X0.here hx rfl (hb hby own_d12_1) k)) ?_
  obtain ⟨rv101, T101, L101, X101, q101, st101⟩ := own_sp X0 hx hZ (y := (⟨"java/lang/AbstractStringBuilder", "<init>", "(I)V"⟩ : MethodName)) rfl hown (ow hw 61 rfl) (ow hw 62 rfl) (ow hw 66 rfl) (by decide) (own_bkN (W := 0) (rm13 l Z a0 hw z0 O2 P5 fm0 O4 R4 [] a h0 n0 Z0 Xo Ea Fv Fc Fn gz_a) hZ (ow hw 66 rfl) (ow hw 65 rfl) (by decide) (by decide)) e0 (g := (mkF m 3 #[r' a] [(.int 16), (.ref a)])) rfl (by rw [hml]; rfl) (a := a) (argsL := [(.int (16 : Int32))]) (rest := []) rfl (lenOf own_pd0 rfl) rfl (by show 2 * 0 + _ ≤ _; exact Nat.le_of_eq rfl) (hb hby own_d12_3) (by decide) (by decide)
  obtain ⟨Nq101, Kp101, ⟨t_102, kb_103, rfl, z104, f105, f106, f107, f108, f109⟩⟩ := q101
  have N101 := Fr.app N0 Nq101
  refine go _ _ (st101) ?_
  show G (T101.setTop (mkF m 6 #[r' a] []))
  have K110 : Keep h0 T101.heap [a] := (Keep.refl h0 [a]).trans Kp101 (allS (Or.inl (List.mem_of_getElem? (i := 0) rfl)) all0)
  refine fin T101 _ _ _ none X101 (fun _ => rfl) (by decide) (by decide) ⟨N101, K110, ⟨t_102, kb_103, rfl, z104, f105, f106, f107, f108, f109⟩⟩ _ (own_retV X101 hx hret (hb hby own_d12_6))
theorem own_pn2 : plainName "java/lang/String" = true := by decide +kernel
theorem own_d15_0 : decode jdk_42_method_152_code 0 = .ok (.getstatic 38, 3) := by decide +kernel
theorem own_d15_3 : decode jdk_42_method_152_code 3 = .ok (.ifCond .eq 10, 3) := by decide +kernel
theorem own_d15_6 : decode jdk_42_method_152_code 6 = .ok (.aload_n 0, 1) := by decide +kernel
theorem own_d15_7 : decode jdk_42_method_152_code 7 = .ok (.getfield 15, 3) := by decide +kernel
theorem own_d15_10 : decode jdk_42_method_152_code 10 = .ok (.goto 4, 3) := by decide +kernel
theorem own_d15_14 : decode jdk_42_method_152_code 14 = .ok (.ireturn, 1) := by decide +kernel
set_option maxHeartbeats 4000000 in
theorem own_ef_rm15 (m : MethodId) (x0 : Addr) : entryFrame m #[(.ref x0)] 1 = mkF m 0 #[.val (.ref x0)] [] := by rfl
set_option maxRecDepth 65536 in
set_option maxHeartbeats 40000000 in
theorem rm15 (l : Launch) (Z : State) (a0 : Array Value) (hw : ∀ d ∈ tables_1, d.before a0 Z = true) (z0 : Int32) (O2 : Sta Z Z.heap "java/lang/String" "COMPACT_STRINGS" "Z" (.int z0)) (P5 : ¬ z0 = (0 : Int32)) (fm0 : Value) (O4 : Sta Z Z.heap "jdk/internal/util/Preconditions" "SIOOBE_FORMATTER" "Ljava/util/function/BiFunction;" fm0) (R4 : fm0.isRef = true) (ws : List Jvm.Cond) (a : Addr) (h0 : Heap) (n0 : Nat) (Z0 : n0 ≤ h0.size) (Xo : Old Z n0 h0) (Fc : Fld Z h0 a "java/lang/String" "coder" "B" (.int (0 : Int32))) :
    own_MetN l Z (⟨"java/lang/String", "coder", "()B"⟩ : MethodName) jdk_42_method_152_code 1 (some .byte) ws ({ frames := 0, cells := 0, slots := 0, locals := 0 } : Room) #[(.ref a)] h0 (fun v h L => Fr n0 L ∧ h = h0 ∧ (((v = some (.int (0 : Int32)))))) := by
  refine own_metN (plainFor_of_name own_pn2) ?_
  intro p e s m below meth c s₁ G hx hby hml hZ hown hnm hret X0 e0 go fin
  have N0 := Fr.nil n0
  refine go _ _ (fun _ k => castTop (own_ef_rm15 m a) k) ?_
  obtain ⟨T101, X101, e101, st101⟩ := getS2 X0 hx hZ (host := "") hown (Or.inl (ow hw 18 rfl)) Via.refl e0 (O2.ext Xo.2) (g := (mkF m 0 #[r' a] [])) rfl (hb hby own_d15_0)
  refine go _ _ (st101) ?_
  show G (T101.setTop (mkF m 3 #[r' a] [(.int z0)]))
  refine go _ _ (fun _ k => XS.ifNo X101.here hx rfl (hb hby own_d15_3) rfl ((if0 _ _).trans (feq P5).1) k) ?_
  show G (T101.setTop (mkF m 6 #[r' a] []))
  refine go _ _ (fun _ k => XS.aloadN X101.here hx rfl (hb hby own_d15_6) rfl rfl k) ?_
  obtain ⟨T102, X102, e102, st102⟩ := getF X101 hx hZ hown (host := "") (Or.inl (ow hw 30 rfl)) Via.refl e101 Fc (g := (mkF m 7 #[r' a] [(.ref a)])) rfl rfl (hb hby own_d15_7)
  refine go _ _ (st102) ?_
  show G (T102.setTop (mkF m 10 #[r' a] [(.int 0)]))
  refine go _ _ (fun _ k => XS.goto X102.here hx rfl (pc0 := 10) (pc' := 14) rfl (hb hby own_d15_10) (by decide) (by decide) k) ?_
  show G (T102.setTop (mkF m 14 #[r' a] [(.int 0)]))
  refine fin T102 _ _ _ (some (.int (0 : Int32))) X102 (fun q => nomatch q) (by decide) (by decide) (by rw [e102]; exact ⟨N0, rfl, rfl⟩) _ (own_retN X102 hx (z := (0 : Int32)) (t := .byte) hret (by simp) (hb hby own_d15_14))
theorem own_d30_0 : decode jdk_68_method_64_code 0 = .ok (.aload_n 0, 1) := by decide +kernel
theorem own_d30_1 : decode jdk_68_method_64_code 1 = .ok (.getfield 15, 3) := by decide +kernel
theorem own_d30_4 : decode jdk_68_method_64_code 4 = .ok (.areturn, 1) := by decide +kernel
set_option maxHeartbeats 4000000 in
theorem own_ef_rm30 (m : MethodId) (x0 : Addr) : entryFrame m #[(.ref x0)] 1 = mkF m 0 #[.val (.ref x0)] [] := by rfl
set_option maxRecDepth 65536 in
set_option maxHeartbeats 40000000 in
theorem rm30 (l : Launch) (Z : State) (a0 : Array Value) (hw : ∀ d ∈ tables_1, d.before a0 Z = true) (z0 : Int32) (O2 : Sta Z Z.heap "java/lang/String" "COMPACT_STRINGS" "Z" (.int z0)) (P5 : ¬ z0 = (0 : Int32)) (fm0 : Value) (O4 : Sta Z Z.heap "jdk/internal/util/Preconditions" "SIOOBE_FORMATTER" "Ljava/util/function/BiFunction;" fm0) (R4 : fm0.isRef = true) (ws : List Jvm.Cond) (a : Addr) (t : Addr) (h0 : Heap) (n0 : Nat) (Z0 : n0 ≤ h0.size) (Fv : Fld Z h0 a "java/lang/AbstractStringBuilder" "value" "[B" (.ref t)) :
    own_MetN l Z (⟨"java/lang/AbstractStringBuilder", "getValue", "()[B"⟩ : MethodName) jdk_68_method_64_code 1 (some (.array .byte)) ws ({ frames := 0, cells := 0, slots := 0, locals := 0 } : Room) #[(.ref a)] h0 (fun v h L => Fr n0 L ∧ h = h0 ∧ (((v = some (.ref t))))) := by
  refine own_metN (plainFor_of_name own_pn0) ?_
  intro p e s m below meth c s₁ G hx hby hml hZ hown hnm hret X0 e0 go fin
  have N0 := Fr.nil n0
  refine go _ _ (fun _ k => castTop (own_ef_rm30 m a) k) ?_
  show G (s₁.setTop (mkF m 0 #[r' a] []))
  refine go _ _ (fun _ k => XS.aloadN X0.here hx rfl (hb hby own_d30_0) rfl rfl k) ?_
  obtain ⟨T101, X101, e101, st101⟩ := getF X0 hx hZ hown (host := "") (Or.inl (ow hw 69 rfl)) Via.refl e0 Fv (g := (mkF m 1 #[r' a] [(.ref a)])) rfl rfl (hb hby own_d30_1)
  refine go _ _ (st101) ?_
  show G (T101.setTop (mkF m 4 #[r' a] [(.ref t)]))
  refine fin T101 _ _ _ (some (.ref t)) X101 (fun q => nomatch q) (by decide) (by decide) (by rw [e101]; exact ⟨N0, rfl, rfl⟩) _ (own_retA X101 hx hret rfl rfl rfl (hb hby own_d30_4))
theorem own_d26_0 : decode jdk_68_method_6_code 0 = .ok (.aload_n 0, 1) := by decide +kernel
theorem own_d26_1 : decode jdk_68_method_6_code 1 = .ok (.getfield 79, 3) := by decide +kernel
theorem own_d26_4 : decode jdk_68_method_6_code 4 = .ok (.ireturn, 1) := by decide +kernel
set_option maxHeartbeats 4000000 in
theorem own_ef_rm26 (m : MethodId) (x0 : Addr) : entryFrame m #[(.ref x0)] 1 = mkF m 0 #[.val (.ref x0)] [] := by rfl
set_option maxRecDepth 65536 in
set_option maxHeartbeats 40000000 in
theorem rm26 (l : Launch) (Z : State) (a0 : Array Value) (hw : ∀ d ∈ tables_1, d.before a0 Z = true) (z0 : Int32) (O2 : Sta Z Z.heap "java/lang/String" "COMPACT_STRINGS" "Z" (.int z0)) (P5 : ¬ z0 = (0 : Int32)) (fm0 : Value) (O4 : Sta Z Z.heap "jdk/internal/util/Preconditions" "SIOOBE_FORMATTER" "Ljava/util/function/BiFunction;" fm0) (R4 : fm0.isRef = true) (ws : List Jvm.Cond) (a : Addr) (n : Int32) (h0 : Heap) (n0 : Nat) (Z0 : n0 ≤ h0.size) (Fn : Fld Z h0 a "java/lang/AbstractStringBuilder" "count" "I" (.int n)) :
    own_MetN l Z (⟨"java/lang/AbstractStringBuilder", "length", "()I"⟩ : MethodName) jdk_68_method_6_code 1 (some .int) ws ({ frames := 0, cells := 0, slots := 0, locals := 0 } : Room) #[(.ref a)] h0 (fun v h L => Fr n0 L ∧ h = h0 ∧ (((v = some (.int n))))) := by
  refine own_metN (plainFor_of_name own_pn0) ?_
  intro p e s m below meth c s₁ G hx hby hml hZ hown hnm hret X0 e0 go fin
  have N0 := Fr.nil n0
  refine go _ _ (fun _ k => castTop (own_ef_rm26 m a) k) ?_
  show G (s₁.setTop (mkF m 0 #[r' a] []))
  refine go _ _ (fun _ k => XS.aloadN X0.here hx rfl (hb hby own_d26_0) rfl rfl k) ?_
  obtain ⟨T101, X101, e101, st101⟩ := getF X0 hx hZ hown (host := "") (Or.inl (ow hw 114 rfl)) Via.refl e0 Fn (g := (mkF m 1 #[r' a] [(.ref a)])) rfl rfl (hb hby own_d26_1)
  refine go _ _ (st101) ?_
  show G (T101.setTop (mkF m 4 #[r' a] [(.int n)]))
  refine fin T101 _ _ _ (some (.int n)) X101 (fun q => nomatch q) (by decide) (by decide) (by rw [e101]; exact ⟨N0, rfl, rfl⟩) _ (own_retI X101 hx hret (hb hby own_d26_4))
theorem own_d24_0 : decode jdk_68_method_68_code 0 = .ok (.getstatic 18, 3) := by decide +kernel
theorem own_d24_3 : decode jdk_68_method_68_code 3 = .ok (.ifCond .eq 14, 3) := by decide +kernel
theorem own_d24_6 : decode jdk_68_method_68_code 6 = .ok (.aload_n 0, 1) := by decide +kernel
theorem own_d24_7 : decode jdk_68_method_68_code 7 = .ok (.getfield 22, 3) := by decide +kernel
theorem own_d24_10 : decode jdk_68_method_68_code 10 = .ok (.ifCond .ne 7, 3) := by decide +kernel
theorem own_d24_13 : decode jdk_68_method_68_code 13 = .ok (.iconst 1, 1) := by decide +kernel
theorem own_d24_14 : decode jdk_68_method_68_code 14 = .ok (.goto 4, 3) := by decide +kernel
theorem own_d24_18 : decode jdk_68_method_68_code 18 = .ok (.ireturn, 1) := by decide +kernel
set_option maxHeartbeats 4000000 in
theorem own_ef_rm24 (m : MethodId) (x0 : Addr) : entryFrame m #[(.ref x0)] 1 = mkF m 0 #[.val (.ref x0)] [] := by rfl
set_option maxRecDepth 65536 in
set_option maxHeartbeats 40000000 in
theorem rm24 (l : Launch) (Z : State) (a0 : Array Value) (hw : ∀ d ∈ tables_1, d.before a0 Z = true) (z0 : Int32) (O2 : Sta Z Z.heap "java/lang/String" "COMPACT_STRINGS" "Z" (.int z0)) (P5 : ¬ z0 = (0 : Int32)) (fm0 : Value) (O4 : Sta Z Z.heap "jdk/internal/util/Preconditions" "SIOOBE_FORMATTER" "Ljava/util/function/BiFunction;" fm0) (R4 : fm0.isRef = true) (ws : List Jvm.Cond) (a : Addr) (h0 : Heap) (n0 : Nat) (Z0 : n0 ≤ h0.size) (Xo : Old Z n0 h0) (Fc : Fld Z h0 a "java/lang/AbstractStringBuilder" "coder" "B" (.int (0 : Int32))) :
    own_MetN l Z (⟨"java/lang/AbstractStringBuilder", "isLatin1", "()Z"⟩ : MethodName) jdk_68_method_68_code 1 (some .boolean) ws ({ frames := 0, cells := 0, slots := 0, locals := 0 } : Room) #[(.ref a)] h0 (fun v h L => Fr n0 L ∧ h = h0 ∧ (((v = some (.int (1 : Int32)))))) := by
  refine own_metN (plainFor_of_name own_pn0) ?_
  intro p e s m below meth c s₁ G hx hby hml hZ hown hnm hret X0 e0 go fin
  have N0 := Fr.nil n0
  refine go _ _ (fun _ k => castTop (own_ef_rm24 m a) k) ?_
  obtain ⟨T101, X101, e101, st101⟩ := getS2 X0 hx hZ (host := "") hown (Or.inl (ow hw 68 rfl)) Via.refl e0 (O2.ext Xo.2) (g := (mkF m 0 #[r' a] [])) rfl (hb hby own_d24_0)
  refine go _ _ (st101) ?_
  show G (T101.setTop (mkF m 3 #[r' a] [(.int z0)]))
  refine go _ _ (fun _ k => XS.ifNo X101.here hx rfl (hb hby own_d24_3) rfl ((if0 _ _).trans (feq P5).1) k) ?_
  show G (T101.setTop (mkF m 6 #[r' a] []))
  refine go _ _ (fun _ k => XS.aloadN X101.here hx rfl (hb hby own_d24_6) rfl rfl k) ?_
  obtain ⟨T102, X102, e102, st102⟩ := getF X101 hx hZ hown (host := "") (Or.inl (ow hw 71 rfl)) Via.refl e101 Fc (g := (mkF m 7 #[r' a] [(.ref a)])) rfl rfl (hb hby own_d24_7)
  refine go _ _ (st102) ?_
  show G (T102.setTop (mkF m 10 #[r' a] [(.int 0)]))
  refine go _ _ (fun _ k => XS.ifNo X102.here hx rfl (hb hby own_d24_10) rfl (by decide) k) ?_
  show G (T102.setTop (mkF m 13 #[r' a] []))
  refine go _ _ (fun _ k => XS.iconst X102.here hx rfl (hb hby own_d24_13) k) ?_
  show G (T102.setTop (mkF m 14 #[r' a] [(.int 1)]))
  refine go _ _ (fun _ k => XS.goto X102.here hx rfl (pc0 := 14) (pc' := 18) rfl (hb hby own_d24_14) (by decide) (by decide) k) ?_
  show G (T102.setTop (mkF m 18 #[r' a] [(.int 1)]))
  refine fin T102 _ _ _ (some (.int (1 : Int32))) X102 (fun q => nomatch q) (by decide) (by decide) (by rw [e102]; exact ⟨N0, rfl, rfl⟩) _ (own_retN X102 hx (z := (1 : Int32)) (t := .boolean) hret (by simp) (hb hby own_d24_18))
theorem own_d25_0 : decode jdk_67_method_93_code 0 = .ok (.aload_n 0, 1) := by decide +kernel
theorem own_pd1 : parseMethodDescriptor "()I" = some ⟨[], some .int⟩ := by decide +kernel
theorem own_d25_1 : decode jdk_67_method_93_code 1 = .ok (.invokespecial 343, 3) := by decide +kernel
theorem own_d25_4 : decode jdk_67_method_93_code 4 = .ok (.ireturn, 1) := by decide +kernel
set_option maxHeartbeats 4000000 in
theorem own_ef_rm25 (m : MethodId) (x0 : Addr) : entryFrame m #[(.ref x0)] 1 = mkF m 0 #[.val (.ref x0)] [] := by rfl
set_option maxRecDepth 65536 in
set_option maxHeartbeats 40000000 in
theorem rm25 (l : Launch) (Z : State) (a0 : Array Value) (hw : ∀ d ∈ tables_1, d.before a0 Z = true) (z0 : Int32) (O2 : Sta Z Z.heap "java/lang/String" "COMPACT_STRINGS" "Z" (.int z0)) (P5 : ¬ z0 = (0 : Int32)) (fm0 : Value) (O4 : Sta Z Z.heap "jdk/internal/util/Preconditions" "SIOOBE_FORMATTER" "Ljava/util/function/BiFunction;" fm0) (R4 : fm0.isRef = true) (ws : List Jvm.Cond) (a : Addr) (n : Int32) (h0 : Heap) (n0 : Nat) (Z0 : n0 ≤ h0.size) (Ea : Exa Z h0 a "java/lang/StringBuilder") (Fn : Fld Z h0 a "java/lang/AbstractStringBuilder" "count" "I" (.int n)) :
    own_MetN l Z (⟨"java/lang/StringBuilder", "length", "()I"⟩ : MethodName) jdk_67_method_93_code 1 (some .int) ws ({ frames := 1, cells := 0, slots := 0, locals := 12 } : Room) #[(.ref a)] h0 (fun v h L => Fr n0 L ∧ h = h0 ∧ (((v = some (.int n))))) := by
  refine own_metN (plainFor_of_name own_pn1) ?_
  intro p e s m below meth c s₁ G hx hby hml hZ hown hnm hret X0 e0 go fin
  have N0 := Fr.nil n0
  refine go _ _ (fun _ k => castTop (own_ef_rm25 m a) k) ?_
  show G (s₁.setTop (mkF m 0 #[r' a] []))
  refine go _ _ (fun _ k => XS.aloadN X0.here hx rfl (hb hby own_d25_0) rfl rfl k) ?_
  obtain ⟨rv101, T101, L101, X101, q101, st101⟩ := own_su X0 hx hZ (y := (⟨"java/lang/AbstractStringBuilder", "length", "()I"⟩ : MethodName)) hown (ow hw 132 rfl) (own_same (z := (⟨"java/lang/AbstractStringBuilder", "ensureCapacityInternal", "(I)V"⟩ : MethodName)) (by decide) rfl (ow hw 119 rfl) (ow hw 133 rfl)) (ow hw 133 rfl) (ow hw 111 rfl) (by decide) (ow hw 135 rfl) (own_bkN (W := 0) (rm26 l Z a0 hw z0 O2 P5 fm0 O4 R4 [] a n h0 n0 Z0 Fn) hZ (ow hw 135 rfl) (ow hw 65 rfl) (by decide) (by decide)) e0 Ea (g := (mkF m 1 #[r' a] [(.ref a)])) rfl (by rw [hml]; rfl) (argsL := []) (rest := []) rfl (lenOf own_pd1 rfl) rfl (by show 2 * 0 + _ ≤ _; exact Nat.le_of_eq rfl) (hb hby own_d25_1) (by decide) (by decide)
  obtain ⟨Nq101, e101, rfl⟩ := q101
  have N101 := Fr.app N0 Nq101
  refine go _ _ (st101) ?_
  show G (T101.setTop (mkF m 4 #[r' a] [(.int n)]))
  refine fin T101 _ _ _ (some (.int n)) X101 (fun q => nomatch q) (by decide) (by decide) (by rw [e101]; exact ⟨N101, rfl, rfl⟩) _ (own_retI X101 hx hret (hb hby own_d25_4))
theorem own_d34_0 : decode jdk_29_method_69_code 0 = .ok (.iload_n 0, 1) := by decide +kernel
theorem own_d34_1 : decode jdk_29_method_69_code 1 = .ok (.iload_n 1, 1) := by decide +kernel
theorem own_d34_2 : decode jdk_29_method_69_code 2 = .ok (.if_icmp .gt 7, 3) := by decide +kernel
theorem own_d34_9 : decode jdk_29_method_69_code 9 = .ok (.iload_n 1, 1) := by decide +kernel
theorem own_d34_10 : decode jdk_29_method_69_code 10 = .ok (.ireturn, 1) := by decide +kernel
theorem own_d34_5 : decode jdk_29_method_69_code 5 = .ok (.iload_n 0, 1) := by decide +kernel
theorem own_d34_6 : decode jdk_29_method_69_code 6 = .ok (.goto 4, 3) := by decide +kernel
set_option maxHeartbeats 4000000 in
theorem own_ef_rm34 (m : MethodId) (x0 : Int32) (x1 : Int32) : entryFrame m #[(.int x0), (.int x1)] 2 = mkF m 0 #[.val (.int x0), .val (.int x1)] [] := by rfl
set_option maxRecDepth 65536 in
set_option maxHeartbeats 40000000 in
theorem rm34 (l : Launch) (Z : State) (a0 : Array Value) (hw : ∀ d ∈ tables_1, d.before a0 Z = true) (z0 : Int32) (O2 : Sta Z Z.heap "java/lang/String" "COMPACT_STRINGS" "Z" (.int z0)) (P5 : ¬ z0 = (0 : Int32)) (fm0 : Value) (O4 : Sta Z Z.heap "jdk/internal/util/Preconditions" "SIOOBE_FORMATTER" "Ljava/util/function/BiFunction;" fm0) (R4 : fm0.isRef = true) (ws : List Jvm.Cond) (x : Int32) (y : Int32) (h0 : Heap) (n0 : Nat) (Z0 : n0 ≤ h0.size) :
    own_MetN l Z (⟨"java/lang/Math", "min", "(II)I"⟩ : MethodName) jdk_29_method_69_code 2 (some .int) ws ({ frames := 0, cells := 0, slots := 0, locals := 0 } : Room) #[(.int x), (.int y)] h0 (fun v h L => Fr n0 L ∧ h = h0 ∧ (((v = some (.int y)) ∧ (y < x)) ∨ ((v = some (.int x)) ∧ (¬ y < x)))) := by
  refine own_metN (Free.JP.mathPlain rfl (by decide)) ?_
  intro p e s m below meth c s₁ G hx hby hml hZ hown hnm hret X0 e0 go fin
  have N0 := Fr.nil n0
  refine go _ _ (fun _ k => castTop (own_ef_rm34 m x y) k) ?_
  show G (s₁.setTop (mkF m 0 #[i' x, i' y] []))
  refine go _ _ (fun _ k => XS.iloadN X0.here hx rfl (hb hby own_d34_0) rfl (XS.iloadN X0.here hx rfl (hb hby own_d34_1) rfl k)) ?_
  show G (s₁.setTop (mkF m 2 #[i' x, i' y] [(.int y), (.int x)]))
  by_cases hc2_101 : y < x
  · refine go _ _ (fun _ k => XS.icmpYes X0.here hx rfl (pc0 := 2) (pc' := 9) rfl (hb hby own_d34_2) rfl (tlt hc2_101).2.2.1 (by decide) (by decide) k) ?_
    show G (s₁.setTop (mkF m 9 #[i' x, i' y] []))
    refine go _ _ (fun _ k => XS.iloadN X0.here hx rfl (hb hby own_d34_9) rfl k) ?_
    show G (s₁.setTop (mkF m 10 #[i' x, i' y] [(.int y)]))
    refine fin s₁ _ _ _ (some (.int y)) X0 (fun q => nomatch q) (by decide) (by decide) (by rw [e0]; exact ⟨N0, rfl, (Or.inl ⟨rfl, hc2_101⟩)⟩) _ (own_retI X0 hx hret (hb hby own_d34_10))
  · refine go _ _ (fun _ k => XS.icmpNo X0.here hx rfl (hb hby own_d34_2) rfl (flt hc2_101).2.2.1 k) ?_
    show G (s₁.setTop (mkF m 5 #[i' x, i' y] []))
    refine go _ _ (fun _ k => XS.iloadN X0.here hx rfl (hb hby own_d34_5) rfl k) ?_
    show G (s₁.setTop (mkF m 6 #[i' x, i' y] [(.int x)]))
    refine go _ _ (fun _ k => XS.goto X0.here hx rfl (pc0 := 6) (pc' := 10) rfl (hb hby own_d34_6) (by decide) (by decide) k) ?_
    show G (s₁.setTop (mkF m 10 #[i' x, i' y] [(.int x)]))
    refine fin s₁ _ _ _ (some (.int x)) X0 (fun q => nomatch q) (by decide) (by decide) (by rw [e0]; exact ⟨N0, rfl, (Or.inr ⟨rfl, hc2_101⟩)⟩) _ (own_retI X0 hx hret (hb hby own_d34_10))
theorem own_d23_0 : decode jdk_68_method_9_code 0 = .ok (.aload_n 0, 1) := by decide +kernel
theorem own_d23_1 : decode jdk_68_method_9_code 1 = .ok (.getfield 15, 3) := by decide +kernel
theorem own_d23_4 : decode jdk_68_method_9_code 4 = .ok (.arraylength, 1) := by decide +kernel
theorem own_d23_5 : decode jdk_68_method_9_code 5 = .ok (.aload_n 0, 1) := by decide +kernel
theorem own_d23_6 : decode jdk_68_method_9_code 6 = .ok (.getfield 22, 3) := by decide +kernel
theorem own_d23_9 : decode jdk_68_method_9_code 9 = .ok (.ishr, 1) := by decide +kernel
theorem own_d23_10 : decode jdk_68_method_9_code 10 = .ok (.istore_n 2, 1) := by decide +kernel
theorem own_d23_11 : decode jdk_68_method_9_code 11 = .ok (.iload_n 1, 1) := by decide +kernel
theorem own_d23_12 : decode jdk_68_method_9_code 12 = .ok (.iload_n 2, 1) := by decide +kernel
theorem own_d23_13 : decode jdk_68_method_9_code 13 = .ok (.isub, 1) := by decide +kernel
theorem own_d23_14 : decode jdk_68_method_9_code 14 = .ok (.ifCond .le 24, 3) := by decide +kernel
theorem own_d23_38 : decode jdk_68_method_9_code 38 = .ok (.return_, 1) := by decide +kernel
set_option maxHeartbeats 4000000 in
theorem own_ef_rm23 (m : MethodId) (x0 : Addr) (x1 : Int32) : entryFrame m #[(.ref x0), (.int x1)] 3 = mkF m 0 #[.val (.ref x0), .val (.int x1), .unset] [] := by rfl
set_option maxRecDepth 65536 in
set_option maxHeartbeats 40000000 in
theorem rm23 (l : Launch) (Z : State) (a0 : Array Value) (hw : ∀ d ∈ tables_1, d.before a0 Z = true) (z0 : Int32) (O2 : Sta Z Z.heap "java/lang/String" "COMPACT_STRINGS" "Z" (.int z0)) (P5 : ¬ z0 = (0 : Int32)) (fm0 : Value) (O4 : Sta Z Z.heap "jdk/internal/util/Preconditions" "SIOOBE_FORMATTER" "Ljava/util/function/BiFunction;" fm0) (R4 : fm0.isRef = true) (ws : List Jvm.Cond) (a : Addr) (mn : Int32) (t : Addr) (kb : ClassId) (vs : List Value) (h0 : Heap) (n0 : Nat) (Z0 : n0 ≤ h0.size) (Fv : Fld Z h0 a "java/lang/AbstractStringBuilder" "value" "[B" (.ref t)) (Fc : Fld Z h0 a "java/lang/AbstractStringBuilder" "coder" "B" (.int (0 : Int32))) (At : Arv Z h0 t kb .byte (16 : Int32) vs (.int (0 : Int32))) (hm : ¬ (0 : Int32) < (mn - (16 : Int32))) :
    own_MetN l Z (⟨"java/lang/AbstractStringBuilder", "ensureCapacityInternal", "(I)V"⟩ : MethodName) jdk_68_method_9_code 3 none ws ({ frames := 0, cells := 0, slots := 0, locals := 0 } : Room) #[(.ref a), (.int mn)] h0 (fun v h L => Fr n0 L ∧ h = h0 ∧ (((v = none)))) := by
  refine own_metN (plainFor_of_name own_pn0) ?_
  intro p e s m below meth c s₁ G hx hby hml hZ hown hnm hret X0 e0 go fin
  have N0 := Fr.nil n0
  refine go _ _ (fun _ k => castTop (own_ef_rm23 m a mn) k) ?_
  show G (s₁.setTop (mkF m 0 #[r' a, i' mn, u'] []))
  refine go _ _ (fun _ k => XS.aloadN X0.here hx rfl (hb hby own_d23_0) rfl rfl k) ?_
  obtain ⟨T101, X101, e101, st101⟩ := getF X0 hx hZ hown (host := "") (Or.inl (ow hw 69 rfl)) Via.refl e0 Fv (g := (mkF m 1 #[r' a, i' mn, u'] [(.ref a)])) rfl rfl (hb hby own_d23_1)
  refine go _ _ (st101) ?_
  show G (T101.setTop (mkF m 4 #[r' a, i' mn, u'] [(.ref t)]))
  obtain ⟨cl102, Ar102, q102, S102, M102, H102, U102⟩ := id At
  refine go _ _ (fun _ k => X101.arraylength hx (by rw [e101]; exact Ar102.1) (State.isArrayOf_alike hZ.alike Ar102.2.1) (g := (mkF m 4 #[r' a, i' mn, u'] [(.ref t)])) rfl rfl (hb hby own_d23_4) _ k) ?_
  show G (T101.setTop (mkF m 5 #[r' a, i' mn, u'] [(.int cl102.slots.size.toInt32)]))
  rw [len_of S102 M102]
  show G (T101.setTop (mkF m 5 #[r' a, i' mn, u'] [(.int 16)]))
  refine go _ _ (fun _ k => XS.aloadN X101.here hx rfl (hb hby own_d23_5) rfl rfl k) ?_
  obtain ⟨T103, X103, e103, st103⟩ := getF X101 hx hZ hown (host := "") (Or.inl (ow hw 71 rfl)) Via.refl e101 Fc (g := (mkF m 6 #[r' a, i' mn, u'] [(.ref a), (.int 16)])) rfl rfl (hb hby own_d23_6)
  refine go _ _ (st103) ?_
  show G (T103.setTop (mkF m 9 #[r' a, i' mn, u'] [(.int 0), (.int 16)]))
  refine go _ _ (fun _ k => XS.ishr X103.here hx rfl (hb hby own_d23_9) rfl (XS.istoreN X103.here hx rfl (hb hby own_d23_10) rfl (l' := #[r' a, i' mn, i' 16]) rfl (XS.iloadN X103.here hx rfl (hb hby own_d23_11) rfl (XS.iloadN X103.here hx rfl (hb hby own_d23_12) rfl (XS.isub X103.here hx rfl (hb hby own_d23_13) rfl k))))) ?_
  show G (T103.setTop (mkF m 14 #[r' a, i' mn, i' 16] [(.int (mn - (16 : Int32)))]))
  refine go _ _ (fun _ k => XS.ifYes X103.here hx rfl (pc0 := 14) (pc' := 38) rfl (hb hby own_d23_14) rfl ((if0 _ _).trans (flt hm).2.2.2) (by decide) (by decide) k) ?_
  show G (T103.setTop (mkF m 38 #[r' a, i' mn, i' 16] []))
  refine fin T103 _ _ _ none X103 (fun _ => rfl) (by decide) (by decide) (by rw [e103]; exact ⟨N0, rfl, rfl⟩) _ (own_retV X103 hx hret (hb hby own_d23_38))
theorem own_pn4 : plainName "java/lang/StringLatin1" = true := by decide +kernel
theorem own_d8_0 : decode jdk_43_method_3_code 0 = .ok (.iload_n 0, 1) := by decide +kernel
theorem own_d8_1 : decode jdk_43_method_3_code 1 = .ok (.sipush 255, 3) := by decide +kernel
theorem own_d8_4 : decode jdk_43_method_3_code 4 = .ok (.if_icmp .gt 7, 3) := by decide +kernel
theorem own_d8_7 : decode jdk_43_method_3_code 7 = .ok (.iconst 1, 1) := by decide +kernel
theorem own_d8_8 : decode jdk_43_method_3_code 8 = .ok (.goto 4, 3) := by decide +kernel
theorem own_d8_12 : decode jdk_43_method_3_code 12 = .ok (.ireturn, 1) := by decide +kernel
set_option maxHeartbeats 4000000 in
theorem own_ef_rm8 (m : MethodId) (x0 : Int32) : entryFrame m #[(.int x0)] 1 = mkF m 0 #[.val (.int x0)] [] := by rfl
set_option maxRecDepth 65536 in
set_option maxHeartbeats 40000000 in
theorem rm8 (l : Launch) (Z : State) (a0 : Array Value) (hw : ∀ d ∈ tables_1, d.before a0 Z = true) (z0 : Int32) (O2 : Sta Z Z.heap "java/lang/String" "COMPACT_STRINGS" "Z" (.int z0)) (P5 : ¬ z0 = (0 : Int32)) (fm0 : Value) (O4 : Sta Z Z.heap "jdk/internal/util/Preconditions" "SIOOBE_FORMATTER" "Ljava/util/function/BiFunction;" fm0) (R4 : fm0.isRef = true) (ws : List Jvm.Cond) (q : Int32) (h0 : Heap) (n0 : Nat) (Z0 : n0 ≤ h0.size) (h2 : ¬ (255 : Int32) < q) :
    own_MetN l Z (⟨"java/lang/StringLatin1", "canEncode", "(C)Z"⟩ : MethodName) jdk_43_method_3_code 1 (some .boolean) ws ({ frames := 0, cells := 0, slots := 0, locals := 0 } : Room) #[(.int q)] h0 (fun v h L => Fr n0 L ∧ h = h0 ∧ (((v = some (.int (1 : Int32)))))) := by
  refine own_metN (plainFor_of_name own_pn4) ?_
  intro p e s m below meth c s₁ G hx hby hml hZ hown hnm hret X0 e0 go fin
  have N0 := Fr.nil n0
  refine go _ _ (fun _ k => castTop (own_ef_rm8 m q) k) ?_
  show G (s₁.setTop (mkF m 0 #[i' q] []))
  refine go _ _ (fun _ k => XS.iloadN X0.here hx rfl (hb hby own_d8_0) rfl (XS.sipush X0.here hx rfl (hb hby own_d8_1) k)) ?_
  show G (s₁.setTop (mkF m 4 #[i' q] [(.int 255), (.int q)]))
  refine go _ _ (fun _ k => XS.icmpNo X0.here hx rfl (hb hby own_d8_4) rfl (flt h2).2.2.1 k) ?_
  show G (s₁.setTop (mkF m 7 #[i' q] []))
  refine go _ _ (fun _ k => XS.iconst X0.here hx rfl (hb hby own_d8_7) k) ?_
  show G (s₁.setTop (mkF m 8 #[i' q] [(.int 1)]))
  refine go _ _ (fun _ k => XS.goto X0.here hx rfl (pc0 := 8) (pc' := 12) rfl (hb hby own_d8_8) (by decide) (by decide) k) ?_
  show G (s₁.setTop (mkF m 12 #[i' q] [(.int 1)]))
  refine fin s₁ _ _ _ (some (.int (1 : Int32))) X0 (fun q => nomatch q) (by decide) (by decide) (by rw [e0]; exact ⟨N0, rfl, rfl⟩) _ (own_retN X0 hx (z := (1 : Int32)) (t := .boolean) hret (by simp) (hb hby own_d8_12))
theorem own_d22_0 : decode jdk_68_method_31_code 0 = .ok (.aload_n 0, 1) := by decide +kernel
theorem own_d22_1 : decode jdk_68_method_31_code 1 = .ok (.aload_n 0, 1) := by decide +kernel
theorem own_d22_2 : decode jdk_68_method_31_code 2 = .ok (.getfield 79, 3) := by decide +kernel
theorem own_d22_5 : decode jdk_68_method_31_code 5 = .ok (.iconst 1, 1) := by decide +kernel
theorem own_d22_6 : decode jdk_68_method_31_code 6 = .ok (.iadd, 1) := by decide +kernel
theorem own_d22_7 : decode jdk_68_method_31_code 7 = .ok (.invokevirtual 100, 3) := by decide +kernel
theorem own_d22_10 : decode jdk_68_method_31_code 10 = .ok (.aload_n 0, 1) := by decide +kernel
theorem own_pd2 : parseMethodDescriptor "()Z" = some ⟨[], some .boolean⟩ := by decide +kernel
theorem own_d22_11 : decode jdk_68_method_31_code 11 = .ok (.invokevirtual 83, 3) := by decide +kernel
theorem own_d22_14 : decode jdk_68_method_31_code 14 = .ok (.ifCond .eq 31, 3) := by decide +kernel
theorem own_d22_17 : decode jdk_68_method_31_code 17 = .ok (.iload_n 1, 1) := by decide +kernel
theorem own_pd3 : parseMethodDescriptor "(C)Z" = some ⟨[.char], some .boolean⟩ := by decide +kernel
theorem own_d22_18 : decode jdk_68_method_31_code 18 = .ok (.invokestatic 191, 3) := by decide +kernel
theorem own_d22_21 : decode jdk_68_method_31_code 21 = .ok (.ifCond .eq 24, 3) := by decide +kernel
theorem own_d22_24 : decode jdk_68_method_31_code 24 = .ok (.aload_n 0, 1) := by decide +kernel
theorem own_d22_25 : decode jdk_68_method_31_code 25 = .ok (.getfield 15, 3) := by decide +kernel
theorem own_d22_28 : decode jdk_68_method_31_code 28 = .ok (.aload_n 0, 1) := by decide +kernel
theorem own_d22_29 : decode jdk_68_method_31_code 29 = .ok (.dup, 1) := by decide +kernel
theorem own_d22_30 : decode jdk_68_method_31_code 30 = .ok (.getfield 79, 3) := by decide +kernel
theorem own_d22_33 : decode jdk_68_method_31_code 33 = .ok (.dup_x1, 1) := by decide +kernel
theorem own_d22_34 : decode jdk_68_method_31_code 34 = .ok (.iconst 1, 1) := by decide +kernel
theorem own_d22_35 : decode jdk_68_method_31_code 35 = .ok (.iadd, 1) := by decide +kernel
theorem own_d22_36 : decode jdk_68_method_31_code 36 = .ok (.putfield 79, 3) := by decide +kernel
theorem own_d22_39 : decode jdk_68_method_31_code 39 = .ok (.iload_n 1, 1) := by decide +kernel
theorem own_d22_40 : decode jdk_68_method_31_code 40 = .ok (.i2b, 1) := by decide +kernel
theorem own_d22_41 : decode jdk_68_method_31_code 41 = .ok (.bastore, 1) := by decide +kernel
theorem own_d22_42 : decode jdk_68_method_31_code 42 = .ok (.goto 33, 3) := by decide +kernel
theorem own_d22_75 : decode jdk_68_method_31_code 75 = .ok (.aload_n 0, 1) := by decide +kernel
theorem own_d22_76 : decode jdk_68_method_31_code 76 = .ok (.areturn, 1) := by decide +kernel
set_option maxHeartbeats 4000000 in
theorem own_ef_rm22 (m : MethodId) (x0 : Addr) (x1 : Int32) : entryFrame m #[(.ref x0), (.int x1)] 2 = mkF m 0 #[.val (.ref x0), .val (.int x1)] [] := by rfl
set_option maxRecDepth 65536 in
set_option maxHeartbeats 40000000 in
theorem rm22 (l : Launch) (Z : State) (a0 : Array Value) (hw : ∀ d ∈ tables_1, d.before a0 Z = true) (z0 : Int32) (O2 : Sta Z Z.heap "java/lang/String" "COMPACT_STRINGS" "Z" (.int z0)) (P5 : ¬ z0 = (0 : Int32)) (fm0 : Value) (O4 : Sta Z Z.heap "jdk/internal/util/Preconditions" "SIOOBE_FORMATTER" "Ljava/util/function/BiFunction;" fm0) (R4 : fm0.isRef = true) (ws : List Jvm.Cond) (a : Addr) (q : Int32) (t : Addr) (kb : ClassId) (cs : List Int32) (h0 : Heap) (n0 : Nat) (Z0 : n0 ≤ h0.size) (Xo : Old Z n0 h0) (Ea : Exa Z h0 a "java/lang/StringBuilder") (Fv : Fld Z h0 a "java/lang/AbstractStringBuilder" "value" "[B" (.ref t)) (Fc : Fld Z h0 a "java/lang/AbstractStringBuilder" "coder" "B" (.int (0 : Int32))) (Fn : Fld Z h0 a "java/lang/AbstractStringBuilder" "count" "I" (.int (own_n cs))) (At : Arv Z h0 t kb .byte (16 : Int32) (own_bs cs) (.int (0 : Int32))) (h2 : ¬ (255 : Int32) < q) (hz1 : cs.length + 1 ≤ 16) (gz_a : n0 ≤ a) (gz_t : n0 ≤ t) :
    own_MetN l Z (⟨"java/lang/AbstractStringBuilder", "append", "(C)Ljava/lang/AbstractStringBuilder;"⟩ : MethodName) jdk_68_method_31_code 2 (some (.object "java/lang/AbstractStringBuilder")) ws ({ frames := 1, cells := 0, slots := 0, locals := 14 } : Room) #[(.ref a), (.int q)] h0 (fun v h L => Fr n0 L ∧ Keep h0 h [a, t] ∧ (((v = some (.ref a)) ∧ (Exa Z h a "java/lang/StringBuilder") ∧ (Fld Z h a "java/lang/AbstractStringBuilder" "value" "[B" (.ref t)) ∧ (Fld Z h a "java/lang/AbstractStringBuilder" "coder" "B" (.int (0 : Int32))) ∧ (Fld Z h a "java/lang/AbstractStringBuilder" "count" "I" (.int (own_n (cs ++ [q])))) ∧ (Arv Z h t kb .byte (16 : Int32) (own_bs (cs ++ [q])) (.int (0 : Int32)))))) := by
  refine own_metN (plainFor_of_name own_pn0) ?_
  intro p e s m below meth c s₁ G hx hby hml hZ hown hnm hret X0 e0 go fin
  have N0 := Fr.nil n0
  refine go _ _ (fun _ k => castTop (own_ef_rm22 m a q) k) ?_
  show G (s₁.setTop (mkF m 0 #[r' a, i' q] []))
  refine go _ _ (fun _ k => XS.aloadN X0.here hx rfl (hb hby own_d22_0) rfl rfl (XS.aloadN X0.here hx rfl (hb hby own_d22_1) rfl rfl k)) ?_
  obtain ⟨T101, X101, e101, st101⟩ := getF X0 hx hZ hown (host := "") (Or.inl (ow hw 114 rfl)) Via.refl e0 Fn (g := (mkF m 2 #[r' a, i' q] [(.ref a), (.ref a)])) rfl rfl (hb hby own_d22_2)
  refine go _ _ (st101) ?_
  show G (T101.setTop (mkF m 5 #[r' a, i' q] [(.int (own_n cs)), (.ref a)]))
  refine go _ _ (fun _ k => XS.iconst X101.here hx rfl (hb hby own_d22_5) (XS.iadd X101.here hx rfl (hb hby own_d22_6) rfl k)) ?_
  obtain ⟨rv102, T102, L102, X102, q102, st102⟩ := own_pr X101 hx hZ (y := (⟨"java/lang/AbstractStringBuilder", "ensureCapacityInternal", "(I)V"⟩ : MethodName)) hown (ow hw 116 rfl) (ow hw 117 rfl) (ow hw 119 rfl) (ow hw 118 rfl) (ow hw 120 rfl) (by decide) (own_bkN (W := 0) (rm23 l Z a0 hw z0 O2 P5 fm0 O4 R4 [] a ((own_n cs) + (1 : Int32)) t kb (own_bs cs) h0 n0 Z0 Fv Fc At (own_cap1 hz1)) hZ (ow hw 120 rfl) (ow hw 65 rfl) (by decide) (by decide)) e101 Ea (g := (mkF m 7 #[r' a, i' q] [(.int ((own_n cs) + (1 : Int32))), (.ref a)])) rfl (by rw [hml]; rfl) (argsL := [(.int ((own_n cs) + (1 : Int32)))]) (rest := []) rfl (lenOf own_pd0 rfl) rfl (by show 2 * 0 + _ ≤ _; exact Nat.le_of_eq rfl) (hb hby own_d22_7) (by decide) (by decide)
  obtain ⟨Nq102, e102, rfl⟩ := q102
  have N102 := Fr.app N0 Nq102
  refine go _ _ (st102) ?_
  show G (T102.setTop (mkF m 10 #[r' a, i' q] []))
  refine go _ _ (fun _ k => XS.aloadN X102.here hx rfl (hb hby own_d22_10) rfl rfl k) ?_
  obtain ⟨rv103, T103, L103, X103, q103, st103⟩ := own_vi X102 hx hZ (y := (⟨"java/lang/AbstractStringBuilder", "isLatin1", "()Z"⟩ : MethodName)) (z := (⟨"java/lang/AbstractStringBuilder", "isLatin1", "()Z"⟩ : MethodName)) hown (ow hw 121 rfl) (ow hw 122 rfl) (ow hw 124 rfl) (ow hw 123 rfl) (Or.inl rfl) (by decide) (own_bkN (W := 0) (rm24 l Z a0 hw z0 O2 P5 fm0 O4 R4 [] a h0 n0 Z0 Xo Fc) hZ (ow hw 125 rfl) (ow hw 65 rfl) (by decide) (by decide)) e102 Ea (g := (mkF m 11 #[r' a, i' q] [(.ref a)])) rfl (by rw [hml]; rfl) (argsL := []) (rest := []) rfl (lenOf own_pd2 rfl) rfl (by show 2 * 0 + _ ≤ _; exact Nat.le_of_eq rfl) (hb hby own_d22_11) (by decide) (by decide)
  obtain ⟨Nq103, e103, rfl⟩ := q103
  have N103 := Fr.app N102 Nq103
  refine go _ _ (st103) ?_
  show G (T103.setTop (mkF m 14 #[r' a, i' q] [(.int 1)]))
  refine go _ _ (fun _ k => XS.ifNo X103.here hx rfl (hb hby own_d22_14) rfl (by decide) k) ?_
  show G (T103.setTop (mkF m 17 #[r' a, i' q] []))
  refine go _ _ (fun _ k => XS.iloadN X103.here hx rfl (hb hby own_d22_17) rfl k) ?_
  obtain ⟨rv104, T104, L104, X104, q104, st104⟩ := own_st X103 hx hZ (y := (⟨"java/lang/StringLatin1", "canEncode", "(C)Z"⟩ : MethodName)) hown (ow hw 126 rfl) (ow hw 38 rfl) (ow hw 39 rfl) (ow hw 40 rfl) (by decide) (own_bkN (W := 0) (rm8 l Z a0 hw z0 O2 P5 fm0 O4 R4 [] q h0 n0 Z0 h2) hZ (ow hw 40 rfl) (ow hw 39 rfl) (by decide) (by decide)) e103 (g := (mkF m 18 #[r' a, i' q] [(.int q)])) rfl (by rw [hml]; rfl) (argsL := [(.int q)]) (rest := []) rfl (lenOf own_pd3 rfl) rfl (by show 2 * 0 + _ ≤ _; exact Nat.le_of_eq rfl) (hb hby own_d22_18) (by decide) (by decide)
  obtain ⟨Nq104, e104, rfl⟩ := q104
  have N104 := Fr.app N103 Nq104
  refine go _ _ (st104) ?_
  show G (T104.setTop (mkF m 21 #[r' a, i' q] [(.int 1)]))
  refine go _ _ (fun _ k => XS.ifNo X104.here hx rfl (hb hby own_d22_21) rfl (by decide) k) ?_
  show G (T104.setTop (mkF m 24 #[r' a, i' q] []))
  refine go _ _ (fun _ k => XS.aloadN X104.here hx rfl (hb hby own_d22_24) rfl rfl k) ?_
  obtain ⟨T105, X105, e105, st105⟩ := getF X104 hx hZ hown (host := "") (Or.inl (ow hw 69 rfl)) Via.refl e104 Fv (g := (mkF m 25 #[r' a, i' q] [(.ref a)])) rfl rfl (hb hby own_d22_25)
  refine go _ _ (st105) ?_
  show G (T105.setTop (mkF m 28 #[r' a, i' q] [(.ref t)]))
  refine go _ _ (fun _ k => XS.aloadN X105.here hx rfl (hb hby own_d22_28) rfl rfl (XS.dup X105.here hx rfl (hb hby own_d22_29) rfl rfl k)) ?_
  obtain ⟨T106, X106, e106, st106⟩ := getF X105 hx hZ hown (host := "") (Or.inl (ow hw 114 rfl)) Via.refl e105 Fn (g := (mkF m 30 #[r' a, i' q] [(.ref a), (.ref a), (.ref t)])) rfl rfl (hb hby own_d22_30)
  refine go _ _ (st106) ?_
  show G (T106.setTop (mkF m 33 #[r' a, i' q] [(.int (own_n cs)), (.ref a), (.ref t)]))
  refine go _ _ (fun _ k => XS.dupX1 X106.here hx rfl (hb hby own_d22_33) rfl rfl rfl (XS.iconst X106.here hx rfl (hb hby own_d22_34) (XS.iadd X106.here hx rfl (hb hby own_d22_35) rfl k))) ?_
  show G (T106.setTop (mkF m 36 #[r' a, i' q] [(.int ((own_n cs) + (1 : Int32))), (.ref a), (.int (own_n cs)), (.ref t)]))
  rw [(own_n1 cs q)]
  show G (T106.setTop (mkF m 36 #[r' a, i' q] [(.int (own_n (cs ++ [q]))), (.ref a), (.int (own_n cs)), (.ref t)]))
  obtain ⟨T107, h107, X107, e107, W107, st107⟩ := putF X106 hx hZ hown (host := "") (Or.inl (ow hw 114 rfl)) Via.refl e106 Fn Ea (Or.inl (ow hw 115 rfl)) (ow hw 56 rfl) (ty := .int) (by decide) rfl rfl (g := (mkF m 36 #[r' a, i' q] [(.int (own_n (cs ++ [q]))), (.ref a), (.int (own_n cs)), (.ref t)])) rfl rfl (hb hby own_d22_36)
  have N107 := Fr.snoc X107 N104 gz_a
  refine go _ _ (st107) ?_
  show G (T107.setTop (mkF m 39 #[r' a, i' q] [(.int (own_n cs)), (.ref t)]))
  refine go _ _ (fun _ k => XS.iloadN X107.here hx rfl (hb hby own_d22_39) rfl (XS.i2b X107.here hx rfl (hb hby own_d22_40) rfl k)) ?_
  have K109 : Keep h0 h107 [a] := (Keep.refl h0 [a]).wr W107 (Or.inl (List.mem_of_getElem? (i := 0) rfl))
  have F110 : Arv Z h107 t kb .byte (16 : Int32) (own_bs cs) (.int (0 : Int32)) := (At.keep K109 (ninS (Ne.symm (Exa.neArv Ea At (ow hw 56 rfl))) nin0))
  have Vp108 : Arv Z h107 t kb .byte (16 : Int32) (own_bs cs ++ [.int 0]) (.int 0) := F110.pad (pad_rep _ _ 1)
  obtain ⟨cl108, Ar108, q108, S108, M108, H108, U108⟩ := id Vp108
  obtain ⟨T108, h108, X108, e108, W108, st108⟩ := stB X107 hx hZ e107 Ar108 (j := (own_n cs)) (inb_of S108 ⟨own_n_nn (by omega), own_n_lt (k := 16) rfl (by omega) (by decide)⟩) (g := (mkF m 41 #[r' a, i' q] [(.int (q.toInt8.toInt32)), (.int (own_n cs)), (.ref t)])) rfl rfl (hb hby own_d22_41)
  have V108 := Arv.set Ar108 q108 S108 M108 H108 U108 (fits_nar_byte _) W108 cs.length (own_nN (by omega)).1 (by simp [own_bs_len])
  rw [own_i2bb, own_bset] at V108
  have N108 := Fr.snoc X108 N107 gz_t
  refine go _ _ (st108) ?_
  show G (T108.setTop (mkF m 42 #[r' a, i' q] []))
  refine go _ _ (fun _ k => XS.goto X108.here hx rfl (pc0 := 42) (pc' := 75) rfl (hb hby own_d22_42) (by decide) (by decide) k) ?_
  show G (T108.setTop (mkF m 75 #[r' a, i' q] []))
  refine go _ _ (fun _ k => XS.aloadN X108.here hx rfl (hb hby own_d22_75) rfl rfl k) ?_
  show G (T108.setTop (mkF m 76 #[r' a, i' q] [(.ref a)]))
  have K111 : Keep h0 h107 [a, t] := (Keep.refl h0 [a, t]).wr W107 (Or.inl (List.mem_of_getElem? (i := 0) rfl))
  have K112 : Keep h0 h108 [a, t] := K111.wr W108 (Or.inl (List.mem_of_getElem? (i := 1) rfl))
  have K113 : Keep h107 h108 [t] := (Keep.refl h107 [t]).wr W108 (Or.inl (List.mem_of_getElem? (i := 0) rfl))
  have F114 : Exa Z h108 a "java/lang/StringBuilder" := ((Ea.wr W107).keep K113)
  have F115 : Fld Z h108 a "java/lang/AbstractStringBuilder" "value" "[B" (.ref t) := ((Fv.other W107 (Or.inr (RoadKit.slot_ne (t := (.array .byte)) (t' := .int) (Or.inl (ow hw 70 rfl)) (Or.inl (ow hw 115 rfl)) (by decide) (by decide) (by decide)))).keep K113 (ninS (Exa.neArv Ea At (ow hw 56 rfl)) nin0))
  have F116 : Fld Z h108 a "java/lang/AbstractStringBuilder" "coder" "B" (.int (0 : Int32)) := ((Fc.other W107 (Or.inr (RoadKit.slot_ne (t := .byte) (t' := .int) (Or.inl (ow hw 72 rfl)) (Or.inl (ow hw 115 rfl)) (by decide) (by decide) (by decide)))).keep K113 (ninS (Exa.neArv Ea At (ow hw 56 rfl)) nin0))
  have F117 : Fld Z h108 a "java/lang/AbstractStringBuilder" "count" "I" (.int (own_n (cs ++ [q]))) := ((Fn.same W107).keep K113 (ninS (Exa.neArv Ea At (ow hw 56 rfl)) nin0))
  refine fin T108 _ _ _ (some (.ref a)) X108 (fun q => nomatch q) (by decide) (by decide) (by rw [e108]; exact ⟨N108, K112, ⟨rfl, F114, F115, F116, F117, V108⟩⟩) _ (own_retA X108 hx hret rfl rfl rfl (hb hby own_d22_76))
theorem own_d21_0 : decode jdk_67_method_14_code 0 = .ok (.aload_n 0, 1) := by decide +kernel
theorem own_d21_1 : decode jdk_67_method_14_code 1 = .ok (.iload_n 1, 1) := by decide +kernel
theorem own_pd4 : parseMethodDescriptor "(C)Ljava/lang/AbstractStringBuilder;" = some ⟨[.char], some (.object "java/lang/AbstractStringBuilder")⟩ := by decide +kernel
theorem own_d21_2 : decode jdk_67_method_14_code 2 = .ok (.invokespecial 50, 3) := by decide +kernel
theorem own_d21_5 : decode jdk_67_method_14_code 5 = .ok (.pop, 1) := by decide +kernel
theorem own_d21_6 : decode jdk_67_method_14_code 6 = .ok (.aload_n 0, 1) := by decide +kernel
theorem own_d21_7 : decode jdk_67_method_14_code 7 = .ok (.areturn, 1) := by decide +kernel
set_option maxHeartbeats 4000000 in
theorem own_ef_rm21 (m : MethodId) (x0 : Addr) (x1 : Int32) : entryFrame m #[(.ref x0), (.int x1)] 2 = mkF m 0 #[.val (.ref x0), .val (.int x1)] [] := by rfl
set_option maxRecDepth 65536 in
set_option maxHeartbeats 40000000 in
theorem rm21 (l : Launch) (Z : State) (a0 : Array Value) (hw : ∀ d ∈ tables_1, d.before a0 Z = true) (z0 : Int32) (O2 : Sta Z Z.heap "java/lang/String" "COMPACT_STRINGS" "Z" (.int z0)) (P5 : ¬ z0 = (0 : Int32)) (fm0 : Value) (O4 : Sta Z Z.heap "jdk/internal/util/Preconditions" "SIOOBE_FORMATTER" "Ljava/util/function/BiFunction;" fm0) (R4 : fm0.isRef = true) (ws : List Jvm.Cond) (a : Addr) (q : Int32) (t : Addr) (kb : ClassId) (cs : List Int32) (h0 : Heap) (n0 : Nat) (Z0 : n0 ≤ h0.size) (Xo : Old Z n0 h0) (Ea : Exa Z h0 a "java/lang/StringBuilder") (Fv : Fld Z h0 a "java/lang/AbstractStringBuilder" "value" "[B" (.ref t)) (Fc : Fld Z h0 a "java/lang/AbstractStringBuilder" "coder" "B" (.int (0 : Int32))) (Fn : Fld Z h0 a "java/lang/AbstractStringBuilder" "count" "I" (.int (own_n cs))) (At : Arv Z h0 t kb .byte (16 : Int32) (own_bs cs) (.int (0 : Int32))) (h2 : ¬ (255 : Int32) < q) (hz1 : cs.length + 1 ≤ 16) (gz_a : n0 ≤ a) (gz_t : n0 ≤ t) :
    own_MetN l Z (⟨"java/lang/StringBuilder", "append", "(C)Ljava/lang/StringBuilder;"⟩ : MethodName) jdk_67_method_14_code 2 (some (.object "java/lang/StringBuilder")) ws ({ frames := 2, cells := 0, slots := 0, locals := 27 } : Room) #[(.ref a), (.int q)] h0 (fun v h L => Fr n0 L ∧ Keep h0 h [a, t] ∧ (((v = some (.ref a)) ∧ (Exa Z h a "java/lang/StringBuilder") ∧ (Fld Z h a "java/lang/AbstractStringBuilder" "value" "[B" (.ref t)) ∧ (Fld Z h a "java/lang/AbstractStringBuilder" "coder" "B" (.int (0 : Int32))) ∧ (Fld Z h a "java/lang/AbstractStringBuilder" "count" "I" (.int (own_n (cs ++ [q])))) ∧ (Arv Z h t kb .byte (16 : Int32) (own_bs (cs ++ [q])) (.int (0 : Int32)))))) := by
  refine own_metN (plainFor_of_name own_pn1) ?_
  intro p e s m below meth c s₁ G hx hby hml hZ hown hnm hret X0 e0 go fin
  have N0 := Fr.nil n0
  refine go _ _ (fun _ k => castTop (own_ef_rm21 m a q) k) ?_
  show G (s₁.setTop (mkF m 0 #[r' a, i' q] []))
  refine go _ _ (fun _ k => XS.aloadN X0.here hx rfl (hb hby own_d21_0) rfl rfl (XS.iloadN X0.here hx rfl (hb hby own_d21_1) rfl k)) ?_
  obtain ⟨rv101, T101, L101, X101, q101, st101⟩ := own_su X0 hx hZ (y := (⟨"java/lang/AbstractStringBuilder", "append", "(C)Ljava/lang/AbstractStringBuilder;"⟩ : MethodName)) hown (ow hw 109 rfl) (own_same (z := (⟨"java/lang/AbstractStringBuilder", "ensureCapacityInternal", "(I)V"⟩ : MethodName)) (by decide) rfl (ow hw 119 rfl) (ow hw 110 rfl)) (ow hw 110 rfl) (ow hw 111 rfl) (by decide) (ow hw 113 rfl) (own_bkN (W := 0) (rm22 l Z a0 hw z0 O2 P5 fm0 O4 R4 [] a q t kb cs h0 n0 Z0 Xo Ea Fv Fc Fn At h2 hz1 gz_a gz_t) hZ (ow hw 113 rfl) (ow hw 65 rfl) (by decide) (by decide)) e0 Ea (g := (mkF m 2 #[r' a, i' q] [(.int q), (.ref a)])) rfl (by rw [hml]; rfl) (argsL := [(.int q)]) (rest := []) rfl (lenOf own_pd4 rfl) rfl (by show 2 * 0 + _ ≤ _; exact Nat.le_of_eq rfl) (hb hby own_d21_2) (by decide) (by decide)
  obtain ⟨Nq101, Kp101, ⟨rfl, f102, f103, f104, f105, f106⟩⟩ := q101
  have N101 := Fr.app N0 Nq101
  refine go _ _ (st101) ?_
  show G (T101.setTop (mkF m 5 #[r' a, i' q] [(.ref a)]))
  refine go _ _ (fun _ k => XS.pop X101.here hx rfl (hb hby own_d21_5) rfl rfl (XS.aloadN X101.here hx rfl (hb hby own_d21_6) rfl rfl k)) ?_
  show G (T101.setTop (mkF m 7 #[r' a, i' q] [(.ref a)]))
  have K107 : Keep h0 T101.heap [a, t] := (Keep.refl h0 [a, t]).trans Kp101 (allS (Or.inl (List.mem_of_getElem? (i := 0) rfl)) (allS (Or.inl (List.mem_of_getElem? (i := 1) rfl)) all0))
  refine fin T101 _ _ _ (some (.ref a)) X101 (fun q => nomatch q) (by decide) (by decide) ⟨N101, K107, ⟨rfl, f102, f103, f104, f105, f106⟩⟩ _ (own_retA X101 hx hret rfl rfl rfl (hb hby own_d21_7))
theorem own_pn5 : plainName "java/util/Arrays" = true := by decide +kernel
theorem own_d33_0 : decode jdk_65_method_131_code 0 = .ok (.iload_n 1, 1) := by decide +kernel
theorem own_d33_1 : decode jdk_65_method_131_code 1 = .ok (.iload_n 0, 1) := by decide +kernel
theorem own_d33_2 : decode jdk_65_method_131_code 2 = .ok (.if_icmp .ge 35, 3) := by decide +kernel
theorem own_d33_37 : decode jdk_65_method_131_code 37 = .ok (.return_, 1) := by decide +kernel
set_option maxHeartbeats 4000000 in
theorem own_ef_rm33 (m : MethodId) (x0 : Int32) (x1 : Int32) : entryFrame m #[(.int x0), (.int x1)] 2 = mkF m 0 #[.val (.int x0), .val (.int x1)] [] := by rfl
set_option maxRecDepth 65536 in
set_option maxHeartbeats 40000000 in
theorem rm33 (l : Launch) (Z : State) (a0 : Array Value) (hw : ∀ d ∈ tables_1, d.before a0 Z = true) (z0 : Int32) (O2 : Sta Z Z.heap "java/lang/String" "COMPACT_STRINGS" "Z" (.int z0)) (P5 : ¬ z0 = (0 : Int32)) (fm0 : Value) (O4 : Sta Z Z.heap "jdk/internal/util/Preconditions" "SIOOBE_FORMATTER" "Ljava/util/function/BiFunction;" fm0) (R4 : fm0.isRef = true) (ws : List Jvm.Cond) (y : Int32) (h0 : Heap) (n0 : Nat) (Z0 : n0 ≤ h0.size) (hy : ¬ y < (0 : Int32)) :
    own_MetN l Z (⟨"java/util/Arrays", "checkLength", "(II)V"⟩ : MethodName) jdk_65_method_131_code 2 none ws ({ frames := 0, cells := 0, slots := 0, locals := 0 } : Room) #[(.int (0 : Int32)), (.int y)] h0 (fun v h L => Fr n0 L ∧ h = h0 ∧ (((v = none)))) := by
  refine own_metN (plainFor_of_name own_pn5) ?_
  intro p e s m below meth c s₁ G hx hby hml hZ hown hnm hret X0 e0 go fin
  have N0 := Fr.nil n0
  refine go _ _ (fun _ k => castTop (own_ef_rm33 m (0 : Int32) y) k) ?_
  show G (s₁.setTop (mkF m 0 #[i' 0, i' y] []))
  refine go _ _ (fun _ k => XS.iloadN X0.here hx rfl (hb hby own_d33_0) rfl (XS.iloadN X0.here hx rfl (hb hby own_d33_1) rfl k)) ?_
  show G (s₁.setTop (mkF m 2 #[i' 0, i' y] [(.int 0), (.int y)]))
  refine go _ _ (fun _ k => XS.icmpYes X0.here hx rfl (pc0 := 2) (pc' := 37) rfl (hb hby own_d33_2) rfl (flt hy).2.1 (by decide) (by decide) k) ?_
  show G (s₁.setTop (mkF m 37 #[i' 0, i' y] []))
  refine fin s₁ _ _ _ none X0 (fun _ => rfl) (by decide) (by decide) (by rw [e0]; exact ⟨N0, rfl, rfl⟩) _ (own_retV X0 hx hret (hb hby own_d33_37))
theorem own_d32_0 : decode jdk_65_method_133_code 0 = .ok (.iload_n 1, 1) := by decide +kernel
theorem own_d32_1 : decode jdk_65_method_133_code 1 = .ok (.iload_n 2, 1) := by decide +kernel
theorem own_pd5 : parseMethodDescriptor "(II)V" = some ⟨[.int, .int], none⟩ := by decide +kernel
theorem own_d32_2 : decode jdk_65_method_133_code 2 = .ok (.invokestatic 343, 3) := by decide +kernel
theorem own_d32_5 : decode jdk_65_method_133_code 5 = .ok (.iload_n 2, 1) := by decide +kernel
theorem own_d32_6 : decode jdk_65_method_133_code 6 = .ok (.iload_n 1, 1) := by decide +kernel
theorem own_d32_7 : decode jdk_65_method_133_code 7 = .ok (.isub, 1) := by decide +kernel
theorem own_d32_8 : decode jdk_65_method_133_code 8 = .ok (.istore_n 3, 1) := by decide +kernel
theorem own_d32_9 : decode jdk_65_method_133_code 9 = .ok (.iload_n 3, 1) := by decide +kernel
theorem own_d32_10 : decode jdk_65_method_133_code 10 = .ok (.newarray .byte, 2) := by decide +kernel
theorem own_d32_12 : decode jdk_65_method_133_code 12 = .ok (.astore 4, 2) := by decide +kernel
theorem own_d32_14 : decode jdk_65_method_133_code 14 = .ok (.aload_n 0, 1) := by decide +kernel
theorem own_d32_15 : decode jdk_65_method_133_code 15 = .ok (.iload_n 1, 1) := by decide +kernel
theorem own_d32_16 : decode jdk_65_method_133_code 16 = .ok (.aload 4, 2) := by decide +kernel
theorem own_d32_18 : decode jdk_65_method_133_code 18 = .ok (.iconst 0, 1) := by decide +kernel
theorem own_d32_19 : decode jdk_65_method_133_code 19 = .ok (.aload_n 0, 1) := by decide +kernel
theorem own_d32_20 : decode jdk_65_method_133_code 20 = .ok (.arraylength, 1) := by decide +kernel
theorem own_d32_21 : decode jdk_65_method_133_code 21 = .ok (.iload_n 1, 1) := by decide +kernel
theorem own_d32_22 : decode jdk_65_method_133_code 22 = .ok (.isub, 1) := by decide +kernel
theorem own_d32_23 : decode jdk_65_method_133_code 23 = .ok (.iload_n 3, 1) := by decide +kernel
theorem own_pd6 : parseMethodDescriptor "(II)I" = some ⟨[.int, .int], some .int⟩ := by decide +kernel
theorem own_d32_24 : decode jdk_65_method_133_code 24 = .ok (.invokestatic 304, 3) := by decide +kernel
theorem own_d32_27 : decode jdk_65_method_133_code 27 = .ok (.invokestatic 150, 3) := by decide +kernel
theorem own_d32_30 : decode jdk_65_method_133_code 30 = .ok (.aload 4, 2) := by decide +kernel
theorem own_d32_32 : decode jdk_65_method_133_code 32 = .ok (.areturn, 1) := by decide +kernel
set_option maxHeartbeats 4000000 in
theorem own_ef_rm32 (m : MethodId) (x0 : Addr) (x1 : Int32) (x2 : Int32) : entryFrame m #[(.ref x0), (.int x1), (.int x2)] 5 = mkF m 0 #[.val (.ref x0), .val (.int x1), .val (.int x2), .unset, .unset] [] := by rfl
set_option maxRecDepth 65536 in
set_option maxHeartbeats 40000000 in
theorem rm32 (l : Launch) (Z : State) (a0 : Array Value) (hw : ∀ d ∈ tables_1, d.before a0 Z = true) (z0 : Int32) (O2 : Sta Z Z.heap "java/lang/String" "COMPACT_STRINGS" "Z" (.int z0)) (P5 : ¬ z0 = (0 : Int32)) (fm0 : Value) (O4 : Sta Z Z.heap "jdk/internal/util/Preconditions" "SIOOBE_FORMATTER" "Ljava/util/function/BiFunction;" fm0) (R4 : fm0.isRef = true) (ws : List Jvm.Cond) (t : Addr) (y : Int32) (kb : ClassId) (cs : List Int32) (h0 : Heap) (n0 : Nat) (Z0 : n0 ≤ h0.size) (At : Arv Z h0 t kb .byte (16 : Int32) (own_bs cs) (.int (0 : Int32))) (hy : y = (own_n cs)) (hl : cs.length < 16) :
    own_MetN l Z (⟨"java/util/Arrays", "copyOfRangeByte", "([BII)[B"⟩ : MethodName) jdk_65_method_133_code 5 (some (.array .byte)) ws ({ frames := 1, cells := 1, slots := 16, locals := 27 } : Room) #[(.ref t), (.int (0 : Int32)), (.int y)] h0 (fun v h L => Fr n0 L ∧ Keep h0 h [] ∧ ((∃ (b : Addr) (kb2 : ClassId), (v = some (.ref b)) ∧ (h0.size ≤ b) ∧ (Arv Z h b kb2 .byte (own_n cs) (own_bs cs) (.int (0 : Int32)))))) := by
  refine own_metN (plainFor_of_name own_pn5) ?_
  intro p e s m below meth c s₁ G hx hby hml hZ hown hnm hret X0 e0 go fin
  have N0 := Fr.nil n0
  refine go _ _ (fun _ k => castTop (own_ef_rm32 m t (0 : Int32) y) k) ?_
  show G (s₁.setTop (mkF m 0 #[r' t, i' 0, i' y, u', u'] []))
  subst hy
  show G (s₁.setTop (mkF m 0 #[r' t, i' 0, i' (own_n cs), u', u'] []))
  have hnn : ¬ (own_n cs) < (0 : Int32) := own_n_nn (by omega)
  have hl16 : (own_n cs) < (16 : Int32) := own_n_lt (k := 16) rfl hl (by decide)
  have hn16 : ¬ (own_n cs) = (16 : Int32) := own_n_ne (k := 16) rfl hl (by decide)
  refine go _ _ (fun _ k => XS.iloadN X0.here hx rfl (hb hby own_d32_0) rfl (XS.iloadN X0.here hx rfl (hb hby own_d32_1) rfl k)) ?_
  obtain ⟨rv101, T101, L101, X101, q101, st101⟩ := own_st X0 hx hZ (y := (⟨"java/util/Arrays", "checkLength", "(II)V"⟩ : MethodName)) hown (ow hw 165 rfl) (ow hw 166 rfl) (ow hw 160 rfl) (ow hw 167 rfl) (by decide) (own_bkN (W := 0) (rm33 l Z a0 hw z0 O2 P5 fm0 O4 R4 [] (own_n cs) h0 n0 Z0 hnn) hZ (ow hw 167 rfl) (ow hw 160 rfl) (by decide) (by decide)) e0 (g := (mkF m 2 #[r' t, i' 0, i' (own_n cs), u', u'] [(.int (own_n cs)), (.int 0)])) rfl (by rw [hml]; rfl) (argsL := [(.int (0 : Int32)), (.int (own_n cs))]) (rest := []) rfl (lenOf own_pd5 rfl) rfl (by show 2 * 0 + _ ≤ _; exact Nat.le_of_eq rfl) (hb hby own_d32_2) (by decide) (by decide)
  obtain ⟨Nq101, e101, rfl⟩ := q101
  have N101 := Fr.app N0 Nq101
  refine go _ _ (st101) ?_
  show G (T101.setTop (mkF m 5 #[r' t, i' 0, i' (own_n cs), u', u'] []))
  refine go _ _ (fun _ k => XS.iloadN X101.here hx rfl (hb hby own_d32_5) rfl (XS.iloadN X101.here hx rfl (hb hby own_d32_6) rfl (XS.isub X101.here hx rfl (hb hby own_d32_7) rfl k))) ?_
  show G (T101.setTop (mkF m 8 #[r' t, i' 0, i' (own_n cs), u', u'] [(.int ((own_n cs) - (0 : Int32)))]))
  rw [Int32.sub_zero]
  show G (T101.setTop (mkF m 8 #[r' t, i' 0, i' (own_n cs), u', u'] [(.int (own_n cs))]))
  refine go _ _ (fun _ k => XS.istoreN X101.here hx rfl (hb hby own_d32_8) rfl (l' := #[r' t, i' 0, i' (own_n cs), i' (own_n cs), u']) rfl (XS.iloadN X101.here hx rfl (hb hby own_d32_9) rfl k)) ?_
  obtain ⟨T102, h102, k102, X102, e102, E102, A102, st102⟩ := newP X101 hx hZ (ow hw 23 rfl) e101 (g := (mkF m 10 #[r' t, i' 0, i' (own_n cs), i' (own_n cs), u'] [(.int (own_n cs))])) rfl (hb hby own_d32_10) rfl hnn (cap := 16) (by have q := (own_nN (show cs.length ≤ 4000 by omega)).1; show (Int32.ofNat cs.length).toNatClampNeg ≤ 16; omega) (by decide) (by decide) (by decide)
  obtain ⟨b102, g102⟩ : ∃ z, z = h0.size := ⟨_, rfl⟩
  rw [← g102] at A102 st102
  have V102 : Arv Z h102 b102 k102 .byte (own_n cs) (own_bs ([] : List Int32)) (.int (0 : Int32)) := Arv.new A102 hnn
  refine go _ _ (st102) ?_
  show G (T102.setTop (mkF m 12 #[r' t, i' 0, i' (own_n cs), i' (own_n cs), u'] [(.ref b102)]))
  refine go _ _ (fun _ k => XS.astore X102.here hx rfl (hb hby own_d32_12) rfl rfl (l' := #[r' t, i' 0, i' (own_n cs), i' (own_n cs), r' b102]) rfl (XS.aloadN X102.here hx rfl (hb hby own_d32_14) rfl rfl (XS.iloadN X102.here hx rfl (hb hby own_d32_15) rfl (XS.aload X102.here hx rfl (hb hby own_d32_16) rfl rfl (XS.iconst X102.here hx rfl (hb hby own_d32_18) (XS.aloadN X102.here hx rfl (hb hby own_d32_19) rfl rfl k)))))) ?_
  show G (T102.setTop (mkF m 20 #[r' t, i' 0, i' (own_n cs), i' (own_n cs), r' b102] [(.ref t), (.int 0), (.ref b102), (.int 0), (.ref t)]))
  have K104 : Keep h0 h102 [] := (Keep.refl h0 []).ext E102
  have F105 : Arv Z h102 t kb .byte (16 : Int32) (own_bs cs) (.int (0 : Int32)) := (At.keep K104 nin0)
  obtain ⟨cl103, Ar103, q103, S103, M103, H103, U103⟩ := id F105
  refine go _ _ (fun _ k => X102.arraylength hx (by rw [e102]; exact Ar103.1) (State.isArrayOf_alike hZ.alike Ar103.2.1) (g := (mkF m 20 #[r' t, i' 0, i' (own_n cs), i' (own_n cs), r' b102] [(.ref t), (.int 0), (.ref b102), (.int 0), (.ref t)])) rfl rfl (hb hby own_d32_20) _ k) ?_
  show G (T102.setTop (mkF m 21 #[r' t, i' 0, i' (own_n cs), i' (own_n cs), r' b102] [(.int cl103.slots.size.toInt32), (.int 0), (.ref b102), (.int 0), (.ref t)]))
  rw [len_of S103 M103]
  show G (T102.setTop (mkF m 21 #[r' t, i' 0, i' (own_n cs), i' (own_n cs), r' b102] [(.int 16), (.int 0), (.ref b102), (.int 0), (.ref t)]))
  refine go _ _ (fun _ k => XS.iloadN X102.here hx rfl (hb hby own_d32_21) rfl (XS.isub X102.here hx rfl (hb hby own_d32_22) rfl (XS.iloadN X102.here hx rfl (hb hby own_d32_23) rfl k))) ?_
  have Z107 : h0.size ≤ h102.size := E102.1
  obtain ⟨rv106, T106, L106, X106, q106, st106⟩ := own_st X102 hx hZ (y := (⟨"java/lang/Math", "min", "(II)I"⟩ : MethodName)) hown (ow hw 168 rfl) (ow hw 169 rfl) (ow hw 170 rfl) (ow hw 171 rfl) (by decide) (own_bkN (W := 4) (rm34 l Z a0 hw z0 O2 P5 fm0 O4 R4 [] (16 : Int32) (own_n cs) h102 n0 (Nat.le_trans Z0 Z107)) hZ (ow hw 171 rfl) (ow hw 170 rfl) (by decide) (by decide)) e102 (g := (mkF m 24 #[r' t, i' 0, i' (own_n cs), i' (own_n cs), r' b102] [(.int (own_n cs)), (.int 16), (.int 0), (.ref b102), (.int 0), (.ref t)])) rfl (by rw [hml]; rfl) (argsL := [(.int (16 : Int32)), (.int (own_n cs))]) (rest := [(.int (0 : Int32)), (.ref b102), (.int (0 : Int32)), (.ref t)]) rfl (lenOf own_pd6 rfl) rfl (by show 2 * 0 + _ ≤ _; exact Nat.le_of_eq rfl) (hb hby own_d32_24) (by decide) (by decide)
  obtain ⟨Nq106, e106, q106⟩ := q106
  have N106 := Fr.app N101 Nq106
  rcases q106 with ⟨rfl, p108⟩ | ⟨rfl, p109⟩
  · refine go _ _ (st106) ?_
    obtain ⟨T110, h110, L110, X110, e110, N110, Kp110, V110, st110⟩ := own_cp X106 hx hZ hown (ow hw 172 rfl) (ow hw 175 rfl) (ow hw 173 rfl) (ow hw 174 rfl) e106 (cs := ([] : List Int32)) (ds := cs) F105 V102 (show cs.length ≤ 4000 by omega) (by decide) (show cs.length ≤ 16 by omega) (by have q := (own_nN (show cs.length ≤ 4000 by omega)).1; show 0 + cs.length ≤ (Int32.ofNat cs.length).toNatClampNeg; omega) N106 (Nat.le_trans Z0 (Nat.le_of_eq g102.symm)) (g := (mkF m 27 #[r' t, i' 0, i' (own_n cs), i' (own_n cs), r' b102] [(.int (own_n cs)), (.int 0), (.ref b102), (.int 0), (.ref t)])) rfl (by rw [hml]; rfl) (rest := []) rfl (hb hby own_d32_27) (by decide) (W := 0) (by show 2 * 0 + _ ≤ _; exact Nat.le_of_eq rfl) (by decide)
    refine go _ _ (st110) ?_
    show G (T110.setTop (mkF m 30 #[r' t, i' 0, i' (own_n cs), i' (own_n cs), r' b102] []))
    refine go _ _ (fun _ k => XS.aload X110.here hx rfl (hb hby own_d32_30) rfl rfl k) ?_
    show G (T110.setTop (mkF m 32 #[r' t, i' 0, i' (own_n cs), i' (own_n cs), r' b102] [(.ref b102)]))
    have K111 : Keep h0 h110 [] := K104.trans Kp110 (allS (Or.inr (Nat.le_of_eq g102.symm)) all0)
    refine fin T110 _ _ _ (some (.ref b102)) X110 (fun q => nomatch q) (by decide) (by decide) (by rw [e110]; exact ⟨N110, K111, ⟨b102, k102, rfl, (Nat.le_of_eq g102.symm), V110⟩⟩) _ (own_retA X110 hx hret rfl rfl rfl (hb hby own_d32_32))
  · exact absurd hl16 p109
theorem own_d31_0 : decode jdk_65_method_132_code 0 = .ok (.iload_n 1, 1) := by decide +kernel
theorem own_d31_1 : decode jdk_65_method_132_code 1 = .ok (.ifCond .ne 9, 3) := by decide +kernel
theorem own_d31_4 : decode jdk_65_method_132_code 4 = .ok (.iload_n 2, 1) := by decide +kernel
theorem own_d31_5 : decode jdk_65_method_132_code 5 = .ok (.aload_n 0, 1) := by decide +kernel
theorem own_d31_6 : decode jdk_65_method_132_code 6 = .ok (.arraylength, 1) := by decide +kernel
theorem own_d31_7 : decode jdk_65_method_132_code 7 = .ok (.if_icmp .eq 10, 3) := by decide +kernel
theorem own_d31_10 : decode jdk_65_method_132_code 10 = .ok (.aload_n 0, 1) := by decide +kernel
theorem own_d31_11 : decode jdk_65_method_132_code 11 = .ok (.iload_n 1, 1) := by decide +kernel
theorem own_d31_12 : decode jdk_65_method_132_code 12 = .ok (.iload_n 2, 1) := by decide +kernel
theorem own_pd7 : parseMethodDescriptor "([BII)[B" = some ⟨[(.array .byte), .int, .int], some (.array .byte)⟩ := by decide +kernel
theorem own_d31_13 : decode jdk_65_method_132_code 13 = .ok (.invokestatic 339, 3) := by decide +kernel
theorem own_d31_16 : decode jdk_65_method_132_code 16 = .ok (.areturn, 1) := by decide +kernel
set_option maxHeartbeats 4000000 in
theorem own_ef_rm31 (m : MethodId) (x0 : Addr) (x1 : Int32) (x2 : Int32) : entryFrame m #[(.ref x0), (.int x1), (.int x2)] 3 = mkF m 0 #[.val (.ref x0), .val (.int x1), .val (.int x2)] [] := by rfl
set_option maxRecDepth 65536 in
set_option maxHeartbeats 40000000 in
theorem rm31 (l : Launch) (Z : State) (a0 : Array Value) (hw : ∀ d ∈ tables_1, d.before a0 Z = true) (z0 : Int32) (O2 : Sta Z Z.heap "java/lang/String" "COMPACT_STRINGS" "Z" (.int z0)) (P5 : ¬ z0 = (0 : Int32)) (fm0 : Value) (O4 : Sta Z Z.heap "jdk/internal/util/Preconditions" "SIOOBE_FORMATTER" "Ljava/util/function/BiFunction;" fm0) (R4 : fm0.isRef = true) (ws : List Jvm.Cond) (t : Addr) (y : Int32) (kb : ClassId) (cs : List Int32) (h0 : Heap) (n0 : Nat) (Z0 : n0 ≤ h0.size) (At : Arv Z h0 t kb .byte (16 : Int32) (own_bs cs) (.int (0 : Int32))) (hy : y = (own_n cs)) (hl : cs.length < 16) :
    own_MetN l Z (⟨"java/util/Arrays", "copyOfRange", "([BII)[B"⟩ : MethodName) jdk_65_method_132_code 3 (some (.array .byte)) ws ({ frames := 2, cells := 1, slots := 16, locals := 43 } : Room) #[(.ref t), (.int (0 : Int32)), (.int y)] h0 (fun v h L => Fr n0 L ∧ Keep h0 h [] ∧ ((∃ (b : Addr) (kb2 : ClassId), (v = some (.ref b)) ∧ (h0.size ≤ b) ∧ (Arv Z h b kb2 .byte (own_n cs) (own_bs cs) (.int (0 : Int32)))))) := by
  refine own_metN (plainFor_of_name own_pn5) ?_
  intro p e s m below meth c s₁ G hx hby hml hZ hown hnm hret X0 e0 go fin
  have N0 := Fr.nil n0
  refine go _ _ (fun _ k => castTop (own_ef_rm31 m t (0 : Int32) y) k) ?_
  show G (s₁.setTop (mkF m 0 #[r' t, i' 0, i' y] []))
  subst hy
  show G (s₁.setTop (mkF m 0 #[r' t, i' 0, i' (own_n cs)] []))
  have hnn : ¬ (own_n cs) < (0 : Int32) := own_n_nn (by omega)
  have hl16 : (own_n cs) < (16 : Int32) := own_n_lt (k := 16) rfl hl (by decide)
  have hn16 : ¬ (own_n cs) = (16 : Int32) := own_n_ne (k := 16) rfl hl (by decide)
  refine go _ _ (fun _ k => XS.iloadN X0.here hx rfl (hb hby own_d31_0) rfl k) ?_
  show G (s₁.setTop (mkF m 1 #[r' t, i' 0, i' (own_n cs)] [(.int 0)]))
  refine go _ _ (fun _ k => XS.ifNo X0.here hx rfl (hb hby own_d31_1) rfl (by decide) k) ?_
  show G (s₁.setTop (mkF m 4 #[r' t, i' 0, i' (own_n cs)] []))
  refine go _ _ (fun _ k => XS.iloadN X0.here hx rfl (hb hby own_d31_4) rfl (XS.aloadN X0.here hx rfl (hb hby own_d31_5) rfl rfl k)) ?_
  show G (s₁.setTop (mkF m 6 #[r' t, i' 0, i' (own_n cs)] [(.ref t), (.int (own_n cs))]))
  obtain ⟨cl101, Ar101, q101, S101, M101, H101, U101⟩ := id At
  refine go _ _ (fun _ k => X0.arraylength hx (by rw [e0]; exact Ar101.1) (State.isArrayOf_alike hZ.alike Ar101.2.1) (g := (mkF m 6 #[r' t, i' 0, i' (own_n cs)] [(.ref t), (.int (own_n cs))])) rfl rfl (hb hby own_d31_6) _ k) ?_
  show G (s₁.setTop (mkF m 7 #[r' t, i' 0, i' (own_n cs)] [(.int cl101.slots.size.toInt32), (.int (own_n cs))]))
  rw [len_of S101 M101]
  show G (s₁.setTop (mkF m 7 #[r' t, i' 0, i' (own_n cs)] [(.int 16), (.int (own_n cs))]))
  refine go _ _ (fun _ k => XS.icmpNo X0.here hx rfl (hb hby own_d31_7) rfl (feq hn16).1 k) ?_
  show G (s₁.setTop (mkF m 10 #[r' t, i' 0, i' (own_n cs)] []))
  refine go _ _ (fun _ k => XS.aloadN X0.here hx rfl (hb hby own_d31_10) rfl rfl (XS.iloadN X0.here hx rfl (hb hby own_d31_11) rfl (XS.iloadN X0.here hx rfl (hb hby own_d31_12) rfl k))) ?_
  obtain ⟨rv102, T102, L102, X102, q102, st102⟩ := own_st X0 hx hZ (y := (⟨"java/util/Arrays", "copyOfRangeByte", "([BII)[B"⟩ : MethodName)) hown (ow hw 162 rfl) (ow hw 163 rfl) (ow hw 160 rfl) (ow hw 164 rfl) (by decide) (own_bkN (W := 0) (rm32 l Z a0 hw z0 O2 P5 fm0 O4 R4 [] t (own_n cs) kb cs h0 n0 Z0 At rfl hl) hZ (ow hw 164 rfl) (ow hw 160 rfl) (by decide) (by decide)) e0 (g := (mkF m 13 #[r' t, i' 0, i' (own_n cs)] [(.int (own_n cs)), (.int 0), (.ref t)])) rfl (by rw [hml]; rfl) (argsL := [(.ref t), (.int (0 : Int32)), (.int (own_n cs))]) (rest := []) rfl (lenOf own_pd7 rfl) rfl (by show 2 * 0 + _ ≤ _; exact Nat.le_of_eq rfl) (hb hby own_d31_13) (by decide) (by decide)
  obtain ⟨Nq102, Kp102, ⟨b_103, kb2_104, rfl, z105, f106⟩⟩ := q102
  have N102 := Fr.app N0 Nq102
  refine go _ _ (st102) ?_
  show G (T102.setTop (mkF m 16 #[r' t, i' 0, i' (own_n cs)] [(.ref b_103)]))
  have K107 : Keep h0 T102.heap [] := (Keep.refl h0 []).trans Kp102 all0
  refine fin T102 _ _ _ (some (.ref b_103)) X102 (fun q => nomatch q) (by decide) (by decide) ⟨N102, K107, ⟨b_103, kb2_104, rfl, z105, f106⟩⟩ _ (own_retA X102 hx hret rfl rfl rfl (hb hby own_d31_16))
theorem own_d29_0 : decode jdk_42_method_150_code 0 = .ok (.aload_n 0, 1) := by decide +kernel
theorem own_d29_1 : decode jdk_42_method_150_code 1 = .ok (.invokespecial 1, 3) := by decide +kernel
theorem own_d29_4 : decode jdk_42_method_150_code 4 = .ok (.aload_n 1, 1) := by decide +kernel
theorem own_pd8 : parseMethodDescriptor "()[B" = some ⟨[], some (.array .byte)⟩ := by decide +kernel
theorem own_d29_5 : decode jdk_42_method_150_code 5 = .ok (.invokevirtual 552, 3) := by decide +kernel
theorem own_d29_8 : decode jdk_42_method_150_code 8 = .ok (.astore_n 3, 1) := by decide +kernel
theorem own_d29_9 : decode jdk_42_method_150_code 9 = .ok (.aload_n 1, 1) := by decide +kernel
theorem own_d29_10 : decode jdk_42_method_150_code 10 = .ok (.invokevirtual 549, 3) := by decide +kernel
theorem own_d29_13 : decode jdk_42_method_150_code 13 = .ok (.istore 4, 2) := by decide +kernel
theorem own_d29_15 : decode jdk_42_method_150_code 15 = .ok (.aload_n 1, 1) := by decide +kernel
theorem own_d29_16 : decode jdk_42_method_150_code 16 = .ok (.invokevirtual 1047, 3) := by decide +kernel
theorem own_d29_19 : decode jdk_42_method_150_code 19 = .ok (.ifCond .eq 22, 3) := by decide +kernel
theorem own_d29_22 : decode jdk_42_method_150_code 22 = .ok (.aload_n 0, 1) := by decide +kernel
theorem own_d29_23 : decode jdk_42_method_150_code 23 = .ok (.iconst 0, 1) := by decide +kernel
theorem own_d29_24 : decode jdk_42_method_150_code 24 = .ok (.putfield 15, 3) := by decide +kernel
theorem own_d29_27 : decode jdk_42_method_150_code 27 = .ok (.aload_n 0, 1) := by decide +kernel
theorem own_d29_28 : decode jdk_42_method_150_code 28 = .ok (.aload_n 3, 1) := by decide +kernel
theorem own_d29_29 : decode jdk_42_method_150_code 29 = .ok (.iconst 0, 1) := by decide +kernel
theorem own_d29_30 : decode jdk_42_method_150_code 30 = .ok (.iload 4, 2) := by decide +kernel
theorem own_d29_32 : decode jdk_42_method_150_code 32 = .ok (.invokestatic 54, 3) := by decide +kernel
theorem own_d29_35 : decode jdk_42_method_150_code 35 = .ok (.putfield 9, 3) := by decide +kernel
theorem own_d29_38 : decode jdk_42_method_150_code 38 = .ok (.goto 59, 3) := by decide +kernel
theorem own_d29_97 : decode jdk_42_method_150_code 97 = .ok (.return_, 1) := by decide +kernel
set_option maxHeartbeats 4000000 in
theorem own_ef_rm29 (m : MethodId) (x0 : Addr) (x1 : Addr) : entryFrame m #[(.ref x0), (.ref x1), .null] 5 = mkF m 0 #[.val (.ref x0), .val (.ref x1), .val .null, .unset, .unset] [] := by rfl
set_option maxRecDepth 65536 in
set_option maxHeartbeats 40000000 in
theorem rm29 (l : Launch) (Z : State) (a0 : Array Value) (hw : ∀ d ∈ tables_1, d.before a0 Z = true) (z0 : Int32) (O2 : Sta Z Z.heap "java/lang/String" "COMPACT_STRINGS" "Z" (.int z0)) (P5 : ¬ z0 = (0 : Int32)) (fm0 : Value) (O4 : Sta Z Z.heap "jdk/internal/util/Preconditions" "SIOOBE_FORMATTER" "Ljava/util/function/BiFunction;" fm0) (R4 : fm0.isRef = true) (ws : List Jvm.Cond) (x : Addr) (a : Addr) (t : Addr) (kb : ClassId) (cs : List Int32) (h0 : Heap) (n0 : Nat) (Z0 : n0 ≤ h0.size) (Ex : Exa Z h0 x "java/lang/String") (Vx : Fld Z h0 x "java/lang/String" "value" "[B" .null) (Cx : Fld Z h0 x "java/lang/String" "coder" "B" (.int (0 : Int32))) (Xo : Old Z n0 h0) (Ea : Exa Z h0 a "java/lang/StringBuilder") (Fv : Fld Z h0 a "java/lang/AbstractStringBuilder" "value" "[B" (.ref t)) (Fc : Fld Z h0 a "java/lang/AbstractStringBuilder" "coder" "B" (.int (0 : Int32))) (Fn : Fld Z h0 a "java/lang/AbstractStringBuilder" "count" "I" (.int (own_n cs))) (At : Arv Z h0 t kb .byte (16 : Int32) (own_bs cs) (.int (0 : Int32))) (hl : cs.length < 16) (hbd : ∀ c ∈ cs, ¬ c < 0 ∧ ¬ (255 : Int32) < c) (gz_x : n0 ≤ x) :
    own_MetN l Z (⟨"java/lang/String", "<init>", "(Ljava/lang/AbstractStringBuilder;Ljava/lang/Void;)V"⟩ : MethodName) jdk_42_method_150_code 5 none ws ({ frames := 3, cells := 1, slots := 16, locals := 58 } : Room) #[(.ref x), (.ref a), .null] h0 (fun v h L => Fr n0 L ∧ Keep h0 h [x] ∧ (((v = none) ∧ (Exa Z h x "java/lang/String") ∧ (own_Str Z h x cs)))) := by
  refine own_metN (plainFor_of_name own_pn2) ?_
  intro p e s m below meth c s₁ G hx hby hml hZ hown hnm hret X0 e0 go fin
  have N0 := Fr.nil n0
  refine go _ _ (fun _ k => castTop (own_ef_rm29 m x a) k) ?_
  show G (s₁.setTop (mkF m 0 #[r' x, r' a, .val .null, u', u'] []))
  refine go _ _ (fun _ k => XS.aloadN X0.here hx rfl (hb hby own_d29_0) rfl rfl k) ?_
  obtain ⟨T101, X101, e101, st101⟩ := initO X0 hx hZ hown (ow hw 15 rfl) (ow hw 16 rfl) (ow hw 17 rfl) e0 (g := (mkF m 1 #[r' x, r' a, .val .null, u', u'] [(.ref x)])) rfl (by rw [hml]; rfl) rfl (hb hby own_d29_1) (by decide) (W := 0) (by show 2 * 0 + _ ≤ _; exact Nat.le_of_eq rfl) (by decide)
  refine go _ _ (st101) ?_
  show G (T101.setTop (mkF m 4 #[r' x, r' a, .val .null, u', u'] []))
  refine go _ _ (fun _ k => XS.aloadN X101.here hx rfl (hb hby own_d29_4) rfl rfl k) ?_
  obtain ⟨rv102, T102, L102, X102, q102, st102⟩ := own_vi X101 hx hZ (y := (⟨"java/lang/AbstractStringBuilder", "getValue", "()[B"⟩ : MethodName)) (z := (⟨"java/lang/AbstractStringBuilder", "getValue", "()[B"⟩ : MethodName)) hown (ow hw 150 rfl) (ow hw 151 rfl) (ow hw 153 rfl) (ow hw 152 rfl) (Or.inl rfl) (by decide) (own_bkN (W := 0) (rm30 l Z a0 hw z0 O2 P5 fm0 O4 R4 [] a t h0 n0 Z0 Fv) hZ (ow hw 154 rfl) (ow hw 65 rfl) (by decide) (by decide)) e101 Ea (g := (mkF m 5 #[r' x, r' a, .val .null, u', u'] [(.ref a)])) rfl (by rw [hml]; rfl) (argsL := []) (rest := []) rfl (lenOf own_pd8 rfl) rfl (by show 2 * 0 + _ ≤ _; exact Nat.le_of_eq rfl) (hb hby own_d29_5) (by decide) (by decide)
  obtain ⟨Nq102, e102, rfl⟩ := q102
  have N102 := Fr.app N0 Nq102
  refine go _ _ (st102) ?_
  show G (T102.setTop (mkF m 8 #[r' x, r' a, .val .null, u', u'] [(.ref t)]))
  refine go _ _ (fun _ k => XS.astoreN X102.here hx rfl (hb hby own_d29_8) rfl rfl (l' := #[r' x, r' a, .val .null, r' t, u']) rfl (XS.aloadN X102.here hx rfl (hb hby own_d29_9) rfl rfl k)) ?_
  obtain ⟨rv103, T103, L103, X103, q103, st103⟩ := own_vi X102 hx hZ (y := (⟨"java/lang/AbstractStringBuilder", "length", "()I"⟩ : MethodName)) (z := (⟨"java/lang/StringBuilder", "length", "()I"⟩ : MethodName)) hown (ow hw 155 rfl) (ow hw 134 rfl) (ow hw 156 rfl) (ow hw 129 rfl) (Or.inr (Or.inr (Or.inr ⟨_, _, (⟨"java/lang/AbstractStringBuilder", "ensureCapacityInternal", "(I)V"⟩ : MethodName), rfl, (ow hw 119 rfl)⟩))) (by decide) (own_bkN (W := 0) (rm25 l Z a0 hw z0 O2 P5 fm0 O4 R4 [] a (own_n cs) h0 n0 Z0 Ea Fn) hZ (ow hw 131 rfl) (ow hw 57 rfl) (by decide) (by decide)) e102 Ea (g := (mkF m 10 #[r' x, r' a, .val .null, r' t, u'] [(.ref a)])) rfl (by rw [hml]; rfl) (argsL := []) (rest := []) rfl (lenOf own_pd1 rfl) rfl (by show 2 * 0 + _ ≤ _; exact Nat.le_of_eq rfl) (hb hby own_d29_10) (by decide) (by decide)
  obtain ⟨Nq103, e103, rfl⟩ := q103
  have N103 := Fr.app N102 Nq103
  refine go _ _ (st103) ?_
  show G (T103.setTop (mkF m 13 #[r' x, r' a, .val .null, r' t, u'] [(.int (own_n cs))]))
  refine go _ _ (fun _ k => XS.istore X103.here hx rfl (hb hby own_d29_13) rfl (l' := #[r' x, r' a, .val .null, r' t, i' (own_n cs)]) rfl (XS.aloadN X103.here hx rfl (hb hby own_d29_15) rfl rfl k)) ?_
  obtain ⟨rv104, T104, L104, X104, q104, st104⟩ := own_vi X103 hx hZ (y := (⟨"java/lang/AbstractStringBuilder", "isLatin1", "()Z"⟩ : MethodName)) (z := (⟨"java/lang/AbstractStringBuilder", "isLatin1", "()Z"⟩ : MethodName)) hown (ow hw 157 rfl) (ow hw 122 rfl) (ow hw 124 rfl) (ow hw 123 rfl) (Or.inl rfl) (by decide) (own_bkN (W := 0) (rm24 l Z a0 hw z0 O2 P5 fm0 O4 R4 [] a h0 n0 Z0 Xo Fc) hZ (ow hw 125 rfl) (ow hw 65 rfl) (by decide) (by decide)) e103 Ea (g := (mkF m 16 #[r' x, r' a, .val .null, r' t, i' (own_n cs)] [(.ref a)])) rfl (by rw [hml]; rfl) (argsL := []) (rest := []) rfl (lenOf own_pd2 rfl) rfl (by show 2 * 0 + _ ≤ _; exact Nat.le_of_eq rfl) (hb hby own_d29_16) (by decide) (by decide)
  obtain ⟨Nq104, e104, rfl⟩ := q104
  have N104 := Fr.app N103 Nq104
  refine go _ _ (st104) ?_
  show G (T104.setTop (mkF m 19 #[r' x, r' a, .val .null, r' t, i' (own_n cs)] [(.int 1)]))
  refine go _ _ (fun _ k => XS.ifNo X104.here hx rfl (hb hby own_d29_19) rfl (by decide) k) ?_
  show G (T104.setTop (mkF m 22 #[r' x, r' a, .val .null, r' t, i' (own_n cs)] []))
  refine go _ _ (fun _ k => XS.aloadN X104.here hx rfl (hb hby own_d29_22) rfl rfl (XS.iconst X104.here hx rfl (hb hby own_d29_23) k)) ?_
  obtain ⟨T105, h105, X105, e105, W105, st105⟩ := putF X104 hx hZ hown (host := "") (Or.inl (ow hw 30 rfl)) Via.refl e104 Cx Ex (Or.inr ⟨(ow hw 31 rfl), rfl, hnm⟩) (ow hw 5 rfl) (ty := .byte) (by decide) rfl rfl (g := (mkF m 24 #[r' x, r' a, .val .null, r' t, i' (own_n cs)] [(.int 0), (.ref x)])) rfl rfl (hb hby own_d29_24)
  have N105 := Fr.snoc X105 N104 gz_x
  refine go _ _ (st105) ?_
  show G (T105.setTop (mkF m 27 #[r' x, r' a, .val .null, r' t, i' (own_n cs)] []))
  refine go _ _ (fun _ k => XS.aloadN X105.here hx rfl (hb hby own_d29_27) rfl rfl (XS.aloadN X105.here hx rfl (hb hby own_d29_28) rfl rfl (XS.iconst X105.here hx rfl (hb hby own_d29_29) (XS.iload X105.here hx rfl (hb hby own_d29_30) rfl k)))) ?_
  have K107 : Keep h0 h105 [x] := (Keep.refl h0 [x]).wr W105 (Or.inl (List.mem_of_getElem? (i := 0) rfl))
  have F108 : Arv Z h105 t kb .byte (16 : Int32) (own_bs cs) (.int (0 : Int32)) := (At.keep K107 (ninS (Ne.symm (Exa.neArv Ex At (ow hw 5 rfl))) nin0))
  have Z109 : h0.size ≤ h105.size := (Keep.of_wr W105).1
  obtain ⟨rv106, T106, L106, X106, q106, st106⟩ := own_st X105 hx hZ (y := (⟨"java/util/Arrays", "copyOfRange", "([BII)[B"⟩ : MethodName)) hown (ow hw 158 rfl) (ow hw 159 rfl) (ow hw 160 rfl) (ow hw 161 rfl) (by decide) (own_bkN (W := 1) (rm31 l Z a0 hw z0 O2 P5 fm0 O4 R4 [] t (own_n cs) kb cs h105 n0 (Nat.le_trans Z0 Z109) F108 rfl hl) hZ (ow hw 161 rfl) (ow hw 160 rfl) (by decide) (by decide)) e105 (g := (mkF m 32 #[r' x, r' a, .val .null, r' t, i' (own_n cs)] [(.int (own_n cs)), (.int 0), (.ref t), (.ref x)])) rfl (by rw [hml]; rfl) (argsL := [(.ref t), (.int (0 : Int32)), (.int (own_n cs))]) (rest := [(.ref x)]) rfl (lenOf own_pd7 rfl) rfl (by show 2 * 0 + _ ≤ _; exact Nat.le_of_eq rfl) (hb hby own_d29_32) (by decide) (by decide)
  obtain ⟨Nq106, Kp106, ⟨b_110, kb2_111, rfl, z112, f113⟩⟩ := q106
  have N106 := Fr.app N105 Nq106
  refine go _ _ (st106) ?_
  have K115 : Keep h105 T106.heap [] := (Keep.refl h105 []).trans Kp106 all0
  have F116 : Fld Z T106.heap x "java/lang/String" "value" "[B" .null := ((Vx.other W105 (Or.inr (RoadKit.slot_ne (t := (.array .byte)) (t' := .byte) (Or.inr (ow hw 33 rfl)) (Or.inr (ow hw 31 rfl)) (by decide) (by decide) (by decide)))).keep K115 nin0)
  have F117 : Exa Z T106.heap x "java/lang/String" := ((Ex.wr W105).keep K115)
  obtain ⟨T114, h114, X114, e114, W114, st114⟩ := putF X106 hx hZ hown (host := "") (Or.inl (ow hw 32 rfl)) Via.refl rfl F116 F117 (Or.inr ⟨(ow hw 33 rfl), rfl, hnm⟩) (ow hw 5 rfl) (ty := (.array .byte)) (by decide) rfl rfl (g := (mkF m 35 #[r' x, r' a, .val .null, r' t, i' (own_n cs)] [(.ref b_110), (.ref x)])) rfl rfl (hb hby own_d29_35)
  have F118 : Fld Z T106.heap x "java/lang/String" "coder" "B" (.int (0 : Int32)) := ((Cx.same W105).keep K115 nin0)
  have N114 := Fr.snoc X114 N106 gz_x
  refine go _ _ (st114) ?_
  show G (T114.setTop (mkF m 38 #[r' x, r' a, .val .null, r' t, i' (own_n cs)] []))
  refine go _ _ (fun _ k => XS.goto X114.here hx rfl (pc0 := 38) (pc' := 97) rfl (hb hby own_d29_38) (by decide) (by decide) k) ?_
  show G (T114.setTop (mkF m 97 #[r' x, r' a, .val .null, r' t, i' (own_n cs)] []))
  have K119 : Keep h0 T106.heap [x] := K107.trans Kp106 all0
  have K120 : Keep h0 h114 [x] := K119.wr W114 (Or.inl (List.mem_of_getElem? (i := 0) rfl))
  have K121 : Keep T106.heap h114 [x] := (Keep.refl T106.heap [x]).wr W114 (Or.inl (List.mem_of_getElem? (i := 0) rfl))
  have F122 : Arv Z h114 b_110 kb2_111 .byte (own_n cs) (own_bs cs) (.int (0 : Int32)) := (f113.keep K121 (ninS (Ne.symm (Nat.ne_of_lt (Nat.lt_of_lt_of_le (Cx.same W105).lt z112))) nin0))
  have Sx : own_Str Z h114 x cs := ⟨_, _, (F117.wr W114), (F116.same W114), (F118.other W114 (Or.inr (RoadKit.slot_ne (t := .byte) (t' := (.array .byte)) (Or.inr (ow hw 31 rfl)) (Or.inr (ow hw 33 rfl)) (by decide) (by decide) (by decide)))), F122, hbd, (by omega)⟩
  refine fin T114 _ _ _ none X114 (fun _ => rfl) (by decide) (by decide) (by rw [e114]; exact ⟨N114, K120, ⟨rfl, (F117.wr W114), Sx⟩⟩) _ (own_retV X114 hx hret (hb hby own_d29_97))
theorem own_d28_0 : decode jdk_42_method_53_code 0 = .ok (.aload_n 0, 1) := by decide +kernel
theorem own_d28_1 : decode jdk_42_method_53_code 1 = .ok (.aload_n 1, 1) := by decide +kernel
theorem own_d28_2 : decode jdk_42_method_53_code 2 = .ok (.aconst_null, 1) := by decide +kernel
theorem own_pd9 : parseMethodDescriptor "(Ljava/lang/AbstractStringBuilder;Ljava/lang/Void;)V" = some ⟨[(.object "java/lang/AbstractStringBuilder"), (.object "java/lang/Void")], none⟩ := by decide +kernel
theorem own_d28_3 : decode jdk_42_method_53_code 3 = .ok (.invokespecial 489, 3) := by decide +kernel
theorem own_d28_6 : decode jdk_42_method_53_code 6 = .ok (.return_, 1) := by decide +kernel
set_option maxHeartbeats 4000000 in
theorem own_ef_rm28 (m : MethodId) (x0 : Addr) (x1 : Addr) : entryFrame m #[(.ref x0), (.ref x1)] 2 = mkF m 0 #[.val (.ref x0), .val (.ref x1)] [] := by rfl
set_option maxRecDepth 65536 in
set_option maxHeartbeats 40000000 in
theorem rm28 (l : Launch) (Z : State) (a0 : Array Value) (hw : ∀ d ∈ tables_1, d.before a0 Z = true) (z0 : Int32) (O2 : Sta Z Z.heap "java/lang/String" "COMPACT_STRINGS" "Z" (.int z0)) (P5 : ¬ z0 = (0 : Int32)) (fm0 : Value) (O4 : Sta Z Z.heap "jdk/internal/util/Preconditions" "SIOOBE_FORMATTER" "Ljava/util/function/BiFunction;" fm0) (R4 : fm0.isRef = true) (ws : List Jvm.Cond) (x : Addr) (a : Addr) (t : Addr) (kb : ClassId) (cs : List Int32) (h0 : Heap) (n0 : Nat) (Z0 : n0 ≤ h0.size) (Ex : Exa Z h0 x "java/lang/String") (Vx : Fld Z h0 x "java/lang/String" "value" "[B" .null) (Cx : Fld Z h0 x "java/lang/String" "coder" "B" (.int (0 : Int32))) (Xo : Old Z n0 h0) (Ea : Exa Z h0 a "java/lang/StringBuilder") (Fv : Fld Z h0 a "java/lang/AbstractStringBuilder" "value" "[B" (.ref t)) (Fc : Fld Z h0 a "java/lang/AbstractStringBuilder" "coder" "B" (.int (0 : Int32))) (Fn : Fld Z h0 a "java/lang/AbstractStringBuilder" "count" "I" (.int (own_n cs))) (At : Arv Z h0 t kb .byte (16 : Int32) (own_bs cs) (.int (0 : Int32))) (hl : cs.length < 16) (hbd : ∀ c ∈ cs, ¬ c < 0 ∧ ¬ (255 : Int32) < c) (gz_x : n0 ≤ x) :
    own_MetN l Z (⟨"java/lang/String", "<init>", "(Ljava/lang/StringBuilder;)V"⟩ : MethodName) jdk_42_method_53_code 2 none ws ({ frames := 4, cells := 1, slots := 16, locals := 74 } : Room) #[(.ref x), (.ref a)] h0 (fun v h L => Fr n0 L ∧ Keep h0 h [x] ∧ (((v = none) ∧ (Exa Z h x "java/lang/String") ∧ (own_Str Z h x cs)))) := by
  refine own_metN (plainFor_of_name own_pn2) ?_
  intro p e s m below meth c s₁ G hx hby hml hZ hown hnm hret X0 e0 go fin
  have N0 := Fr.nil n0
  refine go _ _ (fun _ k => castTop (own_ef_rm28 m x a) k) ?_
  show G (s₁.setTop (mkF m 0 #[r' x, r' a] []))
  refine go _ _ (fun _ k => XS.aloadN X0.here hx rfl (hb hby own_d28_0) rfl rfl (XS.aloadN X0.here hx rfl (hb hby own_d28_1) rfl rfl (XS.aconstNull X0.here hx rfl (hb hby own_d28_2) k))) ?_
  obtain ⟨rv101, T101, L101, X101, q101, st101⟩ := own_sp X0 hx hZ (y := (⟨"java/lang/String", "<init>", "(Ljava/lang/AbstractStringBuilder;Ljava/lang/Void;)V"⟩ : MethodName)) rfl hown (ow hw 147 rfl) (ow hw 148 rfl) (ow hw 149 rfl) (by decide) (own_bkN (W := 0) (rm29 l Z a0 hw z0 O2 P5 fm0 O4 R4 [] x a t kb cs h0 n0 Z0 Ex Vx Cx Xo Ea Fv Fc Fn At hl hbd gz_x) hZ (ow hw 149 rfl) (ow hw 6 rfl) (by decide) (by decide)) e0 (g := (mkF m 3 #[r' x, r' a] [.null, (.ref a), (.ref x)])) rfl (by rw [hml]; rfl) (a := x) (argsL := [(.ref a), .null]) (rest := []) rfl (lenOf own_pd9 rfl) rfl (by show 2 * 0 + _ ≤ _; exact Nat.le_of_eq rfl) (hb hby own_d28_3) (by decide) (by decide)
  obtain ⟨Nq101, Kp101, ⟨rfl, f102, f103⟩⟩ := q101
  have N101 := Fr.app N0 Nq101
  refine go _ _ (st101) ?_
  show G (T101.setTop (mkF m 6 #[r' x, r' a] []))
  have K104 : Keep h0 T101.heap [x] := (Keep.refl h0 [x]).trans Kp101 (allS (Or.inl (List.mem_of_getElem? (i := 0) rfl)) all0)
  refine fin T101 _ _ _ none X101 (fun _ => rfl) (by decide) (by decide) ⟨N101, K104, ⟨rfl, f102, f103⟩⟩ _ (own_retV X101 hx hret (hb hby own_d28_6))
theorem own_d27_0 : decode jdk_67_method_42_code 0 = .ok (.new 18, 3) := by decide +kernel
theorem own_d27_3 : decode jdk_67_method_42_code 3 = .ok (.dup, 1) := by decide +kernel
theorem own_d27_4 : decode jdk_67_method_42_code 4 = .ok (.aload_n 0, 1) := by decide +kernel
theorem own_pd10 : parseMethodDescriptor "(Ljava/lang/StringBuilder;)V" = some ⟨[(.object "java/lang/StringBuilder")], none⟩ := by decide +kernel
theorem own_d27_5 : decode jdk_67_method_42_code 5 = .ok (.invokespecial 137, 3) := by decide +kernel
theorem own_d27_8 : decode jdk_67_method_42_code 8 = .ok (.areturn, 1) := by decide +kernel
set_option maxHeartbeats 4000000 in
theorem own_ef_rm27 (m : MethodId) (x0 : Addr) : entryFrame m #[(.ref x0)] 1 = mkF m 0 #[.val (.ref x0)] [] := by rfl
set_option maxRecDepth 65536 in
set_option maxHeartbeats 40000000 in
theorem rm27 (l : Launch) (Z : State) (a0 : Array Value) (hw : ∀ d ∈ tables_1, d.before a0 Z = true) (z0 : Int32) (O2 : Sta Z Z.heap "java/lang/String" "COMPACT_STRINGS" "Z" (.int z0)) (P5 : ¬ z0 = (0 : Int32)) (fm0 : Value) (O4 : Sta Z Z.heap "jdk/internal/util/Preconditions" "SIOOBE_FORMATTER" "Ljava/util/function/BiFunction;" fm0) (R4 : fm0.isRef = true) (ws : List Jvm.Cond) (a : Addr) (t : Addr) (kb : ClassId) (cs : List Int32) (h0 : Heap) (n0 : Nat) (Z0 : n0 ≤ h0.size) (Xo : Old Z n0 h0) (Ea : Exa Z h0 a "java/lang/StringBuilder") (Fv : Fld Z h0 a "java/lang/AbstractStringBuilder" "value" "[B" (.ref t)) (Fc : Fld Z h0 a "java/lang/AbstractStringBuilder" "coder" "B" (.int (0 : Int32))) (Fn : Fld Z h0 a "java/lang/AbstractStringBuilder" "count" "I" (.int (own_n cs))) (At : Arv Z h0 t kb .byte (16 : Int32) (own_bs cs) (.int (0 : Int32))) (hl : cs.length < 16) (hbd : ∀ c ∈ cs, ¬ c < 0 ∧ ¬ (255 : Int32) < c) :
    own_MetN l Z (⟨"java/lang/StringBuilder", "toString", "()Ljava/lang/String;"⟩ : MethodName) jdk_67_method_42_code 1 (some (.object "java/lang/String")) ws ({ frames := 5, cells := 2, slots := 20, locals := 88 } : Room) #[(.ref a)] h0 (fun v h L => Fr n0 L ∧ Keep h0 h [] ∧ ((∃ (b : Addr), (v = some (.ref b)) ∧ (h0.size ≤ b) ∧ (Exa Z h b "java/lang/String") ∧ (own_Str Z h b cs)))) := by
  refine own_metN (plainFor_of_name own_pn1) ?_
  intro p e s m below meth c s₁ G hx hby hml hZ hown hnm hret X0 e0 go fin
  have N0 := Fr.nil n0
  refine go _ _ (fun _ k => castTop (own_ef_rm27 m a) k) ?_
  obtain ⟨T101, h101, X101, e101, E101, A101, D101, -, st101⟩ := newO X0 hx hZ hown (ow hw 143 rfl) (ow hw 5 rfl) (ow hw 6 rfl) e0 (g := (mkF m 0 #[r' a] [])) rfl (hb hby own_d27_0) (by decide) (by decide)
  obtain ⟨b101, g101⟩ : ∃ z, z = h0.size := ⟨_, rfl⟩
  rw [← g101] at A101 D101 st101
  refine go _ _ (st101) ?_
  show G (T101.setTop (mkF m 3 #[r' a] [(.ref b101)]))
  refine go _ _ (fun _ k => XS.dup X101.here hx rfl (hb hby own_d27_3) rfl rfl (XS.aloadN X101.here hx rfl (hb hby own_d27_4) rfl rfl k)) ?_
  have K103 : Keep h0 h101 [] := (Keep.refl h0 []).ext E101
  have F104 : Old Z n0 h101 := (Xo.keep K103 all0)
  have F105 : Exa Z h101 a "java/lang/StringBuilder" := (Ea.keep K103)
  have F106 : Fld Z h101 a "java/lang/AbstractStringBuilder" "value" "[B" (.ref t) := (Fv.keep K103 nin0)
  have F107 : Fld Z h101 a "java/lang/AbstractStringBuilder" "coder" "B" (.int (0 : Int32)) := (Fc.keep K103 nin0)
  have F108 : Fld Z h101 a "java/lang/AbstractStringBuilder" "count" "I" (.int (own_n cs)) := (Fn.keep K103 nin0)
  have F109 : Arv Z h101 t kb .byte (16 : Int32) (own_bs cs) (.int (0 : Int32)) := (At.keep K103 nin0)
  have Z110 : h0.size ≤ h101.size := E101.1
  obtain ⟨rv102, T102, L102, X102, q102, st102⟩ := own_sp X101 hx hZ (y := (⟨"java/lang/String", "<init>", "(Ljava/lang/StringBuilder;)V"⟩ : MethodName)) rfl hown (ow hw 144 rfl) (ow hw 145 rfl) (ow hw 146 rfl) (by decide) (own_bkN (W := 1) (rm28 l Z a0 hw z0 O2 P5 fm0 O4 R4 [] b101 a t kb cs h101 n0 (Nat.le_trans Z0 Z110) A101 (D101 (Or.inr (ow hw 33 rfl)) (ty := (.array .byte)) (by decide)) (D101 (Or.inr (ow hw 31 rfl)) (ty := .byte) (by decide)) F104 F105 F106 F107 F108 F109 hl hbd (Nat.le_trans Z0 (Nat.le_of_eq g101.symm))) hZ (ow hw 146 rfl) (ow hw 6 rfl) (by decide) (by decide)) e101 (g := (mkF m 5 #[r' a] [(.ref a), (.ref b101), (.ref b101)])) rfl (by rw [hml]; rfl) (a := b101) (argsL := [(.ref a)]) (rest := [(.ref b101)]) rfl (lenOf own_pd10 rfl) rfl (by show 2 * 0 + _ ≤ _; exact Nat.le_of_eq rfl) (hb hby own_d27_5) (by decide) (by decide)
  obtain ⟨Nq102, Kp102, ⟨rfl, f111, f112⟩⟩ := q102
  have N102 := Fr.app N0 Nq102
  refine go _ _ (st102) ?_
  show G (T102.setTop (mkF m 8 #[r' a] [(.ref b101)]))
  have K113 : Keep h0 T102.heap [] := K103.trans Kp102 (allS (Or.inr (Nat.le_of_eq g101.symm)) all0)
  refine fin T102 _ _ _ (some (.ref b101)) X102 (fun q => nomatch q) (by decide) (by decide) ⟨N102, K113, ⟨b101, rfl, (Nat.le_of_eq g101.symm), f111, f112⟩⟩ _ (own_retA X102 hx hret rfl rfl rfl (hb hby own_d27_8))
theorem own_d9_0 : decode jdk_43_method_46_code 0 = .ok (.iconst 1, 1) := by decide +kernel
theorem own_d9_1 : decode jdk_43_method_46_code 1 = .ok (.newarray .byte, 2) := by decide +kernel
theorem own_d9_3 : decode jdk_43_method_46_code 3 = .ok (.dup, 1) := by decide +kernel
theorem own_d9_4 : decode jdk_43_method_46_code 4 = .ok (.iconst 0, 1) := by decide +kernel
theorem own_d9_5 : decode jdk_43_method_46_code 5 = .ok (.iload_n 0, 1) := by decide +kernel
theorem own_d9_6 : decode jdk_43_method_46_code 6 = .ok (.i2b, 1) := by decide +kernel
theorem own_d9_7 : decode jdk_43_method_46_code 7 = .ok (.bastore, 1) := by decide +kernel
theorem own_d9_8 : decode jdk_43_method_46_code 8 = .ok (.areturn, 1) := by decide +kernel
set_option maxHeartbeats 4000000 in
theorem own_ef_rm9 (m : MethodId) (x0 : Int32) : entryFrame m #[(.int x0)] 1 = mkF m 0 #[.val (.int x0)] [] := by rfl
set_option maxRecDepth 65536 in
set_option maxHeartbeats 40000000 in
theorem rm9 (l : Launch) (Z : State) (a0 : Array Value) (hw : ∀ d ∈ tables_1, d.before a0 Z = true) (z0 : Int32) (O2 : Sta Z Z.heap "java/lang/String" "COMPACT_STRINGS" "Z" (.int z0)) (P5 : ¬ z0 = (0 : Int32)) (fm0 : Value) (O4 : Sta Z Z.heap "jdk/internal/util/Preconditions" "SIOOBE_FORMATTER" "Ljava/util/function/BiFunction;" fm0) (R4 : fm0.isRef = true) (ws : List Jvm.Cond) (q : Int32) (h0 : Heap) (n0 : Nat) (Z0 : n0 ≤ h0.size) :
    own_MetN l Z (⟨"java/lang/StringLatin1", "toBytes", "(C)[B"⟩ : MethodName) jdk_43_method_46_code 1 (some (.array .byte)) ws ({ frames := 0, cells := 1, slots := 1, locals := 0 } : Room) #[(.int q)] h0 (fun v h L => Fr n0 L ∧ Keep h0 h [] ∧ ((∃ (b : Addr) (kb : ClassId), (v = some (.ref b)) ∧ (h0.size ≤ b) ∧ (Arv Z h b kb .byte (1 : Int32) [(.int (q.toInt8.toInt32))] (.int (0 : Int32)))))) := by
  refine own_metN (plainFor_of_name own_pn4) ?_
  intro p e s m below meth c s₁ G hx hby hml hZ hown hnm hret X0 e0 go fin
  have N0 := Fr.nil n0
  refine go _ _ (fun _ k => castTop (own_ef_rm9 m q) k) ?_
  show G (s₁.setTop (mkF m 0 #[i' q] []))
  refine go _ _ (fun _ k => XS.iconst X0.here hx rfl (hb hby own_d9_0) k) ?_
  obtain ⟨T101, h101, k101, X101, e101, E101, A101, st101⟩ := newP X0 hx hZ (ow hw 23 rfl) e0 (g := (mkF m 1 #[i' q] [(.int 1)])) rfl (hb hby own_d9_1) rfl (by decide) (cap := 1) (by decide) (by decide) (by decide) (by decide)
  obtain ⟨b101, g101⟩ : ∃ z, z = h0.size := ⟨_, rfl⟩
  rw [← g101] at A101 st101
  have V101 : Arv Z h101 b101 k101 .byte (1 : Int32) [(.int (0 : Int32))] (.int (0 : Int32)) := (Arv.new A101 (by decide)).pad (pad_rep [] (.int (0 : Int32)) 1)
  refine go _ _ (st101) ?_
  show G (T101.setTop (mkF m 3 #[i' q] [(.ref b101)]))
  refine go _ _ (fun _ k => XS.dup X101.here hx rfl (hb hby own_d9_3) rfl rfl (XS.iconst X101.here hx rfl (hb hby own_d9_4) (XS.iloadN X101.here hx rfl (hb hby own_d9_5) rfl (XS.i2b X101.here hx rfl (hb hby own_d9_6) rfl k)))) ?_
  obtain ⟨cl102, Ar102, q102, S102, M102, H102, U102⟩ := id V101
  obtain ⟨T102, h102, X102, e102, W102, st102⟩ := stB X101 hx hZ e101 Ar102 (j := (0 : Int32)) (inb_of S102 ⟨by decide, by decide⟩) (g := (mkF m 7 #[i' q] [(.int (q.toInt8.toInt32)), (.int 0), (.ref b101), (.ref b101)])) rfl rfl (hb hby own_d9_7)
  have V102 : Arv Z h102 b101 k101 .byte (1 : Int32) [(.int (nar .byte (q.toInt8.toInt32)))] (.int (0 : Int32)) := Arv.set Ar102 q102 S102 M102 H102 U102 (fits_nar_byte _) W102 0 rfl (Nat.le_of_ble_eq_true rfl)
  rw [(own_i2b q)] at V102
  have N102 := Fr.snoc X102 N0 (Nat.le_trans Z0 (Nat.le_of_eq g101.symm))
  refine go _ _ (st102) ?_
  show G (T102.setTop (mkF m 8 #[i' q] [(.ref b101)]))
  have K103 : Keep h0 h101 [] := (Keep.refl h0 []).ext E101
  have K104 : Keep h0 h102 [] := K103.wr W102 (Or.inr (Nat.le_of_eq g101.symm))
  refine fin T102 _ _ _ (some (.ref b101)) X102 (fun q => nomatch q) (by decide) (by decide) (by rw [e102]; exact ⟨N102, K104, ⟨b101, k101, rfl, (Nat.le_of_eq g101.symm), V102⟩⟩) _ (own_retA X102 hx hret rfl rfl rfl (hb hby own_d9_8))
theorem own_d10_0 : decode jdk_42_method_151_code 0 = .ok (.aload_n 0, 1) := by decide +kernel
theorem own_d10_1 : decode jdk_42_method_151_code 1 = .ok (.invokespecial 1, 3) := by decide +kernel
theorem own_d10_4 : decode jdk_42_method_151_code 4 = .ok (.aload_n 0, 1) := by decide +kernel
theorem own_d10_5 : decode jdk_42_method_151_code 5 = .ok (.aload_n 1, 1) := by decide +kernel
theorem own_d10_6 : decode jdk_42_method_151_code 6 = .ok (.putfield 9, 3) := by decide +kernel
theorem own_d10_9 : decode jdk_42_method_151_code 9 = .ok (.aload_n 0, 1) := by decide +kernel
theorem own_d10_10 : decode jdk_42_method_151_code 10 = .ok (.iload_n 2, 1) := by decide +kernel
theorem own_d10_11 : decode jdk_42_method_151_code 11 = .ok (.putfield 15, 3) := by decide +kernel
theorem own_d10_14 : decode jdk_42_method_151_code 14 = .ok (.return_, 1) := by decide +kernel
set_option maxHeartbeats 4000000 in
theorem own_ef_rm10 (m : MethodId) (x0 : Addr) (x1 : Addr) (x2 : Int32) : entryFrame m #[(.ref x0), (.ref x1), (.int x2)] 3 = mkF m 0 #[.val (.ref x0), .val (.ref x1), .val (.int x2)] [] := by rfl
set_option maxRecDepth 65536 in
set_option maxHeartbeats 40000000 in
theorem rm10 (l : Launch) (Z : State) (a0 : Array Value) (hw : ∀ d ∈ tables_1, d.before a0 Z = true) (z0 : Int32) (O2 : Sta Z Z.heap "java/lang/String" "COMPACT_STRINGS" "Z" (.int z0)) (P5 : ¬ z0 = (0 : Int32)) (fm0 : Value) (O4 : Sta Z Z.heap "jdk/internal/util/Preconditions" "SIOOBE_FORMATTER" "Ljava/util/function/BiFunction;" fm0) (R4 : fm0.isRef = true) (ws : List Jvm.Cond) (a : Addr) (b : Addr) (h0 : Heap) (n0 : Nat) (Z0 : n0 ≤ h0.size) (Ea : Exa Z h0 a "java/lang/String") (Fv : Fld Z h0 a "java/lang/String" "value" "[B" .null) (Fc : Fld Z h0 a "java/lang/String" "coder" "B" (.int (0 : Int32))) (gz_a : n0 ≤ a) :
    own_MetN l Z (⟨"java/lang/String", "<init>", "([BB)V"⟩ : MethodName) jdk_42_method_151_code 3 none ws ({ frames := 1, cells := 0, slots := 0, locals := 12 } : Room) #[(.ref a), (.ref b), (.int (0 : Int32))] h0 (fun v h L => Fr n0 L ∧ Keep h0 h [a] ∧ (((v = none) ∧ (Exa Z h a "java/lang/String") ∧ (Fld Z h a "java/lang/String" "value" "[B" (.ref b)) ∧ (Fld Z h a "java/lang/String" "coder" "B" (.int (0 : Int32)))))) := by
  refine own_metN (plainFor_of_name own_pn2) ?_
  intro p e s m below meth c s₁ G hx hby hml hZ hown hnm hret X0 e0 go fin
  have N0 := Fr.nil n0
  refine go _ _ (fun _ k => castTop (own_ef_rm10 m a b (0 : Int32)) k) ?_
  show G (s₁.setTop (mkF m 0 #[r' a, r' b, i' 0] []))
  refine go _ _ (fun _ k => XS.aloadN X0.here hx rfl (hb hby own_d10_0) rfl rfl k) ?_
  obtain ⟨T101, X101, e101, st101⟩ := initO X0 hx hZ hown (ow hw 15 rfl) (ow hw 16 rfl) (ow hw 17 rfl) e0 (g := (mkF m 1 #[r' a, r' b, i' 0] [(.ref a)])) rfl (by rw [hml]; rfl) rfl (hb hby own_d10_1) (by decide) (W := 0) (by show 2 * 0 + _ ≤ _; exact Nat.le_of_eq rfl) (by decide)
  refine go _ _ (st101) ?_
  show G (T101.setTop (mkF m 4 #[r' a, r' b, i' 0] []))
  refine go _ _ (fun _ k => XS.aloadN X101.here hx rfl (hb hby own_d10_4) rfl rfl (XS.aloadN X101.here hx rfl (hb hby own_d10_5) rfl rfl k)) ?_
  obtain ⟨T102, h102, X102, e102, W102, st102⟩ := putF X101 hx hZ hown (host := "") (Or.inl (ow hw 32 rfl)) Via.refl e101 Fv Ea (Or.inr ⟨(ow hw 33 rfl), rfl, hnm⟩) (ow hw 5 rfl) (ty := (.array .byte)) (by decide) rfl rfl (g := (mkF m 6 #[r' a, r' b, i' 0] [(.ref b), (.ref a)])) rfl rfl (hb hby own_d10_6)
  have N102 := Fr.snoc X102 N0 gz_a
  refine go _ _ (st102) ?_
  show G (T102.setTop (mkF m 9 #[r' a, r' b, i' 0] []))
  refine go _ _ (fun _ k => XS.aloadN X102.here hx rfl (hb hby own_d10_9) rfl rfl (XS.iloadN X102.here hx rfl (hb hby own_d10_10) rfl k)) ?_
  obtain ⟨T103, h103, X103, e103, W103, st103⟩ := putF X102 hx hZ hown (host := "") (Or.inl (ow hw 30 rfl)) Via.refl e102 (Fc.other W102 (Or.inr (RoadKit.slot_ne (t := .byte) (t' := (.array .byte)) (Or.inr (ow hw 31 rfl)) (Or.inr (ow hw 33 rfl)) (by decide) (by decide) (by decide)))) (Ea.wr W102) (Or.inr ⟨(ow hw 31 rfl), rfl, hnm⟩) (ow hw 5 rfl) (ty := .byte) (by decide) rfl rfl (g := (mkF m 11 #[r' a, r' b, i' 0] [(.int 0), (.ref a)])) rfl rfl (hb hby own_d10_11)
  have N103 := Fr.snoc X103 N102 gz_a
  refine go _ _ (st103) ?_
  show G (T103.setTop (mkF m 14 #[r' a, r' b, i' 0] []))
  have K104 : Keep h0 h102 [a] := (Keep.refl h0 [a]).wr W102 (Or.inl (List.mem_of_getElem? (i := 0) rfl))
  have K105 : Keep h0 h103 [a] := K104.wr W103 (Or.inl (List.mem_of_getElem? (i := 0) rfl))
  refine fin T103 _ _ _ none X103 (fun _ => rfl) (by decide) (by decide) (by rw [e103]; exact ⟨N103, K105, ⟨rfl, ((Ea.wr W102).wr W103), ((Fv.same W102).other W103 (Or.inr (RoadKit.slot_ne (t := (.array .byte)) (t' := .byte) (Or.inr (ow hw 33 rfl)) (Or.inr (ow hw 31 rfl)) (by decide) (by decide) (by decide)))), ((Fc.other W102 (Or.inr (RoadKit.slot_ne (t := .byte) (t' := (.array .byte)) (Or.inr (ow hw 31 rfl)) (Or.inr (ow hw 33 rfl)) (by decide) (by decide) (by decide)))).same W103)⟩⟩) _ (own_retV X103 hx hret (hb hby own_d10_14))
theorem own_d7_0 : decode jdk_42_method_139_code 0 = .ok (.getstatic 38, 3) := by decide +kernel
theorem own_d7_3 : decode jdk_42_method_139_code 3 = .ok (.ifCond .eq 23, 3) := by decide +kernel
theorem own_d7_6 : decode jdk_42_method_139_code 6 = .ok (.iload_n 0, 1) := by decide +kernel
theorem own_d7_7 : decode jdk_42_method_139_code 7 = .ok (.invokestatic 1015, 3) := by decide +kernel
theorem own_d7_10 : decode jdk_42_method_139_code 10 = .ok (.ifCond .eq 16, 3) := by decide +kernel
theorem own_d7_13 : decode jdk_42_method_139_code 13 = .ok (.new 10, 3) := by decide +kernel
theorem own_d7_16 : decode jdk_42_method_139_code 16 = .ok (.dup, 1) := by decide +kernel
theorem own_d7_17 : decode jdk_42_method_139_code 17 = .ok (.iload_n 0, 1) := by decide +kernel
theorem own_pd11 : parseMethodDescriptor "(C)[B" = some ⟨[.char], some (.array .byte)⟩ := by decide +kernel
theorem own_d7_18 : decode jdk_42_method_139_code 18 = .ok (.invokestatic 1018, 3) := by decide +kernel
theorem own_d7_21 : decode jdk_42_method_139_code 21 = .ok (.iconst 0, 1) := by decide +kernel
theorem own_pd12 : parseMethodDescriptor "([BB)V" = some ⟨[(.array .byte), .byte], none⟩ := by decide +kernel
theorem own_d7_22 : decode jdk_42_method_139_code 22 = .ok (.invokespecial 209, 3) := by decide +kernel
theorem own_d7_25 : decode jdk_42_method_139_code 25 = .ok (.areturn, 1) := by decide +kernel
set_option maxHeartbeats 4000000 in
theorem own_ef_rm7 (m : MethodId) (x0 : Int32) : entryFrame m #[(.int x0)] 1 = mkF m 0 #[.val (.int x0)] [] := by rfl
set_option maxRecDepth 65536 in
set_option maxHeartbeats 40000000 in
theorem rm7 (l : Launch) (Z : State) (a0 : Array Value) (hw : ∀ d ∈ tables_1, d.before a0 Z = true) (z0 : Int32) (O2 : Sta Z Z.heap "java/lang/String" "COMPACT_STRINGS" "Z" (.int z0)) (P5 : ¬ z0 = (0 : Int32)) (fm0 : Value) (O4 : Sta Z Z.heap "jdk/internal/util/Preconditions" "SIOOBE_FORMATTER" "Ljava/util/function/BiFunction;" fm0) (R4 : fm0.isRef = true) (ws : List Jvm.Cond) (q : Int32) (h0 : Heap) (n0 : Nat) (Z0 : n0 ≤ h0.size) (Xo : Old Z n0 h0) (h1 : ¬ q < (0 : Int32)) (h2 : ¬ (255 : Int32) < q) :
    own_MetN l Z (⟨"java/lang/String", "valueOf", "(C)Ljava/lang/String;"⟩ : MethodName) jdk_42_method_139_code 1 (some (.object "java/lang/String")) ws ({ frames := 2, cells := 2, slots := 5, locals := 27 } : Room) #[(.int q)] h0 (fun v h L => Fr n0 L ∧ Keep h0 h [] ∧ ((∃ (b : Addr), (v = some (.ref b)) ∧ (h0.size ≤ b) ∧ (Exa Z h b "java/lang/String") ∧ (own_Str Z h b ([q] : List Int32))))) := by
  refine own_metN (plainFor_of_name own_pn2) ?_
  intro p e s m below meth c s₁ G hx hby hml hZ hown hnm hret X0 e0 go fin
  have N0 := Fr.nil n0
  refine go _ _ (fun _ k => castTop (own_ef_rm7 m q) k) ?_
  obtain ⟨T101, X101, e101, st101⟩ := getS2 X0 hx hZ (host := "") hown (Or.inl (ow hw 18 rfl)) Via.refl e0 (O2.ext Xo.2) (g := (mkF m 0 #[i' q] [])) rfl (hb hby own_d7_0)
  refine go _ _ (st101) ?_
  show G (T101.setTop (mkF m 3 #[i' q] [(.int z0)]))
  refine go _ _ (fun _ k => XS.ifNo X101.here hx rfl (hb hby own_d7_3) rfl ((if0 _ _).trans (feq P5).1) k) ?_
  show G (T101.setTop (mkF m 6 #[i' q] []))
  refine go _ _ (fun _ k => XS.iloadN X101.here hx rfl (hb hby own_d7_6) rfl k) ?_
  obtain ⟨rv102, T102, L102, X102, q102, st102⟩ := own_st X101 hx hZ (y := (⟨"java/lang/StringLatin1", "canEncode", "(C)Z"⟩ : MethodName)) hown (ow hw 37 rfl) (ow hw 38 rfl) (ow hw 39 rfl) (ow hw 40 rfl) (by decide) (own_bkN (W := 0) (rm8 l Z a0 hw z0 O2 P5 fm0 O4 R4 [] q h0 n0 Z0 h2) hZ (ow hw 40 rfl) (ow hw 39 rfl) (by decide) (by decide)) e101 (g := (mkF m 7 #[i' q] [(.int q)])) rfl (by rw [hml]; rfl) (argsL := [(.int q)]) (rest := []) rfl (lenOf own_pd3 rfl) rfl (by show 2 * 0 + _ ≤ _; exact Nat.le_of_eq rfl) (hb hby own_d7_7) (by decide) (by decide)
  obtain ⟨Nq102, e102, rfl⟩ := q102
  have N102 := Fr.app N0 Nq102
  refine go _ _ (st102) ?_
  show G (T102.setTop (mkF m 10 #[i' q] [(.int 1)]))
  refine go _ _ (fun _ k => XS.ifNo X102.here hx rfl (hb hby own_d7_10) rfl (by decide) k) ?_
  obtain ⟨T103, h103, X103, e103, E103, A103, D103, -, st103⟩ := newO X102 hx hZ hown (ow hw 41 rfl) (ow hw 5 rfl) (ow hw 6 rfl) e102 (g := (mkF m 13 #[i' q] [])) rfl (hb hby own_d7_13) (by decide) (by decide)
  obtain ⟨b103, g103⟩ : ∃ z, z = h0.size := ⟨_, rfl⟩
  rw [← g103] at A103 D103 st103
  refine go _ _ (st103) ?_
  show G (T103.setTop (mkF m 16 #[i' q] [(.ref b103)]))
  refine go _ _ (fun _ k => XS.dup X103.here hx rfl (hb hby own_d7_16) rfl rfl (XS.iloadN X103.here hx rfl (hb hby own_d7_17) rfl k)) ?_
  have Z105 : h0.size ≤ h103.size := E103.1
  obtain ⟨rv104, T104, L104, X104, q104, st104⟩ := own_st X103 hx hZ (y := (⟨"java/lang/StringLatin1", "toBytes", "(C)[B"⟩ : MethodName)) hown (ow hw 42 rfl) (ow hw 43 rfl) (ow hw 39 rfl) (ow hw 44 rfl) (by decide) (own_bkN (W := 2) (rm9 l Z a0 hw z0 O2 P5 fm0 O4 R4 [] q h103 n0 (Nat.le_trans Z0 Z105)) hZ (ow hw 44 rfl) (ow hw 39 rfl) (by decide) (by decide)) e103 (g := (mkF m 18 #[i' q] [(.int q), (.ref b103), (.ref b103)])) rfl (by rw [hml]; rfl) (argsL := [(.int q)]) (rest := [(.ref b103), (.ref b103)]) rfl (lenOf own_pd11 rfl) rfl (by show 2 * 0 + _ ≤ _; exact Nat.le_of_eq rfl) (hb hby own_d7_18) (by decide) (by decide)
  obtain ⟨Nq104, Kp104, ⟨b_106, kb_107, rfl, z108, f109⟩⟩ := q104
  have N104 := Fr.app N102 Nq104
  refine go _ _ (st104) ?_
  show G (T104.setTop (mkF m 21 #[i' q] [(.ref b_106), (.ref b103), (.ref b103)]))
  refine go _ _ (fun _ k => XS.iconst X104.here hx rfl (hb hby own_d7_21) k) ?_
  have K111 : Keep h103 T104.heap [] := (Keep.refl h103 []).trans Kp104 all0
  have F112 : Exa Z T104.heap b103 "java/lang/String" := (A103.keep K111)
  have F113 : Fld Z T104.heap b103 "java/lang/String" "value" "[B" .null := ((D103 (Or.inr (ow hw 33 rfl)) (ty := (.array .byte)) (by decide)).keep K111 nin0)
  have F114 : Fld Z T104.heap b103 "java/lang/String" "coder" "B" (.int (0 : Int32)) := ((D103 (Or.inr (ow hw 31 rfl)) (ty := .byte) (by decide)).keep K111 nin0)
  have Z115 : h0.size ≤ T104.heap.size := Nat.le_trans Z105 Kp104.1
  obtain ⟨rv110, T110, L110, X110, q110, st110⟩ := own_sp X104 hx hZ (y := (⟨"java/lang/String", "<init>", "([BB)V"⟩ : MethodName)) rfl hown (ow hw 45 rfl) (ow hw 46 rfl) (ow hw 47 rfl) (by decide) (own_bkN (W := 1) (rm10 l Z a0 hw z0 O2 P5 fm0 O4 R4 [] b103 b_106 T104.heap n0 (Nat.le_trans Z0 Z115) F112 F113 F114 (Nat.le_trans Z0 (Nat.le_of_eq g103.symm))) hZ (ow hw 47 rfl) (ow hw 6 rfl) (by decide) (by decide)) rfl (g := (mkF m 22 #[i' q] [(.int 0), (.ref b_106), (.ref b103), (.ref b103)])) rfl (by rw [hml]; rfl) (a := b103) (argsL := [(.ref b_106), (.int (0 : Int32))]) (rest := [(.ref b103)]) rfl (lenOf own_pd12 rfl) rfl (by show 2 * 0 + _ ≤ _; exact Nat.le_of_eq rfl) (hb hby own_d7_22) (by decide) (by decide)
  obtain ⟨Nq110, Kp110, ⟨rfl, f116, f117, f118⟩⟩ := q110
  have N110 := Fr.app N104 Nq110
  refine go _ _ (st110) ?_
  show G (T110.setTop (mkF m 25 #[i' q] [(.ref b103)]))
  have K119 : Keep h0 h103 [] := (Keep.refl h0 []).ext E103
  have K120 : Keep h0 T104.heap [] := K119.trans Kp104 all0
  have K121 : Keep h0 T110.heap [] := K120.trans Kp110 (allS (Or.inr (Nat.le_of_eq g103.symm)) all0)
  have K122 : Keep T104.heap T110.heap [b103] := (Keep.refl T104.heap [b103]).trans Kp110 (allS (Or.inl (List.mem_of_getElem? (i := 0) rfl)) all0)
  have F123 : Arv Z T110.heap b_106 kb_107 .byte (1 : Int32) [(.int (q.toInt8.toInt32))] (.int (0 : Int32)) := (f109.keep K122 (ninS (Ne.symm (Nat.ne_of_lt (Nat.lt_of_lt_of_le A103.lt z108))) nin0))
  have Sx : own_Str Z T110.heap b103 ([q] : List Int32) := ⟨_, _, f116, f117, f118, F123, own_one h1 h2, (Nat.le_of_ble_eq_true rfl)⟩
  refine fin T110 _ _ _ (some (.ref b103)) X110 (fun q => nomatch q) (by decide) (by decide) ⟨N110, K121, ⟨b103, rfl, (Nat.le_of_eq g103.symm), f116, Sx⟩⟩ _ (own_retA X110 hx hret rfl rfl rfl (hb hby own_d7_25))
theorem own_pn6 : plainName "java/lang/Record" = true := by decide +kernel
theorem own_d36_0 : decode jdk_30_method_1_code 0 = .ok (.aload_n 0, 1) := by decide +kernel
theorem own_d36_1 : decode jdk_30_method_1_code 1 = .ok (.invokespecial 1, 3) := by decide +kernel
theorem own_d36_4 : decode jdk_30_method_1_code 4 = .ok (.return_, 1) := by decide +kernel
set_option maxHeartbeats 4000000 in
theorem own_ef_rm36 (m : MethodId) (x0 : Addr) : entryFrame m #[(.ref x0)] 1 = mkF m 0 #[.val (.ref x0)] [] := by rfl
set_option maxRecDepth 65536 in
set_option maxHeartbeats 40000000 in
theorem rm36 (l : Launch) (Z : State) (a0 : Array Value) (hw : ∀ d ∈ tables_1, d.before a0 Z = true) (z0 : Int32) (O2 : Sta Z Z.heap "java/lang/String" "COMPACT_STRINGS" "Z" (.int z0)) (P5 : ¬ z0 = (0 : Int32)) (fm0 : Value) (O4 : Sta Z Z.heap "jdk/internal/util/Preconditions" "SIOOBE_FORMATTER" "Ljava/util/function/BiFunction;" fm0) (R4 : fm0.isRef = true) (ws : List Jvm.Cond) (a : Addr) (h0 : Heap) (n0 : Nat) (Z0 : n0 ≤ h0.size) :
    own_MetN l Z (⟨"java/lang/Record", "<init>", "()V"⟩ : MethodName) jdk_30_method_1_code 1 none ws ({ frames := 1, cells := 0, slots := 0, locals := 12 } : Room) #[(.ref a)] h0 (fun v h L => Fr n0 L ∧ h = h0 ∧ (((v = none)))) := by
  refine own_metN (plainFor_of_name own_pn6) ?_
  intro p e s m below meth c s₁ G hx hby hml hZ hown hnm hret X0 e0 go fin
  have N0 := Fr.nil n0
  refine go _ _ (fun _ k => castTop (own_ef_rm36 m a) k) ?_
  show G (s₁.setTop (mkF m 0 #[r' a] []))
  refine go _ _ (fun _ k => XS.aloadN X0.here hx rfl (hb hby own_d36_0) rfl rfl k) ?_
  obtain ⟨T101, X101, e101, st101⟩ := initO X0 hx hZ hown (ow hw 184 rfl) (ow hw 16 rfl) (ow hw 17 rfl) e0 (g := (mkF m 1 #[r' a] [(.ref a)])) rfl (by rw [hml]; rfl) rfl (hb hby own_d36_1) (by decide) (W := 0) (by show 2 * 0 + _ ≤ _; exact Nat.le_of_eq rfl) (by decide)
  refine go _ _ (st101) ?_
  show G (T101.setTop (mkF m 4 #[r' a] []))
  refine fin T101 _ _ _ none X101 (fun _ => rfl) (by decide) (by decide) (by rw [e101]; exact ⟨N0, rfl, rfl⟩) _ (own_retV X101 hx hret (hb hby own_d36_4))
theorem own_pn7 : plainName "com/example/kindred/kindred/Identifier" = true := by decide +kernel
theorem own_d35_0 : decode prog_12_method_1_code 0 = .ok (.aload_n 0, 1) := by decide +kernel
theorem own_pd13 : parseMethodDescriptor "()V" = some ⟨[], none⟩ := by decide +kernel
theorem own_d35_1 : decode prog_12_method_1_code 1 = .ok (.invokespecial 1, 3) := by decide +kernel
theorem own_d35_4 : decode prog_12_method_1_code 4 = .ok (.aload_n 0, 1) := by decide +kernel
theorem own_d35_5 : decode prog_12_method_1_code 5 = .ok (.aload_n 1, 1) := by decide +kernel
theorem own_d35_6 : decode prog_12_method_1_code 6 = .ok (.putfield 7, 3) := by decide +kernel
theorem own_d35_9 : decode prog_12_method_1_code 9 = .ok (.aload_n 0, 1) := by decide +kernel
theorem own_d35_10 : decode prog_12_method_1_code 10 = .ok (.aload_n 2, 1) := by decide +kernel
theorem own_d35_11 : decode prog_12_method_1_code 11 = .ok (.putfield 13, 3) := by decide +kernel
theorem own_d35_14 : decode prog_12_method_1_code 14 = .ok (.return_, 1) := by decide +kernel
set_option maxHeartbeats 4000000 in
theorem own_ef_rm35 (m : MethodId) (x0 : Addr) (x1 : Addr) (x2 : Addr) : entryFrame m #[(.ref x0), (.ref x1), (.ref x2)] 3 = mkF m 0 #[.val (.ref x0), .val (.ref x1), .val (.ref x2)] [] := by rfl
set_option maxRecDepth 65536 in
set_option maxHeartbeats 40000000 in
theorem rm35 (l : Launch) (Z : State) (a0 : Array Value) (hw : ∀ d ∈ tables_1, d.before a0 Z = true) (z0 : Int32) (O2 : Sta Z Z.heap "java/lang/String" "COMPACT_STRINGS" "Z" (.int z0)) (P5 : ¬ z0 = (0 : Int32)) (fm0 : Value) (O4 : Sta Z Z.heap "jdk/internal/util/Preconditions" "SIOOBE_FORMATTER" "Ljava/util/function/BiFunction;" fm0) (R4 : fm0.isRef = true) (ws : List Jvm.Cond) (a : Addr) (s1 : Addr) (s2 : Addr) (h0 : Heap) (n0 : Nat) (Z0 : n0 ≤ h0.size) (Ea : Exa Z h0 a "com/example/kindred/kindred/Identifier") (F1 : Fld Z h0 a "com/example/kindred/kindred/Identifier" "system" "Ljava/lang/String;" .null) (F2 : Fld Z h0 a "com/example/kindred/kindred/Identifier" "value" "Ljava/lang/String;" .null) (gz_a : n0 ≤ a) :
    own_MetN l Z (⟨"com/example/kindred/kindred/Identifier", "<init>", "(Ljava/lang/String;Ljava/lang/String;)V"⟩ : MethodName) prog_12_method_1_code 3 none ws ({ frames := 2, cells := 0, slots := 0, locals := 24 } : Room) #[(.ref a), (.ref s1), (.ref s2)] h0 (fun v h L => Fr n0 L ∧ Keep h0 h [a] ∧ (((v = none) ∧ (Exa Z h a "com/example/kindred/kindred/Identifier") ∧ (Fld Z h a "com/example/kindred/kindred/Identifier" "system" "Ljava/lang/String;" (.ref s1)) ∧ (Fld Z h a "com/example/kindred/kindred/Identifier" "value" "Ljava/lang/String;" (.ref s2))))) := by
  refine own_metN (plainFor_of_name own_pn7) ?_
  intro p e s m below meth c s₁ G hx hby hml hZ hown hnm hret X0 e0 go fin
  have N0 := Fr.nil n0
  refine go _ _ (fun _ k => castTop (own_ef_rm35 m a s1 s2) k) ?_
  show G (s₁.setTop (mkF m 0 #[r' a, r' s1, r' s2] []))
  refine go _ _ (fun _ k => XS.aloadN X0.here hx rfl (hb hby own_d35_0) rfl rfl k) ?_
  obtain ⟨rv101, T101, L101, X101, q101, st101⟩ := own_sp X0 hx hZ (y := (⟨"java/lang/Record", "<init>", "()V"⟩ : MethodName)) rfl hown (ow hw 179 rfl) (ow hw 180 rfl) (ow hw 183 rfl) (by decide) (own_bkN (W := 0) (rm36 l Z a0 hw z0 O2 P5 fm0 O4 R4 [] a h0 n0 Z0) hZ (ow hw 183 rfl) (ow hw 182 rfl) (by decide) (by decide)) e0 (g := (mkF m 1 #[r' a, r' s1, r' s2] [(.ref a)])) rfl (by rw [hml]; rfl) (a := a) (argsL := []) (rest := []) rfl (lenOf own_pd13 rfl) rfl (by show 2 * 0 + _ ≤ _; exact Nat.le_of_eq rfl) (hb hby own_d35_1) (by decide) (by decide)
  obtain ⟨Nq101, e101, rfl⟩ := q101
  have N101 := Fr.app N0 Nq101
  refine go _ _ (st101) ?_
  show G (T101.setTop (mkF m 4 #[r' a, r' s1, r' s2] []))
  refine go _ _ (fun _ k => XS.aloadN X101.here hx rfl (hb hby own_d35_4) rfl rfl (XS.aloadN X101.here hx rfl (hb hby own_d35_5) rfl rfl k)) ?_
  obtain ⟨T102, h102, X102, e102, W102, st102⟩ := putF X101 hx hZ hown (host := "") (Or.inl (ow hw 185 rfl)) Via.refl e101 F1 Ea (Or.inr ⟨(ow hw 186 rfl), rfl, hnm⟩) (ow hw 137 rfl) (ty := (.object "java/lang/String")) (by decide) rfl rfl (g := (mkF m 6 #[r' a, r' s1, r' s2] [(.ref s1), (.ref a)])) rfl rfl (hb hby own_d35_6)
  have N102 := Fr.snoc X102 N101 gz_a
  refine go _ _ (st102) ?_
  show G (T102.setTop (mkF m 9 #[r' a, r' s1, r' s2] []))
  refine go _ _ (fun _ k => XS.aloadN X102.here hx rfl (hb hby own_d35_9) rfl rfl (XS.aloadN X102.here hx rfl (hb hby own_d35_10) rfl rfl k)) ?_
  obtain ⟨T103, h103, X103, e103, W103, st103⟩ := putF X102 hx hZ hown (host := "") (Or.inl (ow hw 187 rfl)) Via.refl e102 (F2.other W102 (Or.inr (RoadKit.slot_ne (t := (.object "java/lang/String")) (t' := (.object "java/lang/String")) (Or.inr (ow hw 188 rfl)) (Or.inr (ow hw 186 rfl)) (by decide) (by decide) (by decide)))) (Ea.wr W102) (Or.inr ⟨(ow hw 188 rfl), rfl, hnm⟩) (ow hw 137 rfl) (ty := (.object "java/lang/String")) (by decide) rfl rfl (g := (mkF m 11 #[r' a, r' s1, r' s2] [(.ref s2), (.ref a)])) rfl rfl (hb hby own_d35_11)
  have N103 := Fr.snoc X103 N102 gz_a
  refine go _ _ (st103) ?_
  show G (T103.setTop (mkF m 14 #[r' a, r' s1, r' s2] []))
  have K104 : Keep h0 h102 [a] := (Keep.refl h0 [a]).wr W102 (Or.inl (List.mem_of_getElem? (i := 0) rfl))
  have K105 : Keep h0 h103 [a] := K104.wr W103 (Or.inl (List.mem_of_getElem? (i := 0) rfl))
  refine fin T103 _ _ _ none X103 (fun _ => rfl) (by decide) (by decide) (by rw [e103]; exact ⟨N103, K105, ⟨rfl, ((Ea.wr W102).wr W103), ((F1.same W102).other W103 (Or.inr (RoadKit.slot_ne (t := (.object "java/lang/String")) (t' := (.object "java/lang/String")) (Or.inr (ow hw 186 rfl)) (Or.inr (ow hw 188 rfl)) (by decide) (by decide) (by decide)))), ((F2.other W102 (Or.inr (RoadKit.slot_ne (t := (.object "java/lang/String")) (t' := (.object "java/lang/String")) (Or.inr (ow hw 188 rfl)) (Or.inr (ow hw 186 rfl)) (by decide) (by decide) (by decide)))).same W103)⟩⟩) _ (own_retV X103 hx hret (hb hby own_d35_14))
theorem own_d37_0 : decode prog_12_method_10_code 0 = .ok (.aload_n 0, 1) := by decide +kernel
theorem own_d37_1 : decode prog_12_method_10_code 1 = .ok (.getfield 7, 3) := by decide +kernel
theorem own_d37_4 : decode prog_12_method_10_code 4 = .ok (.areturn, 1) := by decide +kernel
set_option maxHeartbeats 4000000 in
theorem own_ef_rm37 (m : MethodId) (x0 : Addr) : entryFrame m #[(.ref x0)] 1 = mkF m 0 #[.val (.ref x0)] [] := by rfl
set_option maxRecDepth 65536 in
set_option maxHeartbeats 40000000 in
theorem rm37 (l : Launch) (Z : State) (a0 : Array Value) (hw : ∀ d ∈ tables_1, d.before a0 Z = true) (z0 : Int32) (O2 : Sta Z Z.heap "java/lang/String" "COMPACT_STRINGS" "Z" (.int z0)) (P5 : ¬ z0 = (0 : Int32)) (fm0 : Value) (O4 : Sta Z Z.heap "jdk/internal/util/Preconditions" "SIOOBE_FORMATTER" "Ljava/util/function/BiFunction;" fm0) (R4 : fm0.isRef = true) (ws : List Jvm.Cond) (a : Addr) (o : Addr) (h0 : Heap) (n0 : Nat) (Z0 : n0 ≤ h0.size) (F : Fld Z h0 a "com/example/kindred/kindred/Identifier" "system" "Ljava/lang/String;" (.ref o)) :
    own_MetN l Z (⟨"com/example/kindred/kindred/Identifier", "system", "()Ljava/lang/String;"⟩ : MethodName) prog_12_method_10_code 1 (some (.object "java/lang/String")) ws ({ frames := 0, cells := 0, slots := 0, locals := 0 } : Room) #[(.ref a)] h0 (fun v h L => Fr n0 L ∧ h = h0 ∧ (((v = some (.ref o))))) := by
  refine own_metN (plainFor_of_name own_pn7) ?_
  intro p e s m below meth c s₁ G hx hby hml hZ hown hnm hret X0 e0 go fin
  have N0 := Fr.nil n0
  refine go _ _ (fun _ k => castTop (own_ef_rm37 m a) k) ?_
  show G (s₁.setTop (mkF m 0 #[r' a] []))
  refine go _ _ (fun _ k => XS.aloadN X0.here hx rfl (hb hby own_d37_0) rfl rfl k) ?_
  obtain ⟨T101, X101, e101, st101⟩ := getF X0 hx hZ hown (host := "") (Or.inl (ow hw 185 rfl)) Via.refl e0 F (g := (mkF m 1 #[r' a] [(.ref a)])) rfl rfl (hb hby own_d37_1)
  refine go _ _ (st101) ?_
  show G (T101.setTop (mkF m 4 #[r' a] [(.ref o)]))
  refine fin T101 _ _ _ (some (.ref o)) X101 (fun q => nomatch q) (by decide) (by decide) (by rw [e101]; exact ⟨N0, rfl, rfl⟩) _ (own_retA X101 hx hret rfl rfl rfl (hb hby own_d37_4))
theorem own_d40_0 : decode prog_12_method_11_code 0 = .ok (.aload_n 0, 1) := by decide +kernel
theorem own_d40_1 : decode prog_12_method_11_code 1 = .ok (.getfield 13, 3) := by decide +kernel
theorem own_d40_4 : decode prog_12_method_11_code 4 = .ok (.areturn, 1) := by decide +kernel
set_option maxHeartbeats 4000000 in
theorem own_ef_rm40 (m : MethodId) (x0 : Addr) : entryFrame m #[(.ref x0)] 1 = mkF m 0 #[.val (.ref x0)] [] := by rfl
set_option maxRecDepth 65536 in
set_option maxHeartbeats 40000000 in
theorem rm40 (l : Launch) (Z : State) (a0 : Array Value) (hw : ∀ d ∈ tables_1, d.before a0 Z = true) (z0 : Int32) (O2 : Sta Z Z.heap "java/lang/String" "COMPACT_STRINGS" "Z" (.int z0)) (P5 : ¬ z0 = (0 : Int32)) (fm0 : Value) (O4 : Sta Z Z.heap "jdk/internal/util/Preconditions" "SIOOBE_FORMATTER" "Ljava/util/function/BiFunction;" fm0) (R4 : fm0.isRef = true) (ws : List Jvm.Cond) (a : Addr) (o : Addr) (h0 : Heap) (n0 : Nat) (Z0 : n0 ≤ h0.size) (F : Fld Z h0 a "com/example/kindred/kindred/Identifier" "value" "Ljava/lang/String;" (.ref o)) :
    own_MetN l Z (⟨"com/example/kindred/kindred/Identifier", "value", "()Ljava/lang/String;"⟩ : MethodName) prog_12_method_11_code 1 (some (.object "java/lang/String")) ws ({ frames := 0, cells := 0, slots := 0, locals := 0 } : Room) #[(.ref a)] h0 (fun v h L => Fr n0 L ∧ h = h0 ∧ (((v = some (.ref o))))) := by
  refine own_metN (plainFor_of_name own_pn7) ?_
  intro p e s m below meth c s₁ G hx hby hml hZ hown hnm hret X0 e0 go fin
  have N0 := Fr.nil n0
  refine go _ _ (fun _ k => castTop (own_ef_rm40 m a) k) ?_
  show G (s₁.setTop (mkF m 0 #[r' a] []))
  refine go _ _ (fun _ k => XS.aloadN X0.here hx rfl (hb hby own_d40_0) rfl rfl k) ?_
  obtain ⟨T101, X101, e101, st101⟩ := getF X0 hx hZ hown (host := "") (Or.inl (ow hw 187 rfl)) Via.refl e0 F (g := (mkF m 1 #[r' a] [(.ref a)])) rfl rfl (hb hby own_d40_1)
  refine go _ _ (st101) ?_
  show G (T101.setTop (mkF m 4 #[r' a] [(.ref o)]))
  refine fin T101 _ _ _ (some (.ref o)) X101 (fun q => nomatch q) (by decide) (by decide) (by rw [e101]; exact ⟨N0, rfl, rfl⟩) _ (own_retA X101 hx hret rfl rfl rfl (hb hby own_d40_4))
theorem own_pn8 : plainName "com/example/kindred/kindred/IdentifierOfTokenPinLaw" = true := by decide +kernel
theorem own_d0_0 : decode method_3_code 0 = .ok (.iload_n 0, 1) := by decide +kernel
theorem own_d0_1 : decode method_3_code 1 = .ok (.bipush 92, 2) := by decide +kernel
theorem own_d0_3 : decode method_3_code 3 = .ok (.if_icmp .eq 9, 3) := by decide +kernel
theorem own_d0_12 : decode method_3_code 12 = .ok (.iload_n 0, 1) := by decide +kernel
theorem own_d0_13 : decode method_3_code 13 = .ok (.iconst 1, 1) := by decide +kernel
theorem own_d0_14 : decode method_3_code 14 = .ok (.iadd, 1) := by decide +kernel
theorem own_d0_15 : decode method_3_code 15 = .ok (.i2c, 1) := by decide +kernel
theorem own_d0_16 : decode method_3_code 16 = .ok (.goto 4, 3) := by decide +kernel
theorem own_d0_20 : decode method_3_code 20 = .ok (.ireturn, 1) := by decide +kernel
theorem own_d0_6 : decode method_3_code 6 = .ok (.iload_n 0, 1) := by decide +kernel
theorem own_d0_7 : decode method_3_code 7 = .ok (.bipush 124, 2) := by decide +kernel
theorem own_d0_9 : decode method_3_code 9 = .ok (.if_icmp .ne 10, 3) := by decide +kernel
theorem own_d0_19 : decode method_3_code 19 = .ok (.iload_n 0, 1) := by decide +kernel
set_option maxHeartbeats 4000000 in
theorem own_ef_rm0 (m : MethodId) (x0 : Int32) : entryFrame m #[(.int x0)] 1 = mkF m 0 #[.val (.int x0)] [] := by rfl
set_option maxRecDepth 65536 in
set_option maxHeartbeats 40000000 in
theorem rm0 (l : Launch) (Z : State) (a0 : Array Value) (hw : ∀ d ∈ tables_1, d.before a0 Z = true) (z0 : Int32) (O2 : Sta Z Z.heap "java/lang/String" "COMPACT_STRINGS" "Z" (.int z0)) (P5 : ¬ z0 = (0 : Int32)) (fm0 : Value) (O4 : Sta Z Z.heap "jdk/internal/util/Preconditions" "SIOOBE_FORMATTER" "Ljava/util/function/BiFunction;" fm0) (R4 : fm0.isRef = true) (ws : List Jvm.Cond) (q : Int32) (h0 : Heap) (n0 : Nat) (Z0 : n0 ≤ h0.size) (h1 : ¬ q < (0 : Int32)) (h2 : ¬ (255 : Int32) < q) :
    own_MetN l Z (⟨"com/example/kindred/kindred/IdentifierOfTokenPinLaw", "ord", "(C)C"⟩ : MethodName) method_3_code 1 (some .char) ws ({ frames := 0, cells := 0, slots := 0, locals := 0 } : Room) #[(.int q)] h0 (fun v h L => Fr n0 L ∧ h = h0 ∧ ((∃ (z : Int32), (v = some (.int z)) ∧ (¬ z < (0 : Int32)) ∧ (¬ (255 : Int32) < z) ∧ (¬ z = (92 : Int32)) ∧ (¬ z = (124 : Int32))))) := by
  refine own_metN (plainFor_of_name own_pn8) ?_
  intro p e s m below meth c s₁ G hx hby hml hZ hown hnm hret X0 e0 go fin
  have N0 := Fr.nil n0
  refine go _ _ (fun _ k => castTop (own_ef_rm0 m q) k) ?_
  show G (s₁.setTop (mkF m 0 #[i' q] []))
  refine go _ _ (fun _ k => XS.iloadN X0.here hx rfl (hb hby own_d0_0) rfl (XS.bipush X0.here hx rfl (hb hby own_d0_1) k)) ?_
  show G (s₁.setTop (mkF m 3 #[i' q] [(.int 92), (.int q)]))
  by_cases hc3_101 : q = (92 : Int32)
  · refine go _ _ (fun _ k => XS.icmpYes X0.here hx rfl (pc0 := 3) (pc' := 12) rfl (hb hby own_d0_3) rfl (teq hc3_101).1 (by decide) (by decide) k) ?_
    show G (s₁.setTop (mkF m 12 #[i' q] []))
    refine go _ _ (fun _ k => XS.iloadN X0.here hx rfl (hb hby own_d0_12) rfl (XS.iconst X0.here hx rfl (hb hby own_d0_13) (XS.iadd X0.here hx rfl (hb hby own_d0_14) rfl (XS.i2c X0.here hx rfl (hb hby own_d0_15) rfl k)))) ?_
    show G (s₁.setTop (mkF m 16 #[i' q] [(.int ((q + (1 : Int32)).toUInt32.toUInt16.toUInt32.toInt32))]))
    refine go _ _ (fun _ k => XS.goto X0.here hx rfl (pc0 := 16) (pc' := 20) rfl (hb hby own_d0_16) (by decide) (by decide) k) ?_
    show G (s₁.setTop (mkF m 20 #[i' q] [(.int ((q + (1 : Int32)).toUInt32.toUInt16.toUInt32.toInt32))]))
    refine fin s₁ _ _ _ (some (.int (nar .char ((q + (1 : Int32)).toUInt32.toUInt16.toUInt32.toInt32)))) X0 (fun q => nomatch q) (by decide) (by decide) (by rw [e0]; exact ⟨N0, rfl, ⟨((q + (1 : Int32)).toUInt32.toUInt16.toUInt32.toInt32), (congrArg (fun z => some (Value.int z)) (own_i2c (q + (1 : Int32)))), (own_ord1 hc3_101).1, (own_ord1 hc3_101).2.1, (own_ord1 hc3_101).2.2.1, (own_ord1 hc3_101).2.2.2⟩⟩) _ (own_retN X0 hx (z := ((q + (1 : Int32)).toUInt32.toUInt16.toUInt32.toInt32)) (t := .char) hret (by simp) (hb hby own_d0_20))
  · refine go _ _ (fun _ k => XS.icmpNo X0.here hx rfl (hb hby own_d0_3) rfl (feq hc3_101).1 k) ?_
    show G (s₁.setTop (mkF m 6 #[i' q] []))
    refine go _ _ (fun _ k => XS.iloadN X0.here hx rfl (hb hby own_d0_6) rfl (XS.bipush X0.here hx rfl (hb hby own_d0_7) k)) ?_
    show G (s₁.setTop (mkF m 9 #[i' q] [(.int 124), (.int q)]))
    by_cases hc9_102 : q = (124 : Int32)
    · refine go _ _ (fun _ k => XS.icmpNo X0.here hx rfl (hb hby own_d0_9) rfl (teq hc9_102).2 k) ?_
      show G (s₁.setTop (mkF m 12 #[i' q] []))
      refine go _ _ (fun _ k => XS.iloadN X0.here hx rfl (hb hby own_d0_12) rfl (XS.iconst X0.here hx rfl (hb hby own_d0_13) (XS.iadd X0.here hx rfl (hb hby own_d0_14) rfl (XS.i2c X0.here hx rfl (hb hby own_d0_15) rfl k)))) ?_
      show G (s₁.setTop (mkF m 16 #[i' q] [(.int ((q + (1 : Int32)).toUInt32.toUInt16.toUInt32.toInt32))]))
      refine go _ _ (fun _ k => XS.goto X0.here hx rfl (pc0 := 16) (pc' := 20) rfl (hb hby own_d0_16) (by decide) (by decide) k) ?_
      show G (s₁.setTop (mkF m 20 #[i' q] [(.int ((q + (1 : Int32)).toUInt32.toUInt16.toUInt32.toInt32))]))
      refine fin s₁ _ _ _ (some (.int (nar .char ((q + (1 : Int32)).toUInt32.toUInt16.toUInt32.toInt32)))) X0 (fun q => nomatch q) (by decide) (by decide) (by rw [e0]; exact ⟨N0, rfl, ⟨((q + (1 : Int32)).toUInt32.toUInt16.toUInt32.toInt32), (congrArg (fun z => some (Value.int z)) (own_i2c (q + (1 : Int32)))), (own_ord2 hc9_102).1, (own_ord2 hc9_102).2.1, (own_ord2 hc9_102).2.2.1, (own_ord2 hc9_102).2.2.2⟩⟩) _ (own_retN X0 hx (z := ((q + (1 : Int32)).toUInt32.toUInt16.toUInt32.toInt32)) (t := .char) hret (by simp) (hb hby own_d0_20))
    · refine go _ _ (fun _ k => XS.icmpYes X0.here hx rfl (pc0 := 9) (pc' := 19) rfl (hb hby own_d0_9) rfl (feq hc9_102).2 (by decide) (by decide) k) ?_
      show G (s₁.setTop (mkF m 19 #[i' q] []))
      refine go _ _ (fun _ k => XS.iloadN X0.here hx rfl (hb hby own_d0_19) rfl k) ?_
      show G (s₁.setTop (mkF m 20 #[i' q] [(.int q)]))
      refine fin s₁ _ _ _ (some (.int (nar .char q))) X0 (fun q => nomatch q) (by decide) (by decide) (by rw [e0]; exact ⟨N0, rfl, ⟨q, (congrArg (fun z => some (Value.int z)) (own_narc h1 h2)), h1, h2, hc3_101, hc9_102⟩⟩) _ (own_retN X0 hx (z := q) (t := .char) hret (by simp) (hb hby own_d0_20))
theorem own_d11_0 : decode prog_12_method_3_code 0 = .ok (.new 23, 3) := by decide +kernel
theorem own_d11_3 : decode prog_12_method_3_code 3 = .ok (.dup, 1) := by decide +kernel
theorem own_d11_4 : decode prog_12_method_3_code 4 = .ok (.invokespecial 25, 3) := by decide +kernel
theorem own_d11_7 : decode prog_12_method_3_code 7 = .ok (.astore_n 2, 1) := by decide +kernel
theorem own_d11_8 : decode prog_12_method_3_code 8 = .ok (.aconst_null, 1) := by decide +kernel
theorem own_d11_9 : decode prog_12_method_3_code 9 = .ok (.astore_n 3, 1) := by decide +kernel
theorem own_d11_10 : decode prog_12_method_3_code 10 = .ok (.aload_n 2, 1) := by decide +kernel
theorem own_d11_11 : decode prog_12_method_3_code 11 = .ok (.astore 4, 2) := by decide +kernel
theorem own_d11_13 : decode prog_12_method_3_code 13 = .ok (.iconst 0, 1) := by decide +kernel
theorem own_d11_14 : decode prog_12_method_3_code 14 = .ok (.istore 5, 2) := by decide +kernel
theorem own_d11_16 : decode prog_12_method_3_code 16 = .ok (.iload 5, 2) := by decide +kernel
theorem own_d11_18 : decode prog_12_method_3_code 18 = .ok (.aload_n 0, 1) := by decide +kernel
theorem own_d11_19 : decode prog_12_method_3_code 19 = .ok (.invokevirtual 26, 3) := by decide +kernel
theorem own_d11_22 : decode prog_12_method_3_code 22 = .ok (.if_icmp .ge 86, 3) := by decide +kernel
theorem own_d11_25 : decode prog_12_method_3_code 25 = .ok (.aload_n 0, 1) := by decide +kernel
theorem own_d11_26 : decode prog_12_method_3_code 26 = .ok (.iload 5, 2) := by decide +kernel
theorem own_pd14 : parseMethodDescriptor "(I)C" = some ⟨[.int], some .char⟩ := by decide +kernel
theorem own_d11_28 : decode prog_12_method_3_code 28 = .ok (.invokevirtual 32, 3) := by decide +kernel
theorem own_d11_31 : decode prog_12_method_3_code 31 = .ok (.istore 6, 2) := by decide +kernel
theorem own_d11_33 : decode prog_12_method_3_code 33 = .ok (.iload 6, 2) := by decide +kernel
theorem own_d11_35 : decode prog_12_method_3_code 35 = .ok (.bipush 92, 2) := by decide +kernel
theorem own_d11_37 : decode prog_12_method_3_code 37 = .ok (.if_icmp .ne 32, 3) := by decide +kernel
theorem own_d11_40 : decode prog_12_method_3_code 40 = .ok (.iload 5, 2) := by decide +kernel
theorem own_d11_42 : decode prog_12_method_3_code 42 = .ok (.iconst 1, 1) := by decide +kernel
theorem own_d11_43 : decode prog_12_method_3_code 43 = .ok (.iadd, 1) := by decide +kernel
theorem own_d11_44 : decode prog_12_method_3_code 44 = .ok (.aload_n 0, 1) := by decide +kernel
theorem own_d11_45 : decode prog_12_method_3_code 45 = .ok (.invokevirtual 26, 3) := by decide +kernel
theorem own_d11_48 : decode prog_12_method_3_code 48 = .ok (.if_icmp .ge 21, 3) := by decide +kernel
theorem own_d11_51 : decode prog_12_method_3_code 51 = .ok (.iinc 5 1, 3) := by decide +kernel
theorem own_d11_54 : decode prog_12_method_3_code 54 = .ok (.aload 4, 2) := by decide +kernel
theorem own_d11_56 : decode prog_12_method_3_code 56 = .ok (.aload_n 0, 1) := by decide +kernel
theorem own_d11_57 : decode prog_12_method_3_code 57 = .ok (.iload 5, 2) := by decide +kernel
theorem own_d11_59 : decode prog_12_method_3_code 59 = .ok (.invokevirtual 32, 3) := by decide +kernel
theorem own_pd15 : parseMethodDescriptor "(C)Ljava/lang/StringBuilder;" = some ⟨[.char], some (.object "java/lang/StringBuilder")⟩ := by decide +kernel
theorem own_d11_62 : decode prog_12_method_3_code 62 = .ok (.invokevirtual 36, 3) := by decide +kernel
theorem own_d11_65 : decode prog_12_method_3_code 65 = .ok (.pop, 1) := by decide +kernel
theorem own_d11_66 : decode prog_12_method_3_code 66 = .ok (.goto 36, 3) := by decide +kernel
theorem own_d11_102 : decode prog_12_method_3_code 102 = .ok (.iinc 5 1, 3) := by decide +kernel
theorem own_d11_105 : decode prog_12_method_3_code 105 = .ok (.goto (-89), 3) := by decide +kernel
theorem own_d11_69 : decode prog_12_method_3_code 69 = .ok (.iload 6, 2) := by decide +kernel
theorem own_d11_71 : decode prog_12_method_3_code 71 = .ok (.bipush 124, 2) := by decide +kernel
theorem own_d11_73 : decode prog_12_method_3_code 73 = .ok (.if_icmp .ne 21, 3) := by decide +kernel
theorem own_d11_76 : decode prog_12_method_3_code 76 = .ok (.aload_n 3, 1) := by decide +kernel
theorem own_d11_77 : decode prog_12_method_3_code 77 = .ok (.ifnonnull 17, 3) := by decide +kernel
theorem own_d11_80 : decode prog_12_method_3_code 80 = .ok (.new 23, 3) := by decide +kernel
theorem own_d11_83 : decode prog_12_method_3_code 83 = .ok (.dup, 1) := by decide +kernel
theorem own_d11_84 : decode prog_12_method_3_code 84 = .ok (.invokespecial 25, 3) := by decide +kernel
theorem own_d11_87 : decode prog_12_method_3_code 87 = .ok (.astore_n 3, 1) := by decide +kernel
theorem own_d11_88 : decode prog_12_method_3_code 88 = .ok (.aload_n 3, 1) := by decide +kernel
theorem own_d11_89 : decode prog_12_method_3_code 89 = .ok (.astore 4, 2) := by decide +kernel
theorem own_d11_91 : decode prog_12_method_3_code 91 = .ok (.goto 11, 3) := by decide +kernel
theorem own_d11_108 : decode prog_12_method_3_code 108 = .ok (.aload_n 3, 1) := by decide +kernel
theorem own_d11_109 : decode prog_12_method_3_code 109 = .ok (.ifnull 17, 3) := by decide +kernel
theorem own_d11_112 : decode prog_12_method_3_code 112 = .ok (.aload_n 2, 1) := by decide +kernel
theorem own_d11_113 : decode prog_12_method_3_code 113 = .ok (.invokevirtual 40, 3) := by decide +kernel
theorem own_d11_116 : decode prog_12_method_3_code 116 = .ok (.ifCond .eq 10, 3) := by decide +kernel
theorem own_d11_119 : decode prog_12_method_3_code 119 = .ok (.aload_n 3, 1) := by decide +kernel
theorem own_d11_120 : decode prog_12_method_3_code 120 = .ok (.invokevirtual 40, 3) := by decide +kernel
theorem own_d11_123 : decode prog_12_method_3_code 123 = .ok (.ifCond .ne 23, 3) := by decide +kernel
theorem own_d11_146 : decode prog_12_method_3_code 146 = .ok (.new 8, 3) := by decide +kernel
theorem own_d11_149 : decode prog_12_method_3_code 149 = .ok (.dup, 1) := by decide +kernel
theorem own_d11_150 : decode prog_12_method_3_code 150 = .ok (.aload_n 2, 1) := by decide +kernel
theorem own_pd16 : parseMethodDescriptor "()Ljava/lang/String;" = some ⟨[], some (.object "java/lang/String")⟩ := by decide +kernel
theorem own_d11_151 : decode prog_12_method_3_code 151 = .ok (.invokevirtual 52, 3) := by decide +kernel
theorem own_d11_154 : decode prog_12_method_3_code 154 = .ok (.aload_n 3, 1) := by decide +kernel
theorem own_d11_155 : decode prog_12_method_3_code 155 = .ok (.invokevirtual 52, 3) := by decide +kernel
theorem own_pd17 : parseMethodDescriptor "(Ljava/lang/String;Ljava/lang/String;)V" = some ⟨[(.object "java/lang/String"), (.object "java/lang/String")], none⟩ := by decide +kernel
theorem own_d11_158 : decode prog_12_method_3_code 158 = .ok (.invokespecial 20, 3) := by decide +kernel
theorem own_d11_161 : decode prog_12_method_3_code 161 = .ok (.areturn, 1) := by decide +kernel
set_option maxHeartbeats 4000000 in
theorem own_ef_rmT0 (m : MethodId) (x0 : Addr) (x1 : Value) (q1 : x1.isRef = true) : entryFrame m #[(.ref x0), x1] 7 = mkF m 0 #[.val (.ref x0), .val x1, .unset, .unset, .unset, .unset, .unset] [] := by simp [entryFrame, mkF, argsToLocals, own_catR, own_catI, own_catN, own_catJ, own_cat q1]
set_option maxRecDepth 65536 in
set_option maxHeartbeats 40000000 in
theorem rmT0 (l : Launch) (Z : State) (a0 : Array Value) (hw : ∀ d ∈ tables_1, d.before a0 Z = true) (z0 : Int32) (O2 : Sta Z Z.heap "java/lang/String" "COMPACT_STRINGS" "Z" (.int z0)) (P5 : ¬ z0 = (0 : Int32)) (fm0 : Value) (O4 : Sta Z Z.heap "jdk/internal/util/Preconditions" "SIOOBE_FORMATTER" "Ljava/util/function/BiFunction;" fm0) (R4 : fm0.isRef = true) (ws : List Jvm.Cond) (tk : Addr) (pm : Value) (ca : Int32) (cb : Int32) (cc : Int32) (cd : Int32) (h0 : Heap) (n0 : Nat) (Z0 : n0 ≤ h0.size) (rpm : pm.isRef = true) (Xo : Old Z n0 h0) (Et : Exa Z h0 tk "java/lang/String") (St : own_Str Z h0 tk ([(92 : Int32), ca, (92 : Int32), cb, (124 : Int32), (92 : Int32), cc, (92 : Int32), cd] : List Int32)) (bca0 : ¬ ca < (0 : Int32)) (bca1 : ¬ (255 : Int32) < ca) (bcb0 : ¬ cb < (0 : Int32)) (bcb1 : ¬ (255 : Int32) < cb) (bcc0 : ¬ cc < (0 : Int32)) (bcc1 : ¬ (255 : Int32) < cc) (bcd0 : ¬ cd < (0 : Int32)) (bcd1 : ¬ (255 : Int32) < cd) :
    own_MetN l Z (⟨"com/example/kindred/kindred/Identifier", "ofToken", "(Ljava/lang/String;Ljava/lang/String;)Lcom/example/kindred/kindred/Identifier;"⟩ : MethodName) prog_12_method_3_code 7 (some (.object "com/example/kindred/kindred/Identifier")) ws ({ frames := 6, cells := 9, slots := 82, locals := 103 } : Room) #[(.ref tk), pm] h0 (fun v h L => Fr n0 L ∧ Keep h0 h [] ∧ ((∃ (b : Addr) (s1 : Addr) (s2 : Addr), (v = some (.ref b)) ∧ (Exa Z h b "com/example/kindred/kindred/Identifier") ∧ (Fld Z h b "com/example/kindred/kindred/Identifier" "system" "Ljava/lang/String;" (.ref s1)) ∧ (Fld Z h b "com/example/kindred/kindred/Identifier" "value" "Ljava/lang/String;" (.ref s2)) ∧ (Exa Z h s1 "java/lang/String") ∧ (own_Str Z h s1 ((([] : List Int32) ++ [ca]) ++ [cb])) ∧ (Exa Z h s2 "java/lang/String") ∧ (own_Str Z h s2 ((([] : List Int32) ++ [cc]) ++ [cd]))))) := by
  refine own_metN (plainFor_of_name own_pn7) ?_
  intro p e s m below meth c s₁ G hx hby hml hZ hown hnm hret X0 e0 go fin
  have N0 := Fr.nil n0
  refine go _ _ (fun _ k => castTop (own_ef_rmT0 m tk pm rpm) k) ?_
  obtain ⟨T101, h101, X101, e101, E101, A101, D101, -, st101⟩ := newO X0 hx hZ hown (ow hw 55 rfl) (ow hw 56 rfl) (ow hw 57 rfl) e0 (g := (mkF m 0 #[r' tk, .val pm, u', u', u', u', u'] [])) rfl (hb hby own_d11_0) (by decide) (by decide)
  obtain ⟨b101, g101⟩ : ∃ z, z = h0.size := ⟨_, rfl⟩
  rw [← g101] at A101 D101 st101
  refine go _ _ (st101) ?_
  show G (T101.setTop (mkF m 3 #[r' tk, .val pm, u', u', u', u', u'] [(.ref b101)]))
  refine go _ _ (fun _ k => XS.dup X101.here hx rfl (hb hby own_d11_3) rfl rfl k) ?_
  have K103 : Keep h0 h101 [] := (Keep.refl h0 []).ext E101
  have F104 : Old Z n0 h101 := (Xo.keep K103 all0)
  have Z105 : h0.size ≤ h101.size := E101.1
  obtain ⟨rv102, T102, L102, X102, q102, st102⟩ := own_sp X101 hx hZ (y := (⟨"java/lang/StringBuilder", "<init>", "()V"⟩ : MethodName)) rfl hown (ow hw 58 rfl) (ow hw 59 rfl) (ow hw 60 rfl) (by decide) (own_bkN (W := 1) (rm12 l Z a0 hw z0 O2 P5 fm0 O4 R4 [] b101 h101 n0 (Nat.le_trans Z0 Z105) F104 A101 (D101 (Or.inl (ow hw 70 rfl)) (ty := (.array .byte)) (by decide)) (D101 (Or.inl (ow hw 72 rfl)) (ty := .byte) (by decide)) (D101 (Or.inl (ow hw 115 rfl)) (ty := .int) (by decide)) (Nat.le_trans Z0 (Nat.le_of_eq g101.symm))) hZ (ow hw 60 rfl) (ow hw 57 rfl) (by decide) (by decide)) e101 (g := (mkF m 4 #[r' tk, .val pm, u', u', u', u', u'] [(.ref b101), (.ref b101)])) rfl (by rw [hml]; rfl) (a := b101) (argsL := []) (rest := [(.ref b101)]) rfl (lenOf own_pd13 rfl) rfl (by show 2 * 0 + _ ≤ _; exact Nat.le_of_eq rfl) (hb hby own_d11_4) (by decide) (by decide)
  obtain ⟨Nq102, Kp102, ⟨t_106, kb_107, rfl, z108, f109, f110, f111, f112, f113⟩⟩ := q102
  have N102 := Fr.app N0 Nq102
  refine go _ _ (st102) ?_
  show G (T102.setTop (mkF m 7 #[r' tk, .val pm, u', u', u', u', u'] [(.ref b101)]))
  refine go _ _ (fun _ k => XS.astoreN X102.here hx rfl (hb hby own_d11_7) rfl rfl (l' := #[r' tk, .val pm, r' b101, u', u', u', u']) rfl (XS.aconstNull X102.here hx rfl (hb hby own_d11_8) (XS.astoreN X102.here hx rfl (hb hby own_d11_9) rfl rfl (l' := #[r' tk, .val pm, r' b101, .val .null, u', u', u']) rfl (XS.aloadN X102.here hx rfl (hb hby own_d11_10) rfl rfl (XS.astore X102.here hx rfl (hb hby own_d11_11) rfl rfl (l' := #[r' tk, .val pm, r' b101, .val .null, r' b101, u', u']) rfl (XS.iconst X102.here hx rfl (hb hby own_d11_13) k)))))) ?_
  show G (T102.setTop (mkF m 14 #[r' tk, .val pm, r' b101, .val .null, r' b101, u', u'] [(.int 0)]))
  refine go _ _ (fun _ k => XS.istore X102.here hx rfl (hb hby own_d11_14) rfl (l' := #[r' tk, .val pm, r' b101, .val .null, r' b101, i' 0, u']) rfl (XS.iload X102.here hx rfl (hb hby own_d11_16) rfl (XS.aloadN X102.here hx rfl (hb hby own_d11_18) rfl rfl k))) ?_
  have K115 : Keep h0 T102.heap [] := K103.trans Kp102 (allS (Or.inr (Nat.le_of_eq g101.symm)) all0)
  have F116 : own_Str Z T102.heap tk ([(92 : Int32), ca, (92 : Int32), cb, (124 : Int32), (92 : Int32), cc, (92 : Int32), cd] : List Int32) := (own_Str_keep St K115)
  obtain ⟨tx114, kbx114, Esx114, Vsx114, Csx114, Asx114, cdx114, bdx114, lnx114⟩ := own_Str_W F116
  have K117 : Keep h101 T102.heap [b101] := (Keep.refl h101 [b101]).trans Kp102 (allS (Or.inl (List.mem_of_getElem? (i := 0) rfl)) all0)
  have F118 : Old Z n0 T102.heap := (F104.keep K117 (allS (Nat.le_trans Z0 (Nat.le_of_eq g101.symm)) all0))
  have F119 : Exa Z T102.heap tk "java/lang/String" := (Et.keep K115)
  obtain ⟨rv114, T114, L114, X114, q114, st114⟩ := own_vi X102 hx hZ (Q := fun v h L => v = some (.int (Int32.ofNat (([(92 : Int32), ca, (92 : Int32), cb, (124 : Int32), (92 : Int32), cc, (92 : Int32), cd] : List Int32)).length)) ∧ L = [] ∧ h = T102.heap) (kc := 0) (ks := 0) (y := (⟨"java/lang/String", "length", "()I"⟩ : MethodName)) (z := (⟨"java/lang/String", "length", "()I"⟩ : MethodName)) hown (ow hw 73 rfl) (ow hw 74 rfl) (ow hw 76 rfl) (ow hw 75 rfl) (Or.inl rfl) (by decide) (StrChars.Road.lenW (W := 1) hZ (own_hln hw) (kI := 4) (ow hw 5 rfl) Esx114 Vsx114 Csx114 Asx114 cdx114 bdx114 (O2.ext F118.2) P5 lnx114 (by decide) (by decide)) rfl F119 (g := (mkF m 19 #[r' tk, .val pm, r' b101, .val .null, r' b101, i' 0, u'] [(.ref tk), (.int 0)])) rfl (by rw [hml]; rfl) (argsL := []) (rest := [(.int (0 : Int32))]) rfl (lenOf own_pd1 rfl) rfl (by show 2 * 0 + _ ≤ _; exact Nat.le_of_eq rfl) (hb hby own_d11_19) (by decide) (by decide)
  obtain ⟨rfl, rfl, e114⟩ := q114
  have N114 := Fr.app N102 (Fr.nil n0)
  refine go _ _ (st114) ?_
  show G (T114.setTop (mkF m 22 #[r' tk, .val pm, r' b101, .val .null, r' b101, i' 0, u'] [(.int 9), (.int 0)]))
  refine go _ _ (fun _ k => XS.icmpNo X114.here hx rfl (hb hby own_d11_22) rfl (by decide) k) ?_
  show G (T114.setTop (mkF m 25 #[r' tk, .val pm, r' b101, .val .null, r' b101, i' 0, u'] []))
  refine go _ _ (fun _ k => XS.aloadN X114.here hx rfl (hb hby own_d11_25) rfl rfl (XS.iload X114.here hx rfl (hb hby own_d11_26) rfl k)) ?_
  obtain ⟨tx120, kbx120, Esx120, Vsx120, Csx120, Asx120, cdx120, bdx120, lnx120⟩ := own_Str_W F116
  obtain ⟨rv120, T120, L120, X120, q120, st120⟩ := own_vi X114 hx hZ (Q := fun v h L => v = some (.int ((([(92 : Int32), ca, (92 : Int32), cb, (124 : Int32), (92 : Int32), cc, (92 : Int32), cd] : List Int32)).getD 0 0)) ∧ L = [] ∧ h = T102.heap) (kc := 0) (ks := 0) (y := (⟨"java/lang/String", "charAt", "(I)C"⟩ : MethodName)) (z := (⟨"java/lang/String", "charAt", "(I)C"⟩ : MethodName)) hown (ow hw 83 rfl) (ow hw 84 rfl) (ow hw 86 rfl) (ow hw 85 rfl) (Or.inl rfl) (by decide) (StrChars.Road.chN (W := 0) hZ (own_hch hw) (kI := 4) (ow hw 5 rfl) Esx120 Vsx120 Csx120 Asx120 cdx120 bdx120 (O2.ext F118.2) P5 (O4.ext F118.2) R4 lnx120 (i := 0) (Nat.le_of_ble_eq_true rfl) (j := (0 : Int32)) (by decide) (by decide) (by decide)) e114 F119 (g := (mkF m 28 #[r' tk, .val pm, r' b101, .val .null, r' b101, i' 0, u'] [(.int 0), (.ref tk)])) rfl (by rw [hml]; rfl) (argsL := [(.int (0 : Int32))]) (rest := []) rfl (lenOf own_pd14 rfl) rfl (by show 2 * 0 + _ ≤ _; exact Nat.le_of_eq rfl) (hb hby own_d11_28) (by decide) (by decide)
  obtain ⟨rfl, rfl, e120⟩ := q120
  have N120 := Fr.app N114 (Fr.nil n0)
  refine go _ _ (st120) ?_
  show G (T120.setTop (mkF m 31 #[r' tk, .val pm, r' b101, .val .null, r' b101, i' 0, u'] [(.int 92)]))
  refine go _ _ (fun _ k => XS.istore X120.here hx rfl (hb hby own_d11_31) rfl (l' := #[r' tk, .val pm, r' b101, .val .null, r' b101, i' 0, i' 92]) rfl (XS.iload X120.here hx rfl (hb hby own_d11_33) rfl (XS.bipush X120.here hx rfl (hb hby own_d11_35) k))) ?_
  show G (T120.setTop (mkF m 37 #[r' tk, .val pm, r' b101, .val .null, r' b101, i' 0, i' 92] [(.int 92), (.int 92)]))
  refine go _ _ (fun _ k => XS.icmpNo X120.here hx rfl (hb hby own_d11_37) rfl (by decide) k) ?_
  show G (T120.setTop (mkF m 40 #[r' tk, .val pm, r' b101, .val .null, r' b101, i' 0, i' 92] []))
  refine go _ _ (fun _ k => XS.iload X120.here hx rfl (hb hby own_d11_40) rfl (XS.iconst X120.here hx rfl (hb hby own_d11_42) (XS.iadd X120.here hx rfl (hb hby own_d11_43) rfl (XS.aloadN X120.here hx rfl (hb hby own_d11_44) rfl rfl k)))) ?_
  obtain ⟨tx121, kbx121, Esx121, Vsx121, Csx121, Asx121, cdx121, bdx121, lnx121⟩ := own_Str_W F116
  obtain ⟨rv121, T121, L121, X121, q121, st121⟩ := own_vi X120 hx hZ (Q := fun v h L => v = some (.int (Int32.ofNat (([(92 : Int32), ca, (92 : Int32), cb, (124 : Int32), (92 : Int32), cc, (92 : Int32), cd] : List Int32)).length)) ∧ L = [] ∧ h = T102.heap) (kc := 0) (ks := 0) (y := (⟨"java/lang/String", "length", "()I"⟩ : MethodName)) (z := (⟨"java/lang/String", "length", "()I"⟩ : MethodName)) hown (ow hw 73 rfl) (ow hw 74 rfl) (ow hw 76 rfl) (ow hw 75 rfl) (Or.inl rfl) (by decide) (StrChars.Road.lenW (W := 1) hZ (own_hln hw) (kI := 4) (ow hw 5 rfl) Esx121 Vsx121 Csx121 Asx121 cdx121 bdx121 (O2.ext F118.2) P5 lnx121 (by decide) (by decide)) e120 F119 (g := (mkF m 45 #[r' tk, .val pm, r' b101, .val .null, r' b101, i' 0, i' 92] [(.ref tk), (.int 1)])) rfl (by rw [hml]; rfl) (argsL := []) (rest := [(.int (1 : Int32))]) rfl (lenOf own_pd1 rfl) rfl (by show 2 * 0 + _ ≤ _; exact Nat.le_of_eq rfl) (hb hby own_d11_45) (by decide) (by decide)
  obtain ⟨rfl, rfl, e121⟩ := q121
  have N121 := Fr.app N120 (Fr.nil n0)
  refine go _ _ (st121) ?_
  show G (T121.setTop (mkF m 48 #[r' tk, .val pm, r' b101, .val .null, r' b101, i' 0, i' 92] [(.int 9), (.int 1)]))
  refine go _ _ (fun _ k => XS.icmpNo X121.here hx rfl (hb hby own_d11_48) rfl (by decide) k) ?_
  show G (T121.setTop (mkF m 51 #[r' tk, .val pm, r' b101, .val .null, r' b101, i' 0, i' 92] []))
  refine go _ _ (fun _ k => XS.iinc X121.here hx rfl (hb hby own_d11_51) rfl (l' := #[r' tk, .val pm, r' b101, .val .null, r' b101, i' 1, i' 92]) rfl (XS.aload X121.here hx rfl (hb hby own_d11_54) rfl rfl (XS.aloadN X121.here hx rfl (hb hby own_d11_56) rfl rfl (XS.iload X121.here hx rfl (hb hby own_d11_57) rfl k)))) ?_
  obtain ⟨tx122, kbx122, Esx122, Vsx122, Csx122, Asx122, cdx122, bdx122, lnx122⟩ := own_Str_W F116
  obtain ⟨rv122, T122, L122, X122, q122, st122⟩ := own_vi X121 hx hZ (Q := fun v h L => v = some (.int ((([(92 : Int32), ca, (92 : Int32), cb, (124 : Int32), (92 : Int32), cc, (92 : Int32), cd] : List Int32)).getD 1 0)) ∧ L = [] ∧ h = T102.heap) (kc := 0) (ks := 0) (y := (⟨"java/lang/String", "charAt", "(I)C"⟩ : MethodName)) (z := (⟨"java/lang/String", "charAt", "(I)C"⟩ : MethodName)) hown (ow hw 83 rfl) (ow hw 84 rfl) (ow hw 86 rfl) (ow hw 85 rfl) (Or.inl rfl) (by decide) (StrChars.Road.chN (W := 1) hZ (own_hch hw) (kI := 4) (ow hw 5 rfl) Esx122 Vsx122 Csx122 Asx122 cdx122 bdx122 (O2.ext F118.2) P5 (O4.ext F118.2) R4 lnx122 (i := 1) (Nat.le_of_ble_eq_true rfl) (j := (1 : Int32)) (by decide) (by decide) (by decide)) e121 F119 (g := (mkF m 59 #[r' tk, .val pm, r' b101, .val .null, r' b101, i' 1, i' 92] [(.int 1), (.ref tk), (.ref b101)])) rfl (by rw [hml]; rfl) (argsL := [(.int (1 : Int32))]) (rest := [(.ref b101)]) rfl (lenOf own_pd14 rfl) rfl (by show 2 * 0 + _ ≤ _; exact Nat.le_of_eq rfl) (hb hby own_d11_59) (by decide) (by decide)
  obtain ⟨rfl, rfl, e122⟩ := q122
  have N122 := Fr.app N121 (Fr.nil n0)
  refine go _ _ (st122) ?_
  have Z124 : h0.size ≤ T102.heap.size := Nat.le_trans Z105 Kp102.1
  obtain ⟨rv123, T123, L123, X123, q123, st123⟩ := own_vi X122 hx hZ (y := (⟨"java/lang/StringBuilder", "append", "(C)Ljava/lang/StringBuilder;"⟩ : MethodName)) (z := (⟨"java/lang/StringBuilder", "append", "(C)Ljava/lang/StringBuilder;"⟩ : MethodName)) hown (ow hw 104 rfl) (ow hw 105 rfl) (ow hw 107 rfl) (ow hw 106 rfl) (Or.inl rfl) (by decide) (own_bkN (W := 0) (rm21 l Z a0 hw z0 O2 P5 fm0 O4 R4 [] b101 ca t_106 kb_107 ([] : List Int32) T102.heap n0 (Nat.le_trans Z0 Z124) F118 f109 f110 f111 f112 f113 bca1 (Nat.le_of_ble_eq_true rfl) (Nat.le_trans Z0 (Nat.le_of_eq g101.symm)) (Nat.le_trans (Nat.le_trans Z0 Z105) z108)) hZ (ow hw 108 rfl) (ow hw 57 rfl) (by decide) (by decide)) e122 f109 (g := (mkF m 62 #[r' tk, .val pm, r' b101, .val .null, r' b101, i' 1, i' 92] [(.int ca), (.ref b101)])) rfl (by rw [hml]; rfl) (argsL := [(.int ca)]) (rest := []) rfl (lenOf own_pd15 rfl) rfl (by show 2 * 0 + _ ≤ _; exact Nat.le_of_eq rfl) (hb hby own_d11_62) (by decide) (by decide)
  obtain ⟨Nq123, Kp123, ⟨rfl, f125, f126, f127, f128, f129⟩⟩ := q123
  have N123 := Fr.app N122 Nq123
  refine go _ _ (st123) ?_
  show G (T123.setTop (mkF m 65 #[r' tk, .val pm, r' b101, .val .null, r' b101, i' 1, i' 92] [(.ref b101)]))
  refine go _ _ (fun _ k => XS.pop X123.here hx rfl (hb hby own_d11_65) rfl rfl k) ?_
  show G (T123.setTop (mkF m 66 #[r' tk, .val pm, r' b101, .val .null, r' b101, i' 1, i' 92] []))
  refine go _ _ (fun _ k => XS.goto X123.here hx rfl (pc0 := 66) (pc' := 102) rfl (hb hby own_d11_66) (by decide) (by decide) k) ?_
  show G (T123.setTop (mkF m 102 #[r' tk, .val pm, r' b101, .val .null, r' b101, i' 1, i' 92] []))
  refine go _ _ (fun _ k => XS.iinc X123.here hx rfl (hb hby own_d11_102) rfl (l' := #[r' tk, .val pm, r' b101, .val .null, r' b101, i' 2, i' 92]) rfl k) ?_
  show G (T123.setTop (mkF m 105 #[r' tk, .val pm, r' b101, .val .null, r' b101, i' 2, i' 92] []))
  refine go _ _ (fun _ k => XS.goto X123.here hx rfl (pc0 := 105) (pc' := 16) rfl (hb hby own_d11_105) (by decide) (by decide) k) ?_
  show G (T123.setTop (mkF m 16 #[r' tk, .val pm, r' b101, .val .null, r' b101, i' 2, i' 92] []))
  refine go _ _ (fun _ k => XS.iload X123.here hx rfl (hb hby own_d11_16) rfl (XS.aloadN X123.here hx rfl (hb hby own_d11_18) rfl rfl k)) ?_
  have K131 : Keep h0 T123.heap [] := K115.trans Kp123 (allS (Or.inr (Nat.le_of_eq g101.symm)) (allS (Or.inr (Nat.le_trans Z105 z108)) all0))
  have F132 : own_Str Z T123.heap tk ([(92 : Int32), ca, (92 : Int32), cb, (124 : Int32), (92 : Int32), cc, (92 : Int32), cd] : List Int32) := (own_Str_keep St K131)
  obtain ⟨tx130, kbx130, Esx130, Vsx130, Csx130, Asx130, cdx130, bdx130, lnx130⟩ := own_Str_W F132
  have K133 : Keep T102.heap T123.heap [b101, t_106] := (Keep.refl T102.heap [b101, t_106]).trans Kp123 (allS (Or.inl (List.mem_of_getElem? (i := 0) rfl)) (allS (Or.inl (List.mem_of_getElem? (i := 1) rfl)) all0))
  have F134 : Old Z n0 T123.heap := (F118.keep K133 (allS (Nat.le_trans Z0 (Nat.le_of_eq g101.symm)) (allS (Nat.le_trans (Nat.le_trans Z0 Z105) z108) all0)))
  have F135 : Exa Z T123.heap tk "java/lang/String" := (F119.keep K133)
  obtain ⟨rv130, T130, L130, X130, q130, st130⟩ := own_vi X123 hx hZ (Q := fun v h L => v = some (.int (Int32.ofNat (([(92 : Int32), ca, (92 : Int32), cb, (124 : Int32), (92 : Int32), cc, (92 : Int32), cd] : List Int32)).length)) ∧ L = [] ∧ h = T123.heap) (kc := 0) (ks := 0) (y := (⟨"java/lang/String", "length", "()I"⟩ : MethodName)) (z := (⟨"java/lang/String", "length", "()I"⟩ : MethodName)) hown (ow hw 73 rfl) (ow hw 74 rfl) (ow hw 76 rfl) (ow hw 75 rfl) (Or.inl rfl) (by decide) (StrChars.Road.lenW (W := 1) hZ (own_hln hw) (kI := 4) (ow hw 5 rfl) Esx130 Vsx130 Csx130 Asx130 cdx130 bdx130 (O2.ext F134.2) P5 lnx130 (by decide) (by decide)) rfl F135 (g := (mkF m 19 #[r' tk, .val pm, r' b101, .val .null, r' b101, i' 2, i' 92] [(.ref tk), (.int 2)])) rfl (by rw [hml]; rfl) (argsL := []) (rest := [(.int (2 : Int32))]) rfl (lenOf own_pd1 rfl) rfl (by show 2 * 0 + _ ≤ _; exact Nat.le_of_eq rfl) (hb hby own_d11_19) (by decide) (by decide)
  obtain ⟨rfl, rfl, e130⟩ := q130
  have N130 := Fr.app N123 (Fr.nil n0)
  refine go _ _ (st130) ?_
  show G (T130.setTop (mkF m 22 #[r' tk, .val pm, r' b101, .val .null, r' b101, i' 2, i' 92] [(.int 9), (.int 2)]))
  refine go _ _ (fun _ k => XS.icmpNo X130.here hx rfl (hb hby own_d11_22) rfl (by decide) k) ?_
  show G (T130.setTop (mkF m 25 #[r' tk, .val pm, r' b101, .val .null, r' b101, i' 2, i' 92] []))
  refine go _ _ (fun _ k => XS.aloadN X130.here hx rfl (hb hby own_d11_25) rfl rfl (XS.iload X130.here hx rfl (hb hby own_d11_26) rfl k)) ?_
  obtain ⟨tx136, kbx136, Esx136, Vsx136, Csx136, Asx136, cdx136, bdx136, lnx136⟩ := own_Str_W F132
  obtain ⟨rv136, T136, L136, X136, q136, st136⟩ := own_vi X130 hx hZ (Q := fun v h L => v = some (.int ((([(92 : Int32), ca, (92 : Int32), cb, (124 : Int32), (92 : Int32), cc, (92 : Int32), cd] : List Int32)).getD 2 0)) ∧ L = [] ∧ h = T123.heap) (kc := 0) (ks := 0) (y := (⟨"java/lang/String", "charAt", "(I)C"⟩ : MethodName)) (z := (⟨"java/lang/String", "charAt", "(I)C"⟩ : MethodName)) hown (ow hw 83 rfl) (ow hw 84 rfl) (ow hw 86 rfl) (ow hw 85 rfl) (Or.inl rfl) (by decide) (StrChars.Road.chN (W := 0) hZ (own_hch hw) (kI := 4) (ow hw 5 rfl) Esx136 Vsx136 Csx136 Asx136 cdx136 bdx136 (O2.ext F134.2) P5 (O4.ext F134.2) R4 lnx136 (i := 2) (Nat.le_of_ble_eq_true rfl) (j := (2 : Int32)) (by decide) (by decide) (by decide)) e130 F135 (g := (mkF m 28 #[r' tk, .val pm, r' b101, .val .null, r' b101, i' 2, i' 92] [(.int 2), (.ref tk)])) rfl (by rw [hml]; rfl) (argsL := [(.int (2 : Int32))]) (rest := []) rfl (lenOf own_pd14 rfl) rfl (by show 2 * 0 + _ ≤ _; exact Nat.le_of_eq rfl) (hb hby own_d11_28) (by decide) (by decide)
  obtain ⟨rfl, rfl, e136⟩ := q136
  have N136 := Fr.app N130 (Fr.nil n0)
  refine go _ _ (st136) ?_
  show G (T136.setTop (mkF m 31 #[r' tk, .val pm, r' b101, .val .null, r' b101, i' 2, i' 92] [(.int 92)]))
  refine go _ _ (fun _ k => XS.istore X136.here hx rfl (hb hby own_d11_31) rfl (l' := #[r' tk, .val pm, r' b101, .val .null, r' b101, i' 2, i' 92]) rfl (XS.iload X136.here hx rfl (hb hby own_d11_33) rfl (XS.bipush X136.here hx rfl (hb hby own_d11_35) k))) ?_
  show G (T136.setTop (mkF m 37 #[r' tk, .val pm, r' b101, .val .null, r' b101, i' 2, i' 92] [(.int 92), (.int 92)]))
  refine go _ _ (fun _ k => XS.icmpNo X136.here hx rfl (hb hby own_d11_37) rfl (by decide) k) ?_
  show G (T136.setTop (mkF m 40 #[r' tk, .val pm, r' b101, .val .null, r' b101, i' 2, i' 92] []))
  refine go _ _ (fun _ k => XS.iload X136.here hx rfl (hb hby own_d11_40) rfl (XS.iconst X136.here hx rfl (hb hby own_d11_42) (XS.iadd X136.here hx rfl (hb hby own_d11_43) rfl (XS.aloadN X136.here hx rfl (hb hby own_d11_44) rfl rfl k)))) ?_
  obtain ⟨tx137, kbx137, Esx137, Vsx137, Csx137, Asx137, cdx137, bdx137, lnx137⟩ := own_Str_W F132
  obtain ⟨rv137, T137, L137, X137, q137, st137⟩ := own_vi X136 hx hZ (Q := fun v h L => v = some (.int (Int32.ofNat (([(92 : Int32), ca, (92 : Int32), cb, (124 : Int32), (92 : Int32), cc, (92 : Int32), cd] : List Int32)).length)) ∧ L = [] ∧ h = T123.heap) (kc := 0) (ks := 0) (y := (⟨"java/lang/String", "length", "()I"⟩ : MethodName)) (z := (⟨"java/lang/String", "length", "()I"⟩ : MethodName)) hown (ow hw 73 rfl) (ow hw 74 rfl) (ow hw 76 rfl) (ow hw 75 rfl) (Or.inl rfl) (by decide) (StrChars.Road.lenW (W := 1) hZ (own_hln hw) (kI := 4) (ow hw 5 rfl) Esx137 Vsx137 Csx137 Asx137 cdx137 bdx137 (O2.ext F134.2) P5 lnx137 (by decide) (by decide)) e136 F135 (g := (mkF m 45 #[r' tk, .val pm, r' b101, .val .null, r' b101, i' 2, i' 92] [(.ref tk), (.int 3)])) rfl (by rw [hml]; rfl) (argsL := []) (rest := [(.int (3 : Int32))]) rfl (lenOf own_pd1 rfl) rfl (by show 2 * 0 + _ ≤ _; exact Nat.le_of_eq rfl) (hb hby own_d11_45) (by decide) (by decide)
  obtain ⟨rfl, rfl, e137⟩ := q137
  have N137 := Fr.app N136 (Fr.nil n0)
  refine go _ _ (st137) ?_
  show G (T137.setTop (mkF m 48 #[r' tk, .val pm, r' b101, .val .null, r' b101, i' 2, i' 92] [(.int 9), (.int 3)]))
  refine go _ _ (fun _ k => XS.icmpNo X137.here hx rfl (hb hby own_d11_48) rfl (by decide) k) ?_
  show G (T137.setTop (mkF m 51 #[r' tk, .val pm, r' b101, .val .null, r' b101, i' 2, i' 92] []))
  refine go _ _ (fun _ k => XS.iinc X137.here hx rfl (hb hby own_d11_51) rfl (l' := #[r' tk, .val pm, r' b101, .val .null, r' b101, i' 3, i' 92]) rfl (XS.aload X137.here hx rfl (hb hby own_d11_54) rfl rfl (XS.aloadN X137.here hx rfl (hb hby own_d11_56) rfl rfl (XS.iload X137.here hx rfl (hb hby own_d11_57) rfl k)))) ?_
  obtain ⟨tx138, kbx138, Esx138, Vsx138, Csx138, Asx138, cdx138, bdx138, lnx138⟩ := own_Str_W F132
  obtain ⟨rv138, T138, L138, X138, q138, st138⟩ := own_vi X137 hx hZ (Q := fun v h L => v = some (.int ((([(92 : Int32), ca, (92 : Int32), cb, (124 : Int32), (92 : Int32), cc, (92 : Int32), cd] : List Int32)).getD 3 0)) ∧ L = [] ∧ h = T123.heap) (kc := 0) (ks := 0) (y := (⟨"java/lang/String", "charAt", "(I)C"⟩ : MethodName)) (z := (⟨"java/lang/String", "charAt", "(I)C"⟩ : MethodName)) hown (ow hw 83 rfl) (ow hw 84 rfl) (ow hw 86 rfl) (ow hw 85 rfl) (Or.inl rfl) (by decide) (StrChars.Road.chN (W := 1) hZ (own_hch hw) (kI := 4) (ow hw 5 rfl) Esx138 Vsx138 Csx138 Asx138 cdx138 bdx138 (O2.ext F134.2) P5 (O4.ext F134.2) R4 lnx138 (i := 3) (Nat.le_of_ble_eq_true rfl) (j := (3 : Int32)) (by decide) (by decide) (by decide)) e137 F135 (g := (mkF m 59 #[r' tk, .val pm, r' b101, .val .null, r' b101, i' 3, i' 92] [(.int 3), (.ref tk), (.ref b101)])) rfl (by rw [hml]; rfl) (argsL := [(.int (3 : Int32))]) (rest := [(.ref b101)]) rfl (lenOf own_pd14 rfl) rfl (by show 2 * 0 + _ ≤ _; exact Nat.le_of_eq rfl) (hb hby own_d11_59) (by decide) (by decide)
  obtain ⟨rfl, rfl, e138⟩ := q138
  have N138 := Fr.app N137 (Fr.nil n0)
  refine go _ _ (st138) ?_
  have Z140 : h0.size ≤ T123.heap.size := Nat.le_trans Z124 Kp123.1
  obtain ⟨rv139, T139, L139, X139, q139, st139⟩ := own_vi X138 hx hZ (y := (⟨"java/lang/StringBuilder", "append", "(C)Ljava/lang/StringBuilder;"⟩ : MethodName)) (z := (⟨"java/lang/StringBuilder", "append", "(C)Ljava/lang/StringBuilder;"⟩ : MethodName)) hown (ow hw 104 rfl) (ow hw 105 rfl) (ow hw 107 rfl) (ow hw 106 rfl) (Or.inl rfl) (by decide) (own_bkN (W := 0) (rm21 l Z a0 hw z0 O2 P5 fm0 O4 R4 [] b101 cb t_106 kb_107 (([] : List Int32) ++ [ca]) T123.heap n0 (Nat.le_trans Z0 Z140) F134 f125 f126 f127 f128 f129 bcb1 (Nat.le_of_ble_eq_true rfl) (Nat.le_trans Z0 (Nat.le_of_eq g101.symm)) (Nat.le_trans (Nat.le_trans Z0 Z105) z108)) hZ (ow hw 108 rfl) (ow hw 57 rfl) (by decide) (by decide)) e138 f125 (g := (mkF m 62 #[r' tk, .val pm, r' b101, .val .null, r' b101, i' 3, i' 92] [(.int cb), (.ref b101)])) rfl (by rw [hml]; rfl) (argsL := [(.int cb)]) (rest := []) rfl (lenOf own_pd15 rfl) rfl (by show 2 * 0 + _ ≤ _; exact Nat.le_of_eq rfl) (hb hby own_d11_62) (by decide) (by decide)
  obtain ⟨Nq139, Kp139, ⟨rfl, f141, f142, f143, f144, f145⟩⟩ := q139
  have N139 := Fr.app N138 Nq139
  refine go _ _ (st139) ?_
  show G (T139.setTop (mkF m 65 #[r' tk, .val pm, r' b101, .val .null, r' b101, i' 3, i' 92] [(.ref b101)]))
  refine go _ _ (fun _ k => XS.pop X139.here hx rfl (hb hby own_d11_65) rfl rfl k) ?_
  show G (T139.setTop (mkF m 66 #[r' tk, .val pm, r' b101, .val .null, r' b101, i' 3, i' 92] []))
  refine go _ _ (fun _ k => XS.goto X139.here hx rfl (pc0 := 66) (pc' := 102) rfl (hb hby own_d11_66) (by decide) (by decide) k) ?_
  show G (T139.setTop (mkF m 102 #[r' tk, .val pm, r' b101, .val .null, r' b101, i' 3, i' 92] []))
  refine go _ _ (fun _ k => XS.iinc X139.here hx rfl (hb hby own_d11_102) rfl (l' := #[r' tk, .val pm, r' b101, .val .null, r' b101, i' 4, i' 92]) rfl k) ?_
  show G (T139.setTop (mkF m 105 #[r' tk, .val pm, r' b101, .val .null, r' b101, i' 4, i' 92] []))
  refine go _ _ (fun _ k => XS.goto X139.here hx rfl (pc0 := 105) (pc' := 16) rfl (hb hby own_d11_105) (by decide) (by decide) k) ?_
  show G (T139.setTop (mkF m 16 #[r' tk, .val pm, r' b101, .val .null, r' b101, i' 4, i' 92] []))
  refine go _ _ (fun _ k => XS.iload X139.here hx rfl (hb hby own_d11_16) rfl (XS.aloadN X139.here hx rfl (hb hby own_d11_18) rfl rfl k)) ?_
  have K147 : Keep h0 T139.heap [] := K131.trans Kp139 (allS (Or.inr (Nat.le_of_eq g101.symm)) (allS (Or.inr (Nat.le_trans Z105 z108)) all0))
  have F148 : own_Str Z T139.heap tk ([(92 : Int32), ca, (92 : Int32), cb, (124 : Int32), (92 : Int32), cc, (92 : Int32), cd] : List Int32) := (own_Str_keep St K147)
  obtain ⟨tx146, kbx146, Esx146, Vsx146, Csx146, Asx146, cdx146, bdx146, lnx146⟩ := own_Str_W F148
  have K149 : Keep T123.heap T139.heap [b101, t_106] := (Keep.refl T123.heap [b101, t_106]).trans Kp139 (allS (Or.inl (List.mem_of_getElem? (i := 0) rfl)) (allS (Or.inl (List.mem_of_getElem? (i := 1) rfl)) all0))
  have F150 : Old Z n0 T139.heap := (F134.keep K149 (allS (Nat.le_trans Z0 (Nat.le_of_eq g101.symm)) (allS (Nat.le_trans (Nat.le_trans Z0 Z105) z108) all0)))
  have F151 : Exa Z T139.heap tk "java/lang/String" := (F135.keep K149)
  obtain ⟨rv146, T146, L146, X146, q146, st146⟩ := own_vi X139 hx hZ (Q := fun v h L => v = some (.int (Int32.ofNat (([(92 : Int32), ca, (92 : Int32), cb, (124 : Int32), (92 : Int32), cc, (92 : Int32), cd] : List Int32)).length)) ∧ L = [] ∧ h = T139.heap) (kc := 0) (ks := 0) (y := (⟨"java/lang/String", "length", "()I"⟩ : MethodName)) (z := (⟨"java/lang/String", "length", "()I"⟩ : MethodName)) hown (ow hw 73 rfl) (ow hw 74 rfl) (ow hw 76 rfl) (ow hw 75 rfl) (Or.inl rfl) (by decide) (StrChars.Road.lenW (W := 1) hZ (own_hln hw) (kI := 4) (ow hw 5 rfl) Esx146 Vsx146 Csx146 Asx146 cdx146 bdx146 (O2.ext F150.2) P5 lnx146 (by decide) (by decide)) rfl F151 (g := (mkF m 19 #[r' tk, .val pm, r' b101, .val .null, r' b101, i' 4, i' 92] [(.ref tk), (.int 4)])) rfl (by rw [hml]; rfl) (argsL := []) (rest := [(.int (4 : Int32))]) rfl (lenOf own_pd1 rfl) rfl (by show 2 * 0 + _ ≤ _; exact Nat.le_of_eq rfl) (hb hby own_d11_19) (by decide) (by decide)
  obtain ⟨rfl, rfl, e146⟩ := q146
  have N146 := Fr.app N139 (Fr.nil n0)
  refine go _ _ (st146) ?_
  show G (T146.setTop (mkF m 22 #[r' tk, .val pm, r' b101, .val .null, r' b101, i' 4, i' 92] [(.int 9), (.int 4)]))
  refine go _ _ (fun _ k => XS.icmpNo X146.here hx rfl (hb hby own_d11_22) rfl (by decide) k) ?_
  show G (T146.setTop (mkF m 25 #[r' tk, .val pm, r' b101, .val .null, r' b101, i' 4, i' 92] []))
  refine go _ _ (fun _ k => XS.aloadN X146.here hx rfl (hb hby own_d11_25) rfl rfl (XS.iload X146.here hx rfl (hb hby own_d11_26) rfl k)) ?_
  obtain ⟨tx152, kbx152, Esx152, Vsx152, Csx152, Asx152, cdx152, bdx152, lnx152⟩ := own_Str_W F148
  obtain ⟨rv152, T152, L152, X152, q152, st152⟩ := own_vi X146 hx hZ (Q := fun v h L => v = some (.int ((([(92 : Int32), ca, (92 : Int32), cb, (124 : Int32), (92 : Int32), cc, (92 : Int32), cd] : List Int32)).getD 4 0)) ∧ L = [] ∧ h = T139.heap) (kc := 0) (ks := 0) (y := (⟨"java/lang/String", "charAt", "(I)C"⟩ : MethodName)) (z := (⟨"java/lang/String", "charAt", "(I)C"⟩ : MethodName)) hown (ow hw 83 rfl) (ow hw 84 rfl) (ow hw 86 rfl) (ow hw 85 rfl) (Or.inl rfl) (by decide) (StrChars.Road.chN (W := 0) hZ (own_hch hw) (kI := 4) (ow hw 5 rfl) Esx152 Vsx152 Csx152 Asx152 cdx152 bdx152 (O2.ext F150.2) P5 (O4.ext F150.2) R4 lnx152 (i := 4) (Nat.le_of_ble_eq_true rfl) (j := (4 : Int32)) (by decide) (by decide) (by decide)) e146 F151 (g := (mkF m 28 #[r' tk, .val pm, r' b101, .val .null, r' b101, i' 4, i' 92] [(.int 4), (.ref tk)])) rfl (by rw [hml]; rfl) (argsL := [(.int (4 : Int32))]) (rest := []) rfl (lenOf own_pd14 rfl) rfl (by show 2 * 0 + _ ≤ _; exact Nat.le_of_eq rfl) (hb hby own_d11_28) (by decide) (by decide)
  obtain ⟨rfl, rfl, e152⟩ := q152
  have N152 := Fr.app N146 (Fr.nil n0)
  refine go _ _ (st152) ?_
  show G (T152.setTop (mkF m 31 #[r' tk, .val pm, r' b101, .val .null, r' b101, i' 4, i' 92] [(.int 124)]))
  refine go _ _ (fun _ k => XS.istore X152.here hx rfl (hb hby own_d11_31) rfl (l' := #[r' tk, .val pm, r' b101, .val .null, r' b101, i' 4, i' 124]) rfl (XS.iload X152.here hx rfl (hb hby own_d11_33) rfl (XS.bipush X152.here hx rfl (hb hby own_d11_35) k))) ?_
  show G (T152.setTop (mkF m 37 #[r' tk, .val pm, r' b101, .val .null, r' b101, i' 4, i' 124] [(.int 92), (.int 124)]))
  refine go _ _ (fun _ k => XS.icmpYes X152.here hx rfl (pc0 := 37) (pc' := 69) rfl (hb hby own_d11_37) rfl (by decide) (by decide) (by decide) k) ?_
  show G (T152.setTop (mkF m 69 #[r' tk, .val pm, r' b101, .val .null, r' b101, i' 4, i' 124] []))
  refine go _ _ (fun _ k => XS.iload X152.here hx rfl (hb hby own_d11_69) rfl (XS.bipush X152.here hx rfl (hb hby own_d11_71) k)) ?_
  show G (T152.setTop (mkF m 73 #[r' tk, .val pm, r' b101, .val .null, r' b101, i' 4, i' 124] [(.int 124), (.int 124)]))
  refine go _ _ (fun _ k => XS.icmpNo X152.here hx rfl (hb hby own_d11_73) rfl (by decide) k) ?_
  show G (T152.setTop (mkF m 76 #[r' tk, .val pm, r' b101, .val .null, r' b101, i' 4, i' 124] []))
  refine go _ _ (fun _ k => XS.aloadN X152.here hx rfl (hb hby own_d11_76) rfl rfl k) ?_
  show G (T152.setTop (mkF m 77 #[r' tk, .val pm, r' b101, .val .null, r' b101, i' 4, i' 124] [.null]))
  refine go _ _ (fun _ k => XS.ifnonnullNo X152.here hx rfl (hb hby own_d11_77) rfl k) ?_
  obtain ⟨T153, h153, X153, e153, E153, A153, D153, -, st153⟩ := newO X152 hx hZ hown (ow hw 55 rfl) (ow hw 56 rfl) (ow hw 57 rfl) e152 (g := (mkF m 80 #[r' tk, .val pm, r' b101, .val .null, r' b101, i' 4, i' 124] [])) rfl (hb hby own_d11_80) (by decide) (by decide)
  obtain ⟨b153, g153⟩ : ∃ z, z = T139.heap.size := ⟨_, rfl⟩
  rw [← g153] at A153 D153 st153
  refine go _ _ (st153) ?_
  show G (T153.setTop (mkF m 83 #[r' tk, .val pm, r' b101, .val .null, r' b101, i' 4, i' 124] [(.ref b153)]))
  refine go _ _ (fun _ k => XS.dup X153.here hx rfl (hb hby own_d11_83) rfl rfl k) ?_
  have K155 : Keep T139.heap h153 [] := (Keep.refl T139.heap []).ext E153
  have F156 : Old Z n0 h153 := (F150.keep K155 all0)
  have Z157 : h0.size ≤ T139.heap.size := Nat.le_trans Z140 Kp139.1
  have Z158 : h0.size ≤ h153.size := Nat.le_trans Z157 E153.1
  obtain ⟨rv154, T154, L154, X154, q154, st154⟩ := own_sp X153 hx hZ (y := (⟨"java/lang/StringBuilder", "<init>", "()V"⟩ : MethodName)) rfl hown (ow hw 58 rfl) (ow hw 59 rfl) (ow hw 60 rfl) (by decide) (own_bkN (W := 1) (rm12 l Z a0 hw z0 O2 P5 fm0 O4 R4 [] b153 h153 n0 (Nat.le_trans Z0 Z158) F156 A153 (D153 (Or.inl (ow hw 70 rfl)) (ty := (.array .byte)) (by decide)) (D153 (Or.inl (ow hw 72 rfl)) (ty := .byte) (by decide)) (D153 (Or.inl (ow hw 115 rfl)) (ty := .int) (by decide)) (Nat.le_trans (Nat.le_trans Z0 Z157) (Nat.le_of_eq g153.symm))) hZ (ow hw 60 rfl) (ow hw 57 rfl) (by decide) (by decide)) e153 (g := (mkF m 84 #[r' tk, .val pm, r' b101, .val .null, r' b101, i' 4, i' 124] [(.ref b153), (.ref b153)])) rfl (by rw [hml]; rfl) (a := b153) (argsL := []) (rest := [(.ref b153)]) rfl (lenOf own_pd13 rfl) rfl (by show 2 * 0 + _ ≤ _; exact Nat.le_of_eq rfl) (hb hby own_d11_84) (by decide) (by decide)
  obtain ⟨Nq154, Kp154, ⟨t_159, kb_160, rfl, z161, f162, f163, f164, f165, f166⟩⟩ := q154
  have N154 := Fr.app N152 Nq154
  refine go _ _ (st154) ?_
  show G (T154.setTop (mkF m 87 #[r' tk, .val pm, r' b101, .val .null, r' b101, i' 4, i' 124] [(.ref b153)]))
  refine go _ _ (fun _ k => XS.astoreN X154.here hx rfl (hb hby own_d11_87) rfl rfl (l' := #[r' tk, .val pm, r' b101, r' b153, r' b101, i' 4, i' 124]) rfl (XS.aloadN X154.here hx rfl (hb hby own_d11_88) rfl rfl (XS.astore X154.here hx rfl (hb hby own_d11_89) rfl rfl (l' := #[r' tk, .val pm, r' b101, r' b153, r' b153, i' 4, i' 124]) rfl k))) ?_
  show G (T154.setTop (mkF m 91 #[r' tk, .val pm, r' b101, r' b153, r' b153, i' 4, i' 124] []))
  refine go _ _ (fun _ k => XS.goto X154.here hx rfl (pc0 := 91) (pc' := 102) rfl (hb hby own_d11_91) (by decide) (by decide) k) ?_
  show G (T154.setTop (mkF m 102 #[r' tk, .val pm, r' b101, r' b153, r' b153, i' 4, i' 124] []))
  refine go _ _ (fun _ k => XS.iinc X154.here hx rfl (hb hby own_d11_102) rfl (l' := #[r' tk, .val pm, r' b101, r' b153, r' b153, i' 5, i' 124]) rfl k) ?_
  show G (T154.setTop (mkF m 105 #[r' tk, .val pm, r' b101, r' b153, r' b153, i' 5, i' 124] []))
  refine go _ _ (fun _ k => XS.goto X154.here hx rfl (pc0 := 105) (pc' := 16) rfl (hb hby own_d11_105) (by decide) (by decide) k) ?_
  show G (T154.setTop (mkF m 16 #[r' tk, .val pm, r' b101, r' b153, r' b153, i' 5, i' 124] []))
  refine go _ _ (fun _ k => XS.iload X154.here hx rfl (hb hby own_d11_16) rfl (XS.aloadN X154.here hx rfl (hb hby own_d11_18) rfl rfl k)) ?_
  have K168 : Keep T139.heap T154.heap [] := K155.trans Kp154 (allS (Or.inr (Nat.le_of_eq g153.symm)) all0)
  have F169 : own_Str Z T154.heap tk ([(92 : Int32), ca, (92 : Int32), cb, (124 : Int32), (92 : Int32), cc, (92 : Int32), cd] : List Int32) := (own_Str_keep F148 K168)
  obtain ⟨tx167, kbx167, Esx167, Vsx167, Csx167, Asx167, cdx167, bdx167, lnx167⟩ := own_Str_W F169
  have K170 : Keep h153 T154.heap [b153] := (Keep.refl h153 [b153]).trans Kp154 (allS (Or.inl (List.mem_of_getElem? (i := 0) rfl)) all0)
  have F171 : Old Z n0 T154.heap := (F156.keep K170 (allS (Nat.le_trans (Nat.le_trans Z0 Z157) (Nat.le_of_eq g153.symm)) all0))
  have F172 : Exa Z T154.heap tk "java/lang/String" := (F151.keep K168)
  obtain ⟨rv167, T167, L167, X167, q167, st167⟩ := own_vi X154 hx hZ (Q := fun v h L => v = some (.int (Int32.ofNat (([(92 : Int32), ca, (92 : Int32), cb, (124 : Int32), (92 : Int32), cc, (92 : Int32), cd] : List Int32)).length)) ∧ L = [] ∧ h = T154.heap) (kc := 0) (ks := 0) (y := (⟨"java/lang/String", "length", "()I"⟩ : MethodName)) (z := (⟨"java/lang/String", "length", "()I"⟩ : MethodName)) hown (ow hw 73 rfl) (ow hw 74 rfl) (ow hw 76 rfl) (ow hw 75 rfl) (Or.inl rfl) (by decide) (StrChars.Road.lenW (W := 1) hZ (own_hln hw) (kI := 4) (ow hw 5 rfl) Esx167 Vsx167 Csx167 Asx167 cdx167 bdx167 (O2.ext F171.2) P5 lnx167 (by decide) (by decide)) rfl F172 (g := (mkF m 19 #[r' tk, .val pm, r' b101, r' b153, r' b153, i' 5, i' 124] [(.ref tk), (.int 5)])) rfl (by rw [hml]; rfl) (argsL := []) (rest := [(.int (5 : Int32))]) rfl (lenOf own_pd1 rfl) rfl (by show 2 * 0 + _ ≤ _; exact Nat.le_of_eq rfl) (hb hby own_d11_19) (by decide) (by decide)
  obtain ⟨rfl, rfl, e167⟩ := q167
  have N167 := Fr.app N154 (Fr.nil n0)
  refine go _ _ (st167) ?_
  show G (T167.setTop (mkF m 22 #[r' tk, .val pm, r' b101, r' b153, r' b153, i' 5, i' 124] [(.int 9), (.int 5)]))
  refine go _ _ (fun _ k => XS.icmpNo X167.here hx rfl (hb hby own_d11_22) rfl (by decide) k) ?_
  show G (T167.setTop (mkF m 25 #[r' tk, .val pm, r' b101, r' b153, r' b153, i' 5, i' 124] []))
  refine go _ _ (fun _ k => XS.aloadN X167.here hx rfl (hb hby own_d11_25) rfl rfl (XS.iload X167.here hx rfl (hb hby own_d11_26) rfl k)) ?_
  obtain ⟨tx173, kbx173, Esx173, Vsx173, Csx173, Asx173, cdx173, bdx173, lnx173⟩ := own_Str_W F169
  obtain ⟨rv173, T173, L173, X173, q173, st173⟩ := own_vi X167 hx hZ (Q := fun v h L => v = some (.int ((([(92 : Int32), ca, (92 : Int32), cb, (124 : Int32), (92 : Int32), cc, (92 : Int32), cd] : List Int32)).getD 5 0)) ∧ L = [] ∧ h = T154.heap) (kc := 0) (ks := 0) (y := (⟨"java/lang/String", "charAt", "(I)C"⟩ : MethodName)) (z := (⟨"java/lang/String", "charAt", "(I)C"⟩ : MethodName)) hown (ow hw 83 rfl) (ow hw 84 rfl) (ow hw 86 rfl) (ow hw 85 rfl) (Or.inl rfl) (by decide) (StrChars.Road.chN (W := 0) hZ (own_hch hw) (kI := 4) (ow hw 5 rfl) Esx173 Vsx173 Csx173 Asx173 cdx173 bdx173 (O2.ext F171.2) P5 (O4.ext F171.2) R4 lnx173 (i := 5) (Nat.le_of_ble_eq_true rfl) (j := (5 : Int32)) (by decide) (by decide) (by decide)) e167 F172 (g := (mkF m 28 #[r' tk, .val pm, r' b101, r' b153, r' b153, i' 5, i' 124] [(.int 5), (.ref tk)])) rfl (by rw [hml]; rfl) (argsL := [(.int (5 : Int32))]) (rest := []) rfl (lenOf own_pd14 rfl) rfl (by show 2 * 0 + _ ≤ _; exact Nat.le_of_eq rfl) (hb hby own_d11_28) (by decide) (by decide)
  obtain ⟨rfl, rfl, e173⟩ := q173
  have N173 := Fr.app N167 (Fr.nil n0)
  refine go _ _ (st173) ?_
  show G (T173.setTop (mkF m 31 #[r' tk, .val pm, r' b101, r' b153, r' b153, i' 5, i' 124] [(.int 92)]))
  refine go _ _ (fun _ k => XS.istore X173.here hx rfl (hb hby own_d11_31) rfl (l' := #[r' tk, .val pm, r' b101, r' b153, r' b153, i' 5, i' 92]) rfl (XS.iload X173.here hx rfl (hb hby own_d11_33) rfl (XS.bipush X173.here hx rfl (hb hby own_d11_35) k))) ?_
  show G (T173.setTop (mkF m 37 #[r' tk, .val pm, r' b101, r' b153, r' b153, i' 5, i' 92] [(.int 92), (.int 92)]))
  refine go _ _ (fun _ k => XS.icmpNo X173.here hx rfl (hb hby own_d11_37) rfl (by decide) k) ?_
  show G (T173.setTop (mkF m 40 #[r' tk, .val pm, r' b101, r' b153, r' b153, i' 5, i' 92] []))
  refine go _ _ (fun _ k => XS.iload X173.here hx rfl (hb hby own_d11_40) rfl (XS.iconst X173.here hx rfl (hb hby own_d11_42) (XS.iadd X173.here hx rfl (hb hby own_d11_43) rfl (XS.aloadN X173.here hx rfl (hb hby own_d11_44) rfl rfl k)))) ?_
  obtain ⟨tx174, kbx174, Esx174, Vsx174, Csx174, Asx174, cdx174, bdx174, lnx174⟩ := own_Str_W F169
  obtain ⟨rv174, T174, L174, X174, q174, st174⟩ := own_vi X173 hx hZ (Q := fun v h L => v = some (.int (Int32.ofNat (([(92 : Int32), ca, (92 : Int32), cb, (124 : Int32), (92 : Int32), cc, (92 : Int32), cd] : List Int32)).length)) ∧ L = [] ∧ h = T154.heap) (kc := 0) (ks := 0) (y := (⟨"java/lang/String", "length", "()I"⟩ : MethodName)) (z := (⟨"java/lang/String", "length", "()I"⟩ : MethodName)) hown (ow hw 73 rfl) (ow hw 74 rfl) (ow hw 76 rfl) (ow hw 75 rfl) (Or.inl rfl) (by decide) (StrChars.Road.lenW (W := 1) hZ (own_hln hw) (kI := 4) (ow hw 5 rfl) Esx174 Vsx174 Csx174 Asx174 cdx174 bdx174 (O2.ext F171.2) P5 lnx174 (by decide) (by decide)) e173 F172 (g := (mkF m 45 #[r' tk, .val pm, r' b101, r' b153, r' b153, i' 5, i' 92] [(.ref tk), (.int 6)])) rfl (by rw [hml]; rfl) (argsL := []) (rest := [(.int (6 : Int32))]) rfl (lenOf own_pd1 rfl) rfl (by show 2 * 0 + _ ≤ _; exact Nat.le_of_eq rfl) (hb hby own_d11_45) (by decide) (by decide)
  obtain ⟨rfl, rfl, e174⟩ := q174
  have N174 := Fr.app N173 (Fr.nil n0)
  refine go _ _ (st174) ?_
  show G (T174.setTop (mkF m 48 #[r' tk, .val pm, r' b101, r' b153, r' b153, i' 5, i' 92] [(.int 9), (.int 6)]))
  refine go _ _ (fun _ k => XS.icmpNo X174.here hx rfl (hb hby own_d11_48) rfl (by decide) k) ?_
  show G (T174.setTop (mkF m 51 #[r' tk, .val pm, r' b101, r' b153, r' b153, i' 5, i' 92] []))
  refine go _ _ (fun _ k => XS.iinc X174.here hx rfl (hb hby own_d11_51) rfl (l' := #[r' tk, .val pm, r' b101, r' b153, r' b153, i' 6, i' 92]) rfl (XS.aload X174.here hx rfl (hb hby own_d11_54) rfl rfl (XS.aloadN X174.here hx rfl (hb hby own_d11_56) rfl rfl (XS.iload X174.here hx rfl (hb hby own_d11_57) rfl k)))) ?_
  obtain ⟨tx175, kbx175, Esx175, Vsx175, Csx175, Asx175, cdx175, bdx175, lnx175⟩ := own_Str_W F169
  obtain ⟨rv175, T175, L175, X175, q175, st175⟩ := own_vi X174 hx hZ (Q := fun v h L => v = some (.int ((([(92 : Int32), ca, (92 : Int32), cb, (124 : Int32), (92 : Int32), cc, (92 : Int32), cd] : List Int32)).getD 6 0)) ∧ L = [] ∧ h = T154.heap) (kc := 0) (ks := 0) (y := (⟨"java/lang/String", "charAt", "(I)C"⟩ : MethodName)) (z := (⟨"java/lang/String", "charAt", "(I)C"⟩ : MethodName)) hown (ow hw 83 rfl) (ow hw 84 rfl) (ow hw 86 rfl) (ow hw 85 rfl) (Or.inl rfl) (by decide) (StrChars.Road.chN (W := 1) hZ (own_hch hw) (kI := 4) (ow hw 5 rfl) Esx175 Vsx175 Csx175 Asx175 cdx175 bdx175 (O2.ext F171.2) P5 (O4.ext F171.2) R4 lnx175 (i := 6) (Nat.le_of_ble_eq_true rfl) (j := (6 : Int32)) (by decide) (by decide) (by decide)) e174 F172 (g := (mkF m 59 #[r' tk, .val pm, r' b101, r' b153, r' b153, i' 6, i' 92] [(.int 6), (.ref tk), (.ref b153)])) rfl (by rw [hml]; rfl) (argsL := [(.int (6 : Int32))]) (rest := [(.ref b153)]) rfl (lenOf own_pd14 rfl) rfl (by show 2 * 0 + _ ≤ _; exact Nat.le_of_eq rfl) (hb hby own_d11_59) (by decide) (by decide)
  obtain ⟨rfl, rfl, e175⟩ := q175
  have N175 := Fr.app N174 (Fr.nil n0)
  refine go _ _ (st175) ?_
  have Z177 : h0.size ≤ T154.heap.size := Nat.le_trans Z158 Kp154.1
  obtain ⟨rv176, T176, L176, X176, q176, st176⟩ := own_vi X175 hx hZ (y := (⟨"java/lang/StringBuilder", "append", "(C)Ljava/lang/StringBuilder;"⟩ : MethodName)) (z := (⟨"java/lang/StringBuilder", "append", "(C)Ljava/lang/StringBuilder;"⟩ : MethodName)) hown (ow hw 104 rfl) (ow hw 105 rfl) (ow hw 107 rfl) (ow hw 106 rfl) (Or.inl rfl) (by decide) (own_bkN (W := 0) (rm21 l Z a0 hw z0 O2 P5 fm0 O4 R4 [] b153 cc t_159 kb_160 ([] : List Int32) T154.heap n0 (Nat.le_trans Z0 Z177) F171 f162 f163 f164 f165 f166 bcc1 (Nat.le_of_ble_eq_true rfl) (Nat.le_trans (Nat.le_trans Z0 Z157) (Nat.le_of_eq g153.symm)) (Nat.le_trans (Nat.le_trans Z0 Z158) z161)) hZ (ow hw 108 rfl) (ow hw 57 rfl) (by decide) (by decide)) e175 f162 (g := (mkF m 62 #[r' tk, .val pm, r' b101, r' b153, r' b153, i' 6, i' 92] [(.int cc), (.ref b153)])) rfl (by rw [hml]; rfl) (argsL := [(.int cc)]) (rest := []) rfl (lenOf own_pd15 rfl) rfl (by show 2 * 0 + _ ≤ _; exact Nat.le_of_eq rfl) (hb hby own_d11_62) (by decide) (by decide)
  obtain ⟨Nq176, Kp176, ⟨rfl, f178, f179, f180, f181, f182⟩⟩ := q176
  have N176 := Fr.app N175 Nq176
  refine go _ _ (st176) ?_
  show G (T176.setTop (mkF m 65 #[r' tk, .val pm, r' b101, r' b153, r' b153, i' 6, i' 92] [(.ref b153)]))
  refine go _ _ (fun _ k => XS.pop X176.here hx rfl (hb hby own_d11_65) rfl rfl k) ?_
  show G (T176.setTop (mkF m 66 #[r' tk, .val pm, r' b101, r' b153, r' b153, i' 6, i' 92] []))
  refine go _ _ (fun _ k => XS.goto X176.here hx rfl (pc0 := 66) (pc' := 102) rfl (hb hby own_d11_66) (by decide) (by decide) k) ?_
  show G (T176.setTop (mkF m 102 #[r' tk, .val pm, r' b101, r' b153, r' b153, i' 6, i' 92] []))
  refine go _ _ (fun _ k => XS.iinc X176.here hx rfl (hb hby own_d11_102) rfl (l' := #[r' tk, .val pm, r' b101, r' b153, r' b153, i' 7, i' 92]) rfl k) ?_
  show G (T176.setTop (mkF m 105 #[r' tk, .val pm, r' b101, r' b153, r' b153, i' 7, i' 92] []))
  refine go _ _ (fun _ k => XS.goto X176.here hx rfl (pc0 := 105) (pc' := 16) rfl (hb hby own_d11_105) (by decide) (by decide) k) ?_
  show G (T176.setTop (mkF m 16 #[r' tk, .val pm, r' b101, r' b153, r' b153, i' 7, i' 92] []))
  refine go _ _ (fun _ k => XS.iload X176.here hx rfl (hb hby own_d11_16) rfl (XS.aloadN X176.here hx rfl (hb hby own_d11_18) rfl rfl k)) ?_
  have Z184 : T139.heap.size ≤ h153.size := E153.1
  have K185 : Keep T139.heap T176.heap [] := K168.trans Kp176 (allS (Or.inr (Nat.le_of_eq g153.symm)) (allS (Or.inr (Nat.le_trans Z184 z161)) all0))
  have F186 : own_Str Z T176.heap tk ([(92 : Int32), ca, (92 : Int32), cb, (124 : Int32), (92 : Int32), cc, (92 : Int32), cd] : List Int32) := (own_Str_keep F148 K185)
  obtain ⟨tx183, kbx183, Esx183, Vsx183, Csx183, Asx183, cdx183, bdx183, lnx183⟩ := own_Str_W F186
  have K187 : Keep T154.heap T176.heap [b153, t_159] := (Keep.refl T154.heap [b153, t_159]).trans Kp176 (allS (Or.inl (List.mem_of_getElem? (i := 0) rfl)) (allS (Or.inl (List.mem_of_getElem? (i := 1) rfl)) all0))
  have F188 : Old Z n0 T176.heap := (F171.keep K187 (allS (Nat.le_trans (Nat.le_trans Z0 Z157) (Nat.le_of_eq g153.symm)) (allS (Nat.le_trans (Nat.le_trans Z0 Z158) z161) all0)))
  have F189 : Exa Z T176.heap tk "java/lang/String" := (F172.keep K187)
  obtain ⟨rv183, T183, L183, X183, q183, st183⟩ := own_vi X176 hx hZ (Q := fun v h L => v = some (.int (Int32.ofNat (([(92 : Int32), ca, (92 : Int32), cb, (124 : Int32), (92 : Int32), cc, (92 : Int32), cd] : List Int32)).length)) ∧ L = [] ∧ h = T176.heap) (kc := 0) (ks := 0) (y := (⟨"java/lang/String", "length", "()I"⟩ : MethodName)) (z := (⟨"java/lang/String", "length", "()I"⟩ : MethodName)) hown (ow hw 73 rfl) (ow hw 74 rfl) (ow hw 76 rfl) (ow hw 75 rfl) (Or.inl rfl) (by decide) (StrChars.Road.lenW (W := 1) hZ (own_hln hw) (kI := 4) (ow hw 5 rfl) Esx183 Vsx183 Csx183 Asx183 cdx183 bdx183 (O2.ext F188.2) P5 lnx183 (by decide) (by decide)) rfl F189 (g := (mkF m 19 #[r' tk, .val pm, r' b101, r' b153, r' b153, i' 7, i' 92] [(.ref tk), (.int 7)])) rfl (by rw [hml]; rfl) (argsL := []) (rest := [(.int (7 : Int32))]) rfl (lenOf own_pd1 rfl) rfl (by show 2 * 0 + _ ≤ _; exact Nat.le_of_eq rfl) (hb hby own_d11_19) (by decide) (by decide)
  obtain ⟨rfl, rfl, e183⟩ := q183
  have N183 := Fr.app N176 (Fr.nil n0)
  refine go _ _ (st183) ?_
  show G (T183.setTop (mkF m 22 #[r' tk, .val pm, r' b101, r' b153, r' b153, i' 7, i' 92] [(.int 9), (.int 7)]))
  refine go _ _ (fun _ k => XS.icmpNo X183.here hx rfl (hb hby own_d11_22) rfl (by decide) k) ?_
  show G (T183.setTop (mkF m 25 #[r' tk, .val pm, r' b101, r' b153, r' b153, i' 7, i' 92] []))
  refine go _ _ (fun _ k => XS.aloadN X183.here hx rfl (hb hby own_d11_25) rfl rfl (XS.iload X183.here hx rfl (hb hby own_d11_26) rfl k)) ?_
  obtain ⟨tx190, kbx190, Esx190, Vsx190, Csx190, Asx190, cdx190, bdx190, lnx190⟩ := own_Str_W F186
  obtain ⟨rv190, T190, L190, X190, q190, st190⟩ := own_vi X183 hx hZ (Q := fun v h L => v = some (.int ((([(92 : Int32), ca, (92 : Int32), cb, (124 : Int32), (92 : Int32), cc, (92 : Int32), cd] : List Int32)).getD 7 0)) ∧ L = [] ∧ h = T176.heap) (kc := 0) (ks := 0) (y := (⟨"java/lang/String", "charAt", "(I)C"⟩ : MethodName)) (z := (⟨"java/lang/String", "charAt", "(I)C"⟩ : MethodName)) hown (ow hw 83 rfl) (ow hw 84 rfl) (ow hw 86 rfl) (ow hw 85 rfl) (Or.inl rfl) (by decide) (StrChars.Road.chN (W := 0) hZ (own_hch hw) (kI := 4) (ow hw 5 rfl) Esx190 Vsx190 Csx190 Asx190 cdx190 bdx190 (O2.ext F188.2) P5 (O4.ext F188.2) R4 lnx190 (i := 7) (Nat.le_of_ble_eq_true rfl) (j := (7 : Int32)) (by decide) (by decide) (by decide)) e183 F189 (g := (mkF m 28 #[r' tk, .val pm, r' b101, r' b153, r' b153, i' 7, i' 92] [(.int 7), (.ref tk)])) rfl (by rw [hml]; rfl) (argsL := [(.int (7 : Int32))]) (rest := []) rfl (lenOf own_pd14 rfl) rfl (by show 2 * 0 + _ ≤ _; exact Nat.le_of_eq rfl) (hb hby own_d11_28) (by decide) (by decide)
  obtain ⟨rfl, rfl, e190⟩ := q190
  have N190 := Fr.app N183 (Fr.nil n0)
  refine go _ _ (st190) ?_
  show G (T190.setTop (mkF m 31 #[r' tk, .val pm, r' b101, r' b153, r' b153, i' 7, i' 92] [(.int 92)]))
  refine go _ _ (fun _ k => XS.istore X190.here hx rfl (hb hby own_d11_31) rfl (l' := #[r' tk, .val pm, r' b101, r' b153, r' b153, i' 7, i' 92]) rfl (XS.iload X190.here hx rfl (hb hby own_d11_33) rfl (XS.bipush X190.here hx rfl (hb hby own_d11_35) k))) ?_
  show G (T190.setTop (mkF m 37 #[r' tk, .val pm, r' b101, r' b153, r' b153, i' 7, i' 92] [(.int 92), (.int 92)]))
  refine go _ _ (fun _ k => XS.icmpNo X190.here hx rfl (hb hby own_d11_37) rfl (by decide) k) ?_
  show G (T190.setTop (mkF m 40 #[r' tk, .val pm, r' b101, r' b153, r' b153, i' 7, i' 92] []))
  refine go _ _ (fun _ k => XS.iload X190.here hx rfl (hb hby own_d11_40) rfl (XS.iconst X190.here hx rfl (hb hby own_d11_42) (XS.iadd X190.here hx rfl (hb hby own_d11_43) rfl (XS.aloadN X190.here hx rfl (hb hby own_d11_44) rfl rfl k)))) ?_
  obtain ⟨tx191, kbx191, Esx191, Vsx191, Csx191, Asx191, cdx191, bdx191, lnx191⟩ := own_Str_W F186
  obtain ⟨rv191, T191, L191, X191, q191, st191⟩ := own_vi X190 hx hZ (Q := fun v h L => v = some (.int (Int32.ofNat (([(92 : Int32), ca, (92 : Int32), cb, (124 : Int32), (92 : Int32), cc, (92 : Int32), cd] : List Int32)).length)) ∧ L = [] ∧ h = T176.heap) (kc := 0) (ks := 0) (y := (⟨"java/lang/String", "length", "()I"⟩ : MethodName)) (z := (⟨"java/lang/String", "length", "()I"⟩ : MethodName)) hown (ow hw 73 rfl) (ow hw 74 rfl) (ow hw 76 rfl) (ow hw 75 rfl) (Or.inl rfl) (by decide) (StrChars.Road.lenW (W := 1) hZ (own_hln hw) (kI := 4) (ow hw 5 rfl) Esx191 Vsx191 Csx191 Asx191 cdx191 bdx191 (O2.ext F188.2) P5 lnx191 (by decide) (by decide)) e190 F189 (g := (mkF m 45 #[r' tk, .val pm, r' b101, r' b153, r' b153, i' 7, i' 92] [(.ref tk), (.int 8)])) rfl (by rw [hml]; rfl) (argsL := []) (rest := [(.int (8 : Int32))]) rfl (lenOf own_pd1 rfl) rfl (by show 2 * 0 + _ ≤ _; exact Nat.le_of_eq rfl) (hb hby own_d11_45) (by decide) (by decide)
  obtain ⟨rfl, rfl, e191⟩ := q191
  have N191 := Fr.app N190 (Fr.nil n0)
  refine go _ _ (st191) ?_
  show G (T191.setTop (mkF m 48 #[r' tk, .val pm, r' b101, r' b153, r' b153, i' 7, i' 92] [(.int 9), (.int 8)]))
  refine go _ _ (fun _ k => XS.icmpNo X191.here hx rfl (hb hby own_d11_48) rfl (by decide) k) ?_
  show G (T191.setTop (mkF m 51 #[r' tk, .val pm, r' b101, r' b153, r' b153, i' 7, i' 92] []))
  refine go _ _ (fun _ k => XS.iinc X191.here hx rfl (hb hby own_d11_51) rfl (l' := #[r' tk, .val pm, r' b101, r' b153, r' b153, i' 8, i' 92]) rfl (XS.aload X191.here hx rfl (hb hby own_d11_54) rfl rfl (XS.aloadN X191.here hx rfl (hb hby own_d11_56) rfl rfl (XS.iload X191.here hx rfl (hb hby own_d11_57) rfl k)))) ?_
  obtain ⟨tx192, kbx192, Esx192, Vsx192, Csx192, Asx192, cdx192, bdx192, lnx192⟩ := own_Str_W F186
  obtain ⟨rv192, T192, L192, X192, q192, st192⟩ := own_vi X191 hx hZ (Q := fun v h L => v = some (.int ((([(92 : Int32), ca, (92 : Int32), cb, (124 : Int32), (92 : Int32), cc, (92 : Int32), cd] : List Int32)).getD 8 0)) ∧ L = [] ∧ h = T176.heap) (kc := 0) (ks := 0) (y := (⟨"java/lang/String", "charAt", "(I)C"⟩ : MethodName)) (z := (⟨"java/lang/String", "charAt", "(I)C"⟩ : MethodName)) hown (ow hw 83 rfl) (ow hw 84 rfl) (ow hw 86 rfl) (ow hw 85 rfl) (Or.inl rfl) (by decide) (StrChars.Road.chN (W := 1) hZ (own_hch hw) (kI := 4) (ow hw 5 rfl) Esx192 Vsx192 Csx192 Asx192 cdx192 bdx192 (O2.ext F188.2) P5 (O4.ext F188.2) R4 lnx192 (i := 8) (Nat.le_of_ble_eq_true rfl) (j := (8 : Int32)) (by decide) (by decide) (by decide)) e191 F189 (g := (mkF m 59 #[r' tk, .val pm, r' b101, r' b153, r' b153, i' 8, i' 92] [(.int 8), (.ref tk), (.ref b153)])) rfl (by rw [hml]; rfl) (argsL := [(.int (8 : Int32))]) (rest := [(.ref b153)]) rfl (lenOf own_pd14 rfl) rfl (by show 2 * 0 + _ ≤ _; exact Nat.le_of_eq rfl) (hb hby own_d11_59) (by decide) (by decide)
  obtain ⟨rfl, rfl, e192⟩ := q192
  have N192 := Fr.app N191 (Fr.nil n0)
  refine go _ _ (st192) ?_
  have Z194 : h0.size ≤ T176.heap.size := Nat.le_trans Z177 Kp176.1
  obtain ⟨rv193, T193, L193, X193, q193, st193⟩ := own_vi X192 hx hZ (y := (⟨"java/lang/StringBuilder", "append", "(C)Ljava/lang/StringBuilder;"⟩ : MethodName)) (z := (⟨"java/lang/StringBuilder", "append", "(C)Ljava/lang/StringBuilder;"⟩ : MethodName)) hown (ow hw 104 rfl) (ow hw 105 rfl) (ow hw 107 rfl) (ow hw 106 rfl) (Or.inl rfl) (by decide) (own_bkN (W := 0) (rm21 l Z a0 hw z0 O2 P5 fm0 O4 R4 [] b153 cd t_159 kb_160 (([] : List Int32) ++ [cc]) T176.heap n0 (Nat.le_trans Z0 Z194) F188 f178 f179 f180 f181 f182 bcd1 (Nat.le_of_ble_eq_true rfl) (Nat.le_trans (Nat.le_trans Z0 Z157) (Nat.le_of_eq g153.symm)) (Nat.le_trans (Nat.le_trans Z0 Z158) z161)) hZ (ow hw 108 rfl) (ow hw 57 rfl) (by decide) (by decide)) e192 f178 (g := (mkF m 62 #[r' tk, .val pm, r' b101, r' b153, r' b153, i' 8, i' 92] [(.int cd), (.ref b153)])) rfl (by rw [hml]; rfl) (argsL := [(.int cd)]) (rest := []) rfl (lenOf own_pd15 rfl) rfl (by show 2 * 0 + _ ≤ _; exact Nat.le_of_eq rfl) (hb hby own_d11_62) (by decide) (by decide)
  obtain ⟨Nq193, Kp193, ⟨rfl, f195, f196, f197, f198, f199⟩⟩ := q193
  have N193 := Fr.app N192 Nq193
  refine go _ _ (st193) ?_
  show G (T193.setTop (mkF m 65 #[r' tk, .val pm, r' b101, r' b153, r' b153, i' 8, i' 92] [(.ref b153)]))
  refine go _ _ (fun _ k => XS.pop X193.here hx rfl (hb hby own_d11_65) rfl rfl k) ?_
  show G (T193.setTop (mkF m 66 #[r' tk, .val pm, r' b101, r' b153, r' b153, i' 8, i' 92] []))
  refine go _ _ (fun _ k => XS.goto X193.here hx rfl (pc0 := 66) (pc' := 102) rfl (hb hby own_d11_66) (by decide) (by decide) k) ?_
  show G (T193.setTop (mkF m 102 #[r' tk, .val pm, r' b101, r' b153, r' b153, i' 8, i' 92] []))
  refine go _ _ (fun _ k => XS.iinc X193.here hx rfl (hb hby own_d11_102) rfl (l' := #[r' tk, .val pm, r' b101, r' b153, r' b153, i' 9, i' 92]) rfl k) ?_
  show G (T193.setTop (mkF m 105 #[r' tk, .val pm, r' b101, r' b153, r' b153, i' 9, i' 92] []))
  refine go _ _ (fun _ k => XS.goto X193.here hx rfl (pc0 := 105) (pc' := 16) rfl (hb hby own_d11_105) (by decide) (by decide) k) ?_
  show G (T193.setTop (mkF m 16 #[r' tk, .val pm, r' b101, r' b153, r' b153, i' 9, i' 92] []))
  refine go _ _ (fun _ k => XS.iload X193.here hx rfl (hb hby own_d11_16) rfl (XS.aloadN X193.here hx rfl (hb hby own_d11_18) rfl rfl k)) ?_
  have K201 : Keep T139.heap T193.heap [] := K185.trans Kp193 (allS (Or.inr (Nat.le_of_eq g153.symm)) (allS (Or.inr (Nat.le_trans Z184 z161)) all0))
  have F202 : own_Str Z T193.heap tk ([(92 : Int32), ca, (92 : Int32), cb, (124 : Int32), (92 : Int32), cc, (92 : Int32), cd] : List Int32) := (own_Str_keep F148 K201)
  obtain ⟨tx200, kbx200, Esx200, Vsx200, Csx200, Asx200, cdx200, bdx200, lnx200⟩ := own_Str_W F202
  have K203 : Keep T176.heap T193.heap [b153, t_159] := (Keep.refl T176.heap [b153, t_159]).trans Kp193 (allS (Or.inl (List.mem_of_getElem? (i := 0) rfl)) (allS (Or.inl (List.mem_of_getElem? (i := 1) rfl)) all0))
  have F204 : Old Z n0 T193.heap := (F188.keep K203 (allS (Nat.le_trans (Nat.le_trans Z0 Z157) (Nat.le_of_eq g153.symm)) (allS (Nat.le_trans (Nat.le_trans Z0 Z158) z161) all0)))
  have F205 : Exa Z T193.heap tk "java/lang/String" := (F189.keep K203)
  obtain ⟨rv200, T200, L200, X200, q200, st200⟩ := own_vi X193 hx hZ (Q := fun v h L => v = some (.int (Int32.ofNat (([(92 : Int32), ca, (92 : Int32), cb, (124 : Int32), (92 : Int32), cc, (92 : Int32), cd] : List Int32)).length)) ∧ L = [] ∧ h = T193.heap) (kc := 0) (ks := 0) (y := (⟨"java/lang/String", "length", "()I"⟩ : MethodName)) (z := (⟨"java/lang/String", "length", "()I"⟩ : MethodName)) hown (ow hw 73 rfl) (ow hw 74 rfl) (ow hw 76 rfl) (ow hw 75 rfl) (Or.inl rfl) (by decide) (StrChars.Road.lenW (W := 1) hZ (own_hln hw) (kI := 4) (ow hw 5 rfl) Esx200 Vsx200 Csx200 Asx200 cdx200 bdx200 (O2.ext F204.2) P5 lnx200 (by decide) (by decide)) rfl F205 (g := (mkF m 19 #[r' tk, .val pm, r' b101, r' b153, r' b153, i' 9, i' 92] [(.ref tk), (.int 9)])) rfl (by rw [hml]; rfl) (argsL := []) (rest := [(.int (9 : Int32))]) rfl (lenOf own_pd1 rfl) rfl (by show 2 * 0 + _ ≤ _; exact Nat.le_of_eq rfl) (hb hby own_d11_19) (by decide) (by decide)
  obtain ⟨rfl, rfl, e200⟩ := q200
  have N200 := Fr.app N193 (Fr.nil n0)
  refine go _ _ (st200) ?_
  show G (T200.setTop (mkF m 22 #[r' tk, .val pm, r' b101, r' b153, r' b153, i' 9, i' 92] [(.int 9), (.int 9)]))
  refine go _ _ (fun _ k => XS.icmpYes X200.here hx rfl (pc0 := 22) (pc' := 108) rfl (hb hby own_d11_22) rfl (by decide) (by decide) (by decide) k) ?_
  show G (T200.setTop (mkF m 108 #[r' tk, .val pm, r' b101, r' b153, r' b153, i' 9, i' 92] []))
  refine go _ _ (fun _ k => XS.aloadN X200.here hx rfl (hb hby own_d11_108) rfl rfl k) ?_
  show G (T200.setTop (mkF m 109 #[r' tk, .val pm, r' b101, r' b153, r' b153, i' 9, i' 92] [(.ref b153)]))
  refine go _ _ (fun _ k => XS.ifnullNo X200.here hx rfl (hb hby own_d11_109) rfl k) ?_
  show G (T200.setTop (mkF m 112 #[r' tk, .val pm, r' b101, r' b153, r' b153, i' 9, i' 92] []))
  refine go _ _ (fun _ k => XS.aloadN X200.here hx rfl (hb hby own_d11_112) rfl rfl k) ?_
  have F207 : Exa Z T193.heap b101 "java/lang/StringBuilder" := (f141.keep K201)
  have F208 : Fld Z T193.heap b101 "java/lang/AbstractStringBuilder" "count" "I" (.int (own_n ((([] : List Int32) ++ [ca]) ++ [cb]))) := (f144.keep K201 nin0)
  have Z209 : h0.size ≤ T193.heap.size := Nat.le_trans Z194 Kp193.1
  obtain ⟨rv206, T206, L206, X206, q206, st206⟩ := own_vi X200 hx hZ (y := (⟨"java/lang/StringBuilder", "length", "()I"⟩ : MethodName)) (z := (⟨"java/lang/StringBuilder", "length", "()I"⟩ : MethodName)) hown (ow hw 127 rfl) (ow hw 128 rfl) (ow hw 130 rfl) (ow hw 129 rfl) (Or.inl rfl) (by decide) (own_bkN (W := 0) (rm25 l Z a0 hw z0 O2 P5 fm0 O4 R4 [] b101 (own_n ((([] : List Int32) ++ [ca]) ++ [cb])) T193.heap n0 (Nat.le_trans Z0 Z209) F207 F208) hZ (ow hw 131 rfl) (ow hw 57 rfl) (by decide) (by decide)) e200 F207 (g := (mkF m 113 #[r' tk, .val pm, r' b101, r' b153, r' b153, i' 9, i' 92] [(.ref b101)])) rfl (by rw [hml]; rfl) (argsL := []) (rest := []) rfl (lenOf own_pd1 rfl) rfl (by show 2 * 0 + _ ≤ _; exact Nat.le_of_eq rfl) (hb hby own_d11_113) (by decide) (by decide)
  obtain ⟨Nq206, e206, rfl⟩ := q206
  have N206 := Fr.app N200 Nq206
  refine go _ _ (st206) ?_
  show G (T206.setTop (mkF m 116 #[r' tk, .val pm, r' b101, r' b153, r' b153, i' 9, i' 92] [(.int (own_n ((([] : List Int32) ++ [ca]) ++ [cb])))]))
  rw [(show own_n ((([] : List Int32) ++ [ca]) ++ [cb]) = (2 : Int32) from rfl)]
  show G (T206.setTop (mkF m 116 #[r' tk, .val pm, r' b101, r' b153, r' b153, i' 9, i' 92] [(.int 2)]))
  refine go _ _ (fun _ k => XS.ifNo X206.here hx rfl (hb hby own_d11_116) rfl (by decide) k) ?_
  show G (T206.setTop (mkF m 119 #[r' tk, .val pm, r' b101, r' b153, r' b153, i' 9, i' 92] []))
  refine go _ _ (fun _ k => XS.aloadN X206.here hx rfl (hb hby own_d11_119) rfl rfl k) ?_
  obtain ⟨rv210, T210, L210, X210, q210, st210⟩ := own_vi X206 hx hZ (y := (⟨"java/lang/StringBuilder", "length", "()I"⟩ : MethodName)) (z := (⟨"java/lang/StringBuilder", "length", "()I"⟩ : MethodName)) hown (ow hw 127 rfl) (ow hw 128 rfl) (ow hw 130 rfl) (ow hw 129 rfl) (Or.inl rfl) (by decide) (own_bkN (W := 0) (rm25 l Z a0 hw z0 O2 P5 fm0 O4 R4 [] b153 (own_n ((([] : List Int32) ++ [cc]) ++ [cd])) T193.heap n0 (Nat.le_trans Z0 Z209) f195 f198) hZ (ow hw 131 rfl) (ow hw 57 rfl) (by decide) (by decide)) e206 f195 (g := (mkF m 120 #[r' tk, .val pm, r' b101, r' b153, r' b153, i' 9, i' 92] [(.ref b153)])) rfl (by rw [hml]; rfl) (argsL := []) (rest := []) rfl (lenOf own_pd1 rfl) rfl (by show 2 * 0 + _ ≤ _; exact Nat.le_of_eq rfl) (hb hby own_d11_120) (by decide) (by decide)
  obtain ⟨Nq210, e210, rfl⟩ := q210
  have N210 := Fr.app N206 Nq210
  refine go _ _ (st210) ?_
  show G (T210.setTop (mkF m 123 #[r' tk, .val pm, r' b101, r' b153, r' b153, i' 9, i' 92] [(.int (own_n ((([] : List Int32) ++ [cc]) ++ [cd])))]))
  rw [(show own_n ((([] : List Int32) ++ [cc]) ++ [cd]) = (2 : Int32) from rfl)]
  show G (T210.setTop (mkF m 123 #[r' tk, .val pm, r' b101, r' b153, r' b153, i' 9, i' 92] [(.int 2)]))
  refine go _ _ (fun _ k => XS.ifYes X210.here hx rfl (pc0 := 123) (pc' := 146) rfl (hb hby own_d11_123) rfl (by decide) (by decide) (by decide) k) ?_
  obtain ⟨T211, h211, X211, e211, E211, A211, D211, -, st211⟩ := newO X210 hx hZ hown (ow hw 136 rfl) (ow hw 137 rfl) (ow hw 53 rfl) e210 (g := (mkF m 146 #[r' tk, .val pm, r' b101, r' b153, r' b153, i' 9, i' 92] [])) rfl (hb hby own_d11_146) (by decide) (by decide)
  obtain ⟨b211, g211⟩ : ∃ z, z = T193.heap.size := ⟨_, rfl⟩
  rw [← g211] at A211 D211 st211
  refine go _ _ (st211) ?_
  show G (T211.setTop (mkF m 149 #[r' tk, .val pm, r' b101, r' b153, r' b153, i' 9, i' 92] [(.ref b211)]))
  refine go _ _ (fun _ k => XS.dup X211.here hx rfl (hb hby own_d11_149) rfl rfl (XS.aloadN X211.here hx rfl (hb hby own_d11_150) rfl rfl k)) ?_
  have K213 : Keep T193.heap h211 [] := (Keep.refl T193.heap []).ext E211
  have F214 : Old Z n0 h211 := (F204.keep K213 all0)
  have F215 : Exa Z h211 b101 "java/lang/StringBuilder" := (F207.keep K213)
  have K216 : Keep T139.heap h211 [] := K201.ext E211
  have F217 : Fld Z h211 b101 "java/lang/AbstractStringBuilder" "value" "[B" (.ref t_106) := (f142.keep K216 nin0)
  have F218 : Fld Z h211 b101 "java/lang/AbstractStringBuilder" "coder" "B" (.int (0 : Int32)) := (f143.keep K216 nin0)
  have F219 : Fld Z h211 b101 "java/lang/AbstractStringBuilder" "count" "I" (.int (own_n ((([] : List Int32) ++ [ca]) ++ [cb]))) := (F208.keep K213 nin0)
  have F220 : Arv Z h211 t_106 kb_107 .byte (16 : Int32) (own_bs ((([] : List Int32) ++ [ca]) ++ [cb])) (.int (0 : Int32)) := (f145.keep K216 nin0)
  have Z221 : h0.size ≤ h211.size := Nat.le_trans Z209 E211.1
  obtain ⟨rv212, T212, L212, X212, q212, st212⟩ := own_vi X211 hx hZ (y := (⟨"java/lang/StringBuilder", "toString", "()Ljava/lang/String;"⟩ : MethodName)) (z := (⟨"java/lang/StringBuilder", "toString", "()Ljava/lang/String;"⟩ : MethodName)) hown (ow hw 138 rfl) (ow hw 139 rfl) (ow hw 141 rfl) (ow hw 140 rfl) (Or.inl rfl) (by decide) (own_bkN (W := 2) (rm27 l Z a0 hw z0 O2 P5 fm0 O4 R4 [] b101 t_106 kb_107 ((([] : List Int32) ++ [ca]) ++ [cb]) h211 n0 (Nat.le_trans Z0 Z221) F214 F215 F217 F218 F219 F220 (Nat.le_of_ble_eq_true rfl) (own_bdc (own_bdc own_bd0 ⟨bca0, bca1⟩) ⟨bcb0, bcb1⟩)) hZ (ow hw 142 rfl) (ow hw 57 rfl) (by decide) (by decide)) e211 F215 (g := (mkF m 151 #[r' tk, .val pm, r' b101, r' b153, r' b153, i' 9, i' 92] [(.ref b101), (.ref b211), (.ref b211)])) rfl (by rw [hml]; rfl) (argsL := []) (rest := [(.ref b211), (.ref b211)]) rfl (lenOf own_pd16 rfl) rfl (by show 2 * 0 + _ ≤ _; exact Nat.le_of_eq rfl) (hb hby own_d11_151) (by decide) (by decide)
  obtain ⟨Nq212, Kp212, ⟨b_222, rfl, z223, f224, f225⟩⟩ := q212
  have N212 := Fr.app N210 Nq212
  refine go _ _ (st212) ?_
  show G (T212.setTop (mkF m 154 #[r' tk, .val pm, r' b101, r' b153, r' b153, i' 9, i' 92] [(.ref b_222), (.ref b211), (.ref b211)]))
  refine go _ _ (fun _ k => XS.aloadN X212.here hx rfl (hb hby own_d11_154) rfl rfl k) ?_
  have K227 : Keep h211 T212.heap [] := (Keep.refl h211 []).trans Kp212 all0
  have F228 : Old Z n0 T212.heap := (F214.keep K227 all0)
  have K229 : Keep T193.heap T212.heap [] := K213.trans Kp212 all0
  have F230 : Exa Z T212.heap b153 "java/lang/StringBuilder" := (f195.keep K229)
  have F231 : Fld Z T212.heap b153 "java/lang/AbstractStringBuilder" "value" "[B" (.ref t_159) := (f196.keep K229 nin0)
  have F232 : Fld Z T212.heap b153 "java/lang/AbstractStringBuilder" "coder" "B" (.int (0 : Int32)) := (f197.keep K229 nin0)
  have F233 : Fld Z T212.heap b153 "java/lang/AbstractStringBuilder" "count" "I" (.int (own_n ((([] : List Int32) ++ [cc]) ++ [cd]))) := (f198.keep K229 nin0)
  have F234 : Arv Z T212.heap t_159 kb_160 .byte (16 : Int32) (own_bs ((([] : List Int32) ++ [cc]) ++ [cd])) (.int (0 : Int32)) := (f199.keep K229 nin0)
  have Z235 : h0.size ≤ T212.heap.size := Nat.le_trans Z221 Kp212.1
  obtain ⟨rv226, T226, L226, X226, q226, st226⟩ := own_vi X212 hx hZ (y := (⟨"java/lang/StringBuilder", "toString", "()Ljava/lang/String;"⟩ : MethodName)) (z := (⟨"java/lang/StringBuilder", "toString", "()Ljava/lang/String;"⟩ : MethodName)) hown (ow hw 138 rfl) (ow hw 139 rfl) (ow hw 141 rfl) (ow hw 140 rfl) (Or.inl rfl) (by decide) (own_bkN (W := 3) (rm27 l Z a0 hw z0 O2 P5 fm0 O4 R4 [] b153 t_159 kb_160 ((([] : List Int32) ++ [cc]) ++ [cd]) T212.heap n0 (Nat.le_trans Z0 Z235) F228 F230 F231 F232 F233 F234 (Nat.le_of_ble_eq_true rfl) (own_bdc (own_bdc own_bd0 ⟨bcc0, bcc1⟩) ⟨bcd0, bcd1⟩)) hZ (ow hw 142 rfl) (ow hw 57 rfl) (by decide) (by decide)) rfl F230 (g := (mkF m 155 #[r' tk, .val pm, r' b101, r' b153, r' b153, i' 9, i' 92] [(.ref b153), (.ref b_222), (.ref b211), (.ref b211)])) rfl (by rw [hml]; rfl) (argsL := []) (rest := [(.ref b_222), (.ref b211), (.ref b211)]) rfl (lenOf own_pd16 rfl) rfl (by show 2 * 0 + _ ≤ _; exact Nat.le_of_eq rfl) (hb hby own_d11_155) (by decide) (by decide)
  obtain ⟨Nq226, Kp226, ⟨b_236, rfl, z237, f238, f239⟩⟩ := q226
  have N226 := Fr.app N212 Nq226
  refine go _ _ (st226) ?_
  have K241 : Keep h211 T226.heap [] := K227.trans Kp226 all0
  have F242 : Exa Z T226.heap b211 "com/example/kindred/kindred/Identifier" := (A211.keep K241)
  have F243 : Fld Z T226.heap b211 "com/example/kindred/kindred/Identifier" "system" "Ljava/lang/String;" .null := ((D211 (Or.inr (ow hw 186 rfl)) (ty := (.object "java/lang/String")) (by decide)).keep K241 nin0)
  have F244 : Fld Z T226.heap b211 "com/example/kindred/kindred/Identifier" "value" "Ljava/lang/String;" .null := ((D211 (Or.inr (ow hw 188 rfl)) (ty := (.object "java/lang/String")) (by decide)).keep K241 nin0)
  have Z245 : h0.size ≤ T226.heap.size := Nat.le_trans Z235 Kp226.1
  obtain ⟨rv240, T240, L240, X240, q240, st240⟩ := own_sp X226 hx hZ (y := (⟨"com/example/kindred/kindred/Identifier", "<init>", "(Ljava/lang/String;Ljava/lang/String;)V"⟩ : MethodName)) rfl hown (ow hw 176 rfl) (ow hw 177 rfl) (ow hw 178 rfl) (by decide) (own_bkN (W := 1) (rm35 l Z a0 hw z0 O2 P5 fm0 O4 R4 [] b211 b_222 b_236 T226.heap n0 (Nat.le_trans Z0 Z245) F242 F243 F244 (Nat.le_trans (Nat.le_trans Z0 Z209) (Nat.le_of_eq g211.symm))) hZ (ow hw 178 rfl) (ow hw 53 rfl) (by decide) (by decide)) rfl (g := (mkF m 158 #[r' tk, .val pm, r' b101, r' b153, r' b153, i' 9, i' 92] [(.ref b_236), (.ref b_222), (.ref b211), (.ref b211)])) rfl (by rw [hml]; rfl) (a := b211) (argsL := [(.ref b_222), (.ref b_236)]) (rest := [(.ref b211)]) rfl (lenOf own_pd17 rfl) rfl (by show 2 * 0 + _ ≤ _; exact Nat.le_of_eq rfl) (hb hby own_d11_158) (by decide) (by decide)
  obtain ⟨Nq240, Kp240, ⟨rfl, f246, f247, f248⟩⟩ := q240
  have N240 := Fr.app N226 Nq240
  refine go _ _ (st240) ?_
  show G (T240.setTop (mkF m 161 #[r' tk, .val pm, r' b101, r' b153, r' b153, i' 9, i' 92] [(.ref b211)]))
  have K249 : Keep h0 h153 [] := K147.ext E153
  have K250 : Keep h0 T154.heap [] := K249.trans Kp154 (allS (Or.inr (Nat.le_trans Z157 (Nat.le_of_eq g153.symm))) all0)
  have K251 : Keep h0 T176.heap [] := K250.trans Kp176 (allS (Or.inr (Nat.le_trans Z157 (Nat.le_of_eq g153.symm))) (allS (Or.inr (Nat.le_trans Z158 z161)) all0))
  have K252 : Keep h0 T193.heap [] := K251.trans Kp193 (allS (Or.inr (Nat.le_trans Z157 (Nat.le_of_eq g153.symm))) (allS (Or.inr (Nat.le_trans Z158 z161)) all0))
  have K253 : Keep h0 h211 [] := K252.ext E211
  have K254 : Keep h0 T212.heap [] := K253.trans Kp212 all0
  have K255 : Keep h0 T226.heap [] := K254.trans Kp226 all0
  have K256 : Keep h0 T240.heap [] := K255.trans Kp240 (allS (Or.inr (Nat.le_trans Z209 (Nat.le_of_eq g211.symm))) all0)
  have K257 : Keep T212.heap T226.heap [b211] := (Keep.refl T212.heap [b211]).trans Kp226 all0
  have K258 : Keep T212.heap T240.heap [b211] := K257.trans Kp240 (allS (Or.inl (List.mem_of_getElem? (i := 0) rfl)) all0)
  have F259 : Exa Z T240.heap b_222 "java/lang/String" := (f224.keep K258)
  have F260 : Exa Z T212.heap b211 "com/example/kindred/kindred/Identifier" := (A211.keep K227)
  have F261 : own_Str Z T240.heap b_222 ((([] : List Int32) ++ [ca]) ++ [cb]) := (own_Str_keep1 f225 K258 F260 (by decide) (ow hw 137 rfl))
  have K262 : Keep T226.heap T240.heap [b211] := (Keep.refl T226.heap [b211]).trans Kp240 (allS (Or.inl (List.mem_of_getElem? (i := 0) rfl)) all0)
  have F263 : Exa Z T240.heap b_236 "java/lang/String" := (f238.keep K262)
  have F264 : own_Str Z T240.heap b_236 ((([] : List Int32) ++ [cc]) ++ [cd]) := (own_Str_keep1 f239 K262 F242 (by decide) (ow hw 137 rfl))
  refine fin T240 _ _ _ (some (.ref b211)) X240 (fun q => nomatch q) (by decide) (by decide) ⟨N240, K256, ⟨b211, b_222, b_236, rfl, f246, f247, f248, F259, F261, F263, F264⟩⟩ _ (own_retA X240 hx hret rfl rfl rfl (hb hby own_d11_161))
theorem own_d11_94 : decode prog_12_method_3_code 94 = .ok (.aload 4, 2) := by decide +kernel
theorem own_d11_96 : decode prog_12_method_3_code 96 = .ok (.iload 6, 2) := by decide +kernel
theorem own_d11_98 : decode prog_12_method_3_code 98 = .ok (.invokevirtual 36, 3) := by decide +kernel
theorem own_d11_101 : decode prog_12_method_3_code 101 = .ok (.pop, 1) := by decide +kernel
set_option maxHeartbeats 4000000 in
theorem own_ef_rmT1 (m : MethodId) (x0 : Addr) (x1 : Value) (q1 : x1.isRef = true) : entryFrame m #[(.ref x0), x1] 7 = mkF m 0 #[.val (.ref x0), .val x1, .unset, .unset, .unset, .unset, .unset] [] := by simp [entryFrame, mkF, argsToLocals, own_catR, own_catI, own_catN, own_catJ, own_cat q1]
set_option maxRecDepth 65536 in
set_option maxHeartbeats 40000000 in
theorem rmT1 (l : Launch) (Z : State) (a0 : Array Value) (hw : ∀ d ∈ tables_1, d.before a0 Z = true) (z0 : Int32) (O2 : Sta Z Z.heap "java/lang/String" "COMPACT_STRINGS" "Z" (.int z0)) (P5 : ¬ z0 = (0 : Int32)) (fm0 : Value) (O4 : Sta Z Z.heap "jdk/internal/util/Preconditions" "SIOOBE_FORMATTER" "Ljava/util/function/BiFunction;" fm0) (R4 : fm0.isRef = true) (ws : List Jvm.Cond) (tk : Addr) (pm : Value) (ca : Int32) (cb : Int32) (cc : Int32) (cd : Int32) (h0 : Heap) (n0 : Nat) (Z0 : n0 ≤ h0.size) (rpm : pm.isRef = true) (Xo : Old Z n0 h0) (Et : Exa Z h0 tk "java/lang/String") (St : own_Str Z h0 tk ([ca, cb, (124 : Int32), cc, cd] : List Int32)) (bca0 : ¬ ca < (0 : Int32)) (bca1 : ¬ (255 : Int32) < ca) (bcb0 : ¬ cb < (0 : Int32)) (bcb1 : ¬ (255 : Int32) < cb) (bcc0 : ¬ cc < (0 : Int32)) (bcc1 : ¬ (255 : Int32) < cc) (bcd0 : ¬ cd < (0 : Int32)) (bcd1 : ¬ (255 : Int32) < cd) (nca0 : ¬ ca = (92 : Int32)) (nca1 : ¬ ca = (124 : Int32)) (ncb0 : ¬ cb = (92 : Int32)) (ncb1 : ¬ cb = (124 : Int32)) :
    own_MetN l Z (⟨"com/example/kindred/kindred/Identifier", "ofToken", "(Ljava/lang/String;Ljava/lang/String;)Lcom/example/kindred/kindred/Identifier;"⟩ : MethodName) prog_12_method_3_code 7 (some (.object "com/example/kindred/kindred/Identifier")) ws ({ frames := 6, cells := 9, slots := 82, locals := 103 } : Room) #[(.ref tk), pm] h0 (fun v h L => Fr n0 L ∧ Keep h0 h [] ∧ ((∃ (b : Addr) (s1 : Addr) (s2 : Addr), (v = some (.ref b)) ∧ (cc = (92 : Int32)) ∧ (Exa Z h b "com/example/kindred/kindred/Identifier") ∧ (Fld Z h b "com/example/kindred/kindred/Identifier" "system" "Ljava/lang/String;" (.ref s1)) ∧ (Fld Z h b "com/example/kindred/kindred/Identifier" "value" "Ljava/lang/String;" (.ref s2)) ∧ (Exa Z h s1 "java/lang/String") ∧ (own_Str Z h s1 ((([] : List Int32) ++ [ca]) ++ [cb])) ∧ (Exa Z h s2 "java/lang/String") ∧ (own_Str Z h s2 (([] : List Int32) ++ [cd]))) ∨ (∃ (b : Addr) (s1 : Addr) (s2 : Addr), (v = some (.ref b)) ∧ (¬ cc = (92 : Int32)) ∧ (Exa Z h b "com/example/kindred/kindred/Identifier") ∧ (Fld Z h b "com/example/kindred/kindred/Identifier" "system" "Ljava/lang/String;" (.ref s1)) ∧ (Fld Z h b "com/example/kindred/kindred/Identifier" "value" "Ljava/lang/String;" (.ref s2)) ∧ (Exa Z h s1 "java/lang/String") ∧ (own_Str Z h s1 ((([] : List Int32) ++ [ca]) ++ [cb])) ∧ (Exa Z h s2 "java/lang/String") ∧ (own_Str Z h s2 ((([] : List Int32) ++ [cc]) ++ [cd]))))) := by
  refine own_metN (plainFor_of_name own_pn7) ?_
  intro p e s m below meth c s₁ G hx hby hml hZ hown hnm hret X0 e0 go fin
  have N0 := Fr.nil n0
  refine go _ _ (fun _ k => castTop (own_ef_rmT1 m tk pm rpm) k) ?_
  obtain ⟨T101, h101, X101, e101, E101, A101, D101, -, st101⟩ := newO X0 hx hZ hown (ow hw 55 rfl) (ow hw 56 rfl) (ow hw 57 rfl) e0 (g := (mkF m 0 #[r' tk, .val pm, u', u', u', u', u'] [])) rfl (hb hby own_d11_0) (by decide) (by decide)
  obtain ⟨b101, g101⟩ : ∃ z, z = h0.size := ⟨_, rfl⟩
  rw [← g101] at A101 D101 st101
  refine go _ _ (st101) ?_
  show G (T101.setTop (mkF m 3 #[r' tk, .val pm, u', u', u', u', u'] [(.ref b101)]))
  refine go _ _ (fun _ k => XS.dup X101.here hx rfl (hb hby own_d11_3) rfl rfl k) ?_
  have K103 : Keep h0 h101 [] := (Keep.refl h0 []).ext E101
  have F104 : Old Z n0 h101 := (Xo.keep K103 all0)
  have Z105 : h0.size ≤ h101.size := E101.1
  obtain ⟨rv102, T102, L102, X102, q102, st102⟩ := own_sp X101 hx hZ (y := (⟨"java/lang/StringBuilder", "<init>", "()V"⟩ : MethodName)) rfl hown (ow hw 58 rfl) (ow hw 59 rfl) (ow hw 60 rfl) (by decide) (own_bkN (W := 1) (rm12 l Z a0 hw z0 O2 P5 fm0 O4 R4 [] b101 h101 n0 (Nat.le_trans Z0 Z105) F104 A101 (D101 (Or.inl (ow hw 70 rfl)) (ty := (.array .byte)) (by decide)) (D101 (Or.inl (ow hw 72 rfl)) (ty := .byte) (by decide)) (D101 (Or.inl (ow hw 115 rfl)) (ty := .int) (by decide)) (Nat.le_trans Z0 (Nat.le_of_eq g101.symm))) hZ (ow hw 60 rfl) (ow hw 57 rfl) (by decide) (by decide)) e101 (g := (mkF m 4 #[r' tk, .val pm, u', u', u', u', u'] [(.ref b101), (.ref b101)])) rfl (by rw [hml]; rfl) (a := b101) (argsL := []) (rest := [(.ref b101)]) rfl (lenOf own_pd13 rfl) rfl (by show 2 * 0 + _ ≤ _; exact Nat.le_of_eq rfl) (hb hby own_d11_4) (by decide) (by decide)
  obtain ⟨Nq102, Kp102, ⟨t_106, kb_107, rfl, z108, f109, f110, f111, f112, f113⟩⟩ := q102
  have N102 := Fr.app N0 Nq102
  refine go _ _ (st102) ?_
  show G (T102.setTop (mkF m 7 #[r' tk, .val pm, u', u', u', u', u'] [(.ref b101)]))
  refine go _ _ (fun _ k => XS.astoreN X102.here hx rfl (hb hby own_d11_7) rfl rfl (l' := #[r' tk, .val pm, r' b101, u', u', u', u']) rfl (XS.aconstNull X102.here hx rfl (hb hby own_d11_8) (XS.astoreN X102.here hx rfl (hb hby own_d11_9) rfl rfl (l' := #[r' tk, .val pm, r' b101, .val .null, u', u', u']) rfl (XS.aloadN X102.here hx rfl (hb hby own_d11_10) rfl rfl (XS.astore X102.here hx rfl (hb hby own_d11_11) rfl rfl (l' := #[r' tk, .val pm, r' b101, .val .null, r' b101, u', u']) rfl (XS.iconst X102.here hx rfl (hb hby own_d11_13) k)))))) ?_
  show G (T102.setTop (mkF m 14 #[r' tk, .val pm, r' b101, .val .null, r' b101, u', u'] [(.int 0)]))
  refine go _ _ (fun _ k => XS.istore X102.here hx rfl (hb hby own_d11_14) rfl (l' := #[r' tk, .val pm, r' b101, .val .null, r' b101, i' 0, u']) rfl (XS.iload X102.here hx rfl (hb hby own_d11_16) rfl (XS.aloadN X102.here hx rfl (hb hby own_d11_18) rfl rfl k))) ?_
  have K115 : Keep h0 T102.heap [] := K103.trans Kp102 (allS (Or.inr (Nat.le_of_eq g101.symm)) all0)
  have F116 : own_Str Z T102.heap tk ([ca, cb, (124 : Int32), cc, cd] : List Int32) := (own_Str_keep St K115)
  obtain ⟨tx114, kbx114, Esx114, Vsx114, Csx114, Asx114, cdx114, bdx114, lnx114⟩ := own_Str_W F116
  have K117 : Keep h101 T102.heap [b101] := (Keep.refl h101 [b101]).trans Kp102 (allS (Or.inl (List.mem_of_getElem? (i := 0) rfl)) all0)
  have F118 : Old Z n0 T102.heap := (F104.keep K117 (allS (Nat.le_trans Z0 (Nat.le_of_eq g101.symm)) all0))
  have F119 : Exa Z T102.heap tk "java/lang/String" := (Et.keep K115)
  obtain ⟨rv114, T114, L114, X114, q114, st114⟩ := own_vi X102 hx hZ (Q := fun v h L => v = some (.int (Int32.ofNat (([ca, cb, (124 : Int32), cc, cd] : List Int32)).length)) ∧ L = [] ∧ h = T102.heap) (kc := 0) (ks := 0) (y := (⟨"java/lang/String", "length", "()I"⟩ : MethodName)) (z := (⟨"java/lang/String", "length", "()I"⟩ : MethodName)) hown (ow hw 73 rfl) (ow hw 74 rfl) (ow hw 76 rfl) (ow hw 75 rfl) (Or.inl rfl) (by decide) (StrChars.Road.lenW (W := 1) hZ (own_hln hw) (kI := 4) (ow hw 5 rfl) Esx114 Vsx114 Csx114 Asx114 cdx114 bdx114 (O2.ext F118.2) P5 lnx114 (by decide) (by decide)) rfl F119 (g := (mkF m 19 #[r' tk, .val pm, r' b101, .val .null, r' b101, i' 0, u'] [(.ref tk), (.int 0)])) rfl (by rw [hml]; rfl) (argsL := []) (rest := [(.int (0 : Int32))]) rfl (lenOf own_pd1 rfl) rfl (by show 2 * 0 + _ ≤ _; exact Nat.le_of_eq rfl) (hb hby own_d11_19) (by decide) (by decide)
  obtain ⟨rfl, rfl, e114⟩ := q114
  have N114 := Fr.app N102 (Fr.nil n0)
  refine go _ _ (st114) ?_
  show G (T114.setTop (mkF m 22 #[r' tk, .val pm, r' b101, .val .null, r' b101, i' 0, u'] [(.int 5), (.int 0)]))
  refine go _ _ (fun _ k => XS.icmpNo X114.here hx rfl (hb hby own_d11_22) rfl (by decide) k) ?_
  show G (T114.setTop (mkF m 25 #[r' tk, .val pm, r' b101, .val .null, r' b101, i' 0, u'] []))
  refine go _ _ (fun _ k => XS.aloadN X114.here hx rfl (hb hby own_d11_25) rfl rfl (XS.iload X114.here hx rfl (hb hby own_d11_26) rfl k)) ?_
  obtain ⟨tx120, kbx120, Esx120, Vsx120, Csx120, Asx120, cdx120, bdx120, lnx120⟩ := own_Str_W F116
  obtain ⟨rv120, T120, L120, X120, q120, st120⟩ := own_vi X114 hx hZ (Q := fun v h L => v = some (.int ((([ca, cb, (124 : Int32), cc, cd] : List Int32)).getD 0 0)) ∧ L = [] ∧ h = T102.heap) (kc := 0) (ks := 0) (y := (⟨"java/lang/String", "charAt", "(I)C"⟩ : MethodName)) (z := (⟨"java/lang/String", "charAt", "(I)C"⟩ : MethodName)) hown (ow hw 83 rfl) (ow hw 84 rfl) (ow hw 86 rfl) (ow hw 85 rfl) (Or.inl rfl) (by decide) (StrChars.Road.chN (W := 0) hZ (own_hch hw) (kI := 4) (ow hw 5 rfl) Esx120 Vsx120 Csx120 Asx120 cdx120 bdx120 (O2.ext F118.2) P5 (O4.ext F118.2) R4 lnx120 (i := 0) (Nat.le_of_ble_eq_true rfl) (j := (0 : Int32)) (by decide) (by decide) (by decide)) e114 F119 (g := (mkF m 28 #[r' tk, .val pm, r' b101, .val .null, r' b101, i' 0, u'] [(.int 0), (.ref tk)])) rfl (by rw [hml]; rfl) (argsL := [(.int (0 : Int32))]) (rest := []) rfl (lenOf own_pd14 rfl) rfl (by show 2 * 0 + _ ≤ _; exact Nat.le_of_eq rfl) (hb hby own_d11_28) (by decide) (by decide)
  obtain ⟨rfl, rfl, e120⟩ := q120
  have N120 := Fr.app N114 (Fr.nil n0)
  refine go _ _ (st120) ?_
  show G (T120.setTop (mkF m 31 #[r' tk, .val pm, r' b101, .val .null, r' b101, i' 0, u'] [(.int ca)]))
  refine go _ _ (fun _ k => XS.istore X120.here hx rfl (hb hby own_d11_31) rfl (l' := #[r' tk, .val pm, r' b101, .val .null, r' b101, i' 0, i' ca]) rfl (XS.iload X120.here hx rfl (hb hby own_d11_33) rfl (XS.bipush X120.here hx rfl (hb hby own_d11_35) k))) ?_
  show G (T120.setTop (mkF m 37 #[r' tk, .val pm, r' b101, .val .null, r' b101, i' 0, i' ca] [(.int 92), (.int ca)]))
  refine go _ _ (fun _ k => XS.icmpYes X120.here hx rfl (pc0 := 37) (pc' := 69) rfl (hb hby own_d11_37) rfl (feq nca0).2 (by decide) (by decide) k) ?_
  show G (T120.setTop (mkF m 69 #[r' tk, .val pm, r' b101, .val .null, r' b101, i' 0, i' ca] []))
  refine go _ _ (fun _ k => XS.iload X120.here hx rfl (hb hby own_d11_69) rfl (XS.bipush X120.here hx rfl (hb hby own_d11_71) k)) ?_
  show G (T120.setTop (mkF m 73 #[r' tk, .val pm, r' b101, .val .null, r' b101, i' 0, i' ca] [(.int 124), (.int ca)]))
  refine go _ _ (fun _ k => XS.icmpYes X120.here hx rfl (pc0 := 73) (pc' := 94) rfl (hb hby own_d11_73) rfl (feq nca1).2 (by decide) (by decide) k) ?_
  show G (T120.setTop (mkF m 94 #[r' tk, .val pm, r' b101, .val .null, r' b101, i' 0, i' ca] []))
  refine go _ _ (fun _ k => XS.aload X120.here hx rfl (hb hby own_d11_94) rfl rfl (XS.iload X120.here hx rfl (hb hby own_d11_96) rfl k)) ?_
  have Z122 : h0.size ≤ T102.heap.size := Nat.le_trans Z105 Kp102.1
  obtain ⟨rv121, T121, L121, X121, q121, st121⟩ := own_vi X120 hx hZ (y := (⟨"java/lang/StringBuilder", "append", "(C)Ljava/lang/StringBuilder;"⟩ : MethodName)) (z := (⟨"java/lang/StringBuilder", "append", "(C)Ljava/lang/StringBuilder;"⟩ : MethodName)) hown (ow hw 104 rfl) (ow hw 105 rfl) (ow hw 107 rfl) (ow hw 106 rfl) (Or.inl rfl) (by decide) (own_bkN (W := 0) (rm21 l Z a0 hw z0 O2 P5 fm0 O4 R4 [] b101 ca t_106 kb_107 ([] : List Int32) T102.heap n0 (Nat.le_trans Z0 Z122) F118 f109 f110 f111 f112 f113 bca1 (Nat.le_of_ble_eq_true rfl) (Nat.le_trans Z0 (Nat.le_of_eq g101.symm)) (Nat.le_trans (Nat.le_trans Z0 Z105) z108)) hZ (ow hw 108 rfl) (ow hw 57 rfl) (by decide) (by decide)) e120 f109 (g := (mkF m 98 #[r' tk, .val pm, r' b101, .val .null, r' b101, i' 0, i' ca] [(.int ca), (.ref b101)])) rfl (by rw [hml]; rfl) (argsL := [(.int ca)]) (rest := []) rfl (lenOf own_pd15 rfl) rfl (by show 2 * 0 + _ ≤ _; exact Nat.le_of_eq rfl) (hb hby own_d11_98) (by decide) (by decide)
  obtain ⟨Nq121, Kp121, ⟨rfl, f123, f124, f125, f126, f127⟩⟩ := q121
  have N121 := Fr.app N120 Nq121
  refine go _ _ (st121) ?_
  show G (T121.setTop (mkF m 101 #[r' tk, .val pm, r' b101, .val .null, r' b101, i' 0, i' ca] [(.ref b101)]))
  refine go _ _ (fun _ k => XS.pop X121.here hx rfl (hb hby own_d11_101) rfl rfl (XS.iinc X121.here hx rfl (hb hby own_d11_102) rfl (l' := #[r' tk, .val pm, r' b101, .val .null, r' b101, i' 1, i' ca]) rfl k)) ?_
  show G (T121.setTop (mkF m 105 #[r' tk, .val pm, r' b101, .val .null, r' b101, i' 1, i' ca] []))
  refine go _ _ (fun _ k => XS.goto X121.here hx rfl (pc0 := 105) (pc' := 16) rfl (hb hby own_d11_105) (by decide) (by decide) k) ?_
  show G (T121.setTop (mkF m 16 #[r' tk, .val pm, r' b101, .val .null, r' b101, i' 1, i' ca] []))
  refine go _ _ (fun _ k => XS.iload X121.here hx rfl (hb hby own_d11_16) rfl (XS.aloadN X121.here hx rfl (hb hby own_d11_18) rfl rfl k)) ?_
  have K129 : Keep h0 T121.heap [] := K115.trans Kp121 (allS (Or.inr (Nat.le_of_eq g101.symm)) (allS (Or.inr (Nat.le_trans Z105 z108)) all0))
  have F130 : own_Str Z T121.heap tk ([ca, cb, (124 : Int32), cc, cd] : List Int32) := (own_Str_keep St K129)
  obtain ⟨tx128, kbx128, Esx128, Vsx128, Csx128, Asx128, cdx128, bdx128, lnx128⟩ := own_Str_W F130
  have K131 : Keep T102.heap T121.heap [b101, t_106] := (Keep.refl T102.heap [b101, t_106]).trans Kp121 (allS (Or.inl (List.mem_of_getElem? (i := 0) rfl)) (allS (Or.inl (List.mem_of_getElem? (i := 1) rfl)) all0))
  have F132 : Old Z n0 T121.heap := (F118.keep K131 (allS (Nat.le_trans Z0 (Nat.le_of_eq g101.symm)) (allS (Nat.le_trans (Nat.le_trans Z0 Z105) z108) all0)))
  have F133 : Exa Z T121.heap tk "java/lang/String" := (F119.keep K131)
  obtain ⟨rv128, T128, L128, X128, q128, st128⟩ := own_vi X121 hx hZ (Q := fun v h L => v = some (.int (Int32.ofNat (([ca, cb, (124 : Int32), cc, cd] : List Int32)).length)) ∧ L = [] ∧ h = T121.heap) (kc := 0) (ks := 0) (y := (⟨"java/lang/String", "length", "()I"⟩ : MethodName)) (z := (⟨"java/lang/String", "length", "()I"⟩ : MethodName)) hown (ow hw 73 rfl) (ow hw 74 rfl) (ow hw 76 rfl) (ow hw 75 rfl) (Or.inl rfl) (by decide) (StrChars.Road.lenW (W := 1) hZ (own_hln hw) (kI := 4) (ow hw 5 rfl) Esx128 Vsx128 Csx128 Asx128 cdx128 bdx128 (O2.ext F132.2) P5 lnx128 (by decide) (by decide)) rfl F133 (g := (mkF m 19 #[r' tk, .val pm, r' b101, .val .null, r' b101, i' 1, i' ca] [(.ref tk), (.int 1)])) rfl (by rw [hml]; rfl) (argsL := []) (rest := [(.int (1 : Int32))]) rfl (lenOf own_pd1 rfl) rfl (by show 2 * 0 + _ ≤ _; exact Nat.le_of_eq rfl) (hb hby own_d11_19) (by decide) (by decide)
  obtain ⟨rfl, rfl, e128⟩ := q128
  have N128 := Fr.app N121 (Fr.nil n0)
  refine go _ _ (st128) ?_
  show G (T128.setTop (mkF m 22 #[r' tk, .val pm, r' b101, .val .null, r' b101, i' 1, i' ca] [(.int 5), (.int 1)]))
  refine go _ _ (fun _ k => XS.icmpNo X128.here hx rfl (hb hby own_d11_22) rfl (by decide) k) ?_
  show G (T128.setTop (mkF m 25 #[r' tk, .val pm, r' b101, .val .null, r' b101, i' 1, i' ca] []))
  refine go _ _ (fun _ k => XS.aloadN X128.here hx rfl (hb hby own_d11_25) rfl rfl (XS.iload X128.here hx rfl (hb hby own_d11_26) rfl k)) ?_
  obtain ⟨tx134, kbx134, Esx134, Vsx134, Csx134, Asx134, cdx134, bdx134, lnx134⟩ := own_Str_W F130
  obtain ⟨rv134, T134, L134, X134, q134, st134⟩ := own_vi X128 hx hZ (Q := fun v h L => v = some (.int ((([ca, cb, (124 : Int32), cc, cd] : List Int32)).getD 1 0)) ∧ L = [] ∧ h = T121.heap) (kc := 0) (ks := 0) (y := (⟨"java/lang/String", "charAt", "(I)C"⟩ : MethodName)) (z := (⟨"java/lang/String", "charAt", "(I)C"⟩ : MethodName)) hown (ow hw 83 rfl) (ow hw 84 rfl) (ow hw 86 rfl) (ow hw 85 rfl) (Or.inl rfl) (by decide) (StrChars.Road.chN (W := 0) hZ (own_hch hw) (kI := 4) (ow hw 5 rfl) Esx134 Vsx134 Csx134 Asx134 cdx134 bdx134 (O2.ext F132.2) P5 (O4.ext F132.2) R4 lnx134 (i := 1) (Nat.le_of_ble_eq_true rfl) (j := (1 : Int32)) (by decide) (by decide) (by decide)) e128 F133 (g := (mkF m 28 #[r' tk, .val pm, r' b101, .val .null, r' b101, i' 1, i' ca] [(.int 1), (.ref tk)])) rfl (by rw [hml]; rfl) (argsL := [(.int (1 : Int32))]) (rest := []) rfl (lenOf own_pd14 rfl) rfl (by show 2 * 0 + _ ≤ _; exact Nat.le_of_eq rfl) (hb hby own_d11_28) (by decide) (by decide)
  obtain ⟨rfl, rfl, e134⟩ := q134
  have N134 := Fr.app N128 (Fr.nil n0)
  refine go _ _ (st134) ?_
  show G (T134.setTop (mkF m 31 #[r' tk, .val pm, r' b101, .val .null, r' b101, i' 1, i' ca] [(.int cb)]))
  refine go _ _ (fun _ k => XS.istore X134.here hx rfl (hb hby own_d11_31) rfl (l' := #[r' tk, .val pm, r' b101, .val .null, r' b101, i' 1, i' cb]) rfl (XS.iload X134.here hx rfl (hb hby own_d11_33) rfl (XS.bipush X134.here hx rfl (hb hby own_d11_35) k))) ?_
  show G (T134.setTop (mkF m 37 #[r' tk, .val pm, r' b101, .val .null, r' b101, i' 1, i' cb] [(.int 92), (.int cb)]))
  refine go _ _ (fun _ k => XS.icmpYes X134.here hx rfl (pc0 := 37) (pc' := 69) rfl (hb hby own_d11_37) rfl (feq ncb0).2 (by decide) (by decide) k) ?_
  show G (T134.setTop (mkF m 69 #[r' tk, .val pm, r' b101, .val .null, r' b101, i' 1, i' cb] []))
  refine go _ _ (fun _ k => XS.iload X134.here hx rfl (hb hby own_d11_69) rfl (XS.bipush X134.here hx rfl (hb hby own_d11_71) k)) ?_
  show G (T134.setTop (mkF m 73 #[r' tk, .val pm, r' b101, .val .null, r' b101, i' 1, i' cb] [(.int 124), (.int cb)]))
  refine go _ _ (fun _ k => XS.icmpYes X134.here hx rfl (pc0 := 73) (pc' := 94) rfl (hb hby own_d11_73) rfl (feq ncb1).2 (by decide) (by decide) k) ?_
  show G (T134.setTop (mkF m 94 #[r' tk, .val pm, r' b101, .val .null, r' b101, i' 1, i' cb] []))
  refine go _ _ (fun _ k => XS.aload X134.here hx rfl (hb hby own_d11_94) rfl rfl (XS.iload X134.here hx rfl (hb hby own_d11_96) rfl k)) ?_
  have Z136 : h0.size ≤ T121.heap.size := Nat.le_trans Z122 Kp121.1
  obtain ⟨rv135, T135, L135, X135, q135, st135⟩ := own_vi X134 hx hZ (y := (⟨"java/lang/StringBuilder", "append", "(C)Ljava/lang/StringBuilder;"⟩ : MethodName)) (z := (⟨"java/lang/StringBuilder", "append", "(C)Ljava/lang/StringBuilder;"⟩ : MethodName)) hown (ow hw 104 rfl) (ow hw 105 rfl) (ow hw 107 rfl) (ow hw 106 rfl) (Or.inl rfl) (by decide) (own_bkN (W := 0) (rm21 l Z a0 hw z0 O2 P5 fm0 O4 R4 [] b101 cb t_106 kb_107 (([] : List Int32) ++ [ca]) T121.heap n0 (Nat.le_trans Z0 Z136) F132 f123 f124 f125 f126 f127 bcb1 (Nat.le_of_ble_eq_true rfl) (Nat.le_trans Z0 (Nat.le_of_eq g101.symm)) (Nat.le_trans (Nat.le_trans Z0 Z105) z108)) hZ (ow hw 108 rfl) (ow hw 57 rfl) (by decide) (by decide)) e134 f123 (g := (mkF m 98 #[r' tk, .val pm, r' b101, .val .null, r' b101, i' 1, i' cb] [(.int cb), (.ref b101)])) rfl (by rw [hml]; rfl) (argsL := [(.int cb)]) (rest := []) rfl (lenOf own_pd15 rfl) rfl (by show 2 * 0 + _ ≤ _; exact Nat.le_of_eq rfl) (hb hby own_d11_98) (by decide) (by decide)
  obtain ⟨Nq135, Kp135, ⟨rfl, f137, f138, f139, f140, f141⟩⟩ := q135
  have N135 := Fr.app N134 Nq135
  refine go _ _ (st135) ?_
  show G (T135.setTop (mkF m 101 #[r' tk, .val pm, r' b101, .val .null, r' b101, i' 1, i' cb] [(.ref b101)]))
  refine go _ _ (fun _ k => XS.pop X135.here hx rfl (hb hby own_d11_101) rfl rfl (XS.iinc X135.here hx rfl (hb hby own_d11_102) rfl (l' := #[r' tk, .val pm, r' b101, .val .null, r' b101, i' 2, i' cb]) rfl k)) ?_
  show G (T135.setTop (mkF m 105 #[r' tk, .val pm, r' b101, .val .null, r' b101, i' 2, i' cb] []))
  refine go _ _ (fun _ k => XS.goto X135.here hx rfl (pc0 := 105) (pc' := 16) rfl (hb hby own_d11_105) (by decide) (by decide) k) ?_
  show G (T135.setTop (mkF m 16 #[r' tk, .val pm, r' b101, .val .null, r' b101, i' 2, i' cb] []))
  refine go _ _ (fun _ k => XS.iload X135.here hx rfl (hb hby own_d11_16) rfl (XS.aloadN X135.here hx rfl (hb hby own_d11_18) rfl rfl k)) ?_
  have K143 : Keep h0 T135.heap [] := K129.trans Kp135 (allS (Or.inr (Nat.le_of_eq g101.symm)) (allS (Or.inr (Nat.le_trans Z105 z108)) all0))
  have F144 : own_Str Z T135.heap tk ([ca, cb, (124 : Int32), cc, cd] : List Int32) := (own_Str_keep St K143)
  obtain ⟨tx142, kbx142, Esx142, Vsx142, Csx142, Asx142, cdx142, bdx142, lnx142⟩ := own_Str_W F144
  have K145 : Keep T121.heap T135.heap [b101, t_106] := (Keep.refl T121.heap [b101, t_106]).trans Kp135 (allS (Or.inl (List.mem_of_getElem? (i := 0) rfl)) (allS (Or.inl (List.mem_of_getElem? (i := 1) rfl)) all0))
  have F146 : Old Z n0 T135.heap := (F132.keep K145 (allS (Nat.le_trans Z0 (Nat.le_of_eq g101.symm)) (allS (Nat.le_trans (Nat.le_trans Z0 Z105) z108) all0)))
  have F147 : Exa Z T135.heap tk "java/lang/String" := (F133.keep K145)
  obtain ⟨rv142, T142, L142, X142, q142, st142⟩ := own_vi X135 hx hZ (Q := fun v h L => v = some (.int (Int32.ofNat (([ca, cb, (124 : Int32), cc, cd] : List Int32)).length)) ∧ L = [] ∧ h = T135.heap) (kc := 0) (ks := 0) (y := (⟨"java/lang/String", "length", "()I"⟩ : MethodName)) (z := (⟨"java/lang/String", "length", "()I"⟩ : MethodName)) hown (ow hw 73 rfl) (ow hw 74 rfl) (ow hw 76 rfl) (ow hw 75 rfl) (Or.inl rfl) (by decide) (StrChars.Road.lenW (W := 1) hZ (own_hln hw) (kI := 4) (ow hw 5 rfl) Esx142 Vsx142 Csx142 Asx142 cdx142 bdx142 (O2.ext F146.2) P5 lnx142 (by decide) (by decide)) rfl F147 (g := (mkF m 19 #[r' tk, .val pm, r' b101, .val .null, r' b101, i' 2, i' cb] [(.ref tk), (.int 2)])) rfl (by rw [hml]; rfl) (argsL := []) (rest := [(.int (2 : Int32))]) rfl (lenOf own_pd1 rfl) rfl (by show 2 * 0 + _ ≤ _; exact Nat.le_of_eq rfl) (hb hby own_d11_19) (by decide) (by decide)
  obtain ⟨rfl, rfl, e142⟩ := q142
  have N142 := Fr.app N135 (Fr.nil n0)
  refine go _ _ (st142) ?_
  show G (T142.setTop (mkF m 22 #[r' tk, .val pm, r' b101, .val .null, r' b101, i' 2, i' cb] [(.int 5), (.int 2)]))
  refine go _ _ (fun _ k => XS.icmpNo X142.here hx rfl (hb hby own_d11_22) rfl (by decide) k) ?_
  show G (T142.setTop (mkF m 25 #[r' tk, .val pm, r' b101, .val .null, r' b101, i' 2, i' cb] []))
  refine go _ _ (fun _ k => XS.aloadN X142.here hx rfl (hb hby own_d11_25) rfl rfl (XS.iload X142.here hx rfl (hb hby own_d11_26) rfl k)) ?_
  obtain ⟨tx148, kbx148, Esx148, Vsx148, Csx148, Asx148, cdx148, bdx148, lnx148⟩ := own_Str_W F144
  obtain ⟨rv148, T148, L148, X148, q148, st148⟩ := own_vi X142 hx hZ (Q := fun v h L => v = some (.int ((([ca, cb, (124 : Int32), cc, cd] : List Int32)).getD 2 0)) ∧ L = [] ∧ h = T135.heap) (kc := 0) (ks := 0) (y := (⟨"java/lang/String", "charAt", "(I)C"⟩ : MethodName)) (z := (⟨"java/lang/String", "charAt", "(I)C"⟩ : MethodName)) hown (ow hw 83 rfl) (ow hw 84 rfl) (ow hw 86 rfl) (ow hw 85 rfl) (Or.inl rfl) (by decide) (StrChars.Road.chN (W := 0) hZ (own_hch hw) (kI := 4) (ow hw 5 rfl) Esx148 Vsx148 Csx148 Asx148 cdx148 bdx148 (O2.ext F146.2) P5 (O4.ext F146.2) R4 lnx148 (i := 2) (Nat.le_of_ble_eq_true rfl) (j := (2 : Int32)) (by decide) (by decide) (by decide)) e142 F147 (g := (mkF m 28 #[r' tk, .val pm, r' b101, .val .null, r' b101, i' 2, i' cb] [(.int 2), (.ref tk)])) rfl (by rw [hml]; rfl) (argsL := [(.int (2 : Int32))]) (rest := []) rfl (lenOf own_pd14 rfl) rfl (by show 2 * 0 + _ ≤ _; exact Nat.le_of_eq rfl) (hb hby own_d11_28) (by decide) (by decide)
  obtain ⟨rfl, rfl, e148⟩ := q148
  have N148 := Fr.app N142 (Fr.nil n0)
  refine go _ _ (st148) ?_
  show G (T148.setTop (mkF m 31 #[r' tk, .val pm, r' b101, .val .null, r' b101, i' 2, i' cb] [(.int 124)]))
  refine go _ _ (fun _ k => XS.istore X148.here hx rfl (hb hby own_d11_31) rfl (l' := #[r' tk, .val pm, r' b101, .val .null, r' b101, i' 2, i' 124]) rfl (XS.iload X148.here hx rfl (hb hby own_d11_33) rfl (XS.bipush X148.here hx rfl (hb hby own_d11_35) k))) ?_
  show G (T148.setTop (mkF m 37 #[r' tk, .val pm, r' b101, .val .null, r' b101, i' 2, i' 124] [(.int 92), (.int 124)]))
  refine go _ _ (fun _ k => XS.icmpYes X148.here hx rfl (pc0 := 37) (pc' := 69) rfl (hb hby own_d11_37) rfl (by decide) (by decide) (by decide) k) ?_
  show G (T148.setTop (mkF m 69 #[r' tk, .val pm, r' b101, .val .null, r' b101, i' 2, i' 124] []))
  refine go _ _ (fun _ k => XS.iload X148.here hx rfl (hb hby own_d11_69) rfl (XS.bipush X148.here hx rfl (hb hby own_d11_71) k)) ?_
  show G (T148.setTop (mkF m 73 #[r' tk, .val pm, r' b101, .val .null, r' b101, i' 2, i' 124] [(.int 124), (.int 124)]))
  refine go _ _ (fun _ k => XS.icmpNo X148.here hx rfl (hb hby own_d11_73) rfl (by decide) k) ?_
  show G (T148.setTop (mkF m 76 #[r' tk, .val pm, r' b101, .val .null, r' b101, i' 2, i' 124] []))
  refine go _ _ (fun _ k => XS.aloadN X148.here hx rfl (hb hby own_d11_76) rfl rfl k) ?_
  show G (T148.setTop (mkF m 77 #[r' tk, .val pm, r' b101, .val .null, r' b101, i' 2, i' 124] [.null]))
  refine go _ _ (fun _ k => XS.ifnonnullNo X148.here hx rfl (hb hby own_d11_77) rfl k) ?_
  obtain ⟨T149, h149, X149, e149, E149, A149, D149, -, st149⟩ := newO X148 hx hZ hown (ow hw 55 rfl) (ow hw 56 rfl) (ow hw 57 rfl) e148 (g := (mkF m 80 #[r' tk, .val pm, r' b101, .val .null, r' b101, i' 2, i' 124] [])) rfl (hb hby own_d11_80) (by decide) (by decide)
  obtain ⟨b149, g149⟩ : ∃ z, z = T135.heap.size := ⟨_, rfl⟩
  rw [← g149] at A149 D149 st149
  refine go _ _ (st149) ?_
  show G (T149.setTop (mkF m 83 #[r' tk, .val pm, r' b101, .val .null, r' b101, i' 2, i' 124] [(.ref b149)]))
  refine go _ _ (fun _ k => XS.dup X149.here hx rfl (hb hby own_d11_83) rfl rfl k) ?_
  have K151 : Keep T135.heap h149 [] := (Keep.refl T135.heap []).ext E149
  have F152 : Old Z n0 h149 := (F146.keep K151 all0)
  have Z153 : h0.size ≤ T135.heap.size := Nat.le_trans Z136 Kp135.1
  have Z154 : h0.size ≤ h149.size := Nat.le_trans Z153 E149.1
  obtain ⟨rv150, T150, L150, X150, q150, st150⟩ := own_sp X149 hx hZ (y := (⟨"java/lang/StringBuilder", "<init>", "()V"⟩ : MethodName)) rfl hown (ow hw 58 rfl) (ow hw 59 rfl) (ow hw 60 rfl) (by decide) (own_bkN (W := 1) (rm12 l Z a0 hw z0 O2 P5 fm0 O4 R4 [] b149 h149 n0 (Nat.le_trans Z0 Z154) F152 A149 (D149 (Or.inl (ow hw 70 rfl)) (ty := (.array .byte)) (by decide)) (D149 (Or.inl (ow hw 72 rfl)) (ty := .byte) (by decide)) (D149 (Or.inl (ow hw 115 rfl)) (ty := .int) (by decide)) (Nat.le_trans (Nat.le_trans Z0 Z153) (Nat.le_of_eq g149.symm))) hZ (ow hw 60 rfl) (ow hw 57 rfl) (by decide) (by decide)) e149 (g := (mkF m 84 #[r' tk, .val pm, r' b101, .val .null, r' b101, i' 2, i' 124] [(.ref b149), (.ref b149)])) rfl (by rw [hml]; rfl) (a := b149) (argsL := []) (rest := [(.ref b149)]) rfl (lenOf own_pd13 rfl) rfl (by show 2 * 0 + _ ≤ _; exact Nat.le_of_eq rfl) (hb hby own_d11_84) (by decide) (by decide)
  obtain ⟨Nq150, Kp150, ⟨t_155, kb_156, rfl, z157, f158, f159, f160, f161, f162⟩⟩ := q150
  have N150 := Fr.app N148 Nq150
  refine go _ _ (st150) ?_
  show G (T150.setTop (mkF m 87 #[r' tk, .val pm, r' b101, .val .null, r' b101, i' 2, i' 124] [(.ref b149)]))
  refine go _ _ (fun _ k => XS.astoreN X150.here hx rfl (hb hby own_d11_87) rfl rfl (l' := #[r' tk, .val pm, r' b101, r' b149, r' b101, i' 2, i' 124]) rfl (XS.aloadN X150.here hx rfl (hb hby own_d11_88) rfl rfl (XS.astore X150.here hx rfl (hb hby own_d11_89) rfl rfl (l' := #[r' tk, .val pm, r' b101, r' b149, r' b149, i' 2, i' 124]) rfl k))) ?_
  show G (T150.setTop (mkF m 91 #[r' tk, .val pm, r' b101, r' b149, r' b149, i' 2, i' 124] []))
  refine go _ _ (fun _ k => XS.goto X150.here hx rfl (pc0 := 91) (pc' := 102) rfl (hb hby own_d11_91) (by decide) (by decide) k) ?_
  show G (T150.setTop (mkF m 102 #[r' tk, .val pm, r' b101, r' b149, r' b149, i' 2, i' 124] []))
  refine go _ _ (fun _ k => XS.iinc X150.here hx rfl (hb hby own_d11_102) rfl (l' := #[r' tk, .val pm, r' b101, r' b149, r' b149, i' 3, i' 124]) rfl k) ?_
  show G (T150.setTop (mkF m 105 #[r' tk, .val pm, r' b101, r' b149, r' b149, i' 3, i' 124] []))
  refine go _ _ (fun _ k => XS.goto X150.here hx rfl (pc0 := 105) (pc' := 16) rfl (hb hby own_d11_105) (by decide) (by decide) k) ?_
  show G (T150.setTop (mkF m 16 #[r' tk, .val pm, r' b101, r' b149, r' b149, i' 3, i' 124] []))
  refine go _ _ (fun _ k => XS.iload X150.here hx rfl (hb hby own_d11_16) rfl (XS.aloadN X150.here hx rfl (hb hby own_d11_18) rfl rfl k)) ?_
  have K164 : Keep T135.heap T150.heap [] := K151.trans Kp150 (allS (Or.inr (Nat.le_of_eq g149.symm)) all0)
  have F165 : own_Str Z T150.heap tk ([ca, cb, (124 : Int32), cc, cd] : List Int32) := (own_Str_keep F144 K164)
  obtain ⟨tx163, kbx163, Esx163, Vsx163, Csx163, Asx163, cdx163, bdx163, lnx163⟩ := own_Str_W F165
  have K166 : Keep h149 T150.heap [b149] := (Keep.refl h149 [b149]).trans Kp150 (allS (Or.inl (List.mem_of_getElem? (i := 0) rfl)) all0)
  have F167 : Old Z n0 T150.heap := (F152.keep K166 (allS (Nat.le_trans (Nat.le_trans Z0 Z153) (Nat.le_of_eq g149.symm)) all0))
  have F168 : Exa Z T150.heap tk "java/lang/String" := (F147.keep K164)
  obtain ⟨rv163, T163, L163, X163, q163, st163⟩ := own_vi X150 hx hZ (Q := fun v h L => v = some (.int (Int32.ofNat (([ca, cb, (124 : Int32), cc, cd] : List Int32)).length)) ∧ L = [] ∧ h = T150.heap) (kc := 0) (ks := 0) (y := (⟨"java/lang/String", "length", "()I"⟩ : MethodName)) (z := (⟨"java/lang/String", "length", "()I"⟩ : MethodName)) hown (ow hw 73 rfl) (ow hw 74 rfl) (ow hw 76 rfl) (ow hw 75 rfl) (Or.inl rfl) (by decide) (StrChars.Road.lenW (W := 1) hZ (own_hln hw) (kI := 4) (ow hw 5 rfl) Esx163 Vsx163 Csx163 Asx163 cdx163 bdx163 (O2.ext F167.2) P5 lnx163 (by decide) (by decide)) rfl F168 (g := (mkF m 19 #[r' tk, .val pm, r' b101, r' b149, r' b149, i' 3, i' 124] [(.ref tk), (.int 3)])) rfl (by rw [hml]; rfl) (argsL := []) (rest := [(.int (3 : Int32))]) rfl (lenOf own_pd1 rfl) rfl (by show 2 * 0 + _ ≤ _; exact Nat.le_of_eq rfl) (hb hby own_d11_19) (by decide) (by decide)
  obtain ⟨rfl, rfl, e163⟩ := q163
  have N163 := Fr.app N150 (Fr.nil n0)
  refine go _ _ (st163) ?_
  show G (T163.setTop (mkF m 22 #[r' tk, .val pm, r' b101, r' b149, r' b149, i' 3, i' 124] [(.int 5), (.int 3)]))
  refine go _ _ (fun _ k => XS.icmpNo X163.here hx rfl (hb hby own_d11_22) rfl (by decide) k) ?_
  show G (T163.setTop (mkF m 25 #[r' tk, .val pm, r' b101, r' b149, r' b149, i' 3, i' 124] []))
  refine go _ _ (fun _ k => XS.aloadN X163.here hx rfl (hb hby own_d11_25) rfl rfl (XS.iload X163.here hx rfl (hb hby own_d11_26) rfl k)) ?_
  obtain ⟨tx169, kbx169, Esx169, Vsx169, Csx169, Asx169, cdx169, bdx169, lnx169⟩ := own_Str_W F165
  obtain ⟨rv169, T169, L169, X169, q169, st169⟩ := own_vi X163 hx hZ (Q := fun v h L => v = some (.int ((([ca, cb, (124 : Int32), cc, cd] : List Int32)).getD 3 0)) ∧ L = [] ∧ h = T150.heap) (kc := 0) (ks := 0) (y := (⟨"java/lang/String", "charAt", "(I)C"⟩ : MethodName)) (z := (⟨"java/lang/String", "charAt", "(I)C"⟩ : MethodName)) hown (ow hw 83 rfl) (ow hw 84 rfl) (ow hw 86 rfl) (ow hw 85 rfl) (Or.inl rfl) (by decide) (StrChars.Road.chN (W := 0) hZ (own_hch hw) (kI := 4) (ow hw 5 rfl) Esx169 Vsx169 Csx169 Asx169 cdx169 bdx169 (O2.ext F167.2) P5 (O4.ext F167.2) R4 lnx169 (i := 3) (Nat.le_of_ble_eq_true rfl) (j := (3 : Int32)) (by decide) (by decide) (by decide)) e163 F168 (g := (mkF m 28 #[r' tk, .val pm, r' b101, r' b149, r' b149, i' 3, i' 124] [(.int 3), (.ref tk)])) rfl (by rw [hml]; rfl) (argsL := [(.int (3 : Int32))]) (rest := []) rfl (lenOf own_pd14 rfl) rfl (by show 2 * 0 + _ ≤ _; exact Nat.le_of_eq rfl) (hb hby own_d11_28) (by decide) (by decide)
  obtain ⟨rfl, rfl, e169⟩ := q169
  have N169 := Fr.app N163 (Fr.nil n0)
  refine go _ _ (st169) ?_
  show G (T169.setTop (mkF m 31 #[r' tk, .val pm, r' b101, r' b149, r' b149, i' 3, i' 124] [(.int cc)]))
  refine go _ _ (fun _ k => XS.istore X169.here hx rfl (hb hby own_d11_31) rfl (l' := #[r' tk, .val pm, r' b101, r' b149, r' b149, i' 3, i' cc]) rfl k) ?_
  show G (T169.setTop (mkF m 33 #[r' tk, .val pm, r' b101, r' b149, r' b149, i' 3, i' cc] []))
  have J170 : ∀ (T170 : State) (L170 : List Loc) (X170 : Stand p l e ({ frames := 6, cells := 9, slots := 82, locals := 103 } : Room) s m #[(.ref tk), pm] below meth c T170 L170 4 40) (e170 : T170.heap = T150.heap) (N170 : Fr n0 L170) (px170_0 : ¬ cc = (92 : Int32)), G (T170.setTop (mkF m 94 #[r' tk, .val pm, r' b101, r' b149, r' b149, i' 3, i' cc] [])) := by
    intro T170 L170 X170 e170 N170 px170_0
    show G (T170.setTop (mkF m 94 #[r' tk, .val pm, r' b101, r' b149, r' b149, i' 3, i' cc] []))
    refine go _ _ (fun _ k => XS.aload X170.here hx rfl (hb hby own_d11_94) rfl rfl (XS.iload X170.here hx rfl (hb hby own_d11_96) rfl k)) ?_
    have Z172 : h0.size ≤ T150.heap.size := Nat.le_trans Z154 Kp150.1
    obtain ⟨rv171, T171, L171, X171, q171, st171⟩ := own_vi X170 hx hZ (y := (⟨"java/lang/StringBuilder", "append", "(C)Ljava/lang/StringBuilder;"⟩ : MethodName)) (z := (⟨"java/lang/StringBuilder", "append", "(C)Ljava/lang/StringBuilder;"⟩ : MethodName)) hown (ow hw 104 rfl) (ow hw 105 rfl) (ow hw 107 rfl) (ow hw 106 rfl) (Or.inl rfl) (by decide) (own_bkN (W := 0) (rm21 l Z a0 hw z0 O2 P5 fm0 O4 R4 [] b149 cc t_155 kb_156 ([] : List Int32) T150.heap n0 (Nat.le_trans Z0 Z172) F167 f158 f159 f160 f161 f162 bcc1 (Nat.le_of_ble_eq_true rfl) (Nat.le_trans (Nat.le_trans Z0 Z153) (Nat.le_of_eq g149.symm)) (Nat.le_trans (Nat.le_trans Z0 Z154) z157)) hZ (ow hw 108 rfl) (ow hw 57 rfl) (by decide) (by decide)) e170 f158 (g := (mkF m 98 #[r' tk, .val pm, r' b101, r' b149, r' b149, i' 3, i' cc] [(.int cc), (.ref b149)])) rfl (by rw [hml]; rfl) (argsL := [(.int cc)]) (rest := []) rfl (lenOf own_pd15 rfl) rfl (by show 2 * 0 + _ ≤ _; exact Nat.le_of_eq rfl) (hb hby own_d11_98) (by decide) (by decide)
    obtain ⟨Nq171, Kp171, ⟨rfl, f173, f174, f175, f176, f177⟩⟩ := q171
    have N171 := Fr.app N170 Nq171
    refine go _ _ (st171) ?_
    show G (T171.setTop (mkF m 101 #[r' tk, .val pm, r' b101, r' b149, r' b149, i' 3, i' cc] [(.ref b149)]))
    refine go _ _ (fun _ k => XS.pop X171.here hx rfl (hb hby own_d11_101) rfl rfl (XS.iinc X171.here hx rfl (hb hby own_d11_102) rfl (l' := #[r' tk, .val pm, r' b101, r' b149, r' b149, i' 4, i' cc]) rfl k)) ?_
    show G (T171.setTop (mkF m 105 #[r' tk, .val pm, r' b101, r' b149, r' b149, i' 4, i' cc] []))
    refine go _ _ (fun _ k => XS.goto X171.here hx rfl (pc0 := 105) (pc' := 16) rfl (hb hby own_d11_105) (by decide) (by decide) k) ?_
    show G (T171.setTop (mkF m 16 #[r' tk, .val pm, r' b101, r' b149, r' b149, i' 4, i' cc] []))
    refine go _ _ (fun _ k => XS.iload X171.here hx rfl (hb hby own_d11_16) rfl (XS.aloadN X171.here hx rfl (hb hby own_d11_18) rfl rfl k)) ?_
    have Z179 : T135.heap.size ≤ h149.size := E149.1
    have K180 : Keep T135.heap T171.heap [] := K164.trans Kp171 (allS (Or.inr (Nat.le_of_eq g149.symm)) (allS (Or.inr (Nat.le_trans Z179 z157)) all0))
    have F181 : own_Str Z T171.heap tk ([ca, cb, (124 : Int32), cc, cd] : List Int32) := (own_Str_keep F144 K180)
    obtain ⟨tx178, kbx178, Esx178, Vsx178, Csx178, Asx178, cdx178, bdx178, lnx178⟩ := own_Str_W F181
    have K182 : Keep T150.heap T171.heap [b149, t_155] := (Keep.refl T150.heap [b149, t_155]).trans Kp171 (allS (Or.inl (List.mem_of_getElem? (i := 0) rfl)) (allS (Or.inl (List.mem_of_getElem? (i := 1) rfl)) all0))
    have F183 : Old Z n0 T171.heap := (F167.keep K182 (allS (Nat.le_trans (Nat.le_trans Z0 Z153) (Nat.le_of_eq g149.symm)) (allS (Nat.le_trans (Nat.le_trans Z0 Z154) z157) all0)))
    have F184 : Exa Z T171.heap tk "java/lang/String" := (F168.keep K182)
    obtain ⟨rv178, T178, L178, X178, q178, st178⟩ := own_vi X171 hx hZ (Q := fun v h L => v = some (.int (Int32.ofNat (([ca, cb, (124 : Int32), cc, cd] : List Int32)).length)) ∧ L = [] ∧ h = T171.heap) (kc := 0) (ks := 0) (y := (⟨"java/lang/String", "length", "()I"⟩ : MethodName)) (z := (⟨"java/lang/String", "length", "()I"⟩ : MethodName)) hown (ow hw 73 rfl) (ow hw 74 rfl) (ow hw 76 rfl) (ow hw 75 rfl) (Or.inl rfl) (by decide) (StrChars.Road.lenW (W := 1) hZ (own_hln hw) (kI := 4) (ow hw 5 rfl) Esx178 Vsx178 Csx178 Asx178 cdx178 bdx178 (O2.ext F183.2) P5 lnx178 (by decide) (by decide)) rfl F184 (g := (mkF m 19 #[r' tk, .val pm, r' b101, r' b149, r' b149, i' 4, i' cc] [(.ref tk), (.int 4)])) rfl (by rw [hml]; rfl) (argsL := []) (rest := [(.int (4 : Int32))]) rfl (lenOf own_pd1 rfl) rfl (by show 2 * 0 + _ ≤ _; exact Nat.le_of_eq rfl) (hb hby own_d11_19) (by decide) (by decide)
    obtain ⟨rfl, rfl, e178⟩ := q178
    have N178 := Fr.app N171 (Fr.nil n0)
    refine go _ _ (st178) ?_
    show G (T178.setTop (mkF m 22 #[r' tk, .val pm, r' b101, r' b149, r' b149, i' 4, i' cc] [(.int 5), (.int 4)]))
    refine go _ _ (fun _ k => XS.icmpNo X178.here hx rfl (hb hby own_d11_22) rfl (by decide) k) ?_
    show G (T178.setTop (mkF m 25 #[r' tk, .val pm, r' b101, r' b149, r' b149, i' 4, i' cc] []))
    refine go _ _ (fun _ k => XS.aloadN X178.here hx rfl (hb hby own_d11_25) rfl rfl (XS.iload X178.here hx rfl (hb hby own_d11_26) rfl k)) ?_
    obtain ⟨tx185, kbx185, Esx185, Vsx185, Csx185, Asx185, cdx185, bdx185, lnx185⟩ := own_Str_W F181
    obtain ⟨rv185, T185, L185, X185, q185, st185⟩ := own_vi X178 hx hZ (Q := fun v h L => v = some (.int ((([ca, cb, (124 : Int32), cc, cd] : List Int32)).getD 4 0)) ∧ L = [] ∧ h = T171.heap) (kc := 0) (ks := 0) (y := (⟨"java/lang/String", "charAt", "(I)C"⟩ : MethodName)) (z := (⟨"java/lang/String", "charAt", "(I)C"⟩ : MethodName)) hown (ow hw 83 rfl) (ow hw 84 rfl) (ow hw 86 rfl) (ow hw 85 rfl) (Or.inl rfl) (by decide) (StrChars.Road.chN (W := 0) hZ (own_hch hw) (kI := 4) (ow hw 5 rfl) Esx185 Vsx185 Csx185 Asx185 cdx185 bdx185 (O2.ext F183.2) P5 (O4.ext F183.2) R4 lnx185 (i := 4) (Nat.le_of_ble_eq_true rfl) (j := (4 : Int32)) (by decide) (by decide) (by decide)) e178 F184 (g := (mkF m 28 #[r' tk, .val pm, r' b101, r' b149, r' b149, i' 4, i' cc] [(.int 4), (.ref tk)])) rfl (by rw [hml]; rfl) (argsL := [(.int (4 : Int32))]) (rest := []) rfl (lenOf own_pd14 rfl) rfl (by show 2 * 0 + _ ≤ _; exact Nat.le_of_eq rfl) (hb hby own_d11_28) (by decide) (by decide)
    obtain ⟨rfl, rfl, e185⟩ := q185
    have N185 := Fr.app N178 (Fr.nil n0)
    refine go _ _ (st185) ?_
    show G (T185.setTop (mkF m 31 #[r' tk, .val pm, r' b101, r' b149, r' b149, i' 4, i' cc] [(.int cd)]))
    refine go _ _ (fun _ k => XS.istore X185.here hx rfl (hb hby own_d11_31) rfl (l' := #[r' tk, .val pm, r' b101, r' b149, r' b149, i' 4, i' cd]) rfl k) ?_
    show G (T185.setTop (mkF m 33 #[r' tk, .val pm, r' b101, r' b149, r' b149, i' 4, i' cd] []))
    have J186 : ∀ (T186 : State) (L186 : List Loc) (X186 : Stand p l e ({ frames := 6, cells := 9, slots := 82, locals := 103 } : Room) s m #[(.ref tk), pm] below meth c T186 L186 4 40) (e186 : T186.heap = T171.heap) (N186 : Fr n0 L186), G (T186.setTop (mkF m 94 #[r' tk, .val pm, r' b101, r' b149, r' b149, i' 4, i' cd] [])) := by
      intro T186 L186 X186 e186 N186
      show G (T186.setTop (mkF m 94 #[r' tk, .val pm, r' b101, r' b149, r' b149, i' 4, i' cd] []))
      refine go _ _ (fun _ k => XS.aload X186.here hx rfl (hb hby own_d11_94) rfl rfl (XS.iload X186.here hx rfl (hb hby own_d11_96) rfl k)) ?_
      have Z188 : h0.size ≤ T171.heap.size := Nat.le_trans Z172 Kp171.1
      obtain ⟨rv187, T187, L187, X187, q187, st187⟩ := own_vi X186 hx hZ (y := (⟨"java/lang/StringBuilder", "append", "(C)Ljava/lang/StringBuilder;"⟩ : MethodName)) (z := (⟨"java/lang/StringBuilder", "append", "(C)Ljava/lang/StringBuilder;"⟩ : MethodName)) hown (ow hw 104 rfl) (ow hw 105 rfl) (ow hw 107 rfl) (ow hw 106 rfl) (Or.inl rfl) (by decide) (own_bkN (W := 0) (rm21 l Z a0 hw z0 O2 P5 fm0 O4 R4 [] b149 cd t_155 kb_156 (([] : List Int32) ++ [cc]) T171.heap n0 (Nat.le_trans Z0 Z188) F183 f173 f174 f175 f176 f177 bcd1 (Nat.le_of_ble_eq_true rfl) (Nat.le_trans (Nat.le_trans Z0 Z153) (Nat.le_of_eq g149.symm)) (Nat.le_trans (Nat.le_trans Z0 Z154) z157)) hZ (ow hw 108 rfl) (ow hw 57 rfl) (by decide) (by decide)) e186 f173 (g := (mkF m 98 #[r' tk, .val pm, r' b101, r' b149, r' b149, i' 4, i' cd] [(.int cd), (.ref b149)])) rfl (by rw [hml]; rfl) (argsL := [(.int cd)]) (rest := []) rfl (lenOf own_pd15 rfl) rfl (by show 2 * 0 + _ ≤ _; exact Nat.le_of_eq rfl) (hb hby own_d11_98) (by decide) (by decide)
      obtain ⟨Nq187, Kp187, ⟨rfl, f189, f190, f191, f192, f193⟩⟩ := q187
      have N187 := Fr.app N186 Nq187
      refine go _ _ (st187) ?_
      show G (T187.setTop (mkF m 101 #[r' tk, .val pm, r' b101, r' b149, r' b149, i' 4, i' cd] [(.ref b149)]))
      refine go _ _ (fun _ k => XS.pop X187.here hx rfl (hb hby own_d11_101) rfl rfl (XS.iinc X187.here hx rfl (hb hby own_d11_102) rfl (l' := #[r' tk, .val pm, r' b101, r' b149, r' b149, i' 5, i' cd]) rfl k)) ?_
      show G (T187.setTop (mkF m 105 #[r' tk, .val pm, r' b101, r' b149, r' b149, i' 5, i' cd] []))
      refine go _ _ (fun _ k => XS.goto X187.here hx rfl (pc0 := 105) (pc' := 16) rfl (hb hby own_d11_105) (by decide) (by decide) k) ?_
      show G (T187.setTop (mkF m 16 #[r' tk, .val pm, r' b101, r' b149, r' b149, i' 5, i' cd] []))
      refine go _ _ (fun _ k => XS.iload X187.here hx rfl (hb hby own_d11_16) rfl (XS.aloadN X187.here hx rfl (hb hby own_d11_18) rfl rfl k)) ?_
      have K195 : Keep T135.heap T187.heap [] := K180.trans Kp187 (allS (Or.inr (Nat.le_of_eq g149.symm)) (allS (Or.inr (Nat.le_trans Z179 z157)) all0))
      have F196 : own_Str Z T187.heap tk ([ca, cb, (124 : Int32), cc, cd] : List Int32) := (own_Str_keep F144 K195)
      obtain ⟨tx194, kbx194, Esx194, Vsx194, Csx194, Asx194, cdx194, bdx194, lnx194⟩ := own_Str_W F196
      have K197 : Keep T171.heap T187.heap [b149, t_155] := (Keep.refl T171.heap [b149, t_155]).trans Kp187 (allS (Or.inl (List.mem_of_getElem? (i := 0) rfl)) (allS (Or.inl (List.mem_of_getElem? (i := 1) rfl)) all0))
      have F198 : Old Z n0 T187.heap := (F183.keep K197 (allS (Nat.le_trans (Nat.le_trans Z0 Z153) (Nat.le_of_eq g149.symm)) (allS (Nat.le_trans (Nat.le_trans Z0 Z154) z157) all0)))
      have F199 : Exa Z T187.heap tk "java/lang/String" := (F184.keep K197)
      obtain ⟨rv194, T194, L194, X194, q194, st194⟩ := own_vi X187 hx hZ (Q := fun v h L => v = some (.int (Int32.ofNat (([ca, cb, (124 : Int32), cc, cd] : List Int32)).length)) ∧ L = [] ∧ h = T187.heap) (kc := 0) (ks := 0) (y := (⟨"java/lang/String", "length", "()I"⟩ : MethodName)) (z := (⟨"java/lang/String", "length", "()I"⟩ : MethodName)) hown (ow hw 73 rfl) (ow hw 74 rfl) (ow hw 76 rfl) (ow hw 75 rfl) (Or.inl rfl) (by decide) (StrChars.Road.lenW (W := 1) hZ (own_hln hw) (kI := 4) (ow hw 5 rfl) Esx194 Vsx194 Csx194 Asx194 cdx194 bdx194 (O2.ext F198.2) P5 lnx194 (by decide) (by decide)) rfl F199 (g := (mkF m 19 #[r' tk, .val pm, r' b101, r' b149, r' b149, i' 5, i' cd] [(.ref tk), (.int 5)])) rfl (by rw [hml]; rfl) (argsL := []) (rest := [(.int (5 : Int32))]) rfl (lenOf own_pd1 rfl) rfl (by show 2 * 0 + _ ≤ _; exact Nat.le_of_eq rfl) (hb hby own_d11_19) (by decide) (by decide)
      obtain ⟨rfl, rfl, e194⟩ := q194
      have N194 := Fr.app N187 (Fr.nil n0)
      refine go _ _ (st194) ?_
      show G (T194.setTop (mkF m 22 #[r' tk, .val pm, r' b101, r' b149, r' b149, i' 5, i' cd] [(.int 5), (.int 5)]))
      refine go _ _ (fun _ k => XS.icmpYes X194.here hx rfl (pc0 := 22) (pc' := 108) rfl (hb hby own_d11_22) rfl (by decide) (by decide) (by decide) k) ?_
      show G (T194.setTop (mkF m 108 #[r' tk, .val pm, r' b101, r' b149, r' b149, i' 5, i' cd] []))
      refine go _ _ (fun _ k => XS.aloadN X194.here hx rfl (hb hby own_d11_108) rfl rfl k) ?_
      show G (T194.setTop (mkF m 109 #[r' tk, .val pm, r' b101, r' b149, r' b149, i' 5, i' cd] [(.ref b149)]))
      refine go _ _ (fun _ k => XS.ifnullNo X194.here hx rfl (hb hby own_d11_109) rfl k) ?_
      show G (T194.setTop (mkF m 112 #[r' tk, .val pm, r' b101, r' b149, r' b149, i' 5, i' cd] []))
      refine go _ _ (fun _ k => XS.aloadN X194.here hx rfl (hb hby own_d11_112) rfl rfl k) ?_
      have F201 : Exa Z T187.heap b101 "java/lang/StringBuilder" := (f137.keep K195)
      have F202 : Fld Z T187.heap b101 "java/lang/AbstractStringBuilder" "count" "I" (.int (own_n ((([] : List Int32) ++ [ca]) ++ [cb]))) := (f140.keep K195 nin0)
      have Z203 : h0.size ≤ T187.heap.size := Nat.le_trans Z188 Kp187.1
      obtain ⟨rv200, T200, L200, X200, q200, st200⟩ := own_vi X194 hx hZ (y := (⟨"java/lang/StringBuilder", "length", "()I"⟩ : MethodName)) (z := (⟨"java/lang/StringBuilder", "length", "()I"⟩ : MethodName)) hown (ow hw 127 rfl) (ow hw 128 rfl) (ow hw 130 rfl) (ow hw 129 rfl) (Or.inl rfl) (by decide) (own_bkN (W := 0) (rm25 l Z a0 hw z0 O2 P5 fm0 O4 R4 [] b101 (own_n ((([] : List Int32) ++ [ca]) ++ [cb])) T187.heap n0 (Nat.le_trans Z0 Z203) F201 F202) hZ (ow hw 131 rfl) (ow hw 57 rfl) (by decide) (by decide)) e194 F201 (g := (mkF m 113 #[r' tk, .val pm, r' b101, r' b149, r' b149, i' 5, i' cd] [(.ref b101)])) rfl (by rw [hml]; rfl) (argsL := []) (rest := []) rfl (lenOf own_pd1 rfl) rfl (by show 2 * 0 + _ ≤ _; exact Nat.le_of_eq rfl) (hb hby own_d11_113) (by decide) (by decide)
      obtain ⟨Nq200, e200, rfl⟩ := q200
      have N200 := Fr.app N194 Nq200
      refine go _ _ (st200) ?_
      show G (T200.setTop (mkF m 116 #[r' tk, .val pm, r' b101, r' b149, r' b149, i' 5, i' cd] [(.int (own_n ((([] : List Int32) ++ [ca]) ++ [cb])))]))
      rw [(show own_n ((([] : List Int32) ++ [ca]) ++ [cb]) = (2 : Int32) from rfl)]
      show G (T200.setTop (mkF m 116 #[r' tk, .val pm, r' b101, r' b149, r' b149, i' 5, i' cd] [(.int 2)]))
      refine go _ _ (fun _ k => XS.ifNo X200.here hx rfl (hb hby own_d11_116) rfl (by decide) k) ?_
      show G (T200.setTop (mkF m 119 #[r' tk, .val pm, r' b101, r' b149, r' b149, i' 5, i' cd] []))
      refine go _ _ (fun _ k => XS.aloadN X200.here hx rfl (hb hby own_d11_119) rfl rfl k) ?_
      obtain ⟨rv204, T204, L204, X204, q204, st204⟩ := own_vi X200 hx hZ (y := (⟨"java/lang/StringBuilder", "length", "()I"⟩ : MethodName)) (z := (⟨"java/lang/StringBuilder", "length", "()I"⟩ : MethodName)) hown (ow hw 127 rfl) (ow hw 128 rfl) (ow hw 130 rfl) (ow hw 129 rfl) (Or.inl rfl) (by decide) (own_bkN (W := 0) (rm25 l Z a0 hw z0 O2 P5 fm0 O4 R4 [] b149 (own_n ((([] : List Int32) ++ [cc]) ++ [cd])) T187.heap n0 (Nat.le_trans Z0 Z203) f189 f192) hZ (ow hw 131 rfl) (ow hw 57 rfl) (by decide) (by decide)) e200 f189 (g := (mkF m 120 #[r' tk, .val pm, r' b101, r' b149, r' b149, i' 5, i' cd] [(.ref b149)])) rfl (by rw [hml]; rfl) (argsL := []) (rest := []) rfl (lenOf own_pd1 rfl) rfl (by show 2 * 0 + _ ≤ _; exact Nat.le_of_eq rfl) (hb hby own_d11_120) (by decide) (by decide)
      obtain ⟨Nq204, e204, rfl⟩ := q204
      have N204 := Fr.app N200 Nq204
      refine go _ _ (st204) ?_
      show G (T204.setTop (mkF m 123 #[r' tk, .val pm, r' b101, r' b149, r' b149, i' 5, i' cd] [(.int (own_n ((([] : List Int32) ++ [cc]) ++ [cd])))]))
      rw [(show own_n ((([] : List Int32) ++ [cc]) ++ [cd]) = (2 : Int32) from rfl)]
      show G (T204.setTop (mkF m 123 #[r' tk, .val pm, r' b101, r' b149, r' b149, i' 5, i' cd] [(.int 2)]))
      refine go _ _ (fun _ k => XS.ifYes X204.here hx rfl (pc0 := 123) (pc' := 146) rfl (hb hby own_d11_123) rfl (by decide) (by decide) (by decide) k) ?_
      obtain ⟨T205, h205, X205, e205, E205, A205, D205, -, st205⟩ := newO X204 hx hZ hown (ow hw 136 rfl) (ow hw 137 rfl) (ow hw 53 rfl) e204 (g := (mkF m 146 #[r' tk, .val pm, r' b101, r' b149, r' b149, i' 5, i' cd] [])) rfl (hb hby own_d11_146) (by decide) (by decide)
      obtain ⟨b205, g205⟩ : ∃ z, z = T187.heap.size := ⟨_, rfl⟩
      rw [← g205] at A205 D205 st205
      refine go _ _ (st205) ?_
      show G (T205.setTop (mkF m 149 #[r' tk, .val pm, r' b101, r' b149, r' b149, i' 5, i' cd] [(.ref b205)]))
      refine go _ _ (fun _ k => XS.dup X205.here hx rfl (hb hby own_d11_149) rfl rfl (XS.aloadN X205.here hx rfl (hb hby own_d11_150) rfl rfl k)) ?_
      have K207 : Keep T187.heap h205 [] := (Keep.refl T187.heap []).ext E205
      have F208 : Old Z n0 h205 := (F198.keep K207 all0)
      have F209 : Exa Z h205 b101 "java/lang/StringBuilder" := (F201.keep K207)
      have K210 : Keep T135.heap h205 [] := K195.ext E205
      have F211 : Fld Z h205 b101 "java/lang/AbstractStringBuilder" "value" "[B" (.ref t_106) := (f138.keep K210 nin0)
      have F212 : Fld Z h205 b101 "java/lang/AbstractStringBuilder" "coder" "B" (.int (0 : Int32)) := (f139.keep K210 nin0)
      have F213 : Fld Z h205 b101 "java/lang/AbstractStringBuilder" "count" "I" (.int (own_n ((([] : List Int32) ++ [ca]) ++ [cb]))) := (F202.keep K207 nin0)
      have F214 : Arv Z h205 t_106 kb_107 .byte (16 : Int32) (own_bs ((([] : List Int32) ++ [ca]) ++ [cb])) (.int (0 : Int32)) := (f141.keep K210 nin0)
      have Z215 : h0.size ≤ h205.size := Nat.le_trans Z203 E205.1
      obtain ⟨rv206, T206, L206, X206, q206, st206⟩ := own_vi X205 hx hZ (y := (⟨"java/lang/StringBuilder", "toString", "()Ljava/lang/String;"⟩ : MethodName)) (z := (⟨"java/lang/StringBuilder", "toString", "()Ljava/lang/String;"⟩ : MethodName)) hown (ow hw 138 rfl) (ow hw 139 rfl) (ow hw 141 rfl) (ow hw 140 rfl) (Or.inl rfl) (by decide) (own_bkN (W := 2) (rm27 l Z a0 hw z0 O2 P5 fm0 O4 R4 [] b101 t_106 kb_107 ((([] : List Int32) ++ [ca]) ++ [cb]) h205 n0 (Nat.le_trans Z0 Z215) F208 F209 F211 F212 F213 F214 (Nat.le_of_ble_eq_true rfl) (own_bdc (own_bdc own_bd0 ⟨bca0, bca1⟩) ⟨bcb0, bcb1⟩)) hZ (ow hw 142 rfl) (ow hw 57 rfl) (by decide) (by decide)) e205 F209 (g := (mkF m 151 #[r' tk, .val pm, r' b101, r' b149, r' b149, i' 5, i' cd] [(.ref b101), (.ref b205), (.ref b205)])) rfl (by rw [hml]; rfl) (argsL := []) (rest := [(.ref b205), (.ref b205)]) rfl (lenOf own_pd16 rfl) rfl (by show 2 * 0 + _ ≤ _; exact Nat.le_of_eq rfl) (hb hby own_d11_151) (by decide) (by decide)
      obtain ⟨Nq206, Kp206, ⟨b_216, rfl, z217, f218, f219⟩⟩ := q206
      have N206 := Fr.app N204 Nq206
      refine go _ _ (st206) ?_
      show G (T206.setTop (mkF m 154 #[r' tk, .val pm, r' b101, r' b149, r' b149, i' 5, i' cd] [(.ref b_216), (.ref b205), (.ref b205)]))
      refine go _ _ (fun _ k => XS.aloadN X206.here hx rfl (hb hby own_d11_154) rfl rfl k) ?_
      have K221 : Keep h205 T206.heap [] := (Keep.refl h205 []).trans Kp206 all0
      have F222 : Old Z n0 T206.heap := (F208.keep K221 all0)
      have K223 : Keep T187.heap T206.heap [] := K207.trans Kp206 all0
      have F224 : Exa Z T206.heap b149 "java/lang/StringBuilder" := (f189.keep K223)
      have F225 : Fld Z T206.heap b149 "java/lang/AbstractStringBuilder" "value" "[B" (.ref t_155) := (f190.keep K223 nin0)
      have F226 : Fld Z T206.heap b149 "java/lang/AbstractStringBuilder" "coder" "B" (.int (0 : Int32)) := (f191.keep K223 nin0)
      have F227 : Fld Z T206.heap b149 "java/lang/AbstractStringBuilder" "count" "I" (.int (own_n ((([] : List Int32) ++ [cc]) ++ [cd]))) := (f192.keep K223 nin0)
      have F228 : Arv Z T206.heap t_155 kb_156 .byte (16 : Int32) (own_bs ((([] : List Int32) ++ [cc]) ++ [cd])) (.int (0 : Int32)) := (f193.keep K223 nin0)
      have Z229 : h0.size ≤ T206.heap.size := Nat.le_trans Z215 Kp206.1
      obtain ⟨rv220, T220, L220, X220, q220, st220⟩ := own_vi X206 hx hZ (y := (⟨"java/lang/StringBuilder", "toString", "()Ljava/lang/String;"⟩ : MethodName)) (z := (⟨"java/lang/StringBuilder", "toString", "()Ljava/lang/String;"⟩ : MethodName)) hown (ow hw 138 rfl) (ow hw 139 rfl) (ow hw 141 rfl) (ow hw 140 rfl) (Or.inl rfl) (by decide) (own_bkN (W := 3) (rm27 l Z a0 hw z0 O2 P5 fm0 O4 R4 [] b149 t_155 kb_156 ((([] : List Int32) ++ [cc]) ++ [cd]) T206.heap n0 (Nat.le_trans Z0 Z229) F222 F224 F225 F226 F227 F228 (Nat.le_of_ble_eq_true rfl) (own_bdc (own_bdc own_bd0 ⟨bcc0, bcc1⟩) ⟨bcd0, bcd1⟩)) hZ (ow hw 142 rfl) (ow hw 57 rfl) (by decide) (by decide)) rfl F224 (g := (mkF m 155 #[r' tk, .val pm, r' b101, r' b149, r' b149, i' 5, i' cd] [(.ref b149), (.ref b_216), (.ref b205), (.ref b205)])) rfl (by rw [hml]; rfl) (argsL := []) (rest := [(.ref b_216), (.ref b205), (.ref b205)]) rfl (lenOf own_pd16 rfl) rfl (by show 2 * 0 + _ ≤ _; exact Nat.le_of_eq rfl) (hb hby own_d11_155) (by decide) (by decide)
      obtain ⟨Nq220, Kp220, ⟨b_230, rfl, z231, f232, f233⟩⟩ := q220
      have N220 := Fr.app N206 Nq220
      refine go _ _ (st220) ?_
      have K235 : Keep h205 T220.heap [] := K221.trans Kp220 all0
      have F236 : Exa Z T220.heap b205 "com/example/kindred/kindred/Identifier" := (A205.keep K235)
      have F237 : Fld Z T220.heap b205 "com/example/kindred/kindred/Identifier" "system" "Ljava/lang/String;" .null := ((D205 (Or.inr (ow hw 186 rfl)) (ty := (.object "java/lang/String")) (by decide)).keep K235 nin0)
      have F238 : Fld Z T220.heap b205 "com/example/kindred/kindred/Identifier" "value" "Ljava/lang/String;" .null := ((D205 (Or.inr (ow hw 188 rfl)) (ty := (.object "java/lang/String")) (by decide)).keep K235 nin0)
      have Z239 : h0.size ≤ T220.heap.size := Nat.le_trans Z229 Kp220.1
      obtain ⟨rv234, T234, L234, X234, q234, st234⟩ := own_sp X220 hx hZ (y := (⟨"com/example/kindred/kindred/Identifier", "<init>", "(Ljava/lang/String;Ljava/lang/String;)V"⟩ : MethodName)) rfl hown (ow hw 176 rfl) (ow hw 177 rfl) (ow hw 178 rfl) (by decide) (own_bkN (W := 1) (rm35 l Z a0 hw z0 O2 P5 fm0 O4 R4 [] b205 b_216 b_230 T220.heap n0 (Nat.le_trans Z0 Z239) F236 F237 F238 (Nat.le_trans (Nat.le_trans Z0 Z203) (Nat.le_of_eq g205.symm))) hZ (ow hw 178 rfl) (ow hw 53 rfl) (by decide) (by decide)) rfl (g := (mkF m 158 #[r' tk, .val pm, r' b101, r' b149, r' b149, i' 5, i' cd] [(.ref b_230), (.ref b_216), (.ref b205), (.ref b205)])) rfl (by rw [hml]; rfl) (a := b205) (argsL := [(.ref b_216), (.ref b_230)]) (rest := [(.ref b205)]) rfl (lenOf own_pd17 rfl) rfl (by show 2 * 0 + _ ≤ _; exact Nat.le_of_eq rfl) (hb hby own_d11_158) (by decide) (by decide)
      obtain ⟨Nq234, Kp234, ⟨rfl, f240, f241, f242⟩⟩ := q234
      have N234 := Fr.app N220 Nq234
      refine go _ _ (st234) ?_
      show G (T234.setTop (mkF m 161 #[r' tk, .val pm, r' b101, r' b149, r' b149, i' 5, i' cd] [(.ref b205)]))
      have K243 : Keep h0 h149 [] := K143.ext E149
      have K244 : Keep h0 T150.heap [] := K243.trans Kp150 (allS (Or.inr (Nat.le_trans Z153 (Nat.le_of_eq g149.symm))) all0)
      have K245 : Keep h0 T171.heap [] := K244.trans Kp171 (allS (Or.inr (Nat.le_trans Z153 (Nat.le_of_eq g149.symm))) (allS (Or.inr (Nat.le_trans Z154 z157)) all0))
      have K246 : Keep h0 T187.heap [] := K245.trans Kp187 (allS (Or.inr (Nat.le_trans Z153 (Nat.le_of_eq g149.symm))) (allS (Or.inr (Nat.le_trans Z154 z157)) all0))
      have K247 : Keep h0 h205 [] := K246.ext E205
      have K248 : Keep h0 T206.heap [] := K247.trans Kp206 all0
      have K249 : Keep h0 T220.heap [] := K248.trans Kp220 all0
      have K250 : Keep h0 T234.heap [] := K249.trans Kp234 (allS (Or.inr (Nat.le_trans Z203 (Nat.le_of_eq g205.symm))) all0)
      have K251 : Keep T206.heap T220.heap [b205] := (Keep.refl T206.heap [b205]).trans Kp220 all0
      have K252 : Keep T206.heap T234.heap [b205] := K251.trans Kp234 (allS (Or.inl (List.mem_of_getElem? (i := 0) rfl)) all0)
      have F253 : Exa Z T234.heap b_216 "java/lang/String" := (f218.keep K252)
      have F254 : Exa Z T206.heap b205 "com/example/kindred/kindred/Identifier" := (A205.keep K221)
      have F255 : own_Str Z T234.heap b_216 ((([] : List Int32) ++ [ca]) ++ [cb]) := (own_Str_keep1 f219 K252 F254 (by decide) (ow hw 137 rfl))
      have K256 : Keep T220.heap T234.heap [b205] := (Keep.refl T220.heap [b205]).trans Kp234 (allS (Or.inl (List.mem_of_getElem? (i := 0) rfl)) all0)
      have F257 : Exa Z T234.heap b_230 "java/lang/String" := (f232.keep K256)
      have F258 : own_Str Z T234.heap b_230 ((([] : List Int32) ++ [cc]) ++ [cd]) := (own_Str_keep1 f233 K256 F236 (by decide) (ow hw 137 rfl))
      refine fin T234 _ _ _ (some (.ref b205)) X234 (fun q => nomatch q) (by decide) (by decide) ⟨N234, K250, (Or.inr ⟨b205, b_216, b_230, rfl, px170_0, f240, f241, f242, F253, F255, F257, F258⟩)⟩ _ (own_retA X234 hx hret rfl rfl rfl (hb hby own_d11_161))
    refine go _ _ (fun _ k => XS.iload X185.here hx rfl (hb hby own_d11_33) rfl (XS.bipush X185.here hx rfl (hb hby own_d11_35) k)) ?_
    show G (T185.setTop (mkF m 37 #[r' tk, .val pm, r' b101, r' b149, r' b149, i' 4, i' cd] [(.int 92), (.int cd)]))
    by_cases hc37_259 : cd = (92 : Int32)
    · refine go _ _ (fun _ k => XS.icmpNo X185.here hx rfl (hb hby own_d11_37) rfl (teq hc37_259).2 k) ?_
      show G (T185.setTop (mkF m 40 #[r' tk, .val pm, r' b101, r' b149, r' b149, i' 4, i' cd] []))
      refine go _ _ (fun _ k => XS.iload X185.here hx rfl (hb hby own_d11_40) rfl (XS.iconst X185.here hx rfl (hb hby own_d11_42) (XS.iadd X185.here hx rfl (hb hby own_d11_43) rfl (XS.aloadN X185.here hx rfl (hb hby own_d11_44) rfl rfl k)))) ?_
      obtain ⟨tx260, kbx260, Esx260, Vsx260, Csx260, Asx260, cdx260, bdx260, lnx260⟩ := own_Str_W F181
      obtain ⟨rv260, T260, L260, X260, q260, st260⟩ := own_vi X185 hx hZ (Q := fun v h L => v = some (.int (Int32.ofNat (([ca, cb, (124 : Int32), cc, cd] : List Int32)).length)) ∧ L = [] ∧ h = T171.heap) (kc := 0) (ks := 0) (y := (⟨"java/lang/String", "length", "()I"⟩ : MethodName)) (z := (⟨"java/lang/String", "length", "()I"⟩ : MethodName)) hown (ow hw 73 rfl) (ow hw 74 rfl) (ow hw 76 rfl) (ow hw 75 rfl) (Or.inl rfl) (by decide) (StrChars.Road.lenW (W := 1) hZ (own_hln hw) (kI := 4) (ow hw 5 rfl) Esx260 Vsx260 Csx260 Asx260 cdx260 bdx260 (O2.ext F183.2) P5 lnx260 (by decide) (by decide)) e185 F184 (g := (mkF m 45 #[r' tk, .val pm, r' b101, r' b149, r' b149, i' 4, i' cd] [(.ref tk), (.int 5)])) rfl (by rw [hml]; rfl) (argsL := []) (rest := [(.int (5 : Int32))]) rfl (lenOf own_pd1 rfl) rfl (by show 2 * 0 + _ ≤ _; exact Nat.le_of_eq rfl) (hb hby own_d11_45) (by decide) (by decide)
      obtain ⟨rfl, rfl, e260⟩ := q260
      have N260 := Fr.app N185 (Fr.nil n0)
      refine go _ _ (st260) ?_
      show G (T260.setTop (mkF m 48 #[r' tk, .val pm, r' b101, r' b149, r' b149, i' 4, i' cd] [(.int 5), (.int 5)]))
      refine go _ _ (fun _ k => XS.icmpYes X260.here hx rfl (pc0 := 48) (pc' := 69) rfl (hb hby own_d11_48) rfl (by decide) (by decide) (by decide) k) ?_
      show G (T260.setTop (mkF m 69 #[r' tk, .val pm, r' b101, r' b149, r' b149, i' 4, i' cd] []))
      refine go _ _ (fun _ k => XS.iload X260.here hx rfl (hb hby own_d11_69) rfl (XS.bipush X260.here hx rfl (hb hby own_d11_71) k)) ?_
      show G (T260.setTop (mkF m 73 #[r' tk, .val pm, r' b101, r' b149, r' b149, i' 4, i' cd] [(.int 124), (.int cd)]))
      by_cases hc73_261 : cd = (124 : Int32)
      · refine go _ _ (fun _ k => XS.icmpNo X260.here hx rfl (hb hby own_d11_73) rfl (teq hc73_261).2 k) ?_
        show G (T260.setTop (mkF m 76 #[r' tk, .val pm, r' b101, r' b149, r' b149, i' 4, i' cd] []))
        refine go _ _ (fun _ k => XS.aloadN X260.here hx rfl (hb hby own_d11_76) rfl rfl k) ?_
        show G (T260.setTop (mkF m 77 #[r' tk, .val pm, r' b101, r' b149, r' b149, i' 4, i' cd] [(.ref b149)]))
        refine go _ _ (fun _ k => XS.ifnonnullYes X260.here hx rfl (pc0 := 77) (pc' := 94) rfl (hb hby own_d11_77) rfl (by decide) (by decide) k) ?_
        show G (T260.setTop (mkF m 94 #[r' tk, .val pm, r' b101, r' b149, r' b149, i' 4, i' cd] []))
        exact J186 _ _ (X260.more (by decide) (by decide)) e260 N260 
      · refine go _ _ (fun _ k => XS.icmpYes X260.here hx rfl (pc0 := 73) (pc' := 94) rfl (hb hby own_d11_73) rfl (feq hc73_261).2 (by decide) (by decide) k) ?_
        show G (T260.setTop (mkF m 94 #[r' tk, .val pm, r' b101, r' b149, r' b149, i' 4, i' cd] []))
        exact J186 _ _ (X260.more (by decide) (by decide)) e260 N260 
    · refine go _ _ (fun _ k => XS.icmpYes X185.here hx rfl (pc0 := 37) (pc' := 69) rfl (hb hby own_d11_37) rfl (feq hc37_259).2 (by decide) (by decide) k) ?_
      show G (T185.setTop (mkF m 69 #[r' tk, .val pm, r' b101, r' b149, r' b149, i' 4, i' cd] []))
      refine go _ _ (fun _ k => XS.iload X185.here hx rfl (hb hby own_d11_69) rfl (XS.bipush X185.here hx rfl (hb hby own_d11_71) k)) ?_
      show G (T185.setTop (mkF m 73 #[r' tk, .val pm, r' b101, r' b149, r' b149, i' 4, i' cd] [(.int 124), (.int cd)]))
      by_cases hc73_262 : cd = (124 : Int32)
      · refine go _ _ (fun _ k => XS.icmpNo X185.here hx rfl (hb hby own_d11_73) rfl (teq hc73_262).2 k) ?_
        show G (T185.setTop (mkF m 76 #[r' tk, .val pm, r' b101, r' b149, r' b149, i' 4, i' cd] []))
        refine go _ _ (fun _ k => XS.aloadN X185.here hx rfl (hb hby own_d11_76) rfl rfl k) ?_
        show G (T185.setTop (mkF m 77 #[r' tk, .val pm, r' b101, r' b149, r' b149, i' 4, i' cd] [(.ref b149)]))
        refine go _ _ (fun _ k => XS.ifnonnullYes X185.here hx rfl (pc0 := 77) (pc' := 94) rfl (hb hby own_d11_77) rfl (by decide) (by decide) k) ?_
        show G (T185.setTop (mkF m 94 #[r' tk, .val pm, r' b101, r' b149, r' b149, i' 4, i' cd] []))
        exact J186 _ _ (X185.more (by decide) (by decide)) e185 N185 
      · refine go _ _ (fun _ k => XS.icmpYes X185.here hx rfl (pc0 := 73) (pc' := 94) rfl (hb hby own_d11_73) rfl (feq hc73_262).2 (by decide) (by decide) k) ?_
        show G (T185.setTop (mkF m 94 #[r' tk, .val pm, r' b101, r' b149, r' b149, i' 4, i' cd] []))
        exact J186 _ _ (X185.more (by decide) (by decide)) e185 N185 
  refine go _ _ (fun _ k => XS.iload X169.here hx rfl (hb hby own_d11_33) rfl (XS.bipush X169.here hx rfl (hb hby own_d11_35) k)) ?_
  show G (T169.setTop (mkF m 37 #[r' tk, .val pm, r' b101, r' b149, r' b149, i' 3, i' cc] [(.int 92), (.int cc)]))
  by_cases hc37_263 : cc = (92 : Int32)
  · refine go _ _ (fun _ k => XS.icmpNo X169.here hx rfl (hb hby own_d11_37) rfl (teq hc37_263).2 k) ?_
    show G (T169.setTop (mkF m 40 #[r' tk, .val pm, r' b101, r' b149, r' b149, i' 3, i' cc] []))
    refine go _ _ (fun _ k => XS.iload X169.here hx rfl (hb hby own_d11_40) rfl (XS.iconst X169.here hx rfl (hb hby own_d11_42) (XS.iadd X169.here hx rfl (hb hby own_d11_43) rfl (XS.aloadN X169.here hx rfl (hb hby own_d11_44) rfl rfl k)))) ?_
    obtain ⟨tx264, kbx264, Esx264, Vsx264, Csx264, Asx264, cdx264, bdx264, lnx264⟩ := own_Str_W F165
    obtain ⟨rv264, T264, L264, X264, q264, st264⟩ := own_vi X169 hx hZ (Q := fun v h L => v = some (.int (Int32.ofNat (([ca, cb, (124 : Int32), cc, cd] : List Int32)).length)) ∧ L = [] ∧ h = T150.heap) (kc := 0) (ks := 0) (y := (⟨"java/lang/String", "length", "()I"⟩ : MethodName)) (z := (⟨"java/lang/String", "length", "()I"⟩ : MethodName)) hown (ow hw 73 rfl) (ow hw 74 rfl) (ow hw 76 rfl) (ow hw 75 rfl) (Or.inl rfl) (by decide) (StrChars.Road.lenW (W := 1) hZ (own_hln hw) (kI := 4) (ow hw 5 rfl) Esx264 Vsx264 Csx264 Asx264 cdx264 bdx264 (O2.ext F167.2) P5 lnx264 (by decide) (by decide)) e169 F168 (g := (mkF m 45 #[r' tk, .val pm, r' b101, r' b149, r' b149, i' 3, i' cc] [(.ref tk), (.int 4)])) rfl (by rw [hml]; rfl) (argsL := []) (rest := [(.int (4 : Int32))]) rfl (lenOf own_pd1 rfl) rfl (by show 2 * 0 + _ ≤ _; exact Nat.le_of_eq rfl) (hb hby own_d11_45) (by decide) (by decide)
    obtain ⟨rfl, rfl, e264⟩ := q264
    have N264 := Fr.app N169 (Fr.nil n0)
    refine go _ _ (st264) ?_
    show G (T264.setTop (mkF m 48 #[r' tk, .val pm, r' b101, r' b149, r' b149, i' 3, i' cc] [(.int 5), (.int 4)]))
    refine go _ _ (fun _ k => XS.icmpNo X264.here hx rfl (hb hby own_d11_48) rfl (by decide) k) ?_
    show G (T264.setTop (mkF m 51 #[r' tk, .val pm, r' b101, r' b149, r' b149, i' 3, i' cc] []))
    refine go _ _ (fun _ k => XS.iinc X264.here hx rfl (hb hby own_d11_51) rfl (l' := #[r' tk, .val pm, r' b101, r' b149, r' b149, i' 4, i' cc]) rfl (XS.aload X264.here hx rfl (hb hby own_d11_54) rfl rfl (XS.aloadN X264.here hx rfl (hb hby own_d11_56) rfl rfl (XS.iload X264.here hx rfl (hb hby own_d11_57) rfl k)))) ?_
    obtain ⟨tx265, kbx265, Esx265, Vsx265, Csx265, Asx265, cdx265, bdx265, lnx265⟩ := own_Str_W F165
    obtain ⟨rv265, T265, L265, X265, q265, st265⟩ := own_vi X264 hx hZ (Q := fun v h L => v = some (.int ((([ca, cb, (124 : Int32), cc, cd] : List Int32)).getD 4 0)) ∧ L = [] ∧ h = T150.heap) (kc := 0) (ks := 0) (y := (⟨"java/lang/String", "charAt", "(I)C"⟩ : MethodName)) (z := (⟨"java/lang/String", "charAt", "(I)C"⟩ : MethodName)) hown (ow hw 83 rfl) (ow hw 84 rfl) (ow hw 86 rfl) (ow hw 85 rfl) (Or.inl rfl) (by decide) (StrChars.Road.chN (W := 1) hZ (own_hch hw) (kI := 4) (ow hw 5 rfl) Esx265 Vsx265 Csx265 Asx265 cdx265 bdx265 (O2.ext F167.2) P5 (O4.ext F167.2) R4 lnx265 (i := 4) (Nat.le_of_ble_eq_true rfl) (j := (4 : Int32)) (by decide) (by decide) (by decide)) e264 F168 (g := (mkF m 59 #[r' tk, .val pm, r' b101, r' b149, r' b149, i' 4, i' cc] [(.int 4), (.ref tk), (.ref b149)])) rfl (by rw [hml]; rfl) (argsL := [(.int (4 : Int32))]) (rest := [(.ref b149)]) rfl (lenOf own_pd14 rfl) rfl (by show 2 * 0 + _ ≤ _; exact Nat.le_of_eq rfl) (hb hby own_d11_59) (by decide) (by decide)
    obtain ⟨rfl, rfl, e265⟩ := q265
    have N265 := Fr.app N264 (Fr.nil n0)
    refine go _ _ (st265) ?_
    have Z267 : h0.size ≤ T150.heap.size := Nat.le_trans Z154 Kp150.1
    obtain ⟨rv266, T266, L266, X266, q266, st266⟩ := own_vi X265 hx hZ (y := (⟨"java/lang/StringBuilder", "append", "(C)Ljava/lang/StringBuilder;"⟩ : MethodName)) (z := (⟨"java/lang/StringBuilder", "append", "(C)Ljava/lang/StringBuilder;"⟩ : MethodName)) hown (ow hw 104 rfl) (ow hw 105 rfl) (ow hw 107 rfl) (ow hw 106 rfl) (Or.inl rfl) (by decide) (own_bkN (W := 0) (rm21 l Z a0 hw z0 O2 P5 fm0 O4 R4 [] b149 cd t_155 kb_156 ([] : List Int32) T150.heap n0 (Nat.le_trans Z0 Z267) F167 f158 f159 f160 f161 f162 bcd1 (Nat.le_of_ble_eq_true rfl) (Nat.le_trans (Nat.le_trans Z0 Z153) (Nat.le_of_eq g149.symm)) (Nat.le_trans (Nat.le_trans Z0 Z154) z157)) hZ (ow hw 108 rfl) (ow hw 57 rfl) (by decide) (by decide)) e265 f158 (g := (mkF m 62 #[r' tk, .val pm, r' b101, r' b149, r' b149, i' 4, i' cc] [(.int cd), (.ref b149)])) rfl (by rw [hml]; rfl) (argsL := [(.int cd)]) (rest := []) rfl (lenOf own_pd15 rfl) rfl (by show 2 * 0 + _ ≤ _; exact Nat.le_of_eq rfl) (hb hby own_d11_62) (by decide) (by decide)
    obtain ⟨Nq266, Kp266, ⟨rfl, f268, f269, f270, f271, f272⟩⟩ := q266
    have N266 := Fr.app N265 Nq266
    refine go _ _ (st266) ?_
    show G (T266.setTop (mkF m 65 #[r' tk, .val pm, r' b101, r' b149, r' b149, i' 4, i' cc] [(.ref b149)]))
    refine go _ _ (fun _ k => XS.pop X266.here hx rfl (hb hby own_d11_65) rfl rfl k) ?_
    show G (T266.setTop (mkF m 66 #[r' tk, .val pm, r' b101, r' b149, r' b149, i' 4, i' cc] []))
    refine go _ _ (fun _ k => XS.goto X266.here hx rfl (pc0 := 66) (pc' := 102) rfl (hb hby own_d11_66) (by decide) (by decide) k) ?_
    show G (T266.setTop (mkF m 102 #[r' tk, .val pm, r' b101, r' b149, r' b149, i' 4, i' cc] []))
    refine go _ _ (fun _ k => XS.iinc X266.here hx rfl (hb hby own_d11_102) rfl (l' := #[r' tk, .val pm, r' b101, r' b149, r' b149, i' 5, i' cc]) rfl k) ?_
    show G (T266.setTop (mkF m 105 #[r' tk, .val pm, r' b101, r' b149, r' b149, i' 5, i' cc] []))
    refine go _ _ (fun _ k => XS.goto X266.here hx rfl (pc0 := 105) (pc' := 16) rfl (hb hby own_d11_105) (by decide) (by decide) k) ?_
    show G (T266.setTop (mkF m 16 #[r' tk, .val pm, r' b101, r' b149, r' b149, i' 5, i' cc] []))
    refine go _ _ (fun _ k => XS.iload X266.here hx rfl (hb hby own_d11_16) rfl (XS.aloadN X266.here hx rfl (hb hby own_d11_18) rfl rfl k)) ?_
    have Z274 : T135.heap.size ≤ h149.size := E149.1
    have K275 : Keep T135.heap T266.heap [] := K164.trans Kp266 (allS (Or.inr (Nat.le_of_eq g149.symm)) (allS (Or.inr (Nat.le_trans Z274 z157)) all0))
    have F276 : own_Str Z T266.heap tk ([ca, cb, (124 : Int32), cc, cd] : List Int32) := (own_Str_keep F144 K275)
    obtain ⟨tx273, kbx273, Esx273, Vsx273, Csx273, Asx273, cdx273, bdx273, lnx273⟩ := own_Str_W F276
    have K277 : Keep T150.heap T266.heap [b149, t_155] := (Keep.refl T150.heap [b149, t_155]).trans Kp266 (allS (Or.inl (List.mem_of_getElem? (i := 0) rfl)) (allS (Or.inl (List.mem_of_getElem? (i := 1) rfl)) all0))
    have F278 : Old Z n0 T266.heap := (F167.keep K277 (allS (Nat.le_trans (Nat.le_trans Z0 Z153) (Nat.le_of_eq g149.symm)) (allS (Nat.le_trans (Nat.le_trans Z0 Z154) z157) all0)))
    have F279 : Exa Z T266.heap tk "java/lang/String" := (F168.keep K277)
    obtain ⟨rv273, T273, L273, X273, q273, st273⟩ := own_vi X266 hx hZ (Q := fun v h L => v = some (.int (Int32.ofNat (([ca, cb, (124 : Int32), cc, cd] : List Int32)).length)) ∧ L = [] ∧ h = T266.heap) (kc := 0) (ks := 0) (y := (⟨"java/lang/String", "length", "()I"⟩ : MethodName)) (z := (⟨"java/lang/String", "length", "()I"⟩ : MethodName)) hown (ow hw 73 rfl) (ow hw 74 rfl) (ow hw 76 rfl) (ow hw 75 rfl) (Or.inl rfl) (by decide) (StrChars.Road.lenW (W := 1) hZ (own_hln hw) (kI := 4) (ow hw 5 rfl) Esx273 Vsx273 Csx273 Asx273 cdx273 bdx273 (O2.ext F278.2) P5 lnx273 (by decide) (by decide)) rfl F279 (g := (mkF m 19 #[r' tk, .val pm, r' b101, r' b149, r' b149, i' 5, i' cc] [(.ref tk), (.int 5)])) rfl (by rw [hml]; rfl) (argsL := []) (rest := [(.int (5 : Int32))]) rfl (lenOf own_pd1 rfl) rfl (by show 2 * 0 + _ ≤ _; exact Nat.le_of_eq rfl) (hb hby own_d11_19) (by decide) (by decide)
    obtain ⟨rfl, rfl, e273⟩ := q273
    have N273 := Fr.app N266 (Fr.nil n0)
    refine go _ _ (st273) ?_
    show G (T273.setTop (mkF m 22 #[r' tk, .val pm, r' b101, r' b149, r' b149, i' 5, i' cc] [(.int 5), (.int 5)]))
    refine go _ _ (fun _ k => XS.icmpYes X273.here hx rfl (pc0 := 22) (pc' := 108) rfl (hb hby own_d11_22) rfl (by decide) (by decide) (by decide) k) ?_
    show G (T273.setTop (mkF m 108 #[r' tk, .val pm, r' b101, r' b149, r' b149, i' 5, i' cc] []))
    refine go _ _ (fun _ k => XS.aloadN X273.here hx rfl (hb hby own_d11_108) rfl rfl k) ?_
    show G (T273.setTop (mkF m 109 #[r' tk, .val pm, r' b101, r' b149, r' b149, i' 5, i' cc] [(.ref b149)]))
    refine go _ _ (fun _ k => XS.ifnullNo X273.here hx rfl (hb hby own_d11_109) rfl k) ?_
    show G (T273.setTop (mkF m 112 #[r' tk, .val pm, r' b101, r' b149, r' b149, i' 5, i' cc] []))
    refine go _ _ (fun _ k => XS.aloadN X273.here hx rfl (hb hby own_d11_112) rfl rfl k) ?_
    have F281 : Exa Z T266.heap b101 "java/lang/StringBuilder" := (f137.keep K275)
    have F282 : Fld Z T266.heap b101 "java/lang/AbstractStringBuilder" "count" "I" (.int (own_n ((([] : List Int32) ++ [ca]) ++ [cb]))) := (f140.keep K275 nin0)
    have Z283 : h0.size ≤ T266.heap.size := Nat.le_trans Z267 Kp266.1
    obtain ⟨rv280, T280, L280, X280, q280, st280⟩ := own_vi X273 hx hZ (y := (⟨"java/lang/StringBuilder", "length", "()I"⟩ : MethodName)) (z := (⟨"java/lang/StringBuilder", "length", "()I"⟩ : MethodName)) hown (ow hw 127 rfl) (ow hw 128 rfl) (ow hw 130 rfl) (ow hw 129 rfl) (Or.inl rfl) (by decide) (own_bkN (W := 0) (rm25 l Z a0 hw z0 O2 P5 fm0 O4 R4 [] b101 (own_n ((([] : List Int32) ++ [ca]) ++ [cb])) T266.heap n0 (Nat.le_trans Z0 Z283) F281 F282) hZ (ow hw 131 rfl) (ow hw 57 rfl) (by decide) (by decide)) e273 F281 (g := (mkF m 113 #[r' tk, .val pm, r' b101, r' b149, r' b149, i' 5, i' cc] [(.ref b101)])) rfl (by rw [hml]; rfl) (argsL := []) (rest := []) rfl (lenOf own_pd1 rfl) rfl (by show 2 * 0 + _ ≤ _; exact Nat.le_of_eq rfl) (hb hby own_d11_113) (by decide) (by decide)
    obtain ⟨Nq280, e280, rfl⟩ := q280
    have N280 := Fr.app N273 Nq280
    refine go _ _ (st280) ?_
    show G (T280.setTop (mkF m 116 #[r' tk, .val pm, r' b101, r' b149, r' b149, i' 5, i' cc] [(.int (own_n ((([] : List Int32) ++ [ca]) ++ [cb])))]))
    rw [(show own_n ((([] : List Int32) ++ [ca]) ++ [cb]) = (2 : Int32) from rfl)]
    show G (T280.setTop (mkF m 116 #[r' tk, .val pm, r' b101, r' b149, r' b149, i' 5, i' cc] [(.int 2)]))
    refine go _ _ (fun _ k => XS.ifNo X280.here hx rfl (hb hby own_d11_116) rfl (by decide) k) ?_
    show G (T280.setTop (mkF m 119 #[r' tk, .val pm, r' b101, r' b149, r' b149, i' 5, i' cc] []))
    refine go _ _ (fun _ k => XS.aloadN X280.here hx rfl (hb hby own_d11_119) rfl rfl k) ?_
    obtain ⟨rv284, T284, L284, X284, q284, st284⟩ := own_vi X280 hx hZ (y := (⟨"java/lang/StringBuilder", "length", "()I"⟩ : MethodName)) (z := (⟨"java/lang/StringBuilder", "length", "()I"⟩ : MethodName)) hown (ow hw 127 rfl) (ow hw 128 rfl) (ow hw 130 rfl) (ow hw 129 rfl) (Or.inl rfl) (by decide) (own_bkN (W := 0) (rm25 l Z a0 hw z0 O2 P5 fm0 O4 R4 [] b149 (own_n (([] : List Int32) ++ [cd])) T266.heap n0 (Nat.le_trans Z0 Z283) f268 f271) hZ (ow hw 131 rfl) (ow hw 57 rfl) (by decide) (by decide)) e280 f268 (g := (mkF m 120 #[r' tk, .val pm, r' b101, r' b149, r' b149, i' 5, i' cc] [(.ref b149)])) rfl (by rw [hml]; rfl) (argsL := []) (rest := []) rfl (lenOf own_pd1 rfl) rfl (by show 2 * 0 + _ ≤ _; exact Nat.le_of_eq rfl) (hb hby own_d11_120) (by decide) (by decide)
    obtain ⟨Nq284, e284, rfl⟩ := q284
    have N284 := Fr.app N280 Nq284
    refine go _ _ (st284) ?_
    show G (T284.setTop (mkF m 123 #[r' tk, .val pm, r' b101, r' b149, r' b149, i' 5, i' cc] [(.int (own_n (([] : List Int32) ++ [cd])))]))
    rw [(show own_n (([] : List Int32) ++ [cd]) = (1 : Int32) from rfl)]
    show G (T284.setTop (mkF m 123 #[r' tk, .val pm, r' b101, r' b149, r' b149, i' 5, i' cc] [(.int 1)]))
    refine go _ _ (fun _ k => XS.ifYes X284.here hx rfl (pc0 := 123) (pc' := 146) rfl (hb hby own_d11_123) rfl (by decide) (by decide) (by decide) k) ?_
    obtain ⟨T285, h285, X285, e285, E285, A285, D285, -, st285⟩ := newO X284 hx hZ hown (ow hw 136 rfl) (ow hw 137 rfl) (ow hw 53 rfl) e284 (g := (mkF m 146 #[r' tk, .val pm, r' b101, r' b149, r' b149, i' 5, i' cc] [])) rfl (hb hby own_d11_146) (by decide) (by decide)
    obtain ⟨b285, g285⟩ : ∃ z, z = T266.heap.size := ⟨_, rfl⟩
    rw [← g285] at A285 D285 st285
    refine go _ _ (st285) ?_
    show G (T285.setTop (mkF m 149 #[r' tk, .val pm, r' b101, r' b149, r' b149, i' 5, i' cc] [(.ref b285)]))
    refine go _ _ (fun _ k => XS.dup X285.here hx rfl (hb hby own_d11_149) rfl rfl (XS.aloadN X285.here hx rfl (hb hby own_d11_150) rfl rfl k)) ?_
    have K287 : Keep T266.heap h285 [] := (Keep.refl T266.heap []).ext E285
    have F288 : Old Z n0 h285 := (F278.keep K287 all0)
    have F289 : Exa Z h285 b101 "java/lang/StringBuilder" := (F281.keep K287)
    have K290 : Keep T135.heap h285 [] := K275.ext E285
    have F291 : Fld Z h285 b101 "java/lang/AbstractStringBuilder" "value" "[B" (.ref t_106) := (f138.keep K290 nin0)
    have F292 : Fld Z h285 b101 "java/lang/AbstractStringBuilder" "coder" "B" (.int (0 : Int32)) := (f139.keep K290 nin0)
    have F293 : Fld Z h285 b101 "java/lang/AbstractStringBuilder" "count" "I" (.int (own_n ((([] : List Int32) ++ [ca]) ++ [cb]))) := (F282.keep K287 nin0)
    have F294 : Arv Z h285 t_106 kb_107 .byte (16 : Int32) (own_bs ((([] : List Int32) ++ [ca]) ++ [cb])) (.int (0 : Int32)) := (f141.keep K290 nin0)
    have Z295 : h0.size ≤ h285.size := Nat.le_trans Z283 E285.1
    obtain ⟨rv286, T286, L286, X286, q286, st286⟩ := own_vi X285 hx hZ (y := (⟨"java/lang/StringBuilder", "toString", "()Ljava/lang/String;"⟩ : MethodName)) (z := (⟨"java/lang/StringBuilder", "toString", "()Ljava/lang/String;"⟩ : MethodName)) hown (ow hw 138 rfl) (ow hw 139 rfl) (ow hw 141 rfl) (ow hw 140 rfl) (Or.inl rfl) (by decide) (own_bkN (W := 2) (rm27 l Z a0 hw z0 O2 P5 fm0 O4 R4 [] b101 t_106 kb_107 ((([] : List Int32) ++ [ca]) ++ [cb]) h285 n0 (Nat.le_trans Z0 Z295) F288 F289 F291 F292 F293 F294 (Nat.le_of_ble_eq_true rfl) (own_bdc (own_bdc own_bd0 ⟨bca0, bca1⟩) ⟨bcb0, bcb1⟩)) hZ (ow hw 142 rfl) (ow hw 57 rfl) (by decide) (by decide)) e285 F289 (g := (mkF m 151 #[r' tk, .val pm, r' b101, r' b149, r' b149, i' 5, i' cc] [(.ref b101), (.ref b285), (.ref b285)])) rfl (by rw [hml]; rfl) (argsL := []) (rest := [(.ref b285), (.ref b285)]) rfl (lenOf own_pd16 rfl) rfl (by show 2 * 0 + _ ≤ _; exact Nat.le_of_eq rfl) (hb hby own_d11_151) (by decide) (by decide)
    obtain ⟨Nq286, Kp286, ⟨b_296, rfl, z297, f298, f299⟩⟩ := q286
    have N286 := Fr.app N284 Nq286
    refine go _ _ (st286) ?_
    show G (T286.setTop (mkF m 154 #[r' tk, .val pm, r' b101, r' b149, r' b149, i' 5, i' cc] [(.ref b_296), (.ref b285), (.ref b285)]))
    refine go _ _ (fun _ k => XS.aloadN X286.here hx rfl (hb hby own_d11_154) rfl rfl k) ?_
    have K301 : Keep h285 T286.heap [] := (Keep.refl h285 []).trans Kp286 all0
    have F302 : Old Z n0 T286.heap := (F288.keep K301 all0)
    have K303 : Keep T266.heap T286.heap [] := K287.trans Kp286 all0
    have F304 : Exa Z T286.heap b149 "java/lang/StringBuilder" := (f268.keep K303)
    have F305 : Fld Z T286.heap b149 "java/lang/AbstractStringBuilder" "value" "[B" (.ref t_155) := (f269.keep K303 nin0)
    have F306 : Fld Z T286.heap b149 "java/lang/AbstractStringBuilder" "coder" "B" (.int (0 : Int32)) := (f270.keep K303 nin0)
    have F307 : Fld Z T286.heap b149 "java/lang/AbstractStringBuilder" "count" "I" (.int (own_n (([] : List Int32) ++ [cd]))) := (f271.keep K303 nin0)
    have F308 : Arv Z T286.heap t_155 kb_156 .byte (16 : Int32) (own_bs (([] : List Int32) ++ [cd])) (.int (0 : Int32)) := (f272.keep K303 nin0)
    have Z309 : h0.size ≤ T286.heap.size := Nat.le_trans Z295 Kp286.1
    obtain ⟨rv300, T300, L300, X300, q300, st300⟩ := own_vi X286 hx hZ (y := (⟨"java/lang/StringBuilder", "toString", "()Ljava/lang/String;"⟩ : MethodName)) (z := (⟨"java/lang/StringBuilder", "toString", "()Ljava/lang/String;"⟩ : MethodName)) hown (ow hw 138 rfl) (ow hw 139 rfl) (ow hw 141 rfl) (ow hw 140 rfl) (Or.inl rfl) (by decide) (own_bkN (W := 3) (rm27 l Z a0 hw z0 O2 P5 fm0 O4 R4 [] b149 t_155 kb_156 (([] : List Int32) ++ [cd]) T286.heap n0 (Nat.le_trans Z0 Z309) F302 F304 F305 F306 F307 F308 (Nat.le_of_ble_eq_true rfl) (own_bdc own_bd0 ⟨bcd0, bcd1⟩)) hZ (ow hw 142 rfl) (ow hw 57 rfl) (by decide) (by decide)) rfl F304 (g := (mkF m 155 #[r' tk, .val pm, r' b101, r' b149, r' b149, i' 5, i' cc] [(.ref b149), (.ref b_296), (.ref b285), (.ref b285)])) rfl (by rw [hml]; rfl) (argsL := []) (rest := [(.ref b_296), (.ref b285), (.ref b285)]) rfl (lenOf own_pd16 rfl) rfl (by show 2 * 0 + _ ≤ _; exact Nat.le_of_eq rfl) (hb hby own_d11_155) (by decide) (by decide)
    obtain ⟨Nq300, Kp300, ⟨b_310, rfl, z311, f312, f313⟩⟩ := q300
    have N300 := Fr.app N286 Nq300
    refine go _ _ (st300) ?_
    have K315 : Keep h285 T300.heap [] := K301.trans Kp300 all0
    have F316 : Exa Z T300.heap b285 "com/example/kindred/kindred/Identifier" := (A285.keep K315)
    have F317 : Fld Z T300.heap b285 "com/example/kindred/kindred/Identifier" "system" "Ljava/lang/String;" .null := ((D285 (Or.inr (ow hw 186 rfl)) (ty := (.object "java/lang/String")) (by decide)).keep K315 nin0)
    have F318 : Fld Z T300.heap b285 "com/example/kindred/kindred/Identifier" "value" "Ljava/lang/String;" .null := ((D285 (Or.inr (ow hw 188 rfl)) (ty := (.object "java/lang/String")) (by decide)).keep K315 nin0)
    have Z319 : h0.size ≤ T300.heap.size := Nat.le_trans Z309 Kp300.1
    obtain ⟨rv314, T314, L314, X314, q314, st314⟩ := own_sp X300 hx hZ (y := (⟨"com/example/kindred/kindred/Identifier", "<init>", "(Ljava/lang/String;Ljava/lang/String;)V"⟩ : MethodName)) rfl hown (ow hw 176 rfl) (ow hw 177 rfl) (ow hw 178 rfl) (by decide) (own_bkN (W := 1) (rm35 l Z a0 hw z0 O2 P5 fm0 O4 R4 [] b285 b_296 b_310 T300.heap n0 (Nat.le_trans Z0 Z319) F316 F317 F318 (Nat.le_trans (Nat.le_trans Z0 Z283) (Nat.le_of_eq g285.symm))) hZ (ow hw 178 rfl) (ow hw 53 rfl) (by decide) (by decide)) rfl (g := (mkF m 158 #[r' tk, .val pm, r' b101, r' b149, r' b149, i' 5, i' cc] [(.ref b_310), (.ref b_296), (.ref b285), (.ref b285)])) rfl (by rw [hml]; rfl) (a := b285) (argsL := [(.ref b_296), (.ref b_310)]) (rest := [(.ref b285)]) rfl (lenOf own_pd17 rfl) rfl (by show 2 * 0 + _ ≤ _; exact Nat.le_of_eq rfl) (hb hby own_d11_158) (by decide) (by decide)
    obtain ⟨Nq314, Kp314, ⟨rfl, f320, f321, f322⟩⟩ := q314
    have N314 := Fr.app N300 Nq314
    refine go _ _ (st314) ?_
    show G (T314.setTop (mkF m 161 #[r' tk, .val pm, r' b101, r' b149, r' b149, i' 5, i' cc] [(.ref b285)]))
    have K323 : Keep h0 h149 [] := K143.ext E149
    have K324 : Keep h0 T150.heap [] := K323.trans Kp150 (allS (Or.inr (Nat.le_trans Z153 (Nat.le_of_eq g149.symm))) all0)
    have K325 : Keep h0 T266.heap [] := K324.trans Kp266 (allS (Or.inr (Nat.le_trans Z153 (Nat.le_of_eq g149.symm))) (allS (Or.inr (Nat.le_trans Z154 z157)) all0))
    have K326 : Keep h0 h285 [] := K325.ext E285
    have K327 : Keep h0 T286.heap [] := K326.trans Kp286 all0
    have K328 : Keep h0 T300.heap [] := K327.trans Kp300 all0
    have K329 : Keep h0 T314.heap [] := K328.trans Kp314 (allS (Or.inr (Nat.le_trans Z283 (Nat.le_of_eq g285.symm))) all0)
    have K330 : Keep T286.heap T300.heap [b285] := (Keep.refl T286.heap [b285]).trans Kp300 all0
    have K331 : Keep T286.heap T314.heap [b285] := K330.trans Kp314 (allS (Or.inl (List.mem_of_getElem? (i := 0) rfl)) all0)
    have F332 : Exa Z T314.heap b_296 "java/lang/String" := (f298.keep K331)
    have F333 : Exa Z T286.heap b285 "com/example/kindred/kindred/Identifier" := (A285.keep K301)
    have F334 : own_Str Z T314.heap b_296 ((([] : List Int32) ++ [ca]) ++ [cb]) := (own_Str_keep1 f299 K331 F333 (by decide) (ow hw 137 rfl))
    have K335 : Keep T300.heap T314.heap [b285] := (Keep.refl T300.heap [b285]).trans Kp314 (allS (Or.inl (List.mem_of_getElem? (i := 0) rfl)) all0)
    have F336 : Exa Z T314.heap b_310 "java/lang/String" := (f312.keep K335)
    have F337 : own_Str Z T314.heap b_310 (([] : List Int32) ++ [cd]) := (own_Str_keep1 f313 K335 F316 (by decide) (ow hw 137 rfl))
    refine fin T314 _ _ _ (some (.ref b285)) X314 (fun q => nomatch q) (by decide) (by decide) ⟨N314, K329, (Or.inl ⟨b285, b_296, b_310, rfl, hc37_263, f320, f321, f322, F332, F334, F336, F337⟩)⟩ _ (own_retA X314 hx hret rfl rfl rfl (hb hby own_d11_161))
  · refine go _ _ (fun _ k => XS.icmpYes X169.here hx rfl (pc0 := 37) (pc' := 69) rfl (hb hby own_d11_37) rfl (feq hc37_263).2 (by decide) (by decide) k) ?_
    show G (T169.setTop (mkF m 69 #[r' tk, .val pm, r' b101, r' b149, r' b149, i' 3, i' cc] []))
    refine go _ _ (fun _ k => XS.iload X169.here hx rfl (hb hby own_d11_69) rfl (XS.bipush X169.here hx rfl (hb hby own_d11_71) k)) ?_
    show G (T169.setTop (mkF m 73 #[r' tk, .val pm, r' b101, r' b149, r' b149, i' 3, i' cc] [(.int 124), (.int cc)]))
    by_cases hc73_338 : cc = (124 : Int32)
    · refine go _ _ (fun _ k => XS.icmpNo X169.here hx rfl (hb hby own_d11_73) rfl (teq hc73_338).2 k) ?_
      show G (T169.setTop (mkF m 76 #[r' tk, .val pm, r' b101, r' b149, r' b149, i' 3, i' cc] []))
      refine go _ _ (fun _ k => XS.aloadN X169.here hx rfl (hb hby own_d11_76) rfl rfl k) ?_
      show G (T169.setTop (mkF m 77 #[r' tk, .val pm, r' b101, r' b149, r' b149, i' 3, i' cc] [(.ref b149)]))
      refine go _ _ (fun _ k => XS.ifnonnullYes X169.here hx rfl (pc0 := 77) (pc' := 94) rfl (hb hby own_d11_77) rfl (by decide) (by decide) k) ?_
      show G (T169.setTop (mkF m 94 #[r' tk, .val pm, r' b101, r' b149, r' b149, i' 3, i' cc] []))
      exact J170 _ _ (X169.more (by decide) (by decide)) e169 N169 hc37_263
    · refine go _ _ (fun _ k => XS.icmpYes X169.here hx rfl (pc0 := 73) (pc' := 94) rfl (hb hby own_d11_73) rfl (feq hc73_338).2 (by decide) (by decide) k) ?_
      show G (T169.setTop (mkF m 94 #[r' tk, .val pm, r' b101, r' b149, r' b149, i' 3, i' cc] []))
      exact J170 _ _ (X169.more (by decide) (by decide)) e169 N169 hc37_263
set_option maxHeartbeats 4000000 in
theorem own_ef_rmT2 (m : MethodId) (x0 : Addr) (x1 : Value) (q1 : x1.isRef = true) : entryFrame m #[(.ref x0), x1] 7 = mkF m 0 #[.val (.ref x0), .val x1, .unset, .unset, .unset, .unset, .unset] [] := by simp [entryFrame, mkF, argsToLocals, own_catR, own_catI, own_catN, own_catJ, own_cat q1]
set_option maxRecDepth 65536 in
set_option maxHeartbeats 40000000 in
theorem rmT2 (l : Launch) (Z : State) (a0 : Array Value) (hw : ∀ d ∈ tables_1, d.before a0 Z = true) (z0 : Int32) (O2 : Sta Z Z.heap "java/lang/String" "COMPACT_STRINGS" "Z" (.int z0)) (P5 : ¬ z0 = (0 : Int32)) (fm0 : Value) (O4 : Sta Z Z.heap "jdk/internal/util/Preconditions" "SIOOBE_FORMATTER" "Ljava/util/function/BiFunction;" fm0) (R4 : fm0.isRef = true) (ws : List Jvm.Cond) (tk : Addr) (pm : Value) (ca : Int32) (cc : Int32) (h0 : Heap) (n0 : Nat) (Z0 : n0 ≤ h0.size) (rpm : pm.isRef = true) (Xo : Old Z n0 h0) (Et : Exa Z h0 tk "java/lang/String") (St : own_Str Z h0 tk ([ca, (124 : Int32), cc] : List Int32)) (bca0 : ¬ ca < (0 : Int32)) (bca1 : ¬ (255 : Int32) < ca) (bcc0 : ¬ cc < (0 : Int32)) (bcc1 : ¬ (255 : Int32) < cc) (nca0 : ¬ ca = (92 : Int32)) (nca1 : ¬ ca = (124 : Int32)) :
    own_MetN l Z (⟨"com/example/kindred/kindred/Identifier", "ofToken", "(Ljava/lang/String;Ljava/lang/String;)Lcom/example/kindred/kindred/Identifier;"⟩ : MethodName) prog_12_method_3_code 7 (some (.object "com/example/kindred/kindred/Identifier")) ws ({ frames := 6, cells := 9, slots := 82, locals := 103 } : Room) #[(.ref tk), pm] h0 (fun v h L => Fr n0 L ∧ Keep h0 h [] ∧ ((∃ (b : Addr) (s1 : Addr) (s2 : Addr), (v = some (.ref b)) ∧ (Exa Z h b "com/example/kindred/kindred/Identifier") ∧ (Fld Z h b "com/example/kindred/kindred/Identifier" "system" "Ljava/lang/String;" (.ref s1)) ∧ (Fld Z h b "com/example/kindred/kindred/Identifier" "value" "Ljava/lang/String;" (.ref s2)) ∧ (Exa Z h s1 "java/lang/String") ∧ (own_Str Z h s1 (([] : List Int32) ++ [ca])) ∧ (Exa Z h s2 "java/lang/String") ∧ (own_Str Z h s2 (([] : List Int32) ++ [cc]))))) := by
  refine own_metN (plainFor_of_name own_pn7) ?_
  intro p e s m below meth c s₁ G hx hby hml hZ hown hnm hret X0 e0 go fin
  have N0 := Fr.nil n0
  refine go _ _ (fun _ k => castTop (own_ef_rmT2 m tk pm rpm) k) ?_
  obtain ⟨T101, h101, X101, e101, E101, A101, D101, -, st101⟩ := newO X0 hx hZ hown (ow hw 55 rfl) (ow hw 56 rfl) (ow hw 57 rfl) e0 (g := (mkF m 0 #[r' tk, .val pm, u', u', u', u', u'] [])) rfl (hb hby own_d11_0) (by decide) (by decide)
  obtain ⟨b101, g101⟩ : ∃ z, z = h0.size := ⟨_, rfl⟩
  rw [← g101] at A101 D101 st101
  refine go _ _ (st101) ?_
  show G (T101.setTop (mkF m 3 #[r' tk, .val pm, u', u', u', u', u'] [(.ref b101)]))
  refine go _ _ (fun _ k => XS.dup X101.here hx rfl (hb hby own_d11_3) rfl rfl k) ?_
  have K103 : Keep h0 h101 [] := (Keep.refl h0 []).ext E101
  have F104 : Old Z n0 h101 := (Xo.keep K103 all0)
  have Z105 : h0.size ≤ h101.size := E101.1
  obtain ⟨rv102, T102, L102, X102, q102, st102⟩ := own_sp X101 hx hZ (y := (⟨"java/lang/StringBuilder", "<init>", "()V"⟩ : MethodName)) rfl hown (ow hw 58 rfl) (ow hw 59 rfl) (ow hw 60 rfl) (by decide) (own_bkN (W := 1) (rm12 l Z a0 hw z0 O2 P5 fm0 O4 R4 [] b101 h101 n0 (Nat.le_trans Z0 Z105) F104 A101 (D101 (Or.inl (ow hw 70 rfl)) (ty := (.array .byte)) (by decide)) (D101 (Or.inl (ow hw 72 rfl)) (ty := .byte) (by decide)) (D101 (Or.inl (ow hw 115 rfl)) (ty := .int) (by decide)) (Nat.le_trans Z0 (Nat.le_of_eq g101.symm))) hZ (ow hw 60 rfl) (ow hw 57 rfl) (by decide) (by decide)) e101 (g := (mkF m 4 #[r' tk, .val pm, u', u', u', u', u'] [(.ref b101), (.ref b101)])) rfl (by rw [hml]; rfl) (a := b101) (argsL := []) (rest := [(.ref b101)]) rfl (lenOf own_pd13 rfl) rfl (by show 2 * 0 + _ ≤ _; exact Nat.le_of_eq rfl) (hb hby own_d11_4) (by decide) (by decide)
  obtain ⟨Nq102, Kp102, ⟨t_106, kb_107, rfl, z108, f109, f110, f111, f112, f113⟩⟩ := q102
  have N102 := Fr.app N0 Nq102
  refine go _ _ (st102) ?_
  show G (T102.setTop (mkF m 7 #[r' tk, .val pm, u', u', u', u', u'] [(.ref b101)]))
  refine go _ _ (fun _ k => XS.astoreN X102.here hx rfl (hb hby own_d11_7) rfl rfl (l' := #[r' tk, .val pm, r' b101, u', u', u', u']) rfl (XS.aconstNull X102.here hx rfl (hb hby own_d11_8) (XS.astoreN X102.here hx rfl (hb hby own_d11_9) rfl rfl (l' := #[r' tk, .val pm, r' b101, .val .null, u', u', u']) rfl (XS.aloadN X102.here hx rfl (hb hby own_d11_10) rfl rfl (XS.astore X102.here hx rfl (hb hby own_d11_11) rfl rfl (l' := #[r' tk, .val pm, r' b101, .val .null, r' b101, u', u']) rfl (XS.iconst X102.here hx rfl (hb hby own_d11_13) k)))))) ?_
  show G (T102.setTop (mkF m 14 #[r' tk, .val pm, r' b101, .val .null, r' b101, u', u'] [(.int 0)]))
  refine go _ _ (fun _ k => XS.istore X102.here hx rfl (hb hby own_d11_14) rfl (l' := #[r' tk, .val pm, r' b101, .val .null, r' b101, i' 0, u']) rfl (XS.iload X102.here hx rfl (hb hby own_d11_16) rfl (XS.aloadN X102.here hx rfl (hb hby own_d11_18) rfl rfl k))) ?_
  have K115 : Keep h0 T102.heap [] := K103.trans Kp102 (allS (Or.inr (Nat.le_of_eq g101.symm)) all0)
  have F116 : own_Str Z T102.heap tk ([ca, (124 : Int32), cc] : List Int32) := (own_Str_keep St K115)
  obtain ⟨tx114, kbx114, Esx114, Vsx114, Csx114, Asx114, cdx114, bdx114, lnx114⟩ := own_Str_W F116
  have K117 : Keep h101 T102.heap [b101] := (Keep.refl h101 [b101]).trans Kp102 (allS (Or.inl (List.mem_of_getElem? (i := 0) rfl)) all0)
  have F118 : Old Z n0 T102.heap := (F104.keep K117 (allS (Nat.le_trans Z0 (Nat.le_of_eq g101.symm)) all0))
  have F119 : Exa Z T102.heap tk "java/lang/String" := (Et.keep K115)
  obtain ⟨rv114, T114, L114, X114, q114, st114⟩ := own_vi X102 hx hZ (Q := fun v h L => v = some (.int (Int32.ofNat (([ca, (124 : Int32), cc] : List Int32)).length)) ∧ L = [] ∧ h = T102.heap) (kc := 0) (ks := 0) (y := (⟨"java/lang/String", "length", "()I"⟩ : MethodName)) (z := (⟨"java/lang/String", "length", "()I"⟩ : MethodName)) hown (ow hw 73 rfl) (ow hw 74 rfl) (ow hw 76 rfl) (ow hw 75 rfl) (Or.inl rfl) (by decide) (StrChars.Road.lenW (W := 1) hZ (own_hln hw) (kI := 4) (ow hw 5 rfl) Esx114 Vsx114 Csx114 Asx114 cdx114 bdx114 (O2.ext F118.2) P5 lnx114 (by decide) (by decide)) rfl F119 (g := (mkF m 19 #[r' tk, .val pm, r' b101, .val .null, r' b101, i' 0, u'] [(.ref tk), (.int 0)])) rfl (by rw [hml]; rfl) (argsL := []) (rest := [(.int (0 : Int32))]) rfl (lenOf own_pd1 rfl) rfl (by show 2 * 0 + _ ≤ _; exact Nat.le_of_eq rfl) (hb hby own_d11_19) (by decide) (by decide)
  obtain ⟨rfl, rfl, e114⟩ := q114
  have N114 := Fr.app N102 (Fr.nil n0)
  refine go _ _ (st114) ?_
  show G (T114.setTop (mkF m 22 #[r' tk, .val pm, r' b101, .val .null, r' b101, i' 0, u'] [(.int 3), (.int 0)]))
  refine go _ _ (fun _ k => XS.icmpNo X114.here hx rfl (hb hby own_d11_22) rfl (by decide) k) ?_
  show G (T114.setTop (mkF m 25 #[r' tk, .val pm, r' b101, .val .null, r' b101, i' 0, u'] []))
  refine go _ _ (fun _ k => XS.aloadN X114.here hx rfl (hb hby own_d11_25) rfl rfl (XS.iload X114.here hx rfl (hb hby own_d11_26) rfl k)) ?_
  obtain ⟨tx120, kbx120, Esx120, Vsx120, Csx120, Asx120, cdx120, bdx120, lnx120⟩ := own_Str_W F116
  obtain ⟨rv120, T120, L120, X120, q120, st120⟩ := own_vi X114 hx hZ (Q := fun v h L => v = some (.int ((([ca, (124 : Int32), cc] : List Int32)).getD 0 0)) ∧ L = [] ∧ h = T102.heap) (kc := 0) (ks := 0) (y := (⟨"java/lang/String", "charAt", "(I)C"⟩ : MethodName)) (z := (⟨"java/lang/String", "charAt", "(I)C"⟩ : MethodName)) hown (ow hw 83 rfl) (ow hw 84 rfl) (ow hw 86 rfl) (ow hw 85 rfl) (Or.inl rfl) (by decide) (StrChars.Road.chN (W := 0) hZ (own_hch hw) (kI := 4) (ow hw 5 rfl) Esx120 Vsx120 Csx120 Asx120 cdx120 bdx120 (O2.ext F118.2) P5 (O4.ext F118.2) R4 lnx120 (i := 0) (Nat.le_of_ble_eq_true rfl) (j := (0 : Int32)) (by decide) (by decide) (by decide)) e114 F119 (g := (mkF m 28 #[r' tk, .val pm, r' b101, .val .null, r' b101, i' 0, u'] [(.int 0), (.ref tk)])) rfl (by rw [hml]; rfl) (argsL := [(.int (0 : Int32))]) (rest := []) rfl (lenOf own_pd14 rfl) rfl (by show 2 * 0 + _ ≤ _; exact Nat.le_of_eq rfl) (hb hby own_d11_28) (by decide) (by decide)
  obtain ⟨rfl, rfl, e120⟩ := q120
  have N120 := Fr.app N114 (Fr.nil n0)
  refine go _ _ (st120) ?_
  show G (T120.setTop (mkF m 31 #[r' tk, .val pm, r' b101, .val .null, r' b101, i' 0, u'] [(.int ca)]))
  refine go _ _ (fun _ k => XS.istore X120.here hx rfl (hb hby own_d11_31) rfl (l' := #[r' tk, .val pm, r' b101, .val .null, r' b101, i' 0, i' ca]) rfl (XS.iload X120.here hx rfl (hb hby own_d11_33) rfl (XS.bipush X120.here hx rfl (hb hby own_d11_35) k))) ?_
  show G (T120.setTop (mkF m 37 #[r' tk, .val pm, r' b101, .val .null, r' b101, i' 0, i' ca] [(.int 92), (.int ca)]))
  refine go _ _ (fun _ k => XS.icmpYes X120.here hx rfl (pc0 := 37) (pc' := 69) rfl (hb hby own_d11_37) rfl (feq nca0).2 (by decide) (by decide) k) ?_
  show G (T120.setTop (mkF m 69 #[r' tk, .val pm, r' b101, .val .null, r' b101, i' 0, i' ca] []))
  refine go _ _ (fun _ k => XS.iload X120.here hx rfl (hb hby own_d11_69) rfl (XS.bipush X120.here hx rfl (hb hby own_d11_71) k)) ?_
  show G (T120.setTop (mkF m 73 #[r' tk, .val pm, r' b101, .val .null, r' b101, i' 0, i' ca] [(.int 124), (.int ca)]))
  refine go _ _ (fun _ k => XS.icmpYes X120.here hx rfl (pc0 := 73) (pc' := 94) rfl (hb hby own_d11_73) rfl (feq nca1).2 (by decide) (by decide) k) ?_
  show G (T120.setTop (mkF m 94 #[r' tk, .val pm, r' b101, .val .null, r' b101, i' 0, i' ca] []))
  refine go _ _ (fun _ k => XS.aload X120.here hx rfl (hb hby own_d11_94) rfl rfl (XS.iload X120.here hx rfl (hb hby own_d11_96) rfl k)) ?_
  have Z122 : h0.size ≤ T102.heap.size := Nat.le_trans Z105 Kp102.1
  obtain ⟨rv121, T121, L121, X121, q121, st121⟩ := own_vi X120 hx hZ (y := (⟨"java/lang/StringBuilder", "append", "(C)Ljava/lang/StringBuilder;"⟩ : MethodName)) (z := (⟨"java/lang/StringBuilder", "append", "(C)Ljava/lang/StringBuilder;"⟩ : MethodName)) hown (ow hw 104 rfl) (ow hw 105 rfl) (ow hw 107 rfl) (ow hw 106 rfl) (Or.inl rfl) (by decide) (own_bkN (W := 0) (rm21 l Z a0 hw z0 O2 P5 fm0 O4 R4 [] b101 ca t_106 kb_107 ([] : List Int32) T102.heap n0 (Nat.le_trans Z0 Z122) F118 f109 f110 f111 f112 f113 bca1 (Nat.le_of_ble_eq_true rfl) (Nat.le_trans Z0 (Nat.le_of_eq g101.symm)) (Nat.le_trans (Nat.le_trans Z0 Z105) z108)) hZ (ow hw 108 rfl) (ow hw 57 rfl) (by decide) (by decide)) e120 f109 (g := (mkF m 98 #[r' tk, .val pm, r' b101, .val .null, r' b101, i' 0, i' ca] [(.int ca), (.ref b101)])) rfl (by rw [hml]; rfl) (argsL := [(.int ca)]) (rest := []) rfl (lenOf own_pd15 rfl) rfl (by show 2 * 0 + _ ≤ _; exact Nat.le_of_eq rfl) (hb hby own_d11_98) (by decide) (by decide)
  obtain ⟨Nq121, Kp121, ⟨rfl, f123, f124, f125, f126, f127⟩⟩ := q121
  have N121 := Fr.app N120 Nq121
  refine go _ _ (st121) ?_
  show G (T121.setTop (mkF m 101 #[r' tk, .val pm, r' b101, .val .null, r' b101, i' 0, i' ca] [(.ref b101)]))
  refine go _ _ (fun _ k => XS.pop X121.here hx rfl (hb hby own_d11_101) rfl rfl (XS.iinc X121.here hx rfl (hb hby own_d11_102) rfl (l' := #[r' tk, .val pm, r' b101, .val .null, r' b101, i' 1, i' ca]) rfl k)) ?_
  show G (T121.setTop (mkF m 105 #[r' tk, .val pm, r' b101, .val .null, r' b101, i' 1, i' ca] []))
  refine go _ _ (fun _ k => XS.goto X121.here hx rfl (pc0 := 105) (pc' := 16) rfl (hb hby own_d11_105) (by decide) (by decide) k) ?_
  show G (T121.setTop (mkF m 16 #[r' tk, .val pm, r' b101, .val .null, r' b101, i' 1, i' ca] []))
  refine go _ _ (fun _ k => XS.iload X121.here hx rfl (hb hby own_d11_16) rfl (XS.aloadN X121.here hx rfl (hb hby own_d11_18) rfl rfl k)) ?_
  have K129 : Keep h0 T121.heap [] := K115.trans Kp121 (allS (Or.inr (Nat.le_of_eq g101.symm)) (allS (Or.inr (Nat.le_trans Z105 z108)) all0))
  have F130 : own_Str Z T121.heap tk ([ca, (124 : Int32), cc] : List Int32) := (own_Str_keep St K129)
  obtain ⟨tx128, kbx128, Esx128, Vsx128, Csx128, Asx128, cdx128, bdx128, lnx128⟩ := own_Str_W F130
  have K131 : Keep T102.heap T121.heap [b101, t_106] := (Keep.refl T102.heap [b101, t_106]).trans Kp121 (allS (Or.inl (List.mem_of_getElem? (i := 0) rfl)) (allS (Or.inl (List.mem_of_getElem? (i := 1) rfl)) all0))
  have F132 : Old Z n0 T121.heap := (F118.keep K131 (allS (Nat.le_trans Z0 (Nat.le_of_eq g101.symm)) (allS (Nat.le_trans (Nat.le_trans Z0 Z105) z108) all0)))
  have F133 : Exa Z T121.heap tk "java/lang/String" := (F119.keep K131)
  obtain ⟨rv128, T128, L128, X128, q128, st128⟩ := own_vi X121 hx hZ (Q := fun v h L => v = some (.int (Int32.ofNat (([ca, (124 : Int32), cc] : List Int32)).length)) ∧ L = [] ∧ h = T121.heap) (kc := 0) (ks := 0) (y := (⟨"java/lang/String", "length", "()I"⟩ : MethodName)) (z := (⟨"java/lang/String", "length", "()I"⟩ : MethodName)) hown (ow hw 73 rfl) (ow hw 74 rfl) (ow hw 76 rfl) (ow hw 75 rfl) (Or.inl rfl) (by decide) (StrChars.Road.lenW (W := 1) hZ (own_hln hw) (kI := 4) (ow hw 5 rfl) Esx128 Vsx128 Csx128 Asx128 cdx128 bdx128 (O2.ext F132.2) P5 lnx128 (by decide) (by decide)) rfl F133 (g := (mkF m 19 #[r' tk, .val pm, r' b101, .val .null, r' b101, i' 1, i' ca] [(.ref tk), (.int 1)])) rfl (by rw [hml]; rfl) (argsL := []) (rest := [(.int (1 : Int32))]) rfl (lenOf own_pd1 rfl) rfl (by show 2 * 0 + _ ≤ _; exact Nat.le_of_eq rfl) (hb hby own_d11_19) (by decide) (by decide)
  obtain ⟨rfl, rfl, e128⟩ := q128
  have N128 := Fr.app N121 (Fr.nil n0)
  refine go _ _ (st128) ?_
  show G (T128.setTop (mkF m 22 #[r' tk, .val pm, r' b101, .val .null, r' b101, i' 1, i' ca] [(.int 3), (.int 1)]))
  refine go _ _ (fun _ k => XS.icmpNo X128.here hx rfl (hb hby own_d11_22) rfl (by decide) k) ?_
  show G (T128.setTop (mkF m 25 #[r' tk, .val pm, r' b101, .val .null, r' b101, i' 1, i' ca] []))
  refine go _ _ (fun _ k => XS.aloadN X128.here hx rfl (hb hby own_d11_25) rfl rfl (XS.iload X128.here hx rfl (hb hby own_d11_26) rfl k)) ?_
  obtain ⟨tx134, kbx134, Esx134, Vsx134, Csx134, Asx134, cdx134, bdx134, lnx134⟩ := own_Str_W F130
  obtain ⟨rv134, T134, L134, X134, q134, st134⟩ := own_vi X128 hx hZ (Q := fun v h L => v = some (.int ((([ca, (124 : Int32), cc] : List Int32)).getD 1 0)) ∧ L = [] ∧ h = T121.heap) (kc := 0) (ks := 0) (y := (⟨"java/lang/String", "charAt", "(I)C"⟩ : MethodName)) (z := (⟨"java/lang/String", "charAt", "(I)C"⟩ : MethodName)) hown (ow hw 83 rfl) (ow hw 84 rfl) (ow hw 86 rfl) (ow hw 85 rfl) (Or.inl rfl) (by decide) (StrChars.Road.chN (W := 0) hZ (own_hch hw) (kI := 4) (ow hw 5 rfl) Esx134 Vsx134 Csx134 Asx134 cdx134 bdx134 (O2.ext F132.2) P5 (O4.ext F132.2) R4 lnx134 (i := 1) (Nat.le_of_ble_eq_true rfl) (j := (1 : Int32)) (by decide) (by decide) (by decide)) e128 F133 (g := (mkF m 28 #[r' tk, .val pm, r' b101, .val .null, r' b101, i' 1, i' ca] [(.int 1), (.ref tk)])) rfl (by rw [hml]; rfl) (argsL := [(.int (1 : Int32))]) (rest := []) rfl (lenOf own_pd14 rfl) rfl (by show 2 * 0 + _ ≤ _; exact Nat.le_of_eq rfl) (hb hby own_d11_28) (by decide) (by decide)
  obtain ⟨rfl, rfl, e134⟩ := q134
  have N134 := Fr.app N128 (Fr.nil n0)
  refine go _ _ (st134) ?_
  show G (T134.setTop (mkF m 31 #[r' tk, .val pm, r' b101, .val .null, r' b101, i' 1, i' ca] [(.int 124)]))
  refine go _ _ (fun _ k => XS.istore X134.here hx rfl (hb hby own_d11_31) rfl (l' := #[r' tk, .val pm, r' b101, .val .null, r' b101, i' 1, i' 124]) rfl (XS.iload X134.here hx rfl (hb hby own_d11_33) rfl (XS.bipush X134.here hx rfl (hb hby own_d11_35) k))) ?_
  show G (T134.setTop (mkF m 37 #[r' tk, .val pm, r' b101, .val .null, r' b101, i' 1, i' 124] [(.int 92), (.int 124)]))
  refine go _ _ (fun _ k => XS.icmpYes X134.here hx rfl (pc0 := 37) (pc' := 69) rfl (hb hby own_d11_37) rfl (by decide) (by decide) (by decide) k) ?_
  show G (T134.setTop (mkF m 69 #[r' tk, .val pm, r' b101, .val .null, r' b101, i' 1, i' 124] []))
  refine go _ _ (fun _ k => XS.iload X134.here hx rfl (hb hby own_d11_69) rfl (XS.bipush X134.here hx rfl (hb hby own_d11_71) k)) ?_
  show G (T134.setTop (mkF m 73 #[r' tk, .val pm, r' b101, .val .null, r' b101, i' 1, i' 124] [(.int 124), (.int 124)]))
  refine go _ _ (fun _ k => XS.icmpNo X134.here hx rfl (hb hby own_d11_73) rfl (by decide) k) ?_
  show G (T134.setTop (mkF m 76 #[r' tk, .val pm, r' b101, .val .null, r' b101, i' 1, i' 124] []))
  refine go _ _ (fun _ k => XS.aloadN X134.here hx rfl (hb hby own_d11_76) rfl rfl k) ?_
  show G (T134.setTop (mkF m 77 #[r' tk, .val pm, r' b101, .val .null, r' b101, i' 1, i' 124] [.null]))
  refine go _ _ (fun _ k => XS.ifnonnullNo X134.here hx rfl (hb hby own_d11_77) rfl k) ?_
  obtain ⟨T135, h135, X135, e135, E135, A135, D135, -, st135⟩ := newO X134 hx hZ hown (ow hw 55 rfl) (ow hw 56 rfl) (ow hw 57 rfl) e134 (g := (mkF m 80 #[r' tk, .val pm, r' b101, .val .null, r' b101, i' 1, i' 124] [])) rfl (hb hby own_d11_80) (by decide) (by decide)
  obtain ⟨b135, g135⟩ : ∃ z, z = T121.heap.size := ⟨_, rfl⟩
  rw [← g135] at A135 D135 st135
  refine go _ _ (st135) ?_
  show G (T135.setTop (mkF m 83 #[r' tk, .val pm, r' b101, .val .null, r' b101, i' 1, i' 124] [(.ref b135)]))
  refine go _ _ (fun _ k => XS.dup X135.here hx rfl (hb hby own_d11_83) rfl rfl k) ?_
  have K137 : Keep T121.heap h135 [] := (Keep.refl T121.heap []).ext E135
  have F138 : Old Z n0 h135 := (F132.keep K137 all0)
  have Z139 : h0.size ≤ T121.heap.size := Nat.le_trans Z122 Kp121.1
  have Z140 : h0.size ≤ h135.size := Nat.le_trans Z139 E135.1
  obtain ⟨rv136, T136, L136, X136, q136, st136⟩ := own_sp X135 hx hZ (y := (⟨"java/lang/StringBuilder", "<init>", "()V"⟩ : MethodName)) rfl hown (ow hw 58 rfl) (ow hw 59 rfl) (ow hw 60 rfl) (by decide) (own_bkN (W := 1) (rm12 l Z a0 hw z0 O2 P5 fm0 O4 R4 [] b135 h135 n0 (Nat.le_trans Z0 Z140) F138 A135 (D135 (Or.inl (ow hw 70 rfl)) (ty := (.array .byte)) (by decide)) (D135 (Or.inl (ow hw 72 rfl)) (ty := .byte) (by decide)) (D135 (Or.inl (ow hw 115 rfl)) (ty := .int) (by decide)) (Nat.le_trans (Nat.le_trans Z0 Z139) (Nat.le_of_eq g135.symm))) hZ (ow hw 60 rfl) (ow hw 57 rfl) (by decide) (by decide)) e135 (g := (mkF m 84 #[r' tk, .val pm, r' b101, .val .null, r' b101, i' 1, i' 124] [(.ref b135), (.ref b135)])) rfl (by rw [hml]; rfl) (a := b135) (argsL := []) (rest := [(.ref b135)]) rfl (lenOf own_pd13 rfl) rfl (by show 2 * 0 + _ ≤ _; exact Nat.le_of_eq rfl) (hb hby own_d11_84) (by decide) (by decide)
  obtain ⟨Nq136, Kp136, ⟨t_141, kb_142, rfl, z143, f144, f145, f146, f147, f148⟩⟩ := q136
  have N136 := Fr.app N134 Nq136
  refine go _ _ (st136) ?_
  show G (T136.setTop (mkF m 87 #[r' tk, .val pm, r' b101, .val .null, r' b101, i' 1, i' 124] [(.ref b135)]))
  refine go _ _ (fun _ k => XS.astoreN X136.here hx rfl (hb hby own_d11_87) rfl rfl (l' := #[r' tk, .val pm, r' b101, r' b135, r' b101, i' 1, i' 124]) rfl (XS.aloadN X136.here hx rfl (hb hby own_d11_88) rfl rfl (XS.astore X136.here hx rfl (hb hby own_d11_89) rfl rfl (l' := #[r' tk, .val pm, r' b101, r' b135, r' b135, i' 1, i' 124]) rfl k))) ?_
  show G (T136.setTop (mkF m 91 #[r' tk, .val pm, r' b101, r' b135, r' b135, i' 1, i' 124] []))
  refine go _ _ (fun _ k => XS.goto X136.here hx rfl (pc0 := 91) (pc' := 102) rfl (hb hby own_d11_91) (by decide) (by decide) k) ?_
  show G (T136.setTop (mkF m 102 #[r' tk, .val pm, r' b101, r' b135, r' b135, i' 1, i' 124] []))
  refine go _ _ (fun _ k => XS.iinc X136.here hx rfl (hb hby own_d11_102) rfl (l' := #[r' tk, .val pm, r' b101, r' b135, r' b135, i' 2, i' 124]) rfl k) ?_
  show G (T136.setTop (mkF m 105 #[r' tk, .val pm, r' b101, r' b135, r' b135, i' 2, i' 124] []))
  refine go _ _ (fun _ k => XS.goto X136.here hx rfl (pc0 := 105) (pc' := 16) rfl (hb hby own_d11_105) (by decide) (by decide) k) ?_
  show G (T136.setTop (mkF m 16 #[r' tk, .val pm, r' b101, r' b135, r' b135, i' 2, i' 124] []))
  refine go _ _ (fun _ k => XS.iload X136.here hx rfl (hb hby own_d11_16) rfl (XS.aloadN X136.here hx rfl (hb hby own_d11_18) rfl rfl k)) ?_
  have K150 : Keep T121.heap T136.heap [] := K137.trans Kp136 (allS (Or.inr (Nat.le_of_eq g135.symm)) all0)
  have F151 : own_Str Z T136.heap tk ([ca, (124 : Int32), cc] : List Int32) := (own_Str_keep F130 K150)
  obtain ⟨tx149, kbx149, Esx149, Vsx149, Csx149, Asx149, cdx149, bdx149, lnx149⟩ := own_Str_W F151
  have K152 : Keep h135 T136.heap [b135] := (Keep.refl h135 [b135]).trans Kp136 (allS (Or.inl (List.mem_of_getElem? (i := 0) rfl)) all0)
  have F153 : Old Z n0 T136.heap := (F138.keep K152 (allS (Nat.le_trans (Nat.le_trans Z0 Z139) (Nat.le_of_eq g135.symm)) all0))
  have F154 : Exa Z T136.heap tk "java/lang/String" := (F133.keep K150)
  obtain ⟨rv149, T149, L149, X149, q149, st149⟩ := own_vi X136 hx hZ (Q := fun v h L => v = some (.int (Int32.ofNat (([ca, (124 : Int32), cc] : List Int32)).length)) ∧ L = [] ∧ h = T136.heap) (kc := 0) (ks := 0) (y := (⟨"java/lang/String", "length", "()I"⟩ : MethodName)) (z := (⟨"java/lang/String", "length", "()I"⟩ : MethodName)) hown (ow hw 73 rfl) (ow hw 74 rfl) (ow hw 76 rfl) (ow hw 75 rfl) (Or.inl rfl) (by decide) (StrChars.Road.lenW (W := 1) hZ (own_hln hw) (kI := 4) (ow hw 5 rfl) Esx149 Vsx149 Csx149 Asx149 cdx149 bdx149 (O2.ext F153.2) P5 lnx149 (by decide) (by decide)) rfl F154 (g := (mkF m 19 #[r' tk, .val pm, r' b101, r' b135, r' b135, i' 2, i' 124] [(.ref tk), (.int 2)])) rfl (by rw [hml]; rfl) (argsL := []) (rest := [(.int (2 : Int32))]) rfl (lenOf own_pd1 rfl) rfl (by show 2 * 0 + _ ≤ _; exact Nat.le_of_eq rfl) (hb hby own_d11_19) (by decide) (by decide)
  obtain ⟨rfl, rfl, e149⟩ := q149
  have N149 := Fr.app N136 (Fr.nil n0)
  refine go _ _ (st149) ?_
  show G (T149.setTop (mkF m 22 #[r' tk, .val pm, r' b101, r' b135, r' b135, i' 2, i' 124] [(.int 3), (.int 2)]))
  refine go _ _ (fun _ k => XS.icmpNo X149.here hx rfl (hb hby own_d11_22) rfl (by decide) k) ?_
  show G (T149.setTop (mkF m 25 #[r' tk, .val pm, r' b101, r' b135, r' b135, i' 2, i' 124] []))
  refine go _ _ (fun _ k => XS.aloadN X149.here hx rfl (hb hby own_d11_25) rfl rfl (XS.iload X149.here hx rfl (hb hby own_d11_26) rfl k)) ?_
  obtain ⟨tx155, kbx155, Esx155, Vsx155, Csx155, Asx155, cdx155, bdx155, lnx155⟩ := own_Str_W F151
  obtain ⟨rv155, T155, L155, X155, q155, st155⟩ := own_vi X149 hx hZ (Q := fun v h L => v = some (.int ((([ca, (124 : Int32), cc] : List Int32)).getD 2 0)) ∧ L = [] ∧ h = T136.heap) (kc := 0) (ks := 0) (y := (⟨"java/lang/String", "charAt", "(I)C"⟩ : MethodName)) (z := (⟨"java/lang/String", "charAt", "(I)C"⟩ : MethodName)) hown (ow hw 83 rfl) (ow hw 84 rfl) (ow hw 86 rfl) (ow hw 85 rfl) (Or.inl rfl) (by decide) (StrChars.Road.chN (W := 0) hZ (own_hch hw) (kI := 4) (ow hw 5 rfl) Esx155 Vsx155 Csx155 Asx155 cdx155 bdx155 (O2.ext F153.2) P5 (O4.ext F153.2) R4 lnx155 (i := 2) (Nat.le_of_ble_eq_true rfl) (j := (2 : Int32)) (by decide) (by decide) (by decide)) e149 F154 (g := (mkF m 28 #[r' tk, .val pm, r' b101, r' b135, r' b135, i' 2, i' 124] [(.int 2), (.ref tk)])) rfl (by rw [hml]; rfl) (argsL := [(.int (2 : Int32))]) (rest := []) rfl (lenOf own_pd14 rfl) rfl (by show 2 * 0 + _ ≤ _; exact Nat.le_of_eq rfl) (hb hby own_d11_28) (by decide) (by decide)
  obtain ⟨rfl, rfl, e155⟩ := q155
  have N155 := Fr.app N149 (Fr.nil n0)
  refine go _ _ (st155) ?_
  show G (T155.setTop (mkF m 31 #[r' tk, .val pm, r' b101, r' b135, r' b135, i' 2, i' 124] [(.int cc)]))
  refine go _ _ (fun _ k => XS.istore X155.here hx rfl (hb hby own_d11_31) rfl (l' := #[r' tk, .val pm, r' b101, r' b135, r' b135, i' 2, i' cc]) rfl k) ?_
  show G (T155.setTop (mkF m 33 #[r' tk, .val pm, r' b101, r' b135, r' b135, i' 2, i' cc] []))
  have J156 : ∀ (T156 : State) (L156 : List Loc) (X156 : Stand p l e ({ frames := 6, cells := 9, slots := 82, locals := 103 } : Room) s m #[(.ref tk), pm] below meth c T156 L156 4 40) (e156 : T156.heap = T136.heap) (N156 : Fr n0 L156), G (T156.setTop (mkF m 94 #[r' tk, .val pm, r' b101, r' b135, r' b135, i' 2, i' cc] [])) := by
    intro T156 L156 X156 e156 N156
    show G (T156.setTop (mkF m 94 #[r' tk, .val pm, r' b101, r' b135, r' b135, i' 2, i' cc] []))
    refine go _ _ (fun _ k => XS.aload X156.here hx rfl (hb hby own_d11_94) rfl rfl (XS.iload X156.here hx rfl (hb hby own_d11_96) rfl k)) ?_
    have Z158 : h0.size ≤ T136.heap.size := Nat.le_trans Z140 Kp136.1
    obtain ⟨rv157, T157, L157, X157, q157, st157⟩ := own_vi X156 hx hZ (y := (⟨"java/lang/StringBuilder", "append", "(C)Ljava/lang/StringBuilder;"⟩ : MethodName)) (z := (⟨"java/lang/StringBuilder", "append", "(C)Ljava/lang/StringBuilder;"⟩ : MethodName)) hown (ow hw 104 rfl) (ow hw 105 rfl) (ow hw 107 rfl) (ow hw 106 rfl) (Or.inl rfl) (by decide) (own_bkN (W := 0) (rm21 l Z a0 hw z0 O2 P5 fm0 O4 R4 [] b135 cc t_141 kb_142 ([] : List Int32) T136.heap n0 (Nat.le_trans Z0 Z158) F153 f144 f145 f146 f147 f148 bcc1 (Nat.le_of_ble_eq_true rfl) (Nat.le_trans (Nat.le_trans Z0 Z139) (Nat.le_of_eq g135.symm)) (Nat.le_trans (Nat.le_trans Z0 Z140) z143)) hZ (ow hw 108 rfl) (ow hw 57 rfl) (by decide) (by decide)) e156 f144 (g := (mkF m 98 #[r' tk, .val pm, r' b101, r' b135, r' b135, i' 2, i' cc] [(.int cc), (.ref b135)])) rfl (by rw [hml]; rfl) (argsL := [(.int cc)]) (rest := []) rfl (lenOf own_pd15 rfl) rfl (by show 2 * 0 + _ ≤ _; exact Nat.le_of_eq rfl) (hb hby own_d11_98) (by decide) (by decide)
    obtain ⟨Nq157, Kp157, ⟨rfl, f159, f160, f161, f162, f163⟩⟩ := q157
    have N157 := Fr.app N156 Nq157
    refine go _ _ (st157) ?_
    show G (T157.setTop (mkF m 101 #[r' tk, .val pm, r' b101, r' b135, r' b135, i' 2, i' cc] [(.ref b135)]))
    refine go _ _ (fun _ k => XS.pop X157.here hx rfl (hb hby own_d11_101) rfl rfl (XS.iinc X157.here hx rfl (hb hby own_d11_102) rfl (l' := #[r' tk, .val pm, r' b101, r' b135, r' b135, i' 3, i' cc]) rfl k)) ?_
    show G (T157.setTop (mkF m 105 #[r' tk, .val pm, r' b101, r' b135, r' b135, i' 3, i' cc] []))
    refine go _ _ (fun _ k => XS.goto X157.here hx rfl (pc0 := 105) (pc' := 16) rfl (hb hby own_d11_105) (by decide) (by decide) k) ?_
    show G (T157.setTop (mkF m 16 #[r' tk, .val pm, r' b101, r' b135, r' b135, i' 3, i' cc] []))
    refine go _ _ (fun _ k => XS.iload X157.here hx rfl (hb hby own_d11_16) rfl (XS.aloadN X157.here hx rfl (hb hby own_d11_18) rfl rfl k)) ?_
    have Z165 : T121.heap.size ≤ h135.size := E135.1
    have K166 : Keep T121.heap T157.heap [] := K150.trans Kp157 (allS (Or.inr (Nat.le_of_eq g135.symm)) (allS (Or.inr (Nat.le_trans Z165 z143)) all0))
    have F167 : own_Str Z T157.heap tk ([ca, (124 : Int32), cc] : List Int32) := (own_Str_keep F130 K166)
    obtain ⟨tx164, kbx164, Esx164, Vsx164, Csx164, Asx164, cdx164, bdx164, lnx164⟩ := own_Str_W F167
    have K168 : Keep T136.heap T157.heap [b135, t_141] := (Keep.refl T136.heap [b135, t_141]).trans Kp157 (allS (Or.inl (List.mem_of_getElem? (i := 0) rfl)) (allS (Or.inl (List.mem_of_getElem? (i := 1) rfl)) all0))
    have F169 : Old Z n0 T157.heap := (F153.keep K168 (allS (Nat.le_trans (Nat.le_trans Z0 Z139) (Nat.le_of_eq g135.symm)) (allS (Nat.le_trans (Nat.le_trans Z0 Z140) z143) all0)))
    have F170 : Exa Z T157.heap tk "java/lang/String" := (F154.keep K168)
    obtain ⟨rv164, T164, L164, X164, q164, st164⟩ := own_vi X157 hx hZ (Q := fun v h L => v = some (.int (Int32.ofNat (([ca, (124 : Int32), cc] : List Int32)).length)) ∧ L = [] ∧ h = T157.heap) (kc := 0) (ks := 0) (y := (⟨"java/lang/String", "length", "()I"⟩ : MethodName)) (z := (⟨"java/lang/String", "length", "()I"⟩ : MethodName)) hown (ow hw 73 rfl) (ow hw 74 rfl) (ow hw 76 rfl) (ow hw 75 rfl) (Or.inl rfl) (by decide) (StrChars.Road.lenW (W := 1) hZ (own_hln hw) (kI := 4) (ow hw 5 rfl) Esx164 Vsx164 Csx164 Asx164 cdx164 bdx164 (O2.ext F169.2) P5 lnx164 (by decide) (by decide)) rfl F170 (g := (mkF m 19 #[r' tk, .val pm, r' b101, r' b135, r' b135, i' 3, i' cc] [(.ref tk), (.int 3)])) rfl (by rw [hml]; rfl) (argsL := []) (rest := [(.int (3 : Int32))]) rfl (lenOf own_pd1 rfl) rfl (by show 2 * 0 + _ ≤ _; exact Nat.le_of_eq rfl) (hb hby own_d11_19) (by decide) (by decide)
    obtain ⟨rfl, rfl, e164⟩ := q164
    have N164 := Fr.app N157 (Fr.nil n0)
    refine go _ _ (st164) ?_
    show G (T164.setTop (mkF m 22 #[r' tk, .val pm, r' b101, r' b135, r' b135, i' 3, i' cc] [(.int 3), (.int 3)]))
    refine go _ _ (fun _ k => XS.icmpYes X164.here hx rfl (pc0 := 22) (pc' := 108) rfl (hb hby own_d11_22) rfl (by decide) (by decide) (by decide) k) ?_
    show G (T164.setTop (mkF m 108 #[r' tk, .val pm, r' b101, r' b135, r' b135, i' 3, i' cc] []))
    refine go _ _ (fun _ k => XS.aloadN X164.here hx rfl (hb hby own_d11_108) rfl rfl k) ?_
    show G (T164.setTop (mkF m 109 #[r' tk, .val pm, r' b101, r' b135, r' b135, i' 3, i' cc] [(.ref b135)]))
    refine go _ _ (fun _ k => XS.ifnullNo X164.here hx rfl (hb hby own_d11_109) rfl k) ?_
    show G (T164.setTop (mkF m 112 #[r' tk, .val pm, r' b101, r' b135, r' b135, i' 3, i' cc] []))
    refine go _ _ (fun _ k => XS.aloadN X164.here hx rfl (hb hby own_d11_112) rfl rfl k) ?_
    have F172 : Exa Z T157.heap b101 "java/lang/StringBuilder" := (f123.keep K166)
    have F173 : Fld Z T157.heap b101 "java/lang/AbstractStringBuilder" "count" "I" (.int (own_n (([] : List Int32) ++ [ca]))) := (f126.keep K166 nin0)
    have Z174 : h0.size ≤ T157.heap.size := Nat.le_trans Z158 Kp157.1
    obtain ⟨rv171, T171, L171, X171, q171, st171⟩ := own_vi X164 hx hZ (y := (⟨"java/lang/StringBuilder", "length", "()I"⟩ : MethodName)) (z := (⟨"java/lang/StringBuilder", "length", "()I"⟩ : MethodName)) hown (ow hw 127 rfl) (ow hw 128 rfl) (ow hw 130 rfl) (ow hw 129 rfl) (Or.inl rfl) (by decide) (own_bkN (W := 0) (rm25 l Z a0 hw z0 O2 P5 fm0 O4 R4 [] b101 (own_n (([] : List Int32) ++ [ca])) T157.heap n0 (Nat.le_trans Z0 Z174) F172 F173) hZ (ow hw 131 rfl) (ow hw 57 rfl) (by decide) (by decide)) e164 F172 (g := (mkF m 113 #[r' tk, .val pm, r' b101, r' b135, r' b135, i' 3, i' cc] [(.ref b101)])) rfl (by rw [hml]; rfl) (argsL := []) (rest := []) rfl (lenOf own_pd1 rfl) rfl (by show 2 * 0 + _ ≤ _; exact Nat.le_of_eq rfl) (hb hby own_d11_113) (by decide) (by decide)
    obtain ⟨Nq171, e171, rfl⟩ := q171
    have N171 := Fr.app N164 Nq171
    refine go _ _ (st171) ?_
    show G (T171.setTop (mkF m 116 #[r' tk, .val pm, r' b101, r' b135, r' b135, i' 3, i' cc] [(.int (own_n (([] : List Int32) ++ [ca])))]))
    rw [(show own_n (([] : List Int32) ++ [ca]) = (1 : Int32) from rfl)]
    show G (T171.setTop (mkF m 116 #[r' tk, .val pm, r' b101, r' b135, r' b135, i' 3, i' cc] [(.int 1)]))
    refine go _ _ (fun _ k => XS.ifNo X171.here hx rfl (hb hby own_d11_116) rfl (by decide) k) ?_
    show G (T171.setTop (mkF m 119 #[r' tk, .val pm, r' b101, r' b135, r' b135, i' 3, i' cc] []))
    refine go _ _ (fun _ k => XS.aloadN X171.here hx rfl (hb hby own_d11_119) rfl rfl k) ?_
    obtain ⟨rv175, T175, L175, X175, q175, st175⟩ := own_vi X171 hx hZ (y := (⟨"java/lang/StringBuilder", "length", "()I"⟩ : MethodName)) (z := (⟨"java/lang/StringBuilder", "length", "()I"⟩ : MethodName)) hown (ow hw 127 rfl) (ow hw 128 rfl) (ow hw 130 rfl) (ow hw 129 rfl) (Or.inl rfl) (by decide) (own_bkN (W := 0) (rm25 l Z a0 hw z0 O2 P5 fm0 O4 R4 [] b135 (own_n (([] : List Int32) ++ [cc])) T157.heap n0 (Nat.le_trans Z0 Z174) f159 f162) hZ (ow hw 131 rfl) (ow hw 57 rfl) (by decide) (by decide)) e171 f159 (g := (mkF m 120 #[r' tk, .val pm, r' b101, r' b135, r' b135, i' 3, i' cc] [(.ref b135)])) rfl (by rw [hml]; rfl) (argsL := []) (rest := []) rfl (lenOf own_pd1 rfl) rfl (by show 2 * 0 + _ ≤ _; exact Nat.le_of_eq rfl) (hb hby own_d11_120) (by decide) (by decide)
    obtain ⟨Nq175, e175, rfl⟩ := q175
    have N175 := Fr.app N171 Nq175
    refine go _ _ (st175) ?_
    show G (T175.setTop (mkF m 123 #[r' tk, .val pm, r' b101, r' b135, r' b135, i' 3, i' cc] [(.int (own_n (([] : List Int32) ++ [cc])))]))
    rw [(show own_n (([] : List Int32) ++ [cc]) = (1 : Int32) from rfl)]
    show G (T175.setTop (mkF m 123 #[r' tk, .val pm, r' b101, r' b135, r' b135, i' 3, i' cc] [(.int 1)]))
    refine go _ _ (fun _ k => XS.ifYes X175.here hx rfl (pc0 := 123) (pc' := 146) rfl (hb hby own_d11_123) rfl (by decide) (by decide) (by decide) k) ?_
    obtain ⟨T176, h176, X176, e176, E176, A176, D176, -, st176⟩ := newO X175 hx hZ hown (ow hw 136 rfl) (ow hw 137 rfl) (ow hw 53 rfl) e175 (g := (mkF m 146 #[r' tk, .val pm, r' b101, r' b135, r' b135, i' 3, i' cc] [])) rfl (hb hby own_d11_146) (by decide) (by decide)
    obtain ⟨b176, g176⟩ : ∃ z, z = T157.heap.size := ⟨_, rfl⟩
    rw [← g176] at A176 D176 st176
    refine go _ _ (st176) ?_
    show G (T176.setTop (mkF m 149 #[r' tk, .val pm, r' b101, r' b135, r' b135, i' 3, i' cc] [(.ref b176)]))
    refine go _ _ (fun _ k => XS.dup X176.here hx rfl (hb hby own_d11_149) rfl rfl (XS.aloadN X176.here hx rfl (hb hby own_d11_150) rfl rfl k)) ?_
    have K178 : Keep T157.heap h176 [] := (Keep.refl T157.heap []).ext E176
    have F179 : Old Z n0 h176 := (F169.keep K178 all0)
    have F180 : Exa Z h176 b101 "java/lang/StringBuilder" := (F172.keep K178)
    have K181 : Keep T121.heap h176 [] := K166.ext E176
    have F182 : Fld Z h176 b101 "java/lang/AbstractStringBuilder" "value" "[B" (.ref t_106) := (f124.keep K181 nin0)
    have F183 : Fld Z h176 b101 "java/lang/AbstractStringBuilder" "coder" "B" (.int (0 : Int32)) := (f125.keep K181 nin0)
    have F184 : Fld Z h176 b101 "java/lang/AbstractStringBuilder" "count" "I" (.int (own_n (([] : List Int32) ++ [ca]))) := (F173.keep K178 nin0)
    have F185 : Arv Z h176 t_106 kb_107 .byte (16 : Int32) (own_bs (([] : List Int32) ++ [ca])) (.int (0 : Int32)) := (f127.keep K181 nin0)
    have Z186 : h0.size ≤ h176.size := Nat.le_trans Z174 E176.1
    obtain ⟨rv177, T177, L177, X177, q177, st177⟩ := own_vi X176 hx hZ (y := (⟨"java/lang/StringBuilder", "toString", "()Ljava/lang/String;"⟩ : MethodName)) (z := (⟨"java/lang/StringBuilder", "toString", "()Ljava/lang/String;"⟩ : MethodName)) hown (ow hw 138 rfl) (ow hw 139 rfl) (ow hw 141 rfl) (ow hw 140 rfl) (Or.inl rfl) (by decide) (own_bkN (W := 2) (rm27 l Z a0 hw z0 O2 P5 fm0 O4 R4 [] b101 t_106 kb_107 (([] : List Int32) ++ [ca]) h176 n0 (Nat.le_trans Z0 Z186) F179 F180 F182 F183 F184 F185 (Nat.le_of_ble_eq_true rfl) (own_bdc own_bd0 ⟨bca0, bca1⟩)) hZ (ow hw 142 rfl) (ow hw 57 rfl) (by decide) (by decide)) e176 F180 (g := (mkF m 151 #[r' tk, .val pm, r' b101, r' b135, r' b135, i' 3, i' cc] [(.ref b101), (.ref b176), (.ref b176)])) rfl (by rw [hml]; rfl) (argsL := []) (rest := [(.ref b176), (.ref b176)]) rfl (lenOf own_pd16 rfl) rfl (by show 2 * 0 + _ ≤ _; exact Nat.le_of_eq rfl) (hb hby own_d11_151) (by decide) (by decide)
    obtain ⟨Nq177, Kp177, ⟨b_187, rfl, z188, f189, f190⟩⟩ := q177
    have N177 := Fr.app N175 Nq177
    refine go _ _ (st177) ?_
    show G (T177.setTop (mkF m 154 #[r' tk, .val pm, r' b101, r' b135, r' b135, i' 3, i' cc] [(.ref b_187), (.ref b176), (.ref b176)]))
    refine go _ _ (fun _ k => XS.aloadN X177.here hx rfl (hb hby own_d11_154) rfl rfl k) ?_
    have K192 : Keep h176 T177.heap [] := (Keep.refl h176 []).trans Kp177 all0
    have F193 : Old Z n0 T177.heap := (F179.keep K192 all0)
    have K194 : Keep T157.heap T177.heap [] := K178.trans Kp177 all0
    have F195 : Exa Z T177.heap b135 "java/lang/StringBuilder" := (f159.keep K194)
    have F196 : Fld Z T177.heap b135 "java/lang/AbstractStringBuilder" "value" "[B" (.ref t_141) := (f160.keep K194 nin0)
    have F197 : Fld Z T177.heap b135 "java/lang/AbstractStringBuilder" "coder" "B" (.int (0 : Int32)) := (f161.keep K194 nin0)
    have F198 : Fld Z T177.heap b135 "java/lang/AbstractStringBuilder" "count" "I" (.int (own_n (([] : List Int32) ++ [cc]))) := (f162.keep K194 nin0)
    have F199 : Arv Z T177.heap t_141 kb_142 .byte (16 : Int32) (own_bs (([] : List Int32) ++ [cc])) (.int (0 : Int32)) := (f163.keep K194 nin0)
    have Z200 : h0.size ≤ T177.heap.size := Nat.le_trans Z186 Kp177.1
    obtain ⟨rv191, T191, L191, X191, q191, st191⟩ := own_vi X177 hx hZ (y := (⟨"java/lang/StringBuilder", "toString", "()Ljava/lang/String;"⟩ : MethodName)) (z := (⟨"java/lang/StringBuilder", "toString", "()Ljava/lang/String;"⟩ : MethodName)) hown (ow hw 138 rfl) (ow hw 139 rfl) (ow hw 141 rfl) (ow hw 140 rfl) (Or.inl rfl) (by decide) (own_bkN (W := 3) (rm27 l Z a0 hw z0 O2 P5 fm0 O4 R4 [] b135 t_141 kb_142 (([] : List Int32) ++ [cc]) T177.heap n0 (Nat.le_trans Z0 Z200) F193 F195 F196 F197 F198 F199 (Nat.le_of_ble_eq_true rfl) (own_bdc own_bd0 ⟨bcc0, bcc1⟩)) hZ (ow hw 142 rfl) (ow hw 57 rfl) (by decide) (by decide)) rfl F195 (g := (mkF m 155 #[r' tk, .val pm, r' b101, r' b135, r' b135, i' 3, i' cc] [(.ref b135), (.ref b_187), (.ref b176), (.ref b176)])) rfl (by rw [hml]; rfl) (argsL := []) (rest := [(.ref b_187), (.ref b176), (.ref b176)]) rfl (lenOf own_pd16 rfl) rfl (by show 2 * 0 + _ ≤ _; exact Nat.le_of_eq rfl) (hb hby own_d11_155) (by decide) (by decide)
    obtain ⟨Nq191, Kp191, ⟨b_201, rfl, z202, f203, f204⟩⟩ := q191
    have N191 := Fr.app N177 Nq191
    refine go _ _ (st191) ?_
    have K206 : Keep h176 T191.heap [] := K192.trans Kp191 all0
    have F207 : Exa Z T191.heap b176 "com/example/kindred/kindred/Identifier" := (A176.keep K206)
    have F208 : Fld Z T191.heap b176 "com/example/kindred/kindred/Identifier" "system" "Ljava/lang/String;" .null := ((D176 (Or.inr (ow hw 186 rfl)) (ty := (.object "java/lang/String")) (by decide)).keep K206 nin0)
    have F209 : Fld Z T191.heap b176 "com/example/kindred/kindred/Identifier" "value" "Ljava/lang/String;" .null := ((D176 (Or.inr (ow hw 188 rfl)) (ty := (.object "java/lang/String")) (by decide)).keep K206 nin0)
    have Z210 : h0.size ≤ T191.heap.size := Nat.le_trans Z200 Kp191.1
    obtain ⟨rv205, T205, L205, X205, q205, st205⟩ := own_sp X191 hx hZ (y := (⟨"com/example/kindred/kindred/Identifier", "<init>", "(Ljava/lang/String;Ljava/lang/String;)V"⟩ : MethodName)) rfl hown (ow hw 176 rfl) (ow hw 177 rfl) (ow hw 178 rfl) (by decide) (own_bkN (W := 1) (rm35 l Z a0 hw z0 O2 P5 fm0 O4 R4 [] b176 b_187 b_201 T191.heap n0 (Nat.le_trans Z0 Z210) F207 F208 F209 (Nat.le_trans (Nat.le_trans Z0 Z174) (Nat.le_of_eq g176.symm))) hZ (ow hw 178 rfl) (ow hw 53 rfl) (by decide) (by decide)) rfl (g := (mkF m 158 #[r' tk, .val pm, r' b101, r' b135, r' b135, i' 3, i' cc] [(.ref b_201), (.ref b_187), (.ref b176), (.ref b176)])) rfl (by rw [hml]; rfl) (a := b176) (argsL := [(.ref b_187), (.ref b_201)]) (rest := [(.ref b176)]) rfl (lenOf own_pd17 rfl) rfl (by show 2 * 0 + _ ≤ _; exact Nat.le_of_eq rfl) (hb hby own_d11_158) (by decide) (by decide)
    obtain ⟨Nq205, Kp205, ⟨rfl, f211, f212, f213⟩⟩ := q205
    have N205 := Fr.app N191 Nq205
    refine go _ _ (st205) ?_
    show G (T205.setTop (mkF m 161 #[r' tk, .val pm, r' b101, r' b135, r' b135, i' 3, i' cc] [(.ref b176)]))
    have K214 : Keep h0 h135 [] := K129.ext E135
    have K215 : Keep h0 T136.heap [] := K214.trans Kp136 (allS (Or.inr (Nat.le_trans Z139 (Nat.le_of_eq g135.symm))) all0)
    have K216 : Keep h0 T157.heap [] := K215.trans Kp157 (allS (Or.inr (Nat.le_trans Z139 (Nat.le_of_eq g135.symm))) (allS (Or.inr (Nat.le_trans Z140 z143)) all0))
    have K217 : Keep h0 h176 [] := K216.ext E176
    have K218 : Keep h0 T177.heap [] := K217.trans Kp177 all0
    have K219 : Keep h0 T191.heap [] := K218.trans Kp191 all0
    have K220 : Keep h0 T205.heap [] := K219.trans Kp205 (allS (Or.inr (Nat.le_trans Z174 (Nat.le_of_eq g176.symm))) all0)
    have K221 : Keep T177.heap T191.heap [b176] := (Keep.refl T177.heap [b176]).trans Kp191 all0
    have K222 : Keep T177.heap T205.heap [b176] := K221.trans Kp205 (allS (Or.inl (List.mem_of_getElem? (i := 0) rfl)) all0)
    have F223 : Exa Z T205.heap b_187 "java/lang/String" := (f189.keep K222)
    have F224 : Exa Z T177.heap b176 "com/example/kindred/kindred/Identifier" := (A176.keep K192)
    have F225 : own_Str Z T205.heap b_187 (([] : List Int32) ++ [ca]) := (own_Str_keep1 f190 K222 F224 (by decide) (ow hw 137 rfl))
    have K226 : Keep T191.heap T205.heap [b176] := (Keep.refl T191.heap [b176]).trans Kp205 (allS (Or.inl (List.mem_of_getElem? (i := 0) rfl)) all0)
    have F227 : Exa Z T205.heap b_201 "java/lang/String" := (f203.keep K226)
    have F228 : own_Str Z T205.heap b_201 (([] : List Int32) ++ [cc]) := (own_Str_keep1 f204 K226 F207 (by decide) (ow hw 137 rfl))
    refine fin T205 _ _ _ (some (.ref b176)) X205 (fun q => nomatch q) (by decide) (by decide) ⟨N205, K220, ⟨b176, b_187, b_201, rfl, f211, f212, f213, F223, F225, F227, F228⟩⟩ _ (own_retA X205 hx hret rfl rfl rfl (hb hby own_d11_161))
  refine go _ _ (fun _ k => XS.iload X155.here hx rfl (hb hby own_d11_33) rfl (XS.bipush X155.here hx rfl (hb hby own_d11_35) k)) ?_
  show G (T155.setTop (mkF m 37 #[r' tk, .val pm, r' b101, r' b135, r' b135, i' 2, i' cc] [(.int 92), (.int cc)]))
  by_cases hc37_229 : cc = (92 : Int32)
  · refine go _ _ (fun _ k => XS.icmpNo X155.here hx rfl (hb hby own_d11_37) rfl (teq hc37_229).2 k) ?_
    show G (T155.setTop (mkF m 40 #[r' tk, .val pm, r' b101, r' b135, r' b135, i' 2, i' cc] []))
    refine go _ _ (fun _ k => XS.iload X155.here hx rfl (hb hby own_d11_40) rfl (XS.iconst X155.here hx rfl (hb hby own_d11_42) (XS.iadd X155.here hx rfl (hb hby own_d11_43) rfl (XS.aloadN X155.here hx rfl (hb hby own_d11_44) rfl rfl k)))) ?_
    obtain ⟨tx230, kbx230, Esx230, Vsx230, Csx230, Asx230, cdx230, bdx230, lnx230⟩ := own_Str_W F151
    obtain ⟨rv230, T230, L230, X230, q230, st230⟩ := own_vi X155 hx hZ (Q := fun v h L => v = some (.int (Int32.ofNat (([ca, (124 : Int32), cc] : List Int32)).length)) ∧ L = [] ∧ h = T136.heap) (kc := 0) (ks := 0) (y := (⟨"java/lang/String", "length", "()I"⟩ : MethodName)) (z := (⟨"java/lang/String", "length", "()I"⟩ : MethodName)) hown (ow hw 73 rfl) (ow hw 74 rfl) (ow hw 76 rfl) (ow hw 75 rfl) (Or.inl rfl) (by decide) (StrChars.Road.lenW (W := 1) hZ (own_hln hw) (kI := 4) (ow hw 5 rfl) Esx230 Vsx230 Csx230 Asx230 cdx230 bdx230 (O2.ext F153.2) P5 lnx230 (by decide) (by decide)) e155 F154 (g := (mkF m 45 #[r' tk, .val pm, r' b101, r' b135, r' b135, i' 2, i' cc] [(.ref tk), (.int 3)])) rfl (by rw [hml]; rfl) (argsL := []) (rest := [(.int (3 : Int32))]) rfl (lenOf own_pd1 rfl) rfl (by show 2 * 0 + _ ≤ _; exact Nat.le_of_eq rfl) (hb hby own_d11_45) (by decide) (by decide)
    obtain ⟨rfl, rfl, e230⟩ := q230
    have N230 := Fr.app N155 (Fr.nil n0)
    refine go _ _ (st230) ?_
    show G (T230.setTop (mkF m 48 #[r' tk, .val pm, r' b101, r' b135, r' b135, i' 2, i' cc] [(.int 3), (.int 3)]))
    refine go _ _ (fun _ k => XS.icmpYes X230.here hx rfl (pc0 := 48) (pc' := 69) rfl (hb hby own_d11_48) rfl (by decide) (by decide) (by decide) k) ?_
    show G (T230.setTop (mkF m 69 #[r' tk, .val pm, r' b101, r' b135, r' b135, i' 2, i' cc] []))
    refine go _ _ (fun _ k => XS.iload X230.here hx rfl (hb hby own_d11_69) rfl (XS.bipush X230.here hx rfl (hb hby own_d11_71) k)) ?_
    show G (T230.setTop (mkF m 73 #[r' tk, .val pm, r' b101, r' b135, r' b135, i' 2, i' cc] [(.int 124), (.int cc)]))
    by_cases hc73_231 : cc = (124 : Int32)
    · refine go _ _ (fun _ k => XS.icmpNo X230.here hx rfl (hb hby own_d11_73) rfl (teq hc73_231).2 k) ?_
      show G (T230.setTop (mkF m 76 #[r' tk, .val pm, r' b101, r' b135, r' b135, i' 2, i' cc] []))
      refine go _ _ (fun _ k => XS.aloadN X230.here hx rfl (hb hby own_d11_76) rfl rfl k) ?_
      show G (T230.setTop (mkF m 77 #[r' tk, .val pm, r' b101, r' b135, r' b135, i' 2, i' cc] [(.ref b135)]))
      refine go _ _ (fun _ k => XS.ifnonnullYes X230.here hx rfl (pc0 := 77) (pc' := 94) rfl (hb hby own_d11_77) rfl (by decide) (by decide) k) ?_
      show G (T230.setTop (mkF m 94 #[r' tk, .val pm, r' b101, r' b135, r' b135, i' 2, i' cc] []))
      exact J156 _ _ (X230.more (by decide) (by decide)) e230 N230 
    · refine go _ _ (fun _ k => XS.icmpYes X230.here hx rfl (pc0 := 73) (pc' := 94) rfl (hb hby own_d11_73) rfl (feq hc73_231).2 (by decide) (by decide) k) ?_
      show G (T230.setTop (mkF m 94 #[r' tk, .val pm, r' b101, r' b135, r' b135, i' 2, i' cc] []))
      exact J156 _ _ (X230.more (by decide) (by decide)) e230 N230 
  · refine go _ _ (fun _ k => XS.icmpYes X155.here hx rfl (pc0 := 37) (pc' := 69) rfl (hb hby own_d11_37) rfl (feq hc37_229).2 (by decide) (by decide) k) ?_
    show G (T155.setTop (mkF m 69 #[r' tk, .val pm, r' b101, r' b135, r' b135, i' 2, i' cc] []))
    refine go _ _ (fun _ k => XS.iload X155.here hx rfl (hb hby own_d11_69) rfl (XS.bipush X155.here hx rfl (hb hby own_d11_71) k)) ?_
    show G (T155.setTop (mkF m 73 #[r' tk, .val pm, r' b101, r' b135, r' b135, i' 2, i' cc] [(.int 124), (.int cc)]))
    by_cases hc73_232 : cc = (124 : Int32)
    · refine go _ _ (fun _ k => XS.icmpNo X155.here hx rfl (hb hby own_d11_73) rfl (teq hc73_232).2 k) ?_
      show G (T155.setTop (mkF m 76 #[r' tk, .val pm, r' b101, r' b135, r' b135, i' 2, i' cc] []))
      refine go _ _ (fun _ k => XS.aloadN X155.here hx rfl (hb hby own_d11_76) rfl rfl k) ?_
      show G (T155.setTop (mkF m 77 #[r' tk, .val pm, r' b101, r' b135, r' b135, i' 2, i' cc] [(.ref b135)]))
      refine go _ _ (fun _ k => XS.ifnonnullYes X155.here hx rfl (pc0 := 77) (pc' := 94) rfl (hb hby own_d11_77) rfl (by decide) (by decide) k) ?_
      show G (T155.setTop (mkF m 94 #[r' tk, .val pm, r' b101, r' b135, r' b135, i' 2, i' cc] []))
      exact J156 _ _ (X155.more (by decide) (by decide)) e155 N155 
    · refine go _ _ (fun _ k => XS.icmpYes X155.here hx rfl (pc0 := 73) (pc' := 94) rfl (hb hby own_d11_73) rfl (feq hc73_232).2 (by decide) (by decide) k) ?_
      show G (T155.setTop (mkF m 94 #[r' tk, .val pm, r' b101, r' b135, r' b135, i' 2, i' cc] []))
      exact J156 _ _ (X155.more (by decide) (by decide)) e155 N155 
set_option maxHeartbeats 4000000 in
theorem own_ef_rmT3 (m : MethodId) (x0 : Addr) (x1 : Value) (q1 : x1.isRef = true) : entryFrame m #[(.ref x0), x1] 7 = mkF m 0 #[.val (.ref x0), .val x1, .unset, .unset, .unset, .unset, .unset] [] := by simp [entryFrame, mkF, argsToLocals, own_catR, own_catI, own_catN, own_catJ, own_cat q1]
set_option maxRecDepth 65536 in
set_option maxHeartbeats 40000000 in
theorem rmT3 (l : Launch) (Z : State) (a0 : Array Value) (hw : ∀ d ∈ tables_1, d.before a0 Z = true) (z0 : Int32) (O2 : Sta Z Z.heap "java/lang/String" "COMPACT_STRINGS" "Z" (.int z0)) (P5 : ¬ z0 = (0 : Int32)) (fm0 : Value) (O4 : Sta Z Z.heap "jdk/internal/util/Preconditions" "SIOOBE_FORMATTER" "Ljava/util/function/BiFunction;" fm0) (R4 : fm0.isRef = true) (ws : List Jvm.Cond) (tk : Addr) (pm : Value) (ca : Int32) (cb : Int32) (cc : Int32) (cd : Int32) (h0 : Heap) (n0 : Nat) (Z0 : n0 ≤ h0.size) (rpm : pm.isRef = true) (Xo : Old Z n0 h0) (Et : Exa Z h0 tk "java/lang/String") (St : own_Str Z h0 tk ([(92 : Int32), ca, (92 : Int32), cb, (124 : Int32), cc, cd] : List Int32)) (bca0 : ¬ ca < (0 : Int32)) (bca1 : ¬ (255 : Int32) < ca) (bcb0 : ¬ cb < (0 : Int32)) (bcb1 : ¬ (255 : Int32) < cb) (bcc0 : ¬ cc < (0 : Int32)) (bcc1 : ¬ (255 : Int32) < cc) (bcd0 : ¬ cd < (0 : Int32)) (bcd1 : ¬ (255 : Int32) < cd) :
    own_MetN l Z (⟨"com/example/kindred/kindred/Identifier", "ofToken", "(Ljava/lang/String;Ljava/lang/String;)Lcom/example/kindred/kindred/Identifier;"⟩ : MethodName) prog_12_method_3_code 7 (some (.object "com/example/kindred/kindred/Identifier")) ws ({ frames := 6, cells := 9, slots := 82, locals := 103 } : Room) #[(.ref tk), pm] h0 (fun v h L => Fr n0 L ∧ Keep h0 h [] ∧ ((∃ (b : Addr) (s1 : Addr) (s2 : Addr), (v = some (.ref b)) ∧ (cc = (92 : Int32)) ∧ (Exa Z h b "com/example/kindred/kindred/Identifier") ∧ (Fld Z h b "com/example/kindred/kindred/Identifier" "system" "Ljava/lang/String;" (.ref s1)) ∧ (Fld Z h b "com/example/kindred/kindred/Identifier" "value" "Ljava/lang/String;" (.ref s2)) ∧ (Exa Z h s1 "java/lang/String") ∧ (own_Str Z h s1 ((([] : List Int32) ++ [ca]) ++ [cb])) ∧ (Exa Z h s2 "java/lang/String") ∧ (own_Str Z h s2 (([] : List Int32) ++ [cd]))) ∨ (∃ (b : Addr) (s1 : Addr) (s2 : Addr), (v = some (.ref b)) ∧ (¬ cc = (92 : Int32)) ∧ (Exa Z h b "com/example/kindred/kindred/Identifier") ∧ (Fld Z h b "com/example/kindred/kindred/Identifier" "system" "Ljava/lang/String;" (.ref s1)) ∧ (Fld Z h b "com/example/kindred/kindred/Identifier" "value" "Ljava/lang/String;" (.ref s2)) ∧ (Exa Z h s1 "java/lang/String") ∧ (own_Str Z h s1 ((([] : List Int32) ++ [ca]) ++ [cb])) ∧ (Exa Z h s2 "java/lang/String") ∧ (own_Str Z h s2 ((([] : List Int32) ++ [cc]) ++ [cd]))))) := by
  refine own_metN (plainFor_of_name own_pn7) ?_
  intro p e s m below meth c s₁ G hx hby hml hZ hown hnm hret X0 e0 go fin
  have N0 := Fr.nil n0
  refine go _ _ (fun _ k => castTop (own_ef_rmT3 m tk pm rpm) k) ?_
  obtain ⟨T101, h101, X101, e101, E101, A101, D101, -, st101⟩ := newO X0 hx hZ hown (ow hw 55 rfl) (ow hw 56 rfl) (ow hw 57 rfl) e0 (g := (mkF m 0 #[r' tk, .val pm, u', u', u', u', u'] [])) rfl (hb hby own_d11_0) (by decide) (by decide)
  obtain ⟨b101, g101⟩ : ∃ z, z = h0.size := ⟨_, rfl⟩
  rw [← g101] at A101 D101 st101
  refine go _ _ (st101) ?_
  show G (T101.setTop (mkF m 3 #[r' tk, .val pm, u', u', u', u', u'] [(.ref b101)]))
  refine go _ _ (fun _ k => XS.dup X101.here hx rfl (hb hby own_d11_3) rfl rfl k) ?_
  have K103 : Keep h0 h101 [] := (Keep.refl h0 []).ext E101
  have F104 : Old Z n0 h101 := (Xo.keep K103 all0)
  have Z105 : h0.size ≤ h101.size := E101.1
  obtain ⟨rv102, T102, L102, X102, q102, st102⟩ := own_sp X101 hx hZ (y := (⟨"java/lang/StringBuilder", "<init>", "()V"⟩ : MethodName)) rfl hown (ow hw 58 rfl) (ow hw 59 rfl) (ow hw 60 rfl) (by decide) (own_bkN (W := 1) (rm12 l Z a0 hw z0 O2 P5 fm0 O4 R4 [] b101 h101 n0 (Nat.le_trans Z0 Z105) F104 A101 (D101 (Or.inl (ow hw 70 rfl)) (ty := (.array .byte)) (by decide)) (D101 (Or.inl (ow hw 72 rfl)) (ty := .byte) (by decide)) (D101 (Or.inl (ow hw 115 rfl)) (ty := .int) (by decide)) (Nat.le_trans Z0 (Nat.le_of_eq g101.symm))) hZ (ow hw 60 rfl) (ow hw 57 rfl) (by decide) (by decide)) e101 (g := (mkF m 4 #[r' tk, .val pm, u', u', u', u', u'] [(.ref b101), (.ref b101)])) rfl (by rw [hml]; rfl) (a := b101) (argsL := []) (rest := [(.ref b101)]) rfl (lenOf own_pd13 rfl) rfl (by show 2 * 0 + _ ≤ _; exact Nat.le_of_eq rfl) (hb hby own_d11_4) (by decide) (by decide)
  obtain ⟨Nq102, Kp102, ⟨t_106, kb_107, rfl, z108, f109, f110, f111, f112, f113⟩⟩ := q102
  have N102 := Fr.app N0 Nq102
  refine go _ _ (st102) ?_
  show G (T102.setTop (mkF m 7 #[r' tk, .val pm, u', u', u', u', u'] [(.ref b101)]))
  refine go _ _ (fun _ k => XS.astoreN X102.here hx rfl (hb hby own_d11_7) rfl rfl (l' := #[r' tk, .val pm, r' b101, u', u', u', u']) rfl (XS.aconstNull X102.here hx rfl (hb hby own_d11_8) (XS.astoreN X102.here hx rfl (hb hby own_d11_9) rfl rfl (l' := #[r' tk, .val pm, r' b101, .val .null, u', u', u']) rfl (XS.aloadN X102.here hx rfl (hb hby own_d11_10) rfl rfl (XS.astore X102.here hx rfl (hb hby own_d11_11) rfl rfl (l' := #[r' tk, .val pm, r' b101, .val .null, r' b101, u', u']) rfl (XS.iconst X102.here hx rfl (hb hby own_d11_13) k)))))) ?_
  show G (T102.setTop (mkF m 14 #[r' tk, .val pm, r' b101, .val .null, r' b101, u', u'] [(.int 0)]))
  refine go _ _ (fun _ k => XS.istore X102.here hx rfl (hb hby own_d11_14) rfl (l' := #[r' tk, .val pm, r' b101, .val .null, r' b101, i' 0, u']) rfl (XS.iload X102.here hx rfl (hb hby own_d11_16) rfl (XS.aloadN X102.here hx rfl (hb hby own_d11_18) rfl rfl k))) ?_
  have K115 : Keep h0 T102.heap [] := K103.trans Kp102 (allS (Or.inr (Nat.le_of_eq g101.symm)) all0)
  have F116 : own_Str Z T102.heap tk ([(92 : Int32), ca, (92 : Int32), cb, (124 : Int32), cc, cd] : List Int32) := (own_Str_keep St K115)
  obtain ⟨tx114, kbx114, Esx114, Vsx114, Csx114, Asx114, cdx114, bdx114, lnx114⟩ := own_Str_W F116
  have K117 : Keep h101 T102.heap [b101] := (Keep.refl h101 [b101]).trans Kp102 (allS (Or.inl (List.mem_of_getElem? (i := 0) rfl)) all0)
  have F118 : Old Z n0 T102.heap := (F104.keep K117 (allS (Nat.le_trans Z0 (Nat.le_of_eq g101.symm)) all0))
  have F119 : Exa Z T102.heap tk "java/lang/String" := (Et.keep K115)
  obtain ⟨rv114, T114, L114, X114, q114, st114⟩ := own_vi X102 hx hZ (Q := fun v h L => v = some (.int (Int32.ofNat (([(92 : Int32), ca, (92 : Int32), cb, (124 : Int32), cc, cd] : List Int32)).length)) ∧ L = [] ∧ h = T102.heap) (kc := 0) (ks := 0) (y := (⟨"java/lang/String", "length", "()I"⟩ : MethodName)) (z := (⟨"java/lang/String", "length", "()I"⟩ : MethodName)) hown (ow hw 73 rfl) (ow hw 74 rfl) (ow hw 76 rfl) (ow hw 75 rfl) (Or.inl rfl) (by decide) (StrChars.Road.lenW (W := 1) hZ (own_hln hw) (kI := 4) (ow hw 5 rfl) Esx114 Vsx114 Csx114 Asx114 cdx114 bdx114 (O2.ext F118.2) P5 lnx114 (by decide) (by decide)) rfl F119 (g := (mkF m 19 #[r' tk, .val pm, r' b101, .val .null, r' b101, i' 0, u'] [(.ref tk), (.int 0)])) rfl (by rw [hml]; rfl) (argsL := []) (rest := [(.int (0 : Int32))]) rfl (lenOf own_pd1 rfl) rfl (by show 2 * 0 + _ ≤ _; exact Nat.le_of_eq rfl) (hb hby own_d11_19) (by decide) (by decide)
  obtain ⟨rfl, rfl, e114⟩ := q114
  have N114 := Fr.app N102 (Fr.nil n0)
  refine go _ _ (st114) ?_
  show G (T114.setTop (mkF m 22 #[r' tk, .val pm, r' b101, .val .null, r' b101, i' 0, u'] [(.int 7), (.int 0)]))
  refine go _ _ (fun _ k => XS.icmpNo X114.here hx rfl (hb hby own_d11_22) rfl (by decide) k) ?_
  show G (T114.setTop (mkF m 25 #[r' tk, .val pm, r' b101, .val .null, r' b101, i' 0, u'] []))
  refine go _ _ (fun _ k => XS.aloadN X114.here hx rfl (hb hby own_d11_25) rfl rfl (XS.iload X114.here hx rfl (hb hby own_d11_26) rfl k)) ?_
  obtain ⟨tx120, kbx120, Esx120, Vsx120, Csx120, Asx120, cdx120, bdx120, lnx120⟩ := own_Str_W F116
  obtain ⟨rv120, T120, L120, X120, q120, st120⟩ := own_vi X114 hx hZ (Q := fun v h L => v = some (.int ((([(92 : Int32), ca, (92 : Int32), cb, (124 : Int32), cc, cd] : List Int32)).getD 0 0)) ∧ L = [] ∧ h = T102.heap) (kc := 0) (ks := 0) (y := (⟨"java/lang/String", "charAt", "(I)C"⟩ : MethodName)) (z := (⟨"java/lang/String", "charAt", "(I)C"⟩ : MethodName)) hown (ow hw 83 rfl) (ow hw 84 rfl) (ow hw 86 rfl) (ow hw 85 rfl) (Or.inl rfl) (by decide) (StrChars.Road.chN (W := 0) hZ (own_hch hw) (kI := 4) (ow hw 5 rfl) Esx120 Vsx120 Csx120 Asx120 cdx120 bdx120 (O2.ext F118.2) P5 (O4.ext F118.2) R4 lnx120 (i := 0) (Nat.le_of_ble_eq_true rfl) (j := (0 : Int32)) (by decide) (by decide) (by decide)) e114 F119 (g := (mkF m 28 #[r' tk, .val pm, r' b101, .val .null, r' b101, i' 0, u'] [(.int 0), (.ref tk)])) rfl (by rw [hml]; rfl) (argsL := [(.int (0 : Int32))]) (rest := []) rfl (lenOf own_pd14 rfl) rfl (by show 2 * 0 + _ ≤ _; exact Nat.le_of_eq rfl) (hb hby own_d11_28) (by decide) (by decide)
  obtain ⟨rfl, rfl, e120⟩ := q120
  have N120 := Fr.app N114 (Fr.nil n0)
  refine go _ _ (st120) ?_
  show G (T120.setTop (mkF m 31 #[r' tk, .val pm, r' b101, .val .null, r' b101, i' 0, u'] [(.int 92)]))
  refine go _ _ (fun _ k => XS.istore X120.here hx rfl (hb hby own_d11_31) rfl (l' := #[r' tk, .val pm, r' b101, .val .null, r' b101, i' 0, i' 92]) rfl (XS.iload X120.here hx rfl (hb hby own_d11_33) rfl (XS.bipush X120.here hx rfl (hb hby own_d11_35) k))) ?_
  show G (T120.setTop (mkF m 37 #[r' tk, .val pm, r' b101, .val .null, r' b101, i' 0, i' 92] [(.int 92), (.int 92)]))
  refine go _ _ (fun _ k => XS.icmpNo X120.here hx rfl (hb hby own_d11_37) rfl (by decide) k) ?_
  show G (T120.setTop (mkF m 40 #[r' tk, .val pm, r' b101, .val .null, r' b101, i' 0, i' 92] []))
  refine go _ _ (fun _ k => XS.iload X120.here hx rfl (hb hby own_d11_40) rfl (XS.iconst X120.here hx rfl (hb hby own_d11_42) (XS.iadd X120.here hx rfl (hb hby own_d11_43) rfl (XS.aloadN X120.here hx rfl (hb hby own_d11_44) rfl rfl k)))) ?_
  obtain ⟨tx121, kbx121, Esx121, Vsx121, Csx121, Asx121, cdx121, bdx121, lnx121⟩ := own_Str_W F116
  obtain ⟨rv121, T121, L121, X121, q121, st121⟩ := own_vi X120 hx hZ (Q := fun v h L => v = some (.int (Int32.ofNat (([(92 : Int32), ca, (92 : Int32), cb, (124 : Int32), cc, cd] : List Int32)).length)) ∧ L = [] ∧ h = T102.heap) (kc := 0) (ks := 0) (y := (⟨"java/lang/String", "length", "()I"⟩ : MethodName)) (z := (⟨"java/lang/String", "length", "()I"⟩ : MethodName)) hown (ow hw 73 rfl) (ow hw 74 rfl) (ow hw 76 rfl) (ow hw 75 rfl) (Or.inl rfl) (by decide) (StrChars.Road.lenW (W := 1) hZ (own_hln hw) (kI := 4) (ow hw 5 rfl) Esx121 Vsx121 Csx121 Asx121 cdx121 bdx121 (O2.ext F118.2) P5 lnx121 (by decide) (by decide)) e120 F119 (g := (mkF m 45 #[r' tk, .val pm, r' b101, .val .null, r' b101, i' 0, i' 92] [(.ref tk), (.int 1)])) rfl (by rw [hml]; rfl) (argsL := []) (rest := [(.int (1 : Int32))]) rfl (lenOf own_pd1 rfl) rfl (by show 2 * 0 + _ ≤ _; exact Nat.le_of_eq rfl) (hb hby own_d11_45) (by decide) (by decide)
  obtain ⟨rfl, rfl, e121⟩ := q121
  have N121 := Fr.app N120 (Fr.nil n0)
  refine go _ _ (st121) ?_
  show G (T121.setTop (mkF m 48 #[r' tk, .val pm, r' b101, .val .null, r' b101, i' 0, i' 92] [(.int 7), (.int 1)]))
  refine go _ _ (fun _ k => XS.icmpNo X121.here hx rfl (hb hby own_d11_48) rfl (by decide) k) ?_
  show G (T121.setTop (mkF m 51 #[r' tk, .val pm, r' b101, .val .null, r' b101, i' 0, i' 92] []))
  refine go _ _ (fun _ k => XS.iinc X121.here hx rfl (hb hby own_d11_51) rfl (l' := #[r' tk, .val pm, r' b101, .val .null, r' b101, i' 1, i' 92]) rfl (XS.aload X121.here hx rfl (hb hby own_d11_54) rfl rfl (XS.aloadN X121.here hx rfl (hb hby own_d11_56) rfl rfl (XS.iload X121.here hx rfl (hb hby own_d11_57) rfl k)))) ?_
  obtain ⟨tx122, kbx122, Esx122, Vsx122, Csx122, Asx122, cdx122, bdx122, lnx122⟩ := own_Str_W F116
  obtain ⟨rv122, T122, L122, X122, q122, st122⟩ := own_vi X121 hx hZ (Q := fun v h L => v = some (.int ((([(92 : Int32), ca, (92 : Int32), cb, (124 : Int32), cc, cd] : List Int32)).getD 1 0)) ∧ L = [] ∧ h = T102.heap) (kc := 0) (ks := 0) (y := (⟨"java/lang/String", "charAt", "(I)C"⟩ : MethodName)) (z := (⟨"java/lang/String", "charAt", "(I)C"⟩ : MethodName)) hown (ow hw 83 rfl) (ow hw 84 rfl) (ow hw 86 rfl) (ow hw 85 rfl) (Or.inl rfl) (by decide) (StrChars.Road.chN (W := 1) hZ (own_hch hw) (kI := 4) (ow hw 5 rfl) Esx122 Vsx122 Csx122 Asx122 cdx122 bdx122 (O2.ext F118.2) P5 (O4.ext F118.2) R4 lnx122 (i := 1) (Nat.le_of_ble_eq_true rfl) (j := (1 : Int32)) (by decide) (by decide) (by decide)) e121 F119 (g := (mkF m 59 #[r' tk, .val pm, r' b101, .val .null, r' b101, i' 1, i' 92] [(.int 1), (.ref tk), (.ref b101)])) rfl (by rw [hml]; rfl) (argsL := [(.int (1 : Int32))]) (rest := [(.ref b101)]) rfl (lenOf own_pd14 rfl) rfl (by show 2 * 0 + _ ≤ _; exact Nat.le_of_eq rfl) (hb hby own_d11_59) (by decide) (by decide)
  obtain ⟨rfl, rfl, e122⟩ := q122
  have N122 := Fr.app N121 (Fr.nil n0)
  refine go _ _ (st122) ?_
  have Z124 : h0.size ≤ T102.heap.size := Nat.le_trans Z105 Kp102.1
  obtain ⟨rv123, T123, L123, X123, q123, st123⟩ := own_vi X122 hx hZ (y := (⟨"java/lang/StringBuilder", "append", "(C)Ljava/lang/StringBuilder;"⟩ : MethodName)) (z := (⟨"java/lang/StringBuilder", "append", "(C)Ljava/lang/StringBuilder;"⟩ : MethodName)) hown (ow hw 104 rfl) (ow hw 105 rfl) (ow hw 107 rfl) (ow hw 106 rfl) (Or.inl rfl) (by decide) (own_bkN (W := 0) (rm21 l Z a0 hw z0 O2 P5 fm0 O4 R4 [] b101 ca t_106 kb_107 ([] : List Int32) T102.heap n0 (Nat.le_trans Z0 Z124) F118 f109 f110 f111 f112 f113 bca1 (Nat.le_of_ble_eq_true rfl) (Nat.le_trans Z0 (Nat.le_of_eq g101.symm)) (Nat.le_trans (Nat.le_trans Z0 Z105) z108)) hZ (ow hw 108 rfl) (ow hw 57 rfl) (by decide) (by decide)) e122 f109 (g := (mkF m 62 #[r' tk, .val pm, r' b101, .val .null, r' b101, i' 1, i' 92] [(.int ca), (.ref b101)])) rfl (by rw [hml]; rfl) (argsL := [(.int ca)]) (rest := []) rfl (lenOf own_pd15 rfl) rfl (by show 2 * 0 + _ ≤ _; exact Nat.le_of_eq rfl) (hb hby own_d11_62) (by decide) (by decide)
  obtain ⟨Nq123, Kp123, ⟨rfl, f125, f126, f127, f128, f129⟩⟩ := q123
  have N123 := Fr.app N122 Nq123
  refine go _ _ (st123) ?_
  show G (T123.setTop (mkF m 65 #[r' tk, .val pm, r' b101, .val .null, r' b101, i' 1, i' 92] [(.ref b101)]))
  refine go _ _ (fun _ k => XS.pop X123.here hx rfl (hb hby own_d11_65) rfl rfl k) ?_
  show G (T123.setTop (mkF m 66 #[r' tk, .val pm, r' b101, .val .null, r' b101, i' 1, i' 92] []))
  refine go _ _ (fun _ k => XS.goto X123.here hx rfl (pc0 := 66) (pc' := 102) rfl (hb hby own_d11_66) (by decide) (by decide) k) ?_
  show G (T123.setTop (mkF m 102 #[r' tk, .val pm, r' b101, .val .null, r' b101, i' 1, i' 92] []))
  refine go _ _ (fun _ k => XS.iinc X123.here hx rfl (hb hby own_d11_102) rfl (l' := #[r' tk, .val pm, r' b101, .val .null, r' b101, i' 2, i' 92]) rfl k) ?_
  show G (T123.setTop (mkF m 105 #[r' tk, .val pm, r' b101, .val .null, r' b101, i' 2, i' 92] []))
  refine go _ _ (fun _ k => XS.goto X123.here hx rfl (pc0 := 105) (pc' := 16) rfl (hb hby own_d11_105) (by decide) (by decide) k) ?_
  show G (T123.setTop (mkF m 16 #[r' tk, .val pm, r' b101, .val .null, r' b101, i' 2, i' 92] []))
  refine go _ _ (fun _ k => XS.iload X123.here hx rfl (hb hby own_d11_16) rfl (XS.aloadN X123.here hx rfl (hb hby own_d11_18) rfl rfl k)) ?_
  have K131 : Keep h0 T123.heap [] := K115.trans Kp123 (allS (Or.inr (Nat.le_of_eq g101.symm)) (allS (Or.inr (Nat.le_trans Z105 z108)) all0))
  have F132 : own_Str Z T123.heap tk ([(92 : Int32), ca, (92 : Int32), cb, (124 : Int32), cc, cd] : List Int32) := (own_Str_keep St K131)
  obtain ⟨tx130, kbx130, Esx130, Vsx130, Csx130, Asx130, cdx130, bdx130, lnx130⟩ := own_Str_W F132
  have K133 : Keep T102.heap T123.heap [b101, t_106] := (Keep.refl T102.heap [b101, t_106]).trans Kp123 (allS (Or.inl (List.mem_of_getElem? (i := 0) rfl)) (allS (Or.inl (List.mem_of_getElem? (i := 1) rfl)) all0))
  have F134 : Old Z n0 T123.heap := (F118.keep K133 (allS (Nat.le_trans Z0 (Nat.le_of_eq g101.symm)) (allS (Nat.le_trans (Nat.le_trans Z0 Z105) z108) all0)))
  have F135 : Exa Z T123.heap tk "java/lang/String" := (F119.keep K133)
  obtain ⟨rv130, T130, L130, X130, q130, st130⟩ := own_vi X123 hx hZ (Q := fun v h L => v = some (.int (Int32.ofNat (([(92 : Int32), ca, (92 : Int32), cb, (124 : Int32), cc, cd] : List Int32)).length)) ∧ L = [] ∧ h = T123.heap) (kc := 0) (ks := 0) (y := (⟨"java/lang/String", "length", "()I"⟩ : MethodName)) (z := (⟨"java/lang/String", "length", "()I"⟩ : MethodName)) hown (ow hw 73 rfl) (ow hw 74 rfl) (ow hw 76 rfl) (ow hw 75 rfl) (Or.inl rfl) (by decide) (StrChars.Road.lenW (W := 1) hZ (own_hln hw) (kI := 4) (ow hw 5 rfl) Esx130 Vsx130 Csx130 Asx130 cdx130 bdx130 (O2.ext F134.2) P5 lnx130 (by decide) (by decide)) rfl F135 (g := (mkF m 19 #[r' tk, .val pm, r' b101, .val .null, r' b101, i' 2, i' 92] [(.ref tk), (.int 2)])) rfl (by rw [hml]; rfl) (argsL := []) (rest := [(.int (2 : Int32))]) rfl (lenOf own_pd1 rfl) rfl (by show 2 * 0 + _ ≤ _; exact Nat.le_of_eq rfl) (hb hby own_d11_19) (by decide) (by decide)
  obtain ⟨rfl, rfl, e130⟩ := q130
  have N130 := Fr.app N123 (Fr.nil n0)
  refine go _ _ (st130) ?_
  show G (T130.setTop (mkF m 22 #[r' tk, .val pm, r' b101, .val .null, r' b101, i' 2, i' 92] [(.int 7), (.int 2)]))
  refine go _ _ (fun _ k => XS.icmpNo X130.here hx rfl (hb hby own_d11_22) rfl (by decide) k) ?_
  show G (T130.setTop (mkF m 25 #[r' tk, .val pm, r' b101, .val .null, r' b101, i' 2, i' 92] []))
  refine go _ _ (fun _ k => XS.aloadN X130.here hx rfl (hb hby own_d11_25) rfl rfl (XS.iload X130.here hx rfl (hb hby own_d11_26) rfl k)) ?_
  obtain ⟨tx136, kbx136, Esx136, Vsx136, Csx136, Asx136, cdx136, bdx136, lnx136⟩ := own_Str_W F132
  obtain ⟨rv136, T136, L136, X136, q136, st136⟩ := own_vi X130 hx hZ (Q := fun v h L => v = some (.int ((([(92 : Int32), ca, (92 : Int32), cb, (124 : Int32), cc, cd] : List Int32)).getD 2 0)) ∧ L = [] ∧ h = T123.heap) (kc := 0) (ks := 0) (y := (⟨"java/lang/String", "charAt", "(I)C"⟩ : MethodName)) (z := (⟨"java/lang/String", "charAt", "(I)C"⟩ : MethodName)) hown (ow hw 83 rfl) (ow hw 84 rfl) (ow hw 86 rfl) (ow hw 85 rfl) (Or.inl rfl) (by decide) (StrChars.Road.chN (W := 0) hZ (own_hch hw) (kI := 4) (ow hw 5 rfl) Esx136 Vsx136 Csx136 Asx136 cdx136 bdx136 (O2.ext F134.2) P5 (O4.ext F134.2) R4 lnx136 (i := 2) (Nat.le_of_ble_eq_true rfl) (j := (2 : Int32)) (by decide) (by decide) (by decide)) e130 F135 (g := (mkF m 28 #[r' tk, .val pm, r' b101, .val .null, r' b101, i' 2, i' 92] [(.int 2), (.ref tk)])) rfl (by rw [hml]; rfl) (argsL := [(.int (2 : Int32))]) (rest := []) rfl (lenOf own_pd14 rfl) rfl (by show 2 * 0 + _ ≤ _; exact Nat.le_of_eq rfl) (hb hby own_d11_28) (by decide) (by decide)
  obtain ⟨rfl, rfl, e136⟩ := q136
  have N136 := Fr.app N130 (Fr.nil n0)
  refine go _ _ (st136) ?_
  show G (T136.setTop (mkF m 31 #[r' tk, .val pm, r' b101, .val .null, r' b101, i' 2, i' 92] [(.int 92)]))
  refine go _ _ (fun _ k => XS.istore X136.here hx rfl (hb hby own_d11_31) rfl (l' := #[r' tk, .val pm, r' b101, .val .null, r' b101, i' 2, i' 92]) rfl (XS.iload X136.here hx rfl (hb hby own_d11_33) rfl (XS.bipush X136.here hx rfl (hb hby own_d11_35) k))) ?_
  show G (T136.setTop (mkF m 37 #[r' tk, .val pm, r' b101, .val .null, r' b101, i' 2, i' 92] [(.int 92), (.int 92)]))
  refine go _ _ (fun _ k => XS.icmpNo X136.here hx rfl (hb hby own_d11_37) rfl (by decide) k) ?_
  show G (T136.setTop (mkF m 40 #[r' tk, .val pm, r' b101, .val .null, r' b101, i' 2, i' 92] []))
  refine go _ _ (fun _ k => XS.iload X136.here hx rfl (hb hby own_d11_40) rfl (XS.iconst X136.here hx rfl (hb hby own_d11_42) (XS.iadd X136.here hx rfl (hb hby own_d11_43) rfl (XS.aloadN X136.here hx rfl (hb hby own_d11_44) rfl rfl k)))) ?_
  obtain ⟨tx137, kbx137, Esx137, Vsx137, Csx137, Asx137, cdx137, bdx137, lnx137⟩ := own_Str_W F132
  obtain ⟨rv137, T137, L137, X137, q137, st137⟩ := own_vi X136 hx hZ (Q := fun v h L => v = some (.int (Int32.ofNat (([(92 : Int32), ca, (92 : Int32), cb, (124 : Int32), cc, cd] : List Int32)).length)) ∧ L = [] ∧ h = T123.heap) (kc := 0) (ks := 0) (y := (⟨"java/lang/String", "length", "()I"⟩ : MethodName)) (z := (⟨"java/lang/String", "length", "()I"⟩ : MethodName)) hown (ow hw 73 rfl) (ow hw 74 rfl) (ow hw 76 rfl) (ow hw 75 rfl) (Or.inl rfl) (by decide) (StrChars.Road.lenW (W := 1) hZ (own_hln hw) (kI := 4) (ow hw 5 rfl) Esx137 Vsx137 Csx137 Asx137 cdx137 bdx137 (O2.ext F134.2) P5 lnx137 (by decide) (by decide)) e136 F135 (g := (mkF m 45 #[r' tk, .val pm, r' b101, .val .null, r' b101, i' 2, i' 92] [(.ref tk), (.int 3)])) rfl (by rw [hml]; rfl) (argsL := []) (rest := [(.int (3 : Int32))]) rfl (lenOf own_pd1 rfl) rfl (by show 2 * 0 + _ ≤ _; exact Nat.le_of_eq rfl) (hb hby own_d11_45) (by decide) (by decide)
  obtain ⟨rfl, rfl, e137⟩ := q137
  have N137 := Fr.app N136 (Fr.nil n0)
  refine go _ _ (st137) ?_
  show G (T137.setTop (mkF m 48 #[r' tk, .val pm, r' b101, .val .null, r' b101, i' 2, i' 92] [(.int 7), (.int 3)]))
  refine go _ _ (fun _ k => XS.icmpNo X137.here hx rfl (hb hby own_d11_48) rfl (by decide) k) ?_
  show G (T137.setTop (mkF m 51 #[r' tk, .val pm, r' b101, .val .null, r' b101, i' 2, i' 92] []))
  refine go _ _ (fun _ k => XS.iinc X137.here hx rfl (hb hby own_d11_51) rfl (l' := #[r' tk, .val pm, r' b101, .val .null, r' b101, i' 3, i' 92]) rfl (XS.aload X137.here hx rfl (hb hby own_d11_54) rfl rfl (XS.aloadN X137.here hx rfl (hb hby own_d11_56) rfl rfl (XS.iload X137.here hx rfl (hb hby own_d11_57) rfl k)))) ?_
  obtain ⟨tx138, kbx138, Esx138, Vsx138, Csx138, Asx138, cdx138, bdx138, lnx138⟩ := own_Str_W F132
  obtain ⟨rv138, T138, L138, X138, q138, st138⟩ := own_vi X137 hx hZ (Q := fun v h L => v = some (.int ((([(92 : Int32), ca, (92 : Int32), cb, (124 : Int32), cc, cd] : List Int32)).getD 3 0)) ∧ L = [] ∧ h = T123.heap) (kc := 0) (ks := 0) (y := (⟨"java/lang/String", "charAt", "(I)C"⟩ : MethodName)) (z := (⟨"java/lang/String", "charAt", "(I)C"⟩ : MethodName)) hown (ow hw 83 rfl) (ow hw 84 rfl) (ow hw 86 rfl) (ow hw 85 rfl) (Or.inl rfl) (by decide) (StrChars.Road.chN (W := 1) hZ (own_hch hw) (kI := 4) (ow hw 5 rfl) Esx138 Vsx138 Csx138 Asx138 cdx138 bdx138 (O2.ext F134.2) P5 (O4.ext F134.2) R4 lnx138 (i := 3) (Nat.le_of_ble_eq_true rfl) (j := (3 : Int32)) (by decide) (by decide) (by decide)) e137 F135 (g := (mkF m 59 #[r' tk, .val pm, r' b101, .val .null, r' b101, i' 3, i' 92] [(.int 3), (.ref tk), (.ref b101)])) rfl (by rw [hml]; rfl) (argsL := [(.int (3 : Int32))]) (rest := [(.ref b101)]) rfl (lenOf own_pd14 rfl) rfl (by show 2 * 0 + _ ≤ _; exact Nat.le_of_eq rfl) (hb hby own_d11_59) (by decide) (by decide)
  obtain ⟨rfl, rfl, e138⟩ := q138
  have N138 := Fr.app N137 (Fr.nil n0)
  refine go _ _ (st138) ?_
  have Z140 : h0.size ≤ T123.heap.size := Nat.le_trans Z124 Kp123.1
  obtain ⟨rv139, T139, L139, X139, q139, st139⟩ := own_vi X138 hx hZ (y := (⟨"java/lang/StringBuilder", "append", "(C)Ljava/lang/StringBuilder;"⟩ : MethodName)) (z := (⟨"java/lang/StringBuilder", "append", "(C)Ljava/lang/StringBuilder;"⟩ : MethodName)) hown (ow hw 104 rfl) (ow hw 105 rfl) (ow hw 107 rfl) (ow hw 106 rfl) (Or.inl rfl) (by decide) (own_bkN (W := 0) (rm21 l Z a0 hw z0 O2 P5 fm0 O4 R4 [] b101 cb t_106 kb_107 (([] : List Int32) ++ [ca]) T123.heap n0 (Nat.le_trans Z0 Z140) F134 f125 f126 f127 f128 f129 bcb1 (Nat.le_of_ble_eq_true rfl) (Nat.le_trans Z0 (Nat.le_of_eq g101.symm)) (Nat.le_trans (Nat.le_trans Z0 Z105) z108)) hZ (ow hw 108 rfl) (ow hw 57 rfl) (by decide) (by decide)) e138 f125 (g := (mkF m 62 #[r' tk, .val pm, r' b101, .val .null, r' b101, i' 3, i' 92] [(.int cb), (.ref b101)])) rfl (by rw [hml]; rfl) (argsL := [(.int cb)]) (rest := []) rfl (lenOf own_pd15 rfl) rfl (by show 2 * 0 + _ ≤ _; exact Nat.le_of_eq rfl) (hb hby own_d11_62) (by decide) (by decide)
  obtain ⟨Nq139, Kp139, ⟨rfl, f141, f142, f143, f144, f145⟩⟩ := q139
  have N139 := Fr.app N138 Nq139
  refine go _ _ (st139) ?_
  show G (T139.setTop (mkF m 65 #[r' tk, .val pm, r' b101, .val .null, r' b101, i' 3, i' 92] [(.ref b101)]))
  refine go _ _ (fun _ k => XS.pop X139.here hx rfl (hb hby own_d11_65) rfl rfl k) ?_
  show G (T139.setTop (mkF m 66 #[r' tk, .val pm, r' b101, .val .null, r' b101, i' 3, i' 92] []))
  refine go _ _ (fun _ k => XS.goto X139.here hx rfl (pc0 := 66) (pc' := 102) rfl (hb hby own_d11_66) (by decide) (by decide) k) ?_
  show G (T139.setTop (mkF m 102 #[r' tk, .val pm, r' b101, .val .null, r' b101, i' 3, i' 92] []))
  refine go _ _ (fun _ k => XS.iinc X139.here hx rfl (hb hby own_d11_102) rfl (l' := #[r' tk, .val pm, r' b101, .val .null, r' b101, i' 4, i' 92]) rfl k) ?_
  show G (T139.setTop (mkF m 105 #[r' tk, .val pm, r' b101, .val .null, r' b101, i' 4, i' 92] []))
  refine go _ _ (fun _ k => XS.goto X139.here hx rfl (pc0 := 105) (pc' := 16) rfl (hb hby own_d11_105) (by decide) (by decide) k) ?_
  show G (T139.setTop (mkF m 16 #[r' tk, .val pm, r' b101, .val .null, r' b101, i' 4, i' 92] []))
  refine go _ _ (fun _ k => XS.iload X139.here hx rfl (hb hby own_d11_16) rfl (XS.aloadN X139.here hx rfl (hb hby own_d11_18) rfl rfl k)) ?_
  have K147 : Keep h0 T139.heap [] := K131.trans Kp139 (allS (Or.inr (Nat.le_of_eq g101.symm)) (allS (Or.inr (Nat.le_trans Z105 z108)) all0))
  have F148 : own_Str Z T139.heap tk ([(92 : Int32), ca, (92 : Int32), cb, (124 : Int32), cc, cd] : List Int32) := (own_Str_keep St K147)
  obtain ⟨tx146, kbx146, Esx146, Vsx146, Csx146, Asx146, cdx146, bdx146, lnx146⟩ := own_Str_W F148
  have K149 : Keep T123.heap T139.heap [b101, t_106] := (Keep.refl T123.heap [b101, t_106]).trans Kp139 (allS (Or.inl (List.mem_of_getElem? (i := 0) rfl)) (allS (Or.inl (List.mem_of_getElem? (i := 1) rfl)) all0))
  have F150 : Old Z n0 T139.heap := (F134.keep K149 (allS (Nat.le_trans Z0 (Nat.le_of_eq g101.symm)) (allS (Nat.le_trans (Nat.le_trans Z0 Z105) z108) all0)))
  have F151 : Exa Z T139.heap tk "java/lang/String" := (F135.keep K149)
  obtain ⟨rv146, T146, L146, X146, q146, st146⟩ := own_vi X139 hx hZ (Q := fun v h L => v = some (.int (Int32.ofNat (([(92 : Int32), ca, (92 : Int32), cb, (124 : Int32), cc, cd] : List Int32)).length)) ∧ L = [] ∧ h = T139.heap) (kc := 0) (ks := 0) (y := (⟨"java/lang/String", "length", "()I"⟩ : MethodName)) (z := (⟨"java/lang/String", "length", "()I"⟩ : MethodName)) hown (ow hw 73 rfl) (ow hw 74 rfl) (ow hw 76 rfl) (ow hw 75 rfl) (Or.inl rfl) (by decide) (StrChars.Road.lenW (W := 1) hZ (own_hln hw) (kI := 4) (ow hw 5 rfl) Esx146 Vsx146 Csx146 Asx146 cdx146 bdx146 (O2.ext F150.2) P5 lnx146 (by decide) (by decide)) rfl F151 (g := (mkF m 19 #[r' tk, .val pm, r' b101, .val .null, r' b101, i' 4, i' 92] [(.ref tk), (.int 4)])) rfl (by rw [hml]; rfl) (argsL := []) (rest := [(.int (4 : Int32))]) rfl (lenOf own_pd1 rfl) rfl (by show 2 * 0 + _ ≤ _; exact Nat.le_of_eq rfl) (hb hby own_d11_19) (by decide) (by decide)
  obtain ⟨rfl, rfl, e146⟩ := q146
  have N146 := Fr.app N139 (Fr.nil n0)
  refine go _ _ (st146) ?_
  show G (T146.setTop (mkF m 22 #[r' tk, .val pm, r' b101, .val .null, r' b101, i' 4, i' 92] [(.int 7), (.int 4)]))
  refine go _ _ (fun _ k => XS.icmpNo X146.here hx rfl (hb hby own_d11_22) rfl (by decide) k) ?_
  show G (T146.setTop (mkF m 25 #[r' tk, .val pm, r' b101, .val .null, r' b101, i' 4, i' 92] []))
  refine go _ _ (fun _ k => XS.aloadN X146.here hx rfl (hb hby own_d11_25) rfl rfl (XS.iload X146.here hx rfl (hb hby own_d11_26) rfl k)) ?_
  obtain ⟨tx152, kbx152, Esx152, Vsx152, Csx152, Asx152, cdx152, bdx152, lnx152⟩ := own_Str_W F148
  obtain ⟨rv152, T152, L152, X152, q152, st152⟩ := own_vi X146 hx hZ (Q := fun v h L => v = some (.int ((([(92 : Int32), ca, (92 : Int32), cb, (124 : Int32), cc, cd] : List Int32)).getD 4 0)) ∧ L = [] ∧ h = T139.heap) (kc := 0) (ks := 0) (y := (⟨"java/lang/String", "charAt", "(I)C"⟩ : MethodName)) (z := (⟨"java/lang/String", "charAt", "(I)C"⟩ : MethodName)) hown (ow hw 83 rfl) (ow hw 84 rfl) (ow hw 86 rfl) (ow hw 85 rfl) (Or.inl rfl) (by decide) (StrChars.Road.chN (W := 0) hZ (own_hch hw) (kI := 4) (ow hw 5 rfl) Esx152 Vsx152 Csx152 Asx152 cdx152 bdx152 (O2.ext F150.2) P5 (O4.ext F150.2) R4 lnx152 (i := 4) (Nat.le_of_ble_eq_true rfl) (j := (4 : Int32)) (by decide) (by decide) (by decide)) e146 F151 (g := (mkF m 28 #[r' tk, .val pm, r' b101, .val .null, r' b101, i' 4, i' 92] [(.int 4), (.ref tk)])) rfl (by rw [hml]; rfl) (argsL := [(.int (4 : Int32))]) (rest := []) rfl (lenOf own_pd14 rfl) rfl (by show 2 * 0 + _ ≤ _; exact Nat.le_of_eq rfl) (hb hby own_d11_28) (by decide) (by decide)
  obtain ⟨rfl, rfl, e152⟩ := q152
  have N152 := Fr.app N146 (Fr.nil n0)
  refine go _ _ (st152) ?_
  show G (T152.setTop (mkF m 31 #[r' tk, .val pm, r' b101, .val .null, r' b101, i' 4, i' 92] [(.int 124)]))
  refine go _ _ (fun _ k => XS.istore X152.here hx rfl (hb hby own_d11_31) rfl (l' := #[r' tk, .val pm, r' b101, .val .null, r' b101, i' 4, i' 124]) rfl (XS.iload X152.here hx rfl (hb hby own_d11_33) rfl (XS.bipush X152.here hx rfl (hb hby own_d11_35) k))) ?_
  show G (T152.setTop (mkF m 37 #[r' tk, .val pm, r' b101, .val .null, r' b101, i' 4, i' 124] [(.int 92), (.int 124)]))
  refine go _ _ (fun _ k => XS.icmpYes X152.here hx rfl (pc0 := 37) (pc' := 69) rfl (hb hby own_d11_37) rfl (by decide) (by decide) (by decide) k) ?_
  show G (T152.setTop (mkF m 69 #[r' tk, .val pm, r' b101, .val .null, r' b101, i' 4, i' 124] []))
  refine go _ _ (fun _ k => XS.iload X152.here hx rfl (hb hby own_d11_69) rfl (XS.bipush X152.here hx rfl (hb hby own_d11_71) k)) ?_
  show G (T152.setTop (mkF m 73 #[r' tk, .val pm, r' b101, .val .null, r' b101, i' 4, i' 124] [(.int 124), (.int 124)]))
  refine go _ _ (fun _ k => XS.icmpNo X152.here hx rfl (hb hby own_d11_73) rfl (by decide) k) ?_
  show G (T152.setTop (mkF m 76 #[r' tk, .val pm, r' b101, .val .null, r' b101, i' 4, i' 124] []))
  refine go _ _ (fun _ k => XS.aloadN X152.here hx rfl (hb hby own_d11_76) rfl rfl k) ?_
  show G (T152.setTop (mkF m 77 #[r' tk, .val pm, r' b101, .val .null, r' b101, i' 4, i' 124] [.null]))
  refine go _ _ (fun _ k => XS.ifnonnullNo X152.here hx rfl (hb hby own_d11_77) rfl k) ?_
  obtain ⟨T153, h153, X153, e153, E153, A153, D153, -, st153⟩ := newO X152 hx hZ hown (ow hw 55 rfl) (ow hw 56 rfl) (ow hw 57 rfl) e152 (g := (mkF m 80 #[r' tk, .val pm, r' b101, .val .null, r' b101, i' 4, i' 124] [])) rfl (hb hby own_d11_80) (by decide) (by decide)
  obtain ⟨b153, g153⟩ : ∃ z, z = T139.heap.size := ⟨_, rfl⟩
  rw [← g153] at A153 D153 st153
  refine go _ _ (st153) ?_
  show G (T153.setTop (mkF m 83 #[r' tk, .val pm, r' b101, .val .null, r' b101, i' 4, i' 124] [(.ref b153)]))
  refine go _ _ (fun _ k => XS.dup X153.here hx rfl (hb hby own_d11_83) rfl rfl k) ?_
  have K155 : Keep T139.heap h153 [] := (Keep.refl T139.heap []).ext E153
  have F156 : Old Z n0 h153 := (F150.keep K155 all0)
  have Z157 : h0.size ≤ T139.heap.size := Nat.le_trans Z140 Kp139.1
  have Z158 : h0.size ≤ h153.size := Nat.le_trans Z157 E153.1
  obtain ⟨rv154, T154, L154, X154, q154, st154⟩ := own_sp X153 hx hZ (y := (⟨"java/lang/StringBuilder", "<init>", "()V"⟩ : MethodName)) rfl hown (ow hw 58 rfl) (ow hw 59 rfl) (ow hw 60 rfl) (by decide) (own_bkN (W := 1) (rm12 l Z a0 hw z0 O2 P5 fm0 O4 R4 [] b153 h153 n0 (Nat.le_trans Z0 Z158) F156 A153 (D153 (Or.inl (ow hw 70 rfl)) (ty := (.array .byte)) (by decide)) (D153 (Or.inl (ow hw 72 rfl)) (ty := .byte) (by decide)) (D153 (Or.inl (ow hw 115 rfl)) (ty := .int) (by decide)) (Nat.le_trans (Nat.le_trans Z0 Z157) (Nat.le_of_eq g153.symm))) hZ (ow hw 60 rfl) (ow hw 57 rfl) (by decide) (by decide)) e153 (g := (mkF m 84 #[r' tk, .val pm, r' b101, .val .null, r' b101, i' 4, i' 124] [(.ref b153), (.ref b153)])) rfl (by rw [hml]; rfl) (a := b153) (argsL := []) (rest := [(.ref b153)]) rfl (lenOf own_pd13 rfl) rfl (by show 2 * 0 + _ ≤ _; exact Nat.le_of_eq rfl) (hb hby own_d11_84) (by decide) (by decide)
  obtain ⟨Nq154, Kp154, ⟨t_159, kb_160, rfl, z161, f162, f163, f164, f165, f166⟩⟩ := q154
  have N154 := Fr.app N152 Nq154
  refine go _ _ (st154) ?_
  show G (T154.setTop (mkF m 87 #[r' tk, .val pm, r' b101, .val .null, r' b101, i' 4, i' 124] [(.ref b153)]))
  refine go _ _ (fun _ k => XS.astoreN X154.here hx rfl (hb hby own_d11_87) rfl rfl (l' := #[r' tk, .val pm, r' b101, r' b153, r' b101, i' 4, i' 124]) rfl (XS.aloadN X154.here hx rfl (hb hby own_d11_88) rfl rfl (XS.astore X154.here hx rfl (hb hby own_d11_89) rfl rfl (l' := #[r' tk, .val pm, r' b101, r' b153, r' b153, i' 4, i' 124]) rfl k))) ?_
  show G (T154.setTop (mkF m 91 #[r' tk, .val pm, r' b101, r' b153, r' b153, i' 4, i' 124] []))
  refine go _ _ (fun _ k => XS.goto X154.here hx rfl (pc0 := 91) (pc' := 102) rfl (hb hby own_d11_91) (by decide) (by decide) k) ?_
  show G (T154.setTop (mkF m 102 #[r' tk, .val pm, r' b101, r' b153, r' b153, i' 4, i' 124] []))
  refine go _ _ (fun _ k => XS.iinc X154.here hx rfl (hb hby own_d11_102) rfl (l' := #[r' tk, .val pm, r' b101, r' b153, r' b153, i' 5, i' 124]) rfl k) ?_
  show G (T154.setTop (mkF m 105 #[r' tk, .val pm, r' b101, r' b153, r' b153, i' 5, i' 124] []))
  refine go _ _ (fun _ k => XS.goto X154.here hx rfl (pc0 := 105) (pc' := 16) rfl (hb hby own_d11_105) (by decide) (by decide) k) ?_
  show G (T154.setTop (mkF m 16 #[r' tk, .val pm, r' b101, r' b153, r' b153, i' 5, i' 124] []))
  refine go _ _ (fun _ k => XS.iload X154.here hx rfl (hb hby own_d11_16) rfl (XS.aloadN X154.here hx rfl (hb hby own_d11_18) rfl rfl k)) ?_
  have K168 : Keep T139.heap T154.heap [] := K155.trans Kp154 (allS (Or.inr (Nat.le_of_eq g153.symm)) all0)
  have F169 : own_Str Z T154.heap tk ([(92 : Int32), ca, (92 : Int32), cb, (124 : Int32), cc, cd] : List Int32) := (own_Str_keep F148 K168)
  obtain ⟨tx167, kbx167, Esx167, Vsx167, Csx167, Asx167, cdx167, bdx167, lnx167⟩ := own_Str_W F169
  have K170 : Keep h153 T154.heap [b153] := (Keep.refl h153 [b153]).trans Kp154 (allS (Or.inl (List.mem_of_getElem? (i := 0) rfl)) all0)
  have F171 : Old Z n0 T154.heap := (F156.keep K170 (allS (Nat.le_trans (Nat.le_trans Z0 Z157) (Nat.le_of_eq g153.symm)) all0))
  have F172 : Exa Z T154.heap tk "java/lang/String" := (F151.keep K168)
  obtain ⟨rv167, T167, L167, X167, q167, st167⟩ := own_vi X154 hx hZ (Q := fun v h L => v = some (.int (Int32.ofNat (([(92 : Int32), ca, (92 : Int32), cb, (124 : Int32), cc, cd] : List Int32)).length)) ∧ L = [] ∧ h = T154.heap) (kc := 0) (ks := 0) (y := (⟨"java/lang/String", "length", "()I"⟩ : MethodName)) (z := (⟨"java/lang/String", "length", "()I"⟩ : MethodName)) hown (ow hw 73 rfl) (ow hw 74 rfl) (ow hw 76 rfl) (ow hw 75 rfl) (Or.inl rfl) (by decide) (StrChars.Road.lenW (W := 1) hZ (own_hln hw) (kI := 4) (ow hw 5 rfl) Esx167 Vsx167 Csx167 Asx167 cdx167 bdx167 (O2.ext F171.2) P5 lnx167 (by decide) (by decide)) rfl F172 (g := (mkF m 19 #[r' tk, .val pm, r' b101, r' b153, r' b153, i' 5, i' 124] [(.ref tk), (.int 5)])) rfl (by rw [hml]; rfl) (argsL := []) (rest := [(.int (5 : Int32))]) rfl (lenOf own_pd1 rfl) rfl (by show 2 * 0 + _ ≤ _; exact Nat.le_of_eq rfl) (hb hby own_d11_19) (by decide) (by decide)
  obtain ⟨rfl, rfl, e167⟩ := q167
  have N167 := Fr.app N154 (Fr.nil n0)
  refine go _ _ (st167) ?_
  show G (T167.setTop (mkF m 22 #[r' tk, .val pm, r' b101, r' b153, r' b153, i' 5, i' 124] [(.int 7), (.int 5)]))
  refine go _ _ (fun _ k => XS.icmpNo X167.here hx rfl (hb hby own_d11_22) rfl (by decide) k) ?_
  show G (T167.setTop (mkF m 25 #[r' tk, .val pm, r' b101, r' b153, r' b153, i' 5, i' 124] []))
  refine go _ _ (fun _ k => XS.aloadN X167.here hx rfl (hb hby own_d11_25) rfl rfl (XS.iload X167.here hx rfl (hb hby own_d11_26) rfl k)) ?_
  obtain ⟨tx173, kbx173, Esx173, Vsx173, Csx173, Asx173, cdx173, bdx173, lnx173⟩ := own_Str_W F169
  obtain ⟨rv173, T173, L173, X173, q173, st173⟩ := own_vi X167 hx hZ (Q := fun v h L => v = some (.int ((([(92 : Int32), ca, (92 : Int32), cb, (124 : Int32), cc, cd] : List Int32)).getD 5 0)) ∧ L = [] ∧ h = T154.heap) (kc := 0) (ks := 0) (y := (⟨"java/lang/String", "charAt", "(I)C"⟩ : MethodName)) (z := (⟨"java/lang/String", "charAt", "(I)C"⟩ : MethodName)) hown (ow hw 83 rfl) (ow hw 84 rfl) (ow hw 86 rfl) (ow hw 85 rfl) (Or.inl rfl) (by decide) (StrChars.Road.chN (W := 0) hZ (own_hch hw) (kI := 4) (ow hw 5 rfl) Esx173 Vsx173 Csx173 Asx173 cdx173 bdx173 (O2.ext F171.2) P5 (O4.ext F171.2) R4 lnx173 (i := 5) (Nat.le_of_ble_eq_true rfl) (j := (5 : Int32)) (by decide) (by decide) (by decide)) e167 F172 (g := (mkF m 28 #[r' tk, .val pm, r' b101, r' b153, r' b153, i' 5, i' 124] [(.int 5), (.ref tk)])) rfl (by rw [hml]; rfl) (argsL := [(.int (5 : Int32))]) (rest := []) rfl (lenOf own_pd14 rfl) rfl (by show 2 * 0 + _ ≤ _; exact Nat.le_of_eq rfl) (hb hby own_d11_28) (by decide) (by decide)
  obtain ⟨rfl, rfl, e173⟩ := q173
  have N173 := Fr.app N167 (Fr.nil n0)
  refine go _ _ (st173) ?_
  show G (T173.setTop (mkF m 31 #[r' tk, .val pm, r' b101, r' b153, r' b153, i' 5, i' 124] [(.int cc)]))
  refine go _ _ (fun _ k => XS.istore X173.here hx rfl (hb hby own_d11_31) rfl (l' := #[r' tk, .val pm, r' b101, r' b153, r' b153, i' 5, i' cc]) rfl k) ?_
  show G (T173.setTop (mkF m 33 #[r' tk, .val pm, r' b101, r' b153, r' b153, i' 5, i' cc] []))
  have J174 : ∀ (T174 : State) (L174 : List Loc) (X174 : Stand p l e ({ frames := 6, cells := 9, slots := 82, locals := 103 } : Room) s m #[(.ref tk), pm] below meth c T174 L174 4 40) (e174 : T174.heap = T154.heap) (N174 : Fr n0 L174) (px174_0 : ¬ cc = (92 : Int32)), G (T174.setTop (mkF m 94 #[r' tk, .val pm, r' b101, r' b153, r' b153, i' 5, i' cc] [])) := by
    intro T174 L174 X174 e174 N174 px174_0
    show G (T174.setTop (mkF m 94 #[r' tk, .val pm, r' b101, r' b153, r' b153, i' 5, i' cc] []))
    refine go _ _ (fun _ k => XS.aload X174.here hx rfl (hb hby own_d11_94) rfl rfl (XS.iload X174.here hx rfl (hb hby own_d11_96) rfl k)) ?_
    have Z176 : h0.size ≤ T154.heap.size := Nat.le_trans Z158 Kp154.1
    obtain ⟨rv175, T175, L175, X175, q175, st175⟩ := own_vi X174 hx hZ (y := (⟨"java/lang/StringBuilder", "append", "(C)Ljava/lang/StringBuilder;"⟩ : MethodName)) (z := (⟨"java/lang/StringBuilder", "append", "(C)Ljava/lang/StringBuilder;"⟩ : MethodName)) hown (ow hw 104 rfl) (ow hw 105 rfl) (ow hw 107 rfl) (ow hw 106 rfl) (Or.inl rfl) (by decide) (own_bkN (W := 0) (rm21 l Z a0 hw z0 O2 P5 fm0 O4 R4 [] b153 cc t_159 kb_160 ([] : List Int32) T154.heap n0 (Nat.le_trans Z0 Z176) F171 f162 f163 f164 f165 f166 bcc1 (Nat.le_of_ble_eq_true rfl) (Nat.le_trans (Nat.le_trans Z0 Z157) (Nat.le_of_eq g153.symm)) (Nat.le_trans (Nat.le_trans Z0 Z158) z161)) hZ (ow hw 108 rfl) (ow hw 57 rfl) (by decide) (by decide)) e174 f162 (g := (mkF m 98 #[r' tk, .val pm, r' b101, r' b153, r' b153, i' 5, i' cc] [(.int cc), (.ref b153)])) rfl (by rw [hml]; rfl) (argsL := [(.int cc)]) (rest := []) rfl (lenOf own_pd15 rfl) rfl (by show 2 * 0 + _ ≤ _; exact Nat.le_of_eq rfl) (hb hby own_d11_98) (by decide) (by decide)
    obtain ⟨Nq175, Kp175, ⟨rfl, f177, f178, f179, f180, f181⟩⟩ := q175
    have N175 := Fr.app N174 Nq175
    refine go _ _ (st175) ?_
    show G (T175.setTop (mkF m 101 #[r' tk, .val pm, r' b101, r' b153, r' b153, i' 5, i' cc] [(.ref b153)]))
    refine go _ _ (fun _ k => XS.pop X175.here hx rfl (hb hby own_d11_101) rfl rfl (XS.iinc X175.here hx rfl (hb hby own_d11_102) rfl (l' := #[r' tk, .val pm, r' b101, r' b153, r' b153, i' 6, i' cc]) rfl k)) ?_
    show G (T175.setTop (mkF m 105 #[r' tk, .val pm, r' b101, r' b153, r' b153, i' 6, i' cc] []))
    refine go _ _ (fun _ k => XS.goto X175.here hx rfl (pc0 := 105) (pc' := 16) rfl (hb hby own_d11_105) (by decide) (by decide) k) ?_
    show G (T175.setTop (mkF m 16 #[r' tk, .val pm, r' b101, r' b153, r' b153, i' 6, i' cc] []))
    refine go _ _ (fun _ k => XS.iload X175.here hx rfl (hb hby own_d11_16) rfl (XS.aloadN X175.here hx rfl (hb hby own_d11_18) rfl rfl k)) ?_
    have Z183 : T139.heap.size ≤ h153.size := E153.1
    have K184 : Keep T139.heap T175.heap [] := K168.trans Kp175 (allS (Or.inr (Nat.le_of_eq g153.symm)) (allS (Or.inr (Nat.le_trans Z183 z161)) all0))
    have F185 : own_Str Z T175.heap tk ([(92 : Int32), ca, (92 : Int32), cb, (124 : Int32), cc, cd] : List Int32) := (own_Str_keep F148 K184)
    obtain ⟨tx182, kbx182, Esx182, Vsx182, Csx182, Asx182, cdx182, bdx182, lnx182⟩ := own_Str_W F185
    have K186 : Keep T154.heap T175.heap [b153, t_159] := (Keep.refl T154.heap [b153, t_159]).trans Kp175 (allS (Or.inl (List.mem_of_getElem? (i := 0) rfl)) (allS (Or.inl (List.mem_of_getElem? (i := 1) rfl)) all0))
    have F187 : Old Z n0 T175.heap := (F171.keep K186 (allS (Nat.le_trans (Nat.le_trans Z0 Z157) (Nat.le_of_eq g153.symm)) (allS (Nat.le_trans (Nat.le_trans Z0 Z158) z161) all0)))
    have F188 : Exa Z T175.heap tk "java/lang/String" := (F172.keep K186)
    obtain ⟨rv182, T182, L182, X182, q182, st182⟩ := own_vi X175 hx hZ (Q := fun v h L => v = some (.int (Int32.ofNat (([(92 : Int32), ca, (92 : Int32), cb, (124 : Int32), cc, cd] : List Int32)).length)) ∧ L = [] ∧ h = T175.heap) (kc := 0) (ks := 0) (y := (⟨"java/lang/String", "length", "()I"⟩ : MethodName)) (z := (⟨"java/lang/String", "length", "()I"⟩ : MethodName)) hown (ow hw 73 rfl) (ow hw 74 rfl) (ow hw 76 rfl) (ow hw 75 rfl) (Or.inl rfl) (by decide) (StrChars.Road.lenW (W := 1) hZ (own_hln hw) (kI := 4) (ow hw 5 rfl) Esx182 Vsx182 Csx182 Asx182 cdx182 bdx182 (O2.ext F187.2) P5 lnx182 (by decide) (by decide)) rfl F188 (g := (mkF m 19 #[r' tk, .val pm, r' b101, r' b153, r' b153, i' 6, i' cc] [(.ref tk), (.int 6)])) rfl (by rw [hml]; rfl) (argsL := []) (rest := [(.int (6 : Int32))]) rfl (lenOf own_pd1 rfl) rfl (by show 2 * 0 + _ ≤ _; exact Nat.le_of_eq rfl) (hb hby own_d11_19) (by decide) (by decide)
    obtain ⟨rfl, rfl, e182⟩ := q182
    have N182 := Fr.app N175 (Fr.nil n0)
    refine go _ _ (st182) ?_
    show G (T182.setTop (mkF m 22 #[r' tk, .val pm, r' b101, r' b153, r' b153, i' 6, i' cc] [(.int 7), (.int 6)]))
    refine go _ _ (fun _ k => XS.icmpNo X182.here hx rfl (hb hby own_d11_22) rfl (by decide) k) ?_
    show G (T182.setTop (mkF m 25 #[r' tk, .val pm, r' b101, r' b153, r' b153, i' 6, i' cc] []))
    refine go _ _ (fun _ k => XS.aloadN X182.here hx rfl (hb hby own_d11_25) rfl rfl (XS.iload X182.here hx rfl (hb hby own_d11_26) rfl k)) ?_
    obtain ⟨tx189, kbx189, Esx189, Vsx189, Csx189, Asx189, cdx189, bdx189, lnx189⟩ := own_Str_W F185
    obtain ⟨rv189, T189, L189, X189, q189, st189⟩ := own_vi X182 hx hZ (Q := fun v h L => v = some (.int ((([(92 : Int32), ca, (92 : Int32), cb, (124 : Int32), cc, cd] : List Int32)).getD 6 0)) ∧ L = [] ∧ h = T175.heap) (kc := 0) (ks := 0) (y := (⟨"java/lang/String", "charAt", "(I)C"⟩ : MethodName)) (z := (⟨"java/lang/String", "charAt", "(I)C"⟩ : MethodName)) hown (ow hw 83 rfl) (ow hw 84 rfl) (ow hw 86 rfl) (ow hw 85 rfl) (Or.inl rfl) (by decide) (StrChars.Road.chN (W := 0) hZ (own_hch hw) (kI := 4) (ow hw 5 rfl) Esx189 Vsx189 Csx189 Asx189 cdx189 bdx189 (O2.ext F187.2) P5 (O4.ext F187.2) R4 lnx189 (i := 6) (Nat.le_of_ble_eq_true rfl) (j := (6 : Int32)) (by decide) (by decide) (by decide)) e182 F188 (g := (mkF m 28 #[r' tk, .val pm, r' b101, r' b153, r' b153, i' 6, i' cc] [(.int 6), (.ref tk)])) rfl (by rw [hml]; rfl) (argsL := [(.int (6 : Int32))]) (rest := []) rfl (lenOf own_pd14 rfl) rfl (by show 2 * 0 + _ ≤ _; exact Nat.le_of_eq rfl) (hb hby own_d11_28) (by decide) (by decide)
    obtain ⟨rfl, rfl, e189⟩ := q189
    have N189 := Fr.app N182 (Fr.nil n0)
    refine go _ _ (st189) ?_
    show G (T189.setTop (mkF m 31 #[r' tk, .val pm, r' b101, r' b153, r' b153, i' 6, i' cc] [(.int cd)]))
    refine go _ _ (fun _ k => XS.istore X189.here hx rfl (hb hby own_d11_31) rfl (l' := #[r' tk, .val pm, r' b101, r' b153, r' b153, i' 6, i' cd]) rfl k) ?_
    show G (T189.setTop (mkF m 33 #[r' tk, .val pm, r' b101, r' b153, r' b153, i' 6, i' cd] []))
    have J190 : ∀ (T190 : State) (L190 : List Loc) (X190 : Stand p l e ({ frames := 6, cells := 9, slots := 82, locals := 103 } : Room) s m #[(.ref tk), pm] below meth c T190 L190 4 40) (e190 : T190.heap = T175.heap) (N190 : Fr n0 L190), G (T190.setTop (mkF m 94 #[r' tk, .val pm, r' b101, r' b153, r' b153, i' 6, i' cd] [])) := by
      intro T190 L190 X190 e190 N190
      show G (T190.setTop (mkF m 94 #[r' tk, .val pm, r' b101, r' b153, r' b153, i' 6, i' cd] []))
      refine go _ _ (fun _ k => XS.aload X190.here hx rfl (hb hby own_d11_94) rfl rfl (XS.iload X190.here hx rfl (hb hby own_d11_96) rfl k)) ?_
      have Z192 : h0.size ≤ T175.heap.size := Nat.le_trans Z176 Kp175.1
      obtain ⟨rv191, T191, L191, X191, q191, st191⟩ := own_vi X190 hx hZ (y := (⟨"java/lang/StringBuilder", "append", "(C)Ljava/lang/StringBuilder;"⟩ : MethodName)) (z := (⟨"java/lang/StringBuilder", "append", "(C)Ljava/lang/StringBuilder;"⟩ : MethodName)) hown (ow hw 104 rfl) (ow hw 105 rfl) (ow hw 107 rfl) (ow hw 106 rfl) (Or.inl rfl) (by decide) (own_bkN (W := 0) (rm21 l Z a0 hw z0 O2 P5 fm0 O4 R4 [] b153 cd t_159 kb_160 (([] : List Int32) ++ [cc]) T175.heap n0 (Nat.le_trans Z0 Z192) F187 f177 f178 f179 f180 f181 bcd1 (Nat.le_of_ble_eq_true rfl) (Nat.le_trans (Nat.le_trans Z0 Z157) (Nat.le_of_eq g153.symm)) (Nat.le_trans (Nat.le_trans Z0 Z158) z161)) hZ (ow hw 108 rfl) (ow hw 57 rfl) (by decide) (by decide)) e190 f177 (g := (mkF m 98 #[r' tk, .val pm, r' b101, r' b153, r' b153, i' 6, i' cd] [(.int cd), (.ref b153)])) rfl (by rw [hml]; rfl) (argsL := [(.int cd)]) (rest := []) rfl (lenOf own_pd15 rfl) rfl (by show 2 * 0 + _ ≤ _; exact Nat.le_of_eq rfl) (hb hby own_d11_98) (by decide) (by decide)
      obtain ⟨Nq191, Kp191, ⟨rfl, f193, f194, f195, f196, f197⟩⟩ := q191
      have N191 := Fr.app N190 Nq191
      refine go _ _ (st191) ?_
      show G (T191.setTop (mkF m 101 #[r' tk, .val pm, r' b101, r' b153, r' b153, i' 6, i' cd] [(.ref b153)]))
      refine go _ _ (fun _ k => XS.pop X191.here hx rfl (hb hby own_d11_101) rfl rfl (XS.iinc X191.here hx rfl (hb hby own_d11_102) rfl (l' := #[r' tk, .val pm, r' b101, r' b153, r' b153, i' 7, i' cd]) rfl k)) ?_
      show G (T191.setTop (mkF m 105 #[r' tk, .val pm, r' b101, r' b153, r' b153, i' 7, i' cd] []))
      refine go _ _ (fun _ k => XS.goto X191.here hx rfl (pc0 := 105) (pc' := 16) rfl (hb hby own_d11_105) (by decide) (by decide) k) ?_
      show G (T191.setTop (mkF m 16 #[r' tk, .val pm, r' b101, r' b153, r' b153, i' 7, i' cd] []))
      refine go _ _ (fun _ k => XS.iload X191.here hx rfl (hb hby own_d11_16) rfl (XS.aloadN X191.here hx rfl (hb hby own_d11_18) rfl rfl k)) ?_
      have K199 : Keep T139.heap T191.heap [] := K184.trans Kp191 (allS (Or.inr (Nat.le_of_eq g153.symm)) (allS (Or.inr (Nat.le_trans Z183 z161)) all0))
      have F200 : own_Str Z T191.heap tk ([(92 : Int32), ca, (92 : Int32), cb, (124 : Int32), cc, cd] : List Int32) := (own_Str_keep F148 K199)
      obtain ⟨tx198, kbx198, Esx198, Vsx198, Csx198, Asx198, cdx198, bdx198, lnx198⟩ := own_Str_W F200
      have K201 : Keep T175.heap T191.heap [b153, t_159] := (Keep.refl T175.heap [b153, t_159]).trans Kp191 (allS (Or.inl (List.mem_of_getElem? (i := 0) rfl)) (allS (Or.inl (List.mem_of_getElem? (i := 1) rfl)) all0))
      have F202 : Old Z n0 T191.heap := (F187.keep K201 (allS (Nat.le_trans (Nat.le_trans Z0 Z157) (Nat.le_of_eq g153.symm)) (allS (Nat.le_trans (Nat.le_trans Z0 Z158) z161) all0)))
      have F203 : Exa Z T191.heap tk "java/lang/String" := (F188.keep K201)
      obtain ⟨rv198, T198, L198, X198, q198, st198⟩ := own_vi X191 hx hZ (Q := fun v h L => v = some (.int (Int32.ofNat (([(92 : Int32), ca, (92 : Int32), cb, (124 : Int32), cc, cd] : List Int32)).length)) ∧ L = [] ∧ h = T191.heap) (kc := 0) (ks := 0) (y := (⟨"java/lang/String", "length", "()I"⟩ : MethodName)) (z := (⟨"java/lang/String", "length", "()I"⟩ : MethodName)) hown (ow hw 73 rfl) (ow hw 74 rfl) (ow hw 76 rfl) (ow hw 75 rfl) (Or.inl rfl) (by decide) (StrChars.Road.lenW (W := 1) hZ (own_hln hw) (kI := 4) (ow hw 5 rfl) Esx198 Vsx198 Csx198 Asx198 cdx198 bdx198 (O2.ext F202.2) P5 lnx198 (by decide) (by decide)) rfl F203 (g := (mkF m 19 #[r' tk, .val pm, r' b101, r' b153, r' b153, i' 7, i' cd] [(.ref tk), (.int 7)])) rfl (by rw [hml]; rfl) (argsL := []) (rest := [(.int (7 : Int32))]) rfl (lenOf own_pd1 rfl) rfl (by show 2 * 0 + _ ≤ _; exact Nat.le_of_eq rfl) (hb hby own_d11_19) (by decide) (by decide)
      obtain ⟨rfl, rfl, e198⟩ := q198
      have N198 := Fr.app N191 (Fr.nil n0)
      refine go _ _ (st198) ?_
      show G (T198.setTop (mkF m 22 #[r' tk, .val pm, r' b101, r' b153, r' b153, i' 7, i' cd] [(.int 7), (.int 7)]))
      refine go _ _ (fun _ k => XS.icmpYes X198.here hx rfl (pc0 := 22) (pc' := 108) rfl (hb hby own_d11_22) rfl (by decide) (by decide) (by decide) k) ?_
      show G (T198.setTop (mkF m 108 #[r' tk, .val pm, r' b101, r' b153, r' b153, i' 7, i' cd] []))
      refine go _ _ (fun _ k => XS.aloadN X198.here hx rfl (hb hby own_d11_108) rfl rfl k) ?_
      show G (T198.setTop (mkF m 109 #[r' tk, .val pm, r' b101, r' b153, r' b153, i' 7, i' cd] [(.ref b153)]))
      refine go _ _ (fun _ k => XS.ifnullNo X198.here hx rfl (hb hby own_d11_109) rfl k) ?_
      show G (T198.setTop (mkF m 112 #[r' tk, .val pm, r' b101, r' b153, r' b153, i' 7, i' cd] []))
      refine go _ _ (fun _ k => XS.aloadN X198.here hx rfl (hb hby own_d11_112) rfl rfl k) ?_
      have F205 : Exa Z T191.heap b101 "java/lang/StringBuilder" := (f141.keep K199)
      have F206 : Fld Z T191.heap b101 "java/lang/AbstractStringBuilder" "count" "I" (.int (own_n ((([] : List Int32) ++ [ca]) ++ [cb]))) := (f144.keep K199 nin0)
      have Z207 : h0.size ≤ T191.heap.size := Nat.le_trans Z192 Kp191.1
      obtain ⟨rv204, T204, L204, X204, q204, st204⟩ := own_vi X198 hx hZ (y := (⟨"java/lang/StringBuilder", "length", "()I"⟩ : MethodName)) (z := (⟨"java/lang/StringBuilder", "length", "()I"⟩ : MethodName)) hown (ow hw 127 rfl) (ow hw 128 rfl) (ow hw 130 rfl) (ow hw 129 rfl) (Or.inl rfl) (by decide) (own_bkN (W := 0) (rm25 l Z a0 hw z0 O2 P5 fm0 O4 R4 [] b101 (own_n ((([] : List Int32) ++ [ca]) ++ [cb])) T191.heap n0 (Nat.le_trans Z0 Z207) F205 F206) hZ (ow hw 131 rfl) (ow hw 57 rfl) (by decide) (by decide)) e198 F205 (g := (mkF m 113 #[r' tk, .val pm, r' b101, r' b153, r' b153, i' 7, i' cd] [(.ref b101)])) rfl (by rw [hml]; rfl) (argsL := []) (rest := []) rfl (lenOf own_pd1 rfl) rfl (by show 2 * 0 + _ ≤ _; exact Nat.le_of_eq rfl) (hb hby own_d11_113) (by decide) (by decide)
      obtain ⟨Nq204, e204, rfl⟩ := q204
      have N204 := Fr.app N198 Nq204
      refine go _ _ (st204) ?_
      show G (T204.setTop (mkF m 116 #[r' tk, .val pm, r' b101, r' b153, r' b153, i' 7, i' cd] [(.int (own_n ((([] : List Int32) ++ [ca]) ++ [cb])))]))
      rw [(show own_n ((([] : List Int32) ++ [ca]) ++ [cb]) = (2 : Int32) from rfl)]
      show G (T204.setTop (mkF m 116 #[r' tk, .val pm, r' b101, r' b153, r' b153, i' 7, i' cd] [(.int 2)]))
      refine go _ _ (fun _ k => XS.ifNo X204.here hx rfl (hb hby own_d11_116) rfl (by decide) k) ?_
      show G (T204.setTop (mkF m 119 #[r' tk, .val pm, r' b101, r' b153, r' b153, i' 7, i' cd] []))
      refine go _ _ (fun _ k => XS.aloadN X204.here hx rfl (hb hby own_d11_119) rfl rfl k) ?_
      obtain ⟨rv208, T208, L208, X208, q208, st208⟩ := own_vi X204 hx hZ (y := (⟨"java/lang/StringBuilder", "length", "()I"⟩ : MethodName)) (z := (⟨"java/lang/StringBuilder", "length", "()I"⟩ : MethodName)) hown (ow hw 127 rfl) (ow hw 128 rfl) (ow hw 130 rfl) (ow hw 129 rfl) (Or.inl rfl) (by decide) (own_bkN (W := 0) (rm25 l Z a0 hw z0 O2 P5 fm0 O4 R4 [] b153 (own_n ((([] : List Int32) ++ [cc]) ++ [cd])) T191.heap n0 (Nat.le_trans Z0 Z207) f193 f196) hZ (ow hw 131 rfl) (ow hw 57 rfl) (by decide) (by decide)) e204 f193 (g := (mkF m 120 #[r' tk, .val pm, r' b101, r' b153, r' b153, i' 7, i' cd] [(.ref b153)])) rfl (by rw [hml]; rfl) (argsL := []) (rest := []) rfl (lenOf own_pd1 rfl) rfl (by show 2 * 0 + _ ≤ _; exact Nat.le_of_eq rfl) (hb hby own_d11_120) (by decide) (by decide)
      obtain ⟨Nq208, e208, rfl⟩ := q208
      have N208 := Fr.app N204 Nq208
      refine go _ _ (st208) ?_
      show G (T208.setTop (mkF m 123 #[r' tk, .val pm, r' b101, r' b153, r' b153, i' 7, i' cd] [(.int (own_n ((([] : List Int32) ++ [cc]) ++ [cd])))]))
      rw [(show own_n ((([] : List Int32) ++ [cc]) ++ [cd]) = (2 : Int32) from rfl)]
      show G (T208.setTop (mkF m 123 #[r' tk, .val pm, r' b101, r' b153, r' b153, i' 7, i' cd] [(.int 2)]))
      refine go _ _ (fun _ k => XS.ifYes X208.here hx rfl (pc0 := 123) (pc' := 146) rfl (hb hby own_d11_123) rfl (by decide) (by decide) (by decide) k) ?_
      obtain ⟨T209, h209, X209, e209, E209, A209, D209, -, st209⟩ := newO X208 hx hZ hown (ow hw 136 rfl) (ow hw 137 rfl) (ow hw 53 rfl) e208 (g := (mkF m 146 #[r' tk, .val pm, r' b101, r' b153, r' b153, i' 7, i' cd] [])) rfl (hb hby own_d11_146) (by decide) (by decide)
      obtain ⟨b209, g209⟩ : ∃ z, z = T191.heap.size := ⟨_, rfl⟩
      rw [← g209] at A209 D209 st209
      refine go _ _ (st209) ?_
      show G (T209.setTop (mkF m 149 #[r' tk, .val pm, r' b101, r' b153, r' b153, i' 7, i' cd] [(.ref b209)]))
      refine go _ _ (fun _ k => XS.dup X209.here hx rfl (hb hby own_d11_149) rfl rfl (XS.aloadN X209.here hx rfl (hb hby own_d11_150) rfl rfl k)) ?_
      have K211 : Keep T191.heap h209 [] := (Keep.refl T191.heap []).ext E209
      have F212 : Old Z n0 h209 := (F202.keep K211 all0)
      have F213 : Exa Z h209 b101 "java/lang/StringBuilder" := (F205.keep K211)
      have K214 : Keep T139.heap h209 [] := K199.ext E209
      have F215 : Fld Z h209 b101 "java/lang/AbstractStringBuilder" "value" "[B" (.ref t_106) := (f142.keep K214 nin0)
      have F216 : Fld Z h209 b101 "java/lang/AbstractStringBuilder" "coder" "B" (.int (0 : Int32)) := (f143.keep K214 nin0)
      have F217 : Fld Z h209 b101 "java/lang/AbstractStringBuilder" "count" "I" (.int (own_n ((([] : List Int32) ++ [ca]) ++ [cb]))) := (F206.keep K211 nin0)
      have F218 : Arv Z h209 t_106 kb_107 .byte (16 : Int32) (own_bs ((([] : List Int32) ++ [ca]) ++ [cb])) (.int (0 : Int32)) := (f145.keep K214 nin0)
      have Z219 : h0.size ≤ h209.size := Nat.le_trans Z207 E209.1
      obtain ⟨rv210, T210, L210, X210, q210, st210⟩ := own_vi X209 hx hZ (y := (⟨"java/lang/StringBuilder", "toString", "()Ljava/lang/String;"⟩ : MethodName)) (z := (⟨"java/lang/StringBuilder", "toString", "()Ljava/lang/String;"⟩ : MethodName)) hown (ow hw 138 rfl) (ow hw 139 rfl) (ow hw 141 rfl) (ow hw 140 rfl) (Or.inl rfl) (by decide) (own_bkN (W := 2) (rm27 l Z a0 hw z0 O2 P5 fm0 O4 R4 [] b101 t_106 kb_107 ((([] : List Int32) ++ [ca]) ++ [cb]) h209 n0 (Nat.le_trans Z0 Z219) F212 F213 F215 F216 F217 F218 (Nat.le_of_ble_eq_true rfl) (own_bdc (own_bdc own_bd0 ⟨bca0, bca1⟩) ⟨bcb0, bcb1⟩)) hZ (ow hw 142 rfl) (ow hw 57 rfl) (by decide) (by decide)) e209 F213 (g := (mkF m 151 #[r' tk, .val pm, r' b101, r' b153, r' b153, i' 7, i' cd] [(.ref b101), (.ref b209), (.ref b209)])) rfl (by rw [hml]; rfl) (argsL := []) (rest := [(.ref b209), (.ref b209)]) rfl (lenOf own_pd16 rfl) rfl (by show 2 * 0 + _ ≤ _; exact Nat.le_of_eq rfl) (hb hby own_d11_151) (by decide) (by decide)
      obtain ⟨Nq210, Kp210, ⟨b_220, rfl, z221, f222, f223⟩⟩ := q210
      have N210 := Fr.app N208 Nq210
      refine go _ _ (st210) ?_
      show G (T210.setTop (mkF m 154 #[r' tk, .val pm, r' b101, r' b153, r' b153, i' 7, i' cd] [(.ref b_220), (.ref b209), (.ref b209)]))
      refine go _ _ (fun _ k => XS.aloadN X210.here hx rfl (hb hby own_d11_154) rfl rfl k) ?_
      have K225 : Keep h209 T210.heap [] := (Keep.refl h209 []).trans Kp210 all0
      have F226 : Old Z n0 T210.heap := (F212.keep K225 all0)
      have K227 : Keep T191.heap T210.heap [] := K211.trans Kp210 all0
      have F228 : Exa Z T210.heap b153 "java/lang/StringBuilder" := (f193.keep K227)
      have F229 : Fld Z T210.heap b153 "java/lang/AbstractStringBuilder" "value" "[B" (.ref t_159) := (f194.keep K227 nin0)
      have F230 : Fld Z T210.heap b153 "java/lang/AbstractStringBuilder" "coder" "B" (.int (0 : Int32)) := (f195.keep K227 nin0)
      have F231 : Fld Z T210.heap b153 "java/lang/AbstractStringBuilder" "count" "I" (.int (own_n ((([] : List Int32) ++ [cc]) ++ [cd]))) := (f196.keep K227 nin0)
      have F232 : Arv Z T210.heap t_159 kb_160 .byte (16 : Int32) (own_bs ((([] : List Int32) ++ [cc]) ++ [cd])) (.int (0 : Int32)) := (f197.keep K227 nin0)
      have Z233 : h0.size ≤ T210.heap.size := Nat.le_trans Z219 Kp210.1
      obtain ⟨rv224, T224, L224, X224, q224, st224⟩ := own_vi X210 hx hZ (y := (⟨"java/lang/StringBuilder", "toString", "()Ljava/lang/String;"⟩ : MethodName)) (z := (⟨"java/lang/StringBuilder", "toString", "()Ljava/lang/String;"⟩ : MethodName)) hown (ow hw 138 rfl) (ow hw 139 rfl) (ow hw 141 rfl) (ow hw 140 rfl) (Or.inl rfl) (by decide) (own_bkN (W := 3) (rm27 l Z a0 hw z0 O2 P5 fm0 O4 R4 [] b153 t_159 kb_160 ((([] : List Int32) ++ [cc]) ++ [cd]) T210.heap n0 (Nat.le_trans Z0 Z233) F226 F228 F229 F230 F231 F232 (Nat.le_of_ble_eq_true rfl) (own_bdc (own_bdc own_bd0 ⟨bcc0, bcc1⟩) ⟨bcd0, bcd1⟩)) hZ (ow hw 142 rfl) (ow hw 57 rfl) (by decide) (by decide)) rfl F228 (g := (mkF m 155 #[r' tk, .val pm, r' b101, r' b153, r' b153, i' 7, i' cd] [(.ref b153), (.ref b_220), (.ref b209), (.ref b209)])) rfl (by rw [hml]; rfl) (argsL := []) (rest := [(.ref b_220), (.ref b209), (.ref b209)]) rfl (lenOf own_pd16 rfl) rfl (by show 2 * 0 + _ ≤ _; exact Nat.le_of_eq rfl) (hb hby own_d11_155) (by decide) (by decide)
      obtain ⟨Nq224, Kp224, ⟨b_234, rfl, z235, f236, f237⟩⟩ := q224
      have N224 := Fr.app N210 Nq224
      refine go _ _ (st224) ?_
      have K239 : Keep h209 T224.heap [] := K225.trans Kp224 all0
      have F240 : Exa Z T224.heap b209 "com/example/kindred/kindred/Identifier" := (A209.keep K239)
      have F241 : Fld Z T224.heap b209 "com/example/kindred/kindred/Identifier" "system" "Ljava/lang/String;" .null := ((D209 (Or.inr (ow hw 186 rfl)) (ty := (.object "java/lang/String")) (by decide)).keep K239 nin0)
      have F242 : Fld Z T224.heap b209 "com/example/kindred/kindred/Identifier" "value" "Ljava/lang/String;" .null := ((D209 (Or.inr (ow hw 188 rfl)) (ty := (.object "java/lang/String")) (by decide)).keep K239 nin0)
      have Z243 : h0.size ≤ T224.heap.size := Nat.le_trans Z233 Kp224.1
      obtain ⟨rv238, T238, L238, X238, q238, st238⟩ := own_sp X224 hx hZ (y := (⟨"com/example/kindred/kindred/Identifier", "<init>", "(Ljava/lang/String;Ljava/lang/String;)V"⟩ : MethodName)) rfl hown (ow hw 176 rfl) (ow hw 177 rfl) (ow hw 178 rfl) (by decide) (own_bkN (W := 1) (rm35 l Z a0 hw z0 O2 P5 fm0 O4 R4 [] b209 b_220 b_234 T224.heap n0 (Nat.le_trans Z0 Z243) F240 F241 F242 (Nat.le_trans (Nat.le_trans Z0 Z207) (Nat.le_of_eq g209.symm))) hZ (ow hw 178 rfl) (ow hw 53 rfl) (by decide) (by decide)) rfl (g := (mkF m 158 #[r' tk, .val pm, r' b101, r' b153, r' b153, i' 7, i' cd] [(.ref b_234), (.ref b_220), (.ref b209), (.ref b209)])) rfl (by rw [hml]; rfl) (a := b209) (argsL := [(.ref b_220), (.ref b_234)]) (rest := [(.ref b209)]) rfl (lenOf own_pd17 rfl) rfl (by show 2 * 0 + _ ≤ _; exact Nat.le_of_eq rfl) (hb hby own_d11_158) (by decide) (by decide)
      obtain ⟨Nq238, Kp238, ⟨rfl, f244, f245, f246⟩⟩ := q238
      have N238 := Fr.app N224 Nq238
      refine go _ _ (st238) ?_
      show G (T238.setTop (mkF m 161 #[r' tk, .val pm, r' b101, r' b153, r' b153, i' 7, i' cd] [(.ref b209)]))
      have K247 : Keep h0 h153 [] := K147.ext E153
      have K248 : Keep h0 T154.heap [] := K247.trans Kp154 (allS (Or.inr (Nat.le_trans Z157 (Nat.le_of_eq g153.symm))) all0)
      have K249 : Keep h0 T175.heap [] := K248.trans Kp175 (allS (Or.inr (Nat.le_trans Z157 (Nat.le_of_eq g153.symm))) (allS (Or.inr (Nat.le_trans Z158 z161)) all0))
      have K250 : Keep h0 T191.heap [] := K249.trans Kp191 (allS (Or.inr (Nat.le_trans Z157 (Nat.le_of_eq g153.symm))) (allS (Or.inr (Nat.le_trans Z158 z161)) all0))
      have K251 : Keep h0 h209 [] := K250.ext E209
      have K252 : Keep h0 T210.heap [] := K251.trans Kp210 all0
      have K253 : Keep h0 T224.heap [] := K252.trans Kp224 all0
      have K254 : Keep h0 T238.heap [] := K253.trans Kp238 (allS (Or.inr (Nat.le_trans Z207 (Nat.le_of_eq g209.symm))) all0)
      have K255 : Keep T210.heap T224.heap [b209] := (Keep.refl T210.heap [b209]).trans Kp224 all0
      have K256 : Keep T210.heap T238.heap [b209] := K255.trans Kp238 (allS (Or.inl (List.mem_of_getElem? (i := 0) rfl)) all0)
      have F257 : Exa Z T238.heap b_220 "java/lang/String" := (f222.keep K256)
      have F258 : Exa Z T210.heap b209 "com/example/kindred/kindred/Identifier" := (A209.keep K225)
      have F259 : own_Str Z T238.heap b_220 ((([] : List Int32) ++ [ca]) ++ [cb]) := (own_Str_keep1 f223 K256 F258 (by decide) (ow hw 137 rfl))
      have K260 : Keep T224.heap T238.heap [b209] := (Keep.refl T224.heap [b209]).trans Kp238 (allS (Or.inl (List.mem_of_getElem? (i := 0) rfl)) all0)
      have F261 : Exa Z T238.heap b_234 "java/lang/String" := (f236.keep K260)
      have F262 : own_Str Z T238.heap b_234 ((([] : List Int32) ++ [cc]) ++ [cd]) := (own_Str_keep1 f237 K260 F240 (by decide) (ow hw 137 rfl))
      refine fin T238 _ _ _ (some (.ref b209)) X238 (fun q => nomatch q) (by decide) (by decide) ⟨N238, K254, (Or.inr ⟨b209, b_220, b_234, rfl, px174_0, f244, f245, f246, F257, F259, F261, F262⟩)⟩ _ (own_retA X238 hx hret rfl rfl rfl (hb hby own_d11_161))
    refine go _ _ (fun _ k => XS.iload X189.here hx rfl (hb hby own_d11_33) rfl (XS.bipush X189.here hx rfl (hb hby own_d11_35) k)) ?_
    show G (T189.setTop (mkF m 37 #[r' tk, .val pm, r' b101, r' b153, r' b153, i' 6, i' cd] [(.int 92), (.int cd)]))
    by_cases hc37_263 : cd = (92 : Int32)
    · refine go _ _ (fun _ k => XS.icmpNo X189.here hx rfl (hb hby own_d11_37) rfl (teq hc37_263).2 k) ?_
      show G (T189.setTop (mkF m 40 #[r' tk, .val pm, r' b101, r' b153, r' b153, i' 6, i' cd] []))
      refine go _ _ (fun _ k => XS.iload X189.here hx rfl (hb hby own_d11_40) rfl (XS.iconst X189.here hx rfl (hb hby own_d11_42) (XS.iadd X189.here hx rfl (hb hby own_d11_43) rfl (XS.aloadN X189.here hx rfl (hb hby own_d11_44) rfl rfl k)))) ?_
      obtain ⟨tx264, kbx264, Esx264, Vsx264, Csx264, Asx264, cdx264, bdx264, lnx264⟩ := own_Str_W F185
      obtain ⟨rv264, T264, L264, X264, q264, st264⟩ := own_vi X189 hx hZ (Q := fun v h L => v = some (.int (Int32.ofNat (([(92 : Int32), ca, (92 : Int32), cb, (124 : Int32), cc, cd] : List Int32)).length)) ∧ L = [] ∧ h = T175.heap) (kc := 0) (ks := 0) (y := (⟨"java/lang/String", "length", "()I"⟩ : MethodName)) (z := (⟨"java/lang/String", "length", "()I"⟩ : MethodName)) hown (ow hw 73 rfl) (ow hw 74 rfl) (ow hw 76 rfl) (ow hw 75 rfl) (Or.inl rfl) (by decide) (StrChars.Road.lenW (W := 1) hZ (own_hln hw) (kI := 4) (ow hw 5 rfl) Esx264 Vsx264 Csx264 Asx264 cdx264 bdx264 (O2.ext F187.2) P5 lnx264 (by decide) (by decide)) e189 F188 (g := (mkF m 45 #[r' tk, .val pm, r' b101, r' b153, r' b153, i' 6, i' cd] [(.ref tk), (.int 7)])) rfl (by rw [hml]; rfl) (argsL := []) (rest := [(.int (7 : Int32))]) rfl (lenOf own_pd1 rfl) rfl (by show 2 * 0 + _ ≤ _; exact Nat.le_of_eq rfl) (hb hby own_d11_45) (by decide) (by decide)
      obtain ⟨rfl, rfl, e264⟩ := q264
      have N264 := Fr.app N189 (Fr.nil n0)
      refine go _ _ (st264) ?_
      show G (T264.setTop (mkF m 48 #[r' tk, .val pm, r' b101, r' b153, r' b153, i' 6, i' cd] [(.int 7), (.int 7)]))
      refine go _ _ (fun _ k => XS.icmpYes X264.here hx rfl (pc0 := 48) (pc' := 69) rfl (hb hby own_d11_48) rfl (by decide) (by decide) (by decide) k) ?_
      show G (T264.setTop (mkF m 69 #[r' tk, .val pm, r' b101, r' b153, r' b153, i' 6, i' cd] []))
      refine go _ _ (fun _ k => XS.iload X264.here hx rfl (hb hby own_d11_69) rfl (XS.bipush X264.here hx rfl (hb hby own_d11_71) k)) ?_
      show G (T264.setTop (mkF m 73 #[r' tk, .val pm, r' b101, r' b153, r' b153, i' 6, i' cd] [(.int 124), (.int cd)]))
      by_cases hc73_265 : cd = (124 : Int32)
      · refine go _ _ (fun _ k => XS.icmpNo X264.here hx rfl (hb hby own_d11_73) rfl (teq hc73_265).2 k) ?_
        show G (T264.setTop (mkF m 76 #[r' tk, .val pm, r' b101, r' b153, r' b153, i' 6, i' cd] []))
        refine go _ _ (fun _ k => XS.aloadN X264.here hx rfl (hb hby own_d11_76) rfl rfl k) ?_
        show G (T264.setTop (mkF m 77 #[r' tk, .val pm, r' b101, r' b153, r' b153, i' 6, i' cd] [(.ref b153)]))
        refine go _ _ (fun _ k => XS.ifnonnullYes X264.here hx rfl (pc0 := 77) (pc' := 94) rfl (hb hby own_d11_77) rfl (by decide) (by decide) k) ?_
        show G (T264.setTop (mkF m 94 #[r' tk, .val pm, r' b101, r' b153, r' b153, i' 6, i' cd] []))
        exact J190 _ _ (X264.more (by decide) (by decide)) e264 N264 
      · refine go _ _ (fun _ k => XS.icmpYes X264.here hx rfl (pc0 := 73) (pc' := 94) rfl (hb hby own_d11_73) rfl (feq hc73_265).2 (by decide) (by decide) k) ?_
        show G (T264.setTop (mkF m 94 #[r' tk, .val pm, r' b101, r' b153, r' b153, i' 6, i' cd] []))
        exact J190 _ _ (X264.more (by decide) (by decide)) e264 N264 
    · refine go _ _ (fun _ k => XS.icmpYes X189.here hx rfl (pc0 := 37) (pc' := 69) rfl (hb hby own_d11_37) rfl (feq hc37_263).2 (by decide) (by decide) k) ?_
      show G (T189.setTop (mkF m 69 #[r' tk, .val pm, r' b101, r' b153, r' b153, i' 6, i' cd] []))
      refine go _ _ (fun _ k => XS.iload X189.here hx rfl (hb hby own_d11_69) rfl (XS.bipush X189.here hx rfl (hb hby own_d11_71) k)) ?_
      show G (T189.setTop (mkF m 73 #[r' tk, .val pm, r' b101, r' b153, r' b153, i' 6, i' cd] [(.int 124), (.int cd)]))
      by_cases hc73_266 : cd = (124 : Int32)
      · refine go _ _ (fun _ k => XS.icmpNo X189.here hx rfl (hb hby own_d11_73) rfl (teq hc73_266).2 k) ?_
        show G (T189.setTop (mkF m 76 #[r' tk, .val pm, r' b101, r' b153, r' b153, i' 6, i' cd] []))
        refine go _ _ (fun _ k => XS.aloadN X189.here hx rfl (hb hby own_d11_76) rfl rfl k) ?_
        show G (T189.setTop (mkF m 77 #[r' tk, .val pm, r' b101, r' b153, r' b153, i' 6, i' cd] [(.ref b153)]))
        refine go _ _ (fun _ k => XS.ifnonnullYes X189.here hx rfl (pc0 := 77) (pc' := 94) rfl (hb hby own_d11_77) rfl (by decide) (by decide) k) ?_
        show G (T189.setTop (mkF m 94 #[r' tk, .val pm, r' b101, r' b153, r' b153, i' 6, i' cd] []))
        exact J190 _ _ (X189.more (by decide) (by decide)) e189 N189 
      · refine go _ _ (fun _ k => XS.icmpYes X189.here hx rfl (pc0 := 73) (pc' := 94) rfl (hb hby own_d11_73) rfl (feq hc73_266).2 (by decide) (by decide) k) ?_
        show G (T189.setTop (mkF m 94 #[r' tk, .val pm, r' b101, r' b153, r' b153, i' 6, i' cd] []))
        exact J190 _ _ (X189.more (by decide) (by decide)) e189 N189 
  refine go _ _ (fun _ k => XS.iload X173.here hx rfl (hb hby own_d11_33) rfl (XS.bipush X173.here hx rfl (hb hby own_d11_35) k)) ?_
  show G (T173.setTop (mkF m 37 #[r' tk, .val pm, r' b101, r' b153, r' b153, i' 5, i' cc] [(.int 92), (.int cc)]))
  by_cases hc37_267 : cc = (92 : Int32)
  · refine go _ _ (fun _ k => XS.icmpNo X173.here hx rfl (hb hby own_d11_37) rfl (teq hc37_267).2 k) ?_
    show G (T173.setTop (mkF m 40 #[r' tk, .val pm, r' b101, r' b153, r' b153, i' 5, i' cc] []))
    refine go _ _ (fun _ k => XS.iload X173.here hx rfl (hb hby own_d11_40) rfl (XS.iconst X173.here hx rfl (hb hby own_d11_42) (XS.iadd X173.here hx rfl (hb hby own_d11_43) rfl (XS.aloadN X173.here hx rfl (hb hby own_d11_44) rfl rfl k)))) ?_
    obtain ⟨tx268, kbx268, Esx268, Vsx268, Csx268, Asx268, cdx268, bdx268, lnx268⟩ := own_Str_W F169
    obtain ⟨rv268, T268, L268, X268, q268, st268⟩ := own_vi X173 hx hZ (Q := fun v h L => v = some (.int (Int32.ofNat (([(92 : Int32), ca, (92 : Int32), cb, (124 : Int32), cc, cd] : List Int32)).length)) ∧ L = [] ∧ h = T154.heap) (kc := 0) (ks := 0) (y := (⟨"java/lang/String", "length", "()I"⟩ : MethodName)) (z := (⟨"java/lang/String", "length", "()I"⟩ : MethodName)) hown (ow hw 73 rfl) (ow hw 74 rfl) (ow hw 76 rfl) (ow hw 75 rfl) (Or.inl rfl) (by decide) (StrChars.Road.lenW (W := 1) hZ (own_hln hw) (kI := 4) (ow hw 5 rfl) Esx268 Vsx268 Csx268 Asx268 cdx268 bdx268 (O2.ext F171.2) P5 lnx268 (by decide) (by decide)) e173 F172 (g := (mkF m 45 #[r' tk, .val pm, r' b101, r' b153, r' b153, i' 5, i' cc] [(.ref tk), (.int 6)])) rfl (by rw [hml]; rfl) (argsL := []) (rest := [(.int (6 : Int32))]) rfl (lenOf own_pd1 rfl) rfl (by show 2 * 0 + _ ≤ _; exact Nat.le_of_eq rfl) (hb hby own_d11_45) (by decide) (by decide)
    obtain ⟨rfl, rfl, e268⟩ := q268
    have N268 := Fr.app N173 (Fr.nil n0)
    refine go _ _ (st268) ?_
    show G (T268.setTop (mkF m 48 #[r' tk, .val pm, r' b101, r' b153, r' b153, i' 5, i' cc] [(.int 7), (.int 6)]))
    refine go _ _ (fun _ k => XS.icmpNo X268.here hx rfl (hb hby own_d11_48) rfl (by decide) k) ?_
    show G (T268.setTop (mkF m 51 #[r' tk, .val pm, r' b101, r' b153, r' b153, i' 5, i' cc] []))
    refine go _ _ (fun _ k => XS.iinc X268.here hx rfl (hb hby own_d11_51) rfl (l' := #[r' tk, .val pm, r' b101, r' b153, r' b153, i' 6, i' cc]) rfl (XS.aload X268.here hx rfl (hb hby own_d11_54) rfl rfl (XS.aloadN X268.here hx rfl (hb hby own_d11_56) rfl rfl (XS.iload X268.here hx rfl (hb hby own_d11_57) rfl k)))) ?_
    obtain ⟨tx269, kbx269, Esx269, Vsx269, Csx269, Asx269, cdx269, bdx269, lnx269⟩ := own_Str_W F169
    obtain ⟨rv269, T269, L269, X269, q269, st269⟩ := own_vi X268 hx hZ (Q := fun v h L => v = some (.int ((([(92 : Int32), ca, (92 : Int32), cb, (124 : Int32), cc, cd] : List Int32)).getD 6 0)) ∧ L = [] ∧ h = T154.heap) (kc := 0) (ks := 0) (y := (⟨"java/lang/String", "charAt", "(I)C"⟩ : MethodName)) (z := (⟨"java/lang/String", "charAt", "(I)C"⟩ : MethodName)) hown (ow hw 83 rfl) (ow hw 84 rfl) (ow hw 86 rfl) (ow hw 85 rfl) (Or.inl rfl) (by decide) (StrChars.Road.chN (W := 1) hZ (own_hch hw) (kI := 4) (ow hw 5 rfl) Esx269 Vsx269 Csx269 Asx269 cdx269 bdx269 (O2.ext F171.2) P5 (O4.ext F171.2) R4 lnx269 (i := 6) (Nat.le_of_ble_eq_true rfl) (j := (6 : Int32)) (by decide) (by decide) (by decide)) e268 F172 (g := (mkF m 59 #[r' tk, .val pm, r' b101, r' b153, r' b153, i' 6, i' cc] [(.int 6), (.ref tk), (.ref b153)])) rfl (by rw [hml]; rfl) (argsL := [(.int (6 : Int32))]) (rest := [(.ref b153)]) rfl (lenOf own_pd14 rfl) rfl (by show 2 * 0 + _ ≤ _; exact Nat.le_of_eq rfl) (hb hby own_d11_59) (by decide) (by decide)
    obtain ⟨rfl, rfl, e269⟩ := q269
    have N269 := Fr.app N268 (Fr.nil n0)
    refine go _ _ (st269) ?_
    have Z271 : h0.size ≤ T154.heap.size := Nat.le_trans Z158 Kp154.1
    obtain ⟨rv270, T270, L270, X270, q270, st270⟩ := own_vi X269 hx hZ (y := (⟨"java/lang/StringBuilder", "append", "(C)Ljava/lang/StringBuilder;"⟩ : MethodName)) (z := (⟨"java/lang/StringBuilder", "append", "(C)Ljava/lang/StringBuilder;"⟩ : MethodName)) hown (ow hw 104 rfl) (ow hw 105 rfl) (ow hw 107 rfl) (ow hw 106 rfl) (Or.inl rfl) (by decide) (own_bkN (W := 0) (rm21 l Z a0 hw z0 O2 P5 fm0 O4 R4 [] b153 cd t_159 kb_160 ([] : List Int32) T154.heap n0 (Nat.le_trans Z0 Z271) F171 f162 f163 f164 f165 f166 bcd1 (Nat.le_of_ble_eq_true rfl) (Nat.le_trans (Nat.le_trans Z0 Z157) (Nat.le_of_eq g153.symm)) (Nat.le_trans (Nat.le_trans Z0 Z158) z161)) hZ (ow hw 108 rfl) (ow hw 57 rfl) (by decide) (by decide)) e269 f162 (g := (mkF m 62 #[r' tk, .val pm, r' b101, r' b153, r' b153, i' 6, i' cc] [(.int cd), (.ref b153)])) rfl (by rw [hml]; rfl) (argsL := [(.int cd)]) (rest := []) rfl (lenOf own_pd15 rfl) rfl (by show 2 * 0 + _ ≤ _; exact Nat.le_of_eq rfl) (hb hby own_d11_62) (by decide) (by decide)
    obtain ⟨Nq270, Kp270, ⟨rfl, f272, f273, f274, f275, f276⟩⟩ := q270
    have N270 := Fr.app N269 Nq270
    refine go _ _ (st270) ?_
    show G (T270.setTop (mkF m 65 #[r' tk, .val pm, r' b101, r' b153, r' b153, i' 6, i' cc] [(.ref b153)]))
    refine go _ _ (fun _ k => XS.pop X270.here hx rfl (hb hby own_d11_65) rfl rfl k) ?_
    show G (T270.setTop (mkF m 66 #[r' tk, .val pm, r' b101, r' b153, r' b153, i' 6, i' cc] []))
    refine go _ _ (fun _ k => XS.goto X270.here hx rfl (pc0 := 66) (pc' := 102) rfl (hb hby own_d11_66) (by decide) (by decide) k) ?_
    show G (T270.setTop (mkF m 102 #[r' tk, .val pm, r' b101, r' b153, r' b153, i' 6, i' cc] []))
    refine go _ _ (fun _ k => XS.iinc X270.here hx rfl (hb hby own_d11_102) rfl (l' := #[r' tk, .val pm, r' b101, r' b153, r' b153, i' 7, i' cc]) rfl k) ?_
    show G (T270.setTop (mkF m 105 #[r' tk, .val pm, r' b101, r' b153, r' b153, i' 7, i' cc] []))
    refine go _ _ (fun _ k => XS.goto X270.here hx rfl (pc0 := 105) (pc' := 16) rfl (hb hby own_d11_105) (by decide) (by decide) k) ?_
    show G (T270.setTop (mkF m 16 #[r' tk, .val pm, r' b101, r' b153, r' b153, i' 7, i' cc] []))
    refine go _ _ (fun _ k => XS.iload X270.here hx rfl (hb hby own_d11_16) rfl (XS.aloadN X270.here hx rfl (hb hby own_d11_18) rfl rfl k)) ?_
    have Z278 : T139.heap.size ≤ h153.size := E153.1
    have K279 : Keep T139.heap T270.heap [] := K168.trans Kp270 (allS (Or.inr (Nat.le_of_eq g153.symm)) (allS (Or.inr (Nat.le_trans Z278 z161)) all0))
    have F280 : own_Str Z T270.heap tk ([(92 : Int32), ca, (92 : Int32), cb, (124 : Int32), cc, cd] : List Int32) := (own_Str_keep F148 K279)
    obtain ⟨tx277, kbx277, Esx277, Vsx277, Csx277, Asx277, cdx277, bdx277, lnx277⟩ := own_Str_W F280
    have K281 : Keep T154.heap T270.heap [b153, t_159] := (Keep.refl T154.heap [b153, t_159]).trans Kp270 (allS (Or.inl (List.mem_of_getElem? (i := 0) rfl)) (allS (Or.inl (List.mem_of_getElem? (i := 1) rfl)) all0))
    have F282 : Old Z n0 T270.heap := (F171.keep K281 (allS (Nat.le_trans (Nat.le_trans Z0 Z157) (Nat.le_of_eq g153.symm)) (allS (Nat.le_trans (Nat.le_trans Z0 Z158) z161) all0)))
    have F283 : Exa Z T270.heap tk "java/lang/String" := (F172.keep K281)
    obtain ⟨rv277, T277, L277, X277, q277, st277⟩ := own_vi X270 hx hZ (Q := fun v h L => v = some (.int (Int32.ofNat (([(92 : Int32), ca, (92 : Int32), cb, (124 : Int32), cc, cd] : List Int32)).length)) ∧ L = [] ∧ h = T270.heap) (kc := 0) (ks := 0) (y := (⟨"java/lang/String", "length", "()I"⟩ : MethodName)) (z := (⟨"java/lang/String", "length", "()I"⟩ : MethodName)) hown (ow hw 73 rfl) (ow hw 74 rfl) (ow hw 76 rfl) (ow hw 75 rfl) (Or.inl rfl) (by decide) (StrChars.Road.lenW (W := 1) hZ (own_hln hw) (kI := 4) (ow hw 5 rfl) Esx277 Vsx277 Csx277 Asx277 cdx277 bdx277 (O2.ext F282.2) P5 lnx277 (by decide) (by decide)) rfl F283 (g := (mkF m 19 #[r' tk, .val pm, r' b101, r' b153, r' b153, i' 7, i' cc] [(.ref tk), (.int 7)])) rfl (by rw [hml]; rfl) (argsL := []) (rest := [(.int (7 : Int32))]) rfl (lenOf own_pd1 rfl) rfl (by show 2 * 0 + _ ≤ _; exact Nat.le_of_eq rfl) (hb hby own_d11_19) (by decide) (by decide)
    obtain ⟨rfl, rfl, e277⟩ := q277
    have N277 := Fr.app N270 (Fr.nil n0)
    refine go _ _ (st277) ?_
    show G (T277.setTop (mkF m 22 #[r' tk, .val pm, r' b101, r' b153, r' b153, i' 7, i' cc] [(.int 7), (.int 7)]))
    refine go _ _ (fun _ k => XS.icmpYes X277.here hx rfl (pc0 := 22) (pc' := 108) rfl (hb hby own_d11_22) rfl (by decide) (by decide) (by decide) k) ?_
    show G (T277.setTop (mkF m 108 #[r' tk, .val pm, r' b101, r' b153, r' b153, i' 7, i' cc] []))
    refine go _ _ (fun _ k => XS.aloadN X277.here hx rfl (hb hby own_d11_108) rfl rfl k) ?_
    show G (T277.setTop (mkF m 109 #[r' tk, .val pm, r' b101, r' b153, r' b153, i' 7, i' cc] [(.ref b153)]))
    refine go _ _ (fun _ k => XS.ifnullNo X277.here hx rfl (hb hby own_d11_109) rfl k) ?_
    show G (T277.setTop (mkF m 112 #[r' tk, .val pm, r' b101, r' b153, r' b153, i' 7, i' cc] []))
    refine go _ _ (fun _ k => XS.aloadN X277.here hx rfl (hb hby own_d11_112) rfl rfl k) ?_
    have F285 : Exa Z T270.heap b101 "java/lang/StringBuilder" := (f141.keep K279)
    have F286 : Fld Z T270.heap b101 "java/lang/AbstractStringBuilder" "count" "I" (.int (own_n ((([] : List Int32) ++ [ca]) ++ [cb]))) := (f144.keep K279 nin0)
    have Z287 : h0.size ≤ T270.heap.size := Nat.le_trans Z271 Kp270.1
    obtain ⟨rv284, T284, L284, X284, q284, st284⟩ := own_vi X277 hx hZ (y := (⟨"java/lang/StringBuilder", "length", "()I"⟩ : MethodName)) (z := (⟨"java/lang/StringBuilder", "length", "()I"⟩ : MethodName)) hown (ow hw 127 rfl) (ow hw 128 rfl) (ow hw 130 rfl) (ow hw 129 rfl) (Or.inl rfl) (by decide) (own_bkN (W := 0) (rm25 l Z a0 hw z0 O2 P5 fm0 O4 R4 [] b101 (own_n ((([] : List Int32) ++ [ca]) ++ [cb])) T270.heap n0 (Nat.le_trans Z0 Z287) F285 F286) hZ (ow hw 131 rfl) (ow hw 57 rfl) (by decide) (by decide)) e277 F285 (g := (mkF m 113 #[r' tk, .val pm, r' b101, r' b153, r' b153, i' 7, i' cc] [(.ref b101)])) rfl (by rw [hml]; rfl) (argsL := []) (rest := []) rfl (lenOf own_pd1 rfl) rfl (by show 2 * 0 + _ ≤ _; exact Nat.le_of_eq rfl) (hb hby own_d11_113) (by decide) (by decide)
    obtain ⟨Nq284, e284, rfl⟩ := q284
    have N284 := Fr.app N277 Nq284
    refine go _ _ (st284) ?_
    show G (T284.setTop (mkF m 116 #[r' tk, .val pm, r' b101, r' b153, r' b153, i' 7, i' cc] [(.int (own_n ((([] : List Int32) ++ [ca]) ++ [cb])))]))
    rw [(show own_n ((([] : List Int32) ++ [ca]) ++ [cb]) = (2 : Int32) from rfl)]
    show G (T284.setTop (mkF m 116 #[r' tk, .val pm, r' b101, r' b153, r' b153, i' 7, i' cc] [(.int 2)]))
    refine go _ _ (fun _ k => XS.ifNo X284.here hx rfl (hb hby own_d11_116) rfl (by decide) k) ?_
    show G (T284.setTop (mkF m 119 #[r' tk, .val pm, r' b101, r' b153, r' b153, i' 7, i' cc] []))
    refine go _ _ (fun _ k => XS.aloadN X284.here hx rfl (hb hby own_d11_119) rfl rfl k) ?_
    obtain ⟨rv288, T288, L288, X288, q288, st288⟩ := own_vi X284 hx hZ (y := (⟨"java/lang/StringBuilder", "length", "()I"⟩ : MethodName)) (z := (⟨"java/lang/StringBuilder", "length", "()I"⟩ : MethodName)) hown (ow hw 127 rfl) (ow hw 128 rfl) (ow hw 130 rfl) (ow hw 129 rfl) (Or.inl rfl) (by decide) (own_bkN (W := 0) (rm25 l Z a0 hw z0 O2 P5 fm0 O4 R4 [] b153 (own_n (([] : List Int32) ++ [cd])) T270.heap n0 (Nat.le_trans Z0 Z287) f272 f275) hZ (ow hw 131 rfl) (ow hw 57 rfl) (by decide) (by decide)) e284 f272 (g := (mkF m 120 #[r' tk, .val pm, r' b101, r' b153, r' b153, i' 7, i' cc] [(.ref b153)])) rfl (by rw [hml]; rfl) (argsL := []) (rest := []) rfl (lenOf own_pd1 rfl) rfl (by show 2 * 0 + _ ≤ _; exact Nat.le_of_eq rfl) (hb hby own_d11_120) (by decide) (by decide)
    obtain ⟨Nq288, e288, rfl⟩ := q288
    have N288 := Fr.app N284 Nq288
    refine go _ _ (st288) ?_
    show G (T288.setTop (mkF m 123 #[r' tk, .val pm, r' b101, r' b153, r' b153, i' 7, i' cc] [(.int (own_n (([] : List Int32) ++ [cd])))]))
    rw [(show own_n (([] : List Int32) ++ [cd]) = (1 : Int32) from rfl)]
    show G (T288.setTop (mkF m 123 #[r' tk, .val pm, r' b101, r' b153, r' b153, i' 7, i' cc] [(.int 1)]))
    refine go _ _ (fun _ k => XS.ifYes X288.here hx rfl (pc0 := 123) (pc' := 146) rfl (hb hby own_d11_123) rfl (by decide) (by decide) (by decide) k) ?_
    obtain ⟨T289, h289, X289, e289, E289, A289, D289, -, st289⟩ := newO X288 hx hZ hown (ow hw 136 rfl) (ow hw 137 rfl) (ow hw 53 rfl) e288 (g := (mkF m 146 #[r' tk, .val pm, r' b101, r' b153, r' b153, i' 7, i' cc] [])) rfl (hb hby own_d11_146) (by decide) (by decide)
    obtain ⟨b289, g289⟩ : ∃ z, z = T270.heap.size := ⟨_, rfl⟩
    rw [← g289] at A289 D289 st289
    refine go _ _ (st289) ?_
    show G (T289.setTop (mkF m 149 #[r' tk, .val pm, r' b101, r' b153, r' b153, i' 7, i' cc] [(.ref b289)]))
    refine go _ _ (fun _ k => XS.dup X289.here hx rfl (hb hby own_d11_149) rfl rfl (XS.aloadN X289.here hx rfl (hb hby own_d11_150) rfl rfl k)) ?_
    have K291 : Keep T270.heap h289 [] := (Keep.refl T270.heap []).ext E289
    have F292 : Old Z n0 h289 := (F282.keep K291 all0)
    have F293 : Exa Z h289 b101 "java/lang/StringBuilder" := (F285.keep K291)
    have K294 : Keep T139.heap h289 [] := K279.ext E289
    have F295 : Fld Z h289 b101 "java/lang/AbstractStringBuilder" "value" "[B" (.ref t_106) := (f142.keep K294 nin0)
    have F296 : Fld Z h289 b101 "java/lang/AbstractStringBuilder" "coder" "B" (.int (0 : Int32)) := (f143.keep K294 nin0)
    have F297 : Fld Z h289 b101 "java/lang/AbstractStringBuilder" "count" "I" (.int (own_n ((([] : List Int32) ++ [ca]) ++ [cb]))) := (F286.keep K291 nin0)
    have F298 : Arv Z h289 t_106 kb_107 .byte (16 : Int32) (own_bs ((([] : List Int32) ++ [ca]) ++ [cb])) (.int (0 : Int32)) := (f145.keep K294 nin0)
    have Z299 : h0.size ≤ h289.size := Nat.le_trans Z287 E289.1
    obtain ⟨rv290, T290, L290, X290, q290, st290⟩ := own_vi X289 hx hZ (y := (⟨"java/lang/StringBuilder", "toString", "()Ljava/lang/String;"⟩ : MethodName)) (z := (⟨"java/lang/StringBuilder", "toString", "()Ljava/lang/String;"⟩ : MethodName)) hown (ow hw 138 rfl) (ow hw 139 rfl) (ow hw 141 rfl) (ow hw 140 rfl) (Or.inl rfl) (by decide) (own_bkN (W := 2) (rm27 l Z a0 hw z0 O2 P5 fm0 O4 R4 [] b101 t_106 kb_107 ((([] : List Int32) ++ [ca]) ++ [cb]) h289 n0 (Nat.le_trans Z0 Z299) F292 F293 F295 F296 F297 F298 (Nat.le_of_ble_eq_true rfl) (own_bdc (own_bdc own_bd0 ⟨bca0, bca1⟩) ⟨bcb0, bcb1⟩)) hZ (ow hw 142 rfl) (ow hw 57 rfl) (by decide) (by decide)) e289 F293 (g := (mkF m 151 #[r' tk, .val pm, r' b101, r' b153, r' b153, i' 7, i' cc] [(.ref b101), (.ref b289), (.ref b289)])) rfl (by rw [hml]; rfl) (argsL := []) (rest := [(.ref b289), (.ref b289)]) rfl (lenOf own_pd16 rfl) rfl (by show 2 * 0 + _ ≤ _; exact Nat.le_of_eq rfl) (hb hby own_d11_151) (by decide) (by decide)
    obtain ⟨Nq290, Kp290, ⟨b_300, rfl, z301, f302, f303⟩⟩ := q290
    have N290 := Fr.app N288 Nq290
    refine go _ _ (st290) ?_
    show G (T290.setTop (mkF m 154 #[r' tk, .val pm, r' b101, r' b153, r' b153, i' 7, i' cc] [(.ref b_300), (.ref b289), (.ref b289)]))
    refine go _ _ (fun _ k => XS.aloadN X290.here hx rfl (hb hby own_d11_154) rfl rfl k) ?_
    have K305 : Keep h289 T290.heap [] := (Keep.refl h289 []).trans Kp290 all0
    have F306 : Old Z n0 T290.heap := (F292.keep K305 all0)
    have K307 : Keep T270.heap T290.heap [] := K291.trans Kp290 all0
    have F308 : Exa Z T290.heap b153 "java/lang/StringBuilder" := (f272.keep K307)
    have F309 : Fld Z T290.heap b153 "java/lang/AbstractStringBuilder" "value" "[B" (.ref t_159) := (f273.keep K307 nin0)
    have F310 : Fld Z T290.heap b153 "java/lang/AbstractStringBuilder" "coder" "B" (.int (0 : Int32)) := (f274.keep K307 nin0)
    have F311 : Fld Z T290.heap b153 "java/lang/AbstractStringBuilder" "count" "I" (.int (own_n (([] : List Int32) ++ [cd]))) := (f275.keep K307 nin0)
    have F312 : Arv Z T290.heap t_159 kb_160 .byte (16 : Int32) (own_bs (([] : List Int32) ++ [cd])) (.int (0 : Int32)) := (f276.keep K307 nin0)
    have Z313 : h0.size ≤ T290.heap.size := Nat.le_trans Z299 Kp290.1
    obtain ⟨rv304, T304, L304, X304, q304, st304⟩ := own_vi X290 hx hZ (y := (⟨"java/lang/StringBuilder", "toString", "()Ljava/lang/String;"⟩ : MethodName)) (z := (⟨"java/lang/StringBuilder", "toString", "()Ljava/lang/String;"⟩ : MethodName)) hown (ow hw 138 rfl) (ow hw 139 rfl) (ow hw 141 rfl) (ow hw 140 rfl) (Or.inl rfl) (by decide) (own_bkN (W := 3) (rm27 l Z a0 hw z0 O2 P5 fm0 O4 R4 [] b153 t_159 kb_160 (([] : List Int32) ++ [cd]) T290.heap n0 (Nat.le_trans Z0 Z313) F306 F308 F309 F310 F311 F312 (Nat.le_of_ble_eq_true rfl) (own_bdc own_bd0 ⟨bcd0, bcd1⟩)) hZ (ow hw 142 rfl) (ow hw 57 rfl) (by decide) (by decide)) rfl F308 (g := (mkF m 155 #[r' tk, .val pm, r' b101, r' b153, r' b153, i' 7, i' cc] [(.ref b153), (.ref b_300), (.ref b289), (.ref b289)])) rfl (by rw [hml]; rfl) (argsL := []) (rest := [(.ref b_300), (.ref b289), (.ref b289)]) rfl (lenOf own_pd16 rfl) rfl (by show 2 * 0 + _ ≤ _; exact Nat.le_of_eq rfl) (hb hby own_d11_155) (by decide) (by decide)
    obtain ⟨Nq304, Kp304, ⟨b_314, rfl, z315, f316, f317⟩⟩ := q304
    have N304 := Fr.app N290 Nq304
    refine go _ _ (st304) ?_
    have K319 : Keep h289 T304.heap [] := K305.trans Kp304 all0
    have F320 : Exa Z T304.heap b289 "com/example/kindred/kindred/Identifier" := (A289.keep K319)
    have F321 : Fld Z T304.heap b289 "com/example/kindred/kindred/Identifier" "system" "Ljava/lang/String;" .null := ((D289 (Or.inr (ow hw 186 rfl)) (ty := (.object "java/lang/String")) (by decide)).keep K319 nin0)
    have F322 : Fld Z T304.heap b289 "com/example/kindred/kindred/Identifier" "value" "Ljava/lang/String;" .null := ((D289 (Or.inr (ow hw 188 rfl)) (ty := (.object "java/lang/String")) (by decide)).keep K319 nin0)
    have Z323 : h0.size ≤ T304.heap.size := Nat.le_trans Z313 Kp304.1
    obtain ⟨rv318, T318, L318, X318, q318, st318⟩ := own_sp X304 hx hZ (y := (⟨"com/example/kindred/kindred/Identifier", "<init>", "(Ljava/lang/String;Ljava/lang/String;)V"⟩ : MethodName)) rfl hown (ow hw 176 rfl) (ow hw 177 rfl) (ow hw 178 rfl) (by decide) (own_bkN (W := 1) (rm35 l Z a0 hw z0 O2 P5 fm0 O4 R4 [] b289 b_300 b_314 T304.heap n0 (Nat.le_trans Z0 Z323) F320 F321 F322 (Nat.le_trans (Nat.le_trans Z0 Z287) (Nat.le_of_eq g289.symm))) hZ (ow hw 178 rfl) (ow hw 53 rfl) (by decide) (by decide)) rfl (g := (mkF m 158 #[r' tk, .val pm, r' b101, r' b153, r' b153, i' 7, i' cc] [(.ref b_314), (.ref b_300), (.ref b289), (.ref b289)])) rfl (by rw [hml]; rfl) (a := b289) (argsL := [(.ref b_300), (.ref b_314)]) (rest := [(.ref b289)]) rfl (lenOf own_pd17 rfl) rfl (by show 2 * 0 + _ ≤ _; exact Nat.le_of_eq rfl) (hb hby own_d11_158) (by decide) (by decide)
    obtain ⟨Nq318, Kp318, ⟨rfl, f324, f325, f326⟩⟩ := q318
    have N318 := Fr.app N304 Nq318
    refine go _ _ (st318) ?_
    show G (T318.setTop (mkF m 161 #[r' tk, .val pm, r' b101, r' b153, r' b153, i' 7, i' cc] [(.ref b289)]))
    have K327 : Keep h0 h153 [] := K147.ext E153
    have K328 : Keep h0 T154.heap [] := K327.trans Kp154 (allS (Or.inr (Nat.le_trans Z157 (Nat.le_of_eq g153.symm))) all0)
    have K329 : Keep h0 T270.heap [] := K328.trans Kp270 (allS (Or.inr (Nat.le_trans Z157 (Nat.le_of_eq g153.symm))) (allS (Or.inr (Nat.le_trans Z158 z161)) all0))
    have K330 : Keep h0 h289 [] := K329.ext E289
    have K331 : Keep h0 T290.heap [] := K330.trans Kp290 all0
    have K332 : Keep h0 T304.heap [] := K331.trans Kp304 all0
    have K333 : Keep h0 T318.heap [] := K332.trans Kp318 (allS (Or.inr (Nat.le_trans Z287 (Nat.le_of_eq g289.symm))) all0)
    have K334 : Keep T290.heap T304.heap [b289] := (Keep.refl T290.heap [b289]).trans Kp304 all0
    have K335 : Keep T290.heap T318.heap [b289] := K334.trans Kp318 (allS (Or.inl (List.mem_of_getElem? (i := 0) rfl)) all0)
    have F336 : Exa Z T318.heap b_300 "java/lang/String" := (f302.keep K335)
    have F337 : Exa Z T290.heap b289 "com/example/kindred/kindred/Identifier" := (A289.keep K305)
    have F338 : own_Str Z T318.heap b_300 ((([] : List Int32) ++ [ca]) ++ [cb]) := (own_Str_keep1 f303 K335 F337 (by decide) (ow hw 137 rfl))
    have K339 : Keep T304.heap T318.heap [b289] := (Keep.refl T304.heap [b289]).trans Kp318 (allS (Or.inl (List.mem_of_getElem? (i := 0) rfl)) all0)
    have F340 : Exa Z T318.heap b_314 "java/lang/String" := (f316.keep K339)
    have F341 : own_Str Z T318.heap b_314 (([] : List Int32) ++ [cd]) := (own_Str_keep1 f317 K339 F320 (by decide) (ow hw 137 rfl))
    refine fin T318 _ _ _ (some (.ref b289)) X318 (fun q => nomatch q) (by decide) (by decide) ⟨N318, K333, (Or.inl ⟨b289, b_300, b_314, rfl, hc37_267, f324, f325, f326, F336, F338, F340, F341⟩)⟩ _ (own_retA X318 hx hret rfl rfl rfl (hb hby own_d11_161))
  · refine go _ _ (fun _ k => XS.icmpYes X173.here hx rfl (pc0 := 37) (pc' := 69) rfl (hb hby own_d11_37) rfl (feq hc37_267).2 (by decide) (by decide) k) ?_
    show G (T173.setTop (mkF m 69 #[r' tk, .val pm, r' b101, r' b153, r' b153, i' 5, i' cc] []))
    refine go _ _ (fun _ k => XS.iload X173.here hx rfl (hb hby own_d11_69) rfl (XS.bipush X173.here hx rfl (hb hby own_d11_71) k)) ?_
    show G (T173.setTop (mkF m 73 #[r' tk, .val pm, r' b101, r' b153, r' b153, i' 5, i' cc] [(.int 124), (.int cc)]))
    by_cases hc73_342 : cc = (124 : Int32)
    · refine go _ _ (fun _ k => XS.icmpNo X173.here hx rfl (hb hby own_d11_73) rfl (teq hc73_342).2 k) ?_
      show G (T173.setTop (mkF m 76 #[r' tk, .val pm, r' b101, r' b153, r' b153, i' 5, i' cc] []))
      refine go _ _ (fun _ k => XS.aloadN X173.here hx rfl (hb hby own_d11_76) rfl rfl k) ?_
      show G (T173.setTop (mkF m 77 #[r' tk, .val pm, r' b101, r' b153, r' b153, i' 5, i' cc] [(.ref b153)]))
      refine go _ _ (fun _ k => XS.ifnonnullYes X173.here hx rfl (pc0 := 77) (pc' := 94) rfl (hb hby own_d11_77) rfl (by decide) (by decide) k) ?_
      show G (T173.setTop (mkF m 94 #[r' tk, .val pm, r' b101, r' b153, r' b153, i' 5, i' cc] []))
      exact J174 _ _ (X173.more (by decide) (by decide)) e173 N173 hc37_267
    · refine go _ _ (fun _ k => XS.icmpYes X173.here hx rfl (pc0 := 73) (pc' := 94) rfl (hb hby own_d11_73) rfl (feq hc73_342).2 (by decide) (by decide) k) ?_
      show G (T173.setTop (mkF m 94 #[r' tk, .val pm, r' b101, r' b153, r' b153, i' 5, i' cc] []))
      exact J174 _ _ (X173.more (by decide) (by decide)) e173 N173 hc37_267
theorem own_pd18 : parseMethodDescriptor "(C)C" = some ⟨[.char], some .char⟩ := by decide +kernel
theorem own_pd19 : parseMethodDescriptor "([C)V" = some ⟨[(.array .char)], none⟩ := by decide +kernel
theorem own_pd20 : parseMethodDescriptor "(Ljava/lang/String;Ljava/lang/String;)Lcom/example/kindred/kindred/Identifier;" = some ⟨[(.object "java/lang/String"), (.object "java/lang/String")], some (.object "com/example/kindred/kindred/Identifier")⟩ := by decide +kernel
theorem own_pd21 : parseMethodDescriptor "(Ljava/lang/Object;)Z" = some ⟨[(.object "java/lang/Object")], some .boolean⟩ := by decide +kernel
theorem own_pd22 : parseMethodDescriptor "(C)Ljava/lang/String;" = some ⟨[.char], some (.object "java/lang/String")⟩ := by decide +kernel
set_option maxHeartbeats 4000000 in
theorem own_ef_rmLaw (m : MethodId) (x0 : Int32) (x1 : Int32) (x2 : Int32) : entryFrame m #[(.int x0), (.int x1), (.int x2)] maxLocals = mkF m 0 #[.val (.int x0), .val (.int x1), .val (.int x2), .unset, .unset, .unset, .unset, .unset, .unset, .unset, .unset, .unset, .unset, .unset, .unset] [] := by simp [entryFrame, mkF, argsToLocals, Value.category, maxLocals]
set_option maxRecDepth 65536 in
set_option maxHeartbeats 40000000 in
theorem rmLaw (l : Launch) (Z : State) (a0 : Array Value) (hw : ∀ d ∈ tables_1, d.before a0 Z = true) (z0 : Int32) (O2 : Sta Z Z.heap "java/lang/String" "COMPACT_STRINGS" "Z" (.int z0)) (P5 : ¬ z0 = (0 : Int32)) (fm0 : Value) (O4 : Sta Z Z.heap "jdk/internal/util/Preconditions" "SIOOBE_FORMATTER" "Ljava/util/function/BiFunction;" fm0) (R4 : fm0.isRef = true) (ws : List Jvm.Cond) (p0 : Int32) (p1 : Int32) (p2 : Int32) (h0 : Heap) (n0 : Nat) (Z0 : n0 ≤ h0.size) (Xo : Old Z n0 h0) :
    own_MetH l Z own_EL x code maxLocals ret ws room_1 #[(.int p0), (.int p1), (.int p2)] h0 (fun v h L => Fr n0 L ∧ Keep h0 h [] ∧ (((v = some (.int (1 : Int32)))))) := by
  refine own_metH (plainFor_of_name own_pn8) (own_hEL hw) ?_
  intro p e s m below meth c s₁ G hx hby hml hZ hown hnm hret X0 e0 hS C0 go fin
  have N0 := Fr.nil n0
  refine go _ _ (fun _ k => castTop (own_ef_rmLaw m p0 p1 p2) k) ?_
  show G (s₁.setTop (mkF m 0 #[i' p0, i' p1, i' p2, u', u', u', u', u', u', u', u', u', u', u', u'] []))
  refine go _ _ (fun _ k => XS.iloadN X0.here hx rfl (hb hby at_0) rfl (XS.sipush X0.here hx rfl (hb hby at_1) (XS.iand X0.here hx rfl (hb hby at_4) rfl (XS.i2c X0.here hx rfl (hb hby at_5) rfl k)))) ?_
  show G (s₁.setTop (mkF m 6 #[i' p0, i' p1, i' p2, u', u', u', u', u', u', u', u', u', u', u', u'] [(.int ((p0 &&& (255 : Int32)).toUInt32.toUInt16.toUInt32.toInt32))]))
  obtain ⟨ca_101, pa101_0, pa101_1, ea101⟩ : ∃ z : Int32, (¬ z < (0 : Int32)) ∧ (¬ (255 : Int32) < z) ∧ ((p0 &&& (255 : Int32)).toUInt32.toUInt16.toUInt32.toInt32) = z := ⟨_, (own_and255 _).1, (own_and255 _).2, rfl⟩
  rw [ea101]
  show G (s₁.setTop (mkF m 6 #[i' p0, i' p1, i' p2, u', u', u', u', u', u', u', u', u', u', u', u'] [(.int ca_101)]))
  refine go _ _ (fun _ k => XS.istoreN X0.here hx rfl (hb hby at_6) rfl (l' := #[i' p0, i' p1, i' p2, i' ca_101, u', u', u', u', u', u', u', u', u', u', u']) rfl (XS.iloadN X0.here hx rfl (hb hby at_7) rfl (XS.bipush X0.here hx rfl (hb hby at_8) (XS.iushr X0.here hx rfl (hb hby at_10) rfl (XS.sipush X0.here hx rfl (hb hby at_11) (XS.iand X0.here hx rfl (hb hby at_14) rfl k)))))) ?_
  show G (s₁.setTop (mkF m 15 #[i' p0, i' p1, i' p2, i' ca_101, u', u', u', u', u', u', u', u', u', u', u'] [(.int (((p0.toUInt32 >>> ((8 : Int32) &&& 31).toUInt32).toInt32) &&& (255 : Int32)))]))
  refine go _ _ (fun _ k => XS.i2c X0.here hx rfl (hb hby at_15) rfl k) ?_
  show G (s₁.setTop (mkF m 16 #[i' p0, i' p1, i' p2, i' ca_101, u', u', u', u', u', u', u', u', u', u', u'] [(.int ((((p0.toUInt32 >>> ((8 : Int32) &&& 31).toUInt32).toInt32) &&& (255 : Int32)).toUInt32.toUInt16.toUInt32.toInt32))]))
  obtain ⟨cb_102, pa102_0, pa102_1, ea102⟩ : ∃ z : Int32, (¬ z < (0 : Int32)) ∧ (¬ (255 : Int32) < z) ∧ ((((p0.toUInt32 >>> ((8 : Int32) &&& 31).toUInt32).toInt32) &&& (255 : Int32)).toUInt32.toUInt16.toUInt32.toInt32) = z := ⟨_, (own_and255 _).1, (own_and255 _).2, rfl⟩
  rw [ea102]
  show G (s₁.setTop (mkF m 16 #[i' p0, i' p1, i' p2, i' ca_101, u', u', u', u', u', u', u', u', u', u', u'] [(.int cb_102)]))
  refine go _ _ (fun _ k => XS.istore X0.here hx rfl (hb hby at_16) rfl (l' := #[i' p0, i' p1, i' p2, i' ca_101, i' cb_102, u', u', u', u', u', u', u', u', u', u']) rfl (XS.iloadN X0.here hx rfl (hb hby at_18) rfl (XS.sipush X0.here hx rfl (hb hby at_19) (XS.iand X0.here hx rfl (hb hby at_22) rfl (XS.i2c X0.here hx rfl (hb hby at_23) rfl k))))) ?_
  show G (s₁.setTop (mkF m 24 #[i' p0, i' p1, i' p2, i' ca_101, i' cb_102, u', u', u', u', u', u', u', u', u', u'] [(.int ((p1 &&& (255 : Int32)).toUInt32.toUInt16.toUInt32.toInt32))]))
  obtain ⟨cc_103, pa103_0, pa103_1, ea103⟩ : ∃ z : Int32, (¬ z < (0 : Int32)) ∧ (¬ (255 : Int32) < z) ∧ ((p1 &&& (255 : Int32)).toUInt32.toUInt16.toUInt32.toInt32) = z := ⟨_, (own_and255 _).1, (own_and255 _).2, rfl⟩
  rw [ea103]
  show G (s₁.setTop (mkF m 24 #[i' p0, i' p1, i' p2, i' ca_101, i' cb_102, u', u', u', u', u', u', u', u', u', u'] [(.int cc_103)]))
  refine go _ _ (fun _ k => XS.istore X0.here hx rfl (hb hby at_24) rfl (l' := #[i' p0, i' p1, i' p2, i' ca_101, i' cb_102, i' cc_103, u', u', u', u', u', u', u', u', u']) rfl (XS.iloadN X0.here hx rfl (hb hby at_26) rfl (XS.bipush X0.here hx rfl (hb hby at_27) (XS.iushr X0.here hx rfl (hb hby at_29) rfl (XS.sipush X0.here hx rfl (hb hby at_30) (XS.iand X0.here hx rfl (hb hby at_33) rfl k)))))) ?_
  show G (s₁.setTop (mkF m 34 #[i' p0, i' p1, i' p2, i' ca_101, i' cb_102, i' cc_103, u', u', u', u', u', u', u', u', u'] [(.int (((p1.toUInt32 >>> ((8 : Int32) &&& 31).toUInt32).toInt32) &&& (255 : Int32)))]))
  refine go _ _ (fun _ k => XS.i2c X0.here hx rfl (hb hby at_34) rfl k) ?_
  show G (s₁.setTop (mkF m 35 #[i' p0, i' p1, i' p2, i' ca_101, i' cb_102, i' cc_103, u', u', u', u', u', u', u', u', u'] [(.int ((((p1.toUInt32 >>> ((8 : Int32) &&& 31).toUInt32).toInt32) &&& (255 : Int32)).toUInt32.toUInt16.toUInt32.toInt32))]))
  obtain ⟨cd_104, pa104_0, pa104_1, ea104⟩ : ∃ z : Int32, (¬ z < (0 : Int32)) ∧ (¬ (255 : Int32) < z) ∧ ((((p1.toUInt32 >>> ((8 : Int32) &&& 31).toUInt32).toInt32) &&& (255 : Int32)).toUInt32.toUInt16.toUInt32.toInt32) = z := ⟨_, (own_and255 _).1, (own_and255 _).2, rfl⟩
  rw [ea104]
  show G (s₁.setTop (mkF m 35 #[i' p0, i' p1, i' p2, i' ca_101, i' cb_102, i' cc_103, u', u', u', u', u', u', u', u', u'] [(.int cd_104)]))
  refine go _ _ (fun _ k => XS.istore X0.here hx rfl (hb hby at_35) rfl (l' := #[i' p0, i' p1, i' p2, i' ca_101, i' cb_102, i' cc_103, i' cd_104, u', u', u', u', u', u', u', u']) rfl (XS.iloadN X0.here hx rfl (hb hby at_37) rfl k)) ?_
  obtain ⟨rv105, T105, L105, X105, q105, st105⟩ := own_st X0 hx hZ (y := (⟨"com/example/kindred/kindred/IdentifierOfTokenPinLaw", "ord", "(C)C"⟩ : MethodName)) hown (ow hw 0 rfl) (ow hw 1 rfl) (ow hw 2 rfl) (ow hw 3 rfl) (by decide) (own_bkN (W := 0) (rm0 l Z a0 hw z0 O2 P5 fm0 O4 R4 [] ca_101 h0 n0 Z0 pa101_0 pa101_1) hZ (ow hw 3 rfl) (ow hw 2 rfl) (by decide) (by decide)) e0 (g := (mkF m 38 #[i' p0, i' p1, i' p2, i' ca_101, i' cb_102, i' cc_103, i' cd_104, u', u', u', u', u', u', u', u'] [(.int ca_101)])) rfl (by rw [hml]; rfl) (argsL := [(.int ca_101)]) (rest := []) rfl (lenOf own_pd18 rfl) rfl (by show 2 * 0 + _ ≤ _; exact Nat.le_of_eq rfl) (hb hby at_38) (by decide) (by decide)
  obtain ⟨Nq105, e105, ⟨z_106, rfl, p107, p108, p109, p110⟩⟩ := q105
  have N105 := Fr.app N0 Nq105
  refine go _ _ (st105) ?_
  show G (T105.setTop (mkF m 41 #[i' p0, i' p1, i' p2, i' ca_101, i' cb_102, i' cc_103, i' cd_104, u', u', u', u', u', u', u', u'] [(.int z_106)]))
  refine go _ _ (fun _ k => XS.istore X105.here hx rfl (hb hby at_41) rfl (l' := #[i' p0, i' p1, i' p2, i' ca_101, i' cb_102, i' cc_103, i' cd_104, i' z_106, u', u', u', u', u', u', u']) rfl (XS.iload X105.here hx rfl (hb hby at_43) rfl k)) ?_
  obtain ⟨rv111, T111, L111, X111, q111, st111⟩ := own_st X105 hx hZ (y := (⟨"com/example/kindred/kindred/IdentifierOfTokenPinLaw", "ord", "(C)C"⟩ : MethodName)) hown (ow hw 0 rfl) (ow hw 1 rfl) (ow hw 2 rfl) (ow hw 3 rfl) (by decide) (own_bkN (W := 0) (rm0 l Z a0 hw z0 O2 P5 fm0 O4 R4 [] cb_102 h0 n0 Z0 pa102_0 pa102_1) hZ (ow hw 3 rfl) (ow hw 2 rfl) (by decide) (by decide)) e105 (g := (mkF m 45 #[i' p0, i' p1, i' p2, i' ca_101, i' cb_102, i' cc_103, i' cd_104, i' z_106, u', u', u', u', u', u', u'] [(.int cb_102)])) rfl (by rw [hml]; rfl) (argsL := [(.int cb_102)]) (rest := []) rfl (lenOf own_pd18 rfl) rfl (by show 2 * 0 + _ ≤ _; exact Nat.le_of_eq rfl) (hb hby at_45) (by decide) (by decide)
  obtain ⟨Nq111, e111, ⟨z_112, rfl, p113, p114, p115, p116⟩⟩ := q111
  have N111 := Fr.app N105 Nq111
  refine go _ _ (st111) ?_
  show G (T111.setTop (mkF m 48 #[i' p0, i' p1, i' p2, i' ca_101, i' cb_102, i' cc_103, i' cd_104, i' z_106, u', u', u', u', u', u', u'] [(.int z_112)]))
  refine go _ _ (fun _ k => XS.istore X111.here hx rfl (hb hby at_48) rfl (l' := #[i' p0, i' p1, i' p2, i' ca_101, i' cb_102, i' cc_103, i' cd_104, i' z_106, i' z_112, u', u', u', u', u', u']) rfl (XS.iloadN X111.here hx rfl (hb hby at_50) rfl (XS.iconst X111.here hx rfl (hb hby at_51) (XS.iand X111.here hx rfl (hb hby at_52) rfl k)))) ?_
  show G (T111.setTop (mkF m 53 #[i' p0, i' p1, i' p2, i' ca_101, i' cb_102, i' cc_103, i' cd_104, i' z_106, i' z_112, u', u', u', u', u', u'] [(.int (p2 &&& (3 : Int32)))]))
  have hv117 : (p2 &&& (3 : Int32)) = (0 : Int32) ∨ (p2 &&& (3 : Int32)) = (1 : Int32) ∨ (p2 &&& (3 : Int32)) = (2 : Int32) ∨ (p2 &&& (3 : Int32)) = (3 : Int32) := (own_and3 p2)
  rcases hv117 with hk117 | hk117 | hk117 | hk117
  · rw [hk117]
    show G (T111.setTop (mkF m 53 #[i' p0, i' p1, i' p2, i' ca_101, i' cb_102, i' cc_103, i' cd_104, i' z_106, i' z_112, u', u', u', u', u', u'] [(.int 0)]))
    refine go _ _ (fun _ k => XS.istore X111.here hx rfl (hb hby at_53) rfl (l' := #[i' p0, i' p1, i' p2, i' ca_101, i' cb_102, i' cc_103, i' cd_104, i' z_106, i' z_112, i' 0, u', u', u', u', u']) rfl (XS.iload X111.here hx rfl (hb hby at_55) rfl (XS.bipush X111.here hx rfl (hb hby at_57) k))) ?_
    show G (T111.setTop (mkF m 59 #[i' p0, i' p1, i' p2, i' ca_101, i' cb_102, i' cc_103, i' cd_104, i' z_106, i' z_112, i' 0, u', u', u', u', u'] [(.int 92), (.int cc_103)]))
    have J118 : ∀ (T118 : State) (L118 : List Loc) (h118 : Heap) (vm118 : Vm) (kk118 : Nat) (X118 : Stand p l e room_1 (s.setVm vm118) m #[(.int p0), (.int p1), (.int p2)] below meth c T118 L118 3 8) (e118 : T118.heap = h118) (N118 : Fr n0 L118) (K118 : Keep h0 h118 []) (hZ118 : Z.Warmed39 vm118) (hown118 : vm118.findClass "com/example/kindred/kindred/IdentifierOfTokenPinLaw" = some m.cls) (hS118 : s.Since vm118 kk118) (hk118 : kk118 ≤ h118.size) (Cc118 : CHr Z own_EL s.vm h0 vm118 h118) (rw_118 : Addr) (fj118_0 : Exa Z h118 rw_118 "java/lang/String") (fj118_1 : own_Str Z h118 rw_118 (own_raw cc_103 cd_104)), G (T118.setTop (mkF m 90 #[i' p0, i' p1, i' p2, i' ca_101, i' cb_102, i' cc_103, i' cd_104, i' z_106, i' z_112, i' 0, u', u', u', u', u'] [(.ref rw_118)])) := by
      intro T118 L118 h118 vm118 kk118 X118 e118 N118 K118 hZ118 hown118 hS118 hk118 Cc118 rw_118 fj118_0 fj118_1
      show G (T118.setTop (mkF m 90 #[i' p0, i' p1, i' p2, i' ca_101, i' cb_102, i' cc_103, i' cd_104, i' z_106, i' z_112, i' 0, u', u', u', u', u'] [(.ref rw_118)]))
      refine go _ _ (fun _ k => XS.astore X118.here hx rfl (hb hby at_90) rfl rfl (l' := #[i' p0, i' p1, i' p2, i' ca_101, i' cb_102, i' cc_103, i' cd_104, i' z_106, i' z_112, i' 0, r' rw_118, u', u', u', u']) rfl (XS.iload X118.here hx rfl (hb hby at_92) rfl k)) ?_
      show G (T118.setTop (mkF m 94 #[i' p0, i' p1, i' p2, i' ca_101, i' cb_102, i' cc_103, i' cd_104, i' z_106, i' z_112, i' 0, r' rw_118, u', u', u', u'] [(.int 0)]))
      refine go _ _ (fun _ k => XS.ifNo X118.here hx rfl (hb hby at_94) rfl (by decide) k) ?_
      obtain ⟨T119, h119, X119, e119, E119, A119, D119, -, st119⟩ := newO X118 hx hZ118 hown118 (ow hw 4 rfl) (ow hw 5 rfl) (ow hw 6 rfl) e118 (g := (mkF m 97 #[i' p0, i' p1, i' p2, i' ca_101, i' cb_102, i' cc_103, i' cd_104, i' z_106, i' z_112, i' 0, r' rw_118, u', u', u', u'] [])) rfl (hb hby at_97) (by decide) (by decide)
      obtain ⟨b119, g119⟩ : ∃ z, z = h118.size := ⟨_, rfl⟩
      rw [← g119] at A119 D119 st119
      refine go _ _ (st119) ?_
      show G (T119.setTop (mkF m 100 #[i' p0, i' p1, i' p2, i' ca_101, i' cb_102, i' cc_103, i' cd_104, i' z_106, i' z_112, i' 0, r' rw_118, u', u', u', u'] [(.ref b119)]))
      refine go _ _ (fun _ k => XS.dup X119.here hx rfl (hb hby at_100) rfl rfl (XS.bipush X119.here hx rfl (hb hby at_101) k)) ?_
      obtain ⟨T120, h120, k120, X120, e120, E120, A120, st120⟩ := newP X119 hx hZ118 (ow hw 7 rfl) e119 (g := (mkF m 103 #[i' p0, i' p1, i' p2, i' ca_101, i' cb_102, i' cc_103, i' cd_104, i' z_106, i' z_112, i' 0, r' rw_118, u', u', u', u'] [(.int 9), (.ref b119), (.ref b119)])) rfl (hb hby at_103) rfl (by decide) (cap := 9) (by decide) (by decide) (by decide) (by decide)
      obtain ⟨b120, g120⟩ : ∃ z, z = h119.size := ⟨_, rfl⟩
      rw [← g120] at A120 st120
      have V120 : Arv Z h120 b120 k120 .char (9 : Int32) [(.int (0 : Int32)), (.int (0 : Int32)), (.int (0 : Int32)), (.int (0 : Int32)), (.int (0 : Int32)), (.int (0 : Int32)), (.int (0 : Int32)), (.int (0 : Int32)), (.int (0 : Int32))] (.int (0 : Int32)) := (Arv.new A120 (by decide)).pad (pad_rep [] (.int (0 : Int32)) 9)
      refine go _ _ (st120) ?_
      show G (T120.setTop (mkF m 105 #[i' p0, i' p1, i' p2, i' ca_101, i' cb_102, i' cc_103, i' cd_104, i' z_106, i' z_112, i' 0, r' rw_118, u', u', u', u'] [(.ref b120), (.ref b119), (.ref b119)]))
      refine go _ _ (fun _ k => XS.dup X120.here hx rfl (hb hby at_105) rfl rfl (XS.iconst X120.here hx rfl (hb hby at_106) (XS.bipush X120.here hx rfl (hb hby at_107) k))) ?_
      obtain ⟨cl121, Ar121, q121, S121, M121, H121, U121⟩ := id V120
      obtain ⟨T121, h121, X121, e121, W121, st121⟩ := stC X120 hx hZ118 e120 Ar121 (j := (0 : Int32)) (inb_of S121 ⟨by decide, by decide⟩) (g := (mkF m 109 #[i' p0, i' p1, i' p2, i' ca_101, i' cb_102, i' cc_103, i' cd_104, i' z_106, i' z_112, i' 0, r' rw_118, u', u', u', u'] [(.int 92), (.int 0), (.ref b120), (.ref b120), (.ref b119), (.ref b119)])) rfl rfl (hb hby at_109)
      have V121 : Arv Z h121 b120 k120 .char (9 : Int32) [(.int (92 : Int32)), (.int (0 : Int32)), (.int (0 : Int32)), (.int (0 : Int32)), (.int (0 : Int32)), (.int (0 : Int32)), (.int (0 : Int32)), (.int (0 : Int32)), (.int (0 : Int32))] (.int (0 : Int32)) := Arv.set Ar121 q121 S121 M121 H121 U121 rfl W121 0 rfl (Nat.le_of_ble_eq_true rfl)
      have Z122 : h0.size ≤ h118.size := K118.1
      have Z123 : h0.size ≤ h119.size := Nat.le_trans Z122 E119.1
      have N121 := Fr.snoc X121 N118 (Nat.le_trans (Nat.le_trans Z0 Z123) (Nat.le_of_eq g120.symm))
      refine go _ _ (st121) ?_
      show G (T121.setTop (mkF m 110 #[i' p0, i' p1, i' p2, i' ca_101, i' cb_102, i' cc_103, i' cd_104, i' z_106, i' z_112, i' 0, r' rw_118, u', u', u', u'] [(.ref b120), (.ref b119), (.ref b119)]))
      refine go _ _ (fun _ k => XS.dup X121.here hx rfl (hb hby at_110) rfl rfl (XS.iconst X121.here hx rfl (hb hby at_111) (XS.iloadN X121.here hx rfl (hb hby at_112) rfl k))) ?_
      obtain ⟨cl124, Ar124, q124, S124, M124, H124, U124⟩ := id V121
      obtain ⟨T124, h124, X124, e124, W124, st124⟩ := stC X121 hx hZ118 e121 Ar124 (j := (1 : Int32)) (inb_of S124 ⟨by decide, by decide⟩) (g := (mkF m 113 #[i' p0, i' p1, i' p2, i' ca_101, i' cb_102, i' cc_103, i' cd_104, i' z_106, i' z_112, i' 0, r' rw_118, u', u', u', u'] [(.int ca_101), (.int 1), (.ref b120), (.ref b120), (.ref b119), (.ref b119)])) rfl rfl (hb hby at_113)
      have V124 : Arv Z h124 b120 k120 .char (9 : Int32) [(.int (92 : Int32)), (.int (nar .char ca_101)), (.int (0 : Int32)), (.int (0 : Int32)), (.int (0 : Int32)), (.int (0 : Int32)), (.int (0 : Int32)), (.int (0 : Int32)), (.int (0 : Int32))] (.int (0 : Int32)) := Arv.set Ar124 q124 S124 M124 H124 U124 (fits_nar_char _) W124 1 rfl (Nat.le_of_ble_eq_true rfl)
      rw [(own_narc pa101_0 pa101_1)] at V124
      have N124 := Fr.snoc X124 N121 (Nat.le_trans (Nat.le_trans Z0 Z123) (Nat.le_of_eq g120.symm))
      refine go _ _ (st124) ?_
      show G (T124.setTop (mkF m 114 #[i' p0, i' p1, i' p2, i' ca_101, i' cb_102, i' cc_103, i' cd_104, i' z_106, i' z_112, i' 0, r' rw_118, u', u', u', u'] [(.ref b120), (.ref b119), (.ref b119)]))
      refine go _ _ (fun _ k => XS.dup X124.here hx rfl (hb hby at_114) rfl rfl (XS.iconst X124.here hx rfl (hb hby at_115) (XS.bipush X124.here hx rfl (hb hby at_116) k))) ?_
      obtain ⟨cl125, Ar125, q125, S125, M125, H125, U125⟩ := id V124
      obtain ⟨T125, h125, X125, e125, W125, st125⟩ := stC X124 hx hZ118 e124 Ar125 (j := (2 : Int32)) (inb_of S125 ⟨by decide, by decide⟩) (g := (mkF m 118 #[i' p0, i' p1, i' p2, i' ca_101, i' cb_102, i' cc_103, i' cd_104, i' z_106, i' z_112, i' 0, r' rw_118, u', u', u', u'] [(.int 92), (.int 2), (.ref b120), (.ref b120), (.ref b119), (.ref b119)])) rfl rfl (hb hby at_118)
      have V125 : Arv Z h125 b120 k120 .char (9 : Int32) [(.int (92 : Int32)), (.int ca_101), (.int (92 : Int32)), (.int (0 : Int32)), (.int (0 : Int32)), (.int (0 : Int32)), (.int (0 : Int32)), (.int (0 : Int32)), (.int (0 : Int32))] (.int (0 : Int32)) := Arv.set Ar125 q125 S125 M125 H125 U125 rfl W125 2 rfl (Nat.le_of_ble_eq_true rfl)
      have N125 := Fr.snoc X125 N124 (Nat.le_trans (Nat.le_trans Z0 Z123) (Nat.le_of_eq g120.symm))
      refine go _ _ (st125) ?_
      show G (T125.setTop (mkF m 119 #[i' p0, i' p1, i' p2, i' ca_101, i' cb_102, i' cc_103, i' cd_104, i' z_106, i' z_112, i' 0, r' rw_118, u', u', u', u'] [(.ref b120), (.ref b119), (.ref b119)]))
      refine go _ _ (fun _ k => XS.dup X125.here hx rfl (hb hby at_119) rfl rfl (XS.iconst X125.here hx rfl (hb hby at_120) (XS.iload X125.here hx rfl (hb hby at_121) rfl k))) ?_
      obtain ⟨cl126, Ar126, q126, S126, M126, H126, U126⟩ := id V125
      obtain ⟨T126, h126, X126, e126, W126, st126⟩ := stC X125 hx hZ118 e125 Ar126 (j := (3 : Int32)) (inb_of S126 ⟨by decide, by decide⟩) (g := (mkF m 123 #[i' p0, i' p1, i' p2, i' ca_101, i' cb_102, i' cc_103, i' cd_104, i' z_106, i' z_112, i' 0, r' rw_118, u', u', u', u'] [(.int cb_102), (.int 3), (.ref b120), (.ref b120), (.ref b119), (.ref b119)])) rfl rfl (hb hby at_123)
      have V126 : Arv Z h126 b120 k120 .char (9 : Int32) [(.int (92 : Int32)), (.int ca_101), (.int (92 : Int32)), (.int (nar .char cb_102)), (.int (0 : Int32)), (.int (0 : Int32)), (.int (0 : Int32)), (.int (0 : Int32)), (.int (0 : Int32))] (.int (0 : Int32)) := Arv.set Ar126 q126 S126 M126 H126 U126 (fits_nar_char _) W126 3 rfl (Nat.le_of_ble_eq_true rfl)
      rw [(own_narc pa102_0 pa102_1)] at V126
      have N126 := Fr.snoc X126 N125 (Nat.le_trans (Nat.le_trans Z0 Z123) (Nat.le_of_eq g120.symm))
      refine go _ _ (st126) ?_
      show G (T126.setTop (mkF m 124 #[i' p0, i' p1, i' p2, i' ca_101, i' cb_102, i' cc_103, i' cd_104, i' z_106, i' z_112, i' 0, r' rw_118, u', u', u', u'] [(.ref b120), (.ref b119), (.ref b119)]))
      refine go _ _ (fun _ k => XS.dup X126.here hx rfl (hb hby at_124) rfl rfl (XS.iconst X126.here hx rfl (hb hby at_125) (XS.bipush X126.here hx rfl (hb hby at_126) k))) ?_
      obtain ⟨cl127, Ar127, q127, S127, M127, H127, U127⟩ := id V126
      obtain ⟨T127, h127, X127, e127, W127, st127⟩ := stC X126 hx hZ118 e126 Ar127 (j := (4 : Int32)) (inb_of S127 ⟨by decide, by decide⟩) (g := (mkF m 128 #[i' p0, i' p1, i' p2, i' ca_101, i' cb_102, i' cc_103, i' cd_104, i' z_106, i' z_112, i' 0, r' rw_118, u', u', u', u'] [(.int 124), (.int 4), (.ref b120), (.ref b120), (.ref b119), (.ref b119)])) rfl rfl (hb hby at_128)
      have V127 : Arv Z h127 b120 k120 .char (9 : Int32) [(.int (92 : Int32)), (.int ca_101), (.int (92 : Int32)), (.int cb_102), (.int (124 : Int32)), (.int (0 : Int32)), (.int (0 : Int32)), (.int (0 : Int32)), (.int (0 : Int32))] (.int (0 : Int32)) := Arv.set Ar127 q127 S127 M127 H127 U127 rfl W127 4 rfl (Nat.le_of_ble_eq_true rfl)
      have N127 := Fr.snoc X127 N126 (Nat.le_trans (Nat.le_trans Z0 Z123) (Nat.le_of_eq g120.symm))
      refine go _ _ (st127) ?_
      show G (T127.setTop (mkF m 129 #[i' p0, i' p1, i' p2, i' ca_101, i' cb_102, i' cc_103, i' cd_104, i' z_106, i' z_112, i' 0, r' rw_118, u', u', u', u'] [(.ref b120), (.ref b119), (.ref b119)]))
      refine go _ _ (fun _ k => XS.dup X127.here hx rfl (hb hby at_129) rfl rfl (XS.iconst X127.here hx rfl (hb hby at_130) (XS.bipush X127.here hx rfl (hb hby at_131) k))) ?_
      obtain ⟨cl128, Ar128, q128, S128, M128, H128, U128⟩ := id V127
      obtain ⟨T128, h128, X128, e128, W128, st128⟩ := stC X127 hx hZ118 e127 Ar128 (j := (5 : Int32)) (inb_of S128 ⟨by decide, by decide⟩) (g := (mkF m 133 #[i' p0, i' p1, i' p2, i' ca_101, i' cb_102, i' cc_103, i' cd_104, i' z_106, i' z_112, i' 0, r' rw_118, u', u', u', u'] [(.int 92), (.int 5), (.ref b120), (.ref b120), (.ref b119), (.ref b119)])) rfl rfl (hb hby at_133)
      have V128 : Arv Z h128 b120 k120 .char (9 : Int32) [(.int (92 : Int32)), (.int ca_101), (.int (92 : Int32)), (.int cb_102), (.int (124 : Int32)), (.int (92 : Int32)), (.int (0 : Int32)), (.int (0 : Int32)), (.int (0 : Int32))] (.int (0 : Int32)) := Arv.set Ar128 q128 S128 M128 H128 U128 rfl W128 5 rfl (Nat.le_of_ble_eq_true rfl)
      have N128 := Fr.snoc X128 N127 (Nat.le_trans (Nat.le_trans Z0 Z123) (Nat.le_of_eq g120.symm))
      refine go _ _ (st128) ?_
      show G (T128.setTop (mkF m 134 #[i' p0, i' p1, i' p2, i' ca_101, i' cb_102, i' cc_103, i' cd_104, i' z_106, i' z_112, i' 0, r' rw_118, u', u', u', u'] [(.ref b120), (.ref b119), (.ref b119)]))
      refine go _ _ (fun _ k => XS.dup X128.here hx rfl (hb hby at_134) rfl rfl (XS.bipush X128.here hx rfl (hb hby at_135) (XS.iload X128.here hx rfl (hb hby at_137) rfl k))) ?_
      obtain ⟨cl129, Ar129, q129, S129, M129, H129, U129⟩ := id V128
      obtain ⟨T129, h129, X129, e129, W129, st129⟩ := stC X128 hx hZ118 e128 Ar129 (j := (6 : Int32)) (inb_of S129 ⟨by decide, by decide⟩) (g := (mkF m 139 #[i' p0, i' p1, i' p2, i' ca_101, i' cb_102, i' cc_103, i' cd_104, i' z_106, i' z_112, i' 0, r' rw_118, u', u', u', u'] [(.int cc_103), (.int 6), (.ref b120), (.ref b120), (.ref b119), (.ref b119)])) rfl rfl (hb hby at_139)
      have V129 : Arv Z h129 b120 k120 .char (9 : Int32) [(.int (92 : Int32)), (.int ca_101), (.int (92 : Int32)), (.int cb_102), (.int (124 : Int32)), (.int (92 : Int32)), (.int (nar .char cc_103)), (.int (0 : Int32)), (.int (0 : Int32))] (.int (0 : Int32)) := Arv.set Ar129 q129 S129 M129 H129 U129 (fits_nar_char _) W129 6 rfl (Nat.le_of_ble_eq_true rfl)
      rw [(own_narc pa103_0 pa103_1)] at V129
      have N129 := Fr.snoc X129 N128 (Nat.le_trans (Nat.le_trans Z0 Z123) (Nat.le_of_eq g120.symm))
      refine go _ _ (st129) ?_
      show G (T129.setTop (mkF m 140 #[i' p0, i' p1, i' p2, i' ca_101, i' cb_102, i' cc_103, i' cd_104, i' z_106, i' z_112, i' 0, r' rw_118, u', u', u', u'] [(.ref b120), (.ref b119), (.ref b119)]))
      refine go _ _ (fun _ k => XS.dup X129.here hx rfl (hb hby at_140) rfl rfl (XS.bipush X129.here hx rfl (hb hby at_141) (XS.bipush X129.here hx rfl (hb hby at_143) k))) ?_
      obtain ⟨cl130, Ar130, q130, S130, M130, H130, U130⟩ := id V129
      obtain ⟨T130, h130, X130, e130, W130, st130⟩ := stC X129 hx hZ118 e129 Ar130 (j := (7 : Int32)) (inb_of S130 ⟨by decide, by decide⟩) (g := (mkF m 145 #[i' p0, i' p1, i' p2, i' ca_101, i' cb_102, i' cc_103, i' cd_104, i' z_106, i' z_112, i' 0, r' rw_118, u', u', u', u'] [(.int 92), (.int 7), (.ref b120), (.ref b120), (.ref b119), (.ref b119)])) rfl rfl (hb hby at_145)
      have V130 : Arv Z h130 b120 k120 .char (9 : Int32) [(.int (92 : Int32)), (.int ca_101), (.int (92 : Int32)), (.int cb_102), (.int (124 : Int32)), (.int (92 : Int32)), (.int cc_103), (.int (92 : Int32)), (.int (0 : Int32))] (.int (0 : Int32)) := Arv.set Ar130 q130 S130 M130 H130 U130 rfl W130 7 rfl (Nat.le_of_ble_eq_true rfl)
      have N130 := Fr.snoc X130 N129 (Nat.le_trans (Nat.le_trans Z0 Z123) (Nat.le_of_eq g120.symm))
      refine go _ _ (st130) ?_
      show G (T130.setTop (mkF m 146 #[i' p0, i' p1, i' p2, i' ca_101, i' cb_102, i' cc_103, i' cd_104, i' z_106, i' z_112, i' 0, r' rw_118, u', u', u', u'] [(.ref b120), (.ref b119), (.ref b119)]))
      refine go _ _ (fun _ k => XS.dup X130.here hx rfl (hb hby at_146) rfl rfl (XS.bipush X130.here hx rfl (hb hby at_147) (XS.iload X130.here hx rfl (hb hby at_149) rfl k))) ?_
      obtain ⟨cl131, Ar131, q131, S131, M131, H131, U131⟩ := id V130
      obtain ⟨T131, h131, X131, e131, W131, st131⟩ := stC X130 hx hZ118 e130 Ar131 (j := (8 : Int32)) (inb_of S131 ⟨by decide, by decide⟩) (g := (mkF m 151 #[i' p0, i' p1, i' p2, i' ca_101, i' cb_102, i' cc_103, i' cd_104, i' z_106, i' z_112, i' 0, r' rw_118, u', u', u', u'] [(.int cd_104), (.int 8), (.ref b120), (.ref b120), (.ref b119), (.ref b119)])) rfl rfl (hb hby at_151)
      have V131 : Arv Z h131 b120 k120 .char (9 : Int32) [(.int (92 : Int32)), (.int ca_101), (.int (92 : Int32)), (.int cb_102), (.int (124 : Int32)), (.int (92 : Int32)), (.int cc_103), (.int (92 : Int32)), (.int (nar .char cd_104))] (.int (0 : Int32)) := Arv.set Ar131 q131 S131 M131 H131 U131 (fits_nar_char _) W131 8 rfl (Nat.le_of_ble_eq_true rfl)
      rw [(own_narc pa104_0 pa104_1)] at V131
      have N131 := Fr.snoc X131 N130 (Nat.le_trans (Nat.le_trans Z0 Z123) (Nat.le_of_eq g120.symm))
      refine go _ _ (st131) ?_
      show G (T131.setTop (mkF m 152 #[i' p0, i' p1, i' p2, i' ca_101, i' cb_102, i' cc_103, i' cd_104, i' z_106, i' z_112, i' 0, r' rw_118, u', u', u', u'] [(.ref b120), (.ref b119), (.ref b119)]))
      have K133 : Keep h119 h120 [] := (Keep.refl h119 []).ext E120
      have K134 : Keep h119 h121 [] := K133.wr W121 (Or.inr (Nat.le_of_eq g120.symm))
      have K135 : Keep h119 h124 [] := K134.wr W124 (Or.inr (Nat.le_of_eq g120.symm))
      have K136 : Keep h119 h125 [] := K135.wr W125 (Or.inr (Nat.le_of_eq g120.symm))
      have K137 : Keep h119 h126 [] := K136.wr W126 (Or.inr (Nat.le_of_eq g120.symm))
      have K138 : Keep h119 h127 [] := K137.wr W127 (Or.inr (Nat.le_of_eq g120.symm))
      have K139 : Keep h119 h128 [] := K138.wr W128 (Or.inr (Nat.le_of_eq g120.symm))
      have K140 : Keep h119 h129 [] := K139.wr W129 (Or.inr (Nat.le_of_eq g120.symm))
      have K141 : Keep h119 h130 [] := K140.wr W130 (Or.inr (Nat.le_of_eq g120.symm))
      have K142 : Keep h119 h131 [] := K141.wr W131 (Or.inr (Nat.le_of_eq g120.symm))
      have F143 : Exa Z h131 b119 "java/lang/String" := (A119.keep K142)
      have F144 : Fld Z h131 b119 "java/lang/String" "value" "[B" .null := ((D119 (Or.inr (ow hw 33 rfl)) (ty := (.array .byte)) (by decide)).keep K142 nin0)
      have F145 : Fld Z h131 b119 "java/lang/String" "coder" "B" (.int (0 : Int32)) := ((D119 (Or.inr (ow hw 31 rfl)) (ty := .byte) (by decide)).keep K142 nin0)
      have K146 : Keep h0 h118 [] := (Keep.refl h0 []).trans K118 all0
      have K147 : Keep h0 h119 [] := K146.ext E119
      have K148 : Keep h0 h120 [] := K147.ext E120
      have K149 : Keep h0 h121 [] := K148.wr W121 (Or.inr (Nat.le_trans Z123 (Nat.le_of_eq g120.symm)))
      have K150 : Keep h0 h124 [] := K149.wr W124 (Or.inr (Nat.le_trans Z123 (Nat.le_of_eq g120.symm)))
      have K151 : Keep h0 h125 [] := K150.wr W125 (Or.inr (Nat.le_trans Z123 (Nat.le_of_eq g120.symm)))
      have K152 : Keep h0 h126 [] := K151.wr W126 (Or.inr (Nat.le_trans Z123 (Nat.le_of_eq g120.symm)))
      have K153 : Keep h0 h127 [] := K152.wr W127 (Or.inr (Nat.le_trans Z123 (Nat.le_of_eq g120.symm)))
      have K154 : Keep h0 h128 [] := K153.wr W128 (Or.inr (Nat.le_trans Z123 (Nat.le_of_eq g120.symm)))
      have K155 : Keep h0 h129 [] := K154.wr W129 (Or.inr (Nat.le_trans Z123 (Nat.le_of_eq g120.symm)))
      have K156 : Keep h0 h130 [] := K155.wr W130 (Or.inr (Nat.le_trans Z123 (Nat.le_of_eq g120.symm)))
      have K157 : Keep h0 h131 [] := K156.wr W131 (Or.inr (Nat.le_trans Z123 (Nat.le_of_eq g120.symm)))
      have F158 : Old Z n0 h131 := (Xo.keep K157 all0)
      have hp132 : ∀ c ∈ ([(92 : Int32), ca_101, (92 : Int32), cb_102, (124 : Int32), (92 : Int32), cc_103, (92 : Int32), cd_104] : List Int32), ¬ c < 0 ∧ ¬ (255 : Int32) < c := by
        intro c hc
        simp only [List.mem_cons, List.not_mem_nil, or_false] at hc
        rcases hc with rfl | rfl | rfl | rfl | rfl | rfl | rfl | rfl | rfl
        · exact (by decide)
        · exact ⟨pa101_0, pa101_1⟩
        · exact (by decide)
        · exact ⟨pa102_0, pa102_1⟩
        · exact (by decide)
        · exact (by decide)
        · exact ⟨pa103_0, pa103_1⟩
        · exact (by decide)
        · exact ⟨pa104_0, pa104_1⟩
      have Z159 : h0.size ≤ h120.size := Nat.le_trans Z123 E120.1
      have Z160 : h0.size ≤ h121.size := Nat.le_trans Z159 (Keep.of_wr W121).1
      have Z161 : h0.size ≤ h124.size := Nat.le_trans Z160 (Keep.of_wr W124).1
      have Z162 : h0.size ≤ h125.size := Nat.le_trans Z161 (Keep.of_wr W125).1
      have Z163 : h0.size ≤ h126.size := Nat.le_trans Z162 (Keep.of_wr W126).1
      have Z164 : h0.size ≤ h127.size := Nat.le_trans Z163 (Keep.of_wr W127).1
      have Z165 : h0.size ≤ h128.size := Nat.le_trans Z164 (Keep.of_wr W128).1
      have Z166 : h0.size ≤ h129.size := Nat.le_trans Z165 (Keep.of_wr W129).1
      have Z167 : h0.size ≤ h130.size := Nat.le_trans Z166 (Keep.of_wr W130).1
      have Z168 : h0.size ≤ h131.size := Nat.le_trans Z167 (Keep.of_wr W131).1
      obtain ⟨rv132, T132, L132, X132, q132, st132⟩ := own_sp X131 hx hZ118 (y := (⟨"java/lang/String", "<init>", "([C)V"⟩ : MethodName)) rfl hown118 (ow hw 8 rfl) (ow hw 9 rfl) (ow hw 10 rfl) (by decide) (StrChars.Road.backV (W := 1) hZ118 (own_hws hw) (kI := 4) (ow hw 5 rfl) (cs := ([(92 : Int32), ca_101, (92 : Int32), cb_102, (124 : Int32), (92 : Int32), cc_103, (92 : Int32), cd_104] : List Int32)) (bs := ([(92 : Int32), ca_101, (92 : Int32), cb_102, (124 : Int32), (92 : Int32), cc_103, (92 : Int32), cd_104] : List Int32).map (fun c => c.toInt8.toInt32)) (n := 9) (Nat.le_trans (Nat.le_trans Z0 Z122) (Nat.le_of_eq g119.symm)) (Nat.le_trans Z0 Z168) F143 F144 F145 V131 (O2.ext F158.2) P5 rfl rfl (by decide) (by decide) hp132 rfl (by decide) (by decide)) e131 (g := (mkF m 152 #[i' p0, i' p1, i' p2, i' ca_101, i' cb_102, i' cc_103, i' cd_104, i' z_106, i' z_112, i' 0, r' rw_118, u', u', u', u'] [(.ref b120), (.ref b119), (.ref b119)])) rfl (by rw [hml]; rfl) (a := b119) (argsL := [(.ref b120)]) (rest := [(.ref b119)]) rfl (lenOf own_pd19 rfl) rfl (by show 2 * 0 + _ ≤ _; exact Nat.le_of_eq rfl) (hb hby at_152) (by decide) (by decide)
      obtain ⟨rfl, Nq132, Kp132, Es132, Cs132, t132, kb132, u132a, u132b, u132c, Vs132, As132⟩ := q132
      have N132 := Fr.app N131 Nq132
      have Sx132 : own_Str Z T132.heap b119 ([(92 : Int32), ca_101, (92 : Int32), cb_102, (124 : Int32), (92 : Int32), cc_103, (92 : Int32), cd_104] : List Int32) := ⟨t132, kb132, Es132, Vs132, Cs132, As132, hp132, (Nat.le_of_ble_eq_true rfl)⟩
      refine go _ _ (st132) ?_
      show G (T132.setTop (mkF m 155 #[i' p0, i' p1, i' p2, i' ca_101, i' cb_102, i' cc_103, i' cd_104, i' z_106, i' z_112, i' 0, r' rw_118, u', u', u', u'] [(.ref b119)]))
      refine go _ _ (fun _ k => XS.astore X132.here hx rfl (hb hby at_155) rfl rfl (l' := #[i' p0, i' p1, i' p2, i' ca_101, i' cb_102, i' cc_103, i' cd_104, i' z_106, i' z_112, i' 0, r' rw_118, r' b119, u', u', u']) rfl k) ?_
      obtain ⟨T169, h169, X169, e169, E169, A169, D169, -, st169⟩ := newO X132 hx hZ118 hown118 (ow hw 4 rfl) (ow hw 5 rfl) (ow hw 6 rfl) rfl (g := (mkF m 157 #[i' p0, i' p1, i' p2, i' ca_101, i' cb_102, i' cc_103, i' cd_104, i' z_106, i' z_112, i' 0, r' rw_118, r' b119, u', u', u'] [])) rfl (hb hby at_157) (by decide) (by decide)
      obtain ⟨b169, g169⟩ : ∃ z, z = T132.heap.size := ⟨_, rfl⟩
      rw [← g169] at A169 D169 st169
      refine go _ _ (st169) ?_
      show G (T169.setTop (mkF m 160 #[i' p0, i' p1, i' p2, i' ca_101, i' cb_102, i' cc_103, i' cd_104, i' z_106, i' z_112, i' 0, r' rw_118, r' b119, u', u', u'] [(.ref b169)]))
      refine go _ _ (fun _ k => XS.dup X169.here hx rfl (hb hby at_160) rfl rfl (XS.iconst X169.here hx rfl (hb hby at_161) k)) ?_
      obtain ⟨T170, h170, k170, X170, e170, E170, A170, st170⟩ := newP X169 hx hZ118 (ow hw 7 rfl) e169 (g := (mkF m 162 #[i' p0, i' p1, i' p2, i' ca_101, i' cb_102, i' cc_103, i' cd_104, i' z_106, i' z_112, i' 0, r' rw_118, r' b119, u', u', u'] [(.int 2), (.ref b169), (.ref b169)])) rfl (hb hby at_162) rfl (by decide) (cap := 2) (by decide) (by decide) (by decide) (by decide)
      obtain ⟨b170, g170⟩ : ∃ z, z = h169.size := ⟨_, rfl⟩
      rw [← g170] at A170 st170
      have V170 : Arv Z h170 b170 k170 .char (2 : Int32) [(.int (0 : Int32)), (.int (0 : Int32))] (.int (0 : Int32)) := (Arv.new A170 (by decide)).pad (pad_rep [] (.int (0 : Int32)) 2)
      refine go _ _ (st170) ?_
      show G (T170.setTop (mkF m 164 #[i' p0, i' p1, i' p2, i' ca_101, i' cb_102, i' cc_103, i' cd_104, i' z_106, i' z_112, i' 0, r' rw_118, r' b119, u', u', u'] [(.ref b170), (.ref b169), (.ref b169)]))
      refine go _ _ (fun _ k => XS.dup X170.here hx rfl (hb hby at_164) rfl rfl (XS.iconst X170.here hx rfl (hb hby at_165) (XS.iloadN X170.here hx rfl (hb hby at_166) rfl k))) ?_
      obtain ⟨cl171, Ar171, q171, S171, M171, H171, U171⟩ := id V170
      obtain ⟨T171, h171, X171, e171, W171, st171⟩ := stC X170 hx hZ118 e170 Ar171 (j := (0 : Int32)) (inb_of S171 ⟨by decide, by decide⟩) (g := (mkF m 167 #[i' p0, i' p1, i' p2, i' ca_101, i' cb_102, i' cc_103, i' cd_104, i' z_106, i' z_112, i' 0, r' rw_118, r' b119, u', u', u'] [(.int ca_101), (.int 0), (.ref b170), (.ref b170), (.ref b169), (.ref b169)])) rfl rfl (hb hby at_167)
      have V171 : Arv Z h171 b170 k170 .char (2 : Int32) [(.int (nar .char ca_101)), (.int (0 : Int32))] (.int (0 : Int32)) := Arv.set Ar171 q171 S171 M171 H171 U171 (fits_nar_char _) W171 0 rfl (Nat.le_of_ble_eq_true rfl)
      rw [(own_narc pa101_0 pa101_1)] at V171
      have Z172 : h0.size ≤ T132.heap.size := Nat.le_trans Z168 Kp132.1
      have Z173 : h0.size ≤ h169.size := Nat.le_trans Z172 E169.1
      have N171 := Fr.snoc X171 N132 (Nat.le_trans (Nat.le_trans Z0 Z173) (Nat.le_of_eq g170.symm))
      refine go _ _ (st171) ?_
      show G (T171.setTop (mkF m 168 #[i' p0, i' p1, i' p2, i' ca_101, i' cb_102, i' cc_103, i' cd_104, i' z_106, i' z_112, i' 0, r' rw_118, r' b119, u', u', u'] [(.ref b170), (.ref b169), (.ref b169)]))
      refine go _ _ (fun _ k => XS.dup X171.here hx rfl (hb hby at_168) rfl rfl (XS.iconst X171.here hx rfl (hb hby at_169) (XS.iload X171.here hx rfl (hb hby at_170) rfl k))) ?_
      obtain ⟨cl174, Ar174, q174, S174, M174, H174, U174⟩ := id V171
      obtain ⟨T174, h174, X174, e174, W174, st174⟩ := stC X171 hx hZ118 e171 Ar174 (j := (1 : Int32)) (inb_of S174 ⟨by decide, by decide⟩) (g := (mkF m 172 #[i' p0, i' p1, i' p2, i' ca_101, i' cb_102, i' cc_103, i' cd_104, i' z_106, i' z_112, i' 0, r' rw_118, r' b119, u', u', u'] [(.int cb_102), (.int 1), (.ref b170), (.ref b170), (.ref b169), (.ref b169)])) rfl rfl (hb hby at_172)
      have V174 : Arv Z h174 b170 k170 .char (2 : Int32) [(.int ca_101), (.int (nar .char cb_102))] (.int (0 : Int32)) := Arv.set Ar174 q174 S174 M174 H174 U174 (fits_nar_char _) W174 1 rfl (Nat.le_of_ble_eq_true rfl)
      rw [(own_narc pa102_0 pa102_1)] at V174
      have N174 := Fr.snoc X174 N171 (Nat.le_trans (Nat.le_trans Z0 Z173) (Nat.le_of_eq g170.symm))
      refine go _ _ (st174) ?_
      show G (T174.setTop (mkF m 173 #[i' p0, i' p1, i' p2, i' ca_101, i' cb_102, i' cc_103, i' cd_104, i' z_106, i' z_112, i' 0, r' rw_118, r' b119, u', u', u'] [(.ref b170), (.ref b169), (.ref b169)]))
      have K176 : Keep h169 h170 [] := (Keep.refl h169 []).ext E170
      have K177 : Keep h169 h171 [] := K176.wr W171 (Or.inr (Nat.le_of_eq g170.symm))
      have K178 : Keep h169 h174 [] := K177.wr W174 (Or.inr (Nat.le_of_eq g170.symm))
      have F179 : Exa Z h174 b169 "java/lang/String" := (A169.keep K178)
      have F180 : Fld Z h174 b169 "java/lang/String" "value" "[B" .null := ((D169 (Or.inr (ow hw 33 rfl)) (ty := (.array .byte)) (by decide)).keep K178 nin0)
      have F181 : Fld Z h174 b169 "java/lang/String" "coder" "B" (.int (0 : Int32)) := ((D169 (Or.inr (ow hw 31 rfl)) (ty := .byte) (by decide)).keep K178 nin0)
      have Z182 : h131.size ≤ T132.heap.size := Kp132.1
      have Z183 : h131.size ≤ h169.size := Nat.le_trans Z182 E169.1
      have K184 : Keep h131 T132.heap [b119] := (Keep.refl h131 [b119]).trans Kp132 (allS (Or.inl (List.mem_of_getElem? (i := 0) rfl)) all0)
      have K185 : Keep h131 h169 [b119] := K184.ext E169
      have K186 : Keep h131 h170 [b119] := K185.ext E170
      have K187 : Keep h131 h171 [b119] := K186.wr W171 (Or.inr (Nat.le_trans Z183 (Nat.le_of_eq g170.symm)))
      have K188 : Keep h131 h174 [b119] := K187.wr W174 (Or.inr (Nat.le_trans Z183 (Nat.le_of_eq g170.symm)))
      have F189 : Old Z n0 h174 := (F158.keep K188 (allS (Nat.le_trans (Nat.le_trans Z0 Z122) (Nat.le_of_eq g119.symm)) all0))
      have hp175 : ∀ c ∈ ([ca_101, cb_102] : List Int32), ¬ c < 0 ∧ ¬ (255 : Int32) < c := by
        intro c hc
        simp only [List.mem_cons, List.not_mem_nil, or_false] at hc
        rcases hc with rfl | rfl
        · exact ⟨pa101_0, pa101_1⟩
        · exact ⟨pa102_0, pa102_1⟩
      have Z190 : h0.size ≤ h170.size := Nat.le_trans Z173 E170.1
      have Z191 : h0.size ≤ h171.size := Nat.le_trans Z190 (Keep.of_wr W171).1
      have Z192 : h0.size ≤ h174.size := Nat.le_trans Z191 (Keep.of_wr W174).1
      obtain ⟨rv175, T175, L175, X175, q175, st175⟩ := own_sp X174 hx hZ118 (y := (⟨"java/lang/String", "<init>", "([C)V"⟩ : MethodName)) rfl hown118 (ow hw 8 rfl) (ow hw 9 rfl) (ow hw 10 rfl) (by decide) (StrChars.Road.backV (W := 1) hZ118 (own_hws hw) (kI := 4) (ow hw 5 rfl) (cs := ([ca_101, cb_102] : List Int32)) (bs := ([ca_101, cb_102] : List Int32).map (fun c => c.toInt8.toInt32)) (n := 2) (Nat.le_trans (Nat.le_trans Z0 Z172) (Nat.le_of_eq g169.symm)) (Nat.le_trans Z0 Z192) F179 F180 F181 V174 (O2.ext F189.2) P5 rfl rfl (by decide) (by decide) hp175 rfl (by decide) (by decide)) e174 (g := (mkF m 173 #[i' p0, i' p1, i' p2, i' ca_101, i' cb_102, i' cc_103, i' cd_104, i' z_106, i' z_112, i' 0, r' rw_118, r' b119, u', u', u'] [(.ref b170), (.ref b169), (.ref b169)])) rfl (by rw [hml]; rfl) (a := b169) (argsL := [(.ref b170)]) (rest := [(.ref b169)]) rfl (lenOf own_pd19 rfl) rfl (by show 2 * 0 + _ ≤ _; exact Nat.le_of_eq rfl) (hb hby at_173) (by decide) (by decide)
      obtain ⟨rfl, Nq175, Kp175, Es175, Cs175, t175, kb175, u175a, u175b, u175c, Vs175, As175⟩ := q175
      have N175 := Fr.app N174 Nq175
      have Sx175 : own_Str Z T175.heap b169 ([ca_101, cb_102] : List Int32) := ⟨t175, kb175, Es175, Vs175, Cs175, As175, hp175, (Nat.le_of_ble_eq_true rfl)⟩
      refine go _ _ (st175) ?_
      show G (T175.setTop (mkF m 176 #[i' p0, i' p1, i' p2, i' ca_101, i' cb_102, i' cc_103, i' cd_104, i' z_106, i' z_112, i' 0, r' rw_118, r' b119, u', u', u'] [(.ref b169)]))
      refine go _ _ (fun _ k => XS.astore X175.here hx rfl (hb hby at_176) rfl rfl (l' := #[i' p0, i' p1, i' p2, i' ca_101, i' cb_102, i' cc_103, i' cd_104, i' z_106, i' z_112, i' 0, r' rw_118, r' b119, r' b169, u', u']) rfl k) ?_
      obtain ⟨T193, h193, X193, e193, E193, A193, D193, -, st193⟩ := newO X175 hx hZ118 hown118 (ow hw 4 rfl) (ow hw 5 rfl) (ow hw 6 rfl) rfl (g := (mkF m 178 #[i' p0, i' p1, i' p2, i' ca_101, i' cb_102, i' cc_103, i' cd_104, i' z_106, i' z_112, i' 0, r' rw_118, r' b119, r' b169, u', u'] [])) rfl (hb hby at_178) (by decide) (by decide)
      obtain ⟨b193, g193⟩ : ∃ z, z = T175.heap.size := ⟨_, rfl⟩
      rw [← g193] at A193 D193 st193
      refine go _ _ (st193) ?_
      show G (T193.setTop (mkF m 181 #[i' p0, i' p1, i' p2, i' ca_101, i' cb_102, i' cc_103, i' cd_104, i' z_106, i' z_112, i' 0, r' rw_118, r' b119, r' b169, u', u'] [(.ref b193)]))
      refine go _ _ (fun _ k => XS.dup X193.here hx rfl (hb hby at_181) rfl rfl (XS.iconst X193.here hx rfl (hb hby at_182) k)) ?_
      obtain ⟨T194, h194, k194, X194, e194, E194, A194, st194⟩ := newP X193 hx hZ118 (ow hw 7 rfl) e193 (g := (mkF m 183 #[i' p0, i' p1, i' p2, i' ca_101, i' cb_102, i' cc_103, i' cd_104, i' z_106, i' z_112, i' 0, r' rw_118, r' b119, r' b169, u', u'] [(.int 2), (.ref b193), (.ref b193)])) rfl (hb hby at_183) rfl (by decide) (cap := 2) (by decide) (by decide) (by decide) (by decide)
      obtain ⟨b194, g194⟩ : ∃ z, z = h193.size := ⟨_, rfl⟩
      rw [← g194] at A194 st194
      have V194 : Arv Z h194 b194 k194 .char (2 : Int32) [(.int (0 : Int32)), (.int (0 : Int32))] (.int (0 : Int32)) := (Arv.new A194 (by decide)).pad (pad_rep [] (.int (0 : Int32)) 2)
      refine go _ _ (st194) ?_
      show G (T194.setTop (mkF m 185 #[i' p0, i' p1, i' p2, i' ca_101, i' cb_102, i' cc_103, i' cd_104, i' z_106, i' z_112, i' 0, r' rw_118, r' b119, r' b169, u', u'] [(.ref b194), (.ref b193), (.ref b193)]))
      refine go _ _ (fun _ k => XS.dup X194.here hx rfl (hb hby at_185) rfl rfl (XS.iconst X194.here hx rfl (hb hby at_186) (XS.iload X194.here hx rfl (hb hby at_187) rfl k))) ?_
      obtain ⟨cl195, Ar195, q195, S195, M195, H195, U195⟩ := id V194
      obtain ⟨T195, h195, X195, e195, W195, st195⟩ := stC X194 hx hZ118 e194 Ar195 (j := (0 : Int32)) (inb_of S195 ⟨by decide, by decide⟩) (g := (mkF m 189 #[i' p0, i' p1, i' p2, i' ca_101, i' cb_102, i' cc_103, i' cd_104, i' z_106, i' z_112, i' 0, r' rw_118, r' b119, r' b169, u', u'] [(.int cc_103), (.int 0), (.ref b194), (.ref b194), (.ref b193), (.ref b193)])) rfl rfl (hb hby at_189)
      have V195 : Arv Z h195 b194 k194 .char (2 : Int32) [(.int (nar .char cc_103)), (.int (0 : Int32))] (.int (0 : Int32)) := Arv.set Ar195 q195 S195 M195 H195 U195 (fits_nar_char _) W195 0 rfl (Nat.le_of_ble_eq_true rfl)
      rw [(own_narc pa103_0 pa103_1)] at V195
      have Z196 : h0.size ≤ T175.heap.size := Nat.le_trans Z192 Kp175.1
      have Z197 : h0.size ≤ h193.size := Nat.le_trans Z196 E193.1
      have N195 := Fr.snoc X195 N175 (Nat.le_trans (Nat.le_trans Z0 Z197) (Nat.le_of_eq g194.symm))
      refine go _ _ (st195) ?_
      show G (T195.setTop (mkF m 190 #[i' p0, i' p1, i' p2, i' ca_101, i' cb_102, i' cc_103, i' cd_104, i' z_106, i' z_112, i' 0, r' rw_118, r' b119, r' b169, u', u'] [(.ref b194), (.ref b193), (.ref b193)]))
      refine go _ _ (fun _ k => XS.dup X195.here hx rfl (hb hby at_190) rfl rfl (XS.iconst X195.here hx rfl (hb hby at_191) (XS.iload X195.here hx rfl (hb hby at_192) rfl k))) ?_
      obtain ⟨cl198, Ar198, q198, S198, M198, H198, U198⟩ := id V195
      obtain ⟨T198, h198, X198, e198, W198, st198⟩ := stC X195 hx hZ118 e195 Ar198 (j := (1 : Int32)) (inb_of S198 ⟨by decide, by decide⟩) (g := (mkF m 194 #[i' p0, i' p1, i' p2, i' ca_101, i' cb_102, i' cc_103, i' cd_104, i' z_106, i' z_112, i' 0, r' rw_118, r' b119, r' b169, u', u'] [(.int cd_104), (.int 1), (.ref b194), (.ref b194), (.ref b193), (.ref b193)])) rfl rfl (hb hby at_194)
      have V198 : Arv Z h198 b194 k194 .char (2 : Int32) [(.int cc_103), (.int (nar .char cd_104))] (.int (0 : Int32)) := Arv.set Ar198 q198 S198 M198 H198 U198 (fits_nar_char _) W198 1 rfl (Nat.le_of_ble_eq_true rfl)
      rw [(own_narc pa104_0 pa104_1)] at V198
      have N198 := Fr.snoc X198 N195 (Nat.le_trans (Nat.le_trans Z0 Z197) (Nat.le_of_eq g194.symm))
      refine go _ _ (st198) ?_
      show G (T198.setTop (mkF m 195 #[i' p0, i' p1, i' p2, i' ca_101, i' cb_102, i' cc_103, i' cd_104, i' z_106, i' z_112, i' 0, r' rw_118, r' b119, r' b169, u', u'] [(.ref b194), (.ref b193), (.ref b193)]))
      have K200 : Keep h193 h194 [] := (Keep.refl h193 []).ext E194
      have K201 : Keep h193 h195 [] := K200.wr W195 (Or.inr (Nat.le_of_eq g194.symm))
      have K202 : Keep h193 h198 [] := K201.wr W198 (Or.inr (Nat.le_of_eq g194.symm))
      have F203 : Exa Z h198 b193 "java/lang/String" := (A193.keep K202)
      have F204 : Fld Z h198 b193 "java/lang/String" "value" "[B" .null := ((D193 (Or.inr (ow hw 33 rfl)) (ty := (.array .byte)) (by decide)).keep K202 nin0)
      have F205 : Fld Z h198 b193 "java/lang/String" "coder" "B" (.int (0 : Int32)) := ((D193 (Or.inr (ow hw 31 rfl)) (ty := .byte) (by decide)).keep K202 nin0)
      have Z206 : h174.size ≤ T175.heap.size := Kp175.1
      have Z207 : h174.size ≤ h193.size := Nat.le_trans Z206 E193.1
      have K208 : Keep h174 T175.heap [b169] := (Keep.refl h174 [b169]).trans Kp175 (allS (Or.inl (List.mem_of_getElem? (i := 0) rfl)) all0)
      have K209 : Keep h174 h193 [b169] := K208.ext E193
      have K210 : Keep h174 h194 [b169] := K209.ext E194
      have K211 : Keep h174 h195 [b169] := K210.wr W195 (Or.inr (Nat.le_trans Z207 (Nat.le_of_eq g194.symm)))
      have K212 : Keep h174 h198 [b169] := K211.wr W198 (Or.inr (Nat.le_trans Z207 (Nat.le_of_eq g194.symm)))
      have F213 : Old Z n0 h198 := (F189.keep K212 (allS (Nat.le_trans (Nat.le_trans Z0 Z172) (Nat.le_of_eq g169.symm)) all0))
      have hp199 : ∀ c ∈ ([cc_103, cd_104] : List Int32), ¬ c < 0 ∧ ¬ (255 : Int32) < c := by
        intro c hc
        simp only [List.mem_cons, List.not_mem_nil, or_false] at hc
        rcases hc with rfl | rfl
        · exact ⟨pa103_0, pa103_1⟩
        · exact ⟨pa104_0, pa104_1⟩
      have Z214 : h0.size ≤ h194.size := Nat.le_trans Z197 E194.1
      have Z215 : h0.size ≤ h195.size := Nat.le_trans Z214 (Keep.of_wr W195).1
      have Z216 : h0.size ≤ h198.size := Nat.le_trans Z215 (Keep.of_wr W198).1
      obtain ⟨rv199, T199, L199, X199, q199, st199⟩ := own_sp X198 hx hZ118 (y := (⟨"java/lang/String", "<init>", "([C)V"⟩ : MethodName)) rfl hown118 (ow hw 8 rfl) (ow hw 9 rfl) (ow hw 10 rfl) (by decide) (StrChars.Road.backV (W := 1) hZ118 (own_hws hw) (kI := 4) (ow hw 5 rfl) (cs := ([cc_103, cd_104] : List Int32)) (bs := ([cc_103, cd_104] : List Int32).map (fun c => c.toInt8.toInt32)) (n := 2) (Nat.le_trans (Nat.le_trans Z0 Z196) (Nat.le_of_eq g193.symm)) (Nat.le_trans Z0 Z216) F203 F204 F205 V198 (O2.ext F213.2) P5 rfl rfl (by decide) (by decide) hp199 rfl (by decide) (by decide)) e198 (g := (mkF m 195 #[i' p0, i' p1, i' p2, i' ca_101, i' cb_102, i' cc_103, i' cd_104, i' z_106, i' z_112, i' 0, r' rw_118, r' b119, r' b169, u', u'] [(.ref b194), (.ref b193), (.ref b193)])) rfl (by rw [hml]; rfl) (a := b193) (argsL := [(.ref b194)]) (rest := [(.ref b193)]) rfl (lenOf own_pd19 rfl) rfl (by show 2 * 0 + _ ≤ _; exact Nat.le_of_eq rfl) (hb hby at_195) (by decide) (by decide)
      obtain ⟨rfl, Nq199, Kp199, Es199, Cs199, t199, kb199, u199a, u199b, u199c, Vs199, As199⟩ := q199
      have N199 := Fr.app N198 Nq199
      have Sx199 : own_Str Z T199.heap b193 ([cc_103, cd_104] : List Int32) := ⟨t199, kb199, Es199, Vs199, Cs199, As199, hp199, (Nat.le_of_ble_eq_true rfl)⟩
      refine go _ _ (st199) ?_
      show G (T199.setTop (mkF m 198 #[i' p0, i' p1, i' p2, i' ca_101, i' cb_102, i' cc_103, i' cd_104, i' z_106, i' z_112, i' 0, r' rw_118, r' b119, r' b169, u', u'] [(.ref b193)]))
      refine go _ _ (fun _ k => XS.astore X199.here hx rfl (hb hby at_198) rfl rfl (l' := #[i' p0, i' p1, i' p2, i' ca_101, i' cb_102, i' cc_103, i' cd_104, i' z_106, i' z_112, i' 0, r' rw_118, r' b119, r' b169, r' b193, u']) rfl k) ?_
      show G (T199.setTop (mkF m 200 #[i' p0, i' p1, i' p2, i' ca_101, i' cb_102, i' cc_103, i' cd_104, i' z_106, i' z_112, i' 0, r' rw_118, r' b119, r' b169, r' b193, u'] []))
      refine go _ _ (fun _ k => XS.goto X199.here hx rfl (pc0 := 200) (pc' := 398) rfl (hb hby at_200) (by decide) (by decide) k) ?_
      show G (T199.setTop (mkF m 398 #[i' p0, i' p1, i' p2, i' ca_101, i' cb_102, i' cc_103, i' cd_104, i' z_106, i' z_112, i' 0, r' rw_118, r' b119, r' b169, r' b193, u'] []))
      refine go _ _ (fun _ k => XS.aload X199.here hx rfl (hb hby at_398) rfl rfl k) ?_
      have Z218 : h118.size ≤ h119.size := E119.1
      have Z219 : h118.size ≤ h120.size := Nat.le_trans Z218 E120.1
      have Z220 : h118.size ≤ h121.size := Nat.le_trans Z219 (Keep.of_wr W121).1
      have Z221 : h118.size ≤ h124.size := Nat.le_trans Z220 (Keep.of_wr W124).1
      have Z222 : h118.size ≤ h125.size := Nat.le_trans Z221 (Keep.of_wr W125).1
      have Z223 : h118.size ≤ h126.size := Nat.le_trans Z222 (Keep.of_wr W126).1
      have Z224 : h118.size ≤ h127.size := Nat.le_trans Z223 (Keep.of_wr W127).1
      have Z225 : h118.size ≤ h128.size := Nat.le_trans Z224 (Keep.of_wr W128).1
      have Z226 : h118.size ≤ h129.size := Nat.le_trans Z225 (Keep.of_wr W129).1
      have Z227 : h118.size ≤ h130.size := Nat.le_trans Z226 (Keep.of_wr W130).1
      have Z228 : h118.size ≤ h131.size := Nat.le_trans Z227 (Keep.of_wr W131).1
      have Z229 : h118.size ≤ T132.heap.size := Nat.le_trans Z228 Kp132.1
      have Z230 : h118.size ≤ h169.size := Nat.le_trans Z229 E169.1
      have Z231 : h118.size ≤ h170.size := Nat.le_trans Z230 E170.1
      have Z232 : h118.size ≤ h171.size := Nat.le_trans Z231 (Keep.of_wr W171).1
      have Z233 : h118.size ≤ h174.size := Nat.le_trans Z232 (Keep.of_wr W174).1
      have Z234 : h118.size ≤ T175.heap.size := Nat.le_trans Z233 Kp175.1
      have Z235 : h118.size ≤ h193.size := Nat.le_trans Z234 E193.1
      have K236 : Keep h118 h119 [] := (Keep.refl h118 []).ext E119
      have K237 : Keep h118 h120 [] := K236.ext E120
      have K238 : Keep h118 h121 [] := K237.wr W121 (Or.inr (Nat.le_trans Z218 (Nat.le_of_eq g120.symm)))
      have K239 : Keep h118 h124 [] := K238.wr W124 (Or.inr (Nat.le_trans Z218 (Nat.le_of_eq g120.symm)))
      have K240 : Keep h118 h125 [] := K239.wr W125 (Or.inr (Nat.le_trans Z218 (Nat.le_of_eq g120.symm)))
      have K241 : Keep h118 h126 [] := K240.wr W126 (Or.inr (Nat.le_trans Z218 (Nat.le_of_eq g120.symm)))
      have K242 : Keep h118 h127 [] := K241.wr W127 (Or.inr (Nat.le_trans Z218 (Nat.le_of_eq g120.symm)))
      have K243 : Keep h118 h128 [] := K242.wr W128 (Or.inr (Nat.le_trans Z218 (Nat.le_of_eq g120.symm)))
      have K244 : Keep h118 h129 [] := K243.wr W129 (Or.inr (Nat.le_trans Z218 (Nat.le_of_eq g120.symm)))
      have K245 : Keep h118 h130 [] := K244.wr W130 (Or.inr (Nat.le_trans Z218 (Nat.le_of_eq g120.symm)))
      have K246 : Keep h118 h131 [] := K245.wr W131 (Or.inr (Nat.le_trans Z218 (Nat.le_of_eq g120.symm)))
      have K247 : Keep h118 T132.heap [] := K246.trans Kp132 (allS (Or.inr (Nat.le_of_eq g119.symm)) all0)
      have K248 : Keep h118 h169 [] := K247.ext E169
      have K249 : Keep h118 h170 [] := K248.ext E170
      have K250 : Keep h118 h171 [] := K249.wr W171 (Or.inr (Nat.le_trans Z230 (Nat.le_of_eq g170.symm)))
      have K251 : Keep h118 h174 [] := K250.wr W174 (Or.inr (Nat.le_trans Z230 (Nat.le_of_eq g170.symm)))
      have K252 : Keep h118 T175.heap [] := K251.trans Kp175 (allS (Or.inr (Nat.le_trans Z229 (Nat.le_of_eq g169.symm))) all0)
      have K253 : Keep h118 h193 [] := K252.ext E193
      have K254 : Keep h118 h194 [] := K253.ext E194
      have K255 : Keep h118 h195 [] := K254.wr W195 (Or.inr (Nat.le_trans Z235 (Nat.le_of_eq g194.symm)))
      have K256 : Keep h118 h198 [] := K255.wr W198 (Or.inr (Nat.le_trans Z235 (Nat.le_of_eq g194.symm)))
      have K257 : Keep h118 T199.heap [] := K256.trans Kp199 (allS (Or.inr (Nat.le_trans Z234 (Nat.le_of_eq g193.symm))) all0)
      have C258 : CHr Z own_EL s.vm h0 vm118 T199.heap := Cc118.trans (CHr.keep K257 sf0 Cc118.1)
      have Z259 : h118.size ≤ h194.size := Nat.le_trans Z235 E194.1
      have Z260 : h118.size ≤ h195.size := Nat.le_trans Z259 (Keep.of_wr W195).1
      have Z261 : h118.size ≤ h198.size := Nat.le_trans Z260 (Keep.of_wr W198).1
      have Z262 : h118.size ≤ T199.heap.size := Nat.le_trans Z261 Kp199.1
      obtain ⟨b217, T217, h217, k217, X217, e217, E217, hS217, hk217, hZ217, hown217, C217, -, st217⟩ := ldcOH X199 hx hZ118 hown118 (ow hw 48 rfl) (own_sat hw) rfl hS118 (Nat.le_trans hk118 Z262) (own_hEL hw) C258.1 (g := (mkF m 400 #[i' p0, i' p1, i' p2, i' ca_101, i' cb_102, i' cc_103, i' cd_104, i' z_106, i' z_112, i' 0, r' rw_118, r' b119, r' b169, r' b193, u'] [(.ref b119)])) rfl (hb hby at_400) (n := 40) (by decide) (by decide) (by decide) (by decide)
      refine go _ _ (st217) ?_
      have K264 : Keep h198 T199.heap [b193] := (Keep.refl h198 [b193]).trans Kp199 (allS (Or.inl (List.mem_of_getElem? (i := 0) rfl)) all0)
      have K265 : Keep h198 h217 [b193] := K264.ext E217
      have F266 : Old Z n0 h217 := (F213.keep K265 (allS (Nat.le_trans (Nat.le_trans Z0 Z196) (Nat.le_of_eq g193.symm)) all0))
      have Z267 : T132.heap.size ≤ h169.size := E169.1
      have Z268 : T132.heap.size ≤ h170.size := Nat.le_trans Z267 E170.1
      have Z269 : T132.heap.size ≤ h171.size := Nat.le_trans Z268 (Keep.of_wr W171).1
      have Z270 : T132.heap.size ≤ h174.size := Nat.le_trans Z269 (Keep.of_wr W174).1
      have Z271 : T132.heap.size ≤ T175.heap.size := Nat.le_trans Z270 Kp175.1
      have Z272 : T132.heap.size ≤ h193.size := Nat.le_trans Z271 E193.1
      have K273 : Keep T132.heap h169 [] := (Keep.refl T132.heap []).ext E169
      have K274 : Keep T132.heap h170 [] := K273.ext E170
      have K275 : Keep T132.heap h171 [] := K274.wr W171 (Or.inr (Nat.le_trans Z267 (Nat.le_of_eq g170.symm)))
      have K276 : Keep T132.heap h174 [] := K275.wr W174 (Or.inr (Nat.le_trans Z267 (Nat.le_of_eq g170.symm)))
      have K277 : Keep T132.heap T175.heap [] := K276.trans Kp175 (allS (Or.inr (Nat.le_of_eq g169.symm)) all0)
      have K278 : Keep T132.heap h193 [] := K277.ext E193
      have K279 : Keep T132.heap h194 [] := K278.ext E194
      have K280 : Keep T132.heap h195 [] := K279.wr W195 (Or.inr (Nat.le_trans Z272 (Nat.le_of_eq g194.symm)))
      have K281 : Keep T132.heap h198 [] := K280.wr W198 (Or.inr (Nat.le_trans Z272 (Nat.le_of_eq g194.symm)))
      have K282 : Keep T132.heap T199.heap [] := K281.trans Kp199 (allS (Or.inr (Nat.le_trans Z271 (Nat.le_of_eq g193.symm))) all0)
      have K283 : Keep T132.heap h217 [] := K282.ext E217
      have F284 : Exa Z h217 b119 "java/lang/String" := (Es132.keep K283)
      have F285 : own_Str Z h217 b119 ([(92 : Int32), ca_101, (92 : Int32), cb_102, (124 : Int32), (92 : Int32), cc_103, (92 : Int32), cd_104] : List Int32) := (own_Str_keep Sx132 K283)
      have Z286 : h0.size ≤ T199.heap.size := Nat.le_trans Z216 Kp199.1
      have Z287 : h0.size ≤ h217.size := Nat.le_trans Z286 E217.1
      obtain ⟨rv263, T263, L263, X263, q263, st263⟩ := own_st X217 hx hZ217 (y := (⟨"com/example/kindred/kindred/Identifier", "ofToken", "(Ljava/lang/String;Ljava/lang/String;)Lcom/example/kindred/kindred/Identifier;"⟩ : MethodName)) hown217 (ow hw 51 rfl) (ow hw 52 rfl) (ow hw 53 rfl) (ow hw 54 rfl) (by decide) (own_bkN (W := 0) (rmT0 l Z a0 hw z0 O2 P5 fm0 O4 R4 [] b119 (.ref b217) ca_101 cb_102 cc_103 cd_104 h217 n0 (Nat.le_trans Z0 Z287) rfl F266 F284 F285 pa101_0 pa101_1 pa102_0 pa102_1 pa103_0 pa103_1 pa104_0 pa104_1) hZ217 (ow hw 54 rfl) (ow hw 53 rfl) (by decide) (by decide)) e217 (g := (mkF m 402 #[i' p0, i' p1, i' p2, i' ca_101, i' cb_102, i' cc_103, i' cd_104, i' z_106, i' z_112, i' 0, r' rw_118, r' b119, r' b169, r' b193, u'] [(.ref b217), (.ref b119)])) rfl (by rw [hml]; rfl) (argsL := [(.ref b119), (.ref b217)]) (rest := []) rfl (lenOf own_pd20 rfl) rfl (by show 2 * 0 + _ ≤ _; exact Nat.le_of_eq rfl) (hb hby at_402) (by decide) (by decide)
      obtain ⟨Nq263, Kp263, ⟨b_288, s1_289, s2_290, rfl, f291, f292, f293, f294, f295, f296, f297⟩⟩ := q263
      have N263 := Fr.app N199 Nq263
      refine go _ _ (st263) ?_
      show G (T263.setTop (mkF m 405 #[i' p0, i' p1, i' p2, i' ca_101, i' cb_102, i' cc_103, i' cd_104, i' z_106, i' z_112, i' 0, r' rw_118, r' b119, r' b169, r' b193, u'] [(.ref b_288)]))
      refine go _ _ (fun _ k => XS.astore X263.here hx rfl (hb hby at_405) rfl rfl (l' := #[i' p0, i' p1, i' p2, i' ca_101, i' cb_102, i' cc_103, i' cd_104, i' z_106, i' z_112, i' 0, r' rw_118, r' b119, r' b169, r' b193, r' b_288]) rfl (XS.aload X263.here hx rfl (hb hby at_407) rfl rfl k)) ?_
      have Z299 : h0.size ≤ T263.heap.size := Nat.le_trans Z287 Kp263.1
      obtain ⟨rv298, T298, L298, X298, q298, st298⟩ := own_vi X263 hx hZ217 (y := (⟨"com/example/kindred/kindred/Identifier", "system", "()Ljava/lang/String;"⟩ : MethodName)) (z := (⟨"com/example/kindred/kindred/Identifier", "system", "()Ljava/lang/String;"⟩ : MethodName)) hown217 (ow hw 189 rfl) (ow hw 190 rfl) (ow hw 192 rfl) (ow hw 191 rfl) (Or.inl rfl) (by decide) (own_bkN (W := 0) (rm37 l Z a0 hw z0 O2 P5 fm0 O4 R4 [] b_288 s1_289 T263.heap n0 (Nat.le_trans Z0 Z299) f292) hZ217 (ow hw 193 rfl) (ow hw 53 rfl) (by decide) (by decide)) rfl f291 (g := (mkF m 409 #[i' p0, i' p1, i' p2, i' ca_101, i' cb_102, i' cc_103, i' cd_104, i' z_106, i' z_112, i' 0, r' rw_118, r' b119, r' b169, r' b193, r' b_288] [(.ref b_288)])) rfl (by rw [hml]; rfl) (argsL := []) (rest := []) rfl (lenOf own_pd16 rfl) rfl (by show 2 * 0 + _ ≤ _; exact Nat.le_of_eq rfl) (hb hby at_409) (by decide) (by decide)
      obtain ⟨Nq298, e298, rfl⟩ := q298
      have N298 := Fr.app N263 Nq298
      refine go _ _ (st298) ?_
      show G (T298.setTop (mkF m 412 #[i' p0, i' p1, i' p2, i' ca_101, i' cb_102, i' cc_103, i' cd_104, i' z_106, i' z_112, i' 0, r' rw_118, r' b119, r' b169, r' b193, r' b_288] [(.ref s1_289)]))
      refine go _ _ (fun _ k => XS.aload X298.here hx rfl (hb hby at_412) rfl rfl k) ?_
      obtain ⟨tx300, kbx300, Esx300, Vsx300, Csx300, Asx300, cdx300, bdx300, lnx300⟩ := own_Str_W f295
      have Z301 : T175.heap.size ≤ h193.size := E193.1
      have K302 : Keep T175.heap h193 [] := (Keep.refl T175.heap []).ext E193
      have K303 : Keep T175.heap h194 [] := K302.ext E194
      have K304 : Keep T175.heap h195 [] := K303.wr W195 (Or.inr (Nat.le_trans Z301 (Nat.le_of_eq g194.symm)))
      have K305 : Keep T175.heap h198 [] := K304.wr W198 (Or.inr (Nat.le_trans Z301 (Nat.le_of_eq g194.symm)))
      have K306 : Keep T175.heap T199.heap [] := K305.trans Kp199 (allS (Or.inr (Nat.le_of_eq g193.symm)) all0)
      have K307 : Keep T175.heap h217 [] := K306.ext E217
      have K308 : Keep T175.heap T263.heap [] := K307.trans Kp263 all0
      have F309 : own_Str Z T263.heap b169 ([ca_101, cb_102] : List Int32) := (own_Str_keep Sx175 K308)
      obtain ⟨ty300, kby300, Esy300, Vsy300, Csy300, Asy300, cdy300, bdy300, lny300⟩ := own_Str_W F309
      have K310 : Keep h217 T263.heap [] := (Keep.refl h217 []).trans Kp263 all0
      have F311 : Old Z n0 T263.heap := (F266.keep K310 all0)
      obtain ⟨rv300, T300, L300, X300, q300, st300⟩ := own_vi X298 hx hZ217 (Q := fun v h L => ((v = some (.int 1) ∧ ((([] : List Int32) ++ [ca_101]) ++ [cb_102]) = ([ca_101, cb_102] : List Int32)) ∨ (v = some (.int 0) ∧ ¬ ((([] : List Int32) ++ [ca_101]) ++ [cb_102]) = ([ca_101, cb_102] : List Int32))) ∧ L = [] ∧ h = T263.heap) (kc := 0) (ks := 0) (y := (⟨"java/lang/String", "equals", "(Ljava/lang/Object;)Z"⟩ : MethodName)) (z := (⟨"java/lang/String", "equals", "(Ljava/lang/Object;)Z"⟩ : MethodName)) hown217 (ow hw 194 rfl) (ow hw 195 rfl) (ow hw 197 rfl) (ow hw 196 rfl) (Or.inl rfl) (by decide) (StrChars.Road.eqW (s := s.setVm T217.vm) (W := 0) hZ217 (own_heq hw) (kI := 4) (ow hw 5 rfl) Esx300 Vsx300 Csx300 Asx300 cdx300 bdx300 lnx300 Esy300 Vsy300 Csy300 Asy300 cdy300 bdy300 lny300 (O2.ext F311.2) P5 (by decide) (by decide)) e298 f294 (g := (mkF m 414 #[i' p0, i' p1, i' p2, i' ca_101, i' cb_102, i' cc_103, i' cd_104, i' z_106, i' z_112, i' 0, r' rw_118, r' b119, r' b169, r' b193, r' b_288] [(.ref b169), (.ref s1_289)])) rfl (by rw [hml]; rfl) (argsL := [(.ref b169)]) (rest := []) rfl (lenOf own_pd21 rfl) rfl (by show 2 * 0 + _ ≤ _; exact Nat.le_of_eq rfl) (hb hby at_414) (by decide) (by decide)
      obtain ⟨q300, rfl, e300⟩ := q300
      have N300 := Fr.app N298 (Fr.nil n0)
      rcases q300 with ⟨rfl, pe300⟩ | ⟨rfl, pe300⟩
      · refine go _ _ (st300) ?_
        show G (T300.setTop (mkF m 417 #[i' p0, i' p1, i' p2, i' ca_101, i' cb_102, i' cc_103, i' cd_104, i' z_106, i' z_112, i' 0, r' rw_118, r' b119, r' b169, r' b193, r' b_288] [(.int 1)]))
        refine go _ _ (fun _ k => XS.ifNo X300.here hx rfl (hb hby at_417) rfl (by decide) k) ?_
        show G (T300.setTop (mkF m 420 #[i' p0, i' p1, i' p2, i' ca_101, i' cb_102, i' cc_103, i' cd_104, i' z_106, i' z_112, i' 0, r' rw_118, r' b119, r' b169, r' b193, r' b_288] []))
        refine go _ _ (fun _ k => XS.aload X300.here hx rfl (hb hby at_420) rfl rfl k) ?_
        obtain ⟨rv312, T312, L312, X312, q312, st312⟩ := own_vi X300 hx hZ217 (y := (⟨"com/example/kindred/kindred/Identifier", "value", "()Ljava/lang/String;"⟩ : MethodName)) (z := (⟨"com/example/kindred/kindred/Identifier", "value", "()Ljava/lang/String;"⟩ : MethodName)) hown217 (ow hw 202 rfl) (ow hw 203 rfl) (ow hw 205 rfl) (ow hw 204 rfl) (Or.inl rfl) (by decide) (own_bkN (W := 0) (rm40 l Z a0 hw z0 O2 P5 fm0 O4 R4 [] b_288 s2_290 T263.heap n0 (Nat.le_trans Z0 Z299) f293) hZ217 (ow hw 206 rfl) (ow hw 53 rfl) (by decide) (by decide)) e300 f291 (g := (mkF m 422 #[i' p0, i' p1, i' p2, i' ca_101, i' cb_102, i' cc_103, i' cd_104, i' z_106, i' z_112, i' 0, r' rw_118, r' b119, r' b169, r' b193, r' b_288] [(.ref b_288)])) rfl (by rw [hml]; rfl) (argsL := []) (rest := []) rfl (lenOf own_pd16 rfl) rfl (by show 2 * 0 + _ ≤ _; exact Nat.le_of_eq rfl) (hb hby at_422) (by decide) (by decide)
        obtain ⟨Nq312, e312, rfl⟩ := q312
        have N312 := Fr.app N300 Nq312
        refine go _ _ (st312) ?_
        show G (T312.setTop (mkF m 425 #[i' p0, i' p1, i' p2, i' ca_101, i' cb_102, i' cc_103, i' cd_104, i' z_106, i' z_112, i' 0, r' rw_118, r' b119, r' b169, r' b193, r' b_288] [(.ref s2_290)]))
        refine go _ _ (fun _ k => XS.aload X312.here hx rfl (hb hby at_425) rfl rfl k) ?_
        obtain ⟨tx313, kbx313, Esx313, Vsx313, Csx313, Asx313, cdx313, bdx313, lnx313⟩ := own_Str_W f297
        have K314 : Keep T199.heap h217 [] := (Keep.refl T199.heap []).ext E217
        have K315 : Keep T199.heap T263.heap [] := K314.trans Kp263 all0
        have F316 : own_Str Z T263.heap b193 ([cc_103, cd_104] : List Int32) := (own_Str_keep Sx199 K315)
        obtain ⟨ty313, kby313, Esy313, Vsy313, Csy313, Asy313, cdy313, bdy313, lny313⟩ := own_Str_W F316
        obtain ⟨rv313, T313, L313, X313, q313, st313⟩ := own_vi X312 hx hZ217 (Q := fun v h L => ((v = some (.int 1) ∧ ((([] : List Int32) ++ [cc_103]) ++ [cd_104]) = ([cc_103, cd_104] : List Int32)) ∨ (v = some (.int 0) ∧ ¬ ((([] : List Int32) ++ [cc_103]) ++ [cd_104]) = ([cc_103, cd_104] : List Int32))) ∧ L = [] ∧ h = T263.heap) (kc := 0) (ks := 0) (y := (⟨"java/lang/String", "equals", "(Ljava/lang/Object;)Z"⟩ : MethodName)) (z := (⟨"java/lang/String", "equals", "(Ljava/lang/Object;)Z"⟩ : MethodName)) hown217 (ow hw 194 rfl) (ow hw 195 rfl) (ow hw 197 rfl) (ow hw 196 rfl) (Or.inl rfl) (by decide) (StrChars.Road.eqW (s := s.setVm T217.vm) (W := 0) hZ217 (own_heq hw) (kI := 4) (ow hw 5 rfl) Esx313 Vsx313 Csx313 Asx313 cdx313 bdx313 lnx313 Esy313 Vsy313 Csy313 Asy313 cdy313 bdy313 lny313 (O2.ext F311.2) P5 (by decide) (by decide)) e312 f296 (g := (mkF m 427 #[i' p0, i' p1, i' p2, i' ca_101, i' cb_102, i' cc_103, i' cd_104, i' z_106, i' z_112, i' 0, r' rw_118, r' b119, r' b169, r' b193, r' b_288] [(.ref b193), (.ref s2_290)])) rfl (by rw [hml]; rfl) (argsL := [(.ref b193)]) (rest := []) rfl (lenOf own_pd21 rfl) rfl (by show 2 * 0 + _ ≤ _; exact Nat.le_of_eq rfl) (hb hby at_427) (by decide) (by decide)
        obtain ⟨q313, rfl, e313⟩ := q313
        have N313 := Fr.app N312 (Fr.nil n0)
        rcases q313 with ⟨rfl, pe313⟩ | ⟨rfl, pe313⟩
        · refine go _ _ (st313) ?_
          show G (T313.setTop (mkF m 430 #[i' p0, i' p1, i' p2, i' ca_101, i' cb_102, i' cc_103, i' cd_104, i' z_106, i' z_112, i' 0, r' rw_118, r' b119, r' b169, r' b193, r' b_288] [(.int 1)]))
          refine go _ _ (fun _ k => XS.ifNo X313.here hx rfl (hb hby at_430) rfl (by decide) k) ?_
          show G (T313.setTop (mkF m 433 #[i' p0, i' p1, i' p2, i' ca_101, i' cb_102, i' cc_103, i' cd_104, i' z_106, i' z_112, i' 0, r' rw_118, r' b119, r' b169, r' b193, r' b_288] []))
          refine go _ _ (fun _ k => XS.iconst X313.here hx rfl (hb hby at_433) k) ?_
          show G (T313.setTop (mkF m 434 #[i' p0, i' p1, i' p2, i' ca_101, i' cb_102, i' cc_103, i' cd_104, i' z_106, i' z_112, i' 0, r' rw_118, r' b119, r' b169, r' b193, r' b_288] [(.int 1)]))
          refine go _ _ (fun _ k => XS.goto X313.here hx rfl (pc0 := 434) (pc' := 438) rfl (hb hby at_434) (by decide) (by decide) k) ?_
          show G (T313.setTop (mkF m 438 #[i' p0, i' p1, i' p2, i' ca_101, i' cb_102, i' cc_103, i' cd_104, i' z_106, i' z_112, i' 0, r' rw_118, r' b119, r' b169, r' b193, r' b_288] [(.int 1)]))
          have K317 : Keep h0 T132.heap [] := K157.trans Kp132 (allS (Or.inr (Nat.le_trans Z122 (Nat.le_of_eq g119.symm))) all0)
          have K318 : Keep h0 h169 [] := K317.ext E169
          have K319 : Keep h0 h170 [] := K318.ext E170
          have K320 : Keep h0 h171 [] := K319.wr W171 (Or.inr (Nat.le_trans Z173 (Nat.le_of_eq g170.symm)))
          have K321 : Keep h0 h174 [] := K320.wr W174 (Or.inr (Nat.le_trans Z173 (Nat.le_of_eq g170.symm)))
          have K322 : Keep h0 T175.heap [] := K321.trans Kp175 (allS (Or.inr (Nat.le_trans Z172 (Nat.le_of_eq g169.symm))) all0)
          have K323 : Keep h0 h193 [] := K322.ext E193
          have K324 : Keep h0 h194 [] := K323.ext E194
          have K325 : Keep h0 h195 [] := K324.wr W195 (Or.inr (Nat.le_trans Z197 (Nat.le_of_eq g194.symm)))
          have K326 : Keep h0 h198 [] := K325.wr W198 (Or.inr (Nat.le_trans Z197 (Nat.le_of_eq g194.symm)))
          have K327 : Keep h0 T199.heap [] := K326.trans Kp199 (allS (Or.inr (Nat.le_trans Z196 (Nat.le_of_eq g193.symm))) all0)
          have K328 : Keep h0 h217 [] := K327.ext E217
          have K329 : Keep h0 T263.heap [] := K328.trans Kp263 all0
          have C330 : CHr Z own_EL s.vm h0 T217.vm h217 := C258.trans C217
          have C331 : CHr Z own_EL s.vm h0 T217.vm T263.heap := C330.trans (CHr.keep K310 sf0 C330.1)
          have Z332 : h217.size ≤ T263.heap.size := Kp263.1
          refine fin T313 _ _ _ (some (.int (1 : Int32))) T217.vm _ X313 hZ217 hS217 (by rw [e313]; exact (Nat.le_trans hk217 Z332)) (by rw [e313]; exact C331) (fun q => nomatch q) (by decide) (by decide) (by rw [e313]; exact ⟨N313, K329, rfl⟩) _ (own_retN X313 hx (z := (1 : Int32)) (t := .boolean) hret (by simp) (hb hby at_438))
        · exact absurd rfl pe313
      · exact absurd rfl pe300
    by_cases hc59_333 : cc_103 = (92 : Int32)
    · refine go _ _ (fun _ k => XS.icmpNo X111.here hx rfl (hb hby at_59) rfl (teq hc59_333).2 k) ?_
      show G (T111.setTop (mkF m 62 #[i' p0, i' p1, i' p2, i' ca_101, i' cb_102, i' cc_103, i' cd_104, i' z_106, i' z_112, i' 0, u', u', u', u', u'] []))
      refine go _ _ (fun _ k => XS.iload X111.here hx rfl (hb hby at_62) rfl k) ?_
      obtain ⟨rv334, T334, L334, X334, q334, st334⟩ := own_st X111 hx hZ (y := (⟨"java/lang/String", "valueOf", "(C)Ljava/lang/String;"⟩ : MethodName)) hown (ow hw 34 rfl) (ow hw 35 rfl) (ow hw 6 rfl) (ow hw 36 rfl) (by decide) (own_bkN (W := 0) (rm7 l Z a0 hw z0 O2 P5 fm0 O4 R4 [] cd_104 h0 n0 Z0 Xo pa104_0 pa104_1) hZ (ow hw 36 rfl) (ow hw 6 rfl) (by decide) (by decide)) e111 (g := (mkF m 64 #[i' p0, i' p1, i' p2, i' ca_101, i' cb_102, i' cc_103, i' cd_104, i' z_106, i' z_112, i' 0, u', u', u', u', u'] [(.int cd_104)])) rfl (by rw [hml]; rfl) (argsL := [(.int cd_104)]) (rest := []) rfl (lenOf own_pd22 rfl) rfl (by show 2 * 0 + _ ≤ _; exact Nat.le_of_eq rfl) (hb hby at_64) (by decide) (by decide)
      obtain ⟨Nq334, Kp334, ⟨b_335, rfl, z336, f337, f338⟩⟩ := q334
      have N334 := Fr.app N111 Nq334
      refine go _ _ (st334) ?_
      show G (T334.setTop (mkF m 67 #[i' p0, i' p1, i' p2, i' ca_101, i' cb_102, i' cc_103, i' cd_104, i' z_106, i' z_112, i' 0, u', u', u', u', u'] [(.ref b_335)]))
      refine go _ _ (fun _ k => XS.goto X334.here hx rfl (pc0 := 67) (pc' := 90) rfl (hb hby at_67) (by decide) (by decide) k) ?_
      show G (T334.setTop (mkF m 90 #[i' p0, i' p1, i' p2, i' ca_101, i' cb_102, i' cc_103, i' cd_104, i' z_106, i' z_112, i' 0, u', u', u', u', u'] [(.ref b_335)]))
      have Sr339 : own_Str Z T334.heap b_335 (own_raw cc_103 cd_104) := by rw [own_raw1 hc59_333]; exact f338
      have K340 : Keep h0 T334.heap [] := (Keep.refl h0 []).trans Kp334 all0
      have Z341 : h0.size ≤ T334.heap.size := Kp334.1
      have C342 : CHr Z own_EL s.vm h0 s.vm T334.heap := C0.trans (CHr.keep K340 sf0 C0.1)
      exact J118 _ _ _ _ _ (X334.more (by decide) (by decide)) rfl N334 K340 hZ hown hS Z341 C342 b_335 f337 Sr339
    · refine go _ _ (fun _ k => XS.icmpYes X111.here hx rfl (pc0 := 59) (pc' := 70) rfl (hb hby at_59) rfl (feq hc59_333).2 (by decide) (by decide) k) ?_
      obtain ⟨T343, h343, X343, e343, E343, A343, D343, -, st343⟩ := newO X111 hx hZ hown (ow hw 4 rfl) (ow hw 5 rfl) (ow hw 6 rfl) e111 (g := (mkF m 70 #[i' p0, i' p1, i' p2, i' ca_101, i' cb_102, i' cc_103, i' cd_104, i' z_106, i' z_112, i' 0, u', u', u', u', u'] [])) rfl (hb hby at_70) (by decide) (by decide)
      obtain ⟨b343, g343⟩ : ∃ z, z = h0.size := ⟨_, rfl⟩
      rw [← g343] at A343 D343 st343
      refine go _ _ (st343) ?_
      show G (T343.setTop (mkF m 73 #[i' p0, i' p1, i' p2, i' ca_101, i' cb_102, i' cc_103, i' cd_104, i' z_106, i' z_112, i' 0, u', u', u', u', u'] [(.ref b343)]))
      refine go _ _ (fun _ k => XS.dup X343.here hx rfl (hb hby at_73) rfl rfl (XS.iconst X343.here hx rfl (hb hby at_74) k)) ?_
      obtain ⟨T344, h344, k344, X344, e344, E344, A344, st344⟩ := newP X343 hx hZ (ow hw 7 rfl) e343 (g := (mkF m 75 #[i' p0, i' p1, i' p2, i' ca_101, i' cb_102, i' cc_103, i' cd_104, i' z_106, i' z_112, i' 0, u', u', u', u', u'] [(.int 2), (.ref b343), (.ref b343)])) rfl (hb hby at_75) rfl (by decide) (cap := 2) (by decide) (by decide) (by decide) (by decide)
      obtain ⟨b344, g344⟩ : ∃ z, z = h343.size := ⟨_, rfl⟩
      rw [← g344] at A344 st344
      have V344 : Arv Z h344 b344 k344 .char (2 : Int32) [(.int (0 : Int32)), (.int (0 : Int32))] (.int (0 : Int32)) := (Arv.new A344 (by decide)).pad (pad_rep [] (.int (0 : Int32)) 2)
      refine go _ _ (st344) ?_
      show G (T344.setTop (mkF m 77 #[i' p0, i' p1, i' p2, i' ca_101, i' cb_102, i' cc_103, i' cd_104, i' z_106, i' z_112, i' 0, u', u', u', u', u'] [(.ref b344), (.ref b343), (.ref b343)]))
      refine go _ _ (fun _ k => XS.dup X344.here hx rfl (hb hby at_77) rfl rfl (XS.iconst X344.here hx rfl (hb hby at_78) (XS.iload X344.here hx rfl (hb hby at_79) rfl k))) ?_
      obtain ⟨cl345, Ar345, q345, S345, M345, H345, U345⟩ := id V344
      obtain ⟨T345, h345, X345, e345, W345, st345⟩ := stC X344 hx hZ e344 Ar345 (j := (0 : Int32)) (inb_of S345 ⟨by decide, by decide⟩) (g := (mkF m 81 #[i' p0, i' p1, i' p2, i' ca_101, i' cb_102, i' cc_103, i' cd_104, i' z_106, i' z_112, i' 0, u', u', u', u', u'] [(.int cc_103), (.int 0), (.ref b344), (.ref b344), (.ref b343), (.ref b343)])) rfl rfl (hb hby at_81)
      have V345 : Arv Z h345 b344 k344 .char (2 : Int32) [(.int (nar .char cc_103)), (.int (0 : Int32))] (.int (0 : Int32)) := Arv.set Ar345 q345 S345 M345 H345 U345 (fits_nar_char _) W345 0 rfl (Nat.le_of_ble_eq_true rfl)
      rw [(own_narc pa103_0 pa103_1)] at V345
      have Z346 : h0.size ≤ h343.size := E343.1
      have N345 := Fr.snoc X345 N111 (Nat.le_trans (Nat.le_trans Z0 Z346) (Nat.le_of_eq g344.symm))
      refine go _ _ (st345) ?_
      show G (T345.setTop (mkF m 82 #[i' p0, i' p1, i' p2, i' ca_101, i' cb_102, i' cc_103, i' cd_104, i' z_106, i' z_112, i' 0, u', u', u', u', u'] [(.ref b344), (.ref b343), (.ref b343)]))
      refine go _ _ (fun _ k => XS.dup X345.here hx rfl (hb hby at_82) rfl rfl (XS.iconst X345.here hx rfl (hb hby at_83) (XS.iload X345.here hx rfl (hb hby at_84) rfl k))) ?_
      obtain ⟨cl347, Ar347, q347, S347, M347, H347, U347⟩ := id V345
      obtain ⟨T347, h347, X347, e347, W347, st347⟩ := stC X345 hx hZ e345 Ar347 (j := (1 : Int32)) (inb_of S347 ⟨by decide, by decide⟩) (g := (mkF m 86 #[i' p0, i' p1, i' p2, i' ca_101, i' cb_102, i' cc_103, i' cd_104, i' z_106, i' z_112, i' 0, u', u', u', u', u'] [(.int cd_104), (.int 1), (.ref b344), (.ref b344), (.ref b343), (.ref b343)])) rfl rfl (hb hby at_86)
      have V347 : Arv Z h347 b344 k344 .char (2 : Int32) [(.int cc_103), (.int (nar .char cd_104))] (.int (0 : Int32)) := Arv.set Ar347 q347 S347 M347 H347 U347 (fits_nar_char _) W347 1 rfl (Nat.le_of_ble_eq_true rfl)
      rw [(own_narc pa104_0 pa104_1)] at V347
      have N347 := Fr.snoc X347 N345 (Nat.le_trans (Nat.le_trans Z0 Z346) (Nat.le_of_eq g344.symm))
      refine go _ _ (st347) ?_
      show G (T347.setTop (mkF m 87 #[i' p0, i' p1, i' p2, i' ca_101, i' cb_102, i' cc_103, i' cd_104, i' z_106, i' z_112, i' 0, u', u', u', u', u'] [(.ref b344), (.ref b343), (.ref b343)]))
      have K349 : Keep h343 h344 [] := (Keep.refl h343 []).ext E344
      have K350 : Keep h343 h345 [] := K349.wr W345 (Or.inr (Nat.le_of_eq g344.symm))
      have K351 : Keep h343 h347 [] := K350.wr W347 (Or.inr (Nat.le_of_eq g344.symm))
      have F352 : Exa Z h347 b343 "java/lang/String" := (A343.keep K351)
      have F353 : Fld Z h347 b343 "java/lang/String" "value" "[B" .null := ((D343 (Or.inr (ow hw 33 rfl)) (ty := (.array .byte)) (by decide)).keep K351 nin0)
      have F354 : Fld Z h347 b343 "java/lang/String" "coder" "B" (.int (0 : Int32)) := ((D343 (Or.inr (ow hw 31 rfl)) (ty := .byte) (by decide)).keep K351 nin0)
      have K355 : Keep h0 h343 [] := (Keep.refl h0 []).ext E343
      have K356 : Keep h0 h344 [] := K355.ext E344
      have K357 : Keep h0 h345 [] := K356.wr W345 (Or.inr (Nat.le_trans Z346 (Nat.le_of_eq g344.symm)))
      have K358 : Keep h0 h347 [] := K357.wr W347 (Or.inr (Nat.le_trans Z346 (Nat.le_of_eq g344.symm)))
      have F359 : Old Z n0 h347 := (Xo.keep K358 all0)
      have hp348 : ∀ c ∈ ([cc_103, cd_104] : List Int32), ¬ c < 0 ∧ ¬ (255 : Int32) < c := by
        intro c hc
        simp only [List.mem_cons, List.not_mem_nil, or_false] at hc
        rcases hc with rfl | rfl
        · exact ⟨pa103_0, pa103_1⟩
        · exact ⟨pa104_0, pa104_1⟩
      have Z360 : h0.size ≤ h344.size := Nat.le_trans Z346 E344.1
      have Z361 : h0.size ≤ h345.size := Nat.le_trans Z360 (Keep.of_wr W345).1
      have Z362 : h0.size ≤ h347.size := Nat.le_trans Z361 (Keep.of_wr W347).1
      obtain ⟨rv348, T348, L348, X348, q348, st348⟩ := own_sp X347 hx hZ (y := (⟨"java/lang/String", "<init>", "([C)V"⟩ : MethodName)) rfl hown (ow hw 8 rfl) (ow hw 9 rfl) (ow hw 10 rfl) (by decide) (StrChars.Road.backV (W := 1) hZ (own_hws hw) (kI := 4) (ow hw 5 rfl) (cs := ([cc_103, cd_104] : List Int32)) (bs := ([cc_103, cd_104] : List Int32).map (fun c => c.toInt8.toInt32)) (n := 2) (Nat.le_trans Z0 (Nat.le_of_eq g343.symm)) (Nat.le_trans Z0 Z362) F352 F353 F354 V347 (O2.ext F359.2) P5 rfl rfl (by decide) (by decide) hp348 rfl (by decide) (by decide)) e347 (g := (mkF m 87 #[i' p0, i' p1, i' p2, i' ca_101, i' cb_102, i' cc_103, i' cd_104, i' z_106, i' z_112, i' 0, u', u', u', u', u'] [(.ref b344), (.ref b343), (.ref b343)])) rfl (by rw [hml]; rfl) (a := b343) (argsL := [(.ref b344)]) (rest := [(.ref b343)]) rfl (lenOf own_pd19 rfl) rfl (by show 2 * 0 + _ ≤ _; exact Nat.le_of_eq rfl) (hb hby at_87) (by decide) (by decide)
      obtain ⟨rfl, Nq348, Kp348, Es348, Cs348, t348, kb348, u348a, u348b, u348c, Vs348, As348⟩ := q348
      have N348 := Fr.app N347 Nq348
      have Sx348 : own_Str Z T348.heap b343 ([cc_103, cd_104] : List Int32) := ⟨t348, kb348, Es348, Vs348, Cs348, As348, hp348, (Nat.le_of_ble_eq_true rfl)⟩
      refine go _ _ (st348) ?_
      show G (T348.setTop (mkF m 90 #[i' p0, i' p1, i' p2, i' ca_101, i' cb_102, i' cc_103, i' cd_104, i' z_106, i' z_112, i' 0, u', u', u', u', u'] [(.ref b343)]))
      have Sr363 : own_Str Z T348.heap b343 (own_raw cc_103 cd_104) := by rw [own_raw2 hc59_333]; exact Sx348
      have K364 : Keep h0 T348.heap [] := K358.trans Kp348 (allS (Or.inr (Nat.le_of_eq g343.symm)) all0)
      have Z365 : h0.size ≤ T348.heap.size := Nat.le_trans Z362 Kp348.1
      have C366 : CHr Z own_EL s.vm h0 s.vm T348.heap := C0.trans (CHr.keep K364 sf0 C0.1)
      exact J118 _ _ _ _ _ (X348.more (by decide) (by decide)) rfl N348 K364 hZ hown hS Z365 C366 b343 Es348 Sr363
  · rw [hk117]
    show G (T111.setTop (mkF m 53 #[i' p0, i' p1, i' p2, i' ca_101, i' cb_102, i' cc_103, i' cd_104, i' z_106, i' z_112, u', u', u', u', u', u'] [(.int 1)]))
    refine go _ _ (fun _ k => XS.istore X111.here hx rfl (hb hby at_53) rfl (l' := #[i' p0, i' p1, i' p2, i' ca_101, i' cb_102, i' cc_103, i' cd_104, i' z_106, i' z_112, i' 1, u', u', u', u', u']) rfl (XS.iload X111.here hx rfl (hb hby at_55) rfl (XS.bipush X111.here hx rfl (hb hby at_57) k))) ?_
    show G (T111.setTop (mkF m 59 #[i' p0, i' p1, i' p2, i' ca_101, i' cb_102, i' cc_103, i' cd_104, i' z_106, i' z_112, i' 1, u', u', u', u', u'] [(.int 92), (.int cc_103)]))
    have J367 : ∀ (T367 : State) (L367 : List Loc) (h367 : Heap) (vm367 : Vm) (kk367 : Nat) (X367 : Stand p l e room_1 (s.setVm vm367) m #[(.int p0), (.int p1), (.int p2)] below meth c T367 L367 3 8) (e367 : T367.heap = h367) (N367 : Fr n0 L367) (K367 : Keep h0 h367 []) (hZ367 : Z.Warmed39 vm367) (hown367 : vm367.findClass "com/example/kindred/kindred/IdentifierOfTokenPinLaw" = some m.cls) (hS367 : s.Since vm367 kk367) (hk367 : kk367 ≤ h367.size) (Cc367 : CHr Z own_EL s.vm h0 vm367 h367) (rw_367 : Addr) (fj367_0 : Exa Z h367 rw_367 "java/lang/String") (fj367_1 : own_Str Z h367 rw_367 (own_raw cc_103 cd_104)), G (T367.setTop (mkF m 90 #[i' p0, i' p1, i' p2, i' ca_101, i' cb_102, i' cc_103, i' cd_104, i' z_106, i' z_112, i' 1, u', u', u', u', u'] [(.ref rw_367)])) := by
      intro T367 L367 h367 vm367 kk367 X367 e367 N367 K367 hZ367 hown367 hS367 hk367 Cc367 rw_367 fj367_0 fj367_1
      show G (T367.setTop (mkF m 90 #[i' p0, i' p1, i' p2, i' ca_101, i' cb_102, i' cc_103, i' cd_104, i' z_106, i' z_112, i' 1, u', u', u', u', u'] [(.ref rw_367)]))
      refine go _ _ (fun _ k => XS.astore X367.here hx rfl (hb hby at_90) rfl rfl (l' := #[i' p0, i' p1, i' p2, i' ca_101, i' cb_102, i' cc_103, i' cd_104, i' z_106, i' z_112, i' 1, r' rw_367, u', u', u', u']) rfl (XS.iload X367.here hx rfl (hb hby at_92) rfl k)) ?_
      show G (T367.setTop (mkF m 94 #[i' p0, i' p1, i' p2, i' ca_101, i' cb_102, i' cc_103, i' cd_104, i' z_106, i' z_112, i' 1, r' rw_367, u', u', u', u'] [(.int 1)]))
      refine go _ _ (fun _ k => XS.ifYes X367.here hx rfl (pc0 := 94) (pc' := 203) rfl (hb hby at_94) rfl (by decide) (by decide) (by decide) k) ?_
      show G (T367.setTop (mkF m 203 #[i' p0, i' p1, i' p2, i' ca_101, i' cb_102, i' cc_103, i' cd_104, i' z_106, i' z_112, i' 1, r' rw_367, u', u', u', u'] []))
      refine go _ _ (fun _ k => XS.iload X367.here hx rfl (hb hby at_203) rfl (XS.iconst X367.here hx rfl (hb hby at_205) k)) ?_
      show G (T367.setTop (mkF m 206 #[i' p0, i' p1, i' p2, i' ca_101, i' cb_102, i' cc_103, i' cd_104, i' z_106, i' z_112, i' 1, r' rw_367, u', u', u', u'] [(.int 1), (.int 1)]))
      refine go _ _ (fun _ k => XS.icmpNo X367.here hx rfl (hb hby at_206) rfl (by decide) k) ?_
      obtain ⟨T368, h368, X368, e368, E368, A368, D368, -, st368⟩ := newO X367 hx hZ367 hown367 (ow hw 4 rfl) (ow hw 5 rfl) (ow hw 6 rfl) e367 (g := (mkF m 209 #[i' p0, i' p1, i' p2, i' ca_101, i' cb_102, i' cc_103, i' cd_104, i' z_106, i' z_112, i' 1, r' rw_367, u', u', u', u'] [])) rfl (hb hby at_209) (by decide) (by decide)
      obtain ⟨b368, g368⟩ : ∃ z, z = h367.size := ⟨_, rfl⟩
      rw [← g368] at A368 D368 st368
      refine go _ _ (st368) ?_
      show G (T368.setTop (mkF m 212 #[i' p0, i' p1, i' p2, i' ca_101, i' cb_102, i' cc_103, i' cd_104, i' z_106, i' z_112, i' 1, r' rw_367, u', u', u', u'] [(.ref b368)]))
      refine go _ _ (fun _ k => XS.dup X368.here hx rfl (hb hby at_212) rfl rfl (XS.iconst X368.here hx rfl (hb hby at_213) k)) ?_
      obtain ⟨T369, h369, k369, X369, e369, E369, A369, st369⟩ := newP X368 hx hZ367 (ow hw 7 rfl) e368 (g := (mkF m 214 #[i' p0, i' p1, i' p2, i' ca_101, i' cb_102, i' cc_103, i' cd_104, i' z_106, i' z_112, i' 1, r' rw_367, u', u', u', u'] [(.int 5), (.ref b368), (.ref b368)])) rfl (hb hby at_214) rfl (by decide) (cap := 5) (by decide) (by decide) (by decide) (by decide)
      obtain ⟨b369, g369⟩ : ∃ z, z = h368.size := ⟨_, rfl⟩
      rw [← g369] at A369 st369
      have V369 : Arv Z h369 b369 k369 .char (5 : Int32) [(.int (0 : Int32)), (.int (0 : Int32)), (.int (0 : Int32)), (.int (0 : Int32)), (.int (0 : Int32))] (.int (0 : Int32)) := (Arv.new A369 (by decide)).pad (pad_rep [] (.int (0 : Int32)) 5)
      refine go _ _ (st369) ?_
      show G (T369.setTop (mkF m 216 #[i' p0, i' p1, i' p2, i' ca_101, i' cb_102, i' cc_103, i' cd_104, i' z_106, i' z_112, i' 1, r' rw_367, u', u', u', u'] [(.ref b369), (.ref b368), (.ref b368)]))
      refine go _ _ (fun _ k => XS.dup X369.here hx rfl (hb hby at_216) rfl rfl (XS.iconst X369.here hx rfl (hb hby at_217) (XS.iload X369.here hx rfl (hb hby at_218) rfl k))) ?_
      obtain ⟨cl370, Ar370, q370, S370, M370, H370, U370⟩ := id V369
      obtain ⟨T370, h370, X370, e370, W370, st370⟩ := stC X369 hx hZ367 e369 Ar370 (j := (0 : Int32)) (inb_of S370 ⟨by decide, by decide⟩) (g := (mkF m 220 #[i' p0, i' p1, i' p2, i' ca_101, i' cb_102, i' cc_103, i' cd_104, i' z_106, i' z_112, i' 1, r' rw_367, u', u', u', u'] [(.int z_106), (.int 0), (.ref b369), (.ref b369), (.ref b368), (.ref b368)])) rfl rfl (hb hby at_220)
      have V370 : Arv Z h370 b369 k369 .char (5 : Int32) [(.int (nar .char z_106)), (.int (0 : Int32)), (.int (0 : Int32)), (.int (0 : Int32)), (.int (0 : Int32))] (.int (0 : Int32)) := Arv.set Ar370 q370 S370 M370 H370 U370 (fits_nar_char _) W370 0 rfl (Nat.le_of_ble_eq_true rfl)
      rw [(own_narc p107 p108)] at V370
      have Z371 : h0.size ≤ h367.size := K367.1
      have Z372 : h0.size ≤ h368.size := Nat.le_trans Z371 E368.1
      have N370 := Fr.snoc X370 N367 (Nat.le_trans (Nat.le_trans Z0 Z372) (Nat.le_of_eq g369.symm))
      refine go _ _ (st370) ?_
      show G (T370.setTop (mkF m 221 #[i' p0, i' p1, i' p2, i' ca_101, i' cb_102, i' cc_103, i' cd_104, i' z_106, i' z_112, i' 1, r' rw_367, u', u', u', u'] [(.ref b369), (.ref b368), (.ref b368)]))
      refine go _ _ (fun _ k => XS.dup X370.here hx rfl (hb hby at_221) rfl rfl (XS.iconst X370.here hx rfl (hb hby at_222) (XS.iload X370.here hx rfl (hb hby at_223) rfl k))) ?_
      obtain ⟨cl373, Ar373, q373, S373, M373, H373, U373⟩ := id V370
      obtain ⟨T373, h373, X373, e373, W373, st373⟩ := stC X370 hx hZ367 e370 Ar373 (j := (1 : Int32)) (inb_of S373 ⟨by decide, by decide⟩) (g := (mkF m 225 #[i' p0, i' p1, i' p2, i' ca_101, i' cb_102, i' cc_103, i' cd_104, i' z_106, i' z_112, i' 1, r' rw_367, u', u', u', u'] [(.int z_112), (.int 1), (.ref b369), (.ref b369), (.ref b368), (.ref b368)])) rfl rfl (hb hby at_225)
      have V373 : Arv Z h373 b369 k369 .char (5 : Int32) [(.int z_106), (.int (nar .char z_112)), (.int (0 : Int32)), (.int (0 : Int32)), (.int (0 : Int32))] (.int (0 : Int32)) := Arv.set Ar373 q373 S373 M373 H373 U373 (fits_nar_char _) W373 1 rfl (Nat.le_of_ble_eq_true rfl)
      rw [(own_narc p113 p114)] at V373
      have N373 := Fr.snoc X373 N370 (Nat.le_trans (Nat.le_trans Z0 Z372) (Nat.le_of_eq g369.symm))
      refine go _ _ (st373) ?_
      show G (T373.setTop (mkF m 226 #[i' p0, i' p1, i' p2, i' ca_101, i' cb_102, i' cc_103, i' cd_104, i' z_106, i' z_112, i' 1, r' rw_367, u', u', u', u'] [(.ref b369), (.ref b368), (.ref b368)]))
      refine go _ _ (fun _ k => XS.dup X373.here hx rfl (hb hby at_226) rfl rfl (XS.iconst X373.here hx rfl (hb hby at_227) (XS.bipush X373.here hx rfl (hb hby at_228) k))) ?_
      obtain ⟨cl374, Ar374, q374, S374, M374, H374, U374⟩ := id V373
      obtain ⟨T374, h374, X374, e374, W374, st374⟩ := stC X373 hx hZ367 e373 Ar374 (j := (2 : Int32)) (inb_of S374 ⟨by decide, by decide⟩) (g := (mkF m 230 #[i' p0, i' p1, i' p2, i' ca_101, i' cb_102, i' cc_103, i' cd_104, i' z_106, i' z_112, i' 1, r' rw_367, u', u', u', u'] [(.int 124), (.int 2), (.ref b369), (.ref b369), (.ref b368), (.ref b368)])) rfl rfl (hb hby at_230)
      have V374 : Arv Z h374 b369 k369 .char (5 : Int32) [(.int z_106), (.int z_112), (.int (124 : Int32)), (.int (0 : Int32)), (.int (0 : Int32))] (.int (0 : Int32)) := Arv.set Ar374 q374 S374 M374 H374 U374 rfl W374 2 rfl (Nat.le_of_ble_eq_true rfl)
      have N374 := Fr.snoc X374 N373 (Nat.le_trans (Nat.le_trans Z0 Z372) (Nat.le_of_eq g369.symm))
      refine go _ _ (st374) ?_
      show G (T374.setTop (mkF m 231 #[i' p0, i' p1, i' p2, i' ca_101, i' cb_102, i' cc_103, i' cd_104, i' z_106, i' z_112, i' 1, r' rw_367, u', u', u', u'] [(.ref b369), (.ref b368), (.ref b368)]))
      refine go _ _ (fun _ k => XS.dup X374.here hx rfl (hb hby at_231) rfl rfl (XS.iconst X374.here hx rfl (hb hby at_232) (XS.iload X374.here hx rfl (hb hby at_233) rfl k))) ?_
      obtain ⟨cl375, Ar375, q375, S375, M375, H375, U375⟩ := id V374
      obtain ⟨T375, h375, X375, e375, W375, st375⟩ := stC X374 hx hZ367 e374 Ar375 (j := (3 : Int32)) (inb_of S375 ⟨by decide, by decide⟩) (g := (mkF m 235 #[i' p0, i' p1, i' p2, i' ca_101, i' cb_102, i' cc_103, i' cd_104, i' z_106, i' z_112, i' 1, r' rw_367, u', u', u', u'] [(.int cc_103), (.int 3), (.ref b369), (.ref b369), (.ref b368), (.ref b368)])) rfl rfl (hb hby at_235)
      have V375 : Arv Z h375 b369 k369 .char (5 : Int32) [(.int z_106), (.int z_112), (.int (124 : Int32)), (.int (nar .char cc_103)), (.int (0 : Int32))] (.int (0 : Int32)) := Arv.set Ar375 q375 S375 M375 H375 U375 (fits_nar_char _) W375 3 rfl (Nat.le_of_ble_eq_true rfl)
      rw [(own_narc pa103_0 pa103_1)] at V375
      have N375 := Fr.snoc X375 N374 (Nat.le_trans (Nat.le_trans Z0 Z372) (Nat.le_of_eq g369.symm))
      refine go _ _ (st375) ?_
      show G (T375.setTop (mkF m 236 #[i' p0, i' p1, i' p2, i' ca_101, i' cb_102, i' cc_103, i' cd_104, i' z_106, i' z_112, i' 1, r' rw_367, u', u', u', u'] [(.ref b369), (.ref b368), (.ref b368)]))
      refine go _ _ (fun _ k => XS.dup X375.here hx rfl (hb hby at_236) rfl rfl (XS.iconst X375.here hx rfl (hb hby at_237) (XS.iload X375.here hx rfl (hb hby at_238) rfl k))) ?_
      obtain ⟨cl376, Ar376, q376, S376, M376, H376, U376⟩ := id V375
      obtain ⟨T376, h376, X376, e376, W376, st376⟩ := stC X375 hx hZ367 e375 Ar376 (j := (4 : Int32)) (inb_of S376 ⟨by decide, by decide⟩) (g := (mkF m 240 #[i' p0, i' p1, i' p2, i' ca_101, i' cb_102, i' cc_103, i' cd_104, i' z_106, i' z_112, i' 1, r' rw_367, u', u', u', u'] [(.int cd_104), (.int 4), (.ref b369), (.ref b369), (.ref b368), (.ref b368)])) rfl rfl (hb hby at_240)
      have V376 : Arv Z h376 b369 k369 .char (5 : Int32) [(.int z_106), (.int z_112), (.int (124 : Int32)), (.int cc_103), (.int (nar .char cd_104))] (.int (0 : Int32)) := Arv.set Ar376 q376 S376 M376 H376 U376 (fits_nar_char _) W376 4 rfl (Nat.le_of_ble_eq_true rfl)
      rw [(own_narc pa104_0 pa104_1)] at V376
      have N376 := Fr.snoc X376 N375 (Nat.le_trans (Nat.le_trans Z0 Z372) (Nat.le_of_eq g369.symm))
      refine go _ _ (st376) ?_
      show G (T376.setTop (mkF m 241 #[i' p0, i' p1, i' p2, i' ca_101, i' cb_102, i' cc_103, i' cd_104, i' z_106, i' z_112, i' 1, r' rw_367, u', u', u', u'] [(.ref b369), (.ref b368), (.ref b368)]))
      have K378 : Keep h368 h369 [] := (Keep.refl h368 []).ext E369
      have K379 : Keep h368 h370 [] := K378.wr W370 (Or.inr (Nat.le_of_eq g369.symm))
      have K380 : Keep h368 h373 [] := K379.wr W373 (Or.inr (Nat.le_of_eq g369.symm))
      have K381 : Keep h368 h374 [] := K380.wr W374 (Or.inr (Nat.le_of_eq g369.symm))
      have K382 : Keep h368 h375 [] := K381.wr W375 (Or.inr (Nat.le_of_eq g369.symm))
      have K383 : Keep h368 h376 [] := K382.wr W376 (Or.inr (Nat.le_of_eq g369.symm))
      have F384 : Exa Z h376 b368 "java/lang/String" := (A368.keep K383)
      have F385 : Fld Z h376 b368 "java/lang/String" "value" "[B" .null := ((D368 (Or.inr (ow hw 33 rfl)) (ty := (.array .byte)) (by decide)).keep K383 nin0)
      have F386 : Fld Z h376 b368 "java/lang/String" "coder" "B" (.int (0 : Int32)) := ((D368 (Or.inr (ow hw 31 rfl)) (ty := .byte) (by decide)).keep K383 nin0)
      have K387 : Keep h0 h367 [] := (Keep.refl h0 []).trans K367 all0
      have K388 : Keep h0 h368 [] := K387.ext E368
      have K389 : Keep h0 h369 [] := K388.ext E369
      have K390 : Keep h0 h370 [] := K389.wr W370 (Or.inr (Nat.le_trans Z372 (Nat.le_of_eq g369.symm)))
      have K391 : Keep h0 h373 [] := K390.wr W373 (Or.inr (Nat.le_trans Z372 (Nat.le_of_eq g369.symm)))
      have K392 : Keep h0 h374 [] := K391.wr W374 (Or.inr (Nat.le_trans Z372 (Nat.le_of_eq g369.symm)))
      have K393 : Keep h0 h375 [] := K392.wr W375 (Or.inr (Nat.le_trans Z372 (Nat.le_of_eq g369.symm)))
      have K394 : Keep h0 h376 [] := K393.wr W376 (Or.inr (Nat.le_trans Z372 (Nat.le_of_eq g369.symm)))
      have F395 : Old Z n0 h376 := (Xo.keep K394 all0)
      have hp377 : ∀ c ∈ ([z_106, z_112, (124 : Int32), cc_103, cd_104] : List Int32), ¬ c < 0 ∧ ¬ (255 : Int32) < c := by
        intro c hc
        simp only [List.mem_cons, List.not_mem_nil, or_false] at hc
        rcases hc with rfl | rfl | rfl | rfl | rfl
        · exact ⟨p107, p108⟩
        · exact ⟨p113, p114⟩
        · exact (by decide)
        · exact ⟨pa103_0, pa103_1⟩
        · exact ⟨pa104_0, pa104_1⟩
      have Z396 : h0.size ≤ h369.size := Nat.le_trans Z372 E369.1
      have Z397 : h0.size ≤ h370.size := Nat.le_trans Z396 (Keep.of_wr W370).1
      have Z398 : h0.size ≤ h373.size := Nat.le_trans Z397 (Keep.of_wr W373).1
      have Z399 : h0.size ≤ h374.size := Nat.le_trans Z398 (Keep.of_wr W374).1
      have Z400 : h0.size ≤ h375.size := Nat.le_trans Z399 (Keep.of_wr W375).1
      have Z401 : h0.size ≤ h376.size := Nat.le_trans Z400 (Keep.of_wr W376).1
      obtain ⟨rv377, T377, L377, X377, q377, st377⟩ := own_sp X376 hx hZ367 (y := (⟨"java/lang/String", "<init>", "([C)V"⟩ : MethodName)) rfl hown367 (ow hw 8 rfl) (ow hw 9 rfl) (ow hw 10 rfl) (by decide) (StrChars.Road.backV (W := 1) hZ367 (own_hws hw) (kI := 4) (ow hw 5 rfl) (cs := ([z_106, z_112, (124 : Int32), cc_103, cd_104] : List Int32)) (bs := ([z_106, z_112, (124 : Int32), cc_103, cd_104] : List Int32).map (fun c => c.toInt8.toInt32)) (n := 5) (Nat.le_trans (Nat.le_trans Z0 Z371) (Nat.le_of_eq g368.symm)) (Nat.le_trans Z0 Z401) F384 F385 F386 V376 (O2.ext F395.2) P5 rfl rfl (by decide) (by decide) hp377 rfl (by decide) (by decide)) e376 (g := (mkF m 241 #[i' p0, i' p1, i' p2, i' ca_101, i' cb_102, i' cc_103, i' cd_104, i' z_106, i' z_112, i' 1, r' rw_367, u', u', u', u'] [(.ref b369), (.ref b368), (.ref b368)])) rfl (by rw [hml]; rfl) (a := b368) (argsL := [(.ref b369)]) (rest := [(.ref b368)]) rfl (lenOf own_pd19 rfl) rfl (by show 2 * 0 + _ ≤ _; exact Nat.le_of_eq rfl) (hb hby at_241) (by decide) (by decide)
      obtain ⟨rfl, Nq377, Kp377, Es377, Cs377, t377, kb377, u377a, u377b, u377c, Vs377, As377⟩ := q377
      have N377 := Fr.app N376 Nq377
      have Sx377 : own_Str Z T377.heap b368 ([z_106, z_112, (124 : Int32), cc_103, cd_104] : List Int32) := ⟨t377, kb377, Es377, Vs377, Cs377, As377, hp377, (Nat.le_of_ble_eq_true rfl)⟩
      refine go _ _ (st377) ?_
      show G (T377.setTop (mkF m 244 #[i' p0, i' p1, i' p2, i' ca_101, i' cb_102, i' cc_103, i' cd_104, i' z_106, i' z_112, i' 1, r' rw_367, u', u', u', u'] [(.ref b368)]))
      refine go _ _ (fun _ k => XS.astore X377.here hx rfl (hb hby at_244) rfl rfl (l' := #[i' p0, i' p1, i' p2, i' ca_101, i' cb_102, i' cc_103, i' cd_104, i' z_106, i' z_112, i' 1, r' rw_367, r' b368, u', u', u']) rfl k) ?_
      obtain ⟨T402, h402, X402, e402, E402, A402, D402, -, st402⟩ := newO X377 hx hZ367 hown367 (ow hw 4 rfl) (ow hw 5 rfl) (ow hw 6 rfl) rfl (g := (mkF m 246 #[i' p0, i' p1, i' p2, i' ca_101, i' cb_102, i' cc_103, i' cd_104, i' z_106, i' z_112, i' 1, r' rw_367, r' b368, u', u', u'] [])) rfl (hb hby at_246) (by decide) (by decide)
      obtain ⟨b402, g402⟩ : ∃ z, z = T377.heap.size := ⟨_, rfl⟩
      rw [← g402] at A402 D402 st402
      refine go _ _ (st402) ?_
      show G (T402.setTop (mkF m 249 #[i' p0, i' p1, i' p2, i' ca_101, i' cb_102, i' cc_103, i' cd_104, i' z_106, i' z_112, i' 1, r' rw_367, r' b368, u', u', u'] [(.ref b402)]))
      refine go _ _ (fun _ k => XS.dup X402.here hx rfl (hb hby at_249) rfl rfl (XS.iconst X402.here hx rfl (hb hby at_250) k)) ?_
      obtain ⟨T403, h403, k403, X403, e403, E403, A403, st403⟩ := newP X402 hx hZ367 (ow hw 7 rfl) e402 (g := (mkF m 251 #[i' p0, i' p1, i' p2, i' ca_101, i' cb_102, i' cc_103, i' cd_104, i' z_106, i' z_112, i' 1, r' rw_367, r' b368, u', u', u'] [(.int 2), (.ref b402), (.ref b402)])) rfl (hb hby at_251) rfl (by decide) (cap := 2) (by decide) (by decide) (by decide) (by decide)
      obtain ⟨b403, g403⟩ : ∃ z, z = h402.size := ⟨_, rfl⟩
      rw [← g403] at A403 st403
      have V403 : Arv Z h403 b403 k403 .char (2 : Int32) [(.int (0 : Int32)), (.int (0 : Int32))] (.int (0 : Int32)) := (Arv.new A403 (by decide)).pad (pad_rep [] (.int (0 : Int32)) 2)
      refine go _ _ (st403) ?_
      show G (T403.setTop (mkF m 253 #[i' p0, i' p1, i' p2, i' ca_101, i' cb_102, i' cc_103, i' cd_104, i' z_106, i' z_112, i' 1, r' rw_367, r' b368, u', u', u'] [(.ref b403), (.ref b402), (.ref b402)]))
      refine go _ _ (fun _ k => XS.dup X403.here hx rfl (hb hby at_253) rfl rfl (XS.iconst X403.here hx rfl (hb hby at_254) (XS.iload X403.here hx rfl (hb hby at_255) rfl k))) ?_
      obtain ⟨cl404, Ar404, q404, S404, M404, H404, U404⟩ := id V403
      obtain ⟨T404, h404, X404, e404, W404, st404⟩ := stC X403 hx hZ367 e403 Ar404 (j := (0 : Int32)) (inb_of S404 ⟨by decide, by decide⟩) (g := (mkF m 257 #[i' p0, i' p1, i' p2, i' ca_101, i' cb_102, i' cc_103, i' cd_104, i' z_106, i' z_112, i' 1, r' rw_367, r' b368, u', u', u'] [(.int z_106), (.int 0), (.ref b403), (.ref b403), (.ref b402), (.ref b402)])) rfl rfl (hb hby at_257)
      have V404 : Arv Z h404 b403 k403 .char (2 : Int32) [(.int (nar .char z_106)), (.int (0 : Int32))] (.int (0 : Int32)) := Arv.set Ar404 q404 S404 M404 H404 U404 (fits_nar_char _) W404 0 rfl (Nat.le_of_ble_eq_true rfl)
      rw [(own_narc p107 p108)] at V404
      have Z405 : h0.size ≤ T377.heap.size := Nat.le_trans Z401 Kp377.1
      have Z406 : h0.size ≤ h402.size := Nat.le_trans Z405 E402.1
      have N404 := Fr.snoc X404 N377 (Nat.le_trans (Nat.le_trans Z0 Z406) (Nat.le_of_eq g403.symm))
      refine go _ _ (st404) ?_
      show G (T404.setTop (mkF m 258 #[i' p0, i' p1, i' p2, i' ca_101, i' cb_102, i' cc_103, i' cd_104, i' z_106, i' z_112, i' 1, r' rw_367, r' b368, u', u', u'] [(.ref b403), (.ref b402), (.ref b402)]))
      refine go _ _ (fun _ k => XS.dup X404.here hx rfl (hb hby at_258) rfl rfl (XS.iconst X404.here hx rfl (hb hby at_259) (XS.iload X404.here hx rfl (hb hby at_260) rfl k))) ?_
      obtain ⟨cl407, Ar407, q407, S407, M407, H407, U407⟩ := id V404
      obtain ⟨T407, h407, X407, e407, W407, st407⟩ := stC X404 hx hZ367 e404 Ar407 (j := (1 : Int32)) (inb_of S407 ⟨by decide, by decide⟩) (g := (mkF m 262 #[i' p0, i' p1, i' p2, i' ca_101, i' cb_102, i' cc_103, i' cd_104, i' z_106, i' z_112, i' 1, r' rw_367, r' b368, u', u', u'] [(.int z_112), (.int 1), (.ref b403), (.ref b403), (.ref b402), (.ref b402)])) rfl rfl (hb hby at_262)
      have V407 : Arv Z h407 b403 k403 .char (2 : Int32) [(.int z_106), (.int (nar .char z_112))] (.int (0 : Int32)) := Arv.set Ar407 q407 S407 M407 H407 U407 (fits_nar_char _) W407 1 rfl (Nat.le_of_ble_eq_true rfl)
      rw [(own_narc p113 p114)] at V407
      have N407 := Fr.snoc X407 N404 (Nat.le_trans (Nat.le_trans Z0 Z406) (Nat.le_of_eq g403.symm))
      refine go _ _ (st407) ?_
      show G (T407.setTop (mkF m 263 #[i' p0, i' p1, i' p2, i' ca_101, i' cb_102, i' cc_103, i' cd_104, i' z_106, i' z_112, i' 1, r' rw_367, r' b368, u', u', u'] [(.ref b403), (.ref b402), (.ref b402)]))
      have K409 : Keep h402 h403 [] := (Keep.refl h402 []).ext E403
      have K410 : Keep h402 h404 [] := K409.wr W404 (Or.inr (Nat.le_of_eq g403.symm))
      have K411 : Keep h402 h407 [] := K410.wr W407 (Or.inr (Nat.le_of_eq g403.symm))
      have F412 : Exa Z h407 b402 "java/lang/String" := (A402.keep K411)
      have F413 : Fld Z h407 b402 "java/lang/String" "value" "[B" .null := ((D402 (Or.inr (ow hw 33 rfl)) (ty := (.array .byte)) (by decide)).keep K411 nin0)
      have F414 : Fld Z h407 b402 "java/lang/String" "coder" "B" (.int (0 : Int32)) := ((D402 (Or.inr (ow hw 31 rfl)) (ty := .byte) (by decide)).keep K411 nin0)
      have Z415 : h376.size ≤ T377.heap.size := Kp377.1
      have Z416 : h376.size ≤ h402.size := Nat.le_trans Z415 E402.1
      have K417 : Keep h376 T377.heap [b368] := (Keep.refl h376 [b368]).trans Kp377 (allS (Or.inl (List.mem_of_getElem? (i := 0) rfl)) all0)
      have K418 : Keep h376 h402 [b368] := K417.ext E402
      have K419 : Keep h376 h403 [b368] := K418.ext E403
      have K420 : Keep h376 h404 [b368] := K419.wr W404 (Or.inr (Nat.le_trans Z416 (Nat.le_of_eq g403.symm)))
      have K421 : Keep h376 h407 [b368] := K420.wr W407 (Or.inr (Nat.le_trans Z416 (Nat.le_of_eq g403.symm)))
      have F422 : Old Z n0 h407 := (F395.keep K421 (allS (Nat.le_trans (Nat.le_trans Z0 Z371) (Nat.le_of_eq g368.symm)) all0))
      have hp408 : ∀ c ∈ ([z_106, z_112] : List Int32), ¬ c < 0 ∧ ¬ (255 : Int32) < c := by
        intro c hc
        simp only [List.mem_cons, List.not_mem_nil, or_false] at hc
        rcases hc with rfl | rfl
        · exact ⟨p107, p108⟩
        · exact ⟨p113, p114⟩
      have Z423 : h0.size ≤ h403.size := Nat.le_trans Z406 E403.1
      have Z424 : h0.size ≤ h404.size := Nat.le_trans Z423 (Keep.of_wr W404).1
      have Z425 : h0.size ≤ h407.size := Nat.le_trans Z424 (Keep.of_wr W407).1
      obtain ⟨rv408, T408, L408, X408, q408, st408⟩ := own_sp X407 hx hZ367 (y := (⟨"java/lang/String", "<init>", "([C)V"⟩ : MethodName)) rfl hown367 (ow hw 8 rfl) (ow hw 9 rfl) (ow hw 10 rfl) (by decide) (StrChars.Road.backV (W := 1) hZ367 (own_hws hw) (kI := 4) (ow hw 5 rfl) (cs := ([z_106, z_112] : List Int32)) (bs := ([z_106, z_112] : List Int32).map (fun c => c.toInt8.toInt32)) (n := 2) (Nat.le_trans (Nat.le_trans Z0 Z405) (Nat.le_of_eq g402.symm)) (Nat.le_trans Z0 Z425) F412 F413 F414 V407 (O2.ext F422.2) P5 rfl rfl (by decide) (by decide) hp408 rfl (by decide) (by decide)) e407 (g := (mkF m 263 #[i' p0, i' p1, i' p2, i' ca_101, i' cb_102, i' cc_103, i' cd_104, i' z_106, i' z_112, i' 1, r' rw_367, r' b368, u', u', u'] [(.ref b403), (.ref b402), (.ref b402)])) rfl (by rw [hml]; rfl) (a := b402) (argsL := [(.ref b403)]) (rest := [(.ref b402)]) rfl (lenOf own_pd19 rfl) rfl (by show 2 * 0 + _ ≤ _; exact Nat.le_of_eq rfl) (hb hby at_263) (by decide) (by decide)
      obtain ⟨rfl, Nq408, Kp408, Es408, Cs408, t408, kb408, u408a, u408b, u408c, Vs408, As408⟩ := q408
      have N408 := Fr.app N407 Nq408
      have Sx408 : own_Str Z T408.heap b402 ([z_106, z_112] : List Int32) := ⟨t408, kb408, Es408, Vs408, Cs408, As408, hp408, (Nat.le_of_ble_eq_true rfl)⟩
      refine go _ _ (st408) ?_
      show G (T408.setTop (mkF m 266 #[i' p0, i' p1, i' p2, i' ca_101, i' cb_102, i' cc_103, i' cd_104, i' z_106, i' z_112, i' 1, r' rw_367, r' b368, u', u', u'] [(.ref b402)]))
      refine go _ _ (fun _ k => XS.astore X408.here hx rfl (hb hby at_266) rfl rfl (l' := #[i' p0, i' p1, i' p2, i' ca_101, i' cb_102, i' cc_103, i' cd_104, i' z_106, i' z_112, i' 1, r' rw_367, r' b368, r' b402, u', u']) rfl (XS.aload X408.here hx rfl (hb hby at_268) rfl rfl (XS.astore X408.here hx rfl (hb hby at_270) rfl rfl (l' := #[i' p0, i' p1, i' p2, i' ca_101, i' cb_102, i' cc_103, i' cd_104, i' z_106, i' z_112, i' 1, r' rw_367, r' b368, r' b402, r' rw_367, u']) rfl k))) ?_
      show G (T408.setTop (mkF m 272 #[i' p0, i' p1, i' p2, i' ca_101, i' cb_102, i' cc_103, i' cd_104, i' z_106, i' z_112, i' 1, r' rw_367, r' b368, r' b402, r' rw_367, u'] []))
      refine go _ _ (fun _ k => XS.goto X408.here hx rfl (pc0 := 272) (pc' := 398) rfl (hb hby at_272) (by decide) (by decide) k) ?_
      show G (T408.setTop (mkF m 398 #[i' p0, i' p1, i' p2, i' ca_101, i' cb_102, i' cc_103, i' cd_104, i' z_106, i' z_112, i' 1, r' rw_367, r' b368, r' b402, r' rw_367, u'] []))
      refine go _ _ (fun _ k => XS.aload X408.here hx rfl (hb hby at_398) rfl rfl k) ?_
      have Z427 : h367.size ≤ h368.size := E368.1
      have Z428 : h367.size ≤ h369.size := Nat.le_trans Z427 E369.1
      have Z429 : h367.size ≤ h370.size := Nat.le_trans Z428 (Keep.of_wr W370).1
      have Z430 : h367.size ≤ h373.size := Nat.le_trans Z429 (Keep.of_wr W373).1
      have Z431 : h367.size ≤ h374.size := Nat.le_trans Z430 (Keep.of_wr W374).1
      have Z432 : h367.size ≤ h375.size := Nat.le_trans Z431 (Keep.of_wr W375).1
      have Z433 : h367.size ≤ h376.size := Nat.le_trans Z432 (Keep.of_wr W376).1
      have Z434 : h367.size ≤ T377.heap.size := Nat.le_trans Z433 Kp377.1
      have Z435 : h367.size ≤ h402.size := Nat.le_trans Z434 E402.1
      have K436 : Keep h367 h368 [] := (Keep.refl h367 []).ext E368
      have K437 : Keep h367 h369 [] := K436.ext E369
      have K438 : Keep h367 h370 [] := K437.wr W370 (Or.inr (Nat.le_trans Z427 (Nat.le_of_eq g369.symm)))
      have K439 : Keep h367 h373 [] := K438.wr W373 (Or.inr (Nat.le_trans Z427 (Nat.le_of_eq g369.symm)))
      have K440 : Keep h367 h374 [] := K439.wr W374 (Or.inr (Nat.le_trans Z427 (Nat.le_of_eq g369.symm)))
      have K441 : Keep h367 h375 [] := K440.wr W375 (Or.inr (Nat.le_trans Z427 (Nat.le_of_eq g369.symm)))
      have K442 : Keep h367 h376 [] := K441.wr W376 (Or.inr (Nat.le_trans Z427 (Nat.le_of_eq g369.symm)))
      have K443 : Keep h367 T377.heap [] := K442.trans Kp377 (allS (Or.inr (Nat.le_of_eq g368.symm)) all0)
      have K444 : Keep h367 h402 [] := K443.ext E402
      have K445 : Keep h367 h403 [] := K444.ext E403
      have K446 : Keep h367 h404 [] := K445.wr W404 (Or.inr (Nat.le_trans Z435 (Nat.le_of_eq g403.symm)))
      have K447 : Keep h367 h407 [] := K446.wr W407 (Or.inr (Nat.le_trans Z435 (Nat.le_of_eq g403.symm)))
      have K448 : Keep h367 T408.heap [] := K447.trans Kp408 (allS (Or.inr (Nat.le_trans Z434 (Nat.le_of_eq g402.symm))) all0)
      have C449 : CHr Z own_EL s.vm h0 vm367 T408.heap := Cc367.trans (CHr.keep K448 sf0 Cc367.1)
      have Z450 : h367.size ≤ h403.size := Nat.le_trans Z435 E403.1
      have Z451 : h367.size ≤ h404.size := Nat.le_trans Z450 (Keep.of_wr W404).1
      have Z452 : h367.size ≤ h407.size := Nat.le_trans Z451 (Keep.of_wr W407).1
      have Z453 : h367.size ≤ T408.heap.size := Nat.le_trans Z452 Kp408.1
      obtain ⟨b426, T426, h426, k426, X426, e426, E426, hS426, hk426, hZ426, hown426, C426, -, st426⟩ := ldcOH X408 hx hZ367 hown367 (ow hw 48 rfl) (own_sat hw) rfl hS367 (Nat.le_trans hk367 Z453) (own_hEL hw) C449.1 (g := (mkF m 400 #[i' p0, i' p1, i' p2, i' ca_101, i' cb_102, i' cc_103, i' cd_104, i' z_106, i' z_112, i' 1, r' rw_367, r' b368, r' b402, r' rw_367, u'] [(.ref b368)])) rfl (hb hby at_400) (n := 40) (by decide) (by decide) (by decide) (by decide)
      refine go _ _ (st426) ?_
      have K455 : Keep h407 T408.heap [b402] := (Keep.refl h407 [b402]).trans Kp408 (allS (Or.inl (List.mem_of_getElem? (i := 0) rfl)) all0)
      have K456 : Keep h407 h426 [b402] := K455.ext E426
      have F457 : Old Z n0 h426 := (F422.keep K456 (allS (Nat.le_trans (Nat.le_trans Z0 Z405) (Nat.le_of_eq g402.symm)) all0))
      have Z458 : T377.heap.size ≤ h402.size := E402.1
      have K459 : Keep T377.heap h402 [] := (Keep.refl T377.heap []).ext E402
      have K460 : Keep T377.heap h403 [] := K459.ext E403
      have K461 : Keep T377.heap h404 [] := K460.wr W404 (Or.inr (Nat.le_trans Z458 (Nat.le_of_eq g403.symm)))
      have K462 : Keep T377.heap h407 [] := K461.wr W407 (Or.inr (Nat.le_trans Z458 (Nat.le_of_eq g403.symm)))
      have K463 : Keep T377.heap T408.heap [] := K462.trans Kp408 (allS (Or.inr (Nat.le_of_eq g402.symm)) all0)
      have K464 : Keep T377.heap h426 [] := K463.ext E426
      have F465 : Exa Z h426 b368 "java/lang/String" := (Es377.keep K464)
      have F466 : own_Str Z h426 b368 ([z_106, z_112, (124 : Int32), cc_103, cd_104] : List Int32) := (own_Str_keep Sx377 K464)
      have Z467 : h0.size ≤ T408.heap.size := Nat.le_trans Z425 Kp408.1
      have Z468 : h0.size ≤ h426.size := Nat.le_trans Z467 E426.1
      obtain ⟨rv454, T454, L454, X454, q454, st454⟩ := own_st X426 hx hZ426 (y := (⟨"com/example/kindred/kindred/Identifier", "ofToken", "(Ljava/lang/String;Ljava/lang/String;)Lcom/example/kindred/kindred/Identifier;"⟩ : MethodName)) hown426 (ow hw 51 rfl) (ow hw 52 rfl) (ow hw 53 rfl) (ow hw 54 rfl) (by decide) (own_bkN (W := 0) (rmT1 l Z a0 hw z0 O2 P5 fm0 O4 R4 [] b368 (.ref b426) z_106 z_112 cc_103 cd_104 h426 n0 (Nat.le_trans Z0 Z468) rfl F457 F465 F466 p107 p108 p113 p114 pa103_0 pa103_1 pa104_0 pa104_1 p109 p110 p115 p116) hZ426 (ow hw 54 rfl) (ow hw 53 rfl) (by decide) (by decide)) e426 (g := (mkF m 402 #[i' p0, i' p1, i' p2, i' ca_101, i' cb_102, i' cc_103, i' cd_104, i' z_106, i' z_112, i' 1, r' rw_367, r' b368, r' b402, r' rw_367, u'] [(.ref b426), (.ref b368)])) rfl (by rw [hml]; rfl) (argsL := [(.ref b368), (.ref b426)]) (rest := []) rfl (lenOf own_pd20 rfl) rfl (by show 2 * 0 + _ ≤ _; exact Nat.le_of_eq rfl) (hb hby at_402) (by decide) (by decide)
      obtain ⟨Nq454, Kp454, q454⟩ := q454
      have N454 := Fr.app N408 Nq454
      rcases q454 with ⟨b_469, s1_470, s2_471, rfl, p472, f473, f474, f475, f476, f477, f478, f479⟩ | ⟨b_480, s1_481, s2_482, rfl, p483, f484, f485, f486, f487, f488, f489, f490⟩
      · refine go _ _ (st454) ?_
        show G (T454.setTop (mkF m 405 #[i' p0, i' p1, i' p2, i' ca_101, i' cb_102, i' cc_103, i' cd_104, i' z_106, i' z_112, i' 1, r' rw_367, r' b368, r' b402, r' rw_367, u'] [(.ref b_469)]))
        refine go _ _ (fun _ k => XS.astore X454.here hx rfl (hb hby at_405) rfl rfl (l' := #[i' p0, i' p1, i' p2, i' ca_101, i' cb_102, i' cc_103, i' cd_104, i' z_106, i' z_112, i' 1, r' rw_367, r' b368, r' b402, r' rw_367, r' b_469]) rfl (XS.aload X454.here hx rfl (hb hby at_407) rfl rfl k)) ?_
        have Z492 : h0.size ≤ T454.heap.size := Nat.le_trans Z468 Kp454.1
        obtain ⟨rv491, T491, L491, X491, q491, st491⟩ := own_vi X454 hx hZ426 (y := (⟨"com/example/kindred/kindred/Identifier", "system", "()Ljava/lang/String;"⟩ : MethodName)) (z := (⟨"com/example/kindred/kindred/Identifier", "system", "()Ljava/lang/String;"⟩ : MethodName)) hown426 (ow hw 189 rfl) (ow hw 190 rfl) (ow hw 192 rfl) (ow hw 191 rfl) (Or.inl rfl) (by decide) (own_bkN (W := 0) (rm37 l Z a0 hw z0 O2 P5 fm0 O4 R4 [] b_469 s1_470 T454.heap n0 (Nat.le_trans Z0 Z492) f474) hZ426 (ow hw 193 rfl) (ow hw 53 rfl) (by decide) (by decide)) rfl f473 (g := (mkF m 409 #[i' p0, i' p1, i' p2, i' ca_101, i' cb_102, i' cc_103, i' cd_104, i' z_106, i' z_112, i' 1, r' rw_367, r' b368, r' b402, r' rw_367, r' b_469] [(.ref b_469)])) rfl (by rw [hml]; rfl) (argsL := []) (rest := []) rfl (lenOf own_pd16 rfl) rfl (by show 2 * 0 + _ ≤ _; exact Nat.le_of_eq rfl) (hb hby at_409) (by decide) (by decide)
        obtain ⟨Nq491, e491, rfl⟩ := q491
        have N491 := Fr.app N454 Nq491
        refine go _ _ (st491) ?_
        show G (T491.setTop (mkF m 412 #[i' p0, i' p1, i' p2, i' ca_101, i' cb_102, i' cc_103, i' cd_104, i' z_106, i' z_112, i' 1, r' rw_367, r' b368, r' b402, r' rw_367, r' b_469] [(.ref s1_470)]))
        refine go _ _ (fun _ k => XS.aload X491.here hx rfl (hb hby at_412) rfl rfl k) ?_
        obtain ⟨tx493, kbx493, Esx493, Vsx493, Csx493, Asx493, cdx493, bdx493, lnx493⟩ := own_Str_W f477
        have K494 : Keep T408.heap h426 [] := (Keep.refl T408.heap []).ext E426
        have K495 : Keep T408.heap T454.heap [] := K494.trans Kp454 all0
        have F496 : own_Str Z T454.heap b402 ([z_106, z_112] : List Int32) := (own_Str_keep Sx408 K495)
        obtain ⟨ty493, kby493, Esy493, Vsy493, Csy493, Asy493, cdy493, bdy493, lny493⟩ := own_Str_W F496
        have K497 : Keep h426 T454.heap [] := (Keep.refl h426 []).trans Kp454 all0
        have F498 : Old Z n0 T454.heap := (F457.keep K497 all0)
        obtain ⟨rv493, T493, L493, X493, q493, st493⟩ := own_vi X491 hx hZ426 (Q := fun v h L => ((v = some (.int 1) ∧ ((([] : List Int32) ++ [z_106]) ++ [z_112]) = ([z_106, z_112] : List Int32)) ∨ (v = some (.int 0) ∧ ¬ ((([] : List Int32) ++ [z_106]) ++ [z_112]) = ([z_106, z_112] : List Int32))) ∧ L = [] ∧ h = T454.heap) (kc := 0) (ks := 0) (y := (⟨"java/lang/String", "equals", "(Ljava/lang/Object;)Z"⟩ : MethodName)) (z := (⟨"java/lang/String", "equals", "(Ljava/lang/Object;)Z"⟩ : MethodName)) hown426 (ow hw 194 rfl) (ow hw 195 rfl) (ow hw 197 rfl) (ow hw 196 rfl) (Or.inl rfl) (by decide) (StrChars.Road.eqW (s := s.setVm T426.vm) (W := 0) hZ426 (own_heq hw) (kI := 4) (ow hw 5 rfl) Esx493 Vsx493 Csx493 Asx493 cdx493 bdx493 lnx493 Esy493 Vsy493 Csy493 Asy493 cdy493 bdy493 lny493 (O2.ext F498.2) P5 (by decide) (by decide)) e491 f476 (g := (mkF m 414 #[i' p0, i' p1, i' p2, i' ca_101, i' cb_102, i' cc_103, i' cd_104, i' z_106, i' z_112, i' 1, r' rw_367, r' b368, r' b402, r' rw_367, r' b_469] [(.ref b402), (.ref s1_470)])) rfl (by rw [hml]; rfl) (argsL := [(.ref b402)]) (rest := []) rfl (lenOf own_pd21 rfl) rfl (by show 2 * 0 + _ ≤ _; exact Nat.le_of_eq rfl) (hb hby at_414) (by decide) (by decide)
        obtain ⟨q493, rfl, e493⟩ := q493
        have N493 := Fr.app N491 (Fr.nil n0)
        rcases q493 with ⟨rfl, pe493⟩ | ⟨rfl, pe493⟩
        · refine go _ _ (st493) ?_
          show G (T493.setTop (mkF m 417 #[i' p0, i' p1, i' p2, i' ca_101, i' cb_102, i' cc_103, i' cd_104, i' z_106, i' z_112, i' 1, r' rw_367, r' b368, r' b402, r' rw_367, r' b_469] [(.int 1)]))
          refine go _ _ (fun _ k => XS.ifNo X493.here hx rfl (hb hby at_417) rfl (by decide) k) ?_
          show G (T493.setTop (mkF m 420 #[i' p0, i' p1, i' p2, i' ca_101, i' cb_102, i' cc_103, i' cd_104, i' z_106, i' z_112, i' 1, r' rw_367, r' b368, r' b402, r' rw_367, r' b_469] []))
          refine go _ _ (fun _ k => XS.aload X493.here hx rfl (hb hby at_420) rfl rfl k) ?_
          obtain ⟨rv499, T499, L499, X499, q499, st499⟩ := own_vi X493 hx hZ426 (y := (⟨"com/example/kindred/kindred/Identifier", "value", "()Ljava/lang/String;"⟩ : MethodName)) (z := (⟨"com/example/kindred/kindred/Identifier", "value", "()Ljava/lang/String;"⟩ : MethodName)) hown426 (ow hw 202 rfl) (ow hw 203 rfl) (ow hw 205 rfl) (ow hw 204 rfl) (Or.inl rfl) (by decide) (own_bkN (W := 0) (rm40 l Z a0 hw z0 O2 P5 fm0 O4 R4 [] b_469 s2_471 T454.heap n0 (Nat.le_trans Z0 Z492) f475) hZ426 (ow hw 206 rfl) (ow hw 53 rfl) (by decide) (by decide)) e493 f473 (g := (mkF m 422 #[i' p0, i' p1, i' p2, i' ca_101, i' cb_102, i' cc_103, i' cd_104, i' z_106, i' z_112, i' 1, r' rw_367, r' b368, r' b402, r' rw_367, r' b_469] [(.ref b_469)])) rfl (by rw [hml]; rfl) (argsL := []) (rest := []) rfl (lenOf own_pd16 rfl) rfl (by show 2 * 0 + _ ≤ _; exact Nat.le_of_eq rfl) (hb hby at_422) (by decide) (by decide)
          obtain ⟨Nq499, e499, rfl⟩ := q499
          have N499 := Fr.app N493 Nq499
          refine go _ _ (st499) ?_
          show G (T499.setTop (mkF m 425 #[i' p0, i' p1, i' p2, i' ca_101, i' cb_102, i' cc_103, i' cd_104, i' z_106, i' z_112, i' 1, r' rw_367, r' b368, r' b402, r' rw_367, r' b_469] [(.ref s2_471)]))
          refine go _ _ (fun _ k => XS.aload X499.here hx rfl (hb hby at_425) rfl rfl k) ?_
          obtain ⟨tx500, kbx500, Esx500, Vsx500, Csx500, Asx500, cdx500, bdx500, lnx500⟩ := own_Str_W f479
          have K501 : Keep h367 h426 [] := K448.ext E426
          have K502 : Keep h367 T454.heap [] := K501.trans Kp454 all0
          have F503 : own_Str Z T454.heap rw_367 (own_raw cc_103 cd_104) := (own_Str_keep fj367_1 K502)
          obtain ⟨ty500, kby500, Esy500, Vsy500, Csy500, Asy500, cdy500, bdy500, lny500⟩ := own_Str_W F503
          obtain ⟨rv500, T500, L500, X500, q500, st500⟩ := own_vi X499 hx hZ426 (Q := fun v h L => ((v = some (.int 1) ∧ (([] : List Int32) ++ [cd_104]) = (own_raw cc_103 cd_104)) ∨ (v = some (.int 0) ∧ ¬ (([] : List Int32) ++ [cd_104]) = (own_raw cc_103 cd_104))) ∧ L = [] ∧ h = T454.heap) (kc := 0) (ks := 0) (y := (⟨"java/lang/String", "equals", "(Ljava/lang/Object;)Z"⟩ : MethodName)) (z := (⟨"java/lang/String", "equals", "(Ljava/lang/Object;)Z"⟩ : MethodName)) hown426 (ow hw 194 rfl) (ow hw 195 rfl) (ow hw 197 rfl) (ow hw 196 rfl) (Or.inl rfl) (by decide) (StrChars.Road.eqW (s := s.setVm T426.vm) (W := 0) hZ426 (own_heq hw) (kI := 4) (ow hw 5 rfl) Esx500 Vsx500 Csx500 Asx500 cdx500 bdx500 lnx500 Esy500 Vsy500 Csy500 Asy500 cdy500 bdy500 lny500 (O2.ext F498.2) P5 (by decide) (by decide)) e499 f478 (g := (mkF m 427 #[i' p0, i' p1, i' p2, i' ca_101, i' cb_102, i' cc_103, i' cd_104, i' z_106, i' z_112, i' 1, r' rw_367, r' b368, r' b402, r' rw_367, r' b_469] [(.ref rw_367), (.ref s2_471)])) rfl (by rw [hml]; rfl) (argsL := [(.ref rw_367)]) (rest := []) rfl (lenOf own_pd21 rfl) rfl (by show 2 * 0 + _ ≤ _; exact Nat.le_of_eq rfl) (hb hby at_427) (by decide) (by decide)
          obtain ⟨q500, rfl, e500⟩ := q500
          have N500 := Fr.app N499 (Fr.nil n0)
          rcases q500 with ⟨rfl, pe500⟩ | ⟨rfl, pe500⟩
          · refine go _ _ (st500) ?_
            show G (T500.setTop (mkF m 430 #[i' p0, i' p1, i' p2, i' ca_101, i' cb_102, i' cc_103, i' cd_104, i' z_106, i' z_112, i' 1, r' rw_367, r' b368, r' b402, r' rw_367, r' b_469] [(.int 1)]))
            refine go _ _ (fun _ k => XS.ifNo X500.here hx rfl (hb hby at_430) rfl (by decide) k) ?_
            show G (T500.setTop (mkF m 433 #[i' p0, i' p1, i' p2, i' ca_101, i' cb_102, i' cc_103, i' cd_104, i' z_106, i' z_112, i' 1, r' rw_367, r' b368, r' b402, r' rw_367, r' b_469] []))
            refine go _ _ (fun _ k => XS.iconst X500.here hx rfl (hb hby at_433) k) ?_
            show G (T500.setTop (mkF m 434 #[i' p0, i' p1, i' p2, i' ca_101, i' cb_102, i' cc_103, i' cd_104, i' z_106, i' z_112, i' 1, r' rw_367, r' b368, r' b402, r' rw_367, r' b_469] [(.int 1)]))
            refine go _ _ (fun _ k => XS.goto X500.here hx rfl (pc0 := 434) (pc' := 438) rfl (hb hby at_434) (by decide) (by decide) k) ?_
            show G (T500.setTop (mkF m 438 #[i' p0, i' p1, i' p2, i' ca_101, i' cb_102, i' cc_103, i' cd_104, i' z_106, i' z_112, i' 1, r' rw_367, r' b368, r' b402, r' rw_367, r' b_469] [(.int 1)]))
            have K504 : Keep h0 T377.heap [] := K394.trans Kp377 (allS (Or.inr (Nat.le_trans Z371 (Nat.le_of_eq g368.symm))) all0)
            have K505 : Keep h0 h402 [] := K504.ext E402
            have K506 : Keep h0 h403 [] := K505.ext E403
            have K507 : Keep h0 h404 [] := K506.wr W404 (Or.inr (Nat.le_trans Z406 (Nat.le_of_eq g403.symm)))
            have K508 : Keep h0 h407 [] := K507.wr W407 (Or.inr (Nat.le_trans Z406 (Nat.le_of_eq g403.symm)))
            have K509 : Keep h0 T408.heap [] := K508.trans Kp408 (allS (Or.inr (Nat.le_trans Z405 (Nat.le_of_eq g402.symm))) all0)
            have K510 : Keep h0 h426 [] := K509.ext E426
            have K511 : Keep h0 T454.heap [] := K510.trans Kp454 all0
            have C512 : CHr Z own_EL s.vm h0 T426.vm h426 := C449.trans C426
            have C513 : CHr Z own_EL s.vm h0 T426.vm T454.heap := C512.trans (CHr.keep K497 sf0 C512.1)
            have Z514 : h426.size ≤ T454.heap.size := Kp454.1
            refine fin T500 _ _ _ (some (.int (1 : Int32))) T426.vm _ X500 hZ426 hS426 (by rw [e500]; exact (Nat.le_trans hk426 Z514)) (by rw [e500]; exact C513) (fun q => nomatch q) (by decide) (by decide) (by rw [e500]; exact ⟨N500, K511, rfl⟩) _ (own_retN X500 hx (z := (1 : Int32)) (t := .boolean) hret (by simp) (hb hby at_438))
          · exact absurd (by rw [own_raw1 p472]; rfl) pe500
        · exact absurd rfl pe493
      · refine go _ _ (st454) ?_
        show G (T454.setTop (mkF m 405 #[i' p0, i' p1, i' p2, i' ca_101, i' cb_102, i' cc_103, i' cd_104, i' z_106, i' z_112, i' 1, r' rw_367, r' b368, r' b402, r' rw_367, u'] [(.ref b_480)]))
        refine go _ _ (fun _ k => XS.astore X454.here hx rfl (hb hby at_405) rfl rfl (l' := #[i' p0, i' p1, i' p2, i' ca_101, i' cb_102, i' cc_103, i' cd_104, i' z_106, i' z_112, i' 1, r' rw_367, r' b368, r' b402, r' rw_367, r' b_480]) rfl (XS.aload X454.here hx rfl (hb hby at_407) rfl rfl k)) ?_
        have Z516 : h0.size ≤ T454.heap.size := Nat.le_trans Z468 Kp454.1
        obtain ⟨rv515, T515, L515, X515, q515, st515⟩ := own_vi X454 hx hZ426 (y := (⟨"com/example/kindred/kindred/Identifier", "system", "()Ljava/lang/String;"⟩ : MethodName)) (z := (⟨"com/example/kindred/kindred/Identifier", "system", "()Ljava/lang/String;"⟩ : MethodName)) hown426 (ow hw 189 rfl) (ow hw 190 rfl) (ow hw 192 rfl) (ow hw 191 rfl) (Or.inl rfl) (by decide) (own_bkN (W := 0) (rm37 l Z a0 hw z0 O2 P5 fm0 O4 R4 [] b_480 s1_481 T454.heap n0 (Nat.le_trans Z0 Z516) f485) hZ426 (ow hw 193 rfl) (ow hw 53 rfl) (by decide) (by decide)) rfl f484 (g := (mkF m 409 #[i' p0, i' p1, i' p2, i' ca_101, i' cb_102, i' cc_103, i' cd_104, i' z_106, i' z_112, i' 1, r' rw_367, r' b368, r' b402, r' rw_367, r' b_480] [(.ref b_480)])) rfl (by rw [hml]; rfl) (argsL := []) (rest := []) rfl (lenOf own_pd16 rfl) rfl (by show 2 * 0 + _ ≤ _; exact Nat.le_of_eq rfl) (hb hby at_409) (by decide) (by decide)
        obtain ⟨Nq515, e515, rfl⟩ := q515
        have N515 := Fr.app N454 Nq515
        refine go _ _ (st515) ?_
        show G (T515.setTop (mkF m 412 #[i' p0, i' p1, i' p2, i' ca_101, i' cb_102, i' cc_103, i' cd_104, i' z_106, i' z_112, i' 1, r' rw_367, r' b368, r' b402, r' rw_367, r' b_480] [(.ref s1_481)]))
        refine go _ _ (fun _ k => XS.aload X515.here hx rfl (hb hby at_412) rfl rfl k) ?_
        obtain ⟨tx517, kbx517, Esx517, Vsx517, Csx517, Asx517, cdx517, bdx517, lnx517⟩ := own_Str_W f488
        have K518 : Keep T408.heap h426 [] := (Keep.refl T408.heap []).ext E426
        have K519 : Keep T408.heap T454.heap [] := K518.trans Kp454 all0
        have F520 : own_Str Z T454.heap b402 ([z_106, z_112] : List Int32) := (own_Str_keep Sx408 K519)
        obtain ⟨ty517, kby517, Esy517, Vsy517, Csy517, Asy517, cdy517, bdy517, lny517⟩ := own_Str_W F520
        have K521 : Keep h426 T454.heap [] := (Keep.refl h426 []).trans Kp454 all0
        have F522 : Old Z n0 T454.heap := (F457.keep K521 all0)
        obtain ⟨rv517, T517, L517, X517, q517, st517⟩ := own_vi X515 hx hZ426 (Q := fun v h L => ((v = some (.int 1) ∧ ((([] : List Int32) ++ [z_106]) ++ [z_112]) = ([z_106, z_112] : List Int32)) ∨ (v = some (.int 0) ∧ ¬ ((([] : List Int32) ++ [z_106]) ++ [z_112]) = ([z_106, z_112] : List Int32))) ∧ L = [] ∧ h = T454.heap) (kc := 0) (ks := 0) (y := (⟨"java/lang/String", "equals", "(Ljava/lang/Object;)Z"⟩ : MethodName)) (z := (⟨"java/lang/String", "equals", "(Ljava/lang/Object;)Z"⟩ : MethodName)) hown426 (ow hw 194 rfl) (ow hw 195 rfl) (ow hw 197 rfl) (ow hw 196 rfl) (Or.inl rfl) (by decide) (StrChars.Road.eqW (s := s.setVm T426.vm) (W := 0) hZ426 (own_heq hw) (kI := 4) (ow hw 5 rfl) Esx517 Vsx517 Csx517 Asx517 cdx517 bdx517 lnx517 Esy517 Vsy517 Csy517 Asy517 cdy517 bdy517 lny517 (O2.ext F522.2) P5 (by decide) (by decide)) e515 f487 (g := (mkF m 414 #[i' p0, i' p1, i' p2, i' ca_101, i' cb_102, i' cc_103, i' cd_104, i' z_106, i' z_112, i' 1, r' rw_367, r' b368, r' b402, r' rw_367, r' b_480] [(.ref b402), (.ref s1_481)])) rfl (by rw [hml]; rfl) (argsL := [(.ref b402)]) (rest := []) rfl (lenOf own_pd21 rfl) rfl (by show 2 * 0 + _ ≤ _; exact Nat.le_of_eq rfl) (hb hby at_414) (by decide) (by decide)
        obtain ⟨q517, rfl, e517⟩ := q517
        have N517 := Fr.app N515 (Fr.nil n0)
        rcases q517 with ⟨rfl, pe517⟩ | ⟨rfl, pe517⟩
        · refine go _ _ (st517) ?_
          show G (T517.setTop (mkF m 417 #[i' p0, i' p1, i' p2, i' ca_101, i' cb_102, i' cc_103, i' cd_104, i' z_106, i' z_112, i' 1, r' rw_367, r' b368, r' b402, r' rw_367, r' b_480] [(.int 1)]))
          refine go _ _ (fun _ k => XS.ifNo X517.here hx rfl (hb hby at_417) rfl (by decide) k) ?_
          show G (T517.setTop (mkF m 420 #[i' p0, i' p1, i' p2, i' ca_101, i' cb_102, i' cc_103, i' cd_104, i' z_106, i' z_112, i' 1, r' rw_367, r' b368, r' b402, r' rw_367, r' b_480] []))
          refine go _ _ (fun _ k => XS.aload X517.here hx rfl (hb hby at_420) rfl rfl k) ?_
          obtain ⟨rv523, T523, L523, X523, q523, st523⟩ := own_vi X517 hx hZ426 (y := (⟨"com/example/kindred/kindred/Identifier", "value", "()Ljava/lang/String;"⟩ : MethodName)) (z := (⟨"com/example/kindred/kindred/Identifier", "value", "()Ljava/lang/String;"⟩ : MethodName)) hown426 (ow hw 202 rfl) (ow hw 203 rfl) (ow hw 205 rfl) (ow hw 204 rfl) (Or.inl rfl) (by decide) (own_bkN (W := 0) (rm40 l Z a0 hw z0 O2 P5 fm0 O4 R4 [] b_480 s2_482 T454.heap n0 (Nat.le_trans Z0 Z516) f486) hZ426 (ow hw 206 rfl) (ow hw 53 rfl) (by decide) (by decide)) e517 f484 (g := (mkF m 422 #[i' p0, i' p1, i' p2, i' ca_101, i' cb_102, i' cc_103, i' cd_104, i' z_106, i' z_112, i' 1, r' rw_367, r' b368, r' b402, r' rw_367, r' b_480] [(.ref b_480)])) rfl (by rw [hml]; rfl) (argsL := []) (rest := []) rfl (lenOf own_pd16 rfl) rfl (by show 2 * 0 + _ ≤ _; exact Nat.le_of_eq rfl) (hb hby at_422) (by decide) (by decide)
          obtain ⟨Nq523, e523, rfl⟩ := q523
          have N523 := Fr.app N517 Nq523
          refine go _ _ (st523) ?_
          show G (T523.setTop (mkF m 425 #[i' p0, i' p1, i' p2, i' ca_101, i' cb_102, i' cc_103, i' cd_104, i' z_106, i' z_112, i' 1, r' rw_367, r' b368, r' b402, r' rw_367, r' b_480] [(.ref s2_482)]))
          refine go _ _ (fun _ k => XS.aload X523.here hx rfl (hb hby at_425) rfl rfl k) ?_
          obtain ⟨tx524, kbx524, Esx524, Vsx524, Csx524, Asx524, cdx524, bdx524, lnx524⟩ := own_Str_W f490
          have K525 : Keep h367 h426 [] := K448.ext E426
          have K526 : Keep h367 T454.heap [] := K525.trans Kp454 all0
          have F527 : own_Str Z T454.heap rw_367 (own_raw cc_103 cd_104) := (own_Str_keep fj367_1 K526)
          obtain ⟨ty524, kby524, Esy524, Vsy524, Csy524, Asy524, cdy524, bdy524, lny524⟩ := own_Str_W F527
          obtain ⟨rv524, T524, L524, X524, q524, st524⟩ := own_vi X523 hx hZ426 (Q := fun v h L => ((v = some (.int 1) ∧ ((([] : List Int32) ++ [cc_103]) ++ [cd_104]) = (own_raw cc_103 cd_104)) ∨ (v = some (.int 0) ∧ ¬ ((([] : List Int32) ++ [cc_103]) ++ [cd_104]) = (own_raw cc_103 cd_104))) ∧ L = [] ∧ h = T454.heap) (kc := 0) (ks := 0) (y := (⟨"java/lang/String", "equals", "(Ljava/lang/Object;)Z"⟩ : MethodName)) (z := (⟨"java/lang/String", "equals", "(Ljava/lang/Object;)Z"⟩ : MethodName)) hown426 (ow hw 194 rfl) (ow hw 195 rfl) (ow hw 197 rfl) (ow hw 196 rfl) (Or.inl rfl) (by decide) (StrChars.Road.eqW (s := s.setVm T426.vm) (W := 0) hZ426 (own_heq hw) (kI := 4) (ow hw 5 rfl) Esx524 Vsx524 Csx524 Asx524 cdx524 bdx524 lnx524 Esy524 Vsy524 Csy524 Asy524 cdy524 bdy524 lny524 (O2.ext F522.2) P5 (by decide) (by decide)) e523 f489 (g := (mkF m 427 #[i' p0, i' p1, i' p2, i' ca_101, i' cb_102, i' cc_103, i' cd_104, i' z_106, i' z_112, i' 1, r' rw_367, r' b368, r' b402, r' rw_367, r' b_480] [(.ref rw_367), (.ref s2_482)])) rfl (by rw [hml]; rfl) (argsL := [(.ref rw_367)]) (rest := []) rfl (lenOf own_pd21 rfl) rfl (by show 2 * 0 + _ ≤ _; exact Nat.le_of_eq rfl) (hb hby at_427) (by decide) (by decide)
          obtain ⟨q524, rfl, e524⟩ := q524
          have N524 := Fr.app N523 (Fr.nil n0)
          rcases q524 with ⟨rfl, pe524⟩ | ⟨rfl, pe524⟩
          · refine go _ _ (st524) ?_
            show G (T524.setTop (mkF m 430 #[i' p0, i' p1, i' p2, i' ca_101, i' cb_102, i' cc_103, i' cd_104, i' z_106, i' z_112, i' 1, r' rw_367, r' b368, r' b402, r' rw_367, r' b_480] [(.int 1)]))
            refine go _ _ (fun _ k => XS.ifNo X524.here hx rfl (hb hby at_430) rfl (by decide) k) ?_
            show G (T524.setTop (mkF m 433 #[i' p0, i' p1, i' p2, i' ca_101, i' cb_102, i' cc_103, i' cd_104, i' z_106, i' z_112, i' 1, r' rw_367, r' b368, r' b402, r' rw_367, r' b_480] []))
            refine go _ _ (fun _ k => XS.iconst X524.here hx rfl (hb hby at_433) k) ?_
            show G (T524.setTop (mkF m 434 #[i' p0, i' p1, i' p2, i' ca_101, i' cb_102, i' cc_103, i' cd_104, i' z_106, i' z_112, i' 1, r' rw_367, r' b368, r' b402, r' rw_367, r' b_480] [(.int 1)]))
            refine go _ _ (fun _ k => XS.goto X524.here hx rfl (pc0 := 434) (pc' := 438) rfl (hb hby at_434) (by decide) (by decide) k) ?_
            show G (T524.setTop (mkF m 438 #[i' p0, i' p1, i' p2, i' ca_101, i' cb_102, i' cc_103, i' cd_104, i' z_106, i' z_112, i' 1, r' rw_367, r' b368, r' b402, r' rw_367, r' b_480] [(.int 1)]))
            have K528 : Keep h0 T377.heap [] := K394.trans Kp377 (allS (Or.inr (Nat.le_trans Z371 (Nat.le_of_eq g368.symm))) all0)
            have K529 : Keep h0 h402 [] := K528.ext E402
            have K530 : Keep h0 h403 [] := K529.ext E403
            have K531 : Keep h0 h404 [] := K530.wr W404 (Or.inr (Nat.le_trans Z406 (Nat.le_of_eq g403.symm)))
            have K532 : Keep h0 h407 [] := K531.wr W407 (Or.inr (Nat.le_trans Z406 (Nat.le_of_eq g403.symm)))
            have K533 : Keep h0 T408.heap [] := K532.trans Kp408 (allS (Or.inr (Nat.le_trans Z405 (Nat.le_of_eq g402.symm))) all0)
            have K534 : Keep h0 h426 [] := K533.ext E426
            have K535 : Keep h0 T454.heap [] := K534.trans Kp454 all0
            have C536 : CHr Z own_EL s.vm h0 T426.vm h426 := C449.trans C426
            have C537 : CHr Z own_EL s.vm h0 T426.vm T454.heap := C536.trans (CHr.keep K521 sf0 C536.1)
            have Z538 : h426.size ≤ T454.heap.size := Kp454.1
            refine fin T524 _ _ _ (some (.int (1 : Int32))) T426.vm _ X524 hZ426 hS426 (by rw [e524]; exact (Nat.le_trans hk426 Z538)) (by rw [e524]; exact C537) (fun q => nomatch q) (by decide) (by decide) (by rw [e524]; exact ⟨N524, K535, rfl⟩) _ (own_retN X524 hx (z := (1 : Int32)) (t := .boolean) hret (by simp) (hb hby at_438))
          · exact absurd (by rw [own_raw2 p483]; rfl) pe524
        · exact absurd rfl pe517
    by_cases hc59_539 : cc_103 = (92 : Int32)
    · refine go _ _ (fun _ k => XS.icmpNo X111.here hx rfl (hb hby at_59) rfl (teq hc59_539).2 k) ?_
      show G (T111.setTop (mkF m 62 #[i' p0, i' p1, i' p2, i' ca_101, i' cb_102, i' cc_103, i' cd_104, i' z_106, i' z_112, i' 1, u', u', u', u', u'] []))
      refine go _ _ (fun _ k => XS.iload X111.here hx rfl (hb hby at_62) rfl k) ?_
      obtain ⟨rv540, T540, L540, X540, q540, st540⟩ := own_st X111 hx hZ (y := (⟨"java/lang/String", "valueOf", "(C)Ljava/lang/String;"⟩ : MethodName)) hown (ow hw 34 rfl) (ow hw 35 rfl) (ow hw 6 rfl) (ow hw 36 rfl) (by decide) (own_bkN (W := 0) (rm7 l Z a0 hw z0 O2 P5 fm0 O4 R4 [] cd_104 h0 n0 Z0 Xo pa104_0 pa104_1) hZ (ow hw 36 rfl) (ow hw 6 rfl) (by decide) (by decide)) e111 (g := (mkF m 64 #[i' p0, i' p1, i' p2, i' ca_101, i' cb_102, i' cc_103, i' cd_104, i' z_106, i' z_112, i' 1, u', u', u', u', u'] [(.int cd_104)])) rfl (by rw [hml]; rfl) (argsL := [(.int cd_104)]) (rest := []) rfl (lenOf own_pd22 rfl) rfl (by show 2 * 0 + _ ≤ _; exact Nat.le_of_eq rfl) (hb hby at_64) (by decide) (by decide)
      obtain ⟨Nq540, Kp540, ⟨b_541, rfl, z542, f543, f544⟩⟩ := q540
      have N540 := Fr.app N111 Nq540
      refine go _ _ (st540) ?_
      show G (T540.setTop (mkF m 67 #[i' p0, i' p1, i' p2, i' ca_101, i' cb_102, i' cc_103, i' cd_104, i' z_106, i' z_112, i' 1, u', u', u', u', u'] [(.ref b_541)]))
      refine go _ _ (fun _ k => XS.goto X540.here hx rfl (pc0 := 67) (pc' := 90) rfl (hb hby at_67) (by decide) (by decide) k) ?_
      show G (T540.setTop (mkF m 90 #[i' p0, i' p1, i' p2, i' ca_101, i' cb_102, i' cc_103, i' cd_104, i' z_106, i' z_112, i' 1, u', u', u', u', u'] [(.ref b_541)]))
      have Sr545 : own_Str Z T540.heap b_541 (own_raw cc_103 cd_104) := by rw [own_raw1 hc59_539]; exact f544
      have K546 : Keep h0 T540.heap [] := (Keep.refl h0 []).trans Kp540 all0
      have Z547 : h0.size ≤ T540.heap.size := Kp540.1
      have C548 : CHr Z own_EL s.vm h0 s.vm T540.heap := C0.trans (CHr.keep K546 sf0 C0.1)
      exact J367 _ _ _ _ _ (X540.more (by decide) (by decide)) rfl N540 K546 hZ hown hS Z547 C548 b_541 f543 Sr545
    · refine go _ _ (fun _ k => XS.icmpYes X111.here hx rfl (pc0 := 59) (pc' := 70) rfl (hb hby at_59) rfl (feq hc59_539).2 (by decide) (by decide) k) ?_
      obtain ⟨T549, h549, X549, e549, E549, A549, D549, -, st549⟩ := newO X111 hx hZ hown (ow hw 4 rfl) (ow hw 5 rfl) (ow hw 6 rfl) e111 (g := (mkF m 70 #[i' p0, i' p1, i' p2, i' ca_101, i' cb_102, i' cc_103, i' cd_104, i' z_106, i' z_112, i' 1, u', u', u', u', u'] [])) rfl (hb hby at_70) (by decide) (by decide)
      obtain ⟨b549, g549⟩ : ∃ z, z = h0.size := ⟨_, rfl⟩
      rw [← g549] at A549 D549 st549
      refine go _ _ (st549) ?_
      show G (T549.setTop (mkF m 73 #[i' p0, i' p1, i' p2, i' ca_101, i' cb_102, i' cc_103, i' cd_104, i' z_106, i' z_112, i' 1, u', u', u', u', u'] [(.ref b549)]))
      refine go _ _ (fun _ k => XS.dup X549.here hx rfl (hb hby at_73) rfl rfl (XS.iconst X549.here hx rfl (hb hby at_74) k)) ?_
      obtain ⟨T550, h550, k550, X550, e550, E550, A550, st550⟩ := newP X549 hx hZ (ow hw 7 rfl) e549 (g := (mkF m 75 #[i' p0, i' p1, i' p2, i' ca_101, i' cb_102, i' cc_103, i' cd_104, i' z_106, i' z_112, i' 1, u', u', u', u', u'] [(.int 2), (.ref b549), (.ref b549)])) rfl (hb hby at_75) rfl (by decide) (cap := 2) (by decide) (by decide) (by decide) (by decide)
      obtain ⟨b550, g550⟩ : ∃ z, z = h549.size := ⟨_, rfl⟩
      rw [← g550] at A550 st550
      have V550 : Arv Z h550 b550 k550 .char (2 : Int32) [(.int (0 : Int32)), (.int (0 : Int32))] (.int (0 : Int32)) := (Arv.new A550 (by decide)).pad (pad_rep [] (.int (0 : Int32)) 2)
      refine go _ _ (st550) ?_
      show G (T550.setTop (mkF m 77 #[i' p0, i' p1, i' p2, i' ca_101, i' cb_102, i' cc_103, i' cd_104, i' z_106, i' z_112, i' 1, u', u', u', u', u'] [(.ref b550), (.ref b549), (.ref b549)]))
      refine go _ _ (fun _ k => XS.dup X550.here hx rfl (hb hby at_77) rfl rfl (XS.iconst X550.here hx rfl (hb hby at_78) (XS.iload X550.here hx rfl (hb hby at_79) rfl k))) ?_
      obtain ⟨cl551, Ar551, q551, S551, M551, H551, U551⟩ := id V550
      obtain ⟨T551, h551, X551, e551, W551, st551⟩ := stC X550 hx hZ e550 Ar551 (j := (0 : Int32)) (inb_of S551 ⟨by decide, by decide⟩) (g := (mkF m 81 #[i' p0, i' p1, i' p2, i' ca_101, i' cb_102, i' cc_103, i' cd_104, i' z_106, i' z_112, i' 1, u', u', u', u', u'] [(.int cc_103), (.int 0), (.ref b550), (.ref b550), (.ref b549), (.ref b549)])) rfl rfl (hb hby at_81)
      have V551 : Arv Z h551 b550 k550 .char (2 : Int32) [(.int (nar .char cc_103)), (.int (0 : Int32))] (.int (0 : Int32)) := Arv.set Ar551 q551 S551 M551 H551 U551 (fits_nar_char _) W551 0 rfl (Nat.le_of_ble_eq_true rfl)
      rw [(own_narc pa103_0 pa103_1)] at V551
      have Z552 : h0.size ≤ h549.size := E549.1
      have N551 := Fr.snoc X551 N111 (Nat.le_trans (Nat.le_trans Z0 Z552) (Nat.le_of_eq g550.symm))
      refine go _ _ (st551) ?_
      show G (T551.setTop (mkF m 82 #[i' p0, i' p1, i' p2, i' ca_101, i' cb_102, i' cc_103, i' cd_104, i' z_106, i' z_112, i' 1, u', u', u', u', u'] [(.ref b550), (.ref b549), (.ref b549)]))
      refine go _ _ (fun _ k => XS.dup X551.here hx rfl (hb hby at_82) rfl rfl (XS.iconst X551.here hx rfl (hb hby at_83) (XS.iload X551.here hx rfl (hb hby at_84) rfl k))) ?_
      obtain ⟨cl553, Ar553, q553, S553, M553, H553, U553⟩ := id V551
      obtain ⟨T553, h553, X553, e553, W553, st553⟩ := stC X551 hx hZ e551 Ar553 (j := (1 : Int32)) (inb_of S553 ⟨by decide, by decide⟩) (g := (mkF m 86 #[i' p0, i' p1, i' p2, i' ca_101, i' cb_102, i' cc_103, i' cd_104, i' z_106, i' z_112, i' 1, u', u', u', u', u'] [(.int cd_104), (.int 1), (.ref b550), (.ref b550), (.ref b549), (.ref b549)])) rfl rfl (hb hby at_86)
      have V553 : Arv Z h553 b550 k550 .char (2 : Int32) [(.int cc_103), (.int (nar .char cd_104))] (.int (0 : Int32)) := Arv.set Ar553 q553 S553 M553 H553 U553 (fits_nar_char _) W553 1 rfl (Nat.le_of_ble_eq_true rfl)
      rw [(own_narc pa104_0 pa104_1)] at V553
      have N553 := Fr.snoc X553 N551 (Nat.le_trans (Nat.le_trans Z0 Z552) (Nat.le_of_eq g550.symm))
      refine go _ _ (st553) ?_
      show G (T553.setTop (mkF m 87 #[i' p0, i' p1, i' p2, i' ca_101, i' cb_102, i' cc_103, i' cd_104, i' z_106, i' z_112, i' 1, u', u', u', u', u'] [(.ref b550), (.ref b549), (.ref b549)]))
      have K555 : Keep h549 h550 [] := (Keep.refl h549 []).ext E550
      have K556 : Keep h549 h551 [] := K555.wr W551 (Or.inr (Nat.le_of_eq g550.symm))
      have K557 : Keep h549 h553 [] := K556.wr W553 (Or.inr (Nat.le_of_eq g550.symm))
      have F558 : Exa Z h553 b549 "java/lang/String" := (A549.keep K557)
      have F559 : Fld Z h553 b549 "java/lang/String" "value" "[B" .null := ((D549 (Or.inr (ow hw 33 rfl)) (ty := (.array .byte)) (by decide)).keep K557 nin0)
      have F560 : Fld Z h553 b549 "java/lang/String" "coder" "B" (.int (0 : Int32)) := ((D549 (Or.inr (ow hw 31 rfl)) (ty := .byte) (by decide)).keep K557 nin0)
      have K561 : Keep h0 h549 [] := (Keep.refl h0 []).ext E549
      have K562 : Keep h0 h550 [] := K561.ext E550
      have K563 : Keep h0 h551 [] := K562.wr W551 (Or.inr (Nat.le_trans Z552 (Nat.le_of_eq g550.symm)))
      have K564 : Keep h0 h553 [] := K563.wr W553 (Or.inr (Nat.le_trans Z552 (Nat.le_of_eq g550.symm)))
      have F565 : Old Z n0 h553 := (Xo.keep K564 all0)
      have hp554 : ∀ c ∈ ([cc_103, cd_104] : List Int32), ¬ c < 0 ∧ ¬ (255 : Int32) < c := by
        intro c hc
        simp only [List.mem_cons, List.not_mem_nil, or_false] at hc
        rcases hc with rfl | rfl
        · exact ⟨pa103_0, pa103_1⟩
        · exact ⟨pa104_0, pa104_1⟩
      have Z566 : h0.size ≤ h550.size := Nat.le_trans Z552 E550.1
      have Z567 : h0.size ≤ h551.size := Nat.le_trans Z566 (Keep.of_wr W551).1
      have Z568 : h0.size ≤ h553.size := Nat.le_trans Z567 (Keep.of_wr W553).1
      obtain ⟨rv554, T554, L554, X554, q554, st554⟩ := own_sp X553 hx hZ (y := (⟨"java/lang/String", "<init>", "([C)V"⟩ : MethodName)) rfl hown (ow hw 8 rfl) (ow hw 9 rfl) (ow hw 10 rfl) (by decide) (StrChars.Road.backV (W := 1) hZ (own_hws hw) (kI := 4) (ow hw 5 rfl) (cs := ([cc_103, cd_104] : List Int32)) (bs := ([cc_103, cd_104] : List Int32).map (fun c => c.toInt8.toInt32)) (n := 2) (Nat.le_trans Z0 (Nat.le_of_eq g549.symm)) (Nat.le_trans Z0 Z568) F558 F559 F560 V553 (O2.ext F565.2) P5 rfl rfl (by decide) (by decide) hp554 rfl (by decide) (by decide)) e553 (g := (mkF m 87 #[i' p0, i' p1, i' p2, i' ca_101, i' cb_102, i' cc_103, i' cd_104, i' z_106, i' z_112, i' 1, u', u', u', u', u'] [(.ref b550), (.ref b549), (.ref b549)])) rfl (by rw [hml]; rfl) (a := b549) (argsL := [(.ref b550)]) (rest := [(.ref b549)]) rfl (lenOf own_pd19 rfl) rfl (by show 2 * 0 + _ ≤ _; exact Nat.le_of_eq rfl) (hb hby at_87) (by decide) (by decide)
      obtain ⟨rfl, Nq554, Kp554, Es554, Cs554, t554, kb554, u554a, u554b, u554c, Vs554, As554⟩ := q554
      have N554 := Fr.app N553 Nq554
      have Sx554 : own_Str Z T554.heap b549 ([cc_103, cd_104] : List Int32) := ⟨t554, kb554, Es554, Vs554, Cs554, As554, hp554, (Nat.le_of_ble_eq_true rfl)⟩
      refine go _ _ (st554) ?_
      show G (T554.setTop (mkF m 90 #[i' p0, i' p1, i' p2, i' ca_101, i' cb_102, i' cc_103, i' cd_104, i' z_106, i' z_112, i' 1, u', u', u', u', u'] [(.ref b549)]))
      have Sr569 : own_Str Z T554.heap b549 (own_raw cc_103 cd_104) := by rw [own_raw2 hc59_539]; exact Sx554
      have K570 : Keep h0 T554.heap [] := K564.trans Kp554 (allS (Or.inr (Nat.le_of_eq g549.symm)) all0)
      have Z571 : h0.size ≤ T554.heap.size := Nat.le_trans Z568 Kp554.1
      have C572 : CHr Z own_EL s.vm h0 s.vm T554.heap := C0.trans (CHr.keep K570 sf0 C0.1)
      exact J367 _ _ _ _ _ (X554.more (by decide) (by decide)) rfl N554 K570 hZ hown hS Z571 C572 b549 Es554 Sr569
  · rw [hk117]
    show G (T111.setTop (mkF m 53 #[i' p0, i' p1, i' p2, i' ca_101, i' cb_102, i' cc_103, i' cd_104, i' z_106, i' z_112, u', u', u', u', u', u'] [(.int 2)]))
    refine go _ _ (fun _ k => XS.istore X111.here hx rfl (hb hby at_53) rfl (l' := #[i' p0, i' p1, i' p2, i' ca_101, i' cb_102, i' cc_103, i' cd_104, i' z_106, i' z_112, i' 2, u', u', u', u', u']) rfl (XS.iload X111.here hx rfl (hb hby at_55) rfl (XS.bipush X111.here hx rfl (hb hby at_57) k))) ?_
    show G (T111.setTop (mkF m 59 #[i' p0, i' p1, i' p2, i' ca_101, i' cb_102, i' cc_103, i' cd_104, i' z_106, i' z_112, i' 2, u', u', u', u', u'] [(.int 92), (.int cc_103)]))
    have J573 : ∀ (T573 : State) (L573 : List Loc) (h573 : Heap) (vm573 : Vm) (kk573 : Nat) (X573 : Stand p l e room_1 (s.setVm vm573) m #[(.int p0), (.int p1), (.int p2)] below meth c T573 L573 3 8) (e573 : T573.heap = h573) (N573 : Fr n0 L573) (K573 : Keep h0 h573 []) (hZ573 : Z.Warmed39 vm573) (hown573 : vm573.findClass "com/example/kindred/kindred/IdentifierOfTokenPinLaw" = some m.cls) (hS573 : s.Since vm573 kk573) (hk573 : kk573 ≤ h573.size) (Cc573 : CHr Z own_EL s.vm h0 vm573 h573) (rw_573 : Addr) (fj573_0 : Exa Z h573 rw_573 "java/lang/String") (fj573_1 : own_Str Z h573 rw_573 (own_raw cc_103 cd_104)), G (T573.setTop (mkF m 90 #[i' p0, i' p1, i' p2, i' ca_101, i' cb_102, i' cc_103, i' cd_104, i' z_106, i' z_112, i' 2, u', u', u', u', u'] [(.ref rw_573)])) := by
      intro T573 L573 h573 vm573 kk573 X573 e573 N573 K573 hZ573 hown573 hS573 hk573 Cc573 rw_573 fj573_0 fj573_1
      show G (T573.setTop (mkF m 90 #[i' p0, i' p1, i' p2, i' ca_101, i' cb_102, i' cc_103, i' cd_104, i' z_106, i' z_112, i' 2, u', u', u', u', u'] [(.ref rw_573)]))
      refine go _ _ (fun _ k => XS.astore X573.here hx rfl (hb hby at_90) rfl rfl (l' := #[i' p0, i' p1, i' p2, i' ca_101, i' cb_102, i' cc_103, i' cd_104, i' z_106, i' z_112, i' 2, r' rw_573, u', u', u', u']) rfl (XS.iload X573.here hx rfl (hb hby at_92) rfl k)) ?_
      show G (T573.setTop (mkF m 94 #[i' p0, i' p1, i' p2, i' ca_101, i' cb_102, i' cc_103, i' cd_104, i' z_106, i' z_112, i' 2, r' rw_573, u', u', u', u'] [(.int 2)]))
      refine go _ _ (fun _ k => XS.ifYes X573.here hx rfl (pc0 := 94) (pc' := 203) rfl (hb hby at_94) rfl (by decide) (by decide) (by decide) k) ?_
      show G (T573.setTop (mkF m 203 #[i' p0, i' p1, i' p2, i' ca_101, i' cb_102, i' cc_103, i' cd_104, i' z_106, i' z_112, i' 2, r' rw_573, u', u', u', u'] []))
      refine go _ _ (fun _ k => XS.iload X573.here hx rfl (hb hby at_203) rfl (XS.iconst X573.here hx rfl (hb hby at_205) k)) ?_
      show G (T573.setTop (mkF m 206 #[i' p0, i' p1, i' p2, i' ca_101, i' cb_102, i' cc_103, i' cd_104, i' z_106, i' z_112, i' 2, r' rw_573, u', u', u', u'] [(.int 1), (.int 2)]))
      refine go _ _ (fun _ k => XS.icmpYes X573.here hx rfl (pc0 := 206) (pc' := 275) rfl (hb hby at_206) rfl (by decide) (by decide) (by decide) k) ?_
      show G (T573.setTop (mkF m 275 #[i' p0, i' p1, i' p2, i' ca_101, i' cb_102, i' cc_103, i' cd_104, i' z_106, i' z_112, i' 2, r' rw_573, u', u', u', u'] []))
      refine go _ _ (fun _ k => XS.iload X573.here hx rfl (hb hby at_275) rfl (XS.iconst X573.here hx rfl (hb hby at_277) k)) ?_
      show G (T573.setTop (mkF m 278 #[i' p0, i' p1, i' p2, i' ca_101, i' cb_102, i' cc_103, i' cd_104, i' z_106, i' z_112, i' 2, r' rw_573, u', u', u', u'] [(.int 2), (.int 2)]))
      refine go _ _ (fun _ k => XS.icmpNo X573.here hx rfl (hb hby at_278) rfl (by decide) k) ?_
      obtain ⟨T574, h574, X574, e574, E574, A574, D574, -, st574⟩ := newO X573 hx hZ573 hown573 (ow hw 4 rfl) (ow hw 5 rfl) (ow hw 6 rfl) e573 (g := (mkF m 281 #[i' p0, i' p1, i' p2, i' ca_101, i' cb_102, i' cc_103, i' cd_104, i' z_106, i' z_112, i' 2, r' rw_573, u', u', u', u'] [])) rfl (hb hby at_281) (by decide) (by decide)
      obtain ⟨b574, g574⟩ : ∃ z, z = h573.size := ⟨_, rfl⟩
      rw [← g574] at A574 D574 st574
      refine go _ _ (st574) ?_
      show G (T574.setTop (mkF m 284 #[i' p0, i' p1, i' p2, i' ca_101, i' cb_102, i' cc_103, i' cd_104, i' z_106, i' z_112, i' 2, r' rw_573, u', u', u', u'] [(.ref b574)]))
      refine go _ _ (fun _ k => XS.dup X574.here hx rfl (hb hby at_284) rfl rfl (XS.iconst X574.here hx rfl (hb hby at_285) k)) ?_
      obtain ⟨T575, h575, k575, X575, e575, E575, A575, st575⟩ := newP X574 hx hZ573 (ow hw 7 rfl) e574 (g := (mkF m 286 #[i' p0, i' p1, i' p2, i' ca_101, i' cb_102, i' cc_103, i' cd_104, i' z_106, i' z_112, i' 2, r' rw_573, u', u', u', u'] [(.int 3), (.ref b574), (.ref b574)])) rfl (hb hby at_286) rfl (by decide) (cap := 3) (by decide) (by decide) (by decide) (by decide)
      obtain ⟨b575, g575⟩ : ∃ z, z = h574.size := ⟨_, rfl⟩
      rw [← g575] at A575 st575
      have V575 : Arv Z h575 b575 k575 .char (3 : Int32) [(.int (0 : Int32)), (.int (0 : Int32)), (.int (0 : Int32))] (.int (0 : Int32)) := (Arv.new A575 (by decide)).pad (pad_rep [] (.int (0 : Int32)) 3)
      refine go _ _ (st575) ?_
      show G (T575.setTop (mkF m 288 #[i' p0, i' p1, i' p2, i' ca_101, i' cb_102, i' cc_103, i' cd_104, i' z_106, i' z_112, i' 2, r' rw_573, u', u', u', u'] [(.ref b575), (.ref b574), (.ref b574)]))
      refine go _ _ (fun _ k => XS.dup X575.here hx rfl (hb hby at_288) rfl rfl (XS.iconst X575.here hx rfl (hb hby at_289) (XS.iload X575.here hx rfl (hb hby at_290) rfl k))) ?_
      obtain ⟨cl576, Ar576, q576, S576, M576, H576, U576⟩ := id V575
      obtain ⟨T576, h576, X576, e576, W576, st576⟩ := stC X575 hx hZ573 e575 Ar576 (j := (0 : Int32)) (inb_of S576 ⟨by decide, by decide⟩) (g := (mkF m 292 #[i' p0, i' p1, i' p2, i' ca_101, i' cb_102, i' cc_103, i' cd_104, i' z_106, i' z_112, i' 2, r' rw_573, u', u', u', u'] [(.int z_106), (.int 0), (.ref b575), (.ref b575), (.ref b574), (.ref b574)])) rfl rfl (hb hby at_292)
      have V576 : Arv Z h576 b575 k575 .char (3 : Int32) [(.int (nar .char z_106)), (.int (0 : Int32)), (.int (0 : Int32))] (.int (0 : Int32)) := Arv.set Ar576 q576 S576 M576 H576 U576 (fits_nar_char _) W576 0 rfl (Nat.le_of_ble_eq_true rfl)
      rw [(own_narc p107 p108)] at V576
      have Z577 : h0.size ≤ h573.size := K573.1
      have Z578 : h0.size ≤ h574.size := Nat.le_trans Z577 E574.1
      have N576 := Fr.snoc X576 N573 (Nat.le_trans (Nat.le_trans Z0 Z578) (Nat.le_of_eq g575.symm))
      refine go _ _ (st576) ?_
      show G (T576.setTop (mkF m 293 #[i' p0, i' p1, i' p2, i' ca_101, i' cb_102, i' cc_103, i' cd_104, i' z_106, i' z_112, i' 2, r' rw_573, u', u', u', u'] [(.ref b575), (.ref b574), (.ref b574)]))
      refine go _ _ (fun _ k => XS.dup X576.here hx rfl (hb hby at_293) rfl rfl (XS.iconst X576.here hx rfl (hb hby at_294) (XS.bipush X576.here hx rfl (hb hby at_295) k))) ?_
      obtain ⟨cl579, Ar579, q579, S579, M579, H579, U579⟩ := id V576
      obtain ⟨T579, h579, X579, e579, W579, st579⟩ := stC X576 hx hZ573 e576 Ar579 (j := (1 : Int32)) (inb_of S579 ⟨by decide, by decide⟩) (g := (mkF m 297 #[i' p0, i' p1, i' p2, i' ca_101, i' cb_102, i' cc_103, i' cd_104, i' z_106, i' z_112, i' 2, r' rw_573, u', u', u', u'] [(.int 124), (.int 1), (.ref b575), (.ref b575), (.ref b574), (.ref b574)])) rfl rfl (hb hby at_297)
      have V579 : Arv Z h579 b575 k575 .char (3 : Int32) [(.int z_106), (.int (124 : Int32)), (.int (0 : Int32))] (.int (0 : Int32)) := Arv.set Ar579 q579 S579 M579 H579 U579 rfl W579 1 rfl (Nat.le_of_ble_eq_true rfl)
      have N579 := Fr.snoc X579 N576 (Nat.le_trans (Nat.le_trans Z0 Z578) (Nat.le_of_eq g575.symm))
      refine go _ _ (st579) ?_
      show G (T579.setTop (mkF m 298 #[i' p0, i' p1, i' p2, i' ca_101, i' cb_102, i' cc_103, i' cd_104, i' z_106, i' z_112, i' 2, r' rw_573, u', u', u', u'] [(.ref b575), (.ref b574), (.ref b574)]))
      refine go _ _ (fun _ k => XS.dup X579.here hx rfl (hb hby at_298) rfl rfl (XS.iconst X579.here hx rfl (hb hby at_299) (XS.iload X579.here hx rfl (hb hby at_300) rfl k))) ?_
      obtain ⟨cl580, Ar580, q580, S580, M580, H580, U580⟩ := id V579
      obtain ⟨T580, h580, X580, e580, W580, st580⟩ := stC X579 hx hZ573 e579 Ar580 (j := (2 : Int32)) (inb_of S580 ⟨by decide, by decide⟩) (g := (mkF m 302 #[i' p0, i' p1, i' p2, i' ca_101, i' cb_102, i' cc_103, i' cd_104, i' z_106, i' z_112, i' 2, r' rw_573, u', u', u', u'] [(.int cc_103), (.int 2), (.ref b575), (.ref b575), (.ref b574), (.ref b574)])) rfl rfl (hb hby at_302)
      have V580 : Arv Z h580 b575 k575 .char (3 : Int32) [(.int z_106), (.int (124 : Int32)), (.int (nar .char cc_103))] (.int (0 : Int32)) := Arv.set Ar580 q580 S580 M580 H580 U580 (fits_nar_char _) W580 2 rfl (Nat.le_of_ble_eq_true rfl)
      rw [(own_narc pa103_0 pa103_1)] at V580
      have N580 := Fr.snoc X580 N579 (Nat.le_trans (Nat.le_trans Z0 Z578) (Nat.le_of_eq g575.symm))
      refine go _ _ (st580) ?_
      show G (T580.setTop (mkF m 303 #[i' p0, i' p1, i' p2, i' ca_101, i' cb_102, i' cc_103, i' cd_104, i' z_106, i' z_112, i' 2, r' rw_573, u', u', u', u'] [(.ref b575), (.ref b574), (.ref b574)]))
      have K582 : Keep h574 h575 [] := (Keep.refl h574 []).ext E575
      have K583 : Keep h574 h576 [] := K582.wr W576 (Or.inr (Nat.le_of_eq g575.symm))
      have K584 : Keep h574 h579 [] := K583.wr W579 (Or.inr (Nat.le_of_eq g575.symm))
      have K585 : Keep h574 h580 [] := K584.wr W580 (Or.inr (Nat.le_of_eq g575.symm))
      have F586 : Exa Z h580 b574 "java/lang/String" := (A574.keep K585)
      have F587 : Fld Z h580 b574 "java/lang/String" "value" "[B" .null := ((D574 (Or.inr (ow hw 33 rfl)) (ty := (.array .byte)) (by decide)).keep K585 nin0)
      have F588 : Fld Z h580 b574 "java/lang/String" "coder" "B" (.int (0 : Int32)) := ((D574 (Or.inr (ow hw 31 rfl)) (ty := .byte) (by decide)).keep K585 nin0)
      have K589 : Keep h0 h573 [] := (Keep.refl h0 []).trans K573 all0
      have K590 : Keep h0 h574 [] := K589.ext E574
      have K591 : Keep h0 h575 [] := K590.ext E575
      have K592 : Keep h0 h576 [] := K591.wr W576 (Or.inr (Nat.le_trans Z578 (Nat.le_of_eq g575.symm)))
      have K593 : Keep h0 h579 [] := K592.wr W579 (Or.inr (Nat.le_trans Z578 (Nat.le_of_eq g575.symm)))
      have K594 : Keep h0 h580 [] := K593.wr W580 (Or.inr (Nat.le_trans Z578 (Nat.le_of_eq g575.symm)))
      have F595 : Old Z n0 h580 := (Xo.keep K594 all0)
      have hp581 : ∀ c ∈ ([z_106, (124 : Int32), cc_103] : List Int32), ¬ c < 0 ∧ ¬ (255 : Int32) < c := by
        intro c hc
        simp only [List.mem_cons, List.not_mem_nil, or_false] at hc
        rcases hc with rfl | rfl | rfl
        · exact ⟨p107, p108⟩
        · exact (by decide)
        · exact ⟨pa103_0, pa103_1⟩
      have Z596 : h0.size ≤ h575.size := Nat.le_trans Z578 E575.1
      have Z597 : h0.size ≤ h576.size := Nat.le_trans Z596 (Keep.of_wr W576).1
      have Z598 : h0.size ≤ h579.size := Nat.le_trans Z597 (Keep.of_wr W579).1
      have Z599 : h0.size ≤ h580.size := Nat.le_trans Z598 (Keep.of_wr W580).1
      obtain ⟨rv581, T581, L581, X581, q581, st581⟩ := own_sp X580 hx hZ573 (y := (⟨"java/lang/String", "<init>", "([C)V"⟩ : MethodName)) rfl hown573 (ow hw 8 rfl) (ow hw 9 rfl) (ow hw 10 rfl) (by decide) (StrChars.Road.backV (W := 1) hZ573 (own_hws hw) (kI := 4) (ow hw 5 rfl) (cs := ([z_106, (124 : Int32), cc_103] : List Int32)) (bs := ([z_106, (124 : Int32), cc_103] : List Int32).map (fun c => c.toInt8.toInt32)) (n := 3) (Nat.le_trans (Nat.le_trans Z0 Z577) (Nat.le_of_eq g574.symm)) (Nat.le_trans Z0 Z599) F586 F587 F588 V580 (O2.ext F595.2) P5 rfl rfl (by decide) (by decide) hp581 rfl (by decide) (by decide)) e580 (g := (mkF m 303 #[i' p0, i' p1, i' p2, i' ca_101, i' cb_102, i' cc_103, i' cd_104, i' z_106, i' z_112, i' 2, r' rw_573, u', u', u', u'] [(.ref b575), (.ref b574), (.ref b574)])) rfl (by rw [hml]; rfl) (a := b574) (argsL := [(.ref b575)]) (rest := [(.ref b574)]) rfl (lenOf own_pd19 rfl) rfl (by show 2 * 0 + _ ≤ _; exact Nat.le_of_eq rfl) (hb hby at_303) (by decide) (by decide)
      obtain ⟨rfl, Nq581, Kp581, Es581, Cs581, t581, kb581, u581a, u581b, u581c, Vs581, As581⟩ := q581
      have N581 := Fr.app N580 Nq581
      have Sx581 : own_Str Z T581.heap b574 ([z_106, (124 : Int32), cc_103] : List Int32) := ⟨t581, kb581, Es581, Vs581, Cs581, As581, hp581, (Nat.le_of_ble_eq_true rfl)⟩
      refine go _ _ (st581) ?_
      show G (T581.setTop (mkF m 306 #[i' p0, i' p1, i' p2, i' ca_101, i' cb_102, i' cc_103, i' cd_104, i' z_106, i' z_112, i' 2, r' rw_573, u', u', u', u'] [(.ref b574)]))
      refine go _ _ (fun _ k => XS.astore X581.here hx rfl (hb hby at_306) rfl rfl (l' := #[i' p0, i' p1, i' p2, i' ca_101, i' cb_102, i' cc_103, i' cd_104, i' z_106, i' z_112, i' 2, r' rw_573, r' b574, u', u', u']) rfl (XS.iload X581.here hx rfl (hb hby at_308) rfl k)) ?_
      have K601 : Keep h580 T581.heap [b574] := (Keep.refl h580 [b574]).trans Kp581 (allS (Or.inl (List.mem_of_getElem? (i := 0) rfl)) all0)
      have F602 : Old Z n0 T581.heap := (F595.keep K601 (allS (Nat.le_trans (Nat.le_trans Z0 Z577) (Nat.le_of_eq g574.symm)) all0))
      have Z603 : h0.size ≤ T581.heap.size := Nat.le_trans Z599 Kp581.1
      obtain ⟨rv600, T600, L600, X600, q600, st600⟩ := own_st X581 hx hZ573 (y := (⟨"java/lang/String", "valueOf", "(C)Ljava/lang/String;"⟩ : MethodName)) hown573 (ow hw 34 rfl) (ow hw 35 rfl) (ow hw 6 rfl) (ow hw 36 rfl) (by decide) (own_bkN (W := 0) (rm7 l Z a0 hw z0 O2 P5 fm0 O4 R4 [] z_106 T581.heap n0 (Nat.le_trans Z0 Z603) F602 p107 p108) hZ573 (ow hw 36 rfl) (ow hw 6 rfl) (by decide) (by decide)) rfl (g := (mkF m 310 #[i' p0, i' p1, i' p2, i' ca_101, i' cb_102, i' cc_103, i' cd_104, i' z_106, i' z_112, i' 2, r' rw_573, r' b574, u', u', u'] [(.int z_106)])) rfl (by rw [hml]; rfl) (argsL := [(.int z_106)]) (rest := []) rfl (lenOf own_pd22 rfl) rfl (by show 2 * 0 + _ ≤ _; exact Nat.le_of_eq rfl) (hb hby at_310) (by decide) (by decide)
      obtain ⟨Nq600, Kp600, ⟨b_604, rfl, z605, f606, f607⟩⟩ := q600
      have N600 := Fr.app N581 Nq600
      refine go _ _ (st600) ?_
      show G (T600.setTop (mkF m 313 #[i' p0, i' p1, i' p2, i' ca_101, i' cb_102, i' cc_103, i' cd_104, i' z_106, i' z_112, i' 2, r' rw_573, r' b574, u', u', u'] [(.ref b_604)]))
      refine go _ _ (fun _ k => XS.astore X600.here hx rfl (hb hby at_313) rfl rfl (l' := #[i' p0, i' p1, i' p2, i' ca_101, i' cb_102, i' cc_103, i' cd_104, i' z_106, i' z_112, i' 2, r' rw_573, r' b574, r' b_604, u', u']) rfl (XS.iload X600.here hx rfl (hb hby at_315) rfl k)) ?_
      have K609 : Keep T581.heap T600.heap [] := (Keep.refl T581.heap []).trans Kp600 all0
      have F610 : Old Z n0 T600.heap := (F602.keep K609 all0)
      have Z611 : h0.size ≤ T600.heap.size := Nat.le_trans Z603 Kp600.1
      obtain ⟨rv608, T608, L608, X608, q608, st608⟩ := own_st X600 hx hZ573 (y := (⟨"java/lang/String", "valueOf", "(C)Ljava/lang/String;"⟩ : MethodName)) hown573 (ow hw 34 rfl) (ow hw 35 rfl) (ow hw 6 rfl) (ow hw 36 rfl) (by decide) (own_bkN (W := 0) (rm7 l Z a0 hw z0 O2 P5 fm0 O4 R4 [] cc_103 T600.heap n0 (Nat.le_trans Z0 Z611) F610 pa103_0 pa103_1) hZ573 (ow hw 36 rfl) (ow hw 6 rfl) (by decide) (by decide)) rfl (g := (mkF m 317 #[i' p0, i' p1, i' p2, i' ca_101, i' cb_102, i' cc_103, i' cd_104, i' z_106, i' z_112, i' 2, r' rw_573, r' b574, r' b_604, u', u'] [(.int cc_103)])) rfl (by rw [hml]; rfl) (argsL := [(.int cc_103)]) (rest := []) rfl (lenOf own_pd22 rfl) rfl (by show 2 * 0 + _ ≤ _; exact Nat.le_of_eq rfl) (hb hby at_317) (by decide) (by decide)
      obtain ⟨Nq608, Kp608, ⟨b_612, rfl, z613, f614, f615⟩⟩ := q608
      have N608 := Fr.app N600 Nq608
      refine go _ _ (st608) ?_
      show G (T608.setTop (mkF m 320 #[i' p0, i' p1, i' p2, i' ca_101, i' cb_102, i' cc_103, i' cd_104, i' z_106, i' z_112, i' 2, r' rw_573, r' b574, r' b_604, u', u'] [(.ref b_612)]))
      refine go _ _ (fun _ k => XS.astore X608.here hx rfl (hb hby at_320) rfl rfl (l' := #[i' p0, i' p1, i' p2, i' ca_101, i' cb_102, i' cc_103, i' cd_104, i' z_106, i' z_112, i' 2, r' rw_573, r' b574, r' b_604, r' b_612, u']) rfl k) ?_
      show G (T608.setTop (mkF m 322 #[i' p0, i' p1, i' p2, i' ca_101, i' cb_102, i' cc_103, i' cd_104, i' z_106, i' z_112, i' 2, r' rw_573, r' b574, r' b_604, r' b_612, u'] []))
      refine go _ _ (fun _ k => XS.goto X608.here hx rfl (pc0 := 322) (pc' := 398) rfl (hb hby at_322) (by decide) (by decide) k) ?_
      show G (T608.setTop (mkF m 398 #[i' p0, i' p1, i' p2, i' ca_101, i' cb_102, i' cc_103, i' cd_104, i' z_106, i' z_112, i' 2, r' rw_573, r' b574, r' b_604, r' b_612, u'] []))
      refine go _ _ (fun _ k => XS.aload X608.here hx rfl (hb hby at_398) rfl rfl k) ?_
      have Z617 : h573.size ≤ h574.size := E574.1
      have K618 : Keep h573 h574 [] := (Keep.refl h573 []).ext E574
      have K619 : Keep h573 h575 [] := K618.ext E575
      have K620 : Keep h573 h576 [] := K619.wr W576 (Or.inr (Nat.le_trans Z617 (Nat.le_of_eq g575.symm)))
      have K621 : Keep h573 h579 [] := K620.wr W579 (Or.inr (Nat.le_trans Z617 (Nat.le_of_eq g575.symm)))
      have K622 : Keep h573 h580 [] := K621.wr W580 (Or.inr (Nat.le_trans Z617 (Nat.le_of_eq g575.symm)))
      have K623 : Keep h573 T581.heap [] := K622.trans Kp581 (allS (Or.inr (Nat.le_of_eq g574.symm)) all0)
      have K624 : Keep h573 T600.heap [] := K623.trans Kp600 all0
      have K625 : Keep h573 T608.heap [] := K624.trans Kp608 all0
      have C626 : CHr Z own_EL s.vm h0 vm573 T608.heap := Cc573.trans (CHr.keep K625 sf0 Cc573.1)
      have Z627 : h573.size ≤ h575.size := Nat.le_trans Z617 E575.1
      have Z628 : h573.size ≤ h576.size := Nat.le_trans Z627 (Keep.of_wr W576).1
      have Z629 : h573.size ≤ h579.size := Nat.le_trans Z628 (Keep.of_wr W579).1
      have Z630 : h573.size ≤ h580.size := Nat.le_trans Z629 (Keep.of_wr W580).1
      have Z631 : h573.size ≤ T581.heap.size := Nat.le_trans Z630 Kp581.1
      have Z632 : h573.size ≤ T600.heap.size := Nat.le_trans Z631 Kp600.1
      have Z633 : h573.size ≤ T608.heap.size := Nat.le_trans Z632 Kp608.1
      obtain ⟨b616, T616, h616, k616, X616, e616, E616, hS616, hk616, hZ616, hown616, C616, -, st616⟩ := ldcOH X608 hx hZ573 hown573 (ow hw 48 rfl) (own_sat hw) rfl hS573 (Nat.le_trans hk573 Z633) (own_hEL hw) C626.1 (g := (mkF m 400 #[i' p0, i' p1, i' p2, i' ca_101, i' cb_102, i' cc_103, i' cd_104, i' z_106, i' z_112, i' 2, r' rw_573, r' b574, r' b_604, r' b_612, u'] [(.ref b574)])) rfl (hb hby at_400) (n := 40) (by decide) (by decide) (by decide) (by decide)
      refine go _ _ (st616) ?_
      have K635 : Keep T600.heap T608.heap [] := (Keep.refl T600.heap []).trans Kp608 all0
      have K636 : Keep T600.heap h616 [] := K635.ext E616
      have F637 : Old Z n0 h616 := (F610.keep K636 all0)
      have K638 : Keep T581.heap T608.heap [] := K609.trans Kp608 all0
      have K639 : Keep T581.heap h616 [] := K638.ext E616
      have F640 : Exa Z h616 b574 "java/lang/String" := (Es581.keep K639)
      have F641 : own_Str Z h616 b574 ([z_106, (124 : Int32), cc_103] : List Int32) := (own_Str_keep Sx581 K639)
      have Z642 : h0.size ≤ T608.heap.size := Nat.le_trans Z611 Kp608.1
      have Z643 : h0.size ≤ h616.size := Nat.le_trans Z642 E616.1
      obtain ⟨rv634, T634, L634, X634, q634, st634⟩ := own_st X616 hx hZ616 (y := (⟨"com/example/kindred/kindred/Identifier", "ofToken", "(Ljava/lang/String;Ljava/lang/String;)Lcom/example/kindred/kindred/Identifier;"⟩ : MethodName)) hown616 (ow hw 51 rfl) (ow hw 52 rfl) (ow hw 53 rfl) (ow hw 54 rfl) (by decide) (own_bkN (W := 0) (rmT2 l Z a0 hw z0 O2 P5 fm0 O4 R4 [] b574 (.ref b616) z_106 cc_103 h616 n0 (Nat.le_trans Z0 Z643) rfl F637 F640 F641 p107 p108 pa103_0 pa103_1 p109 p110) hZ616 (ow hw 54 rfl) (ow hw 53 rfl) (by decide) (by decide)) e616 (g := (mkF m 402 #[i' p0, i' p1, i' p2, i' ca_101, i' cb_102, i' cc_103, i' cd_104, i' z_106, i' z_112, i' 2, r' rw_573, r' b574, r' b_604, r' b_612, u'] [(.ref b616), (.ref b574)])) rfl (by rw [hml]; rfl) (argsL := [(.ref b574), (.ref b616)]) (rest := []) rfl (lenOf own_pd20 rfl) rfl (by show 2 * 0 + _ ≤ _; exact Nat.le_of_eq rfl) (hb hby at_402) (by decide) (by decide)
      obtain ⟨Nq634, Kp634, ⟨b_644, s1_645, s2_646, rfl, f647, f648, f649, f650, f651, f652, f653⟩⟩ := q634
      have N634 := Fr.app N608 Nq634
      refine go _ _ (st634) ?_
      show G (T634.setTop (mkF m 405 #[i' p0, i' p1, i' p2, i' ca_101, i' cb_102, i' cc_103, i' cd_104, i' z_106, i' z_112, i' 2, r' rw_573, r' b574, r' b_604, r' b_612, u'] [(.ref b_644)]))
      refine go _ _ (fun _ k => XS.astore X634.here hx rfl (hb hby at_405) rfl rfl (l' := #[i' p0, i' p1, i' p2, i' ca_101, i' cb_102, i' cc_103, i' cd_104, i' z_106, i' z_112, i' 2, r' rw_573, r' b574, r' b_604, r' b_612, r' b_644]) rfl (XS.aload X634.here hx rfl (hb hby at_407) rfl rfl k)) ?_
      have Z655 : h0.size ≤ T634.heap.size := Nat.le_trans Z643 Kp634.1
      obtain ⟨rv654, T654, L654, X654, q654, st654⟩ := own_vi X634 hx hZ616 (y := (⟨"com/example/kindred/kindred/Identifier", "system", "()Ljava/lang/String;"⟩ : MethodName)) (z := (⟨"com/example/kindred/kindred/Identifier", "system", "()Ljava/lang/String;"⟩ : MethodName)) hown616 (ow hw 189 rfl) (ow hw 190 rfl) (ow hw 192 rfl) (ow hw 191 rfl) (Or.inl rfl) (by decide) (own_bkN (W := 0) (rm37 l Z a0 hw z0 O2 P5 fm0 O4 R4 [] b_644 s1_645 T634.heap n0 (Nat.le_trans Z0 Z655) f648) hZ616 (ow hw 193 rfl) (ow hw 53 rfl) (by decide) (by decide)) rfl f647 (g := (mkF m 409 #[i' p0, i' p1, i' p2, i' ca_101, i' cb_102, i' cc_103, i' cd_104, i' z_106, i' z_112, i' 2, r' rw_573, r' b574, r' b_604, r' b_612, r' b_644] [(.ref b_644)])) rfl (by rw [hml]; rfl) (argsL := []) (rest := []) rfl (lenOf own_pd16 rfl) rfl (by show 2 * 0 + _ ≤ _; exact Nat.le_of_eq rfl) (hb hby at_409) (by decide) (by decide)
      obtain ⟨Nq654, e654, rfl⟩ := q654
      have N654 := Fr.app N634 Nq654
      refine go _ _ (st654) ?_
      show G (T654.setTop (mkF m 412 #[i' p0, i' p1, i' p2, i' ca_101, i' cb_102, i' cc_103, i' cd_104, i' z_106, i' z_112, i' 2, r' rw_573, r' b574, r' b_604, r' b_612, r' b_644] [(.ref s1_645)]))
      refine go _ _ (fun _ k => XS.aload X654.here hx rfl (hb hby at_412) rfl rfl k) ?_
      obtain ⟨tx656, kbx656, Esx656, Vsx656, Csx656, Asx656, cdx656, bdx656, lnx656⟩ := own_Str_W f651
      have K657 : Keep T600.heap T634.heap [] := K636.trans Kp634 all0
      have F658 : own_Str Z T634.heap b_604 ([z_106] : List Int32) := (own_Str_keep f607 K657)
      obtain ⟨ty656, kby656, Esy656, Vsy656, Csy656, Asy656, cdy656, bdy656, lny656⟩ := own_Str_W F658
      have K659 : Keep h616 T634.heap [] := (Keep.refl h616 []).trans Kp634 all0
      have F660 : Old Z n0 T634.heap := (F637.keep K659 all0)
      obtain ⟨rv656, T656, L656, X656, q656, st656⟩ := own_vi X654 hx hZ616 (Q := fun v h L => ((v = some (.int 1) ∧ (([] : List Int32) ++ [z_106]) = ([z_106] : List Int32)) ∨ (v = some (.int 0) ∧ ¬ (([] : List Int32) ++ [z_106]) = ([z_106] : List Int32))) ∧ L = [] ∧ h = T634.heap) (kc := 0) (ks := 0) (y := (⟨"java/lang/String", "equals", "(Ljava/lang/Object;)Z"⟩ : MethodName)) (z := (⟨"java/lang/String", "equals", "(Ljava/lang/Object;)Z"⟩ : MethodName)) hown616 (ow hw 194 rfl) (ow hw 195 rfl) (ow hw 197 rfl) (ow hw 196 rfl) (Or.inl rfl) (by decide) (StrChars.Road.eqW (s := s.setVm T616.vm) (W := 0) hZ616 (own_heq hw) (kI := 4) (ow hw 5 rfl) Esx656 Vsx656 Csx656 Asx656 cdx656 bdx656 lnx656 Esy656 Vsy656 Csy656 Asy656 cdy656 bdy656 lny656 (O2.ext F660.2) P5 (by decide) (by decide)) e654 f650 (g := (mkF m 414 #[i' p0, i' p1, i' p2, i' ca_101, i' cb_102, i' cc_103, i' cd_104, i' z_106, i' z_112, i' 2, r' rw_573, r' b574, r' b_604, r' b_612, r' b_644] [(.ref b_604), (.ref s1_645)])) rfl (by rw [hml]; rfl) (argsL := [(.ref b_604)]) (rest := []) rfl (lenOf own_pd21 rfl) rfl (by show 2 * 0 + _ ≤ _; exact Nat.le_of_eq rfl) (hb hby at_414) (by decide) (by decide)
      obtain ⟨q656, rfl, e656⟩ := q656
      have N656 := Fr.app N654 (Fr.nil n0)
      rcases q656 with ⟨rfl, pe656⟩ | ⟨rfl, pe656⟩
      · refine go _ _ (st656) ?_
        show G (T656.setTop (mkF m 417 #[i' p0, i' p1, i' p2, i' ca_101, i' cb_102, i' cc_103, i' cd_104, i' z_106, i' z_112, i' 2, r' rw_573, r' b574, r' b_604, r' b_612, r' b_644] [(.int 1)]))
        refine go _ _ (fun _ k => XS.ifNo X656.here hx rfl (hb hby at_417) rfl (by decide) k) ?_
        show G (T656.setTop (mkF m 420 #[i' p0, i' p1, i' p2, i' ca_101, i' cb_102, i' cc_103, i' cd_104, i' z_106, i' z_112, i' 2, r' rw_573, r' b574, r' b_604, r' b_612, r' b_644] []))
        refine go _ _ (fun _ k => XS.aload X656.here hx rfl (hb hby at_420) rfl rfl k) ?_
        obtain ⟨rv661, T661, L661, X661, q661, st661⟩ := own_vi X656 hx hZ616 (y := (⟨"com/example/kindred/kindred/Identifier", "value", "()Ljava/lang/String;"⟩ : MethodName)) (z := (⟨"com/example/kindred/kindred/Identifier", "value", "()Ljava/lang/String;"⟩ : MethodName)) hown616 (ow hw 202 rfl) (ow hw 203 rfl) (ow hw 205 rfl) (ow hw 204 rfl) (Or.inl rfl) (by decide) (own_bkN (W := 0) (rm40 l Z a0 hw z0 O2 P5 fm0 O4 R4 [] b_644 s2_646 T634.heap n0 (Nat.le_trans Z0 Z655) f649) hZ616 (ow hw 206 rfl) (ow hw 53 rfl) (by decide) (by decide)) e656 f647 (g := (mkF m 422 #[i' p0, i' p1, i' p2, i' ca_101, i' cb_102, i' cc_103, i' cd_104, i' z_106, i' z_112, i' 2, r' rw_573, r' b574, r' b_604, r' b_612, r' b_644] [(.ref b_644)])) rfl (by rw [hml]; rfl) (argsL := []) (rest := []) rfl (lenOf own_pd16 rfl) rfl (by show 2 * 0 + _ ≤ _; exact Nat.le_of_eq rfl) (hb hby at_422) (by decide) (by decide)
        obtain ⟨Nq661, e661, rfl⟩ := q661
        have N661 := Fr.app N656 Nq661
        refine go _ _ (st661) ?_
        show G (T661.setTop (mkF m 425 #[i' p0, i' p1, i' p2, i' ca_101, i' cb_102, i' cc_103, i' cd_104, i' z_106, i' z_112, i' 2, r' rw_573, r' b574, r' b_604, r' b_612, r' b_644] [(.ref s2_646)]))
        refine go _ _ (fun _ k => XS.aload X661.here hx rfl (hb hby at_425) rfl rfl k) ?_
        obtain ⟨tx662, kbx662, Esx662, Vsx662, Csx662, Asx662, cdx662, bdx662, lnx662⟩ := own_Str_W f653
        have K663 : Keep T608.heap h616 [] := (Keep.refl T608.heap []).ext E616
        have K664 : Keep T608.heap T634.heap [] := K663.trans Kp634 all0
        have F665 : own_Str Z T634.heap b_612 ([cc_103] : List Int32) := (own_Str_keep f615 K664)
        obtain ⟨ty662, kby662, Esy662, Vsy662, Csy662, Asy662, cdy662, bdy662, lny662⟩ := own_Str_W F665
        obtain ⟨rv662, T662, L662, X662, q662, st662⟩ := own_vi X661 hx hZ616 (Q := fun v h L => ((v = some (.int 1) ∧ (([] : List Int32) ++ [cc_103]) = ([cc_103] : List Int32)) ∨ (v = some (.int 0) ∧ ¬ (([] : List Int32) ++ [cc_103]) = ([cc_103] : List Int32))) ∧ L = [] ∧ h = T634.heap) (kc := 0) (ks := 0) (y := (⟨"java/lang/String", "equals", "(Ljava/lang/Object;)Z"⟩ : MethodName)) (z := (⟨"java/lang/String", "equals", "(Ljava/lang/Object;)Z"⟩ : MethodName)) hown616 (ow hw 194 rfl) (ow hw 195 rfl) (ow hw 197 rfl) (ow hw 196 rfl) (Or.inl rfl) (by decide) (StrChars.Road.eqW (s := s.setVm T616.vm) (W := 0) hZ616 (own_heq hw) (kI := 4) (ow hw 5 rfl) Esx662 Vsx662 Csx662 Asx662 cdx662 bdx662 lnx662 Esy662 Vsy662 Csy662 Asy662 cdy662 bdy662 lny662 (O2.ext F660.2) P5 (by decide) (by decide)) e661 f652 (g := (mkF m 427 #[i' p0, i' p1, i' p2, i' ca_101, i' cb_102, i' cc_103, i' cd_104, i' z_106, i' z_112, i' 2, r' rw_573, r' b574, r' b_604, r' b_612, r' b_644] [(.ref b_612), (.ref s2_646)])) rfl (by rw [hml]; rfl) (argsL := [(.ref b_612)]) (rest := []) rfl (lenOf own_pd21 rfl) rfl (by show 2 * 0 + _ ≤ _; exact Nat.le_of_eq rfl) (hb hby at_427) (by decide) (by decide)
        obtain ⟨q662, rfl, e662⟩ := q662
        have N662 := Fr.app N661 (Fr.nil n0)
        rcases q662 with ⟨rfl, pe662⟩ | ⟨rfl, pe662⟩
        · refine go _ _ (st662) ?_
          show G (T662.setTop (mkF m 430 #[i' p0, i' p1, i' p2, i' ca_101, i' cb_102, i' cc_103, i' cd_104, i' z_106, i' z_112, i' 2, r' rw_573, r' b574, r' b_604, r' b_612, r' b_644] [(.int 1)]))
          refine go _ _ (fun _ k => XS.ifNo X662.here hx rfl (hb hby at_430) rfl (by decide) k) ?_
          show G (T662.setTop (mkF m 433 #[i' p0, i' p1, i' p2, i' ca_101, i' cb_102, i' cc_103, i' cd_104, i' z_106, i' z_112, i' 2, r' rw_573, r' b574, r' b_604, r' b_612, r' b_644] []))
          refine go _ _ (fun _ k => XS.iconst X662.here hx rfl (hb hby at_433) k) ?_
          show G (T662.setTop (mkF m 434 #[i' p0, i' p1, i' p2, i' ca_101, i' cb_102, i' cc_103, i' cd_104, i' z_106, i' z_112, i' 2, r' rw_573, r' b574, r' b_604, r' b_612, r' b_644] [(.int 1)]))
          refine go _ _ (fun _ k => XS.goto X662.here hx rfl (pc0 := 434) (pc' := 438) rfl (hb hby at_434) (by decide) (by decide) k) ?_
          show G (T662.setTop (mkF m 438 #[i' p0, i' p1, i' p2, i' ca_101, i' cb_102, i' cc_103, i' cd_104, i' z_106, i' z_112, i' 2, r' rw_573, r' b574, r' b_604, r' b_612, r' b_644] [(.int 1)]))
          have K666 : Keep h0 T581.heap [] := K594.trans Kp581 (allS (Or.inr (Nat.le_trans Z577 (Nat.le_of_eq g574.symm))) all0)
          have K667 : Keep h0 T600.heap [] := K666.trans Kp600 all0
          have K668 : Keep h0 T608.heap [] := K667.trans Kp608 all0
          have K669 : Keep h0 h616 [] := K668.ext E616
          have K670 : Keep h0 T634.heap [] := K669.trans Kp634 all0
          have C671 : CHr Z own_EL s.vm h0 T616.vm h616 := C626.trans C616
          have C672 : CHr Z own_EL s.vm h0 T616.vm T634.heap := C671.trans (CHr.keep K659 sf0 C671.1)
          have Z673 : h616.size ≤ T634.heap.size := Kp634.1
          refine fin T662 _ _ _ (some (.int (1 : Int32))) T616.vm _ X662 hZ616 hS616 (by rw [e662]; exact (Nat.le_trans hk616 Z673)) (by rw [e662]; exact C672) (fun q => nomatch q) (by decide) (by decide) (by rw [e662]; exact ⟨N662, K670, rfl⟩) _ (own_retN X662 hx (z := (1 : Int32)) (t := .boolean) hret (by simp) (hb hby at_438))
        · exact absurd rfl pe662
      · exact absurd rfl pe656
    by_cases hc59_674 : cc_103 = (92 : Int32)
    · refine go _ _ (fun _ k => XS.icmpNo X111.here hx rfl (hb hby at_59) rfl (teq hc59_674).2 k) ?_
      show G (T111.setTop (mkF m 62 #[i' p0, i' p1, i' p2, i' ca_101, i' cb_102, i' cc_103, i' cd_104, i' z_106, i' z_112, i' 2, u', u', u', u', u'] []))
      refine go _ _ (fun _ k => XS.iload X111.here hx rfl (hb hby at_62) rfl k) ?_
      obtain ⟨rv675, T675, L675, X675, q675, st675⟩ := own_st X111 hx hZ (y := (⟨"java/lang/String", "valueOf", "(C)Ljava/lang/String;"⟩ : MethodName)) hown (ow hw 34 rfl) (ow hw 35 rfl) (ow hw 6 rfl) (ow hw 36 rfl) (by decide) (own_bkN (W := 0) (rm7 l Z a0 hw z0 O2 P5 fm0 O4 R4 [] cd_104 h0 n0 Z0 Xo pa104_0 pa104_1) hZ (ow hw 36 rfl) (ow hw 6 rfl) (by decide) (by decide)) e111 (g := (mkF m 64 #[i' p0, i' p1, i' p2, i' ca_101, i' cb_102, i' cc_103, i' cd_104, i' z_106, i' z_112, i' 2, u', u', u', u', u'] [(.int cd_104)])) rfl (by rw [hml]; rfl) (argsL := [(.int cd_104)]) (rest := []) rfl (lenOf own_pd22 rfl) rfl (by show 2 * 0 + _ ≤ _; exact Nat.le_of_eq rfl) (hb hby at_64) (by decide) (by decide)
      obtain ⟨Nq675, Kp675, ⟨b_676, rfl, z677, f678, f679⟩⟩ := q675
      have N675 := Fr.app N111 Nq675
      refine go _ _ (st675) ?_
      show G (T675.setTop (mkF m 67 #[i' p0, i' p1, i' p2, i' ca_101, i' cb_102, i' cc_103, i' cd_104, i' z_106, i' z_112, i' 2, u', u', u', u', u'] [(.ref b_676)]))
      refine go _ _ (fun _ k => XS.goto X675.here hx rfl (pc0 := 67) (pc' := 90) rfl (hb hby at_67) (by decide) (by decide) k) ?_
      show G (T675.setTop (mkF m 90 #[i' p0, i' p1, i' p2, i' ca_101, i' cb_102, i' cc_103, i' cd_104, i' z_106, i' z_112, i' 2, u', u', u', u', u'] [(.ref b_676)]))
      have Sr680 : own_Str Z T675.heap b_676 (own_raw cc_103 cd_104) := by rw [own_raw1 hc59_674]; exact f679
      have K681 : Keep h0 T675.heap [] := (Keep.refl h0 []).trans Kp675 all0
      have Z682 : h0.size ≤ T675.heap.size := Kp675.1
      have C683 : CHr Z own_EL s.vm h0 s.vm T675.heap := C0.trans (CHr.keep K681 sf0 C0.1)
      exact J573 _ _ _ _ _ (X675.more (by decide) (by decide)) rfl N675 K681 hZ hown hS Z682 C683 b_676 f678 Sr680
    · refine go _ _ (fun _ k => XS.icmpYes X111.here hx rfl (pc0 := 59) (pc' := 70) rfl (hb hby at_59) rfl (feq hc59_674).2 (by decide) (by decide) k) ?_
      obtain ⟨T684, h684, X684, e684, E684, A684, D684, -, st684⟩ := newO X111 hx hZ hown (ow hw 4 rfl) (ow hw 5 rfl) (ow hw 6 rfl) e111 (g := (mkF m 70 #[i' p0, i' p1, i' p2, i' ca_101, i' cb_102, i' cc_103, i' cd_104, i' z_106, i' z_112, i' 2, u', u', u', u', u'] [])) rfl (hb hby at_70) (by decide) (by decide)
      obtain ⟨b684, g684⟩ : ∃ z, z = h0.size := ⟨_, rfl⟩
      rw [← g684] at A684 D684 st684
      refine go _ _ (st684) ?_
      show G (T684.setTop (mkF m 73 #[i' p0, i' p1, i' p2, i' ca_101, i' cb_102, i' cc_103, i' cd_104, i' z_106, i' z_112, i' 2, u', u', u', u', u'] [(.ref b684)]))
      refine go _ _ (fun _ k => XS.dup X684.here hx rfl (hb hby at_73) rfl rfl (XS.iconst X684.here hx rfl (hb hby at_74) k)) ?_
      obtain ⟨T685, h685, k685, X685, e685, E685, A685, st685⟩ := newP X684 hx hZ (ow hw 7 rfl) e684 (g := (mkF m 75 #[i' p0, i' p1, i' p2, i' ca_101, i' cb_102, i' cc_103, i' cd_104, i' z_106, i' z_112, i' 2, u', u', u', u', u'] [(.int 2), (.ref b684), (.ref b684)])) rfl (hb hby at_75) rfl (by decide) (cap := 2) (by decide) (by decide) (by decide) (by decide)
      obtain ⟨b685, g685⟩ : ∃ z, z = h684.size := ⟨_, rfl⟩
      rw [← g685] at A685 st685
      have V685 : Arv Z h685 b685 k685 .char (2 : Int32) [(.int (0 : Int32)), (.int (0 : Int32))] (.int (0 : Int32)) := (Arv.new A685 (by decide)).pad (pad_rep [] (.int (0 : Int32)) 2)
      refine go _ _ (st685) ?_
      show G (T685.setTop (mkF m 77 #[i' p0, i' p1, i' p2, i' ca_101, i' cb_102, i' cc_103, i' cd_104, i' z_106, i' z_112, i' 2, u', u', u', u', u'] [(.ref b685), (.ref b684), (.ref b684)]))
      refine go _ _ (fun _ k => XS.dup X685.here hx rfl (hb hby at_77) rfl rfl (XS.iconst X685.here hx rfl (hb hby at_78) (XS.iload X685.here hx rfl (hb hby at_79) rfl k))) ?_
      obtain ⟨cl686, Ar686, q686, S686, M686, H686, U686⟩ := id V685
      obtain ⟨T686, h686, X686, e686, W686, st686⟩ := stC X685 hx hZ e685 Ar686 (j := (0 : Int32)) (inb_of S686 ⟨by decide, by decide⟩) (g := (mkF m 81 #[i' p0, i' p1, i' p2, i' ca_101, i' cb_102, i' cc_103, i' cd_104, i' z_106, i' z_112, i' 2, u', u', u', u', u'] [(.int cc_103), (.int 0), (.ref b685), (.ref b685), (.ref b684), (.ref b684)])) rfl rfl (hb hby at_81)
      have V686 : Arv Z h686 b685 k685 .char (2 : Int32) [(.int (nar .char cc_103)), (.int (0 : Int32))] (.int (0 : Int32)) := Arv.set Ar686 q686 S686 M686 H686 U686 (fits_nar_char _) W686 0 rfl (Nat.le_of_ble_eq_true rfl)
      rw [(own_narc pa103_0 pa103_1)] at V686
      have Z687 : h0.size ≤ h684.size := E684.1
      have N686 := Fr.snoc X686 N111 (Nat.le_trans (Nat.le_trans Z0 Z687) (Nat.le_of_eq g685.symm))
      refine go _ _ (st686) ?_
      show G (T686.setTop (mkF m 82 #[i' p0, i' p1, i' p2, i' ca_101, i' cb_102, i' cc_103, i' cd_104, i' z_106, i' z_112, i' 2, u', u', u', u', u'] [(.ref b685), (.ref b684), (.ref b684)]))
      refine go _ _ (fun _ k => XS.dup X686.here hx rfl (hb hby at_82) rfl rfl (XS.iconst X686.here hx rfl (hb hby at_83) (XS.iload X686.here hx rfl (hb hby at_84) rfl k))) ?_
      obtain ⟨cl688, Ar688, q688, S688, M688, H688, U688⟩ := id V686
      obtain ⟨T688, h688, X688, e688, W688, st688⟩ := stC X686 hx hZ e686 Ar688 (j := (1 : Int32)) (inb_of S688 ⟨by decide, by decide⟩) (g := (mkF m 86 #[i' p0, i' p1, i' p2, i' ca_101, i' cb_102, i' cc_103, i' cd_104, i' z_106, i' z_112, i' 2, u', u', u', u', u'] [(.int cd_104), (.int 1), (.ref b685), (.ref b685), (.ref b684), (.ref b684)])) rfl rfl (hb hby at_86)
      have V688 : Arv Z h688 b685 k685 .char (2 : Int32) [(.int cc_103), (.int (nar .char cd_104))] (.int (0 : Int32)) := Arv.set Ar688 q688 S688 M688 H688 U688 (fits_nar_char _) W688 1 rfl (Nat.le_of_ble_eq_true rfl)
      rw [(own_narc pa104_0 pa104_1)] at V688
      have N688 := Fr.snoc X688 N686 (Nat.le_trans (Nat.le_trans Z0 Z687) (Nat.le_of_eq g685.symm))
      refine go _ _ (st688) ?_
      show G (T688.setTop (mkF m 87 #[i' p0, i' p1, i' p2, i' ca_101, i' cb_102, i' cc_103, i' cd_104, i' z_106, i' z_112, i' 2, u', u', u', u', u'] [(.ref b685), (.ref b684), (.ref b684)]))
      have K690 : Keep h684 h685 [] := (Keep.refl h684 []).ext E685
      have K691 : Keep h684 h686 [] := K690.wr W686 (Or.inr (Nat.le_of_eq g685.symm))
      have K692 : Keep h684 h688 [] := K691.wr W688 (Or.inr (Nat.le_of_eq g685.symm))
      have F693 : Exa Z h688 b684 "java/lang/String" := (A684.keep K692)
      have F694 : Fld Z h688 b684 "java/lang/String" "value" "[B" .null := ((D684 (Or.inr (ow hw 33 rfl)) (ty := (.array .byte)) (by decide)).keep K692 nin0)
      have F695 : Fld Z h688 b684 "java/lang/String" "coder" "B" (.int (0 : Int32)) := ((D684 (Or.inr (ow hw 31 rfl)) (ty := .byte) (by decide)).keep K692 nin0)
      have K696 : Keep h0 h684 [] := (Keep.refl h0 []).ext E684
      have K697 : Keep h0 h685 [] := K696.ext E685
      have K698 : Keep h0 h686 [] := K697.wr W686 (Or.inr (Nat.le_trans Z687 (Nat.le_of_eq g685.symm)))
      have K699 : Keep h0 h688 [] := K698.wr W688 (Or.inr (Nat.le_trans Z687 (Nat.le_of_eq g685.symm)))
      have F700 : Old Z n0 h688 := (Xo.keep K699 all0)
      have hp689 : ∀ c ∈ ([cc_103, cd_104] : List Int32), ¬ c < 0 ∧ ¬ (255 : Int32) < c := by
        intro c hc
        simp only [List.mem_cons, List.not_mem_nil, or_false] at hc
        rcases hc with rfl | rfl
        · exact ⟨pa103_0, pa103_1⟩
        · exact ⟨pa104_0, pa104_1⟩
      have Z701 : h0.size ≤ h685.size := Nat.le_trans Z687 E685.1
      have Z702 : h0.size ≤ h686.size := Nat.le_trans Z701 (Keep.of_wr W686).1
      have Z703 : h0.size ≤ h688.size := Nat.le_trans Z702 (Keep.of_wr W688).1
      obtain ⟨rv689, T689, L689, X689, q689, st689⟩ := own_sp X688 hx hZ (y := (⟨"java/lang/String", "<init>", "([C)V"⟩ : MethodName)) rfl hown (ow hw 8 rfl) (ow hw 9 rfl) (ow hw 10 rfl) (by decide) (StrChars.Road.backV (W := 1) hZ (own_hws hw) (kI := 4) (ow hw 5 rfl) (cs := ([cc_103, cd_104] : List Int32)) (bs := ([cc_103, cd_104] : List Int32).map (fun c => c.toInt8.toInt32)) (n := 2) (Nat.le_trans Z0 (Nat.le_of_eq g684.symm)) (Nat.le_trans Z0 Z703) F693 F694 F695 V688 (O2.ext F700.2) P5 rfl rfl (by decide) (by decide) hp689 rfl (by decide) (by decide)) e688 (g := (mkF m 87 #[i' p0, i' p1, i' p2, i' ca_101, i' cb_102, i' cc_103, i' cd_104, i' z_106, i' z_112, i' 2, u', u', u', u', u'] [(.ref b685), (.ref b684), (.ref b684)])) rfl (by rw [hml]; rfl) (a := b684) (argsL := [(.ref b685)]) (rest := [(.ref b684)]) rfl (lenOf own_pd19 rfl) rfl (by show 2 * 0 + _ ≤ _; exact Nat.le_of_eq rfl) (hb hby at_87) (by decide) (by decide)
      obtain ⟨rfl, Nq689, Kp689, Es689, Cs689, t689, kb689, u689a, u689b, u689c, Vs689, As689⟩ := q689
      have N689 := Fr.app N688 Nq689
      have Sx689 : own_Str Z T689.heap b684 ([cc_103, cd_104] : List Int32) := ⟨t689, kb689, Es689, Vs689, Cs689, As689, hp689, (Nat.le_of_ble_eq_true rfl)⟩
      refine go _ _ (st689) ?_
      show G (T689.setTop (mkF m 90 #[i' p0, i' p1, i' p2, i' ca_101, i' cb_102, i' cc_103, i' cd_104, i' z_106, i' z_112, i' 2, u', u', u', u', u'] [(.ref b684)]))
      have Sr704 : own_Str Z T689.heap b684 (own_raw cc_103 cd_104) := by rw [own_raw2 hc59_674]; exact Sx689
      have K705 : Keep h0 T689.heap [] := K699.trans Kp689 (allS (Or.inr (Nat.le_of_eq g684.symm)) all0)
      have Z706 : h0.size ≤ T689.heap.size := Nat.le_trans Z703 Kp689.1
      have C707 : CHr Z own_EL s.vm h0 s.vm T689.heap := C0.trans (CHr.keep K705 sf0 C0.1)
      exact J573 _ _ _ _ _ (X689.more (by decide) (by decide)) rfl N689 K705 hZ hown hS Z706 C707 b684 Es689 Sr704
  · rw [hk117]
    show G (T111.setTop (mkF m 53 #[i' p0, i' p1, i' p2, i' ca_101, i' cb_102, i' cc_103, i' cd_104, i' z_106, i' z_112, u', u', u', u', u', u'] [(.int 3)]))
    refine go _ _ (fun _ k => XS.istore X111.here hx rfl (hb hby at_53) rfl (l' := #[i' p0, i' p1, i' p2, i' ca_101, i' cb_102, i' cc_103, i' cd_104, i' z_106, i' z_112, i' 3, u', u', u', u', u']) rfl (XS.iload X111.here hx rfl (hb hby at_55) rfl (XS.bipush X111.here hx rfl (hb hby at_57) k))) ?_
    show G (T111.setTop (mkF m 59 #[i' p0, i' p1, i' p2, i' ca_101, i' cb_102, i' cc_103, i' cd_104, i' z_106, i' z_112, i' 3, u', u', u', u', u'] [(.int 92), (.int cc_103)]))
    have J708 : ∀ (T708 : State) (L708 : List Loc) (h708 : Heap) (vm708 : Vm) (kk708 : Nat) (X708 : Stand p l e room_1 (s.setVm vm708) m #[(.int p0), (.int p1), (.int p2)] below meth c T708 L708 3 8) (e708 : T708.heap = h708) (N708 : Fr n0 L708) (K708 : Keep h0 h708 []) (hZ708 : Z.Warmed39 vm708) (hown708 : vm708.findClass "com/example/kindred/kindred/IdentifierOfTokenPinLaw" = some m.cls) (hS708 : s.Since vm708 kk708) (hk708 : kk708 ≤ h708.size) (Cc708 : CHr Z own_EL s.vm h0 vm708 h708) (rw_708 : Addr) (fj708_0 : Exa Z h708 rw_708 "java/lang/String") (fj708_1 : own_Str Z h708 rw_708 (own_raw cc_103 cd_104)), G (T708.setTop (mkF m 90 #[i' p0, i' p1, i' p2, i' ca_101, i' cb_102, i' cc_103, i' cd_104, i' z_106, i' z_112, i' 3, u', u', u', u', u'] [(.ref rw_708)])) := by
      intro T708 L708 h708 vm708 kk708 X708 e708 N708 K708 hZ708 hown708 hS708 hk708 Cc708 rw_708 fj708_0 fj708_1
      show G (T708.setTop (mkF m 90 #[i' p0, i' p1, i' p2, i' ca_101, i' cb_102, i' cc_103, i' cd_104, i' z_106, i' z_112, i' 3, u', u', u', u', u'] [(.ref rw_708)]))
      refine go _ _ (fun _ k => XS.astore X708.here hx rfl (hb hby at_90) rfl rfl (l' := #[i' p0, i' p1, i' p2, i' ca_101, i' cb_102, i' cc_103, i' cd_104, i' z_106, i' z_112, i' 3, r' rw_708, u', u', u', u']) rfl (XS.iload X708.here hx rfl (hb hby at_92) rfl k)) ?_
      show G (T708.setTop (mkF m 94 #[i' p0, i' p1, i' p2, i' ca_101, i' cb_102, i' cc_103, i' cd_104, i' z_106, i' z_112, i' 3, r' rw_708, u', u', u', u'] [(.int 3)]))
      refine go _ _ (fun _ k => XS.ifYes X708.here hx rfl (pc0 := 94) (pc' := 203) rfl (hb hby at_94) rfl (by decide) (by decide) (by decide) k) ?_
      show G (T708.setTop (mkF m 203 #[i' p0, i' p1, i' p2, i' ca_101, i' cb_102, i' cc_103, i' cd_104, i' z_106, i' z_112, i' 3, r' rw_708, u', u', u', u'] []))
      refine go _ _ (fun _ k => XS.iload X708.here hx rfl (hb hby at_203) rfl (XS.iconst X708.here hx rfl (hb hby at_205) k)) ?_
      show G (T708.setTop (mkF m 206 #[i' p0, i' p1, i' p2, i' ca_101, i' cb_102, i' cc_103, i' cd_104, i' z_106, i' z_112, i' 3, r' rw_708, u', u', u', u'] [(.int 1), (.int 3)]))
      refine go _ _ (fun _ k => XS.icmpYes X708.here hx rfl (pc0 := 206) (pc' := 275) rfl (hb hby at_206) rfl (by decide) (by decide) (by decide) k) ?_
      show G (T708.setTop (mkF m 275 #[i' p0, i' p1, i' p2, i' ca_101, i' cb_102, i' cc_103, i' cd_104, i' z_106, i' z_112, i' 3, r' rw_708, u', u', u', u'] []))
      refine go _ _ (fun _ k => XS.iload X708.here hx rfl (hb hby at_275) rfl (XS.iconst X708.here hx rfl (hb hby at_277) k)) ?_
      show G (T708.setTop (mkF m 278 #[i' p0, i' p1, i' p2, i' ca_101, i' cb_102, i' cc_103, i' cd_104, i' z_106, i' z_112, i' 3, r' rw_708, u', u', u', u'] [(.int 2), (.int 3)]))
      refine go _ _ (fun _ k => XS.icmpYes X708.here hx rfl (pc0 := 278) (pc' := 325) rfl (hb hby at_278) rfl (by decide) (by decide) (by decide) k) ?_
      obtain ⟨T709, h709, X709, e709, E709, A709, D709, -, st709⟩ := newO X708 hx hZ708 hown708 (ow hw 4 rfl) (ow hw 5 rfl) (ow hw 6 rfl) e708 (g := (mkF m 325 #[i' p0, i' p1, i' p2, i' ca_101, i' cb_102, i' cc_103, i' cd_104, i' z_106, i' z_112, i' 3, r' rw_708, u', u', u', u'] [])) rfl (hb hby at_325) (by decide) (by decide)
      obtain ⟨b709, g709⟩ : ∃ z, z = h708.size := ⟨_, rfl⟩
      rw [← g709] at A709 D709 st709
      refine go _ _ (st709) ?_
      show G (T709.setTop (mkF m 328 #[i' p0, i' p1, i' p2, i' ca_101, i' cb_102, i' cc_103, i' cd_104, i' z_106, i' z_112, i' 3, r' rw_708, u', u', u', u'] [(.ref b709)]))
      refine go _ _ (fun _ k => XS.dup X709.here hx rfl (hb hby at_328) rfl rfl (XS.bipush X709.here hx rfl (hb hby at_329) k)) ?_
      obtain ⟨T710, h710, k710, X710, e710, E710, A710, st710⟩ := newP X709 hx hZ708 (ow hw 7 rfl) e709 (g := (mkF m 331 #[i' p0, i' p1, i' p2, i' ca_101, i' cb_102, i' cc_103, i' cd_104, i' z_106, i' z_112, i' 3, r' rw_708, u', u', u', u'] [(.int 7), (.ref b709), (.ref b709)])) rfl (hb hby at_331) rfl (by decide) (cap := 7) (by decide) (by decide) (by decide) (by decide)
      obtain ⟨b710, g710⟩ : ∃ z, z = h709.size := ⟨_, rfl⟩
      rw [← g710] at A710 st710
      have V710 : Arv Z h710 b710 k710 .char (7 : Int32) [(.int (0 : Int32)), (.int (0 : Int32)), (.int (0 : Int32)), (.int (0 : Int32)), (.int (0 : Int32)), (.int (0 : Int32)), (.int (0 : Int32))] (.int (0 : Int32)) := (Arv.new A710 (by decide)).pad (pad_rep [] (.int (0 : Int32)) 7)
      refine go _ _ (st710) ?_
      show G (T710.setTop (mkF m 333 #[i' p0, i' p1, i' p2, i' ca_101, i' cb_102, i' cc_103, i' cd_104, i' z_106, i' z_112, i' 3, r' rw_708, u', u', u', u'] [(.ref b710), (.ref b709), (.ref b709)]))
      refine go _ _ (fun _ k => XS.dup X710.here hx rfl (hb hby at_333) rfl rfl (XS.iconst X710.here hx rfl (hb hby at_334) (XS.bipush X710.here hx rfl (hb hby at_335) k))) ?_
      obtain ⟨cl711, Ar711, q711, S711, M711, H711, U711⟩ := id V710
      obtain ⟨T711, h711, X711, e711, W711, st711⟩ := stC X710 hx hZ708 e710 Ar711 (j := (0 : Int32)) (inb_of S711 ⟨by decide, by decide⟩) (g := (mkF m 337 #[i' p0, i' p1, i' p2, i' ca_101, i' cb_102, i' cc_103, i' cd_104, i' z_106, i' z_112, i' 3, r' rw_708, u', u', u', u'] [(.int 92), (.int 0), (.ref b710), (.ref b710), (.ref b709), (.ref b709)])) rfl rfl (hb hby at_337)
      have V711 : Arv Z h711 b710 k710 .char (7 : Int32) [(.int (92 : Int32)), (.int (0 : Int32)), (.int (0 : Int32)), (.int (0 : Int32)), (.int (0 : Int32)), (.int (0 : Int32)), (.int (0 : Int32))] (.int (0 : Int32)) := Arv.set Ar711 q711 S711 M711 H711 U711 rfl W711 0 rfl (Nat.le_of_ble_eq_true rfl)
      have Z712 : h0.size ≤ h708.size := K708.1
      have Z713 : h0.size ≤ h709.size := Nat.le_trans Z712 E709.1
      have N711 := Fr.snoc X711 N708 (Nat.le_trans (Nat.le_trans Z0 Z713) (Nat.le_of_eq g710.symm))
      refine go _ _ (st711) ?_
      show G (T711.setTop (mkF m 338 #[i' p0, i' p1, i' p2, i' ca_101, i' cb_102, i' cc_103, i' cd_104, i' z_106, i' z_112, i' 3, r' rw_708, u', u', u', u'] [(.ref b710), (.ref b709), (.ref b709)]))
      refine go _ _ (fun _ k => XS.dup X711.here hx rfl (hb hby at_338) rfl rfl (XS.iconst X711.here hx rfl (hb hby at_339) (XS.iloadN X711.here hx rfl (hb hby at_340) rfl k))) ?_
      obtain ⟨cl714, Ar714, q714, S714, M714, H714, U714⟩ := id V711
      obtain ⟨T714, h714, X714, e714, W714, st714⟩ := stC X711 hx hZ708 e711 Ar714 (j := (1 : Int32)) (inb_of S714 ⟨by decide, by decide⟩) (g := (mkF m 341 #[i' p0, i' p1, i' p2, i' ca_101, i' cb_102, i' cc_103, i' cd_104, i' z_106, i' z_112, i' 3, r' rw_708, u', u', u', u'] [(.int ca_101), (.int 1), (.ref b710), (.ref b710), (.ref b709), (.ref b709)])) rfl rfl (hb hby at_341)
      have V714 : Arv Z h714 b710 k710 .char (7 : Int32) [(.int (92 : Int32)), (.int (nar .char ca_101)), (.int (0 : Int32)), (.int (0 : Int32)), (.int (0 : Int32)), (.int (0 : Int32)), (.int (0 : Int32))] (.int (0 : Int32)) := Arv.set Ar714 q714 S714 M714 H714 U714 (fits_nar_char _) W714 1 rfl (Nat.le_of_ble_eq_true rfl)
      rw [(own_narc pa101_0 pa101_1)] at V714
      have N714 := Fr.snoc X714 N711 (Nat.le_trans (Nat.le_trans Z0 Z713) (Nat.le_of_eq g710.symm))
      refine go _ _ (st714) ?_
      show G (T714.setTop (mkF m 342 #[i' p0, i' p1, i' p2, i' ca_101, i' cb_102, i' cc_103, i' cd_104, i' z_106, i' z_112, i' 3, r' rw_708, u', u', u', u'] [(.ref b710), (.ref b709), (.ref b709)]))
      refine go _ _ (fun _ k => XS.dup X714.here hx rfl (hb hby at_342) rfl rfl (XS.iconst X714.here hx rfl (hb hby at_343) (XS.bipush X714.here hx rfl (hb hby at_344) k))) ?_
      obtain ⟨cl715, Ar715, q715, S715, M715, H715, U715⟩ := id V714
      obtain ⟨T715, h715, X715, e715, W715, st715⟩ := stC X714 hx hZ708 e714 Ar715 (j := (2 : Int32)) (inb_of S715 ⟨by decide, by decide⟩) (g := (mkF m 346 #[i' p0, i' p1, i' p2, i' ca_101, i' cb_102, i' cc_103, i' cd_104, i' z_106, i' z_112, i' 3, r' rw_708, u', u', u', u'] [(.int 92), (.int 2), (.ref b710), (.ref b710), (.ref b709), (.ref b709)])) rfl rfl (hb hby at_346)
      have V715 : Arv Z h715 b710 k710 .char (7 : Int32) [(.int (92 : Int32)), (.int ca_101), (.int (92 : Int32)), (.int (0 : Int32)), (.int (0 : Int32)), (.int (0 : Int32)), (.int (0 : Int32))] (.int (0 : Int32)) := Arv.set Ar715 q715 S715 M715 H715 U715 rfl W715 2 rfl (Nat.le_of_ble_eq_true rfl)
      have N715 := Fr.snoc X715 N714 (Nat.le_trans (Nat.le_trans Z0 Z713) (Nat.le_of_eq g710.symm))
      refine go _ _ (st715) ?_
      show G (T715.setTop (mkF m 347 #[i' p0, i' p1, i' p2, i' ca_101, i' cb_102, i' cc_103, i' cd_104, i' z_106, i' z_112, i' 3, r' rw_708, u', u', u', u'] [(.ref b710), (.ref b709), (.ref b709)]))
      refine go _ _ (fun _ k => XS.dup X715.here hx rfl (hb hby at_347) rfl rfl (XS.iconst X715.here hx rfl (hb hby at_348) (XS.iload X715.here hx rfl (hb hby at_349) rfl k))) ?_
      obtain ⟨cl716, Ar716, q716, S716, M716, H716, U716⟩ := id V715
      obtain ⟨T716, h716, X716, e716, W716, st716⟩ := stC X715 hx hZ708 e715 Ar716 (j := (3 : Int32)) (inb_of S716 ⟨by decide, by decide⟩) (g := (mkF m 351 #[i' p0, i' p1, i' p2, i' ca_101, i' cb_102, i' cc_103, i' cd_104, i' z_106, i' z_112, i' 3, r' rw_708, u', u', u', u'] [(.int cb_102), (.int 3), (.ref b710), (.ref b710), (.ref b709), (.ref b709)])) rfl rfl (hb hby at_351)
      have V716 : Arv Z h716 b710 k710 .char (7 : Int32) [(.int (92 : Int32)), (.int ca_101), (.int (92 : Int32)), (.int (nar .char cb_102)), (.int (0 : Int32)), (.int (0 : Int32)), (.int (0 : Int32))] (.int (0 : Int32)) := Arv.set Ar716 q716 S716 M716 H716 U716 (fits_nar_char _) W716 3 rfl (Nat.le_of_ble_eq_true rfl)
      rw [(own_narc pa102_0 pa102_1)] at V716
      have N716 := Fr.snoc X716 N715 (Nat.le_trans (Nat.le_trans Z0 Z713) (Nat.le_of_eq g710.symm))
      refine go _ _ (st716) ?_
      show G (T716.setTop (mkF m 352 #[i' p0, i' p1, i' p2, i' ca_101, i' cb_102, i' cc_103, i' cd_104, i' z_106, i' z_112, i' 3, r' rw_708, u', u', u', u'] [(.ref b710), (.ref b709), (.ref b709)]))
      refine go _ _ (fun _ k => XS.dup X716.here hx rfl (hb hby at_352) rfl rfl (XS.iconst X716.here hx rfl (hb hby at_353) (XS.bipush X716.here hx rfl (hb hby at_354) k))) ?_
      obtain ⟨cl717, Ar717, q717, S717, M717, H717, U717⟩ := id V716
      obtain ⟨T717, h717, X717, e717, W717, st717⟩ := stC X716 hx hZ708 e716 Ar717 (j := (4 : Int32)) (inb_of S717 ⟨by decide, by decide⟩) (g := (mkF m 356 #[i' p0, i' p1, i' p2, i' ca_101, i' cb_102, i' cc_103, i' cd_104, i' z_106, i' z_112, i' 3, r' rw_708, u', u', u', u'] [(.int 124), (.int 4), (.ref b710), (.ref b710), (.ref b709), (.ref b709)])) rfl rfl (hb hby at_356)
      have V717 : Arv Z h717 b710 k710 .char (7 : Int32) [(.int (92 : Int32)), (.int ca_101), (.int (92 : Int32)), (.int cb_102), (.int (124 : Int32)), (.int (0 : Int32)), (.int (0 : Int32))] (.int (0 : Int32)) := Arv.set Ar717 q717 S717 M717 H717 U717 rfl W717 4 rfl (Nat.le_of_ble_eq_true rfl)
      have N717 := Fr.snoc X717 N716 (Nat.le_trans (Nat.le_trans Z0 Z713) (Nat.le_of_eq g710.symm))
      refine go _ _ (st717) ?_
      show G (T717.setTop (mkF m 357 #[i' p0, i' p1, i' p2, i' ca_101, i' cb_102, i' cc_103, i' cd_104, i' z_106, i' z_112, i' 3, r' rw_708, u', u', u', u'] [(.ref b710), (.ref b709), (.ref b709)]))
      refine go _ _ (fun _ k => XS.dup X717.here hx rfl (hb hby at_357) rfl rfl (XS.iconst X717.here hx rfl (hb hby at_358) (XS.iload X717.here hx rfl (hb hby at_359) rfl k))) ?_
      obtain ⟨cl718, Ar718, q718, S718, M718, H718, U718⟩ := id V717
      obtain ⟨T718, h718, X718, e718, W718, st718⟩ := stC X717 hx hZ708 e717 Ar718 (j := (5 : Int32)) (inb_of S718 ⟨by decide, by decide⟩) (g := (mkF m 361 #[i' p0, i' p1, i' p2, i' ca_101, i' cb_102, i' cc_103, i' cd_104, i' z_106, i' z_112, i' 3, r' rw_708, u', u', u', u'] [(.int cc_103), (.int 5), (.ref b710), (.ref b710), (.ref b709), (.ref b709)])) rfl rfl (hb hby at_361)
      have V718 : Arv Z h718 b710 k710 .char (7 : Int32) [(.int (92 : Int32)), (.int ca_101), (.int (92 : Int32)), (.int cb_102), (.int (124 : Int32)), (.int (nar .char cc_103)), (.int (0 : Int32))] (.int (0 : Int32)) := Arv.set Ar718 q718 S718 M718 H718 U718 (fits_nar_char _) W718 5 rfl (Nat.le_of_ble_eq_true rfl)
      rw [(own_narc pa103_0 pa103_1)] at V718
      have N718 := Fr.snoc X718 N717 (Nat.le_trans (Nat.le_trans Z0 Z713) (Nat.le_of_eq g710.symm))
      refine go _ _ (st718) ?_
      show G (T718.setTop (mkF m 362 #[i' p0, i' p1, i' p2, i' ca_101, i' cb_102, i' cc_103, i' cd_104, i' z_106, i' z_112, i' 3, r' rw_708, u', u', u', u'] [(.ref b710), (.ref b709), (.ref b709)]))
      refine go _ _ (fun _ k => XS.dup X718.here hx rfl (hb hby at_362) rfl rfl (XS.bipush X718.here hx rfl (hb hby at_363) (XS.iload X718.here hx rfl (hb hby at_365) rfl k))) ?_
      obtain ⟨cl719, Ar719, q719, S719, M719, H719, U719⟩ := id V718
      obtain ⟨T719, h719, X719, e719, W719, st719⟩ := stC X718 hx hZ708 e718 Ar719 (j := (6 : Int32)) (inb_of S719 ⟨by decide, by decide⟩) (g := (mkF m 367 #[i' p0, i' p1, i' p2, i' ca_101, i' cb_102, i' cc_103, i' cd_104, i' z_106, i' z_112, i' 3, r' rw_708, u', u', u', u'] [(.int cd_104), (.int 6), (.ref b710), (.ref b710), (.ref b709), (.ref b709)])) rfl rfl (hb hby at_367)
      have V719 : Arv Z h719 b710 k710 .char (7 : Int32) [(.int (92 : Int32)), (.int ca_101), (.int (92 : Int32)), (.int cb_102), (.int (124 : Int32)), (.int cc_103), (.int (nar .char cd_104))] (.int (0 : Int32)) := Arv.set Ar719 q719 S719 M719 H719 U719 (fits_nar_char _) W719 6 rfl (Nat.le_of_ble_eq_true rfl)
      rw [(own_narc pa104_0 pa104_1)] at V719
      have N719 := Fr.snoc X719 N718 (Nat.le_trans (Nat.le_trans Z0 Z713) (Nat.le_of_eq g710.symm))
      refine go _ _ (st719) ?_
      show G (T719.setTop (mkF m 368 #[i' p0, i' p1, i' p2, i' ca_101, i' cb_102, i' cc_103, i' cd_104, i' z_106, i' z_112, i' 3, r' rw_708, u', u', u', u'] [(.ref b710), (.ref b709), (.ref b709)]))
      have K721 : Keep h709 h710 [] := (Keep.refl h709 []).ext E710
      have K722 : Keep h709 h711 [] := K721.wr W711 (Or.inr (Nat.le_of_eq g710.symm))
      have K723 : Keep h709 h714 [] := K722.wr W714 (Or.inr (Nat.le_of_eq g710.symm))
      have K724 : Keep h709 h715 [] := K723.wr W715 (Or.inr (Nat.le_of_eq g710.symm))
      have K725 : Keep h709 h716 [] := K724.wr W716 (Or.inr (Nat.le_of_eq g710.symm))
      have K726 : Keep h709 h717 [] := K725.wr W717 (Or.inr (Nat.le_of_eq g710.symm))
      have K727 : Keep h709 h718 [] := K726.wr W718 (Or.inr (Nat.le_of_eq g710.symm))
      have K728 : Keep h709 h719 [] := K727.wr W719 (Or.inr (Nat.le_of_eq g710.symm))
      have F729 : Exa Z h719 b709 "java/lang/String" := (A709.keep K728)
      have F730 : Fld Z h719 b709 "java/lang/String" "value" "[B" .null := ((D709 (Or.inr (ow hw 33 rfl)) (ty := (.array .byte)) (by decide)).keep K728 nin0)
      have F731 : Fld Z h719 b709 "java/lang/String" "coder" "B" (.int (0 : Int32)) := ((D709 (Or.inr (ow hw 31 rfl)) (ty := .byte) (by decide)).keep K728 nin0)
      have K732 : Keep h0 h708 [] := (Keep.refl h0 []).trans K708 all0
      have K733 : Keep h0 h709 [] := K732.ext E709
      have K734 : Keep h0 h710 [] := K733.ext E710
      have K735 : Keep h0 h711 [] := K734.wr W711 (Or.inr (Nat.le_trans Z713 (Nat.le_of_eq g710.symm)))
      have K736 : Keep h0 h714 [] := K735.wr W714 (Or.inr (Nat.le_trans Z713 (Nat.le_of_eq g710.symm)))
      have K737 : Keep h0 h715 [] := K736.wr W715 (Or.inr (Nat.le_trans Z713 (Nat.le_of_eq g710.symm)))
      have K738 : Keep h0 h716 [] := K737.wr W716 (Or.inr (Nat.le_trans Z713 (Nat.le_of_eq g710.symm)))
      have K739 : Keep h0 h717 [] := K738.wr W717 (Or.inr (Nat.le_trans Z713 (Nat.le_of_eq g710.symm)))
      have K740 : Keep h0 h718 [] := K739.wr W718 (Or.inr (Nat.le_trans Z713 (Nat.le_of_eq g710.symm)))
      have K741 : Keep h0 h719 [] := K740.wr W719 (Or.inr (Nat.le_trans Z713 (Nat.le_of_eq g710.symm)))
      have F742 : Old Z n0 h719 := (Xo.keep K741 all0)
      have hp720 : ∀ c ∈ ([(92 : Int32), ca_101, (92 : Int32), cb_102, (124 : Int32), cc_103, cd_104] : List Int32), ¬ c < 0 ∧ ¬ (255 : Int32) < c := by
        intro c hc
        simp only [List.mem_cons, List.not_mem_nil, or_false] at hc
        rcases hc with rfl | rfl | rfl | rfl | rfl | rfl | rfl
        · exact (by decide)
        · exact ⟨pa101_0, pa101_1⟩
        · exact (by decide)
        · exact ⟨pa102_0, pa102_1⟩
        · exact (by decide)
        · exact ⟨pa103_0, pa103_1⟩
        · exact ⟨pa104_0, pa104_1⟩
      have Z743 : h0.size ≤ h710.size := Nat.le_trans Z713 E710.1
      have Z744 : h0.size ≤ h711.size := Nat.le_trans Z743 (Keep.of_wr W711).1
      have Z745 : h0.size ≤ h714.size := Nat.le_trans Z744 (Keep.of_wr W714).1
      have Z746 : h0.size ≤ h715.size := Nat.le_trans Z745 (Keep.of_wr W715).1
      have Z747 : h0.size ≤ h716.size := Nat.le_trans Z746 (Keep.of_wr W716).1
      have Z748 : h0.size ≤ h717.size := Nat.le_trans Z747 (Keep.of_wr W717).1
      have Z749 : h0.size ≤ h718.size := Nat.le_trans Z748 (Keep.of_wr W718).1
      have Z750 : h0.size ≤ h719.size := Nat.le_trans Z749 (Keep.of_wr W719).1
      obtain ⟨rv720, T720, L720, X720, q720, st720⟩ := own_sp X719 hx hZ708 (y := (⟨"java/lang/String", "<init>", "([C)V"⟩ : MethodName)) rfl hown708 (ow hw 8 rfl) (ow hw 9 rfl) (ow hw 10 rfl) (by decide) (StrChars.Road.backV (W := 1) hZ708 (own_hws hw) (kI := 4) (ow hw 5 rfl) (cs := ([(92 : Int32), ca_101, (92 : Int32), cb_102, (124 : Int32), cc_103, cd_104] : List Int32)) (bs := ([(92 : Int32), ca_101, (92 : Int32), cb_102, (124 : Int32), cc_103, cd_104] : List Int32).map (fun c => c.toInt8.toInt32)) (n := 7) (Nat.le_trans (Nat.le_trans Z0 Z712) (Nat.le_of_eq g709.symm)) (Nat.le_trans Z0 Z750) F729 F730 F731 V719 (O2.ext F742.2) P5 rfl rfl (by decide) (by decide) hp720 rfl (by decide) (by decide)) e719 (g := (mkF m 368 #[i' p0, i' p1, i' p2, i' ca_101, i' cb_102, i' cc_103, i' cd_104, i' z_106, i' z_112, i' 3, r' rw_708, u', u', u', u'] [(.ref b710), (.ref b709), (.ref b709)])) rfl (by rw [hml]; rfl) (a := b709) (argsL := [(.ref b710)]) (rest := [(.ref b709)]) rfl (lenOf own_pd19 rfl) rfl (by show 2 * 0 + _ ≤ _; exact Nat.le_of_eq rfl) (hb hby at_368) (by decide) (by decide)
      obtain ⟨rfl, Nq720, Kp720, Es720, Cs720, t720, kb720, u720a, u720b, u720c, Vs720, As720⟩ := q720
      have N720 := Fr.app N719 Nq720
      have Sx720 : own_Str Z T720.heap b709 ([(92 : Int32), ca_101, (92 : Int32), cb_102, (124 : Int32), cc_103, cd_104] : List Int32) := ⟨t720, kb720, Es720, Vs720, Cs720, As720, hp720, (Nat.le_of_ble_eq_true rfl)⟩
      refine go _ _ (st720) ?_
      show G (T720.setTop (mkF m 371 #[i' p0, i' p1, i' p2, i' ca_101, i' cb_102, i' cc_103, i' cd_104, i' z_106, i' z_112, i' 3, r' rw_708, u', u', u', u'] [(.ref b709)]))
      refine go _ _ (fun _ k => XS.astore X720.here hx rfl (hb hby at_371) rfl rfl (l' := #[i' p0, i' p1, i' p2, i' ca_101, i' cb_102, i' cc_103, i' cd_104, i' z_106, i' z_112, i' 3, r' rw_708, r' b709, u', u', u']) rfl k) ?_
      obtain ⟨T751, h751, X751, e751, E751, A751, D751, -, st751⟩ := newO X720 hx hZ708 hown708 (ow hw 4 rfl) (ow hw 5 rfl) (ow hw 6 rfl) rfl (g := (mkF m 373 #[i' p0, i' p1, i' p2, i' ca_101, i' cb_102, i' cc_103, i' cd_104, i' z_106, i' z_112, i' 3, r' rw_708, r' b709, u', u', u'] [])) rfl (hb hby at_373) (by decide) (by decide)
      obtain ⟨b751, g751⟩ : ∃ z, z = T720.heap.size := ⟨_, rfl⟩
      rw [← g751] at A751 D751 st751
      refine go _ _ (st751) ?_
      show G (T751.setTop (mkF m 376 #[i' p0, i' p1, i' p2, i' ca_101, i' cb_102, i' cc_103, i' cd_104, i' z_106, i' z_112, i' 3, r' rw_708, r' b709, u', u', u'] [(.ref b751)]))
      refine go _ _ (fun _ k => XS.dup X751.here hx rfl (hb hby at_376) rfl rfl (XS.iconst X751.here hx rfl (hb hby at_377) k)) ?_
      obtain ⟨T752, h752, k752, X752, e752, E752, A752, st752⟩ := newP X751 hx hZ708 (ow hw 7 rfl) e751 (g := (mkF m 378 #[i' p0, i' p1, i' p2, i' ca_101, i' cb_102, i' cc_103, i' cd_104, i' z_106, i' z_112, i' 3, r' rw_708, r' b709, u', u', u'] [(.int 2), (.ref b751), (.ref b751)])) rfl (hb hby at_378) rfl (by decide) (cap := 2) (by decide) (by decide) (by decide) (by decide)
      obtain ⟨b752, g752⟩ : ∃ z, z = h751.size := ⟨_, rfl⟩
      rw [← g752] at A752 st752
      have V752 : Arv Z h752 b752 k752 .char (2 : Int32) [(.int (0 : Int32)), (.int (0 : Int32))] (.int (0 : Int32)) := (Arv.new A752 (by decide)).pad (pad_rep [] (.int (0 : Int32)) 2)
      refine go _ _ (st752) ?_
      show G (T752.setTop (mkF m 380 #[i' p0, i' p1, i' p2, i' ca_101, i' cb_102, i' cc_103, i' cd_104, i' z_106, i' z_112, i' 3, r' rw_708, r' b709, u', u', u'] [(.ref b752), (.ref b751), (.ref b751)]))
      refine go _ _ (fun _ k => XS.dup X752.here hx rfl (hb hby at_380) rfl rfl (XS.iconst X752.here hx rfl (hb hby at_381) (XS.iloadN X752.here hx rfl (hb hby at_382) rfl k))) ?_
      obtain ⟨cl753, Ar753, q753, S753, M753, H753, U753⟩ := id V752
      obtain ⟨T753, h753, X753, e753, W753, st753⟩ := stC X752 hx hZ708 e752 Ar753 (j := (0 : Int32)) (inb_of S753 ⟨by decide, by decide⟩) (g := (mkF m 383 #[i' p0, i' p1, i' p2, i' ca_101, i' cb_102, i' cc_103, i' cd_104, i' z_106, i' z_112, i' 3, r' rw_708, r' b709, u', u', u'] [(.int ca_101), (.int 0), (.ref b752), (.ref b752), (.ref b751), (.ref b751)])) rfl rfl (hb hby at_383)
      have V753 : Arv Z h753 b752 k752 .char (2 : Int32) [(.int (nar .char ca_101)), (.int (0 : Int32))] (.int (0 : Int32)) := Arv.set Ar753 q753 S753 M753 H753 U753 (fits_nar_char _) W753 0 rfl (Nat.le_of_ble_eq_true rfl)
      rw [(own_narc pa101_0 pa101_1)] at V753
      have Z754 : h0.size ≤ T720.heap.size := Nat.le_trans Z750 Kp720.1
      have Z755 : h0.size ≤ h751.size := Nat.le_trans Z754 E751.1
      have N753 := Fr.snoc X753 N720 (Nat.le_trans (Nat.le_trans Z0 Z755) (Nat.le_of_eq g752.symm))
      refine go _ _ (st753) ?_
      show G (T753.setTop (mkF m 384 #[i' p0, i' p1, i' p2, i' ca_101, i' cb_102, i' cc_103, i' cd_104, i' z_106, i' z_112, i' 3, r' rw_708, r' b709, u', u', u'] [(.ref b752), (.ref b751), (.ref b751)]))
      refine go _ _ (fun _ k => XS.dup X753.here hx rfl (hb hby at_384) rfl rfl (XS.iconst X753.here hx rfl (hb hby at_385) (XS.iload X753.here hx rfl (hb hby at_386) rfl k))) ?_
      obtain ⟨cl756, Ar756, q756, S756, M756, H756, U756⟩ := id V753
      obtain ⟨T756, h756, X756, e756, W756, st756⟩ := stC X753 hx hZ708 e753 Ar756 (j := (1 : Int32)) (inb_of S756 ⟨by decide, by decide⟩) (g := (mkF m 388 #[i' p0, i' p1, i' p2, i' ca_101, i' cb_102, i' cc_103, i' cd_104, i' z_106, i' z_112, i' 3, r' rw_708, r' b709, u', u', u'] [(.int cb_102), (.int 1), (.ref b752), (.ref b752), (.ref b751), (.ref b751)])) rfl rfl (hb hby at_388)
      have V756 : Arv Z h756 b752 k752 .char (2 : Int32) [(.int ca_101), (.int (nar .char cb_102))] (.int (0 : Int32)) := Arv.set Ar756 q756 S756 M756 H756 U756 (fits_nar_char _) W756 1 rfl (Nat.le_of_ble_eq_true rfl)
      rw [(own_narc pa102_0 pa102_1)] at V756
      have N756 := Fr.snoc X756 N753 (Nat.le_trans (Nat.le_trans Z0 Z755) (Nat.le_of_eq g752.symm))
      refine go _ _ (st756) ?_
      show G (T756.setTop (mkF m 389 #[i' p0, i' p1, i' p2, i' ca_101, i' cb_102, i' cc_103, i' cd_104, i' z_106, i' z_112, i' 3, r' rw_708, r' b709, u', u', u'] [(.ref b752), (.ref b751), (.ref b751)]))
      have K758 : Keep h751 h752 [] := (Keep.refl h751 []).ext E752
      have K759 : Keep h751 h753 [] := K758.wr W753 (Or.inr (Nat.le_of_eq g752.symm))
      have K760 : Keep h751 h756 [] := K759.wr W756 (Or.inr (Nat.le_of_eq g752.symm))
      have F761 : Exa Z h756 b751 "java/lang/String" := (A751.keep K760)
      have F762 : Fld Z h756 b751 "java/lang/String" "value" "[B" .null := ((D751 (Or.inr (ow hw 33 rfl)) (ty := (.array .byte)) (by decide)).keep K760 nin0)
      have F763 : Fld Z h756 b751 "java/lang/String" "coder" "B" (.int (0 : Int32)) := ((D751 (Or.inr (ow hw 31 rfl)) (ty := .byte) (by decide)).keep K760 nin0)
      have Z764 : h719.size ≤ T720.heap.size := Kp720.1
      have Z765 : h719.size ≤ h751.size := Nat.le_trans Z764 E751.1
      have K766 : Keep h719 T720.heap [b709] := (Keep.refl h719 [b709]).trans Kp720 (allS (Or.inl (List.mem_of_getElem? (i := 0) rfl)) all0)
      have K767 : Keep h719 h751 [b709] := K766.ext E751
      have K768 : Keep h719 h752 [b709] := K767.ext E752
      have K769 : Keep h719 h753 [b709] := K768.wr W753 (Or.inr (Nat.le_trans Z765 (Nat.le_of_eq g752.symm)))
      have K770 : Keep h719 h756 [b709] := K769.wr W756 (Or.inr (Nat.le_trans Z765 (Nat.le_of_eq g752.symm)))
      have F771 : Old Z n0 h756 := (F742.keep K770 (allS (Nat.le_trans (Nat.le_trans Z0 Z712) (Nat.le_of_eq g709.symm)) all0))
      have hp757 : ∀ c ∈ ([ca_101, cb_102] : List Int32), ¬ c < 0 ∧ ¬ (255 : Int32) < c := by
        intro c hc
        simp only [List.mem_cons, List.not_mem_nil, or_false] at hc
        rcases hc with rfl | rfl
        · exact ⟨pa101_0, pa101_1⟩
        · exact ⟨pa102_0, pa102_1⟩
      have Z772 : h0.size ≤ h752.size := Nat.le_trans Z755 E752.1
      have Z773 : h0.size ≤ h753.size := Nat.le_trans Z772 (Keep.of_wr W753).1
      have Z774 : h0.size ≤ h756.size := Nat.le_trans Z773 (Keep.of_wr W756).1
      obtain ⟨rv757, T757, L757, X757, q757, st757⟩ := own_sp X756 hx hZ708 (y := (⟨"java/lang/String", "<init>", "([C)V"⟩ : MethodName)) rfl hown708 (ow hw 8 rfl) (ow hw 9 rfl) (ow hw 10 rfl) (by decide) (StrChars.Road.backV (W := 1) hZ708 (own_hws hw) (kI := 4) (ow hw 5 rfl) (cs := ([ca_101, cb_102] : List Int32)) (bs := ([ca_101, cb_102] : List Int32).map (fun c => c.toInt8.toInt32)) (n := 2) (Nat.le_trans (Nat.le_trans Z0 Z754) (Nat.le_of_eq g751.symm)) (Nat.le_trans Z0 Z774) F761 F762 F763 V756 (O2.ext F771.2) P5 rfl rfl (by decide) (by decide) hp757 rfl (by decide) (by decide)) e756 (g := (mkF m 389 #[i' p0, i' p1, i' p2, i' ca_101, i' cb_102, i' cc_103, i' cd_104, i' z_106, i' z_112, i' 3, r' rw_708, r' b709, u', u', u'] [(.ref b752), (.ref b751), (.ref b751)])) rfl (by rw [hml]; rfl) (a := b751) (argsL := [(.ref b752)]) (rest := [(.ref b751)]) rfl (lenOf own_pd19 rfl) rfl (by show 2 * 0 + _ ≤ _; exact Nat.le_of_eq rfl) (hb hby at_389) (by decide) (by decide)
      obtain ⟨rfl, Nq757, Kp757, Es757, Cs757, t757, kb757, u757a, u757b, u757c, Vs757, As757⟩ := q757
      have N757 := Fr.app N756 Nq757
      have Sx757 : own_Str Z T757.heap b751 ([ca_101, cb_102] : List Int32) := ⟨t757, kb757, Es757, Vs757, Cs757, As757, hp757, (Nat.le_of_ble_eq_true rfl)⟩
      refine go _ _ (st757) ?_
      show G (T757.setTop (mkF m 392 #[i' p0, i' p1, i' p2, i' ca_101, i' cb_102, i' cc_103, i' cd_104, i' z_106, i' z_112, i' 3, r' rw_708, r' b709, u', u', u'] [(.ref b751)]))
      refine go _ _ (fun _ k => XS.astore X757.here hx rfl (hb hby at_392) rfl rfl (l' := #[i' p0, i' p1, i' p2, i' ca_101, i' cb_102, i' cc_103, i' cd_104, i' z_106, i' z_112, i' 3, r' rw_708, r' b709, r' b751, u', u']) rfl (XS.aload X757.here hx rfl (hb hby at_394) rfl rfl (XS.astore X757.here hx rfl (hb hby at_396) rfl rfl (l' := #[i' p0, i' p1, i' p2, i' ca_101, i' cb_102, i' cc_103, i' cd_104, i' z_106, i' z_112, i' 3, r' rw_708, r' b709, r' b751, r' rw_708, u']) rfl (XS.aload X757.here hx rfl (hb hby at_398) rfl rfl k)))) ?_
      have Z776 : h708.size ≤ h709.size := E709.1
      have Z777 : h708.size ≤ h710.size := Nat.le_trans Z776 E710.1
      have Z778 : h708.size ≤ h711.size := Nat.le_trans Z777 (Keep.of_wr W711).1
      have Z779 : h708.size ≤ h714.size := Nat.le_trans Z778 (Keep.of_wr W714).1
      have Z780 : h708.size ≤ h715.size := Nat.le_trans Z779 (Keep.of_wr W715).1
      have Z781 : h708.size ≤ h716.size := Nat.le_trans Z780 (Keep.of_wr W716).1
      have Z782 : h708.size ≤ h717.size := Nat.le_trans Z781 (Keep.of_wr W717).1
      have Z783 : h708.size ≤ h718.size := Nat.le_trans Z782 (Keep.of_wr W718).1
      have Z784 : h708.size ≤ h719.size := Nat.le_trans Z783 (Keep.of_wr W719).1
      have Z785 : h708.size ≤ T720.heap.size := Nat.le_trans Z784 Kp720.1
      have Z786 : h708.size ≤ h751.size := Nat.le_trans Z785 E751.1
      have K787 : Keep h708 h709 [] := (Keep.refl h708 []).ext E709
      have K788 : Keep h708 h710 [] := K787.ext E710
      have K789 : Keep h708 h711 [] := K788.wr W711 (Or.inr (Nat.le_trans Z776 (Nat.le_of_eq g710.symm)))
      have K790 : Keep h708 h714 [] := K789.wr W714 (Or.inr (Nat.le_trans Z776 (Nat.le_of_eq g710.symm)))
      have K791 : Keep h708 h715 [] := K790.wr W715 (Or.inr (Nat.le_trans Z776 (Nat.le_of_eq g710.symm)))
      have K792 : Keep h708 h716 [] := K791.wr W716 (Or.inr (Nat.le_trans Z776 (Nat.le_of_eq g710.symm)))
      have K793 : Keep h708 h717 [] := K792.wr W717 (Or.inr (Nat.le_trans Z776 (Nat.le_of_eq g710.symm)))
      have K794 : Keep h708 h718 [] := K793.wr W718 (Or.inr (Nat.le_trans Z776 (Nat.le_of_eq g710.symm)))
      have K795 : Keep h708 h719 [] := K794.wr W719 (Or.inr (Nat.le_trans Z776 (Nat.le_of_eq g710.symm)))
      have K796 : Keep h708 T720.heap [] := K795.trans Kp720 (allS (Or.inr (Nat.le_of_eq g709.symm)) all0)
      have K797 : Keep h708 h751 [] := K796.ext E751
      have K798 : Keep h708 h752 [] := K797.ext E752
      have K799 : Keep h708 h753 [] := K798.wr W753 (Or.inr (Nat.le_trans Z786 (Nat.le_of_eq g752.symm)))
      have K800 : Keep h708 h756 [] := K799.wr W756 (Or.inr (Nat.le_trans Z786 (Nat.le_of_eq g752.symm)))
      have K801 : Keep h708 T757.heap [] := K800.trans Kp757 (allS (Or.inr (Nat.le_trans Z785 (Nat.le_of_eq g751.symm))) all0)
      have C802 : CHr Z own_EL s.vm h0 vm708 T757.heap := Cc708.trans (CHr.keep K801 sf0 Cc708.1)
      have Z803 : h708.size ≤ h752.size := Nat.le_trans Z786 E752.1
      have Z804 : h708.size ≤ h753.size := Nat.le_trans Z803 (Keep.of_wr W753).1
      have Z805 : h708.size ≤ h756.size := Nat.le_trans Z804 (Keep.of_wr W756).1
      have Z806 : h708.size ≤ T757.heap.size := Nat.le_trans Z805 Kp757.1
      obtain ⟨b775, T775, h775, k775, X775, e775, E775, hS775, hk775, hZ775, hown775, C775, -, st775⟩ := ldcOH X757 hx hZ708 hown708 (ow hw 48 rfl) (own_sat hw) rfl hS708 (Nat.le_trans hk708 Z806) (own_hEL hw) C802.1 (g := (mkF m 400 #[i' p0, i' p1, i' p2, i' ca_101, i' cb_102, i' cc_103, i' cd_104, i' z_106, i' z_112, i' 3, r' rw_708, r' b709, r' b751, r' rw_708, u'] [(.ref b709)])) rfl (hb hby at_400) (n := 40) (by decide) (by decide) (by decide) (by decide)
      refine go _ _ (st775) ?_
      have K808 : Keep h756 T757.heap [b751] := (Keep.refl h756 [b751]).trans Kp757 (allS (Or.inl (List.mem_of_getElem? (i := 0) rfl)) all0)
      have K809 : Keep h756 h775 [b751] := K808.ext E775
      have F810 : Old Z n0 h775 := (F771.keep K809 (allS (Nat.le_trans (Nat.le_trans Z0 Z754) (Nat.le_of_eq g751.symm)) all0))
      have Z811 : T720.heap.size ≤ h751.size := E751.1
      have K812 : Keep T720.heap h751 [] := (Keep.refl T720.heap []).ext E751
      have K813 : Keep T720.heap h752 [] := K812.ext E752
      have K814 : Keep T720.heap h753 [] := K813.wr W753 (Or.inr (Nat.le_trans Z811 (Nat.le_of_eq g752.symm)))
      have K815 : Keep T720.heap h756 [] := K814.wr W756 (Or.inr (Nat.le_trans Z811 (Nat.le_of_eq g752.symm)))
      have K816 : Keep T720.heap T757.heap [] := K815.trans Kp757 (allS (Or.inr (Nat.le_of_eq g751.symm)) all0)
      have K817 : Keep T720.heap h775 [] := K816.ext E775
      have F818 : Exa Z h775 b709 "java/lang/String" := (Es720.keep K817)
      have F819 : own_Str Z h775 b709 ([(92 : Int32), ca_101, (92 : Int32), cb_102, (124 : Int32), cc_103, cd_104] : List Int32) := (own_Str_keep Sx720 K817)
      have Z820 : h0.size ≤ T757.heap.size := Nat.le_trans Z774 Kp757.1
      have Z821 : h0.size ≤ h775.size := Nat.le_trans Z820 E775.1
      obtain ⟨rv807, T807, L807, X807, q807, st807⟩ := own_st X775 hx hZ775 (y := (⟨"com/example/kindred/kindred/Identifier", "ofToken", "(Ljava/lang/String;Ljava/lang/String;)Lcom/example/kindred/kindred/Identifier;"⟩ : MethodName)) hown775 (ow hw 51 rfl) (ow hw 52 rfl) (ow hw 53 rfl) (ow hw 54 rfl) (by decide) (own_bkN (W := 0) (rmT3 l Z a0 hw z0 O2 P5 fm0 O4 R4 [] b709 (.ref b775) ca_101 cb_102 cc_103 cd_104 h775 n0 (Nat.le_trans Z0 Z821) rfl F810 F818 F819 pa101_0 pa101_1 pa102_0 pa102_1 pa103_0 pa103_1 pa104_0 pa104_1) hZ775 (ow hw 54 rfl) (ow hw 53 rfl) (by decide) (by decide)) e775 (g := (mkF m 402 #[i' p0, i' p1, i' p2, i' ca_101, i' cb_102, i' cc_103, i' cd_104, i' z_106, i' z_112, i' 3, r' rw_708, r' b709, r' b751, r' rw_708, u'] [(.ref b775), (.ref b709)])) rfl (by rw [hml]; rfl) (argsL := [(.ref b709), (.ref b775)]) (rest := []) rfl (lenOf own_pd20 rfl) rfl (by show 2 * 0 + _ ≤ _; exact Nat.le_of_eq rfl) (hb hby at_402) (by decide) (by decide)
      obtain ⟨Nq807, Kp807, q807⟩ := q807
      have N807 := Fr.app N757 Nq807
      rcases q807 with ⟨b_822, s1_823, s2_824, rfl, p825, f826, f827, f828, f829, f830, f831, f832⟩ | ⟨b_833, s1_834, s2_835, rfl, p836, f837, f838, f839, f840, f841, f842, f843⟩
      · refine go _ _ (st807) ?_
        show G (T807.setTop (mkF m 405 #[i' p0, i' p1, i' p2, i' ca_101, i' cb_102, i' cc_103, i' cd_104, i' z_106, i' z_112, i' 3, r' rw_708, r' b709, r' b751, r' rw_708, u'] [(.ref b_822)]))
        refine go _ _ (fun _ k => XS.astore X807.here hx rfl (hb hby at_405) rfl rfl (l' := #[i' p0, i' p1, i' p2, i' ca_101, i' cb_102, i' cc_103, i' cd_104, i' z_106, i' z_112, i' 3, r' rw_708, r' b709, r' b751, r' rw_708, r' b_822]) rfl (XS.aload X807.here hx rfl (hb hby at_407) rfl rfl k)) ?_
        have Z845 : h0.size ≤ T807.heap.size := Nat.le_trans Z821 Kp807.1
        obtain ⟨rv844, T844, L844, X844, q844, st844⟩ := own_vi X807 hx hZ775 (y := (⟨"com/example/kindred/kindred/Identifier", "system", "()Ljava/lang/String;"⟩ : MethodName)) (z := (⟨"com/example/kindred/kindred/Identifier", "system", "()Ljava/lang/String;"⟩ : MethodName)) hown775 (ow hw 189 rfl) (ow hw 190 rfl) (ow hw 192 rfl) (ow hw 191 rfl) (Or.inl rfl) (by decide) (own_bkN (W := 0) (rm37 l Z a0 hw z0 O2 P5 fm0 O4 R4 [] b_822 s1_823 T807.heap n0 (Nat.le_trans Z0 Z845) f827) hZ775 (ow hw 193 rfl) (ow hw 53 rfl) (by decide) (by decide)) rfl f826 (g := (mkF m 409 #[i' p0, i' p1, i' p2, i' ca_101, i' cb_102, i' cc_103, i' cd_104, i' z_106, i' z_112, i' 3, r' rw_708, r' b709, r' b751, r' rw_708, r' b_822] [(.ref b_822)])) rfl (by rw [hml]; rfl) (argsL := []) (rest := []) rfl (lenOf own_pd16 rfl) rfl (by show 2 * 0 + _ ≤ _; exact Nat.le_of_eq rfl) (hb hby at_409) (by decide) (by decide)
        obtain ⟨Nq844, e844, rfl⟩ := q844
        have N844 := Fr.app N807 Nq844
        refine go _ _ (st844) ?_
        show G (T844.setTop (mkF m 412 #[i' p0, i' p1, i' p2, i' ca_101, i' cb_102, i' cc_103, i' cd_104, i' z_106, i' z_112, i' 3, r' rw_708, r' b709, r' b751, r' rw_708, r' b_822] [(.ref s1_823)]))
        refine go _ _ (fun _ k => XS.aload X844.here hx rfl (hb hby at_412) rfl rfl k) ?_
        obtain ⟨tx846, kbx846, Esx846, Vsx846, Csx846, Asx846, cdx846, bdx846, lnx846⟩ := own_Str_W f830
        have K847 : Keep T757.heap h775 [] := (Keep.refl T757.heap []).ext E775
        have K848 : Keep T757.heap T807.heap [] := K847.trans Kp807 all0
        have F849 : own_Str Z T807.heap b751 ([ca_101, cb_102] : List Int32) := (own_Str_keep Sx757 K848)
        obtain ⟨ty846, kby846, Esy846, Vsy846, Csy846, Asy846, cdy846, bdy846, lny846⟩ := own_Str_W F849
        have K850 : Keep h775 T807.heap [] := (Keep.refl h775 []).trans Kp807 all0
        have F851 : Old Z n0 T807.heap := (F810.keep K850 all0)
        obtain ⟨rv846, T846, L846, X846, q846, st846⟩ := own_vi X844 hx hZ775 (Q := fun v h L => ((v = some (.int 1) ∧ ((([] : List Int32) ++ [ca_101]) ++ [cb_102]) = ([ca_101, cb_102] : List Int32)) ∨ (v = some (.int 0) ∧ ¬ ((([] : List Int32) ++ [ca_101]) ++ [cb_102]) = ([ca_101, cb_102] : List Int32))) ∧ L = [] ∧ h = T807.heap) (kc := 0) (ks := 0) (y := (⟨"java/lang/String", "equals", "(Ljava/lang/Object;)Z"⟩ : MethodName)) (z := (⟨"java/lang/String", "equals", "(Ljava/lang/Object;)Z"⟩ : MethodName)) hown775 (ow hw 194 rfl) (ow hw 195 rfl) (ow hw 197 rfl) (ow hw 196 rfl) (Or.inl rfl) (by decide) (StrChars.Road.eqW (s := s.setVm T775.vm) (W := 0) hZ775 (own_heq hw) (kI := 4) (ow hw 5 rfl) Esx846 Vsx846 Csx846 Asx846 cdx846 bdx846 lnx846 Esy846 Vsy846 Csy846 Asy846 cdy846 bdy846 lny846 (O2.ext F851.2) P5 (by decide) (by decide)) e844 f829 (g := (mkF m 414 #[i' p0, i' p1, i' p2, i' ca_101, i' cb_102, i' cc_103, i' cd_104, i' z_106, i' z_112, i' 3, r' rw_708, r' b709, r' b751, r' rw_708, r' b_822] [(.ref b751), (.ref s1_823)])) rfl (by rw [hml]; rfl) (argsL := [(.ref b751)]) (rest := []) rfl (lenOf own_pd21 rfl) rfl (by show 2 * 0 + _ ≤ _; exact Nat.le_of_eq rfl) (hb hby at_414) (by decide) (by decide)
        obtain ⟨q846, rfl, e846⟩ := q846
        have N846 := Fr.app N844 (Fr.nil n0)
        rcases q846 with ⟨rfl, pe846⟩ | ⟨rfl, pe846⟩
        · refine go _ _ (st846) ?_
          show G (T846.setTop (mkF m 417 #[i' p0, i' p1, i' p2, i' ca_101, i' cb_102, i' cc_103, i' cd_104, i' z_106, i' z_112, i' 3, r' rw_708, r' b709, r' b751, r' rw_708, r' b_822] [(.int 1)]))
          refine go _ _ (fun _ k => XS.ifNo X846.here hx rfl (hb hby at_417) rfl (by decide) k) ?_
          show G (T846.setTop (mkF m 420 #[i' p0, i' p1, i' p2, i' ca_101, i' cb_102, i' cc_103, i' cd_104, i' z_106, i' z_112, i' 3, r' rw_708, r' b709, r' b751, r' rw_708, r' b_822] []))
          refine go _ _ (fun _ k => XS.aload X846.here hx rfl (hb hby at_420) rfl rfl k) ?_
          obtain ⟨rv852, T852, L852, X852, q852, st852⟩ := own_vi X846 hx hZ775 (y := (⟨"com/example/kindred/kindred/Identifier", "value", "()Ljava/lang/String;"⟩ : MethodName)) (z := (⟨"com/example/kindred/kindred/Identifier", "value", "()Ljava/lang/String;"⟩ : MethodName)) hown775 (ow hw 202 rfl) (ow hw 203 rfl) (ow hw 205 rfl) (ow hw 204 rfl) (Or.inl rfl) (by decide) (own_bkN (W := 0) (rm40 l Z a0 hw z0 O2 P5 fm0 O4 R4 [] b_822 s2_824 T807.heap n0 (Nat.le_trans Z0 Z845) f828) hZ775 (ow hw 206 rfl) (ow hw 53 rfl) (by decide) (by decide)) e846 f826 (g := (mkF m 422 #[i' p0, i' p1, i' p2, i' ca_101, i' cb_102, i' cc_103, i' cd_104, i' z_106, i' z_112, i' 3, r' rw_708, r' b709, r' b751, r' rw_708, r' b_822] [(.ref b_822)])) rfl (by rw [hml]; rfl) (argsL := []) (rest := []) rfl (lenOf own_pd16 rfl) rfl (by show 2 * 0 + _ ≤ _; exact Nat.le_of_eq rfl) (hb hby at_422) (by decide) (by decide)
          obtain ⟨Nq852, e852, rfl⟩ := q852
          have N852 := Fr.app N846 Nq852
          refine go _ _ (st852) ?_
          show G (T852.setTop (mkF m 425 #[i' p0, i' p1, i' p2, i' ca_101, i' cb_102, i' cc_103, i' cd_104, i' z_106, i' z_112, i' 3, r' rw_708, r' b709, r' b751, r' rw_708, r' b_822] [(.ref s2_824)]))
          refine go _ _ (fun _ k => XS.aload X852.here hx rfl (hb hby at_425) rfl rfl k) ?_
          obtain ⟨tx853, kbx853, Esx853, Vsx853, Csx853, Asx853, cdx853, bdx853, lnx853⟩ := own_Str_W f832
          have K854 : Keep h708 h775 [] := K801.ext E775
          have K855 : Keep h708 T807.heap [] := K854.trans Kp807 all0
          have F856 : own_Str Z T807.heap rw_708 (own_raw cc_103 cd_104) := (own_Str_keep fj708_1 K855)
          obtain ⟨ty853, kby853, Esy853, Vsy853, Csy853, Asy853, cdy853, bdy853, lny853⟩ := own_Str_W F856
          obtain ⟨rv853, T853, L853, X853, q853, st853⟩ := own_vi X852 hx hZ775 (Q := fun v h L => ((v = some (.int 1) ∧ (([] : List Int32) ++ [cd_104]) = (own_raw cc_103 cd_104)) ∨ (v = some (.int 0) ∧ ¬ (([] : List Int32) ++ [cd_104]) = (own_raw cc_103 cd_104))) ∧ L = [] ∧ h = T807.heap) (kc := 0) (ks := 0) (y := (⟨"java/lang/String", "equals", "(Ljava/lang/Object;)Z"⟩ : MethodName)) (z := (⟨"java/lang/String", "equals", "(Ljava/lang/Object;)Z"⟩ : MethodName)) hown775 (ow hw 194 rfl) (ow hw 195 rfl) (ow hw 197 rfl) (ow hw 196 rfl) (Or.inl rfl) (by decide) (StrChars.Road.eqW (s := s.setVm T775.vm) (W := 0) hZ775 (own_heq hw) (kI := 4) (ow hw 5 rfl) Esx853 Vsx853 Csx853 Asx853 cdx853 bdx853 lnx853 Esy853 Vsy853 Csy853 Asy853 cdy853 bdy853 lny853 (O2.ext F851.2) P5 (by decide) (by decide)) e852 f831 (g := (mkF m 427 #[i' p0, i' p1, i' p2, i' ca_101, i' cb_102, i' cc_103, i' cd_104, i' z_106, i' z_112, i' 3, r' rw_708, r' b709, r' b751, r' rw_708, r' b_822] [(.ref rw_708), (.ref s2_824)])) rfl (by rw [hml]; rfl) (argsL := [(.ref rw_708)]) (rest := []) rfl (lenOf own_pd21 rfl) rfl (by show 2 * 0 + _ ≤ _; exact Nat.le_of_eq rfl) (hb hby at_427) (by decide) (by decide)
          obtain ⟨q853, rfl, e853⟩ := q853
          have N853 := Fr.app N852 (Fr.nil n0)
          rcases q853 with ⟨rfl, pe853⟩ | ⟨rfl, pe853⟩
          · refine go _ _ (st853) ?_
            show G (T853.setTop (mkF m 430 #[i' p0, i' p1, i' p2, i' ca_101, i' cb_102, i' cc_103, i' cd_104, i' z_106, i' z_112, i' 3, r' rw_708, r' b709, r' b751, r' rw_708, r' b_822] [(.int 1)]))
            refine go _ _ (fun _ k => XS.ifNo X853.here hx rfl (hb hby at_430) rfl (by decide) k) ?_
            show G (T853.setTop (mkF m 433 #[i' p0, i' p1, i' p2, i' ca_101, i' cb_102, i' cc_103, i' cd_104, i' z_106, i' z_112, i' 3, r' rw_708, r' b709, r' b751, r' rw_708, r' b_822] []))
            refine go _ _ (fun _ k => XS.iconst X853.here hx rfl (hb hby at_433) k) ?_
            show G (T853.setTop (mkF m 434 #[i' p0, i' p1, i' p2, i' ca_101, i' cb_102, i' cc_103, i' cd_104, i' z_106, i' z_112, i' 3, r' rw_708, r' b709, r' b751, r' rw_708, r' b_822] [(.int 1)]))
            refine go _ _ (fun _ k => XS.goto X853.here hx rfl (pc0 := 434) (pc' := 438) rfl (hb hby at_434) (by decide) (by decide) k) ?_
            show G (T853.setTop (mkF m 438 #[i' p0, i' p1, i' p2, i' ca_101, i' cb_102, i' cc_103, i' cd_104, i' z_106, i' z_112, i' 3, r' rw_708, r' b709, r' b751, r' rw_708, r' b_822] [(.int 1)]))
            have K857 : Keep h0 T720.heap [] := K741.trans Kp720 (allS (Or.inr (Nat.le_trans Z712 (Nat.le_of_eq g709.symm))) all0)
            have K858 : Keep h0 h751 [] := K857.ext E751
            have K859 : Keep h0 h752 [] := K858.ext E752
            have K860 : Keep h0 h753 [] := K859.wr W753 (Or.inr (Nat.le_trans Z755 (Nat.le_of_eq g752.symm)))
            have K861 : Keep h0 h756 [] := K860.wr W756 (Or.inr (Nat.le_trans Z755 (Nat.le_of_eq g752.symm)))
            have K862 : Keep h0 T757.heap [] := K861.trans Kp757 (allS (Or.inr (Nat.le_trans Z754 (Nat.le_of_eq g751.symm))) all0)
            have K863 : Keep h0 h775 [] := K862.ext E775
            have K864 : Keep h0 T807.heap [] := K863.trans Kp807 all0
            have C865 : CHr Z own_EL s.vm h0 T775.vm h775 := C802.trans C775
            have C866 : CHr Z own_EL s.vm h0 T775.vm T807.heap := C865.trans (CHr.keep K850 sf0 C865.1)
            have Z867 : h775.size ≤ T807.heap.size := Kp807.1
            refine fin T853 _ _ _ (some (.int (1 : Int32))) T775.vm _ X853 hZ775 hS775 (by rw [e853]; exact (Nat.le_trans hk775 Z867)) (by rw [e853]; exact C866) (fun q => nomatch q) (by decide) (by decide) (by rw [e853]; exact ⟨N853, K864, rfl⟩) _ (own_retN X853 hx (z := (1 : Int32)) (t := .boolean) hret (by simp) (hb hby at_438))
          · exact absurd (by rw [own_raw1 p825]; rfl) pe853
        · exact absurd rfl pe846
      · refine go _ _ (st807) ?_
        show G (T807.setTop (mkF m 405 #[i' p0, i' p1, i' p2, i' ca_101, i' cb_102, i' cc_103, i' cd_104, i' z_106, i' z_112, i' 3, r' rw_708, r' b709, r' b751, r' rw_708, u'] [(.ref b_833)]))
        refine go _ _ (fun _ k => XS.astore X807.here hx rfl (hb hby at_405) rfl rfl (l' := #[i' p0, i' p1, i' p2, i' ca_101, i' cb_102, i' cc_103, i' cd_104, i' z_106, i' z_112, i' 3, r' rw_708, r' b709, r' b751, r' rw_708, r' b_833]) rfl (XS.aload X807.here hx rfl (hb hby at_407) rfl rfl k)) ?_
        have Z869 : h0.size ≤ T807.heap.size := Nat.le_trans Z821 Kp807.1
        obtain ⟨rv868, T868, L868, X868, q868, st868⟩ := own_vi X807 hx hZ775 (y := (⟨"com/example/kindred/kindred/Identifier", "system", "()Ljava/lang/String;"⟩ : MethodName)) (z := (⟨"com/example/kindred/kindred/Identifier", "system", "()Ljava/lang/String;"⟩ : MethodName)) hown775 (ow hw 189 rfl) (ow hw 190 rfl) (ow hw 192 rfl) (ow hw 191 rfl) (Or.inl rfl) (by decide) (own_bkN (W := 0) (rm37 l Z a0 hw z0 O2 P5 fm0 O4 R4 [] b_833 s1_834 T807.heap n0 (Nat.le_trans Z0 Z869) f838) hZ775 (ow hw 193 rfl) (ow hw 53 rfl) (by decide) (by decide)) rfl f837 (g := (mkF m 409 #[i' p0, i' p1, i' p2, i' ca_101, i' cb_102, i' cc_103, i' cd_104, i' z_106, i' z_112, i' 3, r' rw_708, r' b709, r' b751, r' rw_708, r' b_833] [(.ref b_833)])) rfl (by rw [hml]; rfl) (argsL := []) (rest := []) rfl (lenOf own_pd16 rfl) rfl (by show 2 * 0 + _ ≤ _; exact Nat.le_of_eq rfl) (hb hby at_409) (by decide) (by decide)
        obtain ⟨Nq868, e868, rfl⟩ := q868
        have N868 := Fr.app N807 Nq868
        refine go _ _ (st868) ?_
        show G (T868.setTop (mkF m 412 #[i' p0, i' p1, i' p2, i' ca_101, i' cb_102, i' cc_103, i' cd_104, i' z_106, i' z_112, i' 3, r' rw_708, r' b709, r' b751, r' rw_708, r' b_833] [(.ref s1_834)]))
        refine go _ _ (fun _ k => XS.aload X868.here hx rfl (hb hby at_412) rfl rfl k) ?_
        obtain ⟨tx870, kbx870, Esx870, Vsx870, Csx870, Asx870, cdx870, bdx870, lnx870⟩ := own_Str_W f841
        have K871 : Keep T757.heap h775 [] := (Keep.refl T757.heap []).ext E775
        have K872 : Keep T757.heap T807.heap [] := K871.trans Kp807 all0
        have F873 : own_Str Z T807.heap b751 ([ca_101, cb_102] : List Int32) := (own_Str_keep Sx757 K872)
        obtain ⟨ty870, kby870, Esy870, Vsy870, Csy870, Asy870, cdy870, bdy870, lny870⟩ := own_Str_W F873
        have K874 : Keep h775 T807.heap [] := (Keep.refl h775 []).trans Kp807 all0
        have F875 : Old Z n0 T807.heap := (F810.keep K874 all0)
        obtain ⟨rv870, T870, L870, X870, q870, st870⟩ := own_vi X868 hx hZ775 (Q := fun v h L => ((v = some (.int 1) ∧ ((([] : List Int32) ++ [ca_101]) ++ [cb_102]) = ([ca_101, cb_102] : List Int32)) ∨ (v = some (.int 0) ∧ ¬ ((([] : List Int32) ++ [ca_101]) ++ [cb_102]) = ([ca_101, cb_102] : List Int32))) ∧ L = [] ∧ h = T807.heap) (kc := 0) (ks := 0) (y := (⟨"java/lang/String", "equals", "(Ljava/lang/Object;)Z"⟩ : MethodName)) (z := (⟨"java/lang/String", "equals", "(Ljava/lang/Object;)Z"⟩ : MethodName)) hown775 (ow hw 194 rfl) (ow hw 195 rfl) (ow hw 197 rfl) (ow hw 196 rfl) (Or.inl rfl) (by decide) (StrChars.Road.eqW (s := s.setVm T775.vm) (W := 0) hZ775 (own_heq hw) (kI := 4) (ow hw 5 rfl) Esx870 Vsx870 Csx870 Asx870 cdx870 bdx870 lnx870 Esy870 Vsy870 Csy870 Asy870 cdy870 bdy870 lny870 (O2.ext F875.2) P5 (by decide) (by decide)) e868 f840 (g := (mkF m 414 #[i' p0, i' p1, i' p2, i' ca_101, i' cb_102, i' cc_103, i' cd_104, i' z_106, i' z_112, i' 3, r' rw_708, r' b709, r' b751, r' rw_708, r' b_833] [(.ref b751), (.ref s1_834)])) rfl (by rw [hml]; rfl) (argsL := [(.ref b751)]) (rest := []) rfl (lenOf own_pd21 rfl) rfl (by show 2 * 0 + _ ≤ _; exact Nat.le_of_eq rfl) (hb hby at_414) (by decide) (by decide)
        obtain ⟨q870, rfl, e870⟩ := q870
        have N870 := Fr.app N868 (Fr.nil n0)
        rcases q870 with ⟨rfl, pe870⟩ | ⟨rfl, pe870⟩
        · refine go _ _ (st870) ?_
          show G (T870.setTop (mkF m 417 #[i' p0, i' p1, i' p2, i' ca_101, i' cb_102, i' cc_103, i' cd_104, i' z_106, i' z_112, i' 3, r' rw_708, r' b709, r' b751, r' rw_708, r' b_833] [(.int 1)]))
          refine go _ _ (fun _ k => XS.ifNo X870.here hx rfl (hb hby at_417) rfl (by decide) k) ?_
          show G (T870.setTop (mkF m 420 #[i' p0, i' p1, i' p2, i' ca_101, i' cb_102, i' cc_103, i' cd_104, i' z_106, i' z_112, i' 3, r' rw_708, r' b709, r' b751, r' rw_708, r' b_833] []))
          refine go _ _ (fun _ k => XS.aload X870.here hx rfl (hb hby at_420) rfl rfl k) ?_
          obtain ⟨rv876, T876, L876, X876, q876, st876⟩ := own_vi X870 hx hZ775 (y := (⟨"com/example/kindred/kindred/Identifier", "value", "()Ljava/lang/String;"⟩ : MethodName)) (z := (⟨"com/example/kindred/kindred/Identifier", "value", "()Ljava/lang/String;"⟩ : MethodName)) hown775 (ow hw 202 rfl) (ow hw 203 rfl) (ow hw 205 rfl) (ow hw 204 rfl) (Or.inl rfl) (by decide) (own_bkN (W := 0) (rm40 l Z a0 hw z0 O2 P5 fm0 O4 R4 [] b_833 s2_835 T807.heap n0 (Nat.le_trans Z0 Z869) f839) hZ775 (ow hw 206 rfl) (ow hw 53 rfl) (by decide) (by decide)) e870 f837 (g := (mkF m 422 #[i' p0, i' p1, i' p2, i' ca_101, i' cb_102, i' cc_103, i' cd_104, i' z_106, i' z_112, i' 3, r' rw_708, r' b709, r' b751, r' rw_708, r' b_833] [(.ref b_833)])) rfl (by rw [hml]; rfl) (argsL := []) (rest := []) rfl (lenOf own_pd16 rfl) rfl (by show 2 * 0 + _ ≤ _; exact Nat.le_of_eq rfl) (hb hby at_422) (by decide) (by decide)
          obtain ⟨Nq876, e876, rfl⟩ := q876
          have N876 := Fr.app N870 Nq876
          refine go _ _ (st876) ?_
          show G (T876.setTop (mkF m 425 #[i' p0, i' p1, i' p2, i' ca_101, i' cb_102, i' cc_103, i' cd_104, i' z_106, i' z_112, i' 3, r' rw_708, r' b709, r' b751, r' rw_708, r' b_833] [(.ref s2_835)]))
          refine go _ _ (fun _ k => XS.aload X876.here hx rfl (hb hby at_425) rfl rfl k) ?_
          obtain ⟨tx877, kbx877, Esx877, Vsx877, Csx877, Asx877, cdx877, bdx877, lnx877⟩ := own_Str_W f843
          have K878 : Keep h708 h775 [] := K801.ext E775
          have K879 : Keep h708 T807.heap [] := K878.trans Kp807 all0
          have F880 : own_Str Z T807.heap rw_708 (own_raw cc_103 cd_104) := (own_Str_keep fj708_1 K879)
          obtain ⟨ty877, kby877, Esy877, Vsy877, Csy877, Asy877, cdy877, bdy877, lny877⟩ := own_Str_W F880
          obtain ⟨rv877, T877, L877, X877, q877, st877⟩ := own_vi X876 hx hZ775 (Q := fun v h L => ((v = some (.int 1) ∧ ((([] : List Int32) ++ [cc_103]) ++ [cd_104]) = (own_raw cc_103 cd_104)) ∨ (v = some (.int 0) ∧ ¬ ((([] : List Int32) ++ [cc_103]) ++ [cd_104]) = (own_raw cc_103 cd_104))) ∧ L = [] ∧ h = T807.heap) (kc := 0) (ks := 0) (y := (⟨"java/lang/String", "equals", "(Ljava/lang/Object;)Z"⟩ : MethodName)) (z := (⟨"java/lang/String", "equals", "(Ljava/lang/Object;)Z"⟩ : MethodName)) hown775 (ow hw 194 rfl) (ow hw 195 rfl) (ow hw 197 rfl) (ow hw 196 rfl) (Or.inl rfl) (by decide) (StrChars.Road.eqW (s := s.setVm T775.vm) (W := 0) hZ775 (own_heq hw) (kI := 4) (ow hw 5 rfl) Esx877 Vsx877 Csx877 Asx877 cdx877 bdx877 lnx877 Esy877 Vsy877 Csy877 Asy877 cdy877 bdy877 lny877 (O2.ext F875.2) P5 (by decide) (by decide)) e876 f842 (g := (mkF m 427 #[i' p0, i' p1, i' p2, i' ca_101, i' cb_102, i' cc_103, i' cd_104, i' z_106, i' z_112, i' 3, r' rw_708, r' b709, r' b751, r' rw_708, r' b_833] [(.ref rw_708), (.ref s2_835)])) rfl (by rw [hml]; rfl) (argsL := [(.ref rw_708)]) (rest := []) rfl (lenOf own_pd21 rfl) rfl (by show 2 * 0 + _ ≤ _; exact Nat.le_of_eq rfl) (hb hby at_427) (by decide) (by decide)
          obtain ⟨q877, rfl, e877⟩ := q877
          have N877 := Fr.app N876 (Fr.nil n0)
          rcases q877 with ⟨rfl, pe877⟩ | ⟨rfl, pe877⟩
          · refine go _ _ (st877) ?_
            show G (T877.setTop (mkF m 430 #[i' p0, i' p1, i' p2, i' ca_101, i' cb_102, i' cc_103, i' cd_104, i' z_106, i' z_112, i' 3, r' rw_708, r' b709, r' b751, r' rw_708, r' b_833] [(.int 1)]))
            refine go _ _ (fun _ k => XS.ifNo X877.here hx rfl (hb hby at_430) rfl (by decide) k) ?_
            show G (T877.setTop (mkF m 433 #[i' p0, i' p1, i' p2, i' ca_101, i' cb_102, i' cc_103, i' cd_104, i' z_106, i' z_112, i' 3, r' rw_708, r' b709, r' b751, r' rw_708, r' b_833] []))
            refine go _ _ (fun _ k => XS.iconst X877.here hx rfl (hb hby at_433) k) ?_
            show G (T877.setTop (mkF m 434 #[i' p0, i' p1, i' p2, i' ca_101, i' cb_102, i' cc_103, i' cd_104, i' z_106, i' z_112, i' 3, r' rw_708, r' b709, r' b751, r' rw_708, r' b_833] [(.int 1)]))
            refine go _ _ (fun _ k => XS.goto X877.here hx rfl (pc0 := 434) (pc' := 438) rfl (hb hby at_434) (by decide) (by decide) k) ?_
            show G (T877.setTop (mkF m 438 #[i' p0, i' p1, i' p2, i' ca_101, i' cb_102, i' cc_103, i' cd_104, i' z_106, i' z_112, i' 3, r' rw_708, r' b709, r' b751, r' rw_708, r' b_833] [(.int 1)]))
            have K881 : Keep h0 T720.heap [] := K741.trans Kp720 (allS (Or.inr (Nat.le_trans Z712 (Nat.le_of_eq g709.symm))) all0)
            have K882 : Keep h0 h751 [] := K881.ext E751
            have K883 : Keep h0 h752 [] := K882.ext E752
            have K884 : Keep h0 h753 [] := K883.wr W753 (Or.inr (Nat.le_trans Z755 (Nat.le_of_eq g752.symm)))
            have K885 : Keep h0 h756 [] := K884.wr W756 (Or.inr (Nat.le_trans Z755 (Nat.le_of_eq g752.symm)))
            have K886 : Keep h0 T757.heap [] := K885.trans Kp757 (allS (Or.inr (Nat.le_trans Z754 (Nat.le_of_eq g751.symm))) all0)
            have K887 : Keep h0 h775 [] := K886.ext E775
            have K888 : Keep h0 T807.heap [] := K887.trans Kp807 all0
            have C889 : CHr Z own_EL s.vm h0 T775.vm h775 := C802.trans C775
            have C890 : CHr Z own_EL s.vm h0 T775.vm T807.heap := C889.trans (CHr.keep K874 sf0 C889.1)
            have Z891 : h775.size ≤ T807.heap.size := Kp807.1
            refine fin T877 _ _ _ (some (.int (1 : Int32))) T775.vm _ X877 hZ775 hS775 (by rw [e877]; exact (Nat.le_trans hk775 Z891)) (by rw [e877]; exact C890) (fun q => nomatch q) (by decide) (by decide) (by rw [e877]; exact ⟨N877, K888, rfl⟩) _ (own_retN X877 hx (z := (1 : Int32)) (t := .boolean) hret (by simp) (hb hby at_438))
          · exact absurd (by rw [own_raw2 p836]; rfl) pe877
        · exact absurd rfl pe870
    by_cases hc59_892 : cc_103 = (92 : Int32)
    · refine go _ _ (fun _ k => XS.icmpNo X111.here hx rfl (hb hby at_59) rfl (teq hc59_892).2 k) ?_
      show G (T111.setTop (mkF m 62 #[i' p0, i' p1, i' p2, i' ca_101, i' cb_102, i' cc_103, i' cd_104, i' z_106, i' z_112, i' 3, u', u', u', u', u'] []))
      refine go _ _ (fun _ k => XS.iload X111.here hx rfl (hb hby at_62) rfl k) ?_
      obtain ⟨rv893, T893, L893, X893, q893, st893⟩ := own_st X111 hx hZ (y := (⟨"java/lang/String", "valueOf", "(C)Ljava/lang/String;"⟩ : MethodName)) hown (ow hw 34 rfl) (ow hw 35 rfl) (ow hw 6 rfl) (ow hw 36 rfl) (by decide) (own_bkN (W := 0) (rm7 l Z a0 hw z0 O2 P5 fm0 O4 R4 [] cd_104 h0 n0 Z0 Xo pa104_0 pa104_1) hZ (ow hw 36 rfl) (ow hw 6 rfl) (by decide) (by decide)) e111 (g := (mkF m 64 #[i' p0, i' p1, i' p2, i' ca_101, i' cb_102, i' cc_103, i' cd_104, i' z_106, i' z_112, i' 3, u', u', u', u', u'] [(.int cd_104)])) rfl (by rw [hml]; rfl) (argsL := [(.int cd_104)]) (rest := []) rfl (lenOf own_pd22 rfl) rfl (by show 2 * 0 + _ ≤ _; exact Nat.le_of_eq rfl) (hb hby at_64) (by decide) (by decide)
      obtain ⟨Nq893, Kp893, ⟨b_894, rfl, z895, f896, f897⟩⟩ := q893
      have N893 := Fr.app N111 Nq893
      refine go _ _ (st893) ?_
      show G (T893.setTop (mkF m 67 #[i' p0, i' p1, i' p2, i' ca_101, i' cb_102, i' cc_103, i' cd_104, i' z_106, i' z_112, i' 3, u', u', u', u', u'] [(.ref b_894)]))
      refine go _ _ (fun _ k => XS.goto X893.here hx rfl (pc0 := 67) (pc' := 90) rfl (hb hby at_67) (by decide) (by decide) k) ?_
      show G (T893.setTop (mkF m 90 #[i' p0, i' p1, i' p2, i' ca_101, i' cb_102, i' cc_103, i' cd_104, i' z_106, i' z_112, i' 3, u', u', u', u', u'] [(.ref b_894)]))
      have Sr898 : own_Str Z T893.heap b_894 (own_raw cc_103 cd_104) := by rw [own_raw1 hc59_892]; exact f897
      have K899 : Keep h0 T893.heap [] := (Keep.refl h0 []).trans Kp893 all0
      have Z900 : h0.size ≤ T893.heap.size := Kp893.1
      have C901 : CHr Z own_EL s.vm h0 s.vm T893.heap := C0.trans (CHr.keep K899 sf0 C0.1)
      exact J708 _ _ _ _ _ (X893.more (by decide) (by decide)) rfl N893 K899 hZ hown hS Z900 C901 b_894 f896 Sr898
    · refine go _ _ (fun _ k => XS.icmpYes X111.here hx rfl (pc0 := 59) (pc' := 70) rfl (hb hby at_59) rfl (feq hc59_892).2 (by decide) (by decide) k) ?_
      obtain ⟨T902, h902, X902, e902, E902, A902, D902, -, st902⟩ := newO X111 hx hZ hown (ow hw 4 rfl) (ow hw 5 rfl) (ow hw 6 rfl) e111 (g := (mkF m 70 #[i' p0, i' p1, i' p2, i' ca_101, i' cb_102, i' cc_103, i' cd_104, i' z_106, i' z_112, i' 3, u', u', u', u', u'] [])) rfl (hb hby at_70) (by decide) (by decide)
      obtain ⟨b902, g902⟩ : ∃ z, z = h0.size := ⟨_, rfl⟩
      rw [← g902] at A902 D902 st902
      refine go _ _ (st902) ?_
      show G (T902.setTop (mkF m 73 #[i' p0, i' p1, i' p2, i' ca_101, i' cb_102, i' cc_103, i' cd_104, i' z_106, i' z_112, i' 3, u', u', u', u', u'] [(.ref b902)]))
      refine go _ _ (fun _ k => XS.dup X902.here hx rfl (hb hby at_73) rfl rfl (XS.iconst X902.here hx rfl (hb hby at_74) k)) ?_
      obtain ⟨T903, h903, k903, X903, e903, E903, A903, st903⟩ := newP X902 hx hZ (ow hw 7 rfl) e902 (g := (mkF m 75 #[i' p0, i' p1, i' p2, i' ca_101, i' cb_102, i' cc_103, i' cd_104, i' z_106, i' z_112, i' 3, u', u', u', u', u'] [(.int 2), (.ref b902), (.ref b902)])) rfl (hb hby at_75) rfl (by decide) (cap := 2) (by decide) (by decide) (by decide) (by decide)
      obtain ⟨b903, g903⟩ : ∃ z, z = h902.size := ⟨_, rfl⟩
      rw [← g903] at A903 st903
      have V903 : Arv Z h903 b903 k903 .char (2 : Int32) [(.int (0 : Int32)), (.int (0 : Int32))] (.int (0 : Int32)) := (Arv.new A903 (by decide)).pad (pad_rep [] (.int (0 : Int32)) 2)
      refine go _ _ (st903) ?_
      show G (T903.setTop (mkF m 77 #[i' p0, i' p1, i' p2, i' ca_101, i' cb_102, i' cc_103, i' cd_104, i' z_106, i' z_112, i' 3, u', u', u', u', u'] [(.ref b903), (.ref b902), (.ref b902)]))
      refine go _ _ (fun _ k => XS.dup X903.here hx rfl (hb hby at_77) rfl rfl (XS.iconst X903.here hx rfl (hb hby at_78) (XS.iload X903.here hx rfl (hb hby at_79) rfl k))) ?_
      obtain ⟨cl904, Ar904, q904, S904, M904, H904, U904⟩ := id V903
      obtain ⟨T904, h904, X904, e904, W904, st904⟩ := stC X903 hx hZ e903 Ar904 (j := (0 : Int32)) (inb_of S904 ⟨by decide, by decide⟩) (g := (mkF m 81 #[i' p0, i' p1, i' p2, i' ca_101, i' cb_102, i' cc_103, i' cd_104, i' z_106, i' z_112, i' 3, u', u', u', u', u'] [(.int cc_103), (.int 0), (.ref b903), (.ref b903), (.ref b902), (.ref b902)])) rfl rfl (hb hby at_81)
      have V904 : Arv Z h904 b903 k903 .char (2 : Int32) [(.int (nar .char cc_103)), (.int (0 : Int32))] (.int (0 : Int32)) := Arv.set Ar904 q904 S904 M904 H904 U904 (fits_nar_char _) W904 0 rfl (Nat.le_of_ble_eq_true rfl)
      rw [(own_narc pa103_0 pa103_1)] at V904
      have Z905 : h0.size ≤ h902.size := E902.1
      have N904 := Fr.snoc X904 N111 (Nat.le_trans (Nat.le_trans Z0 Z905) (Nat.le_of_eq g903.symm))
      refine go _ _ (st904) ?_
      show G (T904.setTop (mkF m 82 #[i' p0, i' p1, i' p2, i' ca_101, i' cb_102, i' cc_103, i' cd_104, i' z_106, i' z_112, i' 3, u', u', u', u', u'] [(.ref b903), (.ref b902), (.ref b902)]))
      refine go _ _ (fun _ k => XS.dup X904.here hx rfl (hb hby at_82) rfl rfl (XS.iconst X904.here hx rfl (hb hby at_83) (XS.iload X904.here hx rfl (hb hby at_84) rfl k))) ?_
      obtain ⟨cl906, Ar906, q906, S906, M906, H906, U906⟩ := id V904
      obtain ⟨T906, h906, X906, e906, W906, st906⟩ := stC X904 hx hZ e904 Ar906 (j := (1 : Int32)) (inb_of S906 ⟨by decide, by decide⟩) (g := (mkF m 86 #[i' p0, i' p1, i' p2, i' ca_101, i' cb_102, i' cc_103, i' cd_104, i' z_106, i' z_112, i' 3, u', u', u', u', u'] [(.int cd_104), (.int 1), (.ref b903), (.ref b903), (.ref b902), (.ref b902)])) rfl rfl (hb hby at_86)
      have V906 : Arv Z h906 b903 k903 .char (2 : Int32) [(.int cc_103), (.int (nar .char cd_104))] (.int (0 : Int32)) := Arv.set Ar906 q906 S906 M906 H906 U906 (fits_nar_char _) W906 1 rfl (Nat.le_of_ble_eq_true rfl)
      rw [(own_narc pa104_0 pa104_1)] at V906
      have N906 := Fr.snoc X906 N904 (Nat.le_trans (Nat.le_trans Z0 Z905) (Nat.le_of_eq g903.symm))
      refine go _ _ (st906) ?_
      show G (T906.setTop (mkF m 87 #[i' p0, i' p1, i' p2, i' ca_101, i' cb_102, i' cc_103, i' cd_104, i' z_106, i' z_112, i' 3, u', u', u', u', u'] [(.ref b903), (.ref b902), (.ref b902)]))
      have K908 : Keep h902 h903 [] := (Keep.refl h902 []).ext E903
      have K909 : Keep h902 h904 [] := K908.wr W904 (Or.inr (Nat.le_of_eq g903.symm))
      have K910 : Keep h902 h906 [] := K909.wr W906 (Or.inr (Nat.le_of_eq g903.symm))
      have F911 : Exa Z h906 b902 "java/lang/String" := (A902.keep K910)
      have F912 : Fld Z h906 b902 "java/lang/String" "value" "[B" .null := ((D902 (Or.inr (ow hw 33 rfl)) (ty := (.array .byte)) (by decide)).keep K910 nin0)
      have F913 : Fld Z h906 b902 "java/lang/String" "coder" "B" (.int (0 : Int32)) := ((D902 (Or.inr (ow hw 31 rfl)) (ty := .byte) (by decide)).keep K910 nin0)
      have K914 : Keep h0 h902 [] := (Keep.refl h0 []).ext E902
      have K915 : Keep h0 h903 [] := K914.ext E903
      have K916 : Keep h0 h904 [] := K915.wr W904 (Or.inr (Nat.le_trans Z905 (Nat.le_of_eq g903.symm)))
      have K917 : Keep h0 h906 [] := K916.wr W906 (Or.inr (Nat.le_trans Z905 (Nat.le_of_eq g903.symm)))
      have F918 : Old Z n0 h906 := (Xo.keep K917 all0)
      have hp907 : ∀ c ∈ ([cc_103, cd_104] : List Int32), ¬ c < 0 ∧ ¬ (255 : Int32) < c := by
        intro c hc
        simp only [List.mem_cons, List.not_mem_nil, or_false] at hc
        rcases hc with rfl | rfl
        · exact ⟨pa103_0, pa103_1⟩
        · exact ⟨pa104_0, pa104_1⟩
      have Z919 : h0.size ≤ h903.size := Nat.le_trans Z905 E903.1
      have Z920 : h0.size ≤ h904.size := Nat.le_trans Z919 (Keep.of_wr W904).1
      have Z921 : h0.size ≤ h906.size := Nat.le_trans Z920 (Keep.of_wr W906).1
      obtain ⟨rv907, T907, L907, X907, q907, st907⟩ := own_sp X906 hx hZ (y := (⟨"java/lang/String", "<init>", "([C)V"⟩ : MethodName)) rfl hown (ow hw 8 rfl) (ow hw 9 rfl) (ow hw 10 rfl) (by decide) (StrChars.Road.backV (W := 1) hZ (own_hws hw) (kI := 4) (ow hw 5 rfl) (cs := ([cc_103, cd_104] : List Int32)) (bs := ([cc_103, cd_104] : List Int32).map (fun c => c.toInt8.toInt32)) (n := 2) (Nat.le_trans Z0 (Nat.le_of_eq g902.symm)) (Nat.le_trans Z0 Z921) F911 F912 F913 V906 (O2.ext F918.2) P5 rfl rfl (by decide) (by decide) hp907 rfl (by decide) (by decide)) e906 (g := (mkF m 87 #[i' p0, i' p1, i' p2, i' ca_101, i' cb_102, i' cc_103, i' cd_104, i' z_106, i' z_112, i' 3, u', u', u', u', u'] [(.ref b903), (.ref b902), (.ref b902)])) rfl (by rw [hml]; rfl) (a := b902) (argsL := [(.ref b903)]) (rest := [(.ref b902)]) rfl (lenOf own_pd19 rfl) rfl (by show 2 * 0 + _ ≤ _; exact Nat.le_of_eq rfl) (hb hby at_87) (by decide) (by decide)
      obtain ⟨rfl, Nq907, Kp907, Es907, Cs907, t907, kb907, u907a, u907b, u907c, Vs907, As907⟩ := q907
      have N907 := Fr.app N906 Nq907
      have Sx907 : own_Str Z T907.heap b902 ([cc_103, cd_104] : List Int32) := ⟨t907, kb907, Es907, Vs907, Cs907, As907, hp907, (Nat.le_of_ble_eq_true rfl)⟩
      refine go _ _ (st907) ?_
      show G (T907.setTop (mkF m 90 #[i' p0, i' p1, i' p2, i' ca_101, i' cb_102, i' cc_103, i' cd_104, i' z_106, i' z_112, i' 3, u', u', u', u', u'] [(.ref b902)]))
      have Sr922 : own_Str Z T907.heap b902 (own_raw cc_103 cd_104) := by rw [own_raw2 hc59_892]; exact Sx907
      have K923 : Keep h0 T907.heap [] := K917.trans Kp907 (allS (Or.inr (Nat.le_of_eq g902.symm)) all0)
      have Z924 : h0.size ≤ T907.heap.size := Nat.le_trans Z921 Kp907.1
      have C925 : CHr Z own_EL s.vm h0 s.vm T907.heap := C0.trans (CHr.keep K923 sf0 C0.1)
      exact J708 _ _ _ _ _ (X907.more (by decide) (by decide)) rfl N907 K923 hZ hown hS Z924 C925 b902 Es907 Sr922
set_option maxRecDepth 65536 in
set_option maxHeartbeats 40000000 in
theorem comes_1 {Post : Tables → Env → Array Value → State → Outcome → State → Prop} (hpost : ∀ tb e args s v u, (limb_1_1.after args s (.returned v) u = true ∧ limb_1_2.after args s (.returned v) u = true ∧ True) → ReturnedEndW s (.returned v) u (Jvm.fieldLocs frame_1_writes args s ++ Jvm.arrayLocs frame_1_arrays args s ++ Jvm.staticLocs frame_1_statics s) 56 1344 → Post tb e args s (.returned v) u) :
    ArmFor flags0 classFile x code maxLocals ret World_1 tables_1 room_1 Calls_1 rest_1 Pre_1 Post := by
  intro l hfl _ _ p e ha hc hk s m args below hf hA hF happ hP
  obtain ⟨hcalls, hrest, hpre⟩ := hP
  obtain ⟨-, -, -, hnamed, -, -, -, hat⟩ := (Spec.applies_iff hf).mp happ
  obtain ⟨hg, hn⟩ := and_e (Cond.before_iff.mp (show (Jvm.Cond.and given_1 narrow_1).before args s = true from hpre))
  obtain ⟨h1, g0⟩ := and_e hg
  obtain ⟨ga0, g1⟩ := and_e g0
  obtain ⟨ga1, g2⟩ := and_e g1
  have ga2 := g2
  obtain ⟨w0, w1, w2, rfl⟩ : ∃ w0 w1 w2 : Value, args = #[w0, w1, w2] := by
    have hs : args.size = 3 := by simpa [Cond.value, given_1] using h1
    obtain ⟨L⟩ := args
    match L, hs with
    | [w0, w1, w2], _ => exact ⟨w0, w1, w2, rfl⟩
  have hw := fun d (hd : d ∈ tables_1) => atoms_spec (ws := Jvm.Cond.code x code maxLocals ret :: tables_1) hat d (List.mem_cons_of_mem _ hd)
  obtain ⟨hsets, hown0⟩ := atoms_of _ (rest_1_c_eq ▸ (show rest_1_c.before _ s = true from hrest))
  have hfit : Fit s := fun {y c} hc i hi => by
    obtain ⟨ha, rfl⟩ := Array.getElem?_eq_some_iff.mp hc
    have q := List.all_eq_true.mp ((Array.all_eq_true_iff_forall_mem.mp hF) _ (Array.getElem_mem ha)) i (List.mem_range.mpr hi)
    simpa [Array.getElem?_eq_getElem hi] using q
  obtain ⟨i0, ea0⟩ := is_v ga0
  obtain rfl : w0 = (.int i0) := Option.some.inj ea0
  obtain ⟨i1, ea1⟩ := is_v ga1
  obtain rfl : w1 = (.int i1) := Option.some.inj ea1
  obtain ⟨i2, ea2⟩ := is_v ga2
  obtain rfl : w2 = (.int i2) := Option.some.inj ea2
  have n3 := not_v (Cond.before_iff.mp (hsets _ (List.mem_of_getElem? (i := 2) rfl)))
  obtain ⟨iz, ez⟩ := is_v (Cond.before_iff.mp (hsets _ (List.mem_of_getElem? (i := 1) rfl)))
  have S8 : Sta s s.heap "java/lang/String" "COMPACT_STRINGS" "Z" (.int iz) := Sta.start ez (Or.inl (hsets _ (List.mem_of_getElem? (i := 0) rfl)))
  have c13 : ¬ (iz = (0 : Int32)) := gotF (Cond.eq_ints ez (Term.int_eval (0))) n3
  obtain ⟨v9, e10, r11⟩ := isR_v (Cond.before_iff.mp (hsets _ (List.mem_of_getElem? (i := 8) rfl)))
  have S12 : Sta s s.heap "jdk/internal/util/Preconditions" "SIOOBE_FORMATTER" "Ljava/util/function/BiFunction;" v9 := Sta.start e10 (Or.inl (hsets _ (List.mem_of_getElem? (i := 7) rfl)))
  have CHv0 : CHv s own_EL s.vm s.heap := fun p hp => nomatch hp
  obtain ⟨n, o, h1, h2, h3, v, L, rfl, ⟨N, -, q⟩, -, hq⟩ := rmLaw l s _ hw iz S8 c13 v9 S12 r11 tables_1 i0 i1 i2 s.heap s.heap.size (Nat.le_refl _) (Old.start s) p e ha hc hk s m _ below hf ((Spec.applies_iff_loose hf).mp happ).1 ⟨rfl, State.Warmed39.refl s, rfl, CHv0⟩ trivial
  subst q
  refine ⟨n, _, h1, h2, h3, hpost _ _ _ _ _ _ ⟨Cond.after_iff.mpr rfl, Cond.after_iff.mpr (eq_i res_at (Term.int_eval (1)) rfl), trivial⟩ ⟨hq.1, hq.2.1, hq.2.2.1, (hq.2.2.2.sift fun y hy => Or.inr (N y hy)).mono (by decide) (by decide)⟩⟩
theorem main_1_1 : Claimed_1_1 := comes_1 fun _ _ _ _ _ _ h hF => ⟨h.1, hF⟩
theorem main_1_2 : Claimed_1_2 := comes_1 fun _ _ _ _ _ _ h hF => ⟨h.2.1, hF⟩
end Jvm.Pilot.@@N@@
namespace Jvm.Pilot.@@N@@
open Jvm Jvm.ClassFile Sem Op Lib Jvm.Free Jvm.Stand Jvm.Pilot.@@N@@.Jvm.D
/-! MADE BY PROGRAM (witnessworld.py) out of the Statement's table words and the real class files: 27 classes; the members and pool entries that the words name. The judged class is class 1, her method 1. -/
namespace start1
open Jvm.ClassFile
def u (s : String) : CpInfo := .utf8 (stringToUtf16 s)
/-- a pool by its gaps: so many unusable entries, then the entry; so many at the end -/
def gap : Nat → List CpInfo → List CpInfo
  | 0, r => r
  | n + 1, r => .unusable :: gap n r
def poolList (es : List (Nat × CpInfo)) (last : Nat) : List CpInfo := es.foldr (fun e r => gap e.1 (e.2 :: r)) (gap last [])
def pool (es : List (Nat × CpInfo)) (last : Nat) : Array CpInfo := ⟨poolList es last⟩
def fileOf (pool : Array CpInfo) (this : Nat) (attrs : Array Attribute := #[]) (ms : Array MethodInfo := #[]) (fl : Nat := 33) (sup : Nat := 0) (ifs : Array Nat := #[]) (fds : Array FieldInfo := #[]) : ClassFile where
  minorVersion := 0
  majorVersion := 65
  constantPool := pool
  accessFlags := fl
  thisClass := this
  superClass := sup
  interfaces := ifs
  fields := fds
  methods := ms
  attributes := attrs
def plain (name : String) (sup : Option ClassId) : Class where
  name := name
  kind := .ordinary
  loader := none
  accessFlags := 33
  super := sup
  interfaces := #[]
  cf := none
  fields := #[]
  methods := #[]
  instanceTypes := #[]
  staticTypes := #[]
  resolved := #[]
  callSites := []
  init := .initialized
  statics := none
  mirror := none

def pool0 : Array CpInfo := pool [(5, u "<init>"), (0, u "()V"), (1, .class_ 10), (1, u "java/lang/Object")] 113

def k0c0 : Code := { maxStack := 0, maxLocals := 1, code := object_method_1_code, exceptionTable := #[], attributes := #[] }
def k0m0 : Method := { name := "<init>", desc := "()V", sig := { parameters := [], returnType := none }, accessFlags := 1, code := some k0c0 }
/-- java/lang/Object -/
def k0 : Class := { plain "java/lang/Object" none with
  accessFlags := 33
  interfaces := #[]
  cf := some (fileOf pool0 8 #[] #[{ accessFlags := 1, nameIndex := 5, descriptorIndex := 6, attributes := #[] }] 33 0 #[] #[])
  fields := #[]
  methods := #[k0m0]
  instanceTypes := #[]
  staticTypes := #[]
  resolved := Array.replicate 124 none
  statics := none }

def pool1 : Array CpInfo := pool [(2, .class_ 4), (1, u "java/lang/Object"), (0, u "<init>"), (0, u "()V"), (0, .methodref 8 9), (0, .class_ 10), (0, .nameAndType 11 12), (0, u "com/example/kindred/kindred/IdentifierOfTokenPinLaw"), (0, u "ord"), (0, u "(C)C"), (0, .methodref 14 15), (0, .class_ 16), (0, .nameAndType 17 18), (0, u "java/lang/String"), (0, u "valueOf"), (0, u "(C)Ljava/lang/String;"), (0, .methodref 14 20), (0, .nameAndType 5 21), (0, u "([C)V"), (0, .string 23), (0, u "identifier"), (0, .methodref 25 26), (0, .class_ 27), (0, .nameAndType 28 29), (0, u "com/example/kindred/kindred/Identifier"), (0, u "ofToken"), (0, u "(Ljava/lang/String;Ljava/lang/String;)Lcom/example/kindred/kindred/Identifier;"), (0, .methodref 25 31), (0, .nameAndType 32 33), (0, u "system"), (0, u "()Ljava/lang/String;"), (0, .methodref 14 35), (0, .nameAndType 36 37), (0, u "equals"), (0, u "(Ljava/lang/Object;)Z"), (0, .methodref 25 39), (0, .nameAndType 40 33), (0, u "value"), (2, u "law"), (0, u "(III)Z")] 6

def k1m0 : Method := { name := "<init>", desc := "()V", sig := { parameters := [], returnType := none }, accessFlags := 1, code := none }
def k1c1 : Code := { maxStack := 6, maxLocals := 15, code := code, exceptionTable := #[], attributes := #[] }
def k1m1 : Method := { name := "law", desc := "(III)Z", sig := { parameters := [.int, .int, .int], returnType := some .boolean }, accessFlags := 9, code := some k1c1 }
def k1c2 : Code := { maxStack := 2, maxLocals := 1, code := method_3_code, exceptionTable := #[], attributes := #[] }
def k1m2 : Method := { name := "ord", desc := "(C)C", sig := { parameters := [.char], returnType := some .char }, accessFlags := 10, code := some k1c2 }
/-- com/example/kindred/kindred/IdentifierOfTokenPinLaw -/
def k1 : Class := { plain "com/example/kindred/kindred/IdentifierOfTokenPinLaw" (some 0) with
  accessFlags := 49
  interfaces := #[]
  cf := some (fileOf pool1 8 #[] #[{ accessFlags := 1, nameIndex := 5, descriptorIndex := 6, attributes := #[] }, { accessFlags := 9, nameIndex := 43, descriptorIndex := 44, attributes := #[] }, { accessFlags := 10, nameIndex := 11, descriptorIndex := 12, attributes := #[] }] 49 2 #[] #[])
  fields := #[]
  methods := #[k1m0, k1m1, k1m2]
  instanceTypes := #[]
  staticTypes := #[]
  resolved := Array.replicate 51 none
  statics := none }

def pool2 : Array CpInfo := pool [(1, .class_ 2), (0, u "java/io/Serializable"), (0, .class_ 4), (0, u "java/lang/Object")] 2

/-- java/io/Serializable -/
def k2 : Class := { plain "java/io/Serializable" (some 0) with
  accessFlags := 1537
  interfaces := #[]
  cf := some (fileOf pool2 1 #[] #[] 1537 3 #[] #[])
  fields := #[]
  methods := #[]
  instanceTypes := #[]
  staticTypes := #[]
  resolved := Array.replicate 7 none
  statics := none }

def pool3 : Array CpInfo := pool [(1, .class_ 2), (0, u "java/lang/Comparable"), (0, .class_ 4), (0, u "java/lang/Object")] 7

/-- java/lang/Comparable -/
def k3 : Class := { plain "java/lang/Comparable" (some 0) with
  accessFlags := 1537
  interfaces := #[]
  cf := some (fileOf pool3 1 #[] #[] 1537 3 #[] #[])
  fields := #[]
  methods := #[]
  instanceTypes := #[]
  staticTypes := #[]
  resolved := Array.replicate 12 none
  statics := none }

def pool4 : Array CpInfo := pool [(2, .class_ 4), (1, u "java/lang/CharSequence"), (42, .class_ 48), (0, u "java/lang/CharSequence$1CodePointIterator"), (10, .class_ 60), (0, u "java/lang/CharSequence$1CharIterator"), (5, .class_ 67), (0, u "java/lang/Object")] 63

/-- java/lang/CharSequence -/
def k4 : Class := { plain "java/lang/CharSequence" (some 0) with
  accessFlags := 1537
  interfaces := #[]
  cf := some (fileOf pool4 2 #[.nestMembers #[47, 59]] #[] 1537 66 #[] #[])
  fields := #[]
  methods := #[]
  instanceTypes := #[]
  staticTypes := #[]
  resolved := Array.replicate 131 none
  statics := none }

def pool5 : Array CpInfo := pool [(1, .class_ 2), (0, u "java/lang/constant/Constable"), (0, .class_ 4), (0, u "java/lang/Object")] 6

/-- java/lang/constant/Constable -/
def k5 : Class := { plain "java/lang/constant/Constable" (some 0) with
  accessFlags := 1537
  interfaces := #[]
  cf := some (fileOf pool5 1 #[] #[] 1537 3 #[] #[])
  fields := #[]
  methods := #[]
  instanceTypes := #[]
  staticTypes := #[]
  resolved := Array.replicate 11 none
  statics := none }

def pool6 : Array CpInfo := pool [(1, .class_ 2), (0, u "java/lang/constant/ConstantDesc"), (0, .class_ 4), (0, u "java/lang/Object")] 32

/-- java/lang/constant/ConstantDesc -/
def k6 : Class := { plain "java/lang/constant/ConstantDesc" (some 0) with
  accessFlags := 1537
  interfaces := #[]
  cf := some (fileOf pool6 1 #[] #[] 1537 3 #[] #[])
  fields := #[]
  methods := #[]
  instanceTypes := #[]
  staticTypes := #[]
  resolved := Array.replicate 37 none
  statics := none }

def pool7 : Array CpInfo := pool [(1, .methodref 2 3), (0, .class_ 4), (0, .nameAndType 5 6), (0, u "java/lang/Object"), (0, u "<init>"), (0, u "()V"), (2, .fieldref 10 11), (0, .class_ 12), (0, .nameAndType 13 14), (0, u "java/lang/String"), (0, u "value"), (0, u "[B"), (0, .fieldref 10 16), (0, .nameAndType 17 18), (0, u "coder"), (0, u "B"), (2, u "hash"), (0, u "I"), (2, u "hashIsZero"), (0, u "Z"), (0, .methodref 10 28), (0, .nameAndType 5 29), (0, u "([CIILjava/lang/Void;)V"), (8, .fieldref 10 39), (0, .nameAndType 40 26), (0, u "COMPACT_STRINGS"), (1, .class_ 44), (1, u "java/lang/StringUTF16"), (0, u "compress"), (1, .methodref 42 48), (0, .nameAndType 49 50), (0, u "coderFromArrayLen"), (0, u "([BI)B"), (2, u "toBytes"), (0, .methodref 55 56), (0, .class_ 57), (0, .nameAndType 58 59), (0, u "java/util/Arrays"), (0, u "copyOfRange"), (0, u "([BII)[B"), (47, .class_ 109), (1, u "java/lang/StringLatin1"), (32, u "()Z"), (34, .methodref 42 178), (0, .nameAndType 45 179), (0, u "([CII)[B"), (29, .methodref 10 210), (0, .nameAndType 5 211), (0, u "([BB)V"), (122, u "()I"), (0, .methodref 10 336), (0, .nameAndType 17 337), (0, u "()B"), (2, u "()[B"), (22, u "([BI)C"), (5, u "(C)Z"), (21, u "(II)V"), (35, u "(I)C"), (61, .methodref 10 490), (0, .nameAndType 5 491), (0, u "(Ljava/lang/AbstractStringBuilder;Ljava/lang/Void;)V"), (0, .methodref 10 493), (0, .nameAndType 494 142), (0, u "isLatin1"), (0, .methodref 107 496), (0, .nameAndType 497 363), (0, u "charAt"), (3, u "checkIndex"), (4, .nameAndType 507 334), (0, u "length"), (33, .methodref 107 542), (0, .nameAndType 543 544), (0, u "equals"), (0, u "([B[B)Z"), (4, .methodref 550 506), (0, .class_ 551), (0, u "java/lang/AbstractStringBuilder"), (0, .methodref 550 553), (0, .nameAndType 554 340), (0, u "getValue"), (18, u "(Ljava/lang/Object;)Z"), (1, .class_ 576), (0, u "java/lang/CharSequence"), (22, u "CASE_INSENSITIVE_ORDER"), (0, u "Ljava/util/Comparator;"), (181, u "valueOf"), (0, u "(C)Ljava/lang/String;"), (226, u "([C)V"), (4, .methodref 107 1016), (0, .nameAndType 1017 369), (0, u "canEncode"), (0, .methodref 107 1019), (0, .nameAndType 53 1020), (0, u "(C)[B"), (26, .methodref 550 493), (5, .fieldref 1054 1055), (0, .class_ 1056), (0, .nameAndType 1057 1058), (0, u "jdk/internal/util/Preconditions"), (0, u "SIOOBE_FORMATTER"), (0, u "Ljava/util/function/BiFunction;"), (0, .methodref 1054 1060), (0, .nameAndType 501 1061), (0, u "(IILjava/util/function/BiFunction;)I"), (39, u "serialPersistentFields"), (0, u "[Ljava/io/ObjectStreamField;"), (0, .class_ 1104), (0, u "java/lang/String$CaseInsensitiveComparator"), (1, .class_ 1107), (0, u "java/io/Serializable"), (0, .class_ 1109), (0, u "java/lang/Comparable"), (0, .class_ 1111), (0, u "java/lang/constant/Constable"), (0, .class_ 1113), (0, u "java/lang/constant/ConstantDesc"), (2, u "serialVersionUID"), (0, u "J"), (3, u "REPL"), (0, u "C"), (2, u "LATIN1"), (1, u "UTF16"), (105, u "(Ljava/lang/StringBuilder;)V")] 217

def k7m0 : Method := { name := "<init>", desc := "()V", sig := { parameters := [], returnType := none }, accessFlags := 1, code := none }
def k7c1 : Code := { maxStack := 5, maxLocals := 2, code := jdk_42_method_3_code, exceptionTable := #[], attributes := #[] }
def k7m1 : Method := { name := "<init>", desc := "([C)V", sig := { parameters := [(.array .char)], returnType := none }, accessFlags := 1, code := some k7c1 }
def k7c2 : Code := { maxStack := 3, maxLocals := 2, code := jdk_42_method_53_code, exceptionTable := #[], attributes := #[] }
def k7m2 : Method := { name := "<init>", desc := "(Ljava/lang/StringBuilder;)V", sig := { parameters := [(.object "java/lang/StringBuilder")], returnType := none }, accessFlags := 1, code := some k7c2 }
def k7c3 : Code := { maxStack := 2, maxLocals := 1, code := jdk_42_method_54_code, exceptionTable := #[], attributes := #[] }
def k7m3 : Method := { name := "length", desc := "()I", sig := { parameters := [], returnType := some .int }, accessFlags := 1, code := some k7c3 }
def k7c4 : Code := { maxStack := 2, maxLocals := 2, code := jdk_42_method_56_code, exceptionTable := #[], attributes := #[] }
def k7m4 : Method := { name := "charAt", desc := "(I)C", sig := { parameters := [.int], returnType := some .char }, accessFlags := 1, code := some k7c4 }
def k7c5 : Code := { maxStack := 2, maxLocals := 3, code := jdk_42_method_66_code, exceptionTable := #[], attributes := #[] }
def k7m5 : Method := { name := "equals", desc := "(Ljava/lang/Object;)Z", sig := { parameters := [(.object "java/lang/Object")], returnType := some .boolean }, accessFlags := 1, code := some k7c5 }
def k7c6 : Code := { maxStack := 4, maxLocals := 1, code := jdk_42_method_139_code, exceptionTable := #[], attributes := #[] }
def k7m6 : Method := { name := "valueOf", desc := "(C)Ljava/lang/String;", sig := { parameters := [.char], returnType := some (.object "java/lang/String") }, accessFlags := 9, code := some k7c6 }
def k7c7 : Code := { maxStack := 4, maxLocals := 6, code := jdk_42_method_149_code, exceptionTable := #[], attributes := #[] }
def k7m7 : Method := { name := "<init>", desc := "([CIILjava/lang/Void;)V", sig := { parameters := [(.array .char), .int, .int, (.object "java/lang/Void")], returnType := none }, accessFlags := 2, code := some k7c7 }
def k7c8 : Code := { maxStack := 5, maxLocals := 5, code := jdk_42_method_150_code, exceptionTable := #[], attributes := #[] }
def k7m8 : Method := { name := "<init>", desc := "(Ljava/lang/AbstractStringBuilder;Ljava/lang/Void;)V", sig := { parameters := [(.object "java/lang/AbstractStringBuilder"), (.object "java/lang/Void")], returnType := none }, accessFlags := 0, code := some k7c8 }
def k7c9 : Code := { maxStack := 2, maxLocals := 3, code := jdk_42_method_151_code, exceptionTable := #[], attributes := #[] }
def k7m9 : Method := { name := "<init>", desc := "([BB)V", sig := { parameters := [(.array .byte), .byte], returnType := none }, accessFlags := 0, code := some k7c9 }
def k7c10 : Code := { maxStack := 1, maxLocals := 1, code := jdk_42_method_152_code, exceptionTable := #[], attributes := #[] }
def k7m10 : Method := { name := "coder", desc := "()B", sig := { parameters := [], returnType := some .byte }, accessFlags := 0, code := some k7c10 }
def k7c11 : Code := { maxStack := 1, maxLocals := 1, code := jdk_42_method_154_code, exceptionTable := #[], attributes := #[] }
def k7m11 : Method := { name := "isLatin1", desc := "()Z", sig := { parameters := [], returnType := some .boolean }, accessFlags := 0, code := some k7c11 }
def k7c12 : Code := { maxStack := 3, maxLocals := 2, code := jdk_42_method_155_code, exceptionTable := #[], attributes := #[] }
def k7m12 : Method := { name := "checkIndex", desc := "(II)V", sig := { parameters := [.int, .int], returnType := none }, accessFlags := 8, code := some k7c12 }
/-- java/lang/String -/
def k7 : Class := { plain "java/lang/String" (some 0) with
  accessFlags := 49
  interfaces := #[2, 3, 4, 5, 6]
  cf := some (fileOf pool7 10 #[.nestMembers #[1103]] #[{ accessFlags := 1, nameIndex := 5, descriptorIndex := 6, attributes := #[] }, { accessFlags := 1, nameIndex := 5, descriptorIndex := 1010, attributes := #[] }, { accessFlags := 1, nameIndex := 5, descriptorIndex := 1233, attributes := #[] }, { accessFlags := 1, nameIndex := 507, descriptorIndex := 334, attributes := #[] }, { accessFlags := 1, nameIndex := 497, descriptorIndex := 427, attributes := #[] }, { accessFlags := 1, nameIndex := 543, descriptorIndex := 573, attributes := #[] }, { accessFlags := 9, nameIndex := 782, descriptorIndex := 783, attributes := #[] }, { accessFlags := 2, nameIndex := 5, descriptorIndex := 29, attributes := #[] }, { accessFlags := 0, nameIndex := 5, descriptorIndex := 491, attributes := #[] }, { accessFlags := 0, nameIndex := 5, descriptorIndex := 211, attributes := #[] }, { accessFlags := 0, nameIndex := 17, descriptorIndex := 337, attributes := #[] }, { accessFlags := 0, nameIndex := 494, descriptorIndex := 142, attributes := #[] }, { accessFlags := 8, nameIndex := 501, descriptorIndex := 391, attributes := #[] }] 49 2 #[1106, 1108, 575, 1110, 1112] #[{ accessFlags := 18, nameIndex := 13, descriptorIndex := 14, attributes := #[] }, { accessFlags := 18, nameIndex := 17, descriptorIndex := 18, attributes := #[] }, { accessFlags := 2, nameIndex := 21, descriptorIndex := 22, attributes := #[] }, { accessFlags := 2, nameIndex := 25, descriptorIndex := 26, attributes := #[] }, { accessFlags := 26, nameIndex := 1116, descriptorIndex := 1117, attributes := #[] }, { accessFlags := 24, nameIndex := 40, descriptorIndex := 26, attributes := #[] }, { accessFlags := 26, nameIndex := 1101, descriptorIndex := 1102, attributes := #[] }, { accessFlags := 26, nameIndex := 1121, descriptorIndex := 1122, attributes := #[] }, { accessFlags := 25, nameIndex := 599, descriptorIndex := 600, attributes := #[] }, { accessFlags := 24, nameIndex := 1125, descriptorIndex := 18, attributes := #[] }, { accessFlags := 24, nameIndex := 1127, descriptorIndex := 18, attributes := #[] }])
  fields := #[{ name := "value", type := (.array .byte), accessFlags := 18, slot := 0, constantValue := 0 }, { name := "coder", type := .byte, accessFlags := 18, slot := 1, constantValue := 0 }, { name := "hash", type := .int, accessFlags := 2, slot := 2, constantValue := 0 }, { name := "hashIsZero", type := .boolean, accessFlags := 2, slot := 3, constantValue := 0 }, { name := "serialVersionUID", type := .long, accessFlags := 26, slot := 0, constantValue := 0 }, { name := "COMPACT_STRINGS", type := .boolean, accessFlags := 24, slot := 1, constantValue := 0 }, { name := "serialPersistentFields", type := (.array (.object "java/io/ObjectStreamField")), accessFlags := 26, slot := 2, constantValue := 0 }, { name := "REPL", type := .char, accessFlags := 26, slot := 3, constantValue := 0 }, { name := "CASE_INSENSITIVE_ORDER", type := (.object "java/util/Comparator"), accessFlags := 25, slot := 4, constantValue := 0 }, { name := "LATIN1", type := .byte, accessFlags := 24, slot := 5, constantValue := 0 }, { name := "UTF16", type := .byte, accessFlags := 24, slot := 6, constantValue := 0 }]
  methods := #[k7m0, k7m1, k7m2, k7m3, k7m4, k7m5, k7m6, k7m7, k7m8, k7m9, k7m10, k7m11, k7m12]
  instanceTypes := #[(.array .byte), .byte, .int, .boolean]
  staticTypes := #[.long, .boolean, (.array (.object "java/io/ObjectStreamField")), .char, (.object "java/util/Comparator"), .byte, .byte]
  resolved := Array.replicate 1451 none
  statics := some 0 }

def pool8 : Array CpInfo := pool [(6, .class_ 8), (1, u "java/lang/Object"), (0, u "<init>"), (0, u "()V"), (1, .class_ 14), (1, u "java/lang/StringUTF16"), (31, u "$assertionsDisabled"), (0, u "Z"), (13, u "HI_BYTE_SHIFT"), (0, u "I"), (2, u "LO_BYTE_SHIFT"), (49, .methodref 12 116), (0, .nameAndType 117 118), (0, u "compress"), (0, u "([CI[BII)I"), (3, u "([CII)[B"), (138, u "coderFromArrayLen"), (0, u "([BI)B"), (106, .class_ 371), (1, u "java/lang/StringUTF16$LinesSpliterator"), (58, u "MAX_LENGTH"), (196, .class_ 628), (0, u "java/lang/StringUTF16$CodePointsSpliterator"), (0, .class_ 630), (0, u "java/lang/StringUTF16$CharsSpliterator")] 4

def k8m0 : Method := { name := "<init>", desc := "()V", sig := { parameters := [], returnType := none }, accessFlags := 0, code := none }
def k8c1 : Code := { maxStack := 2, maxLocals := 2, code := jdk_52_method_15_code, exceptionTable := #[], attributes := #[] }
def k8m1 : Method := { name := "coderFromArrayLen", desc := "([BI)B", sig := { parameters := [(.array .byte), .int], returnType := some .byte }, accessFlags := 8, code := some k8c1 }
def k8c2 : Code := { maxStack := 5, maxLocals := 6, code := jdk_52_method_16_code, exceptionTable := #[], attributes := #[] }
def k8m2 : Method := { name := "compress", desc := "([CII)[B", sig := { parameters := [(.array .char), .int, .int], returnType := some (.array .byte) }, accessFlags := 9, code := some k8c2 }
def k8c3 : Code := { maxStack := 3, maxLocals := 7, code := jdk_52_method_21_code, exceptionTable := #[], attributes := #[] }
def k8m3 : Method := { name := "compress", desc := "([CI[BII)I", sig := { parameters := [(.array .char), .int, (.array .byte), .int, .int], returnType := some .int }, accessFlags := 9, code := some k8c3 }
/-- java/lang/StringUTF16 -/
def k8 : Class := { plain "java/lang/StringUTF16" (some 0) with
  accessFlags := 48
  interfaces := #[]
  cf := some (fileOf pool8 12 #[.nestMembers #[627, 629, 369]] #[{ accessFlags := 0, nameIndex := 9, descriptorIndex := 10, attributes := #[] }, { accessFlags := 8, nameIndex := 261, descriptorIndex := 262, attributes := #[] }, { accessFlags := 9, nameIndex := 117, descriptorIndex := 122, attributes := #[] }, { accessFlags := 9, nameIndex := 117, descriptorIndex := 118, attributes := #[] }] 48 6 #[] #[{ accessFlags := 26, nameIndex := 61, descriptorIndex := 62, attributes := #[] }, { accessFlags := 26, nameIndex := 65, descriptorIndex := 62, attributes := #[] }, { accessFlags := 24, nameIndex := 430, descriptorIndex := 62, attributes := #[] }, { accessFlags := 4120, nameIndex := 46, descriptorIndex := 47, attributes := #[] }])
  fields := #[{ name := "HI_BYTE_SHIFT", type := .int, accessFlags := 26, slot := 0, constantValue := 0 }, { name := "LO_BYTE_SHIFT", type := .int, accessFlags := 26, slot := 1, constantValue := 0 }, { name := "MAX_LENGTH", type := .int, accessFlags := 24, slot := 2, constantValue := 0 }, { name := "$assertionsDisabled", type := .boolean, accessFlags := 4120, slot := 3, constantValue := 0 }]
  methods := #[k8m0, k8m1, k8m2, k8m3]
  instanceTypes := #[]
  staticTypes := #[.int, .int, .int, .boolean]
  resolved := Array.replicate 635 none
  statics := none }

def pool9 : Array CpInfo := pool [(1, .class_ 2), (0, u "java/lang/String"), (1, .class_ 6), (1, u "java/lang/Object"), (0, u "<init>"), (0, u "()V"), (0, .methodref 1 10), (0, .nameAndType 11 12), (0, u "checkIndex"), (0, u "(II)V"), (1, .class_ 16), (1, u "java/lang/StringLatin1"), (36, u "([BI)C"), (36, u "canEncode"), (14, u "(C)Z"), (15, u "$assertionsDisabled"), (0, u "Z"), (98, .class_ 223), (1, u "java/lang/StringLatin1$LinesSpliterator"), (28, u "charAt"), (28, u "equals"), (0, u "([B[B)Z"), (97, u "toBytes"), (1, u "(C)[B"), (7, .class_ 391), (0, u "java/lang/StringLatin1$CharsSpliterator")] 3

def k9m0 : Method := { name := "<init>", desc := "()V", sig := { parameters := [], returnType := none }, accessFlags := 0, code := none }
def k9c1 : Code := { maxStack := 2, maxLocals := 2, code := jdk_43_method_2_code, exceptionTable := #[], attributes := #[] }
def k9m1 : Method := { name := "charAt", desc := "([BI)C", sig := { parameters := [(.array .byte), .int], returnType := some .char }, accessFlags := 9, code := some k9c1 }
def k9c2 : Code := { maxStack := 2, maxLocals := 1, code := jdk_43_method_3_code, exceptionTable := #[], attributes := #[] }
def k9m2 : Method := { name := "canEncode", desc := "(C)Z", sig := { parameters := [.char], returnType := some .boolean }, accessFlags := 9, code := some k9c2 }
def k9c3 : Code := { maxStack := 3, maxLocals := 3, code := jdk_43_method_13_code, exceptionTable := #[], attributes := #[] }
def k9m3 : Method := { name := "equals", desc := "([B[B)Z", sig := { parameters := [(.array .byte), (.array .byte)], returnType := some .boolean }, accessFlags := 9, code := some k9c3 }
def k9c4 : Code := { maxStack := 4, maxLocals := 1, code := jdk_43_method_46_code, exceptionTable := #[], attributes := #[] }
def k9m4 : Method := { name := "toBytes", desc := "(C)[B", sig := { parameters := [.char], returnType := some (.array .byte) }, accessFlags := 9, code := some k9c4 }
/-- java/lang/StringLatin1 -/
def k9 : Class := { plain "java/lang/StringLatin1" (some 0) with
  accessFlags := 48
  interfaces := #[]
  cf := some (fileOf pool9 14 #[.nestMembers #[390, 221]] #[{ accessFlags := 0, nameIndex := 7, descriptorIndex := 8, attributes := #[] }, { accessFlags := 9, nameIndex := 252, descriptorIndex := 53, attributes := #[] }, { accessFlags := 9, nameIndex := 90, descriptorIndex := 105, attributes := #[] }, { accessFlags := 9, nameIndex := 281, descriptorIndex := 282, attributes := #[] }, { accessFlags := 9, nameIndex := 380, descriptorIndex := 382, attributes := #[] }] 48 4 #[] #[{ accessFlags := 4120, nameIndex := 121, descriptorIndex := 122, attributes := #[] }])
  fields := #[{ name := "$assertionsDisabled", type := .boolean, accessFlags := 4120, slot := 0, constantValue := 0 }]
  methods := #[k9m0, k9m1, k9m2, k9m3, k9m4]
  instanceTypes := #[]
  staticTypes := #[.boolean]
  resolved := Array.replicate 395 none
  statics := none }

def pool10 : Array CpInfo := pool [(1, .methodref 2 3), (0, .class_ 4), (0, .nameAndType 5 6), (0, u "java/lang/Object"), (0, u "<init>"), (0, u "()V"), (0, .class_ 8), (0, u "java/lang/Record")] 13

def k10c0 : Code := { maxStack := 1, maxLocals := 1, code := jdk_30_method_1_code, exceptionTable := #[], attributes := #[] }
def k10m0 : Method := { name := "<init>", desc := "()V", sig := { parameters := [], returnType := none }, accessFlags := 4, code := some k10c0 }
/-- java/lang/Record -/
def k10 : Class := { plain "java/lang/Record" (some 0) with
  accessFlags := 1057
  interfaces := #[]
  cf := some (fileOf pool10 7 #[] #[{ accessFlags := 4, nameIndex := 5, descriptorIndex := 6, attributes := #[] }] 1057 2 #[] #[])
  fields := #[]
  methods := #[k10m0]
  instanceTypes := #[]
  staticTypes := #[]
  resolved := Array.replicate 22 none
  statics := none }

def pool11 : Array CpInfo := pool [(1, .methodref 2 3), (0, .class_ 4), (0, .nameAndType 5 6), (0, u "java/lang/Record"), (0, u "<init>"), (0, u "()V"), (0, .fieldref 8 9), (0, .class_ 10), (0, .nameAndType 11 12), (0, u "com/example/kindred/kindred/Identifier"), (0, u "system"), (0, u "Ljava/lang/String;"), (0, .fieldref 8 14), (0, .nameAndType 15 12), (0, u "value"), (4, .methodref 8 21), (0, .nameAndType 5 22), (0, u "(Ljava/lang/String;Ljava/lang/String;)V"), (0, .class_ 24), (0, u "java/lang/StringBuilder"), (0, .methodref 23 3), (0, .methodref 27 28), (0, .class_ 29), (0, .nameAndType 30 31), (0, u "java/lang/String"), (0, u "length"), (0, u "()I"), (0, .methodref 27 33), (0, .nameAndType 34 35), (0, u "charAt"), (0, u "(I)C"), (0, .methodref 23 37), (0, .nameAndType 38 39), (0, u "append"), (0, u "(C)Ljava/lang/StringBuilder;"), (0, .methodref 23 28), (11, .methodref 23 53), (0, .nameAndType 54 55), (0, u "toString"), (0, u "()Ljava/lang/String;"), (4, u "OID"), (0, u "Ljava/util/regex/Pattern;"), (40, u "OID_URN"), (5, u "(Ljava/lang/String;Ljava/lang/String;)Lcom/example/kindred/kindred/Identifier;"), (0, u "ofToken")] 38

def k11c0 : Code := { maxStack := 2, maxLocals := 3, code := prog_12_method_1_code, exceptionTable := #[], attributes := #[] }
def k11m0 : Method := { name := "<init>", desc := "(Ljava/lang/String;Ljava/lang/String;)V", sig := { parameters := [(.object "java/lang/String"), (.object "java/lang/String")], returnType := none }, accessFlags := 0, code := some k11c0 }
def k11c1 : Code := { maxStack := 6, maxLocals := 7, code := prog_12_method_3_code, exceptionTable := #[], attributes := #[] }
def k11m1 : Method := { name := "ofToken", desc := "(Ljava/lang/String;Ljava/lang/String;)Lcom/example/kindred/kindred/Identifier;", sig := { parameters := [(.object "java/lang/String"), (.object "java/lang/String")], returnType := some (.object "com/example/kindred/kindred/Identifier") }, accessFlags := 8, code := some k11c1 }
def k11c2 : Code := { maxStack := 1, maxLocals := 1, code := prog_12_method_10_code, exceptionTable := #[], attributes := #[] }
def k11m2 : Method := { name := "system", desc := "()Ljava/lang/String;", sig := { parameters := [], returnType := some (.object "java/lang/String") }, accessFlags := 1, code := some k11c2 }
def k11c3 : Code := { maxStack := 1, maxLocals := 1, code := prog_12_method_11_code, exceptionTable := #[], attributes := #[] }
def k11m3 : Method := { name := "value", desc := "()Ljava/lang/String;", sig := { parameters := [], returnType := some (.object "java/lang/String") }, accessFlags := 1, code := some k11c3 }
/-- com/example/kindred/kindred/Identifier -/
def k11 : Class := { plain "com/example/kindred/kindred/Identifier" (some 10) with
  accessFlags := 48
  interfaces := #[]
  cf := some (fileOf pool11 8 #[] #[{ accessFlags := 0, nameIndex := 5, descriptorIndex := 22, attributes := #[] }, { accessFlags := 8, nameIndex := 109, descriptorIndex := 108, attributes := #[] }, { accessFlags := 1, nameIndex := 11, descriptorIndex := 55, attributes := #[] }, { accessFlags := 1, nameIndex := 15, descriptorIndex := 55, attributes := #[] }] 48 2 #[] #[{ accessFlags := 18, nameIndex := 11, descriptorIndex := 12, attributes := #[] }, { accessFlags := 18, nameIndex := 15, descriptorIndex := 12, attributes := #[] }, { accessFlags := 26, nameIndex := 60, descriptorIndex := 61, attributes := #[] }, { accessFlags := 26, nameIndex := 102, descriptorIndex := 12, attributes := #[] }])
  fields := #[{ name := "system", type := (.object "java/lang/String"), accessFlags := 18, slot := 0, constantValue := 0 }, { name := "value", type := (.object "java/lang/String"), accessFlags := 18, slot := 1, constantValue := 0 }, { name := "OID", type := (.object "java/util/regex/Pattern"), accessFlags := 26, slot := 0, constantValue := 0 }, { name := "OID_URN", type := (.object "java/lang/String"), accessFlags := 26, slot := 1, constantValue := 0 }]
  methods := #[k11m0, k11m1, k11m2, k11m3]
  instanceTypes := #[(.object "java/lang/String"), (.object "java/lang/String")]
  staticTypes := #[(.object "java/util/regex/Pattern"), (.object "java/lang/String")]
  resolved := Array.replicate 148 none
  statics := none }

def pool12 : Array CpInfo := pool [(1, .class_ 2), (0, u "java/lang/Appendable"), (0, .class_ 4), (0, u "java/lang/Object")] 9

/-- java/lang/Appendable -/
def k12 : Class := { plain "java/lang/Appendable" (some 0) with
  accessFlags := 1537
  interfaces := #[]
  cf := some (fileOf pool12 1 #[] #[] 1537 3 #[] #[])
  fields := #[]
  methods := #[]
  instanceTypes := #[]
  staticTypes := #[]
  resolved := Array.replicate 14 none
  statics := none }

def pool13 : Array CpInfo := pool [(1, .class_ 2), (0, u "java/lang/String"), (0, .methodref 4 5), (0, .class_ 6), (0, .nameAndType 7 8), (0, u "java/lang/Object"), (0, u "<init>"), (0, u "()V"), (1, .class_ 12), (1, u "java/lang/AbstractStringBuilder"), (0, u "EMPTYVALUE"), (0, u "[B"), (0, .fieldref 10 16), (0, .nameAndType 17 14), (0, u "value"), (0, .fieldref 1 19), (0, .nameAndType 20 21), (0, u "COMPACT_STRINGS"), (0, u "Z"), (0, .fieldref 10 23), (0, .nameAndType 24 25), (0, u "coder"), (0, u "B"), (8, u "length"), (0, u "()I"), (9, u "append"), (2, .class_ 49), (0, u "java/lang/CharSequence"), (25, u "maybeLatin1"), (3, .fieldref 10 80), (0, .nameAndType 81 82), (0, u "count"), (0, u "I"), (0, .methodref 10 84), (0, .nameAndType 85 86), (0, u "isLatin1"), (0, u "()Z"), (1, .class_ 90), (1, u "java/lang/StringLatin1"), (9, .methodref 10 101), (0, .nameAndType 102 103), (0, u "ensureCapacityInternal"), (0, u "(I)V"), (87, .methodref 88 192), (0, .nameAndType 193 194), (0, u "canEncode"), (0, u "(C)Z"), (97, u "(C)Ljava/lang/AbstractStringBuilder;"), (110, u "()[B"), (40, .class_ 445), (0, u "java/lang/Appendable"), (106, u "getValue")] 56

def k13m0 : Method := { name := "<init>", desc := "()V", sig := { parameters := [], returnType := none }, accessFlags := 0, code := none }
def k13c1 : Code := { maxStack := 2, maxLocals := 2, code := jdk_68_method_2_code, exceptionTable := #[], attributes := #[] }
def k13m1 : Method := { name := "<init>", desc := "(I)V", sig := { parameters := [.int], returnType := none }, accessFlags := 0, code := some k13c1 }
def k13c2 : Code := { maxStack := 1, maxLocals := 1, code := jdk_68_method_6_code, exceptionTable := #[], attributes := #[] }
def k13m2 : Method := { name := "length", desc := "()I", sig := { parameters := [], returnType := some .int }, accessFlags := 1, code := some k13c2 }
def k13c3 : Code := { maxStack := 4, maxLocals := 3, code := jdk_68_method_9_code, exceptionTable := #[], attributes := #[] }
def k13m3 : Method := { name := "ensureCapacityInternal", desc := "(I)V", sig := { parameters := [.int], returnType := none }, accessFlags := 2, code := some k13c3 }
def k13c4 : Code := { maxStack := 5, maxLocals := 2, code := jdk_68_method_31_code, exceptionTable := #[], attributes := #[] }
def k13m4 : Method := { name := "append", desc := "(C)Ljava/lang/AbstractStringBuilder;", sig := { parameters := [.char], returnType := some (.object "java/lang/AbstractStringBuilder") }, accessFlags := 1, code := some k13c4 }
def k13c5 : Code := { maxStack := 1, maxLocals := 1, code := jdk_68_method_64_code, exceptionTable := #[], attributes := #[] }
def k13m5 : Method := { name := "getValue", desc := "()[B", sig := { parameters := [], returnType := some (.array .byte) }, accessFlags := 16, code := some k13c5 }
def k13c6 : Code := { maxStack := 1, maxLocals := 1, code := jdk_68_method_68_code, exceptionTable := #[], attributes := #[] }
def k13m6 : Method := { name := "isLatin1", desc := "()Z", sig := { parameters := [], returnType := some .boolean }, accessFlags := 16, code := some k13c6 }
/-- java/lang/AbstractStringBuilder -/
def k13 : Class := { plain "java/lang/AbstractStringBuilder" (some 0) with
  accessFlags := 1056
  interfaces := #[12, 4]
  cf := some (fileOf pool13 10 #[] #[{ accessFlags := 0, nameIndex := 7, descriptorIndex := 8, attributes := #[] }, { accessFlags := 0, nameIndex := 7, descriptorIndex := 103, attributes := #[] }, { accessFlags := 1, nameIndex := 34, descriptorIndex := 35, attributes := #[] }, { accessFlags := 2, nameIndex := 102, descriptorIndex := 103, attributes := #[] }, { accessFlags := 1, nameIndex := 45, descriptorIndex := 292, attributes := #[] }, { accessFlags := 16, nameIndex := 552, descriptorIndex := 403, attributes := #[] }, { accessFlags := 16, nameIndex := 85, descriptorIndex := 86, attributes := #[] }] 1056 4 #[444, 48] #[{ accessFlags := 0, nameIndex := 17, descriptorIndex := 14, attributes := #[] }, { accessFlags := 0, nameIndex := 24, descriptorIndex := 25, attributes := #[] }, { accessFlags := 0, nameIndex := 75, descriptorIndex := 21, attributes := #[] }, { accessFlags := 0, nameIndex := 81, descriptorIndex := 82, attributes := #[] }, { accessFlags := 26, nameIndex := 13, descriptorIndex := 14, attributes := #[] }])
  fields := #[{ name := "value", type := (.array .byte), accessFlags := 0, slot := 0, constantValue := 0 }, { name := "coder", type := .byte, accessFlags := 0, slot := 1, constantValue := 0 }, { name := "maybeLatin1", type := .boolean, accessFlags := 0, slot := 2, constantValue := 0 }, { name := "count", type := .int, accessFlags := 0, slot := 3, constantValue := 0 }, { name := "EMPTYVALUE", type := (.array .byte), accessFlags := 26, slot := 0, constantValue := 0 }]
  methods := #[k13m0, k13m1, k13m2, k13m3, k13m4, k13m5, k13m6]
  instanceTypes := #[(.array .byte), .byte, .boolean, .int]
  staticTypes := #[(.array .byte)]
  resolved := Array.replicate 609 none
  statics := none }

def pool14 : Array CpInfo := pool [(1, .methodref 2 3), (0, .class_ 4), (0, .nameAndType 5 6), (0, u "java/lang/AbstractStringBuilder"), (0, u "<init>"), (0, u "(I)V"), (11, .class_ 20), (1, u "java/lang/String"), (3, .class_ 26), (1, u "java/lang/StringBuilder"), (0, u "append"), (22, .methodref 2 51), (0, .nameAndType 27 52), (0, u "(C)Ljava/lang/AbstractStringBuilder;"), (84, .methodref 18 138), (0, .nameAndType 5 139), (0, u "(Ljava/lang/StringBuilder;)V"), (5, u "()V"), (10, u "()I"), (129, u "(C)Ljava/lang/StringBuilder;"), (56, .methodref 2 344), (0, .nameAndType 345 156), (0, u "length"), (3, .class_ 350), (0, u "java/lang/Appendable"), (0, .class_ 352), (0, u "java/io/Serializable"), (0, .class_ 354), (0, u "java/lang/Comparable"), (0, .class_ 356), (0, u "java/lang/CharSequence"), (0, u "serialVersionUID"), (0, u "J"), (40, u "toString"), (0, u "()Ljava/lang/String;")] 21

def k14c0 : Code := { maxStack := 2, maxLocals := 1, code := jdk_67_method_1_code, exceptionTable := #[], attributes := #[] }
def k14m0 : Method := { name := "<init>", desc := "()V", sig := { parameters := [], returnType := none }, accessFlags := 1, code := some k14c0 }
def k14c1 : Code := { maxStack := 2, maxLocals := 2, code := jdk_67_method_14_code, exceptionTable := #[], attributes := #[] }
def k14m1 : Method := { name := "append", desc := "(C)Ljava/lang/StringBuilder;", sig := { parameters := [.char], returnType := some (.object "java/lang/StringBuilder") }, accessFlags := 1, code := some k14c1 }
def k14c2 : Code := { maxStack := 3, maxLocals := 1, code := jdk_67_method_42_code, exceptionTable := #[], attributes := #[] }
def k14m2 : Method := { name := "toString", desc := "()Ljava/lang/String;", sig := { parameters := [], returnType := some (.object "java/lang/String") }, accessFlags := 1, code := some k14c2 }
def k14c3 : Code := { maxStack := 1, maxLocals := 1, code := jdk_67_method_93_code, exceptionTable := #[], attributes := #[] }
def k14m3 : Method := { name := "length", desc := "()I", sig := { parameters := [], returnType := some .int }, accessFlags := 4161, code := some k14c3 }
/-- java/lang/StringBuilder -/
def k14 : Class := { plain "java/lang/StringBuilder" (some 13) with
  accessFlags := 49
  interfaces := #[12, 2, 3, 4]
  cf := some (fileOf pool14 24 #[] #[{ accessFlags := 1, nameIndex := 5, descriptorIndex := 145, attributes := #[] }, { accessFlags := 1, nameIndex := 27, descriptorIndex := 286, attributes := #[] }, { accessFlags := 1, nameIndex := 399, descriptorIndex := 400, attributes := #[] }, { accessFlags := 4161, nameIndex := 345, descriptorIndex := 156, attributes := #[] }] 49 2 #[349, 351, 353, 355] #[{ accessFlags := 24, nameIndex := 357, descriptorIndex := 358, attributes := #[] }])
  fields := #[{ name := "serialVersionUID", type := .long, accessFlags := 24, slot := 0, constantValue := 0 }]
  methods := #[k14m0, k14m1, k14m2, k14m3]
  instanceTypes := #[(.array .byte), .byte, .boolean, .int]
  staticTypes := #[.long]
  resolved := Array.replicate 422 none
  statics := none }

def pool15 : Array CpInfo := pool [(2, .class_ 4), (1, u "java/lang/Object"), (0, u "<init>"), (0, u "()V"), (17, .class_ 26), (1, u "jdk/internal/util/Preconditions"), (6, u "checkIndex"), (21, .class_ 56), (0, u "jdk/internal/util/Preconditions$4"), (57, .class_ 115), (0, u "jdk/internal/util/Preconditions$1"), (7, u "SIOOBE_FORMATTER"), (0, u "Ljava/util/function/BiFunction;"), (0, .class_ 126), (0, u "jdk/internal/util/Preconditions$2"), (3, u "AIOOBE_FORMATTER"), (0, .class_ 132), (0, u "jdk/internal/util/Preconditions$3"), (3, u "IOOBE_FORMATTER"), (41, u "(IILjava/util/function/BiFunction;)I")] 15

def k15m0 : Method := { name := "<init>", desc := "()V", sig := { parameters := [], returnType := none }, accessFlags := 1, code := none }
def k15c1 : Code := { maxStack := 3, maxLocals := 3, code := jdk_41_method_11_code, exceptionTable := #[], attributes := #[] }
def k15m1 : Method := { name := "checkIndex", desc := "(IILjava/util/function/BiFunction;)I", sig := { parameters := [.int, .int, (.object "java/util/function/BiFunction")], returnType := some .int }, accessFlags := 9, code := some k15c1 }
/-- jdk/internal/util/Preconditions -/
def k15 : Class := { plain "jdk/internal/util/Preconditions" (some 0) with
  accessFlags := 33
  interfaces := #[]
  cf := some (fileOf pool15 24 #[.nestMembers #[55, 131, 125, 114]] #[{ accessFlags := 1, nameIndex := 5, descriptorIndex := 6, attributes := #[] }, { accessFlags := 9, nameIndex := 33, descriptorIndex := 178, attributes := #[] }] 33 2 #[] #[{ accessFlags := 25, nameIndex := 123, descriptorIndex := 124, attributes := #[] }, { accessFlags := 25, nameIndex := 130, descriptorIndex := 124, attributes := #[] }, { accessFlags := 25, nameIndex := 136, descriptorIndex := 124, attributes := #[] }])
  fields := #[{ name := "SIOOBE_FORMATTER", type := (.object "java/util/function/BiFunction"), accessFlags := 25, slot := 0, constantValue := 0 }, { name := "AIOOBE_FORMATTER", type := (.object "java/util/function/BiFunction"), accessFlags := 25, slot := 1, constantValue := 0 }, { name := "IOOBE_FORMATTER", type := (.object "java/util/function/BiFunction"), accessFlags := 25, slot := 2, constantValue := 0 }]
  methods := #[k15m0, k15m1]
  instanceTypes := #[]
  staticTypes := #[(.object "java/util/function/BiFunction"), (.object "java/util/function/BiFunction"), (.object "java/util/function/BiFunction")]
  resolved := Array.replicate 194 none
  statics := some 1 }

def pool16 : Array CpInfo := pool [(2, .class_ 4), (1, u "java/lang/Object"), (0, u "<init>"), (0, u "()V"), (7, .class_ 16), (1, u "java/util/Arrays"), (57, .class_ 76), (1, u "java/util/Arrays$NaturalOrder"), (36, .class_ 115), (1, u "java/util/Arrays$LegacyMergeSort"), (1, u "Z"), (21, u "copyOfRange"), (10, .methodref 151 152), (0, .class_ 153), (0, .nameAndType 154 155), (0, u "java/lang/System"), (0, u "arraycopy"), (0, u "(Ljava/lang/Object;ILjava/lang/Object;II)V"), (148, .methodref 305 306), (0, .class_ 307), (0, .nameAndType 308 309), (0, u "java/lang/Math"), (0, u "min"), (0, u "(II)I"), (29, .methodref 14 340), (0, .nameAndType 341 342), (0, u "copyOfRangeByte"), (0, u "([BII)[B"), (0, .methodref 14 344), (0, .nameAndType 345 346), (0, u "checkLength"), (0, u "(II)V"), (28, .class_ 376), (0, u "java/util/Arrays$ArrayList"), (68, u "$assertionsDisabled"), (269, u "MIN_ARRAY_SORT_GRAN"), (0, u "I"), (2, u "INSERTIONSORT_THRESHOLD"), (255, .class_ 976), (0, u "java/util/Arrays$ArrayItr")] 52

def k16m0 : Method := { name := "<init>", desc := "()V", sig := { parameters := [], returnType := none }, accessFlags := 2, code := none }
def k16c1 : Code := { maxStack := 4, maxLocals := 2, code := jdk_65_method_131_code, exceptionTable := #[], attributes := #[] }
def k16m1 : Method := { name := "checkLength", desc := "(II)V", sig := { parameters := [.int, .int], returnType := none }, accessFlags := 10, code := some k16c1 }
def k16c2 : Code := { maxStack := 3, maxLocals := 3, code := jdk_65_method_132_code, exceptionTable := #[], attributes := #[] }
def k16m2 : Method := { name := "copyOfRange", desc := "([BII)[B", sig := { parameters := [(.array .byte), .int, .int], returnType := some (.array .byte) }, accessFlags := 9, code := some k16c2 }
def k16c3 : Code := { maxStack := 6, maxLocals := 5, code := jdk_65_method_133_code, exceptionTable := #[], attributes := #[] }
def k16m3 : Method := { name := "copyOfRangeByte", desc := "([BII)[B", sig := { parameters := [(.array .byte), .int, .int], returnType := some (.array .byte) }, accessFlags := 10, code := some k16c3 }
/-- java/util/Arrays -/
def k16 : Class := { plain "java/util/Arrays" (some 0) with
  accessFlags := 49
  interfaces := #[]
  cf := some (fileOf pool16 14 #[.nestMembers #[975, 375, 113, 74]] #[{ accessFlags := 2, nameIndex := 5, descriptorIndex := 6, attributes := #[] }, { accessFlags := 10, nameIndex := 345, descriptorIndex := 346, attributes := #[] }, { accessFlags := 9, nameIndex := 139, descriptorIndex := 342, attributes := #[] }, { accessFlags := 10, nameIndex := 341, descriptorIndex := 342, attributes := #[] }] 49 2 #[] #[{ accessFlags := 26, nameIndex := 715, descriptorIndex := 716, attributes := #[] }, { accessFlags := 26, nameIndex := 719, descriptorIndex := 716, attributes := #[] }, { accessFlags := 4120, nameIndex := 445, descriptorIndex := 117, attributes := #[] }])
  fields := #[{ name := "MIN_ARRAY_SORT_GRAN", type := .int, accessFlags := 26, slot := 0, constantValue := 0 }, { name := "INSERTIONSORT_THRESHOLD", type := .int, accessFlags := 26, slot := 1, constantValue := 0 }, { name := "$assertionsDisabled", type := .boolean, accessFlags := 4120, slot := 2, constantValue := 0 }]
  methods := #[k16m0, k16m1, k16m2, k16m3]
  instanceTypes := #[]
  staticTypes := #[.int, .int, .boolean]
  resolved := Array.replicate 1029 none
  statics := none }

def pool17 : Array CpInfo := pool [(1, .class_ 2), (0, u "java/lang/Math"), (1, .class_ 6), (1, u "java/lang/Object"), (0, u "<init>"), (0, u "()V"), (89, .class_ 100), (1, u "java/lang/Math$RandomNumberGeneratorHolder"), (71, u "negativeZeroFloatBits"), (0, u "J"), (2, u "negativeZeroDoubleBits"), (24, u "min"), (43, u "$assertionsDisabled"), (0, u "Z"), (88, u "(II)I"), (2, u "twoToTheDoubleScaleDown"), (0, u "D"), (4, u "twoToTheDoubleScaleUp"), (9, u "E"), (3, u "PI"), (2, u "TAU"), (2, u "DEGREES_TO_RADIANS"), (0, u "RADIANS_TO_DEGREES")] 94

def k17m0 : Method := { name := "<init>", desc := "()V", sig := { parameters := [], returnType := none }, accessFlags := 2, code := none }
def k17c1 : Code := { maxStack := 2, maxLocals := 2, code := jdk_29_method_69_code, exceptionTable := #[], attributes := #[] }
def k17m1 : Method := { name := "min", desc := "(II)I", sig := { parameters := [.int, .int], returnType := some .int }, accessFlags := 9, code := some k17c1 }
/-- java/lang/Math -/
def k17 : Class := { plain "java/lang/Math" (some 0) with
  accessFlags := 49
  interfaces := #[]
  cf := some (fileOf pool17 1 #[.nestMembers #[98]] #[{ accessFlags := 2, nameIndex := 7, descriptorIndex := 8, attributes := #[] }, { accessFlags := 9, nameIndex := 201, descriptorIndex := 335, attributes := #[] }] 49 4 #[] #[{ accessFlags := 25, nameIndex := 354, descriptorIndex := 339, attributes := #[] }, { accessFlags := 25, nameIndex := 358, descriptorIndex := 339, attributes := #[] }, { accessFlags := 25, nameIndex := 361, descriptorIndex := 339, attributes := #[] }, { accessFlags := 26, nameIndex := 364, descriptorIndex := 339, attributes := #[] }, { accessFlags := 26, nameIndex := 365, descriptorIndex := 339, attributes := #[] }, { accessFlags := 26, nameIndex := 172, descriptorIndex := 173, attributes := #[] }, { accessFlags := 26, nameIndex := 176, descriptorIndex := 173, attributes := #[] }, { accessFlags := 8, nameIndex := 344, descriptorIndex := 339, attributes := #[] }, { accessFlags := 8, nameIndex := 338, descriptorIndex := 339, attributes := #[] }, { accessFlags := 4120, nameIndex := 245, descriptorIndex := 246, attributes := #[] }])
  fields := #[{ name := "E", type := .double, accessFlags := 25, slot := 0, constantValue := 0 }, { name := "PI", type := .double, accessFlags := 25, slot := 1, constantValue := 0 }, { name := "TAU", type := .double, accessFlags := 25, slot := 2, constantValue := 0 }, { name := "DEGREES_TO_RADIANS", type := .double, accessFlags := 26, slot := 3, constantValue := 0 }, { name := "RADIANS_TO_DEGREES", type := .double, accessFlags := 26, slot := 4, constantValue := 0 }, { name := "negativeZeroFloatBits", type := .long, accessFlags := 26, slot := 5, constantValue := 0 }, { name := "negativeZeroDoubleBits", type := .long, accessFlags := 26, slot := 6, constantValue := 0 }, { name := "twoToTheDoubleScaleUp", type := .double, accessFlags := 8, slot := 7, constantValue := 0 }, { name := "twoToTheDoubleScaleDown", type := .double, accessFlags := 8, slot := 8, constantValue := 0 }, { name := "$assertionsDisabled", type := .boolean, accessFlags := 4120, slot := 9, constantValue := 0 }]
  methods := #[k17m0, k17m1]
  instanceTypes := #[]
  staticTypes := #[.double, .double, .double, .double, .double, .long, .long, .double, .double, .boolean]
  resolved := Array.replicate 460 none
  statics := none }

def pool18 : Array CpInfo := pool [(2, .class_ 4), (1, u "java/lang/Object"), (0, u "<init>"), (0, u "()V"), (1, .class_ 10), (1, u "java/lang/System"), (0, u "allowSecurityManager"), (0, u "I"), (16, u "cons"), (0, u "Ljava/io/Console;"), (77, .class_ 110), (1, u "java/lang/System$CallersHolder"), (43, u "initialErrStream"), (0, u "Ljava/io/PrintStream;"), (19, u "security"), (0, u "Ljava/lang/SecurityManager;"), (31, .class_ 209), (0, u "java/lang/System$1"), (7, u "props"), (0, u "Ljava/util/Properties;"), (2, u "lineSeparator"), (0, u "Ljava/lang/String;"), (96, .class_ 321), (1, u "java/lang/System$LoggerFinder"), (5, .class_ 328), (0, u "java/lang/System$Logger"), (67, u "err"), (2, u "out"), (91, u "notSupportedJnuEncoding"), (15, u "in"), (17, u "initialIn"), (0, u "Ljava/io/InputStream;"), (35, u "bootLayer"), (0, u "Ljava/lang/ModuleLayer;"), (99, .class_ 664), (0, u "java/lang/System$2"), (9, u "NEVER"), (2, u "MAYBE"), (49, u "arraycopy"), (0, u "(Ljava/lang/Object;ILjava/lang/Object;II)V"), (72, .class_ 802), (0, u "java/lang/System$Logger$Level")] 31

def k18m0 : Method := { name := "<init>", desc := "()V", sig := { parameters := [], returnType := none }, accessFlags := 2, code := none }
def k18m1 : Method := { name := "arraycopy", desc := "(Ljava/lang/Object;ILjava/lang/Object;II)V", sig := { parameters := [(.object "java/lang/Object"), .int, (.object "java/lang/Object"), .int, .int], returnType := none }, accessFlags := 265, code := none }
/-- java/lang/System -/
def k18 : Class := { plain "java/lang/System" (some 0) with
  accessFlags := 49
  interfaces := #[]
  cf := some (fileOf pool18 8 #[.nestMembers #[319, 327, 801, 108, 663, 208]] #[{ accessFlags := 2, nameIndex := 5, descriptorIndex := 6, attributes := #[] }, { accessFlags := 265, nameIndex := 727, descriptorIndex := 728, attributes := #[] }] 49 2 #[] #[{ accessFlags := 25, nameIndex := 507, descriptorIndex := 526, attributes := #[] }, { accessFlags := 25, nameIndex := 399, descriptorIndex := 155, attributes := #[] }, { accessFlags := 25, nameIndex := 396, descriptorIndex := 155, attributes := #[] }, { accessFlags := 10, nameIndex := 525, descriptorIndex := 526, attributes := #[] }, { accessFlags := 26, nameIndex := 674, descriptorIndex := 12, attributes := #[] }, { accessFlags := 26, nameIndex := 677, descriptorIndex := 12, attributes := #[] }, { accessFlags := 10, nameIndex := 11, descriptorIndex := 12, attributes := #[] }, { accessFlags := 74, nameIndex := 175, descriptorIndex := 176, attributes := #[] }, { accessFlags := 10, nameIndex := 491, descriptorIndex := 222, attributes := #[] }, { accessFlags := 74, nameIndex := 29, descriptorIndex := 30, attributes := #[] }, { accessFlags := 74, nameIndex := 154, descriptorIndex := 155, attributes := #[] }, { accessFlags := 10, nameIndex := 217, descriptorIndex := 218, attributes := #[] }, { accessFlags := 10, nameIndex := 221, descriptorIndex := 222, attributes := #[] }, { accessFlags := 8, nameIndex := 562, descriptorIndex := 563, attributes := #[] }])
  fields := #[{ name := "in", type := (.object "java/io/InputStream"), accessFlags := 25, slot := 0, constantValue := 0 }, { name := "out", type := (.object "java/io/PrintStream"), accessFlags := 25, slot := 1, constantValue := 0 }, { name := "err", type := (.object "java/io/PrintStream"), accessFlags := 25, slot := 2, constantValue := 0 }, { name := "initialIn", type := (.object "java/io/InputStream"), accessFlags := 10, slot := 3, constantValue := 0 }, { name := "NEVER", type := .int, accessFlags := 26, slot := 4, constantValue := 0 }, { name := "MAYBE", type := .int, accessFlags := 26, slot := 5, constantValue := 0 }, { name := "allowSecurityManager", type := .int, accessFlags := 10, slot := 6, constantValue := 0 }, { name := "security", type := (.object "java/lang/SecurityManager"), accessFlags := 74, slot := 7, constantValue := 0 }, { name := "notSupportedJnuEncoding", type := (.object "java/lang/String"), accessFlags := 10, slot := 8, constantValue := 0 }, { name := "cons", type := (.object "java/io/Console"), accessFlags := 74, slot := 9, constantValue := 0 }, { name := "initialErrStream", type := (.object "java/io/PrintStream"), accessFlags := 74, slot := 10, constantValue := 0 }, { name := "props", type := (.object "java/util/Properties"), accessFlags := 10, slot := 11, constantValue := 0 }, { name := "lineSeparator", type := (.object "java/lang/String"), accessFlags := 10, slot := 12, constantValue := 0 }, { name := "bootLayer", type := (.object "java/lang/ModuleLayer"), accessFlags := 8, slot := 13, constantValue := 0 }]
  methods := #[k18m0, k18m1]
  instanceTypes := #[]
  staticTypes := #[(.object "java/io/InputStream"), (.object "java/io/PrintStream"), (.object "java/io/PrintStream"), (.object "java/io/InputStream"), .int, .int, .int, (.object "java/lang/SecurityManager"), (.object "java/lang/String"), (.object "java/io/Console"), (.object "java/io/PrintStream"), (.object "java/util/Properties"), (.object "java/lang/String"), (.object "java/lang/ModuleLayer")]
  resolved := Array.replicate 834 none
  statics := none }

def pool19 : Array CpInfo := pool [(9, u "<init>"), (6, .class_ 18), (1, u "java/lang/Object"), (0, u "()V"), (1, .class_ 23), (1, u "jdk/internal/util/ArraysSupport"), (0, u "LOG2_ARRAY_LONG_INDEX_SCALE"), (0, u "I"), (2, u "U"), (0, u "Ljdk/internal/misc/Unsafe;"), (8, u "BIG_ENDIAN"), (0, u "Z"), (8, u "LOG2_BYTE_BIT_SIZE"), (4, u "LOG2_ARRAY_INT_INDEX_SCALE"), (54, u "JLA"), (0, u "Ljdk/internal/access/JavaLangAccess;"), (11, u "LOG2_ARRAY_BOOLEAN_INDEX_SCALE"), (9, u "LOG2_ARRAY_BYTE_INDEX_SCALE"), (5, u "LOG2_ARRAY_CHAR_INDEX_SCALE"), (5, u "LOG2_ARRAY_SHORT_INDEX_SCALE"), (18, u "LOG2_ARRAY_FLOAT_INDEX_SCALE"), (24, u "LOG2_ARRAY_DOUBLE_INDEX_SCALE"), (89, u "T_BOOLEAN"), (2, u "T_CHAR"), (1, u "T_FLOAT"), (1, u "T_DOUBLE"), (1, u "T_BYTE"), (1, u "T_SHORT"), (1, u "T_INT"), (1, u "T_LONG"), (1, u "SOFT_MAX_ARRAY_LENGTH")] 83

def k19m0 : Method := { name := "<init>", desc := "()V", sig := { parameters := [], returnType := none }, accessFlags := 2, code := none }
/-- jdk/internal/util/ArraysSupport -/
def k19 : Class := { plain "jdk/internal/util/ArraysSupport" (some 0) with
  accessFlags := 33
  interfaces := #[]
  cf := some (fileOf pool19 21 #[] #[{ accessFlags := 2, nameIndex := 9, descriptorIndex := 19, attributes := #[] }] 33 16 #[] #[{ accessFlags := 24, nameIndex := 28, descriptorIndex := 29, attributes := #[] }, { accessFlags := 26, nameIndex := 38, descriptorIndex := 39, attributes := #[] }, { accessFlags := 25, nameIndex := 121, descriptorIndex := 25, attributes := #[] }, { accessFlags := 25, nameIndex := 131, descriptorIndex := 25, attributes := #[] }, { accessFlags := 25, nameIndex := 137, descriptorIndex := 25, attributes := #[] }, { accessFlags := 25, nameIndex := 143, descriptorIndex := 25, attributes := #[] }, { accessFlags := 25, nameIndex := 53, descriptorIndex := 25, attributes := #[] }, { accessFlags := 25, nameIndex := 24, descriptorIndex := 25, attributes := #[] }, { accessFlags := 25, nameIndex := 162, descriptorIndex := 25, attributes := #[] }, { accessFlags := 25, nameIndex := 187, descriptorIndex := 25, attributes := #[] }, { accessFlags := 26, nameIndex := 48, descriptorIndex := 25, attributes := #[] }, { accessFlags := 25, nameIndex := 277, descriptorIndex := 25, attributes := #[] }, { accessFlags := 25, nameIndex := 280, descriptorIndex := 25, attributes := #[] }, { accessFlags := 25, nameIndex := 282, descriptorIndex := 25, attributes := #[] }, { accessFlags := 25, nameIndex := 284, descriptorIndex := 25, attributes := #[] }, { accessFlags := 25, nameIndex := 286, descriptorIndex := 25, attributes := #[] }, { accessFlags := 25, nameIndex := 288, descriptorIndex := 25, attributes := #[] }, { accessFlags := 25, nameIndex := 290, descriptorIndex := 25, attributes := #[] }, { accessFlags := 25, nameIndex := 292, descriptorIndex := 25, attributes := #[] }, { accessFlags := 26, nameIndex := 108, descriptorIndex := 109, attributes := #[] }, { accessFlags := 25, nameIndex := 294, descriptorIndex := 25, attributes := #[] }])
  fields := #[{ name := "U", type := (.object "jdk/internal/misc/Unsafe"), accessFlags := 24, slot := 0, constantValue := 0 }, { name := "BIG_ENDIAN", type := .boolean, accessFlags := 26, slot := 1, constantValue := 0 }, { name := "LOG2_ARRAY_BOOLEAN_INDEX_SCALE", type := .int, accessFlags := 25, slot := 2, constantValue := 0 }, { name := "LOG2_ARRAY_BYTE_INDEX_SCALE", type := .int, accessFlags := 25, slot := 3, constantValue := 0 }, { name := "LOG2_ARRAY_CHAR_INDEX_SCALE", type := .int, accessFlags := 25, slot := 4, constantValue := 0 }, { name := "LOG2_ARRAY_SHORT_INDEX_SCALE", type := .int, accessFlags := 25, slot := 5, constantValue := 0 }, { name := "LOG2_ARRAY_INT_INDEX_SCALE", type := .int, accessFlags := 25, slot := 6, constantValue := 0 }, { name := "LOG2_ARRAY_LONG_INDEX_SCALE", type := .int, accessFlags := 25, slot := 7, constantValue := 0 }, { name := "LOG2_ARRAY_FLOAT_INDEX_SCALE", type := .int, accessFlags := 25, slot := 8, constantValue := 0 }, { name := "LOG2_ARRAY_DOUBLE_INDEX_SCALE", type := .int, accessFlags := 25, slot := 9, constantValue := 0 }, { name := "LOG2_BYTE_BIT_SIZE", type := .int, accessFlags := 26, slot := 10, constantValue := 0 }, { name := "T_BOOLEAN", type := .int, accessFlags := 25, slot := 11, constantValue := 0 }, { name := "T_CHAR", type := .int, accessFlags := 25, slot := 12, constantValue := 0 }, { name := "T_FLOAT", type := .int, accessFlags := 25, slot := 13, constantValue := 0 }, { name := "T_DOUBLE", type := .int, accessFlags := 25, slot := 14, constantValue := 0 }, { name := "T_BYTE", type := .int, accessFlags := 25, slot := 15, constantValue := 0 }, { name := "T_SHORT", type := .int, accessFlags := 25, slot := 16, constantValue := 0 }, { name := "T_INT", type := .int, accessFlags := 25, slot := 17, constantValue := 0 }, { name := "T_LONG", type := .int, accessFlags := 25, slot := 18, constantValue := 0 }, { name := "JLA", type := (.object "jdk/internal/access/JavaLangAccess"), accessFlags := 26, slot := 19, constantValue := 0 }, { name := "SOFT_MAX_ARRAY_LENGTH", type := .int, accessFlags := 25, slot := 20, constantValue := 0 }]
  methods := #[k19m0]
  instanceTypes := #[]
  staticTypes := #[(.object "jdk/internal/misc/Unsafe"), .boolean, .int, .int, .int, .int, .int, .int, .int, .int, .int, .int, .int, .int, .int, .int, .int, .int, .int, (.object "jdk/internal/access/JavaLangAccess"), .int]
  resolved := Array.replicate 378 none
  statics := none }

def pool20 : Array CpInfo := pool [(1, u "java/lang/Cloneable"), (0, .class_ 1), (0, u "java/lang/Object"), (0, .class_ 3)] 3

/-- java/lang/Cloneable -/
def k20 : Class := { plain "java/lang/Cloneable" (some 0) with
  accessFlags := 1537
  interfaces := #[]
  cf := some (fileOf pool20 2 #[] #[] 1537 4 #[] #[])
  fields := #[]
  methods := #[]
  instanceTypes := #[]
  staticTypes := #[]
  resolved := Array.replicate 8 none
  statics := none }

/-- the primitive byte -/
def k21 : Class := { plain "byte" none with kind := .primitive 'B', accessFlags := 0x411 }
/-- [B -/
def k22 : Class := { plain "[B" (some 0) with kind := .array 21 .byte, interfaces := #[20, 2], accessFlags := 1041 }

/-- the primitive char -/
def k23 : Class := { plain "char" none with kind := .primitive 'C', accessFlags := 0x411 }
/-- [C -/
def k24 : Class := { plain "[C" (some 0) with kind := .array 23 .char, interfaces := #[20, 2], accessFlags := 1041 }

/-- the primitive int -/
def k25 : Class := { plain "int" none with kind := .primitive 'I', accessFlags := 0x411 }
/-- [I -/
def k26 : Class := { plain "[I" (some 0) with kind := .array 25 .int, interfaces := #[20, 2], accessFlags := 1041 }

def heap : Heap := #[{ cls := 7, slots := #[.long 0, .int 1, .null, .int 0, .null, .int 0, .int 0], vm := .statics 7 },
  { cls := 15, slots := #[.null, .null, .null], vm := .statics 15 }]
def classes : Array Class := #[k0, k1, k2, k3, k4, k5, k6, k7, k8, k9, k10, k11, k12, k13, k14, k15, k16, k17, k18, k19, k20, k21, k22, k23, k24, k25, k26]
def interned : List (Array UInt16 × Addr) := []
def slotsUsed : Nat := 10
def theMethod : MethodId := ⟨1, 1⟩
def args0 : Array Value := #[.int 5, .int 5, .int 5]
def aboutOver (below : List Frame) : State where
  vm := { classes := classes, interned := interned.toArray }
  heap := heap
  slotsUsed := slotsUsed
  threads := #[{ frames := .invoking theMethod args0 :: below }]
def below0 : List Frame := [.native { method := ⟨0, 0⟩, args := #[] }]
def about1 : State := aboutOver below0
def p0 : Program := .bare "" "" ""
def e0 : Env := launch0.env 0 0 0
theorem w_frames : about1.frames = Frame.invoking theMethod args0 :: below0 := rfl
set_option maxRecDepth 65536 in
theorem w_args : argsFit about1.vm theMethod args0 = true := by decide +kernel
set_option maxRecDepth 65536 in
theorem w_heap : heapFits about1 = true := by decide +kernel
set_option maxRecDepth 65536 in
theorem w_runnable : about1.curStatus? = some .runnable := by decide +kernel
set_option maxRecDepth 65536 in
theorem w_alone : about1.alone = true := by decide +kernel
set_option maxRecDepth 65536 in
theorem w_named : about1.methodNamed? x = some theMethod := by decide +kernel
set_option maxRecDepth 65536 in
theorem w_hears : about1.hears theMethod below0 = true := by decide +kernel
set_option maxRecDepth 65536 in
theorem w_ripe : about1.ripe theMethod args0 below0 = true := by decide +kernel
theorem w_running : about1.status = .running := rfl
set_option maxRecDepth 65536 in
theorem w_room : about1.hasRoom e0.platform room_1 = true :=
  launch0.hasRoom_least _ room_1 (by decide +kernel) (by decide +kernel) (by decide +kernel) (by decide +kernel) (by decide +kernel) (by decide +kernel)
theorem allAtoms_all (ts : List Jvm.Cond) (a : Array Jvm.Value) (st : Jvm.State) : (allAtoms ts).before a st = ts.all (fun c => c.before a st) := by
  induction ts with
  | nil => rfl
  | cons c t ih =>
    show (Jvm.Cond.and c (allAtoms t)).before a st = _
    rw [Jvm.Cond.before_and, ih, List.all_cons]
def words1 : List Jvm.Cond := Jvm.Cond.code x code maxLocals ret :: tables_1
/-- a 'code' word, met by the world's own term for the bytes: nothing is compared byte by byte -/
theorem code_word {y : MethodName} {bytes : ByteArray} {mx : Nat} {rt : Option FieldType} {a : Array Value} {s : State} {m : MethodId} {meth : Method} {c : Code} (h1 : s.methodNamed? y = some m) (h2 : s.vm.method? m = some meth) (h3 : meth.code = some c) (h4 : c.code = bytes)
    (h5 : (c.maxLocals == mx && c.exceptionTable.isEmpty && decide (c.maxStack ≤ mostOperands) && decide (meth.sig.returnType = rt) && !meth.locks && decide (parseMethodDescriptor y.desc = some meth.sig)) = true) : (Jvm.Cond.code y bytes mx rt).before a s = true := by
  simp only [Bool.and_eq_true, beq_iff_eq, Bool.not_eq_true', decide_eq_true_eq] at h5
  obtain ⟨⟨⟨⟨⟨g1, g2⟩, g3⟩, g4⟩, g5⟩, g6⟩ := h5
  simp [Cond.before, Cond.holds, Cond.value, h1, h2, h3, h4, g1, g2, g3, g4, g5, g6]
def isCode : Jvm.Cond → Bool
  | .code _ _ _ _ => true
  | _ => false
theorem all_split {L : List Jvm.Cond} {P : Jvm.Cond → Bool} (h1 : L.all (fun c => isCode c || P c) = true) (h2 : ∀ c ∈ L.filter isCode, P c = true) : L.all P = true := by
  refine List.all_eq_true.mpr fun c hc => ?_
  have h := List.all_eq_true.mp h1 c hc
  rcases Bool.eq_false_or_eq_true (isCode c) with hi | hi
  · exact h2 c (List.mem_filter.mpr ⟨hc, hi⟩)
  · simpa [hi] using h
set_option maxRecDepth 65536 in
theorem w_c0 : (Jvm.Cond.code x code maxLocals ret).before args0 about1 = true := code_word (m := ⟨1, 1⟩) (meth := k1m1) (c := k1c1) (by decide +kernel) rfl rfl rfl (by decide +kernel)
set_option maxRecDepth 65536 in
theorem w_c1 : (Jvm.Cond.code ({ cls := "com/example/kindred/kindred/IdentifierOfTokenPinLaw", name := "ord", desc := "(C)C" } : Jvm.MethodName) method_3_code (1 : Nat) (Option.some Jvm.ClassFile.FieldType.char)).before args0 about1 = true := code_word (m := ⟨1, 2⟩) (meth := k1m2) (c := k1c2) (by decide +kernel) rfl rfl rfl (by decide +kernel)
set_option maxRecDepth 65536 in
theorem w_c2 : (Jvm.Cond.code ({ cls := "java/lang/String", name := "<init>", desc := "([C)V" } : Jvm.MethodName) jdk_42_method_3_code (2 : Nat) (Option.none : Option Jvm.ClassFile.FieldType)).before args0 about1 = true := code_word (m := ⟨7, 1⟩) (meth := k7m1) (c := k7c1) (by decide +kernel) rfl rfl rfl (by decide +kernel)
set_option maxRecDepth 65536 in
theorem w_c3 : (Jvm.Cond.code ({ cls := "java/lang/String", name := "<init>", desc := "([CIILjava/lang/Void;)V" } : Jvm.MethodName) jdk_42_method_149_code (6 : Nat) (Option.none : Option Jvm.ClassFile.FieldType)).before args0 about1 = true := code_word (m := ⟨7, 7⟩) (meth := k7m7) (c := k7c7) (by decide +kernel) rfl rfl rfl (by decide +kernel)
set_option maxRecDepth 65536 in
theorem w_c4 : (Jvm.Cond.code ({ cls := "java/lang/Object", name := "<init>", desc := "()V" } : Jvm.MethodName) object_method_1_code (1 : Nat) (Option.none : Option Jvm.ClassFile.FieldType)).before args0 about1 = true := code_word (m := ⟨0, 0⟩) (meth := k0m0) (c := k0c0) (by decide +kernel) rfl rfl rfl (by decide +kernel)
set_option maxRecDepth 65536 in
theorem w_c5 : (Jvm.Cond.code ({ cls := "java/lang/StringUTF16", name := "compress", desc := "([CII)[B" } : Jvm.MethodName) jdk_52_method_16_code (6 : Nat) (Option.some (Jvm.ClassFile.FieldType.array Jvm.ClassFile.FieldType.byte))).before args0 about1 = true := code_word (m := ⟨8, 2⟩) (meth := k8m2) (c := k8c2) (by decide +kernel) rfl rfl rfl (by decide +kernel)
set_option maxRecDepth 65536 in
theorem w_c6 : (Jvm.Cond.code ({ cls := "java/lang/StringUTF16", name := "compress", desc := "([CI[BII)I" } : Jvm.MethodName) jdk_52_method_21_code (7 : Nat) (Option.some Jvm.ClassFile.FieldType.int)).before args0 about1 = true := code_word (m := ⟨8, 3⟩) (meth := k8m3) (c := k8c3) (by decide +kernel) rfl rfl rfl (by decide +kernel)
set_option maxRecDepth 65536 in
theorem w_c7 : (Jvm.Cond.code ({ cls := "java/lang/StringUTF16", name := "coderFromArrayLen", desc := "([BI)B" } : Jvm.MethodName) jdk_52_method_15_code (2 : Nat) (Option.some Jvm.ClassFile.FieldType.byte)).before args0 about1 = true := code_word (m := ⟨8, 1⟩) (meth := k8m1) (c := k8c1) (by decide +kernel) rfl rfl rfl (by decide +kernel)
set_option maxRecDepth 65536 in
theorem w_c8 : (Jvm.Cond.code ({ cls := "java/lang/String", name := "valueOf", desc := "(C)Ljava/lang/String;" } : Jvm.MethodName) jdk_42_method_139_code (1 : Nat) (Option.some (Jvm.ClassFile.FieldType.object "java/lang/String"))).before args0 about1 = true := code_word (m := ⟨7, 6⟩) (meth := k7m6) (c := k7c6) (by decide +kernel) rfl rfl rfl (by decide +kernel)
set_option maxRecDepth 65536 in
theorem w_c9 : (Jvm.Cond.code ({ cls := "java/lang/StringLatin1", name := "canEncode", desc := "(C)Z" } : Jvm.MethodName) jdk_43_method_3_code (1 : Nat) (Option.some Jvm.ClassFile.FieldType.boolean)).before args0 about1 = true := code_word (m := ⟨9, 2⟩) (meth := k9m2) (c := k9c2) (by decide +kernel) rfl rfl rfl (by decide +kernel)
set_option maxRecDepth 65536 in
theorem w_c10 : (Jvm.Cond.code ({ cls := "java/lang/StringLatin1", name := "toBytes", desc := "(C)[B" } : Jvm.MethodName) jdk_43_method_46_code (1 : Nat) (Option.some (Jvm.ClassFile.FieldType.array Jvm.ClassFile.FieldType.byte))).before args0 about1 = true := code_word (m := ⟨9, 4⟩) (meth := k9m4) (c := k9c4) (by decide +kernel) rfl rfl rfl (by decide +kernel)
set_option maxRecDepth 65536 in
theorem w_c11 : (Jvm.Cond.code ({ cls := "java/lang/String", name := "<init>", desc := "([BB)V" } : Jvm.MethodName) jdk_42_method_151_code (3 : Nat) (Option.none : Option Jvm.ClassFile.FieldType)).before args0 about1 = true := code_word (m := ⟨7, 9⟩) (meth := k7m9) (c := k7c9) (by decide +kernel) rfl rfl rfl (by decide +kernel)
set_option maxRecDepth 65536 in
theorem w_c12 : (Jvm.Cond.code ({ cls := "com/example/kindred/kindred/Identifier", name := "ofToken", desc := "(Ljava/lang/String;Ljava/lang/String;)Lcom/example/kindred/kindred/Identifier;" } : Jvm.MethodName) prog_12_method_3_code (7 : Nat) (Option.some (Jvm.ClassFile.FieldType.object "com/example/kindred/kindred/Identifier"))).before args0 about1 = true := code_word (m := ⟨11, 1⟩) (meth := k11m1) (c := k11c1) (by decide +kernel) rfl rfl rfl (by decide +kernel)
set_option maxRecDepth 65536 in
theorem w_c13 : (Jvm.Cond.code ({ cls := "java/lang/StringBuilder", name := "<init>", desc := "()V" } : Jvm.MethodName) jdk_67_method_1_code (1 : Nat) (Option.none : Option Jvm.ClassFile.FieldType)).before args0 about1 = true := code_word (m := ⟨14, 0⟩) (meth := k14m0) (c := k14c0) (by decide +kernel) rfl rfl rfl (by decide +kernel)
set_option maxRecDepth 65536 in
theorem w_c14 : (Jvm.Cond.code ({ cls := "java/lang/AbstractStringBuilder", name := "<init>", desc := "(I)V" } : Jvm.MethodName) jdk_68_method_2_code (2 : Nat) (Option.none : Option Jvm.ClassFile.FieldType)).before args0 about1 = true := code_word (m := ⟨13, 1⟩) (meth := k13m1) (c := k13c1) (by decide +kernel) rfl rfl rfl (by decide +kernel)
set_option maxRecDepth 65536 in
theorem w_c15 : (Jvm.Cond.code ({ cls := "java/lang/String", name := "length", desc := "()I" } : Jvm.MethodName) jdk_42_method_54_code (1 : Nat) (Option.some Jvm.ClassFile.FieldType.int)).before args0 about1 = true := code_word (m := ⟨7, 3⟩) (meth := k7m3) (c := k7c3) (by decide +kernel) rfl rfl rfl (by decide +kernel)
set_option maxRecDepth 65536 in
theorem w_c16 : (Jvm.Cond.code ({ cls := "java/lang/String", name := "coder", desc := "()B" } : Jvm.MethodName) jdk_42_method_152_code (1 : Nat) (Option.some Jvm.ClassFile.FieldType.byte)).before args0 about1 = true := code_word (m := ⟨7, 10⟩) (meth := k7m10) (c := k7c10) (by decide +kernel) rfl rfl rfl (by decide +kernel)
set_option maxRecDepth 65536 in
theorem w_c17 : (Jvm.Cond.code ({ cls := "java/lang/String", name := "charAt", desc := "(I)C" } : Jvm.MethodName) jdk_42_method_56_code (2 : Nat) (Option.some Jvm.ClassFile.FieldType.char)).before args0 about1 = true := code_word (m := ⟨7, 4⟩) (meth := k7m4) (c := k7c4) (by decide +kernel) rfl rfl rfl (by decide +kernel)
set_option maxRecDepth 65536 in
theorem w_c18 : (Jvm.Cond.code ({ cls := "java/lang/String", name := "isLatin1", desc := "()Z" } : Jvm.MethodName) jdk_42_method_154_code (1 : Nat) (Option.some Jvm.ClassFile.FieldType.boolean)).before args0 about1 = true := code_word (m := ⟨7, 11⟩) (meth := k7m11) (c := k7c11) (by decide +kernel) rfl rfl rfl (by decide +kernel)
set_option maxRecDepth 65536 in
theorem w_c19 : (Jvm.Cond.code ({ cls := "java/lang/StringLatin1", name := "charAt", desc := "([BI)C" } : Jvm.MethodName) jdk_43_method_2_code (2 : Nat) (Option.some Jvm.ClassFile.FieldType.char)).before args0 about1 = true := code_word (m := ⟨9, 1⟩) (meth := k9m1) (c := k9c1) (by decide +kernel) rfl rfl rfl (by decide +kernel)
set_option maxRecDepth 65536 in
theorem w_c20 : (Jvm.Cond.code ({ cls := "java/lang/String", name := "checkIndex", desc := "(II)V" } : Jvm.MethodName) jdk_42_method_155_code (2 : Nat) (Option.none : Option Jvm.ClassFile.FieldType)).before args0 about1 = true := code_word (m := ⟨7, 12⟩) (meth := k7m12) (c := k7c12) (by decide +kernel) rfl rfl rfl (by decide +kernel)
set_option maxRecDepth 65536 in
theorem w_c21 : (Jvm.Cond.code ({ cls := "jdk/internal/util/Preconditions", name := "checkIndex", desc := "(IILjava/util/function/BiFunction;)I" } : Jvm.MethodName) jdk_41_method_11_code (3 : Nat) (Option.some Jvm.ClassFile.FieldType.int)).before args0 about1 = true := code_word (m := ⟨15, 1⟩) (meth := k15m1) (c := k15c1) (by decide +kernel) rfl rfl rfl (by decide +kernel)
set_option maxRecDepth 65536 in
theorem w_c22 : (Jvm.Cond.code ({ cls := "java/lang/StringBuilder", name := "append", desc := "(C)Ljava/lang/StringBuilder;" } : Jvm.MethodName) jdk_67_method_14_code (2 : Nat) (Option.some (Jvm.ClassFile.FieldType.object "java/lang/StringBuilder"))).before args0 about1 = true := code_word (m := ⟨14, 1⟩) (meth := k14m1) (c := k14c1) (by decide +kernel) rfl rfl rfl (by decide +kernel)
set_option maxRecDepth 65536 in
theorem w_c23 : (Jvm.Cond.code ({ cls := "java/lang/AbstractStringBuilder", name := "append", desc := "(C)Ljava/lang/AbstractStringBuilder;" } : Jvm.MethodName) jdk_68_method_31_code (2 : Nat) (Option.some (Jvm.ClassFile.FieldType.object "java/lang/AbstractStringBuilder"))).before args0 about1 = true := code_word (m := ⟨13, 4⟩) (meth := k13m4) (c := k13c4) (by decide +kernel) rfl rfl rfl (by decide +kernel)
set_option maxRecDepth 65536 in
theorem w_c24 : (Jvm.Cond.code ({ cls := "java/lang/AbstractStringBuilder", name := "ensureCapacityInternal", desc := "(I)V" } : Jvm.MethodName) jdk_68_method_9_code (3 : Nat) (Option.none : Option Jvm.ClassFile.FieldType)).before args0 about1 = true := code_word (m := ⟨13, 3⟩) (meth := k13m3) (c := k13c3) (by decide +kernel) rfl rfl rfl (by decide +kernel)
set_option maxRecDepth 65536 in
theorem w_c25 : (Jvm.Cond.code ({ cls := "java/lang/AbstractStringBuilder", name := "isLatin1", desc := "()Z" } : Jvm.MethodName) jdk_68_method_68_code (1 : Nat) (Option.some Jvm.ClassFile.FieldType.boolean)).before args0 about1 = true := code_word (m := ⟨13, 6⟩) (meth := k13m6) (c := k13c6) (by decide +kernel) rfl rfl rfl (by decide +kernel)
set_option maxRecDepth 65536 in
theorem w_c26 : (Jvm.Cond.code ({ cls := "java/lang/StringBuilder", name := "length", desc := "()I" } : Jvm.MethodName) jdk_67_method_93_code (1 : Nat) (Option.some Jvm.ClassFile.FieldType.int)).before args0 about1 = true := code_word (m := ⟨14, 3⟩) (meth := k14m3) (c := k14c3) (by decide +kernel) rfl rfl rfl (by decide +kernel)
set_option maxRecDepth 65536 in
theorem w_c27 : (Jvm.Cond.code ({ cls := "java/lang/AbstractStringBuilder", name := "length", desc := "()I" } : Jvm.MethodName) jdk_68_method_6_code (1 : Nat) (Option.some Jvm.ClassFile.FieldType.int)).before args0 about1 = true := code_word (m := ⟨13, 2⟩) (meth := k13m2) (c := k13c2) (by decide +kernel) rfl rfl rfl (by decide +kernel)
set_option maxRecDepth 65536 in
theorem w_c28 : (Jvm.Cond.code ({ cls := "java/lang/StringBuilder", name := "toString", desc := "()Ljava/lang/String;" } : Jvm.MethodName) jdk_67_method_42_code (1 : Nat) (Option.some (Jvm.ClassFile.FieldType.object "java/lang/String"))).before args0 about1 = true := code_word (m := ⟨14, 2⟩) (meth := k14m2) (c := k14c2) (by decide +kernel) rfl rfl rfl (by decide +kernel)
set_option maxRecDepth 65536 in
theorem w_c29 : (Jvm.Cond.code ({ cls := "java/lang/String", name := "<init>", desc := "(Ljava/lang/StringBuilder;)V" } : Jvm.MethodName) jdk_42_method_53_code (2 : Nat) (Option.none : Option Jvm.ClassFile.FieldType)).before args0 about1 = true := code_word (m := ⟨7, 2⟩) (meth := k7m2) (c := k7c2) (by decide +kernel) rfl rfl rfl (by decide +kernel)
set_option maxRecDepth 65536 in
theorem w_c30 : (Jvm.Cond.code ({ cls := "java/lang/String", name := "<init>", desc := "(Ljava/lang/AbstractStringBuilder;Ljava/lang/Void;)V" } : Jvm.MethodName) jdk_42_method_150_code (5 : Nat) (Option.none : Option Jvm.ClassFile.FieldType)).before args0 about1 = true := code_word (m := ⟨7, 8⟩) (meth := k7m8) (c := k7c8) (by decide +kernel) rfl rfl rfl (by decide +kernel)
set_option maxRecDepth 65536 in
theorem w_c31 : (Jvm.Cond.code ({ cls := "java/lang/AbstractStringBuilder", name := "getValue", desc := "()[B" } : Jvm.MethodName) jdk_68_method_64_code (1 : Nat) (Option.some (Jvm.ClassFile.FieldType.array Jvm.ClassFile.FieldType.byte))).before args0 about1 = true := code_word (m := ⟨13, 5⟩) (meth := k13m5) (c := k13c5) (by decide +kernel) rfl rfl rfl (by decide +kernel)
set_option maxRecDepth 65536 in
theorem w_c32 : (Jvm.Cond.code ({ cls := "java/util/Arrays", name := "copyOfRange", desc := "([BII)[B" } : Jvm.MethodName) jdk_65_method_132_code (3 : Nat) (Option.some (Jvm.ClassFile.FieldType.array Jvm.ClassFile.FieldType.byte))).before args0 about1 = true := code_word (m := ⟨16, 2⟩) (meth := k16m2) (c := k16c2) (by decide +kernel) rfl rfl rfl (by decide +kernel)
set_option maxRecDepth 65536 in
theorem w_c33 : (Jvm.Cond.code ({ cls := "java/util/Arrays", name := "copyOfRangeByte", desc := "([BII)[B" } : Jvm.MethodName) jdk_65_method_133_code (5 : Nat) (Option.some (Jvm.ClassFile.FieldType.array Jvm.ClassFile.FieldType.byte))).before args0 about1 = true := code_word (m := ⟨16, 3⟩) (meth := k16m3) (c := k16c3) (by decide +kernel) rfl rfl rfl (by decide +kernel)
set_option maxRecDepth 65536 in
theorem w_c34 : (Jvm.Cond.code ({ cls := "java/util/Arrays", name := "checkLength", desc := "(II)V" } : Jvm.MethodName) jdk_65_method_131_code (2 : Nat) (Option.none : Option Jvm.ClassFile.FieldType)).before args0 about1 = true := code_word (m := ⟨16, 1⟩) (meth := k16m1) (c := k16c1) (by decide +kernel) rfl rfl rfl (by decide +kernel)
set_option maxRecDepth 65536 in
theorem w_c35 : (Jvm.Cond.code ({ cls := "java/lang/Math", name := "min", desc := "(II)I" } : Jvm.MethodName) jdk_29_method_69_code (2 : Nat) (Option.some Jvm.ClassFile.FieldType.int)).before args0 about1 = true := code_word (m := ⟨17, 1⟩) (meth := k17m1) (c := k17c1) (by decide +kernel) rfl rfl rfl (by decide +kernel)
set_option maxRecDepth 65536 in
theorem w_c36 : (Jvm.Cond.code ({ cls := "com/example/kindred/kindred/Identifier", name := "<init>", desc := "(Ljava/lang/String;Ljava/lang/String;)V" } : Jvm.MethodName) prog_12_method_1_code (3 : Nat) (Option.none : Option Jvm.ClassFile.FieldType)).before args0 about1 = true := code_word (m := ⟨11, 0⟩) (meth := k11m0) (c := k11c0) (by decide +kernel) rfl rfl rfl (by decide +kernel)
set_option maxRecDepth 65536 in
theorem w_c37 : (Jvm.Cond.code ({ cls := "java/lang/Record", name := "<init>", desc := "()V" } : Jvm.MethodName) jdk_30_method_1_code (1 : Nat) (Option.none : Option Jvm.ClassFile.FieldType)).before args0 about1 = true := code_word (m := ⟨10, 0⟩) (meth := k10m0) (c := k10c0) (by decide +kernel) rfl rfl rfl (by decide +kernel)
set_option maxRecDepth 65536 in
theorem w_c38 : (Jvm.Cond.code ({ cls := "com/example/kindred/kindred/Identifier", name := "system", desc := "()Ljava/lang/String;" } : Jvm.MethodName) prog_12_method_10_code (1 : Nat) (Option.some (Jvm.ClassFile.FieldType.object "java/lang/String"))).before args0 about1 = true := code_word (m := ⟨11, 2⟩) (meth := k11m2) (c := k11c2) (by decide +kernel) rfl rfl rfl (by decide +kernel)
set_option maxRecDepth 65536 in
theorem w_c39 : (Jvm.Cond.code ({ cls := "java/lang/String", name := "equals", desc := "(Ljava/lang/Object;)Z" } : Jvm.MethodName) jdk_42_method_66_code (3 : Nat) (Option.some Jvm.ClassFile.FieldType.boolean)).before args0 about1 = true := code_word (m := ⟨7, 5⟩) (meth := k7m5) (c := k7c5) (by decide +kernel) rfl rfl rfl (by decide +kernel)
set_option maxRecDepth 65536 in
theorem w_c40 : (Jvm.Cond.code ({ cls := "java/lang/StringLatin1", name := "equals", desc := "([B[B)Z" } : Jvm.MethodName) jdk_43_method_13_code (3 : Nat) (Option.some Jvm.ClassFile.FieldType.boolean)).before args0 about1 = true := code_word (m := ⟨9, 3⟩) (meth := k9m3) (c := k9c3) (by decide +kernel) rfl rfl rfl (by decide +kernel)
set_option maxRecDepth 65536 in
theorem w_c41 : (Jvm.Cond.code ({ cls := "com/example/kindred/kindred/Identifier", name := "value", desc := "()Ljava/lang/String;" } : Jvm.MethodName) prog_12_method_11_code (1 : Nat) (Option.some (Jvm.ClassFile.FieldType.object "java/lang/String"))).before args0 about1 = true := code_word (m := ⟨11, 3⟩) (meth := k11m3) (c := k11c3) (by decide +kernel) rfl rfl rfl (by decide +kernel)
def codes1 : List Jvm.Cond := [Jvm.Cond.code x code maxLocals ret, Jvm.Cond.code ({ cls := "com/example/kindred/kindred/IdentifierOfTokenPinLaw", name := "ord", desc := "(C)C" } : Jvm.MethodName) method_3_code (1 : Nat) (Option.some Jvm.ClassFile.FieldType.char), Jvm.Cond.code ({ cls := "java/lang/String", name := "<init>", desc := "([C)V" } : Jvm.MethodName) jdk_42_method_3_code (2 : Nat) (Option.none : Option Jvm.ClassFile.FieldType), Jvm.Cond.code ({ cls := "java/lang/String", name := "<init>", desc := "([CIILjava/lang/Void;)V" } : Jvm.MethodName) jdk_42_method_149_code (6 : Nat) (Option.none : Option Jvm.ClassFile.FieldType), Jvm.Cond.code ({ cls := "java/lang/Object", name := "<init>", desc := "()V" } : Jvm.MethodName) object_method_1_code (1 : Nat) (Option.none : Option Jvm.ClassFile.FieldType), Jvm.Cond.code ({ cls := "java/lang/StringUTF16", name := "compress", desc := "([CII)[B" } : Jvm.MethodName) jdk_52_method_16_code (6 : Nat) (Option.some (Jvm.ClassFile.FieldType.array Jvm.ClassFile.FieldType.byte)), Jvm.Cond.code ({ cls := "java/lang/StringUTF16", name := "compress", desc := "([CI[BII)I" } : Jvm.MethodName) jdk_52_method_21_code (7 : Nat) (Option.some Jvm.ClassFile.FieldType.int), Jvm.Cond.code ({ cls := "java/lang/StringUTF16", name := "coderFromArrayLen", desc := "([BI)B" } : Jvm.MethodName) jdk_52_method_15_code (2 : Nat) (Option.some Jvm.ClassFile.FieldType.byte), Jvm.Cond.code ({ cls := "java/lang/String", name := "valueOf", desc := "(C)Ljava/lang/String;" } : Jvm.MethodName) jdk_42_method_139_code (1 : Nat) (Option.some (Jvm.ClassFile.FieldType.object "java/lang/String")), Jvm.Cond.code ({ cls := "java/lang/StringLatin1", name := "canEncode", desc := "(C)Z" } : Jvm.MethodName) jdk_43_method_3_code (1 : Nat) (Option.some Jvm.ClassFile.FieldType.boolean), Jvm.Cond.code ({ cls := "java/lang/StringLatin1", name := "toBytes", desc := "(C)[B" } : Jvm.MethodName) jdk_43_method_46_code (1 : Nat) (Option.some (Jvm.ClassFile.FieldType.array Jvm.ClassFile.FieldType.byte)), Jvm.Cond.code ({ cls := "java/lang/String", name := "<init>", desc := "([BB)V" } : Jvm.MethodName) jdk_42_method_151_code (3 : Nat) (Option.none : Option Jvm.ClassFile.FieldType), Jvm.Cond.code ({ cls := "com/example/kindred/kindred/Identifier", name := "ofToken", desc := "(Ljava/lang/String;Ljava/lang/String;)Lcom/example/kindred/kindred/Identifier;" } : Jvm.MethodName) prog_12_method_3_code (7 : Nat) (Option.some (Jvm.ClassFile.FieldType.object "com/example/kindred/kindred/Identifier")), Jvm.Cond.code ({ cls := "java/lang/StringBuilder", name := "<init>", desc := "()V" } : Jvm.MethodName) jdk_67_method_1_code (1 : Nat) (Option.none : Option Jvm.ClassFile.FieldType), Jvm.Cond.code ({ cls := "java/lang/AbstractStringBuilder", name := "<init>", desc := "(I)V" } : Jvm.MethodName) jdk_68_method_2_code (2 : Nat) (Option.none : Option Jvm.ClassFile.FieldType), Jvm.Cond.code ({ cls := "java/lang/String", name := "length", desc := "()I" } : Jvm.MethodName) jdk_42_method_54_code (1 : Nat) (Option.some Jvm.ClassFile.FieldType.int), Jvm.Cond.code ({ cls := "java/lang/String", name := "coder", desc := "()B" } : Jvm.MethodName) jdk_42_method_152_code (1 : Nat) (Option.some Jvm.ClassFile.FieldType.byte), Jvm.Cond.code ({ cls := "java/lang/String", name := "charAt", desc := "(I)C" } : Jvm.MethodName) jdk_42_method_56_code (2 : Nat) (Option.some Jvm.ClassFile.FieldType.char), Jvm.Cond.code ({ cls := "java/lang/String", name := "isLatin1", desc := "()Z" } : Jvm.MethodName) jdk_42_method_154_code (1 : Nat) (Option.some Jvm.ClassFile.FieldType.boolean), Jvm.Cond.code ({ cls := "java/lang/StringLatin1", name := "charAt", desc := "([BI)C" } : Jvm.MethodName) jdk_43_method_2_code (2 : Nat) (Option.some Jvm.ClassFile.FieldType.char), Jvm.Cond.code ({ cls := "java/lang/String", name := "checkIndex", desc := "(II)V" } : Jvm.MethodName) jdk_42_method_155_code (2 : Nat) (Option.none : Option Jvm.ClassFile.FieldType), Jvm.Cond.code ({ cls := "jdk/internal/util/Preconditions", name := "checkIndex", desc := "(IILjava/util/function/BiFunction;)I" } : Jvm.MethodName) jdk_41_method_11_code (3 : Nat) (Option.some Jvm.ClassFile.FieldType.int), Jvm.Cond.code ({ cls := "java/lang/StringBuilder", name := "append", desc := "(C)Ljava/lang/StringBuilder;" } : Jvm.MethodName) jdk_67_method_14_code (2 : Nat) (Option.some (Jvm.ClassFile.FieldType.object "java/lang/StringBuilder")), Jvm.Cond.code ({ cls := "java/lang/AbstractStringBuilder", name := "append", desc := "(C)Ljava/lang/AbstractStringBuilder;" } : Jvm.MethodName) jdk_68_method_31_code (2 : Nat) (Option.some (Jvm.ClassFile.FieldType.object "java/lang/AbstractStringBuilder")), Jvm.Cond.code ({ cls := "java/lang/AbstractStringBuilder", name := "ensureCapacityInternal", desc := "(I)V" } : Jvm.MethodName) jdk_68_method_9_code (3 : Nat) (Option.none : Option Jvm.ClassFile.FieldType), Jvm.Cond.code ({ cls := "java/lang/AbstractStringBuilder", name := "isLatin1", desc := "()Z" } : Jvm.MethodName) jdk_68_method_68_code (1 : Nat) (Option.some Jvm.ClassFile.FieldType.boolean), Jvm.Cond.code ({ cls := "java/lang/StringBuilder", name := "length", desc := "()I" } : Jvm.MethodName) jdk_67_method_93_code (1 : Nat) (Option.some Jvm.ClassFile.FieldType.int), Jvm.Cond.code ({ cls := "java/lang/AbstractStringBuilder", name := "length", desc := "()I" } : Jvm.MethodName) jdk_68_method_6_code (1 : Nat) (Option.some Jvm.ClassFile.FieldType.int), Jvm.Cond.code ({ cls := "java/lang/StringBuilder", name := "toString", desc := "()Ljava/lang/String;" } : Jvm.MethodName) jdk_67_method_42_code (1 : Nat) (Option.some (Jvm.ClassFile.FieldType.object "java/lang/String")), Jvm.Cond.code ({ cls := "java/lang/String", name := "<init>", desc := "(Ljava/lang/StringBuilder;)V" } : Jvm.MethodName) jdk_42_method_53_code (2 : Nat) (Option.none : Option Jvm.ClassFile.FieldType), Jvm.Cond.code ({ cls := "java/lang/String", name := "<init>", desc := "(Ljava/lang/AbstractStringBuilder;Ljava/lang/Void;)V" } : Jvm.MethodName) jdk_42_method_150_code (5 : Nat) (Option.none : Option Jvm.ClassFile.FieldType), Jvm.Cond.code ({ cls := "java/lang/AbstractStringBuilder", name := "getValue", desc := "()[B" } : Jvm.MethodName) jdk_68_method_64_code (1 : Nat) (Option.some (Jvm.ClassFile.FieldType.array Jvm.ClassFile.FieldType.byte)), Jvm.Cond.code ({ cls := "java/util/Arrays", name := "copyOfRange", desc := "([BII)[B" } : Jvm.MethodName) jdk_65_method_132_code (3 : Nat) (Option.some (Jvm.ClassFile.FieldType.array Jvm.ClassFile.FieldType.byte)), Jvm.Cond.code ({ cls := "java/util/Arrays", name := "copyOfRangeByte", desc := "([BII)[B" } : Jvm.MethodName) jdk_65_method_133_code (5 : Nat) (Option.some (Jvm.ClassFile.FieldType.array Jvm.ClassFile.FieldType.byte)), Jvm.Cond.code ({ cls := "java/util/Arrays", name := "checkLength", desc := "(II)V" } : Jvm.MethodName) jdk_65_method_131_code (2 : Nat) (Option.none : Option Jvm.ClassFile.FieldType), Jvm.Cond.code ({ cls := "java/lang/Math", name := "min", desc := "(II)I" } : Jvm.MethodName) jdk_29_method_69_code (2 : Nat) (Option.some Jvm.ClassFile.FieldType.int), Jvm.Cond.code ({ cls := "com/example/kindred/kindred/Identifier", name := "<init>", desc := "(Ljava/lang/String;Ljava/lang/String;)V" } : Jvm.MethodName) prog_12_method_1_code (3 : Nat) (Option.none : Option Jvm.ClassFile.FieldType), Jvm.Cond.code ({ cls := "java/lang/Record", name := "<init>", desc := "()V" } : Jvm.MethodName) jdk_30_method_1_code (1 : Nat) (Option.none : Option Jvm.ClassFile.FieldType), Jvm.Cond.code ({ cls := "com/example/kindred/kindred/Identifier", name := "system", desc := "()Ljava/lang/String;" } : Jvm.MethodName) prog_12_method_10_code (1 : Nat) (Option.some (Jvm.ClassFile.FieldType.object "java/lang/String")), Jvm.Cond.code ({ cls := "java/lang/String", name := "equals", desc := "(Ljava/lang/Object;)Z" } : Jvm.MethodName) jdk_42_method_66_code (3 : Nat) (Option.some Jvm.ClassFile.FieldType.boolean), Jvm.Cond.code ({ cls := "java/lang/StringLatin1", name := "equals", desc := "([B[B)Z" } : Jvm.MethodName) jdk_43_method_13_code (3 : Nat) (Option.some Jvm.ClassFile.FieldType.boolean), Jvm.Cond.code ({ cls := "com/example/kindred/kindred/Identifier", name := "value", desc := "()Ljava/lang/String;" } : Jvm.MethodName) prog_12_method_11_code (1 : Nat) (Option.some (Jvm.ClassFile.FieldType.object "java/lang/String"))]
set_option maxRecDepth 65536 in
theorem codes_eq : words1.filter isCode = codes1 := rfl
theorem w_codes : ∀ c ∈ words1.filter isCode, c.before args0 about1 = true := by
  rw [codes_eq]
  intro c hc
  simp only [codes1, List.mem_cons, List.not_mem_nil, or_false] at hc
  rcases hc with rfl | rfl | rfl | rfl | rfl | rfl | rfl | rfl | rfl | rfl | rfl | rfl | rfl | rfl | rfl | rfl | rfl | rfl | rfl | rfl | rfl | rfl | rfl | rfl | rfl | rfl | rfl | rfl | rfl | rfl | rfl | rfl | rfl | rfl | rfl | rfl | rfl | rfl | rfl | rfl | rfl | rfl
  · exact w_c0
  · exact w_c1
  · exact w_c2
  · exact w_c3
  · exact w_c4
  · exact w_c5
  · exact w_c6
  · exact w_c7
  · exact w_c8
  · exact w_c9
  · exact w_c10
  · exact w_c11
  · exact w_c12
  · exact w_c13
  · exact w_c14
  · exact w_c15
  · exact w_c16
  · exact w_c17
  · exact w_c18
  · exact w_c19
  · exact w_c20
  · exact w_c21
  · exact w_c22
  · exact w_c23
  · exact w_c24
  · exact w_c25
  · exact w_c26
  · exact w_c27
  · exact w_c28
  · exact w_c29
  · exact w_c30
  · exact w_c31
  · exact w_c32
  · exact w_c33
  · exact w_c34
  · exact w_c35
  · exact w_c36
  · exact w_c37
  · exact w_c38
  · exact w_c39
  · exact w_c40
  · exact w_c41
set_option maxRecDepth 65536 in
theorem w_t1 : (words1.take 24).all (fun c => isCode c || c.before args0 about1) = true := by decide +kernel
set_option maxRecDepth 65536 in
theorem w_t2 : ((words1.drop 24).take 24).all (fun c => isCode c || c.before args0 about1) = true := by decide +kernel
set_option maxRecDepth 65536 in
theorem w_t3 : (((words1.drop 24).drop 24).take 24).all (fun c => isCode c || c.before args0 about1) = true := by decide +kernel
set_option maxRecDepth 65536 in
theorem w_t4 : ((((words1.drop 24).drop 24).drop 24).take 24).all (fun c => isCode c || c.before args0 about1) = true := by decide +kernel
set_option maxRecDepth 65536 in
theorem w_t5 : (((((words1.drop 24).drop 24).drop 24).drop 24).take 24).all (fun c => isCode c || c.before args0 about1) = true := by decide +kernel
set_option maxRecDepth 65536 in
theorem w_t6 : ((((((words1.drop 24).drop 24).drop 24).drop 24).drop 24).take 24).all (fun c => isCode c || c.before args0 about1) = true := by decide +kernel
set_option maxRecDepth 65536 in
theorem w_t7 : (((((((words1.drop 24).drop 24).drop 24).drop 24).drop 24).drop 24).take 24).all (fun c => isCode c || c.before args0 about1) = true := by decide +kernel
set_option maxRecDepth 65536 in
theorem w_t8 : ((((((((words1.drop 24).drop 24).drop 24).drop 24).drop 24).drop 24).drop 24).take 24).all (fun c => isCode c || c.before args0 about1) = true := by decide +kernel
set_option maxRecDepth 65536 in
theorem w_t9 : ((((((((words1.drop 24).drop 24).drop 24).drop 24).drop 24).drop 24).drop 24).drop 24).all (fun c => isCode c || c.before args0 about1) = true := by decide +kernel
theorem w_tables : (allAtoms (Jvm.Cond.code x code maxLocals ret :: tables_1)).before args0 about1 = true := by
  rw [allAtoms_all]
  show words1.all (fun c => c.before args0 about1) = true
  refine all_split ?_ w_codes
  rw [← List.take_append_drop 24 words1, List.all_append, w_t1, ← List.take_append_drop 24 (words1.drop 24), List.all_append, w_t2, ← List.take_append_drop 24 ((words1.drop 24).drop 24), List.all_append, w_t3, ← List.take_append_drop 24 (((words1.drop 24).drop 24).drop 24), List.all_append, w_t4, ← List.take_append_drop 24 ((((words1.drop 24).drop 24).drop 24).drop 24), List.all_append, w_t5, ← List.take_append_drop 24 (((((words1.drop 24).drop 24).drop 24).drop 24).drop 24), List.all_append, w_t6, ← List.take_append_drop 24 ((((((words1.drop 24).drop 24).drop 24).drop 24).drop 24).drop 24), List.all_append, w_t7, ← List.take_append_drop 24 (((((((words1.drop 24).drop 24).drop 24).drop 24).drop 24).drop 24).drop 24), List.all_append, w_t8, w_t9]
  rfl
set_option maxRecDepth 65536 in
theorem w_rest : rest_1_c.before args0 about1 = true := by decide +kernel
set_option maxRecDepth 65536 in
theorem w_case : (Jvm.Cond.and given_1 narrow_1).before args0 about1 = true := by decide +kernel
theorem w_applies : (headSpec (Jvm.Cond.code x code maxLocals ret :: tables_1) room_1).applies x e0.platform about1 = true :=
  (Spec.applies_iff w_frames).mpr ⟨w_running, w_runnable, w_alone, w_named, w_hears, w_ripe, w_room, w_tables⟩
theorem atStart : AtStart classFile x code maxLocals ret World_1 tables_1 room_1 Calls_1 rest_1 Pre_1 launch0 p0 e0 about1 theMethod args0 below0 :=
  ⟨lists_1, trivial, launch0.admits_env _ _ _, launch0.least_env, fairChoices_fair.cas, fairChoices_fair.clock, w_frames, w_args, w_heap, w_applies, trivial, w_rest, w_case⟩
end start1
theorem witness_1 : WitnessClaimed_1 := ⟨start1.p0, start1.e0, start1.about1, start1.theMethod, start1.args0, start1.below0, start1.atStart⟩
end Jvm.Pilot.@@N@@
