import JvmDerived
import JvmDerived.Pilot.@@N@@Statement
import JvmDerived.Pilot.@@N@@Code
set_option linter.unusedVariables false
set_option linter.unusedSimpArgs false
/- laws to paste: Road.backV (cut by pick.py; bodies as the Statement names them) -/
namespace Jvm.Pilot.@@N@@
namespace StrChars
open Jvm Sem ClassFile Op Lib Jvm.Stand Jvm.Free.XT Jvm.Free.ALB Jvm.Free.JM Jvm.Free
open Jvm.Lib.Cold (StaticIs)
/-- a char array whose places are chars -/
def Ch (a : Addr) (A : Cell) (U : State) : Prop := Arr .char a A U ∧ Typed .char A
theorem Ch.mv {a : Addr} {A : Cell} {U U' : State} (h : Ch a A U) (hal : U.vm.Alike U'.vm) (hh : U'.heap = U.heap) : Ch a A U' := ⟨h.1.mv hal hh, h.2⟩
theorem Ch.keep {a : Addr} {A : Cell} {U U' : State} (h : Ch a A U) (hal : U.vm.Alike U'.vm) (hk : U'.heap[a]? = some A) : Ch a A U' := ⟨h.1.keep hal hk, h.2⟩
/-- what place i of a char[]'s cell holds -/
def cv (A : Cell) (i : Nat) : Int32 := match A.slots[i]? with | some (.int x) => x | _ => 0
theorem Ch.get {a : Addr} {A : Cell} {U : State} (h : Ch a A U) {i : Nat} (hi : i < A.slots.size) : A.slots[i]? = some (.int (cv A i)) := by
  have e := Array.getElem?_eq_getElem hi
  have f := h.2 i _ e
  unfold cv; rw [e]
  generalize A.slots[i] = v at f
  cases v <;> simp [fits] at f ⊢
/-- the byte that i2b leaves of a char -/
def lo8 (x : Int32) : Int32 := x.toInt8.toInt32
theorem fits_lo8 (y : Int32) : fits .byte (.int (lo8 y)) = true := by
  have h1 := y.toInt8.le_toInt
  have h2 := y.toInt8.toInt_lt
  simp only [lo8, fits, Bool.and_eq_true, decide_eq_true_eq, Int32.le_iff_toInt_le, Int8.toInt_toInt32, show (-128 : Int32).toInt = -128 from by decide, show (127 : Int32).toInt = 127 from by decide]
  omega
/-- A' is A but that each place j of lo .. hi - 1 holds f j -/
def Laid (A A' : Cell) (lo hi : Nat) (f : Nat → Value) : Prop := A'.cls = A.cls ∧ A'.vm = A.vm ∧ A'.slots.size = A.slots.size ∧ ∀ i, A'.slots[i]? = if lo ≤ i ∧ i < hi then some (f i) else A.slots[i]?
theorem Laid.zero (A : Cell) (lo : Nat) (f : Nat → Value) : Laid A A lo (lo + 0) f := ⟨rfl, rfl, rfl, fun i => by rw [if_neg (by omega)]⟩
theorem Laid.step {A Ak : Cell} {lo k : Nat} {f : Nat → Value} {v : Value} (h : Laid A Ak lo k f) (hlo : lo ≤ k) (hk : k < Ak.slots.size) (hv : v = f k) : Laid A (Ak.setSlot k v) lo (k + 1) f := by
  refine ⟨h.1, h.2.1, by simpa [Cell.setSlot] using h.2.2.1, fun i => ?_⟩
  by_cases e : k = i
  · subst e; rw [Cell.slots_setSlot_self v hk, if_pos (by omega), hv]
  · rw [Cell.slots_setSlot_ne v e, h.2.2.2 i]
    by_cases q : lo ≤ i ∧ i < k
    · rw [if_pos q, if_pos (by omega)]
    · rw [if_neg q, if_neg (by omega)]
def U16 : String := "java/lang/StringUTF16"
namespace Cmp5
def yN : MethodName := ⟨"java/lang/StringUTF16", "compress", "([CI[BII)I"⟩
abbrev yB : ByteArray := jdk_52_method_21_code
theorem d0 : decode yB 0 = .ok (.iconst 0, 1) := by decide +kernel
theorem d1 : decode yB 1 = .ok (.istore 5, 2) := by decide +kernel
theorem d3 : decode yB 3 = .ok (.iload 5, 2) := by decide +kernel
theorem d5 : decode yB 5 = .ok (.iload 4, 2) := by decide +kernel
theorem d7 : decode yB 7 = .ok (.if_icmp (.ge) 37, 3) := by decide +kernel
theorem d10 : decode yB 10 = .ok (.aload_n 0, 1) := by decide +kernel
theorem d11 : decode yB 11 = .ok (.iload_n 1, 1) := by decide +kernel
theorem d12 : decode yB 12 = .ok (.caload, 1) := by decide +kernel
theorem d13 : decode yB 13 = .ok (.istore 6, 2) := by decide +kernel
theorem d15 : decode yB 15 = .ok (.iload 6, 2) := by decide +kernel
theorem d17 : decode yB 17 = .ok (.sipush 255, 3) := by decide +kernel
theorem d20 : decode yB 20 = .ok (.if_icmp (.le) 6, 3) := by decide +kernel
theorem d26 : decode yB 26 = .ok (.aload_n 2, 1) := by decide +kernel
theorem d27 : decode yB 27 = .ok (.iload_n 3, 1) := by decide +kernel
theorem d28 : decode yB 28 = .ok (.iload 6, 2) := by decide +kernel
theorem d30 : decode yB 30 = .ok (.i2b, 1) := by decide +kernel
theorem d31 : decode yB 31 = .ok (.bastore, 1) := by decide +kernel
theorem d32 : decode yB 32 = .ok (.iinc 1 1, 3) := by decide +kernel
theorem d35 : decode yB 35 = .ok (.iinc 3 1, 3) := by decide +kernel
theorem d38 : decode yB 38 = .ok (.iinc 5 1, 3) := by decide +kernel
theorem d41 : decode yB 41 = .ok (.goto (-38), 3) := by decide +kernel
theorem d44 : decode yB 44 = .ok (.iload 4, 2) := by decide +kernel
theorem d46 : decode yB 46 = .ok (.ireturn, 1) := by decide +kernel
def site : List Cond := []
def tab : Cond := tabOf yN yB 7 (some .int) site
def P (b : Addr) (A : Cell) (d : Addr) (B : Cell) (o q len : Nat) (args : Array Value) (s : State) : Prop := args = #[.ref b, .int (Int32.ofNat o), .ref d, .int (Int32.ofNat q), .int (Int32.ofNat len)] ∧ Ch b A s ∧ Arr .byte d B s ∧ b ≠ d ∧ o + len ≤ A.slots.size ∧ q + len ≤ B.slots.size ∧ ∀ i, i < len → ¬ 255 < cv A (o + i)
def E (b : Addr) (A : Cell) (d : Addr) (B : Cell) (o q len : Nat) (r : Option Value) (s u : State) : Prop := r = some (.int (Int32.ofNat len)) ∧ ∃ B', Put d B' s u ∧ Laid B B' q (q + len) (fun j => Value.int (lo8 (cv A (o + (j - q)))))
/-- no char of the range above 255: len; the places written hold each char's low byte -/
theorem law (l : Launch) (b : Addr) (A : Cell) (d : Addr) (B : Cell) (o q len : Nat) : Law l yN 5 5 0 0 yB 7 (some .int) site (P b A d B o q len) (E b A d B o q len) (copyLocs d q len) 0 0 := by
  refine Law.of_walk (plainFor_of_name (by decide +kernel)) (by decide +kernel) (by decide +kernel) (by decide) (fun _ _ h => by rw [h.1]; rfl) (fun _ U U' hal hh h => ⟨h.1, h.2.1.mv hal hh, h.2.2.1.mv hal hh, h.2.2.2⟩) (fun r U U' V V' h1 hal h2 h => ⟨h.1, h.2.elim fun B' q => ⟨B', q.1.mv h1 h2, q.2⟩⟩) ?_
  intro p e s m args below meth c s₁ X0 hexec hbytes hml hret hlk hnm hown hh0 W hP
  obtain ⟨rfl, hA, hB, hne, l1, l2, hp⟩ := hP
  have c1 : Steps p.tables e below (s₁.setTop (entryFrame m #[.ref b, .int (Int32.ofNat o), .ref d, .int (Int32.ofNat q), .int (Int32.ofNat len)] 7)) (s₁.setTop (mkF m 0 #[.val (.ref b), .val (.int (Int32.ofNat o)), .val (.ref d), .val (.int (Int32.ofNat q)), .val (.int (Int32.ofNat len)), .unset, .unset] [])) := entry rfl
  have hA0 := hA.1.mv X0.warmed.alike hh0
  have hB0 := hB.mv X0.warmed.alike hh0
  have a31 := hA.1.2.2.2
  have c2 : Steps p.tables e below (s₁.setTop (entryFrame m #[.ref b, .int (Int32.ofNat o), .ref d, .int (Int32.ofNat q), .int (Int32.ofNat len)] 7)) (s₁.setTop (mkF m 3 #[.val (.ref b), .val (.int (Int32.ofNat o)), .val (.ref d), .val (.int (Int32.ofNat q)), .val (.int (Int32.ofNat len)), .val (.int 0), .unset] [])) := c1.trans (by
    refine iconstV X0.here hexec rfl 0 (hb hbytes d0) (by decide) ?_
    refine XS.istore X0.here hexec rfl (hb hbytes d1) rfl rfl ?_
    exact Steps.refl _)
  have loop : ∀ (r i : Nat), i + r = len → ∀ (z : Slot), (z = .unset ∨ ∃ w, z = .val w ∧ w.category = 1) → ∀ (Tl : State) (Bk : Cell), Stand p l e { frames := 0, locals := 0, cells := 0, slots := 0 } s m #[.ref b, .int (Int32.ofNat o), .ref d, .int (Int32.ofNat q), .int (Int32.ofNat len)] below meth c Tl ([] ++ copyLocs d q i) 0 0 → Put d Bk s₁ Tl → Laid B Bk q (q + i) (fun j => Value.int (lo8 (cv A (o + (j - q))))) →
      Steps p.tables e below (s₁.setTop (entryFrame m #[.ref b, .int (Int32.ofNat o), .ref d, .int (Int32.ofNat q), .int (Int32.ofNat len)] 7)) (Tl.setTop (mkF m 3 #[.val (.ref b), .val (.int (Int32.ofNat (o + i))), .val (.ref d), .val (.int (Int32.ofNat (q + i))), .val (.int (Int32.ofNat len)), .val (.int (Int32.ofNat i)), z] [])) → ∃ (T' : State) (B' : Cell) (z' : Slot), Stand p l e { frames := 0, locals := 0, cells := 0, slots := 0 } s m #[.ref b, .int (Int32.ofNat o), .ref d, .int (Int32.ofNat q), .int (Int32.ofNat len)] below meth c T' ([] ++ copyLocs d q len) 0 0 ∧ Put d B' s₁ T' ∧ Laid B B' q (q + len) (fun j => Value.int (lo8 (cv A (o + (j - q))))) ∧
      Steps p.tables e below (s₁.setTop (entryFrame m #[.ref b, .int (Int32.ofNat o), .ref d, .int (Int32.ofNat q), .int (Int32.ofNat len)] 7)) (T'.setTop (mkF m 3 #[.val (.ref b), .val (.int (Int32.ofNat (o + len))), .val (.ref d), .val (.int (Int32.ofNat (q + len))), .val (.int (Int32.ofNat len)), .val (.int (Int32.ofNat len)), z'] [])) := by
    intro r
    induction r with
    | zero =>
      intro i hi z hz Tl Bk Xl pl fl cl
      have hil : i = len := by omega
      rw [hil] at Xl fl cl
      exact ⟨Tl, Bk, z, Xl, pl, fl, cl⟩
    | succ r ih =>
      intro i hi z hz Tl Bk Xl pl fl cl
      have all := X0.warmed.alike.symm.trans Xl.warmed.alike
      have hAl := hA0.keep all (pl.other hne hA0.1)
      have hBk := hB0.like all pl.1 fl.1 fl.2.1 fl.2.2.1
      have hlt : q + i < Bk.slots.size := by rw [fl.2.2.1]; omega
      have c3 : Steps p.tables e below (s₁.setTop (entryFrame m #[.ref b, .int (Int32.ofNat o), .ref d, .int (Int32.ofNat q), .int (Int32.ofNat len)] 7)) (Tl.setTop (mkF m 12 #[.val (.ref b), .val (.int (Int32.ofNat (o + i))), .val (.ref d), .val (.int (Int32.ofNat (q + i))), .val (.int (Int32.ofNat len)), .val (.int (Int32.ofNat i)), z] [.int (Int32.ofNat (o + i)), .ref b])) := cl.trans (by
        refine XS.iload Xl.here hexec rfl (hb hbytes d3) rfl ?_
        refine XS.iload Xl.here hexec rfl (hb hbytes d5) rfl ?_
        refine XS.icmpNo Xl.here hexec rfl (hb hbytes d7) rfl (ii_ge_f (lt32 (by omega) (by omega))) ?_
        refine XS.aloadN Xl.here hexec rfl (hb hbytes d10) rfl rfl ?_
        refine XS.iloadN Xl.here hexec rfl (hb hbytes d11) rfl ?_
        exact Steps.refl _)
      have c4 : Steps p.tables e below (s₁.setTop (entryFrame m #[.ref b, .int (Int32.ofNat o), .ref d, .int (Int32.ofNat q), .int (Int32.ofNat len)] 7)) (Tl.setTop (mkF m 13 #[.val (.ref b), .val (.int (Int32.ofNat (o + i))), .val (.ref d), .val (.int (Int32.ofNat (q + i))), .val (.int (Int32.ofNat len)), .val (.int (Int32.ofNat i)), z] [.int (cv A (o + i))])) := c3.trans (by
        refine Xl.aget hexec hAl rfl (hA.get (i := o + i) (by omega)) rfl rfl (hb hbytes d12) ?_
        exact Steps.refl _)
      have c5 : Steps p.tables e below (s₁.setTop (entryFrame m #[.ref b, .int (Int32.ofNat o), .ref d, .int (Int32.ofNat q), .int (Int32.ofNat len)] 7)) (Tl.setTop (mkF m 15 #[.val (.ref b), .val (.int (Int32.ofNat (o + i))), .val (.ref d), .val (.int (Int32.ofNat (q + i))), .val (.int (Int32.ofNat len)), .val (.int (Int32.ofNat i)), .val (.int (cv A (o + i)))] [])) := c4.trans (by
        refine XS.istoreS Xl.here hexec rfl (hb hbytes d13) rfl rfl hz ?_
        exact Steps.refl _)
      have c6 : Steps p.tables e below (s₁.setTop (entryFrame m #[.ref b, .int (Int32.ofNat o), .ref d, .int (Int32.ofNat q), .int (Int32.ofNat len)] 7)) (Tl.setTop (mkF m 31 #[.val (.ref b), .val (.int (Int32.ofNat (o + i))), .val (.ref d), .val (.int (Int32.ofNat (q + i))), .val (.int (Int32.ofNat len)), .val (.int (Int32.ofNat i)), .val (.int (cv A (o + i)))] [.int (lo8 (cv A (o + i))), .int (Int32.ofNat (q + i)), .ref d])) := c5.trans (by
        refine XS.iload Xl.here hexec rfl (hb hbytes d15) rfl ?_
        refine sipushV Xl.here hexec rfl 255 (hb hbytes d17) (by decide) ?_
        refine XS.icmpYes Xl.here hexec rfl (pc0 := 20) rfl (hb hbytes d20) rfl (ii_le_t (hp i (by omega))) (by decide) rfl ?_
        refine XS.aloadN Xl.here hexec rfl (hb hbytes d26) rfl rfl ?_
        refine XS.iloadN Xl.here hexec rfl (hb hbytes d27) rfl ?_
        refine XS.iload Xl.here hexec rfl (hb hbytes d28) rfl ?_
        refine i2b Xl.here hexec rfl (hb hbytes d30) rfl ?_
        exact Steps.refl _)
      obtain ⟨T7, X7, p7, st7⟩ := Xl.aput hexec hBk rfl hlt rfl (fits_lo8 (cv A (o + i))) (g := (mkF m 31 #[.val (.ref b), .val (.int (Int32.ofNat (o + i))), .val (.ref d), .val (.int (Int32.ofNat (q + i))), .val (.int (Int32.ofNat len)), .val (.int (Int32.ofNat i)), .val (.int (cv A (o + i)))] [.int (lo8 (cv A (o + i))), .int (Int32.ofNat (q + i)), .ref d])) rfl (rest := []) rfl (hb hbytes d31)
      have c8 : Steps p.tables e below (s₁.setTop (entryFrame m #[.ref b, .int (Int32.ofNat o), .ref d, .int (Int32.ofNat q), .int (Int32.ofNat len)] 7)) (T7.setTop (mkF m 32 #[.val (.ref b), .val (.int (Int32.ofNat (o + i))), .val (.ref d), .val (.int (Int32.ofNat (q + i))), .val (.int (Int32.ofNat len)), .val (.int (Int32.ofNat i)), .val (.int (cv A (o + i)))] [])) := c6.trans (st7 _ (Steps.refl _))
      have c9 : Steps p.tables e below (s₁.setTop (entryFrame m #[.ref b, .int (Int32.ofNat o), .ref d, .int (Int32.ofNat q), .int (Int32.ofNat len)] 7)) (T7.setTop (mkF m 3 #[.val (.ref b), .val (.int (Int32.ofNat (o + i) + 1)), .val (.ref d), .val (.int (Int32.ofNat (q + i) + 1)), .val (.int (Int32.ofNat len)), .val (.int (Int32.ofNat i + 1)), .val (.int (cv A (o + i)))] [])) := c8.trans (by
        refine iincV X7.here hexec rfl 1 (hb hbytes d32) (by decide) rfl rfl ?_
        refine iincV X7.here hexec rfl 1 (hb hbytes d35) (by decide) rfl rfl ?_
        refine iincV X7.here hexec rfl 1 (hb hbytes d38) (by decide) rfl rfl ?_
        refine XS.goto X7.here hexec rfl (pc0 := 41) rfl (hb hbytes d41) (by decide) rfl ?_
        exact Steps.refl _)
      have c10 : Steps p.tables e below (s₁.setTop (entryFrame m #[.ref b, .int (Int32.ofNat o), .ref d, .int (Int32.ofNat q), .int (Int32.ofNat len)] 7)) (T7.setTop (mkF m 3 #[.val (.ref b), .val (.int (Int32.ofNat (o + (i + 1)))), .val (.ref d), .val (.int (Int32.ofNat (q + (i + 1)))), .val (.int (Int32.ofNat len)), .val (.int (Int32.ofNat (i + 1))), .val (.int (cv A (o + i)))] [])) := by
        have := c9
        rw [succ32, succ32, succ32] at this
        exact this
      exact ih (i + 1) (by omega) _ (Or.inr ⟨_, rfl, rfl⟩) T7 _ (by rw [copyLocs_step, ← List.append_assoc]; exact X7) (pl.trans p7) (fl.step (by omega) hlt (by simp)) c10
  obtain ⟨T9, B9, z9, X9, p9, f9, g9⟩ := loop len 0 (by omega) .unset (Or.inl rfl) s₁ B (by simpa [copyLocs] using X0) ⟨hB0.1, fun _ _ => rfl, rfl⟩ (Laid.zero _ _ _) c2
  have c11 : Steps p.tables e below (s₁.setTop (entryFrame m #[.ref b, .int (Int32.ofNat o), .ref d, .int (Int32.ofNat q), .int (Int32.ofNat len)] 7)) (T9.setTop (mkF m 46 #[.val (.ref b), .val (.int (Int32.ofNat (o + len))), .val (.ref d), .val (.int (Int32.ofNat (q + len))), .val (.int (Int32.ofNat len)), .val (.int (Int32.ofNat len)), z9] [.int (Int32.ofNat len)])) := g9.trans (by
    refine XS.iload X9.here hexec rfl (hb hbytes d3) rfl ?_
    refine XS.iload X9.here hexec rfl (hb hbytes d5) rfl ?_
    refine XS.icmpYes X9.here hexec rfl (pc0 := 7) rfl (hb hbytes d7) rfl (ii_ge_t (nlt32 (by omega) (Nat.le_refl _))) (by decide) rfl ?_
    refine XS.iload X9.here hexec rfl (hb hbytes d44) rfl ?_
    exact Steps.refl _)
  exact ⟨T9, some (.int (Int32.ofNat len)), _, _, _, X9, by simp, rfl, rfl, (fun h => by cases h), ⟨rfl, B9, p9.from hh0, f9⟩, fun fs hl => c11.trans (X9.ireturnOut hexec hret rfl (Or.inl rfl) (hb hbytes d46) hl)⟩
end Cmp5
namespace Cmp3
def yN : MethodName := ⟨"java/lang/StringUTF16", "compress", "([CII)[B"⟩
abbrev yB : ByteArray := jdk_52_method_16_code
theorem d0 : decode yB 0 = .ok (.iload_n 2, 1) := by decide +kernel
theorem d1 : decode yB 1 = .ok (.newarray .byte, 2) := by decide +kernel
theorem d3 : decode yB 3 = .ok (.astore_n 3, 1) := by decide +kernel
theorem d4 : decode yB 4 = .ok (.aload_n 0, 1) := by decide +kernel
theorem d5 : decode yB 5 = .ok (.iload_n 1, 1) := by decide +kernel
theorem d6 : decode yB 6 = .ok (.aload_n 3, 1) := by decide +kernel
theorem d7 : decode yB 7 = .ok (.iconst 0, 1) := by decide +kernel
theorem d8 : decode yB 8 = .ok (.iload_n 2, 1) := by decide +kernel
theorem d9 : decode yB 9 = .ok (.invokestatic 115, 3) := by decide +kernel
theorem d12 : decode yB 12 = .ok (.istore 4, 2) := by decide +kernel
theorem d14 : decode yB 14 = .ok (.iload 4, 2) := by decide +kernel
theorem d16 : decode yB 16 = .ok (.iload_n 2, 1) := by decide +kernel
theorem d17 : decode yB 17 = .ok (.if_icmp (.eq) 40, 3) := by decide +kernel
theorem d57 : decode yB 57 = .ok (.aload_n 3, 1) := by decide +kernel
theorem d58 : decode yB 58 = .ok (.areturn, 1) := by decide +kernel
def site : List Cond := [.arrayClass .byte, Cmp5.tab] ++ staticW U16 115 Cmp5.yN
def tab : Cond := tabOf yN yB 6 (some (.array .byte)) site
def P (b : Addr) (A : Cell) (o len : Nat) (args : Array Value) (s : State) : Prop := args = #[.ref b, .int (Int32.ofNat o), .int (Int32.ofNat len)] ∧ Ch b A s ∧ o + len ≤ A.slots.size ∧ len ≤ 536870912 ∧ ∀ i, i < len → ¬ 255 < cv A (o + i)
def E (b : Addr) (A : Cell) (o len : Nat) (r : Option Value) (s u : State) : Prop := NewArr .byte "[B" len (fun j => .int (lo8 (cv A (o + j)))) r s u ∧ u.heap.size = s.heap.size + 1
/-- no char of the range above 255: a new byte[] of their low bytes -/
theorem law (l : Launch) (b : Addr) (A : Cell) (o len : Nat) : Law l yN 3 3 1 18 yB 6 (some (.array .byte)) site (P b A o len) (E b A o len) [] 1 len := by
  refine Law.of_walk (plainFor_of_name (by decide +kernel)) (by decide +kernel) (by decide +kernel) (by decide) (fun _ _ h => by rw [h.1]; rfl) (fun _ U U' hal hh h => ⟨h.1, h.2.1.mv hal hh, h.2.2⟩) (fun r U U' V V' h1 hal h2 h => ⟨NewArr.mv r U U' V V' h1 hal h2 h.1, by rw [h1, h2]; exact h.2⟩) ?_
  intro p e s m args below meth c s₁ X0 hexec hbytes hml hret hlk hnm hown hh0 W hP
  obtain ⟨rfl, hA, l1, l2, hp⟩ := hP
  have a31 := hA.1.2.2.2
  have c1 : Steps p.tables e below (s₁.setTop (entryFrame m #[.ref b, .int (Int32.ofNat o), .int (Int32.ofNat len)] 6)) (s₁.setTop (mkF m 0 #[.val (.ref b), .val (.int (Int32.ofNat o)), .val (.int (Int32.ofNat len)), .unset, .unset, .unset] [])) := entry rfl
  have c2 : Steps p.tables e below (s₁.setTop (entryFrame m #[.ref b, .int (Int32.ofNat o), .int (Int32.ofNat len)] 6)) (s₁.setTop (mkF m 1 #[.val (.ref b), .val (.int (Int32.ofNat o)), .val (.int (Int32.ofNat len)), .unset, .unset, .unset] [.int (Int32.ofNat len)])) := c1.trans (by
    refine XS.iloadN X0.here hexec rfl (hb hbytes d0) rfl ?_
    exact Steps.refl _)
  obtain ⟨T3, B3, X3, ba3, bs3, bv3, bh3, bf3, st3⟩ := X0.anew hexec (atype := .byte) (wk W (.arrayClass .byte)) rfl (by show len * 1 ≤ _; omega) (by omega) (g := (mkF m 1 #[.val (.ref b), .val (.int (Int32.ofNat o)), .val (.int (Int32.ofNat len)), .unset, .unset, .unset] [.int (Int32.ofNat len)])) rfl (hb hbytes d1) (rest := []) rfl (Nat.le_refl _) (by show 0 + len ≤ len; omega)
  rw [hh0] at ba3 st3
  have kp3 : XT.Kept s T3 := (XT.Kept.of_eq hh0).push bh3
  have hA3 := hA.keep X3.warmed.alike (kp3 _ _ hA.1.1)
  have hne : b ≠ s.heap.size := hA.1.ne
  have c4 : Steps p.tables e below (s₁.setTop (entryFrame m #[.ref b, .int (Int32.ofNat o), .int (Int32.ofNat len)] 6)) (T3.setTop (mkF m 3 #[.val (.ref b), .val (.int (Int32.ofNat o)), .val (.int (Int32.ofNat len)), .unset, .unset, .unset] [.ref s.heap.size])) := c2.trans (st3 _ (Steps.refl _))
  have c5 : Steps p.tables e below (s₁.setTop (entryFrame m #[.ref b, .int (Int32.ofNat o), .int (Int32.ofNat len)] 6)) (T3.setTop (mkF m 9 #[.val (.ref b), .val (.int (Int32.ofNat o)), .val (.int (Int32.ofNat len)), .val (.ref s.heap.size), .unset, .unset] [.int (Int32.ofNat len), .int 0, .ref s.heap.size, .int (Int32.ofNat o), .ref b])) := c4.trans (by
    refine XS.astoreN X3.here hexec rfl (hb hbytes d3) rfl rfl rfl ?_
    refine XS.aloadN X3.here hexec rfl (hb hbytes d4) rfl rfl ?_
    refine XS.iloadN X3.here hexec rfl (hb hbytes d5) rfl ?_
    refine XS.aloadN X3.here hexec rfl (hb hbytes d6) rfl rfl ?_
    refine iconstV X3.here hexec rfl 0 (hb hbytes d7) (by decide) ?_
    refine XS.iloadN X3.here hexec rfl (hb hbytes d8) rfl ?_
    exact Steps.refl _)
  obtain ⟨v6, T6, X6, E6, g6⟩ := X3.callS hexec (Cmp5.law l b A s.heap.size B3 o 0 len) hown (wks W (staticW U16 115 Cmp5.yN)) (wk W Cmp5.tab) (W := 0) (Nat.le_of_ble_eq_true rfl) (Nat.le_of_ble_eq_true rfl) (Nat.le_refl _) (by show 0 + len + 0 ≤ len; omega) (g := (mkF m 9 #[.val (.ref b), .val (.int (Int32.ofNat o)), .val (.int (Int32.ofNat len)), .val (.ref s.heap.size), .unset, .unset] [.int (Int32.ofNat len), .int (Int32.ofNat 0), .ref s.heap.size, .int (Int32.ofNat o), .ref b])) rfl (by rw [hml]; rfl) c5 (argsL := [.ref b, .int (Int32.ofNat o), .ref s.heap.size, .int (Int32.ofNat 0), .int (Int32.ofNat len)]) (rest := []) rfl rfl (by show 2 * 0 + 0 ≤ _; decide) (hb hbytes d9) (⟨rfl, hA3, ba3, hne, l1, by rw [bs3]; simp, hp⟩)
  obtain ⟨rfl, B6, p6, f6⟩ := E6
  have c7 : Steps p.tables e below (s₁.setTop (entryFrame m #[.ref b, .int (Int32.ofNat o), .int (Int32.ofNat len)] 6)) (T6.setTop (mkF m 12 #[.val (.ref b), .val (.int (Int32.ofNat o)), .val (.int (Int32.ofNat len)), .val (.ref s.heap.size), .unset, .unset] [.int (Int32.ofNat len)])) := g6
  have c8 : Steps p.tables e below (s₁.setTop (entryFrame m #[.ref b, .int (Int32.ofNat o), .int (Int32.ofNat len)] 6)) (T6.setTop (mkF m 58 #[.val (.ref b), .val (.int (Int32.ofNat o)), .val (.int (Int32.ofNat len)), .val (.ref s.heap.size), .val (.int (Int32.ofNat len)), .unset] [.ref s.heap.size])) := c7.trans (by
    refine XS.istore X6.here hexec rfl (hb hbytes d12) rfl rfl ?_
    refine XS.iload X6.here hexec rfl (hb hbytes d14) rfl ?_
    refine XS.iloadN X6.here hexec rfl (hb hbytes d16) rfl ?_
    refine XS.icmpYes X6.here hexec rfl (pc0 := 17) rfl (hb hbytes d17) rfl (ii_eq_t rfl) (by decide) rfl ?_
    refine XS.aloadN X6.here hexec rfl (hb hbytes d57) rfl rfl ?_
    exact Steps.refl _)
  have X8 := X6.wide (L' := []) (cells' := 1) (slots' := len) (fun x hx hlt => by
    simp only [List.nil_append, copyLocs, List.mem_map, List.mem_range] at hx
    obtain ⟨i, -, rfl⟩ := hx
    exact absurd hlt (Nat.lt_irrefl _)) (Nat.le_refl _) (by omega)
  exact ⟨T6, some (.ref s.heap.size), _, _, _, X8, rfl, rfl, rfl, (fun h => by cases h), ⟨⟨rfl, B6, ba3.like (X3.warmed.alike.symm.trans X6.warmed.alike) p6.1 f6.1 f6.2.1 f6.2.2.1, f6.2.1.trans bv3, by rw [X6.warmed.alike.findClass, f6.1]; exact bf3, by rw [f6.2.2.1, bs3]; simp, fun j hj => by rw [f6.2.2.2 j, if_pos (by omega)]; rfl, kp3.put p6 (Nat.le_refl _)⟩, by rw [p6.2.2, bh3, hh0]; simp⟩, fun fs hl => c8.trans (X8.areturnOut hexec rfl hret rfl (hb hbytes d58) hl)⟩
end Cmp3
namespace CodL
def yN : MethodName := ⟨"java/lang/StringUTF16", "coderFromArrayLen", "([BI)B"⟩
abbrev yB : ByteArray := jdk_52_method_15_code
theorem d0 : decode yB 0 = .ok (.iload_n 1, 1) := by decide +kernel
theorem d1 : decode yB 1 = .ok (.aload_n 0, 1) := by decide +kernel
theorem d2 : decode yB 2 = .ok (.arraylength, 1) := by decide +kernel
theorem d3 : decode yB 3 = .ok (.isub, 1) := by decide +kernel
theorem d4 : decode yB 4 = .ok (.bipush 31, 2) := by decide +kernel
theorem d6 : decode yB 6 = .ok (.iushr, 1) := by decide +kernel
theorem d7 : decode yB 7 = .ok (.i2b, 1) := by decide +kernel
theorem d8 : decode yB 8 = .ok (.ireturn, 1) := by decide +kernel
def site : List Cond := []
def tab : Cond := tabOf yN yB 2 (some .byte) site
def P (d : Addr) (B : Cell) (args : Array Value) (s : State) : Prop := args = #[.ref d, .int (Int32.ofNat B.slots.size)] ∧ Arr .byte d B s
def E (r : Option Value) (s u : State) : Prop := XT.PureE (some (.int 0)) r s u
/-- an array as long as the number of chars: LATIN1 -/
theorem law (l : Launch) (d : Addr) (B : Cell) : Law l yN 2 2 0 0 yB 2 (some .byte) site (P d B) E [] 0 0 := by
  refine Law.of_walk (plainFor_of_name (by decide +kernel)) (by decide +kernel) (by decide +kernel) (by decide) (fun _ _ h => by rw [h.1]; rfl) (fun _ U U' hal hh h => ⟨h.1, h.2.mv hal hh⟩) (fun r U U' V V' h1 hal h2 h => XT.PureE.mv r U U' V V' h1 hal h2 h) ?_
  intro p e s m args below meth c s₁ X0 hexec hbytes hml hret hlk hnm hown hh0 W hP
  obtain ⟨rfl, hB⟩ := hP
  have hB0 := hB.mv X0.warmed.alike hh0
  have c1 : Steps p.tables e below (s₁.setTop (entryFrame m #[.ref d, .int (Int32.ofNat B.slots.size)] 2)) (s₁.setTop (mkF m 0 #[.val (.ref d), .val (.int (Int32.ofNat B.slots.size))] [])) := entry rfl
  have c2 : Steps p.tables e below (s₁.setTop (entryFrame m #[.ref d, .int (Int32.ofNat B.slots.size)] 2)) (s₁.setTop (mkF m 2 #[.val (.ref d), .val (.int (Int32.ofNat B.slots.size))] [.ref d, .int (Int32.ofNat B.slots.size)])) := c1.trans (by
    refine XS.iloadN X0.here hexec rfl (hb hbytes d0) rfl ?_
    refine XS.aloadN X0.here hexec rfl (hb hbytes d1) rfl rfl ?_
    exact Steps.refl _)
  have c3 : Steps p.tables e below (s₁.setTop (entryFrame m #[.ref d, .int (Int32.ofNat B.slots.size)] 2)) (s₁.setTop (mkF m 8 #[.val (.ref d), .val (.int (Int32.ofNat B.slots.size))] [.int (lo8 (ushr (Int32.ofNat B.slots.size - Int32.ofNat B.slots.size) 31))])) := c2.trans (by
    refine X0.alen hexec hB0 rfl rfl (hb hbytes d2) ?_
    refine XS.isub X0.here hexec rfl (hb hbytes d3) rfl ?_
    refine bipushV X0.here hexec rfl 31 (hb hbytes d4) (by decide) ?_
    refine iushr X0.here hexec rfl (hb hbytes d6) rfl ?_
    refine i2b X0.here hexec rfl (hb hbytes d7) rfl ?_
    exact Steps.refl _)
  have e0 : lo8 (ushr (Int32.ofNat B.slots.size - Int32.ofNat B.slots.size) 31) = 0 := by rw [Int32.sub_self]; decide
  rw [e0] at c3
  exact ⟨s₁, some (.int 0), _, _, _, X0, rfl, rfl, rfl, (fun h => by cases h), ⟨rfl, hh0⟩, fun fs hl => c3.trans (X0.ireturnOut hexec hret rfl (Or.inr (Or.inr (Or.inl rfl))) (hb hbytes d8) hl)⟩
end CodL
/-- the String at a is Latin-1 over a new byte[] (the heap's one new cell): the low bytes of the len chars of A from o on; every cell but a is kept -/
def Got (a : Addr) (D : Cell) (fV fC : Field) (A : Cell) (o len : Nat) (r : Option Value) (s u : State) : Prop := r = none ∧ ∃ D' V : Cell, Blank "java/lang/String" a D' u ∧ Same D D' [fV.slot, fC.slot] ∧ D'.slots[fV.slot]? = some (.ref s.heap.size) ∧ D'.slots[fC.slot]? = some (.int 0) ∧ Arr .byte s.heap.size V u ∧ V.vm = .none ∧ u.vm.findClass "[B" = some V.cls ∧ V.slots.size = len ∧ (∀ j, j < len → V.slots[j]? = some (.int (lo8 (cv A (o + j))))) ∧ (∀ (y : Addr) (c : Cell), y ≠ a → s.heap[y]? = some c → u.heap[y]? = some c) ∧ u.heap.size = s.heap.size + 1
theorem Got.mv {a : Addr} {D A : Cell} {fV fC : Field} {o len : Nat} : ∀ r (U U' V V' : State), U'.heap = U.heap → V.vm.Alike V'.vm → V'.heap = V.heap → Got a D fV fC A o len r U V → Got a D fV fC A o len r U' V' :=
  fun r U U' V V' h1 hal h2 ⟨e0, D', X, a1, a2, a3, a4, a5, a6, a7, a8, a9, a10, a11⟩ => ⟨e0, D', X, a1.mv hal h2, a2, by rw [h1]; exact a3, a4, by rw [h1]; exact a5.mv hal h2, a6, by rw [hal.findClass]; exact a7, a8, a9, by rw [h1, h2]; exact a10, by rw [h1, h2]; exact a11⟩
namespace New4
def yN : MethodName := ⟨"java/lang/String", "<init>", "([CIILjava/lang/Void;)V"⟩
abbrev yB : ByteArray := jdk_42_method_149_code
theorem d0 : decode yB 0 = .ok (.aload_n 0, 1) := by decide +kernel
theorem d1 : decode yB 1 = .ok (.invokespecial 1, 3) := by decide +kernel
theorem d4 : decode yB 4 = .ok (.iload_n 3, 1) := by decide +kernel
theorem d5 : decode yB 5 = .ok (.ifCond (.ne) 22, 3) := by decide +kernel
theorem d27 : decode yB 27 = .ok (.getstatic 38, 3) := by decide +kernel
theorem d30 : decode yB 30 = .ok (.ifCond (.eq) 28, 3) := by decide +kernel
theorem d33 : decode yB 33 = .ok (.aload_n 1, 1) := by decide +kernel
theorem d34 : decode yB 34 = .ok (.iload_n 2, 1) := by decide +kernel
theorem d35 : decode yB 35 = .ok (.iload_n 3, 1) := by decide +kernel
theorem d36 : decode yB 36 = .ok (.invokestatic 177, 3) := by decide +kernel
theorem d39 : decode yB 39 = .ok (.astore 5, 2) := by decide +kernel
theorem d41 : decode yB 41 = .ok (.aload_n 0, 1) := by decide +kernel
theorem d42 : decode yB 42 = .ok (.aload 5, 2) := by decide +kernel
theorem d44 : decode yB 44 = .ok (.iload_n 3, 1) := by decide +kernel
theorem d45 : decode yB 45 = .ok (.invokestatic 47, 3) := by decide +kernel
theorem d48 : decode yB 48 = .ok (.putfield 15, 3) := by decide +kernel
theorem d51 : decode yB 51 = .ok (.aload_n 0, 1) := by decide +kernel
theorem d52 : decode yB 52 = .ok (.aload 5, 2) := by decide +kernel
theorem d54 : decode yB 54 = .ok (.putfield 9, 3) := by decide +kernel
theorem d57 : decode yB 57 = .ok (.return_, 1) := by decide +kernel
def site : List Cond := [.fieldLink "java/lang/String" 38 "java/lang/String" "COMPACT_STRINGS" "Z", Cmp3.tab, CodL.tab, .laysFinal "java/lang/String" "java/lang/String" "value" "[B", .fieldLink "java/lang/String" 9 "java/lang/String" "value" "[B", .laysFinal "java/lang/String" "java/lang/String" "coder" "B", .fieldLink "java/lang/String" 15 "java/lang/String" "coder" "B"] ++ objW "java/lang/String" 1 ++ staticW "java/lang/String" 177 Cmp3.yN ++ staticW "java/lang/String" 47 CodL.yN
def tab : Cond := tabOf yN yB 6 none site
def P (a : Addr) (D : Cell) (fV fC : Field) (b : Addr) (A : Cell) (z : Int32) (o len : Nat) (args : Array Value) (s : State) : Prop := args = #[.ref a, .ref b, .int (Int32.ofNat o), .int (Int32.ofNat len), .null] ∧ Blank "java/lang/String" a D s ∧ Found "java/lang/String" "value" "[B" fV s ∧ Found "java/lang/String" "coder" "B" fC s ∧ Ch b A s ∧ StaticIs s "java/lang/String" "COMPACT_STRINGS" "Z" (.int z) ∧ ¬ z = 0 ∧ 0 < len ∧ o + len ≤ A.slots.size ∧ len ≤ 536870912 ∧ ∀ i, i < len → ¬ 255 < cv A (o + i)
def E (a : Addr) (D : Cell) (fV fC : Field) (A : Cell) (o len : Nat) (r : Option Value) (s u : State) : Prop := Got a D fV fC A o len r s u
/-- len > 0, no char of the range above 255: a Latin-1 String of their low bytes -/
theorem law (l : Launch) (a : Addr) (D : Cell) (fV fC : Field) (b : Addr) (A : Cell) (z : Int32) (o len : Nat) : Law l yN 5 4 2 35 yB 6 none site (P a D fV fC b A z o len) (E a D fV fC A o len) [⟨a, fC.slot⟩, ⟨a, fV.slot⟩] 1 len := by
  refine Law.of_walk (plainFor_of_name (by decide +kernel)) (by decide +kernel) (by decide +kernel) (by decide) (fun _ _ h => by rw [h.1]; rfl) (fun _ U U' hal hh h => ⟨h.1, h.2.1.mv hal hh, h.2.2.1.al hal, h.2.2.2.1.al hal, h.2.2.2.2.1.mv hal hh, h.2.2.2.2.2.1.there hal hh, h.2.2.2.2.2.2⟩) (fun r U U' V V' h1 hal h2 h => Got.mv r U U' V V' h1 hal h2 h) ?_
  intro p e s m args below meth c s₁ X0 hexec hbytes hml hret hlk hnm hown hh0 W hP
  obtain ⟨rfl, hB, f1, f2, hA, s1, hz, l0, l1, l2, hp⟩ := hP
  have a31 := hA.1.2.2.2
  have c1 : Steps p.tables e below (s₁.setTop (entryFrame m #[.ref a, .ref b, .int (Int32.ofNat o), .int (Int32.ofNat len), .null] 6)) (s₁.setTop (mkF m 0 #[.val (.ref a), .val (.ref b), .val (.int (Int32.ofNat o)), .val (.int (Int32.ofNat len)), .val .null, .unset] [])) := entry rfl
  have c2 : Steps p.tables e below (s₁.setTop (entryFrame m #[.ref a, .ref b, .int (Int32.ofNat o), .int (Int32.ofNat len), .null] 6)) (s₁.setTop (mkF m 1 #[.val (.ref a), .val (.ref b), .val (.int (Int32.ofNat o)), .val (.int (Int32.ofNat len)), .val .null, .unset] [.ref a])) := c1.trans (by
    refine XS.aloadN X0.here hexec rfl (hb hbytes d0) rfl rfl ?_
    exact Steps.refl _)
  obtain ⟨T3, X3, q3, st3⟩ := X0.oinit hexec hown (wks W (objW "java/lang/String" 1)) (g := (mkF m 1 #[.val (.ref a), .val (.ref b), .val (.int (Int32.ofNat o)), .val (.int (Int32.ofNat len)), .val .null, .unset] [.ref a])) rfl (by rw [hml]; rfl) (rest := []) rfl (hb hbytes d1) (W := 0) (by show 2 * 0 + 0 ≤ _; decide) (Nat.le_of_ble_eq_true rfl) (Nat.le_of_ble_eq_true rfl)
  have hh3 := q3.trans hh0
  have c4 : Steps p.tables e below (s₁.setTop (entryFrame m #[.ref a, .ref b, .int (Int32.ofNat o), .int (Int32.ofNat len), .null] 6)) (T3.setTop (mkF m 27 #[.val (.ref a), .val (.ref b), .val (.int (Int32.ofNat o)), .val (.int (Int32.ofNat len)), .val .null, .unset] [])) := (c2.trans (st3 _ (Steps.refl _))).trans (by
    refine XS.iloadN X3.here hexec rfl (hb hbytes d4) rfl ?_
    refine XS.ifYes X3.here hexec rfl (pc0 := 5) rfl (hb hbytes d5) rfl (i0_ne_t (nz32 (by omega) l0)) (by decide) rfl ?_
    exact Steps.refl _)
  obtain ⟨T5, X5, q5, st5⟩ := X3.sget hexec hown (wk W (.fieldLink "java/lang/String" 38 "java/lang/String" "COMPACT_STRINGS" "Z")) s1 (fun _ _ h => by rw [hh3]; exact h) (g := (mkF m 27 #[.val (.ref a), .val (.ref b), .val (.int (Int32.ofNat o)), .val (.int (Int32.ofNat len)), .val .null, .unset] [])) rfl (hb hbytes d27)
  have hh5 := q5.trans hh3
  have c6 : Steps p.tables e below (s₁.setTop (entryFrame m #[.ref a, .ref b, .int (Int32.ofNat o), .int (Int32.ofNat len), .null] 6)) (T5.setTop (mkF m 30 #[.val (.ref a), .val (.ref b), .val (.int (Int32.ofNat o)), .val (.int (Int32.ofNat len)), .val .null, .unset] [.int z])) := c4.trans (st5 _ (Steps.refl _))
  have c7 : Steps p.tables e below (s₁.setTop (entryFrame m #[.ref a, .ref b, .int (Int32.ofNat o), .int (Int32.ofNat len), .null] 6)) (T5.setTop (mkF m 36 #[.val (.ref a), .val (.ref b), .val (.int (Int32.ofNat o)), .val (.int (Int32.ofNat len)), .val .null, .unset] [.int (Int32.ofNat len), .int (Int32.ofNat o), .ref b])) := c6.trans (by
    refine XS.ifNo X5.here hexec rfl (hb hbytes d30) rfl (i0_eq_f hz) ?_
    refine XS.aloadN X5.here hexec rfl (hb hbytes d33) rfl rfl ?_
    refine XS.iloadN X5.here hexec rfl (hb hbytes d34) rfl ?_
    refine XS.iloadN X5.here hexec rfl (hb hbytes d35) rfl ?_
    exact Steps.refl _)
  obtain ⟨v8, T8, X8, E8, g8⟩ := X5.callS hexec (Cmp3.law l b A o len) hown (wks W (staticW "java/lang/String" 177 Cmp3.yN)) (wk W Cmp3.tab) (W := 0) (Nat.le_of_ble_eq_true rfl) (Nat.le_of_ble_eq_true rfl) (Nat.le_refl _) (by show 0 + len ≤ len; omega) (g := (mkF m 36 #[.val (.ref a), .val (.ref b), .val (.int (Int32.ofNat o)), .val (.int (Int32.ofNat len)), .val .null, .unset] [.int (Int32.ofNat len), .int (Int32.ofNat o), .ref b])) rfl (by rw [hml]; rfl) c7 (argsL := [.ref b, .int (Int32.ofNat o), .int (Int32.ofNat len)]) (rest := []) rfl rfl (by show 2 * 0 + 0 ≤ _; decide) (hb hbytes d36) (⟨rfl, hA.mv X5.warmed.alike hh5, l1, l2, hp⟩)
  obtain ⟨e8, z8⟩ := E8
  obtain ⟨rfl, N, n1, n2, n3, n4, n5, n6⟩ := NewArr.mv _ T5 s _ _ hh5.symm (Vm.Alike.refl _) rfl e8
  rw [hh5] at z8
  have hB1 := hB.keep X8.warmed.alike (n6 _ _ hB.1)
  have hne : s.heap.size ≠ a := (Nat.ne_of_lt (Array.getElem?_eq_some_iff.mp hB.1).1).symm
  have c9 : Steps p.tables e below (s₁.setTop (entryFrame m #[.ref a, .ref b, .int (Int32.ofNat o), .int (Int32.ofNat len), .null] 6)) (T8.setTop (mkF m 39 #[.val (.ref a), .val (.ref b), .val (.int (Int32.ofNat o)), .val (.int (Int32.ofNat len)), .val .null, .unset] [.ref s.heap.size])) := g8
  have c10 : Steps p.tables e below (s₁.setTop (entryFrame m #[.ref a, .ref b, .int (Int32.ofNat o), .int (Int32.ofNat len), .null] 6)) (T8.setTop (mkF m 45 #[.val (.ref a), .val (.ref b), .val (.int (Int32.ofNat o)), .val (.int (Int32.ofNat len)), .val .null, .val (.ref s.heap.size)] [.int (Int32.ofNat N.slots.size), .ref s.heap.size, .ref a])) := by
    have hc : Steps p.tables e below (s₁.setTop (entryFrame m #[.ref a, .ref b, .int (Int32.ofNat o), .int (Int32.ofNat len), .null] 6)) (T8.setTop (mkF m 45 #[.val (.ref a), .val (.ref b), .val (.int (Int32.ofNat o)), .val (.int (Int32.ofNat len)), .val .null, .val (.ref s.heap.size)] [.int (Int32.ofNat len), .ref s.heap.size, .ref a])) := c9.trans (by
      refine XS.astore X8.here hexec rfl (hb hbytes d39) rfl rfl rfl ?_
      refine XS.aloadN X8.here hexec rfl (hb hbytes d41) rfl rfl ?_
      refine XS.aload X8.here hexec rfl (hb hbytes d42) rfl rfl ?_
      refine XS.iloadN X8.here hexec rfl (hb hbytes d44) rfl ?_
      exact Steps.refl _)
    rw [n4]; exact hc
  obtain ⟨v11, T11, X11, E11, g11⟩ := X8.callS hexec (CodL.law l s.heap.size N) hown (wks W (staticW "java/lang/String" 47 CodL.yN)) (wk W CodL.tab) (W := 1) (Nat.le_of_ble_eq_true rfl) (Nat.le_of_ble_eq_true rfl) (Nat.le_refl _) (by show 0 + len + 0 ≤ len; omega) (g := (mkF m 45 #[.val (.ref a), .val (.ref b), .val (.int (Int32.ofNat o)), .val (.int (Int32.ofNat len)), .val .null, .val (.ref s.heap.size)] [.int (Int32.ofNat N.slots.size), .ref s.heap.size, .ref a])) rfl (by rw [hml]; rfl) c10 (argsL := [.ref s.heap.size, .int (Int32.ofNat N.slots.size)]) (rest := [.ref a]) rfl rfl (by show 2 * 0 + (1 + 0) ≤ _; decide) (hb hbytes d45) (⟨rfl, n1⟩)
  obtain ⟨rfl, q11⟩ := E11
  have hB11 := hB1.mv (X8.warmed.alike.symm.trans X11.warmed.alike) q11
  have c12 : Steps p.tables e below (s₁.setTop (entryFrame m #[.ref a, .ref b, .int (Int32.ofNat o), .int (Int32.ofNat len), .null] 6)) (T11.setTop (mkF m 48 #[.val (.ref a), .val (.ref b), .val (.int (Int32.ofNat o)), .val (.int (Int32.ofNat len)), .val .null, .val (.ref s.heap.size)] [.int 0, .ref a])) := g11
  obtain ⟨T13, X13, p13, bl13, sl13, st13⟩ := X11.finit hexec hown (wk W (.fieldLink "java/lang/String" 15 "java/lang/String" "coder" "B")) (Or.inr ⟨_, (wk W (.laysFinal "java/lang/String" "java/lang/String" "coder" "B"))⟩) (Or.inl ⟨rfl, hnm⟩) f2 (Or.inl rfl) hB11 (t := .byte) (by decide +kernel) rfl (g := (mkF m 48 #[.val (.ref a), .val (.ref b), .val (.int (Int32.ofNat o)), .val (.int (Int32.ofNat len)), .val .null, .val (.ref s.heap.size)] [.int 0, .ref a])) rfl (rest := []) rfl (hb hbytes d48)
  have c14 : Steps p.tables e below (s₁.setTop (entryFrame m #[.ref a, .ref b, .int (Int32.ofNat o), .int (Int32.ofNat len), .null] 6)) (T13.setTop (mkF m 54 #[.val (.ref a), .val (.ref b), .val (.int (Int32.ofNat o)), .val (.int (Int32.ofNat len)), .val .null, .val (.ref s.heap.size)] [.ref s.heap.size, .ref a])) := (c12.trans (st13 _ (Steps.refl _))).trans (by
    refine XS.aloadN X13.here hexec rfl (hb hbytes d51) rfl rfl ?_
    refine XS.aload X13.here hexec rfl (hb hbytes d52) rfl rfl ?_
    exact Steps.refl _)
  obtain ⟨T15, X15, p15, bl15, sl15, st15⟩ := X13.finit hexec hown (wk W (.fieldLink "java/lang/String" 9 "java/lang/String" "value" "[B")) (Or.inr ⟨_, (wk W (.laysFinal "java/lang/String" "java/lang/String" "value" "[B"))⟩) (Or.inl ⟨rfl, hnm⟩) f1 (Or.inl rfl) bl13 (t := (.array .byte)) (by decide +kernel) rfl (g := (mkF m 54 #[.val (.ref a), .val (.ref b), .val (.int (Int32.ofNat o)), .val (.int (Int32.ofNat len)), .val .null, .val (.ref s.heap.size)] [.ref s.heap.size, .ref a])) rfl (rest := []) rfl (hb hbytes d54)
  have c16 : Steps p.tables e below (s₁.setTop (entryFrame m #[.ref a, .ref b, .int (Int32.ofNat o), .int (Int32.ofNat len), .null] 6)) (T15.setTop (mkF m 57 #[.val (.ref a), .val (.ref b), .val (.int (Int32.ofNat o)), .val (.int (Int32.ofNat len)), .val .null, .val (.ref s.heap.size)] [])) := c14.trans (st15 _ (Steps.refl _))
  have ap := apart (Or.inr ⟨_, (wk W (.laysFinal "java/lang/String" "java/lang/String" "value" "[B"))⟩) (Or.inr ⟨_, (wk W (.laysFinal "java/lang/String" "java/lang/String" "coder" "B"))⟩) f1 f2 (t₁ := .array .byte) (t₂ := .byte) (by decide +kernel) (by decide +kernel) (by decide)
  have al := X8.warmed.alike.symm.trans X15.warmed.alike
  have n7 : T11.heap[s.heap.size]? = some N := by rw [q11]; exact n1.1
  exact ⟨T15, none, _, _, _, X15, by simp, rfl, by omega, (fun _ => rfl), ⟨rfl, _, N, bl15, ((Same.refl D _).set _ (by simp)).set _ (by simp), sl15, (Cell.slots_setSlot_ne _ ap).trans sl13, n1.keep al (p15.other hne (p13.other hne n7)), n2, by rw [al.findClass]; exact n3, n4, n5, fun y c h1 h2 => p15.other h1 (p13.other h1 (by rw [q11]; exact n6 y c h2)), by rw [p15.2.2, p13.2.2, q11]; exact z8⟩, fun fs hl => c16.trans (X15.returnOut hexec hret (hb hbytes d57) hl)⟩
end New4
namespace New1
def yN : MethodName := ⟨"java/lang/String", "<init>", "([C)V"⟩
abbrev yB : ByteArray := jdk_42_method_3_code
theorem d0 : decode yB 0 = .ok (.aload_n 0, 1) := by decide +kernel
theorem d1 : decode yB 1 = .ok (.aload_n 1, 1) := by decide +kernel
theorem d2 : decode yB 2 = .ok (.iconst 0, 1) := by decide +kernel
theorem d3 : decode yB 3 = .ok (.aload_n 1, 1) := by decide +kernel
theorem d4 : decode yB 4 = .ok (.arraylength, 1) := by decide +kernel
theorem d5 : decode yB 5 = .ok (.aconst_null, 1) := by decide +kernel
theorem d6 : decode yB 6 = .ok (.invokespecial 27, 3) := by decide +kernel
theorem d9 : decode yB 9 = .ok (.return_, 1) := by decide +kernel
def site : List Cond := [New4.tab] ++ initW "java/lang/String" 27 New4.yN
def tab : Cond := tabOf yN yB 2 none site
def P (a : Addr) (D : Cell) (fV fC : Field) (b : Addr) (A : Cell) (z : Int32) (args : Array Value) (s : State) : Prop := args = #[.ref a, .ref b] ∧ Blank "java/lang/String" a D s ∧ Found "java/lang/String" "value" "[B" fV s ∧ Found "java/lang/String" "coder" "B" fC s ∧ Ch b A s ∧ StaticIs s "java/lang/String" "COMPACT_STRINGS" "Z" (.int z) ∧ ¬ z = 0 ∧ 0 < A.slots.size ∧ A.slots.size ≤ 536870912 ∧ ∀ i, i < A.slots.size → ¬ 255 < cv A i
def E (a : Addr) (D : Cell) (fV fC : Field) (A : Cell) (r : Option Value) (s u : State) : Prop := Got a D fV fC A 0 A.slots.size r s u
/-- new String(chars), not empty, no char above 255: a Latin-1 String of their low bytes -/
theorem law (l : Launch) (a : Addr) (D : Cell) (fV fC : Field) (b : Addr) (A : Cell) (z : Int32) : Law l yN 2 1 3 52 yB 2 none site (P a D fV fC b A z) (E a D fV fC A) [⟨a, fC.slot⟩, ⟨a, fV.slot⟩] 1 A.slots.size := by
  refine Law.of_walk (plainFor_of_name (by decide +kernel)) (by decide +kernel) (by decide +kernel) (by decide) (fun _ _ h => by rw [h.1]; rfl) (fun _ U U' hal hh h => ⟨h.1, h.2.1.mv hal hh, h.2.2.1.al hal, h.2.2.2.1.al hal, h.2.2.2.2.1.mv hal hh, h.2.2.2.2.2.1.there hal hh, h.2.2.2.2.2.2⟩) (fun r U U' V V' h1 hal h2 h => Got.mv r U U' V V' h1 hal h2 h) ?_
  intro p e s m args below meth c s₁ X0 hexec hbytes hml hret hlk hnm hown hh0 W hP
  obtain ⟨rfl, hB, f1, f2, hA, s1, hz, l0, l2, hp⟩ := hP
  have c1 : Steps p.tables e below (s₁.setTop (entryFrame m #[.ref a, .ref b] 2)) (s₁.setTop (mkF m 0 #[.val (.ref a), .val (.ref b)] [])) := entry rfl
  have c2 : Steps p.tables e below (s₁.setTop (entryFrame m #[.ref a, .ref b] 2)) (s₁.setTop (mkF m 6 #[.val (.ref a), .val (.ref b)] [.null, .int (Int32.ofNat A.slots.size), .int 0, .ref b, .ref a])) := c1.trans (by
    refine XS.aloadN X0.here hexec rfl (hb hbytes d0) rfl rfl ?_
    refine XS.aloadN X0.here hexec rfl (hb hbytes d1) rfl rfl ?_
    refine iconstV X0.here hexec rfl 0 (hb hbytes d2) (by decide) ?_
    refine XS.aloadN X0.here hexec rfl (hb hbytes d3) rfl rfl ?_
    refine X0.alen hexec (hA.1.mv X0.warmed.alike hh0) rfl rfl (hb hbytes d4) ?_
    refine XS.aconstNull X0.here hexec rfl (hb hbytes d5) ?_
    exact Steps.refl _)
  obtain ⟨v3, T3, X3, E3, g3⟩ := X0.callN hexec (New4.law l a D fV fC b A z 0 A.slots.size) rfl hown (wks W (initW "java/lang/String" 27 New4.yN)) (W New4.tab (by simp only [site, List.mem_cons, List.mem_append, true_or, or_true])) (W := 0) (Nat.le_of_ble_eq_true rfl) (Nat.le_of_ble_eq_true rfl) (Nat.le_refl _) (by show 0 + A.slots.size ≤ A.slots.size; omega) (g := (mkF m 6 #[.val (.ref a), .val (.ref b)] [.null, .int (Int32.ofNat A.slots.size), .int (Int32.ofNat 0), .ref b, .ref a])) rfl (by rw [hml]; rfl) c2 (argsL := [.ref b, .int (Int32.ofNat 0), .int (Int32.ofNat A.slots.size), .null]) (rest := []) rfl rfl (by show 2 * 0 + 0 ≤ _; decide) (hb hbytes d6) (⟨rfl, hB.mv X0.warmed.alike hh0, f1.al X0.warmed.alike, f2.al X0.warmed.alike, hA.mv X0.warmed.alike hh0, s1.there X0.warmed.alike hh0, hz, l0, by omega, l2, fun i hi => by rw [Nat.zero_add]; exact hp i hi⟩)
  have e0 := Got.mv _ s₁ s _ _ hh0.symm (Vm.Alike.refl _) rfl E3
  obtain rfl := e0.1
  have c4 : Steps p.tables e below (s₁.setTop (entryFrame m #[.ref a, .ref b] 2)) (T3.setTop (mkF m 9 #[.val (.ref a), .val (.ref b)] [])) := g3
  exact ⟨T3, none, _, _, _, X3, by simp, rfl, by omega, (fun _ => rfl), e0, fun fs hl => c4.trans (X3.returnOut hexec hret (hb hbytes d9) hl)⟩
theorem pays {l : Launch} {R : Room} {p : Program} {e : Env} {below : List Frame} {s : State} {sargs : Array Value} {len W : Nat} (a : Addr) (D : Cell) (fV fC : Field) (b : Addr) (A : Cell) (z : Int32) (htab : tab.before sargs s = true) (hfr : 4 ≤ R.frames) (hlo : W + 65 ≤ R.locals) :
    Back l R p e below s sargs yN len W (fun A₁ a₁ => A₁.cells + 1 ≤ R.cells ∧ A₁.slots + A.slots.size ≤ R.slots ∧ P a D fV fC b A z a₁ A₁.U) (fun A₁ _ v₁ B₁ => E a D fV fC A v₁ A₁.U B₁.U ∧ B₁.locs = A₁.locs ++ [⟨a, fC.slot⟩, ⟨a, fV.slot⟩] ∧ B₁.cells = A₁.cells + 1 ∧ B₁.slots = A₁.slots + A.slots.size) :=
  (law l a D fV fC b A z).pays htab hfr (by omega)
end New1
end StrChars
namespace StrChars.Road
open Jvm Sem ClassFile Op Lib Jvm.Stand Jvm.Free Jvm.Free.XT
open Jvm.Lib.Cold (StaticIs)
abbrev ST : String := "java/lang/String"
/-- every table word that New1's law asks, flat -/
abbrev words : List Jvm.Cond := [.code New1.yN New1.yB 2 none, .initialized ST, .methodLink ST 27 New4.yN, .instanceMethod New4.yN,
  .code New4.yN New4.yB 6 none, .fieldLink ST 38 ST "COMPACT_STRINGS" "Z", .laysFinal ST ST "value" "[B", .fieldLink ST 9 ST "value" "[B", .laysFinal ST ST "coder" "B", .fieldLink ST 15 ST "coder" "B",
  .methodLink ST 1 Lib.objectInit, .instanceMethod Lib.objectInit, .code Lib.objectInit ⟨#[0xb1]⟩ 1 none, .methodLink ST 177 Cmp3.yN, .static Cmp3.yN, .methodLink ST 47 CodL.yN, .static CodL.yN,
  .code Cmp3.yN Cmp3.yB 6 (some (.array .byte)), .initialized U16, .arrayClass .byte, .methodLink U16 115 Cmp5.yN, .static Cmp5.yN, .code Cmp5.yN Cmp5.yB 7 (some .int), .code CodL.yN CodL.yB 2 (some .byte)]
theorem tab_of {a : Array Value} {s : State} (h : ∀ w ∈ words, w.before a s = true) : New1.tab.before a s = true := by
  have h5 : Cmp5.tab.before a s = true := unparts (wk h (.code Cmp5.yN Cmp5.yB 7 (some .int))) (wks h (.initialized Cmp5.yN.cls :: Cmp5.site))
  have hc : CodL.tab.before a s = true := unparts (wk h (.code CodL.yN CodL.yB 2 (some .byte))) (wks h (.initialized CodL.yN.cls :: CodL.site))
  have q5 : ∀ w ∈ Cmp5.tab :: words, w.before a s = true := fun w hw => (List.mem_cons.mp hw).elim (fun e => e ▸ h5) (h w)
  have h3 : Cmp3.tab.before a s = true := unparts (wk q5 (.code Cmp3.yN Cmp3.yB 6 (some (.array .byte)))) (wks q5 (.initialized Cmp3.yN.cls :: Cmp3.site))
  have q3 : ∀ w ∈ Cmp3.tab :: CodL.tab :: words, w.before a s = true := fun w hw => (List.mem_cons.mp hw).elim (fun e => e ▸ h3) fun hw => (List.mem_cons.mp hw).elim (fun e => e ▸ hc) (h w)
  have h4 : New4.tab.before a s = true := unparts (wk q3 (.code New4.yN New4.yB 6 none)) (wks q3 (.initialized New4.yN.cls :: New4.site))
  have q4 : ∀ w ∈ New4.tab :: words, w.before a s = true := fun w hw => (List.mem_cons.mp hw).elim (fun e => e ▸ h4) (h w)
  exact unparts (wk q4 (.code New1.yN New1.yB 2 none)) (wks q4 (.initialized New1.yN.cls :: New1.site))
/-- the words ride from the start Z to the walk's own state -/
theorem moved {Z s : State} {a0 args : Array Value} (hZ : Z.Warmed39 s.vm) (hw : ∀ d ∈ words, d.before a0 Z = true) : ∀ d ∈ words, d.before args s = true := fun d hd => by
  have q := hw d hd
  have t : ∀ d ∈ words, d = .arrayClass .byte ∨ (d.onTables && d.keepsFace) = true := by decide +kernel
  rcases t d hd with rfl | t
  · exact RoadKit.mvA hZ q
  · exact RoadKit.mv hZ q t
/-- WHAT COMES BACK, over the tables of the start Z: h the heap at the call, h' behind it -/
def Q (Z : State) (x : Addr) (A : Cell) (h : Heap) (v : Option Value) (h' : Heap) (L : List Loc) : Prop := v = none ∧ (∀ y ∈ L, y.base = x) ∧ RoadKit.Keep h h' [x] ∧ h'.size = h.size + 1 ∧ RoadKit.Exa Z h' x ST ∧ RoadKit.Fld Z h' x ST "value" "[B" (.ref h.size) ∧ RoadKit.Fld Z h' x ST "coder" "B" (.int 0) ∧
  (∃ V : Cell, RoadKit.Arr Z h' h.size V .byte ∧ V.vm = .none ∧ Z.vm.findClass "[B" = some V.cls ∧ V.slots.size = A.slots.size ∧ ∀ j, j < A.slots.size → V.slots[j]? = some (.int (lo8 (cv A j)))) ∧
  ∀ (O n d : String) (w : Value), RoadKit.Fld Z h x O n d w → RoadKit.slotOf Z O n d ≠ RoadKit.slotOf Z ST "value" "[B" → RoadKit.slotOf Z O n d ≠ RoadKit.slotOf Z ST "coder" "B" → RoadKit.Fld Z h' x O n d w
/-- **new String(chars) AT A CALL, IN THE ROAD'S FORM**: for specialBack behind newO: x the fresh String, b the char[] with the cell A -/
theorem back {p : Program} {l : Launch} {e : Env} {R : Room} {s : State} {args : Array Value} {below : List Frame} {len W : Nat} {Z : State} {a0 : Array Value} {h : Heap} (hZ : Z.Warmed39 s.vm) (hw : ∀ d ∈ words, d.before a0 Z = true) {kI : Nat} (wi : (Jvm.Cond.instantiable ST kI).before a0 Z = true)
    {x b : Addr} {A : Cell} {z : Int32} {v0 c0 : Value} (E : RoadKit.Exa Z h x ST) (V : RoadKit.Fld Z h x ST "value" "[B" v0) (C : RoadKit.Fld Z h x ST "coder" "B" c0) (K : RoadKit.Arr Z h b A .char) (hty : Typed .char A) (S : RoadKit.Sta Z h ST "COMPACT_STRINGS" "Z" (.int z)) (hz : ¬ z = 0)
    (l0 : 0 < A.slots.size) (l2 : A.slots.size ≤ 536870912) (hp : ∀ i, i < A.slots.size → ¬ 255 < cv A i) (hfr : 4 ≤ R.frames) (hlo : W + 65 ≤ R.locals) :
    Back l R p e below s args New1.yN len W (fun P a => a = #[.ref x, .ref b] ∧ P.U.heap = h ∧ P.cells + 1 ≤ R.cells ∧ P.slots + A.slots.size ≤ R.slots)
      (fun P _ v B => ∃ L, Q Z x A h v B.U.heap L ∧ B.locs = P.locs ++ L ∧ B.cells = P.cells + 1 ∧ B.slots = P.slots + A.slots.size) := by
  intro m meth c P g ig mk a X hg hsize hdg hW hn hp'
  obtain ⟨rfl, rfl, r1, r2⟩ := hp'
  have al : Z.vm.Alike P.U.vm := hZ.alike.trans X.warmed.alike
  obtain ⟨D, cfV, kV, iV, fV, hD, gV, stV, knV, obV, asV, slV⟩ := id V
  obtain ⟨D', cfC, kC, iC, fC, hD', gC, stC, -, -, asC, slC⟩ := id C
  cases hD.symm.trans hD'
  obtain ⟨D2, kD, e1, e2, e3, e4, e5⟩ := id E
  cases hD.symm.trans e1
  obtain ⟨c2, k2, i1, i2, i3, -⟩ := Cond.instantiable_spec wi
  cases e2.symm.trans i1
  cases e3.symm.trans i2
  obtain ⟨kU, u1, u2⟩ := al.2.2 _ _ e3
  have hB : Blank ST x D P.U := ⟨hD, ⟨knV, fun q hq => by rw [hq] at obV; cases obV⟩, by rw [al.findClass]; exact e2, kU, u1, by rw [u2]; exact i3, by rw [u2]; exact e5 i3⟩
  have F1 : Found ST "value" "[B" fV P.U := ⟨SBG.found_only al ⟨cfV, kV, iV, gV⟩, stV⟩
  have F2 : Found ST "coder" "B" fC P.U := ⟨SBG.found_only al ⟨cfC, kC, iC, gC⟩, stC⟩
  have hA : Ch b A P.U := ⟨⟨K.1, State.isArrayOf_alike al K.2.1, K.2.2, by omega⟩, hty⟩
  have hS : StaticIs P.U ST "COMPACT_STRINGS" "Z" (.int z) := by
    obtain ⟨cfS, iS, kS, fS, st, cS, t1, t2, t3, t4, t5, t6, t7⟩ := S
    exact StaticIs.there (s := { Z with heap := P.U.heap }) ⟨cfS, iS, kS, fS, st, cS, t1, t2, t3, t4, t5, (fun q => by rw [q] at t6; cases t6), t7⟩ al rfl
  obtain ⟨v, B, X', ⟨⟨hv, E', V', q1, q2, q3, q4, q5, q6, q7, q8, q9, q10, q11⟩, hl, hc, hs⟩, st⟩ := New1.pays x D fV fC b A z (tab_of (moved hZ hw)) hfr hlo m meth c P g ig mk _ X hg hsize hdg hW hn ⟨r1, r2, rfl, hB, F1, F2, hA, hS, hz, l0, l2, hp⟩
  have al' : Z.vm.Alike B.U.vm := hZ.alike.trans X'.warmed.alike
  have hsz : E'.slots.size = D.slots.size := by
    obtain ⟨-, -, -, kB, w1, w2, w3⟩ := q1
    obtain ⟨kB', y1, y2⟩ := al'.2.2 _ _ e3
    rw [q2.2.1] at w1
    cases w1.symm.trans y1
    rw [w3, e5 i3, y2]
  refine ⟨v, B, X', ⟨_, ⟨hv, ?_, ⟨by omega, fun y cy hy hn' => q10 y cy (by simpa using hn') hy, fun y cy hy => ?_⟩, q11, ⟨E', _, q1.1, by rw [q2.2.1]; exact e2, by rw [q2.2.1]; exact e3, by rw [q2.1]; exact obV, fun _ => by rw [hsz]; exact e5 i3⟩,
    ⟨E', cfV, kV, iV, fV, q1.1, gV, stV, by rw [q2.1]; exact knV, by rw [q2.1]; exact obV, by rw [q2.2.1]; exact asV, q3⟩, ⟨E', cfC, kC, iC, fC, q1.1, gC, stC, by rw [q2.1]; exact knV, by rw [q2.1]; exact obV, by rw [q2.2.1]; exact asC, q4⟩,
    ⟨V', ⟨q5.1, State.isArrayOf_alike al'.symm q5.2.1, q5.2.2.1⟩, q6, by rw [← al'.findClass]; exact q7, q8, fun j hj => by have := q9 j hj; rwa [Nat.zero_add] at this⟩, fun O n d w F n1 n2 => ?_⟩, hl, hc, hs⟩, st⟩
  · intro y hy
    simp only [List.mem_cons, List.not_mem_nil, or_false] at hy
    rcases hy with rfl | rfl <;> rfl
  · by_cases q : y = x
    · subst q
      cases hD.symm.trans hy
      exact ⟨E', q1.1, q2.2.1, q2.1, hsz⟩
    · exact ⟨cy, q10 y cy q hy, rfl, rfl, rfl⟩
  · obtain ⟨D3, cf, k, i, f, g1, g2, g3, g4, g5, g6, g7⟩ := F
    cases hD.symm.trans g1
    simp only [RoadKit.slotOf, g2, gV, gC, Option.map_some, Option.getD_some] at n1 n2
    exact ⟨E', cf, k, i, f, q1.1, g2, g3, by rw [q2.1]; exact g4, by rw [q2.1]; exact g5, by rw [q2.2.1]; exact g6, by rw [q2.2.2 f.slot (by simp [n1, n2])]; exact g7⟩
end StrChars.Road
namespace StrChars.Road
open Jvm Sem ClassFile Op Lib Jvm.Stand Jvm.Free Jvm.Free.XT
/-- WHAT COMES BACK, the byte[] as a list of values -/
def QA (Z : State) (x : Addr) (zn : Int32) (cs : List Int32) (h : Heap) (v : Option Value) (h' : Heap) (L : List Loc) : Prop := v = none ∧ (∀ y ∈ L, y.base = x) ∧ RoadKit.Keep h h' [x] ∧ h'.size = h.size + 1 ∧ RoadKit.Exa Z h' x ST ∧ RoadKit.Fld Z h' x ST "value" "[B" (.ref h.size) ∧ RoadKit.Fld Z h' x ST "coder" "B" (.int 0) ∧
  (∃ kb, Z.vm.findClass "[B" = some kb ∧ RoadKit.Arv Z h' h.size kb .byte zn (cs.map fun c => .int (lo8 c)) (.int 0)) ∧
  ∀ (O n d : String) (w : Value), RoadKit.Fld Z h x O n d w → RoadKit.slotOf Z O n d ≠ RoadKit.slotOf Z ST "value" "[B" → RoadKit.slotOf Z O n d ≠ RoadKit.slotOf Z ST "coder" "B" → RoadKit.Fld Z h' x O n d w
/-- **new String(chars) AT A CALL, THE ARRAYS AS LISTS**: the char[] at b holds cs, not empty, no char above 255 -/
theorem backArv {p : Program} {l : Launch} {e : Env} {R : Room} {s : State} {args : Array Value} {below : List Frame} {len W : Nat} {Z : State} {a0 : Array Value} {h : Heap} (hZ : Z.Warmed39 s.vm) (hw : ∀ d ∈ words, d.before a0 Z = true) {kI : Nat} (wi : (Jvm.Cond.instantiable ST kI).before a0 Z = true)
    {x b : Addr} {k : ClassId} {zn z : Int32} {cs : List Int32} {dv v0 c0 : Value} (E : RoadKit.Exa Z h x ST) (V : RoadKit.Fld Z h x ST "value" "[B" v0) (C : RoadKit.Fld Z h x ST "coder" "B" c0) (K : RoadKit.Arv Z h b k .char zn (cs.map Value.int) dv) (S : RoadKit.Sta Z h ST "COMPACT_STRINGS" "Z" (.int z)) (hz : ¬ z = 0)
    (hlen : zn.toNatClampNeg = cs.length) (h0 : 0 < cs.length) (hbig : cs.length ≤ 536870912) (hall : ∀ c ∈ cs, ¬ 255 < c) (hfr : 4 ≤ R.frames) (hlo : W + 65 ≤ R.locals) :
    Back l R p e below s args New1.yN len W (fun P a => a = #[.ref x, .ref b] ∧ P.U.heap = h ∧ P.cells + 1 ≤ R.cells ∧ P.slots + cs.length ≤ R.slots)
      (fun P _ v B => ∃ L, QA Z x zn cs h v B.U.heap L ∧ B.locs = P.locs ++ L ∧ B.cells = P.cells + 1 ∧ B.slots = P.slots + cs.length) := by
  obtain ⟨A, K1, K2, K3, K4, K5, K6⟩ := K
  have e : A.slots.size = cs.length := K3.trans hlen
  have hat : ∀ (i : Nat) (hi : i < cs.length), A.slots[i]? = some (.int cs[i]) := fun i hi => by rw [K5 i (by omega)]; simp [List.getD_eq_getElem?_getD, hi]
  have hcv : ∀ (i : Nat) (hi : i < cs.length), cv A i = cs[i] := fun i hi => by unfold cv; rw [hat i hi]
  have hty : Typed .char A := fun i v hv => by
    have hi : i < A.slots.size := (Array.getElem?_eq_some_iff.mp hv).1
    have q := K5 i hi
    rw [hv] at q
    rw [Option.some.inj q]
    exact K6 i hi
  refine Back.mono (back hZ hw wi E V C K1 hty S hz (by omega) (by omega) (fun i hi => by rw [hcv i (by omega)]; exact hall _ (List.getElem_mem _)) hfr hlo) (fun P a hp => ⟨hp.1, hp.2.1, hp.2.2.1, by rw [e]; exact hp.2.2.2⟩) (fun P a v B hp hq => ?_)
  obtain ⟨L, ⟨q1, q2, q3, q4, q5, q6, q7, ⟨V', v1, v2, v3, v4, v5⟩, q9⟩, hl, hc, hs⟩ := hq
  refine ⟨L, ⟨q1, q2, q3, q4, q5, q6, q7, ⟨V'.cls, v3, V', v1, rfl, by rw [v4, e, hlen], K4, fun i hi => ?_, fun i hi => ?_⟩, q9⟩, hl, hc, by rw [hs, e]⟩
  · have hi' : i < cs.length := by omega
    rw [v5 i (by omega), hcv i hi']; simp [List.getD_eq_getElem?_getD, hi']
  · have hi' : i < cs.length := by omega
    simp only [List.getD_eq_getElem?_getD, List.getElem?_map, List.getElem?_eq_getElem hi', Option.map_some, Option.getD_some]
    exact fits_lo8 _
end StrChars.Road
namespace StrChars.Road
open Jvm Sem ClassFile Op Lib Jvm.Stand Jvm.Free Jvm.Free.XT
/-- WHAT COMES BACK, in the writer's own shape -/
def QV (Z : State) (x : Addr) (N : Int32) (bs : List Int32) (h : Heap) (n0 : Nat) (v : Option Value) (h' : Heap) (L : List Loc) : Prop := v = none ∧ RoadKit.Fr n0 L ∧ RoadKit.Keep h h' [x] ∧ RoadKit.Exa Z h' x ST ∧ RoadKit.Fld Z h' x ST "coder" "B" (.int 0) ∧
  ∃ (t : Addr) (kb : ClassId), n0 ≤ t ∧ h.size ≤ t ∧ ¬ t = x ∧ RoadKit.Fld Z h' x ST "value" "[B" (.ref t) ∧ RoadKit.Arv Z h' t kb .byte N (bs.map Value.int) (.int 0)
/-- **new String(chars) AT A CALL, FOR THE WRITER**: a char[] of n known ints, each 0 to 255 -/
theorem backV {p : Program} {l : Launch} {e : Env} {R : Room} {s : State} {args : Array Value} {below : List Frame} {len W : Nat} {Z : State} {a0 : Array Value} {h : Heap} (hZ : Z.Warmed39 s.vm) (hw : ∀ d ∈ words, d.before a0 Z = true) {kI : Nat} (wi : (Jvm.Cond.instantiable ST kI).before a0 Z = true)
    {x b : Addr} {kC : ClassId} {cs bs : List Int32} {d v0 c0 : Value} {z N : Int32} {n n0 : Nat} (hx0 : n0 ≤ x) (hh0 : n0 ≤ h.size) (E : RoadKit.Exa Z h x ST) (V : RoadKit.Fld Z h x ST "value" "[B" v0) (C : RoadKit.Fld Z h x ST "coder" "B" c0) (K : RoadKit.Arv Z h b kC .char N (cs.map Value.int) d) (S : RoadKit.Sta Z h ST "COMPACT_STRINGS" "Z" (.int z)) (hz : ¬ z = 0)
    (hn : cs.length = n) (hN : N = Int32.ofNat n) (l0 : 0 < n) (l2 : n ≤ 4000) (hp : ∀ c ∈ cs, ¬ c < 0 ∧ ¬ (255 : Int32) < c) (hb : bs = cs.map (fun c => c.toInt8.toInt32)) (hfr : 4 ≤ R.frames) (hlo : W + 65 ≤ R.locals) :
    Back l R p e below s args (⟨"java/lang/String", "<init>", "([C)V"⟩ : MethodName) len W (fun P a => a = #[.ref x, .ref b] ∧ P.U.heap = h ∧ P.cells + 1 ≤ R.cells ∧ P.slots + n ≤ R.slots)
      (fun P _ v B => ∃ L, QV Z x N bs h n0 v B.U.heap L ∧ B.locs = P.locs ++ L ∧ B.cells = P.cells + 1 ∧ B.slots = P.slots + n) := by
  subst hn hN hb
  refine Back.mono (backArv hZ hw wi E V C K S hz (n32 (by omega)) l0 (by omega) (fun c hc => (hp c hc).2) hfr hlo) (fun P a hp => hp) (fun P a v B hp hq => ?_)
  obtain ⟨L, ⟨q1, q2, q3, q4, q5, q6, q7, ⟨kb, v1, v2⟩, q9⟩, hl, hc, hs⟩ := hq
  exact ⟨L, ⟨q1, fun y hy => by rw [q2 y hy]; exact hx0, q3, q5, q7, h.size, kb, hh0, Nat.le_refl _, Nat.ne_of_gt E.lt, q6, by rw [List.map_map]; exact v2⟩, hl, hc, hs⟩
end StrChars.Road
end Jvm.Pilot.@@N@@
namespace Jvm.Pilot.@@N@@
open Jvm Jvm.ClassFile Sem Op Lib Jvm.Free Jvm.Stand Jvm.LawKit Jvm.RoadKit Bundle Jvm.Pilot.@@N@@.Jvm.D
section OwnKit
variable {p : Program} {l : Launch} {e : Env} {R : Room} {s : State} {m : MethodId} {args : Array Value} {below : List Frame} {meth : Method} {c : Code} {T : State} {locs : List Loc} {cells slots : Nat} {Z : State} {h : Heap} {a : Addr} {k : ClassId} {n : Int32} {vs : List Value} {dv : Value}
/-- from S on the body's run ends as Qx says -/
def own_Ok (p : Program) (e : Env) (below : List Frame) (Qx : Outcome → State → Prop) (S : State) : Prop := ∃ s₂ o, Steps p.tables e below S s₂ ∧ s₂.status = .running ∧ Ended s₂ below o ∧ Qx o s₂
theorem own_st {Qx : Outcome → State → Prop} {S S' : State} (h : ∀ t, Steps p.tables e below S' t → Steps p.tables e below S t) (k : own_Ok p e below Qx S') : own_Ok p e below Qx S := by
  obtain ⟨s₂, o, h1, h2⟩ := k
  exact ⟨s₂, o, h s₂ h1, h2⟩
def own_Qx (s : State) (Q : Option Value → Heap → List Loc → Prop) (kc ks : Nat) : Outcome → State → Prop := fun o s₂ => ∃ v L, o = .returned v ∧ Q v s₂.heap L ∧ FrameEnd s o s₂ L kc ks
theorem own_out (X : Stand p l e R s m args below meth c T locs cells slots) (hlk : meth.locks = false) {Q : Option Value → Heap → List Loc → Prop} {kc ks : Nat} {g : JFrame} (v : Option Value) (hv : meth.sig.returnType = none → v = none)
    (hst : ∀ fs, (∀ (f : JFrame) (acts : List Action), f.method = m → f.locked = none → f.entered = [] → (doReturn e (T.setTop f) acts v).1 = T.setFrames fs) → Steps p.tables e below (T.setTop g) (T.setFrames fs))
    (hq : Q v T.heap locs) (hk : cells ≤ kc) (hn : slots ≤ ks) : own_Ok p e below (own_Qx s Q kc ks) (T.setTop g) := by
  obtain ⟨fs, hr, hrun, hended, hW, hsame⟩ := X.leave (v := v) hv hlk
  exact ⟨_, _, hst fs hr, hrun, hended, v, locs, rfl, hq, ⟨_, rfl⟩, hW, hsame.mono hk hn⟩
theorem own_retV (X : Stand p l e R s m args below meth c T locs cells slots) (hx : p.tables.exec = Jvm.exec) (hlk : meth.locks = false) {Q : Option Value → Heap → List Loc → Prop} {kc ks : Nat} {pc : Nat} {Ls : Array Slot} (hret : meth.sig.returnType = none) (hd : decode c.code pc = .ok (.return_, 1))
    (hq : Q none T.heap locs) (hk : cells ≤ kc) (hn : slots ≤ ks) : own_Ok p e below (own_Qx s Q kc ks) (T.setTop (mkF m pc Ls [])) :=
  own_out X hlk none (fun _ => rfl) (fun fs hr => X.returnOut hx hret hd hr) hq hk hn
theorem own_retI (X : Stand p l e R s m args below meth c T locs cells slots) (hx : p.tables.exec = Jvm.exec) (hlk : meth.locks = false) {Q : Option Value → Heap → List Loc → Prop} {kc ks : Nat} {pc : Nat} {Ls : Array Slot} {z : Int32} {rest : List Value} (hret : meth.sig.returnType = some .int) (hd : decode c.code pc = .ok (.ireturn, 1))
    (hq : Q (some (.int z)) T.heap locs) (hk : cells ≤ kc) (hn : slots ≤ ks) : own_Ok p e below (own_Qx s Q kc ks) (T.setTop (mkF m pc Ls (.int z :: rest))) :=
  own_out X hlk _ (fun h => by rw [hret] at h; cases h) (fun fs hr => retOut X hx (i := .ireturn) hret rfl (Or.inl ⟨rfl, Or.inl rfl, _, rfl⟩) hd hr) hq hk hn
theorem own_retN (X : Stand p l e R s m args below meth c T locs cells slots) (hx : p.tables.exec = Jvm.exec) (hlk : meth.locks = false) {Q : Option Value → Heap → List Loc → Prop} {kc ks : Nat} {pc : Nat} {Ls : Array Slot} {z : Int32} {t : FieldType} {rest : List Value} (hret : meth.sig.returnType = some t) (ht : t = .boolean ∨ t = .byte ∨ t = .char ∨ t = .short) (hd : decode c.code pc = .ok (.ireturn, 1))
    (hq : Q (some (.int (nar t z))) T.heap locs) (hk : cells ≤ kc) (hn : slots ≤ ks) : own_Ok p e below (own_Qx s Q kc ks) (T.setTop (mkF m pc Ls (.int z :: rest))) :=
  own_out X hlk _ (fun h => by rw [hret] at h; cases h) (fun fs hr => retN X hx hret ht hd hr) hq hk hn
theorem own_retJ (X : Stand p l e R s m args below meth c T locs cells slots) (hx : p.tables.exec = Jvm.exec) (hlk : meth.locks = false) {Q : Option Value → Heap → List Loc → Prop} {kc ks : Nat} {pc : Nat} {Ls : Array Slot} {z : Int64} {rest : List Value} (hret : meth.sig.returnType = some .long) (hd : decode c.code pc = .ok (.lreturn, 1))
    (hq : Q (some (.long z)) T.heap locs) (hk : cells ≤ kc) (hn : slots ≤ ks) : own_Ok p e below (own_Qx s Q kc ks) (T.setTop (mkF m pc Ls (.long z :: rest))) :=
  own_out X hlk _ (fun h => by rw [hret] at h; cases h) (fun fs hr => retOut X hx (i := .lreturn) hret rfl (Or.inr (Or.inl ⟨rfl, rfl, _, rfl⟩)) hd hr) hq hk hn
theorem own_narR {v : Value} {t : FieldType} (hv : v.isRef = true) (ht : t.isReference = true) : narrow t v = v := by
  cases t <;> first | (cases ht; done) | (cases v <;> first | rfl | (cases hv; done))
theorem own_fitsR {v : Value} {t : FieldType} (hv : v.isRef = true) (ht : t.isReference = true) : fits t v = true := by
  cases t <;> first | (cases ht; done) | (cases v <;> first | rfl | (cases hv; done))
theorem own_retA (X : Stand p l e R s m args below meth c T locs cells slots) (hx : p.tables.exec = Jvm.exec) (hlk : meth.locks = false) {Q : Option Value → Heap → List Loc → Prop} {kc ks : Nat} {pc : Nat} {Ls : Array Slot} {w : Value} {t : FieldType} {rest : List Value} (hw : w.isRef = true) (hret : meth.sig.returnType = some t) (ht : t.isReference = true) (hd : decode c.code pc = .ok (.areturn, 1))
    (hq : Q (some w) T.heap locs) (hk : cells ≤ kc) (hn : slots ≤ ks) : own_Ok p e below (own_Qx s Q kc ks) (T.setTop (mkF m pc Ls (w :: rest))) :=
  own_out X hlk _ (fun h => by rw [hret] at h; cases h) (fun fs hr => retOut X hx (i := .areturn) hret (own_narR hw ht) (Or.inr (Or.inr (Or.inr (Or.inr ⟨rfl, ht, hw⟩)))) hd hr) hq hk hn
theorem own_n0 {n0 : Nat} (O : Old Z n0 h) : n0 ≤ h.size := O.1 ▸ O.2.1
theorem own_len {ty : FieldType} (X : Stand p l e R s m args below meth c T locs cells slots) (hx : p.tables.exec = Jvm.exec) (hZ : Z.Warmed39 s.vm) (eT : T.heap = h) (A : Arv Z h a k ty n vs dv) {g : JFrame} (hg : g.method = m) {rest : List Value} (hs : g.stack = .ref a :: rest) (hd : decode c.code g.pc = .ok (.arraylength, 1)) (t : State)
    (hr : Steps p.tables e below (T.setTop { g with pc := g.pc + 1, stack := .int n :: rest }) t) : Steps p.tables e below (T.setTop g) t := by
  obtain ⟨cl, A1, -, S, h0, -⟩ := A
  exact X.arraylength hx (by rw [eT]; exact A1.1) (State.isArrayOf_alike hZ.alike A1.2.1) hg hs hd t (by rw [len_of S h0]; exact hr)
theorem own_ldC (X : Stand p l e R s m args below meth c T locs cells slots) (hx : p.tables.exec = Jvm.exec) (hZ : Z.Warmed39 s.vm) (eT : T.heap = h) (A : Arv Z h a k .char n vs dv) {j v : Int32} (h0 : ¬ j < 0) (h1 : j < n) (hv : vs.getD j.toNatClampNeg dv = .int v) {g : JFrame} (hg : g.method = m) {rest : List Value} (hs : g.stack = .int j :: .ref a :: rest) (hd : decode c.code g.pc = .ok (.caload, 1)) (t : State)
    (hr : Steps p.tables e below (T.setTop { g with pc := g.pc + 1, stack := .int v :: rest }) t) : Steps p.tables e below (T.setTop g) t := by
  obtain ⟨cl, A1, -, S, -, H, -⟩ := A
  exact X.caload hx (by rw [eT]; exact A1.1) (State.isArrayOf_alike hZ.alike A1.2.1) A1.2.2 (inb_of S ⟨h0, h1⟩) (H.at (inb_of S ⟨h0, h1⟩) hv) hg hs hd t hr
theorem own_ldB (X : Stand p l e R s m args below meth c T locs cells slots) (hx : p.tables.exec = Jvm.exec) (hZ : Z.Warmed39 s.vm) (eT : T.heap = h) (A : Arv Z h a k .byte n vs dv) {j v : Int32} (h0 : ¬ j < 0) (h1 : j < n) (hv : vs.getD j.toNatClampNeg dv = .int v) {g : JFrame} (hg : g.method = m) {rest : List Value} (hs : g.stack = .int j :: .ref a :: rest) (hd : decode c.code g.pc = .ok (.baload, 1)) (t : State)
    (hr : Steps p.tables e below (T.setTop { g with pc := g.pc + 1, stack := .int v :: rest }) t) : Steps p.tables e below (T.setTop g) t := by
  obtain ⟨cl, A1, -, S, -, H, -⟩ := A
  exact X.baloadBytes hx (by rw [eT]; exact A1.1) (State.isArrayOf_alike hZ.alike A1.2.1) A1.2.2 (inb_of S ⟨h0, h1⟩) (H.at (inb_of S ⟨h0, h1⟩) hv) hg hs hd t hr
theorem own_ldI (X : Stand p l e R s m args below meth c T locs cells slots) (hx : p.tables.exec = Jvm.exec) (hZ : Z.Warmed39 s.vm) (eT : T.heap = h) (A : Arv Z h a k .int n vs dv) {j v : Int32} (h0 : ¬ j < 0) (h1 : j < n) (hv : vs.getD j.toNatClampNeg dv = .int v) {g : JFrame} (hg : g.method = m) {rest : List Value} (hs : g.stack = .int j :: .ref a :: rest) (hd : decode c.code g.pc = .ok (.iaload, 1)) (t : State)
    (hr : Steps p.tables e below (T.setTop { g with pc := g.pc + 1, stack := .int v :: rest }) t) : Steps p.tables e below (T.setTop g) t := by
  obtain ⟨cl, A1, -, S, -, H, -⟩ := A
  exact X.iaload hx (by rw [eT]; exact A1.1) (State.isArrayOf_alike hZ.alike A1.2.1) A1.2.2 (inb_of S ⟨h0, h1⟩) (H.at (inb_of S ⟨h0, h1⟩) hv) hg hs hd t hr
theorem own_ldJ (X : Stand p l e R s m args below meth c T locs cells slots) (hx : p.tables.exec = Jvm.exec) (hZ : Z.Warmed39 s.vm) (eT : T.heap = h) (A : Arv Z h a k .long n vs dv) {j : Int32} {v : Int64} (h0 : ¬ j < 0) (h1 : j < n) (hv : vs.getD j.toNatClampNeg dv = .long v) {g : JFrame} (hg : g.method = m) {rest : List Value} (hs : g.stack = .int j :: .ref a :: rest) (hd : decode c.code g.pc = .ok (.laload, 1)) (t : State)
    (hr : Steps p.tables e below (T.setTop { g with pc := g.pc + 1, stack := .long v :: rest }) t) : Steps p.tables e below (T.setTop g) t := by
  obtain ⟨cl, A1, -, S, -, H, -⟩ := A
  exact X.laload hx (by rw [eT]; exact A1.1) (State.isArrayOf_alike hZ.alike A1.2.1) A1.2.2 (inb_of S ⟨h0, h1⟩) (H.at (inb_of S ⟨h0, h1⟩) hv) hg hs hd t hr
theorem own_ldR {ty : FieldType} (X : Stand p l e R s m args below meth c T locs cells slots) (hx : p.tables.exec = Jvm.exec) (hZ : Z.Warmed39 s.vm) (eT : T.heap = h) (A : Arv Z h a k ty n vs dv) {j : Int32} {v : Value} (h0 : ¬ j < 0) (h1 : j < n) (hv : vs.getD j.toNatClampNeg dv = v) (hty : ty.isReference = true) {g : JFrame} (hg : g.method = m) {rest : List Value} (hs : g.stack = .int j :: .ref a :: rest) (hd : decode c.code g.pc = .ok (.aaload, 1)) (t : State)
    (hr : Steps p.tables e below (T.setTop { g with pc := g.pc + 1, stack := v :: rest }) t) : Steps p.tables e below (T.setTop g) t := by
  obtain ⟨cl, A1, -, S, -, H, -⟩ := A
  exact X.aaload hx (by rw [eT]; exact A1.1) (State.isArrayOf_alike hZ.alike A1.2.1) hty A1.2.2 (inb_of S ⟨h0, h1⟩) (H.at (inb_of S ⟨h0, h1⟩) hv) hg hs hd t hr
theorem own_stC (X : Stand p l e R s m args below meth c T locs cells slots) (hx : p.tables.exec = Jvm.exec) (hZ : Z.Warmed39 s.vm) (eT : T.heap = h) (A : Arv Z h a k .char n vs dv) {j x : Int32} (i : Nat) (hi : j.toNatClampNeg = i) (h0 : ¬ j < 0) (h1 : j < n) (h2 : i < vs.length) {g : JFrame} (hg : g.method = m) {rest : List Value} (hs : g.stack = .int x :: .int j :: .ref a :: rest) (hd : decode c.code g.pc = .ok (.castore, 1)) :
    ∃ T' h', Stand p l e R s m args below meth c T' (locs ++ [⟨a, j.toNatClampNeg⟩]) cells slots ∧ T'.heap = h' ∧ Wr h h' a j.toNatClampNeg (.int (nar .char x)) ∧ Arv Z h' a k .char n (vs.set i (.int (nar .char x))) dv ∧ ∀ target, Steps p.tables e below (T'.setTop { g with pc := g.pc + 1, stack := rest }) target → Steps p.tables e below (T.setTop g) target := by
  obtain ⟨cl, A1, q, S, hn, H, G⟩ := A
  obtain ⟨T', h', X', e', W', st⟩ := stC X hx hZ eT A1 (inb_of S ⟨h0, h1⟩) hg hs hd
  exact ⟨T', h', X', e', W', Arv.set A1 q S hn H G (fits_nar_char _) W' i hi h2, st⟩
theorem own_stB (X : Stand p l e R s m args below meth c T locs cells slots) (hx : p.tables.exec = Jvm.exec) (hZ : Z.Warmed39 s.vm) (eT : T.heap = h) (A : Arv Z h a k .byte n vs dv) {j x : Int32} (i : Nat) (hi : j.toNatClampNeg = i) (h0 : ¬ j < 0) (h1 : j < n) (h2 : i < vs.length) {g : JFrame} (hg : g.method = m) {rest : List Value} (hs : g.stack = .int x :: .int j :: .ref a :: rest) (hd : decode c.code g.pc = .ok (.bastore, 1)) :
    ∃ T' h', Stand p l e R s m args below meth c T' (locs ++ [⟨a, j.toNatClampNeg⟩]) cells slots ∧ T'.heap = h' ∧ Wr h h' a j.toNatClampNeg (.int (nar .byte x)) ∧ Arv Z h' a k .byte n (vs.set i (.int (nar .byte x))) dv ∧ ∀ target, Steps p.tables e below (T'.setTop { g with pc := g.pc + 1, stack := rest }) target → Steps p.tables e below (T.setTop g) target := by
  obtain ⟨cl, A1, q, S, hn, H, G⟩ := A
  obtain ⟨T', h', X', e', W', st⟩ := stB X hx hZ eT A1 (inb_of S ⟨h0, h1⟩) hg hs hd
  exact ⟨T', h', X', e', W', Arv.set A1 q S hn H G (fits_nar_byte _) W' i hi h2, st⟩
theorem own_stI (X : Stand p l e R s m args below meth c T locs cells slots) (hx : p.tables.exec = Jvm.exec) (hZ : Z.Warmed39 s.vm) (eT : T.heap = h) (A : Arv Z h a k .int n vs dv) {j x : Int32} (i : Nat) (hi : j.toNatClampNeg = i) (h0 : ¬ j < 0) (h1 : j < n) (h2 : i < vs.length) {g : JFrame} (hg : g.method = m) {rest : List Value} (hs : g.stack = .int x :: .int j :: .ref a :: rest) (hd : decode c.code g.pc = .ok (.iastore, 1)) :
    ∃ T' h', Stand p l e R s m args below meth c T' (locs ++ [⟨a, j.toNatClampNeg⟩]) cells slots ∧ T'.heap = h' ∧ Wr h h' a j.toNatClampNeg (.int x) ∧ Arv Z h' a k .int n (vs.set i (.int x)) dv ∧ ∀ target, Steps p.tables e below (T'.setTop { g with pc := g.pc + 1, stack := rest }) target → Steps p.tables e below (T.setTop g) target := by
  obtain ⟨cl, A1, q, S, hn, H, G⟩ := A
  obtain ⟨T', h', X', e', W', st⟩ := stI X hx hZ eT A1 (inb_of S ⟨h0, h1⟩) hg hs hd
  exact ⟨T', h', X', e', W', Arv.set A1 q S hn H G rfl W' i hi h2, st⟩
theorem own_stJ (X : Stand p l e R s m args below meth c T locs cells slots) (hx : p.tables.exec = Jvm.exec) (hZ : Z.Warmed39 s.vm) (eT : T.heap = h) (A : Arv Z h a k .long n vs dv) {j : Int32} {x : Int64} (i : Nat) (hi : j.toNatClampNeg = i) (h0 : ¬ j < 0) (h1 : j < n) (h2 : i < vs.length) {g : JFrame} (hg : g.method = m) {rest : List Value} (hs : g.stack = .long x :: .int j :: .ref a :: rest) (hd : decode c.code g.pc = .ok (.lastore, 1)) :
    ∃ T' h', Stand p l e R s m args below meth c T' (locs ++ [⟨a, j.toNatClampNeg⟩]) cells slots ∧ T'.heap = h' ∧ Wr h h' a j.toNatClampNeg (.long x) ∧ Arv Z h' a k .long n (vs.set i (.long x)) dv ∧ ∀ target, Steps p.tables e below (T'.setTop { g with pc := g.pc + 1, stack := rest }) target → Steps p.tables e below (T.setTop g) target := by
  obtain ⟨cl, A1, q, S, hn, H, G⟩ := A
  obtain ⟨T', h', X', e', W', st⟩ := stJ X hx hZ eT A1 (inb_of S ⟨h0, h1⟩) hg hs hd
  exact ⟨T', h', X', e', W', Arv.set A1 q S hn H G rfl W' i hi h2, st⟩
theorem own_stR {ty : FieldType} (X : Stand p l e R s m args below meth c T locs cells slots) (hx : p.tables.exec = Jvm.exec) (hZ : Z.Warmed39 s.vm) (eT : T.heap = h) (A : Arv Z h a k ty n vs dv) {j : Int32} {x : Value} (i : Nat) (hi : j.toNatClampNeg = i) (h0 : ¬ j < 0) (h1 : j < n) (h2 : i < vs.length) (hty : ty.isReference = true) (hxr : x.isRef = true) (hsto : ∀ cl : Cell, Arr Z h a cl ty → cl.cls = k → Sto Z h a x) {g : JFrame} (hg : g.method = m) {rest : List Value} (hs : g.stack = x :: .int j :: .ref a :: rest) (hd : decode c.code g.pc = .ok (.aastore, 1)) :
    ∃ T' h', Stand p l e R s m args below meth c T' (locs ++ [⟨a, j.toNatClampNeg⟩]) cells slots ∧ T'.heap = h' ∧ Wr h h' a j.toNatClampNeg x ∧ Arv Z h' a k ty n (vs.set i x) dv ∧ ∀ target, Steps p.tables e below (T'.setTop { g with pc := g.pc + 1, stack := rest }) target → Steps p.tables e below (T.setTop g) target := by
  obtain ⟨cl, A1, q, S, hn, H, G⟩ := A
  obtain ⟨T', h', X', e', W', st⟩ := stR X hx hZ eT A1 (inb_of S ⟨h0, h1⟩) hty (hsto cl A1 q) hg hs hd
  exact ⟨T', h', X', e', W', Arv.set A1 q S hn H G (own_fitsR hxr hty) W' i hi h2, st⟩
end OwnKit
theorem own_len31 {s : State} {args : Array Value} {t : Term} {v : Value} {x : Addr} {cl : Cell} (ht : t.eval args s none [] s = some (.ref x)) (ha : s.arrayAt? x = some cl) (h : (Term.length t).eval args s none [] s = some v) : cl.slots.size < 2 ^ 31 := by
  by_cases hl : cl.slots.size < 2 ^ 31
  · exact hl
  · simp [Term.eval, ht, ha, hl] at h
/-- a comparison with an int that holds: the other side is that int -/
theorem own_eqInt {s : State} {args : Array Value} {t : Term} {b : Int32} (h : (Jvm.Cond.eq t (.int b)).value args s none s [] = some true) : t.eval args s none [] s = some (.int b) := by
  obtain ⟨x, y, ha, hb, hk, -⟩ := cmp_v (Or.inl h)
  have hy : y = .int b := by
    have q := Term.int_eval (args := args) (first := s) (o := none) (idx := []) (s := s) b
    rw [hb] at q; exact Option.some.inj q
  subst hy
  cases x <;> simp only [Kin] at hk
  · rename_i z
    have q := gotT (Cond.eq_ints ha hb) h
    rw [q] at ha
    exact ha
  all_goals (first | (obtain ⟨w, hw⟩ := hk; cases hw; done) | (obtain ⟨-, hw⟩ := hk; cases hw; done))
theorem own_eqRef {s : State} {args : Array Value} {t u : Term} {a : Addr} (h : (Jvm.Cond.eq t u).value args s none s [] = some true) (hu : u.eval args s none [] s = some (.ref a)) : t.eval args s none [] s = some (.ref a) := by
  obtain ⟨x, y, ha, hb, hk, -⟩ := cmp_v (Or.inl h)
  cases hu.symm.trans hb
  cases x <;> simp only [Kin] at hk
  all_goals (first | (obtain ⟨w, hw⟩ := hk; cases hw; done) | skip)
  all_goals (have q := gotT (eq_R ha hb (by first | rfl | exact hk.1) rfl) h; rw [ha, q])
theorem own_lenAt {s : State} {args : Array Value} {t : Term} {x : Addr} {cl : Cell} {n : Int32} (ht : t.eval args s none [] s = some (.ref x)) (ha : s.arrayAt? x = some cl) (h : (Jvm.Cond.eq (.length t) (.int n)).value args s none s [] = some true) : cl.slots.size < 2 ^ 31 ∧ cl.slots.size.toInt32 = n := by
  have hl : cl.slots.size < 2 ^ 31 := by
    obtain ⟨x, y, ha', -⟩ := cmp_v (Or.inl h)
    exact own_len31 ht ha ha'
  exact ⟨hl, gotT (Cond.eq_ints (len_f ht ha hl) (Term.int_eval n)) h⟩
theorem own_elemAt {s : State} {args : Array Value} {t : Term} {x : Addr} {cl : Cell} {j b : Int32} (ht : t.eval args s none [] s = some (.ref x)) (hc : s.heap[x]? = some cl) (h : (Jvm.Cond.eq (.elem t (.int j)) (.int b)).value args s none s [] = some true) : cl.slots[j.toNatClampNeg]? = some (.int b) :=
  (elem_in (own_eqInt h) ht (Term.int_eval j) hc).2
theorem own_elemRef {s : State} {args : Array Value} {t u : Term} {x a : Addr} {cl : Cell} {j : Int32} (ht : t.eval args s none [] s = some (.ref x)) (hc : s.heap[x]? = some cl) (h : (Jvm.Cond.eq (.elem t (.int j)) u).value args s none s [] = some true) (hu : u.eval args s none [] s = some (.ref a)) : cl.slots[j.toNatClampNeg]? = some (.ref a) :=
  (elem_in (own_eqRef h hu) ht (Term.int_eval j) hc).2
/-- a String of the start, by the words on its coder and its bytes' array: all but the bytes -/
theorem own_strStart {s : State} {args : Array Value} {t : Term} {a : Addr} {n : Int32} (ev : t.eval args s none [] s = some (.ref a)) (h1 : (Jvm.Cond.exactly t "java/lang/String").value args s none s [] = some true) (h2 : (Jvm.Cond.eq (.field t "java/lang/String" "coder" "B") (.int (0 : Int32))).value args s none s [] = some true)
    (h3 : (Jvm.Cond.arrayOf (.field t "java/lang/String" "value" "[B") .byte).value args s none s [] = some true) (h4 : (Jvm.Cond.eq (.length (.field t "java/lang/String" "value" "[B")) (.int n)).value args s none s [] = some true) :
    Exa s s.heap a "java/lang/String" ∧ Fld s s.heap a "java/lang/String" "coder" "B" (.int (0 : Int32)) ∧ ∃ (v : Addr) (cl : Cell), (Term.field t "java/lang/String" "value" "[B").eval args s none [] s = some (.ref v) ∧ Fld s s.heap a "java/lang/String" "value" "[B" (.ref v) ∧ Arr s s.heap v cl .byte ∧ cl.slots.size < 2 ^ 31 ∧ cl.slots.size.toInt32 = n := by
  have ec := own_eqInt h2
  rw [fld_at ev] at ec
  obtain ⟨v, e3⟩ := arr_v h3
  obtain ⟨cl, A⟩ := Arr.start e3 h3
  have e3' := e3
  rw [fld_at ev] at e3'
  obtain ⟨hl, hz⟩ := own_lenAt e3 (A.fin (Vm.Alike.refl _)) h4
  exact ⟨Exa.start ev h1, Fld.start ec, v, cl, e3, Fld.start e3', A, hl, hz⟩
theorem own_and7 (x : Int32) : ∃ k : Fin 8, x &&& 7 = Int32.ofNat k.val := by
  have h : (x &&& 7).toBitVec.toNat < 8 := by
    simp only [Int32.toBitVec_and, BitVec.toNat_and]
    exact Nat.lt_succ_of_le Nat.and_le_right
  refine ⟨⟨_, h⟩, ?_⟩
  apply Int32.toBitVec_inj.mp
  show _ = BitVec.ofNat 32 _
  rw [BitVec.ofNat_toNat]; simp
theorem own_k7 (x : Int32) (h0 : ¬ (x &&& (7 : Int32)) = (0 : Int32)) (h1 : ¬ (x &&& (7 : Int32)) = (1 : Int32)) (h2 : ¬ (x &&& (7 : Int32)) = (2 : Int32)) (h3 : ¬ (x &&& (7 : Int32)) = (3 : Int32)) (h4 : ¬ (x &&& (7 : Int32)) = (4 : Int32)) (h5 : ¬ (x &&& (7 : Int32)) = (5 : Int32)) (h6 : ¬ (x &&& (7 : Int32)) = (6 : Int32)) : (x &&& (7 : Int32)) = (7 : Int32) := by
  obtain ⟨k, hk⟩ := own_and7 x
  rw [hk] at h0 h1 h2 h3 h4 h5 h6 ⊢
  have t : ∀ k : Fin 8, Int32.ofNat k.val = (0 : Int32) ∨ Int32.ofNat k.val = (1 : Int32) ∨ Int32.ofNat k.val = (2 : Int32) ∨ Int32.ofNat k.val = (3 : Int32) ∨ Int32.ofNat k.val = (4 : Int32) ∨ Int32.ofNat k.val = (5 : Int32) ∨ Int32.ofNat k.val = (6 : Int32) ∨ Int32.ofNat k.val = (7 : Int32) := by decide +kernel
  rcases t k with h | h | h | h | h | h | h | h
  · exact absurd h h0
  · exact absurd h h1
  · exact absurd h h2
  · exact absurd h h3
  · exact absurd h h4
  · exact absurd h h5
  · exact absurd h h6
  · exact h
theorem own_and255 (x : Int32) : ∃ k : Fin 256, x &&& 255 = Int32.ofNat k.val := by
  have h : (x &&& 255).toBitVec.toNat < 256 := by
    simp only [Int32.toBitVec_and, BitVec.toNat_and]
    exact Nat.lt_succ_of_le Nat.and_le_right
  refine ⟨⟨_, h⟩, ?_⟩
  apply Int32.toBitVec_inj.mp
  show _ = BitVec.ofNat 32 _
  rw [BitVec.ofNat_toNat]; simp
theorem own_hp (x : Int32) : ∀ z ∈ ([(nar .char ((x &&& (255 : Int32)).toUInt32.toUInt16.toUInt32.toInt32))] : List Int32), ¬ z < 0 ∧ ¬ (255 : Int32) < z := by
  intro z hz
  obtain rfl := List.mem_singleton.mp hz
  obtain ⟨k, hk⟩ := own_and255 x
  rw [hk]
  have t : ∀ k : Fin 256, ¬ nar .char ((Int32.ofNat k.val).toUInt32.toUInt16.toUInt32.toInt32) < 0 ∧ ¬ (255 : Int32) < nar .char ((Int32.ofNat k.val).toUInt32.toUInt16.toUInt32.toInt32) := by decide +kernel
  exact t k
theorem own_NSroot {Z : State} {a0 : Array Value} {O K : String} {n : Nat} (w : (Jvm.Cond.noSuperclass O).before a0 Z = true) (wk : (Jvm.Cond.instantiable K n).before a0 Z = true) (hn : O ≠ K) : NS Z O K := by
  obtain ⟨c, k, h1, h2, h3, -, -⟩ := Cond.noSuperclass_spec w
  obtain ⟨t, kt, g1, -⟩ := Cond.instantiable_spec wk
  have ne := ids_ne h1 g1 hn
  refine ⟨c, t, h1, g1, fun fuel => ?_⟩
  cases fuel with
  | zero => rfl
  | succ f => simp [Vm.isSubclassAux, ne, h2, h3]
theorem own_NSno {Z : State} {a0 : Array Value} {C S K : String} {n : Nat} (w : (Jvm.Cond.superclass C S).before a0 Z = true) (wk : (Jvm.Cond.instantiable K n).before a0 Z = true) (m : NS Z C K) (hn : C ≠ K) : ∃ c t, Z.vm.findClass C = some c ∧ Z.vm.findClass K = some t ∧ Z.vm.assignable c t = false := by
  obtain ⟨c, t, h0, g0, n3⟩ := m
  obtain ⟨p, k, kp, h1, h2, h3, h4, h5, -, h7⟩ := Cond.superclass_spec h0 w
  obtain ⟨t', kt, g1, g2, g5, g7, -⟩ := Cond.instantiable_spec wk
  cases g0.symm.trans g1
  have ne := ids_ne h0 g0 hn
  have g8 : kt.isInterface = false := by simp only [Bool.or_eq_false_iff] at g7; exact g7.1
  refine ⟨c, t, h0, g0, ?_⟩
  show Z.vm.assignableAux (255 + 1) c t = false
  simp [Vm.assignableAux, ne, h2, g2, h5, g5, g8, Vm.isSubclass, n3]
theorem own_cacheI {x1 : Int32} {cl : Cell} (hsz : cl.slots.size = 256) (h1 : ¬ x1 < (-128 : Int32)) (h2 : ¬ (127 : Int32) < x1) : ¬ ((x1 + (128 : Int32)) < 0 ∨ cl.slots.size ≤ ((x1 + (128 : Int32))).toNatClampNeg) := by
  rw [hsz]
  simp only [Int32.lt_iff_toInt_lt] at h1 h2 ⊢
  have a1 : (-128 : Int32).toInt = -128 := rfl
  have a2 : (127 : Int32).toInt = 127 := rfl
  have a3 : (128 : Int32).toInt = 128 := rfl
  have a4 : (0 : Int32).toInt = 0 := rfl
  have e : (x1 + (128 : Int32)).toInt = x1.toInt + 128 := by
    rw [Int32.toInt_add, a3]
    exact Int.bmod_eq_of_le (by omega) (by omega)
  simp only [Int32.toNatClampNeg, e]
  omega
theorem own_cacheL {q1 : Int64} {cl : Cell} (hsz : cl.slots.size = 256) (h1 : ¬ q1 < (-128 : Int64)) (h2 : ¬ (127 : Int64) < q1) : ¬ (((q1.toInt32) + (128 : Int32)) < 0 ∨ cl.slots.size ≤ (((q1.toInt32) + (128 : Int32))).toNatClampNeg) := by
  have b1 : (-128 : Int64).toInt = -128 := rfl
  have b2 : (127 : Int64).toInt = 127 := rfl
  simp only [Int64.lt_iff_toInt_lt] at h1 h2
  have e : q1.toInt32.toInt = q1.toInt := by
    rw [Int64.toInt_toInt32]
    exact Int.bmod_eq_of_le (by omega) (by omega)
  refine own_cacheI hsz ?_ ?_
  · rw [Int32.lt_iff_toInt_lt, e]
    have a1 : (-128 : Int32).toInt = -128 := rfl
    omega
  · rw [Int32.lt_iff_toInt_lt, e]
    have a2 : (127 : Int32).toInt = 127 := rfl
    omega
theorem own_staEq {s : State} {args : Array Value} {C n d : String} {k : Int32} (h : (Jvm.Cond.eq (.static C n d) (.int k)).before args s = true) (hi : (Jvm.Cond.initializedFor C n d).before args s = true ∨ ((Jvm.Cond.initialized C).before args s = true ∧ (Jvm.Cond.laysStatic C n d).before args s = true)) : Sta s s.heap C n d (.int k) := by
  obtain ⟨x, y, ha, hb, hk, -⟩ := cmp_v (Or.inl (Cond.before_iff.mp h))
  have hy : y = .int k := by
    have := Term.int_eval (args := args) (first := s) (o := none) (idx := []) (s := s) k
    rw [hb] at this; exact Option.some.inj this
  subst hy
  cases x <;> simp only [Kin] at hk
  · rename_i z
    have := gotT (Cond.eq_ints ha hb) (Cond.before_iff.mp h)
    rw [this] at ha
    exact Sta.start ha hi
  all_goals (first | (obtain ⟨w, hw⟩ := hk; cases hw; done) | (obtain ⟨-, hw⟩ := hk; cases hw; done))
theorem own_cacheStart {s : State} {args : Array Value} {C n d K : String} {X : Jvm.Cond} (h1 : (Jvm.Cond.arrayOf (.static C n d) (.object K)).before args s = true) (h2 : (Jvm.Cond.eq (.length (.static C n d)) (.int (256 : Int32))).before args s = true) (h3 : (Jvm.Cond.all (.static C n d) (.and (.exactly (.elem (.static C n d) (.index 0)) K) X)).before args s = true)
    (hi : (Jvm.Cond.initializedFor C n d).before args s = true ∨ ((Jvm.Cond.initialized C).before args s = true ∧ (Jvm.Cond.laysStatic C n d).before args s = true)) :
    ∃ ca cl, Sta s s.heap C n d (.ref ca) ∧ Arr s s.heap ca cl (.object K) ∧ cl.slots.size = 256 ∧ ∀ i, i < 256 → ∃ x, cl.slots[i]? = some (.ref x) ∧ Exa s s.heap x K := by
  have g1 := Cond.before_iff.mp h1
  have g2 := Cond.before_iff.mp h2
  have g3 := Cond.before_iff.mp h3
  obtain ⟨ca, ev⟩ := arr_v g1
  obtain ⟨cl, A⟩ := Arr.start ev g1
  have hat : s.arrayAt? ca = some cl := A.fin (Vm.Alike.refl _)
  have evx : ∀ idx, (Term.static C n d).eval args s none idx s = some (.ref ca) := fun idx => by
    have q := ev
    simp only [Term.eval] at q ⊢
    exact q
  have hl : cl.slots.size < 2 ^ 31 := by
    obtain ⟨x, y, ha, -⟩ := cmp_v (Or.inl g2)
    exact own_len31 ev hat ha
  have hz : cl.slots.size.toInt32 = (256 : Int32) := gotT (Cond.eq_ints (len_f ev hat hl) (Term.int_eval (256 : Int32))) g2
  have hsz : cl.slots.size = 256 := by
    have q := congrArg Int32.toInt hz
    rw [len_toInt hl] at q
    have : (256 : Int32).toInt = 256 := rfl
    omega
  refine ⟨ca, cl, Sta.start ev hi, A, hsz, fun i hi' => ?_⟩
  have key := Cond.all_elim (evx []) hat g3 i (by omega)
  obtain ⟨k1, -⟩ := and_e key
  obtain ⟨x, ex⟩ := exa_v k1
  have ix : (Term.index 0).eval args s none [i] s = some (.int i.toInt32) := Term.index_eval _
  obtain ⟨-, q⟩ := elem_in ex (evx [i]) ix A.1
  have e1 : (Nat.toInt32 i).toNatClampNeg = i := by simp only [Int32.toNatClampNeg, len_toInt (show i < 2 ^ 31 by omega)]; rfl
  rw [e1] at q
  exact ⟨x, q, exa_at ex k1⟩
theorem own_d1_0 : decode prog_16_method_1_code 0 = .ok (.aload_n 0, 1) := by decide +kernel
theorem own_d1_1 : decode prog_16_method_1_code 1 = .ok (.invokespecial 1, 3) := by decide +kernel
theorem own_d1_4 : decode prog_16_method_1_code 4 = .ok (.aload_n 0, 1) := by decide +kernel
theorem own_d1_5 : decode prog_16_method_1_code 5 = .ok (.aload_n 1, 1) := by decide +kernel
theorem own_d1_6 : decode prog_16_method_1_code 6 = .ok (.putfield 7, 3) := by decide +kernel
theorem own_d1_9 : decode prog_16_method_1_code 9 = .ok (.return_, 1) := by decide +kernel
theorem own_ef_rm1 (m : MethodId) (a1 : Addr) (u : Value) (hu : u.isRef = true) : entryFrame m #[(.ref a1), u] 2 = mkF m 0 #[.val (.ref a1), .val u] [] := by
  rcases ref_cases hu with rfl | ⟨_, rfl⟩ <;>
  first | (simp [entryFrame, mkF, argsToLocals, Value.category]; done) | rfl
def Q_rm1 (Z : State) (a1 : Addr) (u : Value) (h0 : Heap) (n0 : Nat) (v : Option Value) (h : Heap) (L : List Loc) : Prop := v = none ∧ Fr n0 L ∧ Keep h0 h [a1] ∧ Fld Z h a1 "com/example/tandemwick/tandemwick/FutureState$Special" "content" "Ljava/lang/Object;" u
theorem own_pn0 : plainName "com/example/tandemwick/tandemwick/FutureState$Special" = true := by first | (simp [plainName, overriddenIn]; done) | decide +kernel
set_option maxRecDepth 65536 in
set_option maxHeartbeats 40000000 in
theorem rm1 (l : Launch) (Z : State) (a0 : Array Value) (hw : ∀ d ∈ tables_1, d.before a0 Z = true) (ws : List Jvm.Cond) (a1 : Addr) (u : Value) (h0 : Heap) (n0 : Nat) (O0 : Old Z n0 h0) (hu : u.isRef = true) (E1 : Exa Z h0 a1 "com/example/tandemwick/tandemwick/FutureState$Special") (F1 : Fld Z h0 a1 "com/example/tandemwick/tandemwick/FutureState$Special" "content" "Ljava/lang/Object;" .null) (g1 : n0 ≤ a1) :
    MetFree l (⟨"com/example/tandemwick/tandemwick/FutureState$Special", "<init>", "(Ljava/lang/Object;)V"⟩ : MethodName) (head1 (Jvm.Cond.code (⟨"com/example/tandemwick/tandemwick/FutureState$Special", "<init>", "(Ljava/lang/Object;)V"⟩ : MethodName) prog_16_method_1_code 2 none :: ws) ({ frames := 1, cells := 0, slots := 0, locals := 12 } : Room)) (fun a U => a = #[(.ref a1), u] ∧ Z.Warmed39 U.vm ∧ U.heap = h0) (fun _ _ _ _ _ => True) (fun _ U o U' => ∃ v L, o = .returned v ∧ Q_rm1 Z a1 u h0 n0 v U'.heap L ∧ FrameEnd U o U' L ({ frames := 1, cells := 0, slots := 0, locals := 12 } : Room).cells ({ frames := 1, cells := 0, slots := 0, locals := 12 } : Room).slots) := by
  refine MetFree.of_bodySF (plainFor_of_name own_pn0) hisR ?_
  intro p e s m args below meth c s₁ Bd hml0 hP hK
  obtain ⟨rfl, hZ, hh⟩ := hP
  have hx := Bd.exec
  have hby := Bd.bytes
  have hml : c.maxLocals = 2 := hml0
  have hown : s.vm.findClass "com/example/tandemwick/tandemwick/FutureState$Special" = some m.cls := findClass_of_methodNamed Bd.named
  have hnm := (name_of_methodNamed Bd.named Bd.method).1
  have hlk : meth.locks = false := Bd.notSynchronized
  have X0 : Stand p l e ({ frames := 1, cells := 0, slots := 0, locals := 12 } : Room) s m #[(.ref a1), u] below meth c s₁ [] 0 0 := Stand.of_body Bd
  have e0 : s₁.heap = h0 := by rw [← hh, Bd.state]; rfl
  have N0 := Fr.nil n0
  suffices hgo : own_Ok p e below (own_Qx s (Q_rm1 Z a1 u h0 n0) 0 0) (s₁.setTop (mkF m 0 #[.val (.ref a1), .val u] [])) from by
    obtain ⟨s₂, o, h1, h2⟩ := hgo
    exact ⟨s₂, o, castTop (own_ef_rm1 m a1 u hu) h1, h2⟩
  show own_Ok p e below _ (s₁.setTop (mkF m 0 #[.val (.ref a1), .val u] []))
  refine own_st (fun _ k => XS.aloadN X0.here hx rfl (hb hby own_d1_0) rfl rfl k) ?_
  show own_Ok p e below _ (s₁.setTop (mkF m 1 #[.val (.ref a1), .val u] [(.ref a1)]))
  obtain ⟨T101, X101, e101, st101⟩ := initO X0 hx hZ hown (hw _ (List.mem_of_getElem? (i := 6) rfl)) (hw _ (List.mem_of_getElem? (i := 7) rfl)) (hw _ (List.mem_of_getElem? (i := 8) rfl)) e0 (g := (mkF m 1 #[.val (.ref a1), .val u] [(.ref a1)])) rfl (by rw [hml]; rfl) rfl (hb hby own_d1_1) (by decide) (W := 0) (by show 2 * 0 + _ ≤ _; exact Nat.le_of_eq rfl) (by decide)
  refine own_st st101 ?_
  show own_Ok p e below _ (T101.setTop (mkF m 4 #[.val (.ref a1), .val u] []))
  refine own_st (fun _ k => XS.aloadN X101.here hx rfl (hb hby own_d1_4) rfl rfl k) ?_
  show own_Ok p e below _ (T101.setTop (mkF m 5 #[.val (.ref a1), .val u] [(.ref a1)]))
  refine own_st (fun _ k => XS.aloadN X101.here hx rfl (hb hby own_d1_5) rfl hu k) ?_
  show own_Ok p e below _ (T101.setTop (mkF m 6 #[.val (.ref a1), .val u] [u, (.ref a1)]))
  obtain ⟨T102, h102, X102, e102, W102, st102⟩ := putF X101 hx hZ hown (host := "") (Or.inl (hw _ (List.mem_of_getElem? (i := 9) rfl))) Via.refl e101 F1 E1 (Or.inr ⟨(hw _ (List.mem_of_getElem? (i := 10) rfl)), rfl, hnm⟩) (hw _ (List.mem_of_getElem? (i := 1) rfl)) (ty := (.object "java/lang/Object")) (by decide) (own_narR hu rfl) (own_fitsR hu rfl) (g := (mkF m 6 #[.val (.ref a1), .val u] [u, (.ref a1)])) rfl rfl (hb hby own_d1_6)
  refine own_st st102 ?_
  have F102 := F1.same W102
  have N102 := Fr.snoc X102 N0 g1
  show own_Ok p e below _ (T102.setTop (mkF m 9 #[.val (.ref a1), .val u] []))
  have f103 := (Keep.refl h0 [a1]).wr W102 (Or.inl (by simp))
  exact own_retV X102 hx hlk Bd.returns (hb hby own_d1_9) (by rw [e102]; exact ⟨rfl, N102, f103, F102⟩) (by decide) (by decide)
theorem own_d9_0 : decode prog_15_method_1_code 0 = .ok (.aload_n 0, 1) := by decide +kernel
theorem own_d9_1 : decode prog_15_method_1_code 1 = .ok (.invokespecial 1, 3) := by decide +kernel
theorem own_d9_4 : decode prog_15_method_1_code 4 = .ok (.aload_n 0, 1) := by decide +kernel
theorem own_d9_5 : decode prog_15_method_1_code 5 = .ok (.aload_n 1, 1) := by decide +kernel
theorem own_d9_6 : decode prog_15_method_1_code 6 = .ok (.putfield 7, 3) := by decide +kernel
theorem own_d9_9 : decode prog_15_method_1_code 9 = .ok (.return_, 1) := by decide +kernel
theorem own_ef_rm9 (m : MethodId) (a1 : Addr) : entryFrame m #[(.ref a1), .null] 2 = mkF m 0 #[.val (.ref a1), .val .null] [] := by first | (simp [entryFrame, mkF, argsToLocals, Value.category]; done) | rfl
def Q_rm9 (Z : State) (a1 : Addr) (h0 : Heap) (n0 : Nat) (v : Option Value) (h : Heap) (L : List Loc) : Prop := v = none ∧ Fr n0 L ∧ Keep h0 h [a1]
theorem own_pn1 : plainName "com/example/tandemwick/tandemwick/FutureState$Failure" = true := by first | (simp [plainName, overriddenIn]; done) | decide +kernel
set_option maxRecDepth 65536 in
set_option maxHeartbeats 40000000 in
theorem rm9 (l : Launch) (Z : State) (a0 : Array Value) (hw : ∀ d ∈ tables_1, d.before a0 Z = true) (ws : List Jvm.Cond) (a1 : Addr) (h0 : Heap) (n0 : Nat) (O0 : Old Z n0 h0) (E1 : Exa Z h0 a1 "com/example/tandemwick/tandemwick/FutureState$Failure") (F1 : Fld Z h0 a1 "com/example/tandemwick/tandemwick/FutureState$Failure" "cause" "Ljava/lang/Throwable;" .null) (g1 : n0 ≤ a1) :
    MetFree l (⟨"com/example/tandemwick/tandemwick/FutureState$Failure", "<init>", "(Ljava/lang/Throwable;)V"⟩ : MethodName) (head1 (Jvm.Cond.code (⟨"com/example/tandemwick/tandemwick/FutureState$Failure", "<init>", "(Ljava/lang/Throwable;)V"⟩ : MethodName) prog_15_method_1_code 2 none :: ws) ({ frames := 1, cells := 0, slots := 0, locals := 12 } : Room)) (fun a U => a = #[(.ref a1), .null] ∧ Z.Warmed39 U.vm ∧ U.heap = h0) (fun _ _ _ _ _ => True) (fun _ U o U' => ∃ v L, o = .returned v ∧ Q_rm9 Z a1 h0 n0 v U'.heap L ∧ FrameEnd U o U' L ({ frames := 1, cells := 0, slots := 0, locals := 12 } : Room).cells ({ frames := 1, cells := 0, slots := 0, locals := 12 } : Room).slots) := by
  refine MetFree.of_bodySF (plainFor_of_name own_pn1) hisR ?_
  intro p e s m args below meth c s₁ Bd hml0 hP hK
  obtain ⟨rfl, hZ, hh⟩ := hP
  have hx := Bd.exec
  have hby := Bd.bytes
  have hml : c.maxLocals = 2 := hml0
  have hown : s.vm.findClass "com/example/tandemwick/tandemwick/FutureState$Failure" = some m.cls := findClass_of_methodNamed Bd.named
  have hnm := (name_of_methodNamed Bd.named Bd.method).1
  have hlk : meth.locks = false := Bd.notSynchronized
  have X0 : Stand p l e ({ frames := 1, cells := 0, slots := 0, locals := 12 } : Room) s m #[(.ref a1), .null] below meth c s₁ [] 0 0 := Stand.of_body Bd
  have e0 : s₁.heap = h0 := by rw [← hh, Bd.state]; rfl
  have N0 := Fr.nil n0
  suffices hgo : own_Ok p e below (own_Qx s (Q_rm9 Z a1 h0 n0) 0 0) (s₁.setTop (mkF m 0 #[.val (.ref a1), .val .null] [])) from by
    obtain ⟨s₂, o, h1, h2⟩ := hgo
    exact ⟨s₂, o, castTop (own_ef_rm9 m a1) h1, h2⟩
  show own_Ok p e below _ (s₁.setTop (mkF m 0 #[.val (.ref a1), .val .null] []))
  refine own_st (fun _ k => XS.aloadN X0.here hx rfl (hb hby own_d9_0) rfl rfl k) ?_
  show own_Ok p e below _ (s₁.setTop (mkF m 1 #[.val (.ref a1), .val .null] [(.ref a1)]))
  obtain ⟨T101, X101, e101, st101⟩ := initO X0 hx hZ hown (hw _ (List.mem_of_getElem? (i := 55) rfl)) (hw _ (List.mem_of_getElem? (i := 7) rfl)) (hw _ (List.mem_of_getElem? (i := 8) rfl)) e0 (g := (mkF m 1 #[.val (.ref a1), .val .null] [(.ref a1)])) rfl (by rw [hml]; rfl) rfl (hb hby own_d9_1) (by decide) (W := 0) (by show 2 * 0 + _ ≤ _; exact Nat.le_of_eq rfl) (by decide)
  refine own_st st101 ?_
  show own_Ok p e below _ (T101.setTop (mkF m 4 #[.val (.ref a1), .val .null] []))
  refine own_st (fun _ k => XS.aloadN X101.here hx rfl (hb hby own_d9_4) rfl rfl k) ?_
  show own_Ok p e below _ (T101.setTop (mkF m 5 #[.val (.ref a1), .val .null] [(.ref a1)]))
  refine own_st (fun _ k => XS.aloadN X101.here hx rfl (hb hby own_d9_5) rfl rfl k) ?_
  show own_Ok p e below _ (T101.setTop (mkF m 6 #[.val (.ref a1), .val .null] [.null, (.ref a1)]))
  obtain ⟨T102, h102, X102, e102, W102, st102⟩ := putF X101 hx hZ hown (host := "") (Or.inl (hw _ (List.mem_of_getElem? (i := 56) rfl))) Via.refl e101 F1 E1 (Or.inr ⟨(hw _ (List.mem_of_getElem? (i := 57) rfl)), rfl, hnm⟩) (hw _ (List.mem_of_getElem? (i := 50) rfl)) (ty := (.object "java/lang/Throwable")) (by decide) rfl rfl (g := (mkF m 6 #[.val (.ref a1), .val .null] [.null, (.ref a1)])) rfl rfl (hb hby own_d9_6)
  refine own_st st102 ?_
  have F102 := F1.same W102
  have N102 := Fr.snoc X102 N0 g1
  show own_Ok p e below _ (T102.setTop (mkF m 9 #[.val (.ref a1), .val .null] []))
  have f103 := (Keep.refl h0 [a1]).wr W102 (Or.inl (by simp))
  exact own_retV X102 hx hlk Bd.returns (hb hby own_d9_9) (by rw [e102]; exact ⟨rfl, N102, f103⟩) (by decide) (by decide)
theorem own_d14_0 : decode prog_13_method_1_code 0 = .ok (.aload_n 0, 1) := by decide +kernel
theorem own_d14_1 : decode prog_13_method_1_code 1 = .ok (.invokespecial 1, 3) := by decide +kernel
theorem own_d14_4 : decode prog_13_method_1_code 4 = .ok (.return_, 1) := by decide +kernel
theorem own_ef_rm14 (m : MethodId) (a1 : Addr) : entryFrame m #[(.ref a1)] 1 = mkF m 0 #[.val (.ref a1)] [] := by first | (simp [entryFrame, mkF, argsToLocals, Value.category]; done) | rfl
def Q_rm14 (Z : State) (a1 : Addr) (h0 : Heap) (n0 : Nat) (v : Option Value) (h : Heap) (L : List Loc) : Prop := v = none ∧ Fr n0 L ∧ h = h0
theorem own_pn2 : plainName "com/example/tandemwick/tandemwick/FutureState$Cancellation" = true := by first | (simp [plainName, overriddenIn]; done) | decide +kernel
set_option maxRecDepth 65536 in
set_option maxHeartbeats 40000000 in
theorem rm14 (l : Launch) (Z : State) (a0 : Array Value) (hw : ∀ d ∈ tables_1, d.before a0 Z = true) (ws : List Jvm.Cond) (a1 : Addr) (h0 : Heap) (n0 : Nat) (O0 : Old Z n0 h0) :
    MetFree l (⟨"com/example/tandemwick/tandemwick/FutureState$Cancellation", "<init>", "()V"⟩ : MethodName) (head1 (Jvm.Cond.code (⟨"com/example/tandemwick/tandemwick/FutureState$Cancellation", "<init>", "()V"⟩ : MethodName) prog_13_method_1_code 1 none :: ws) ({ frames := 1, cells := 0, slots := 0, locals := 12 } : Room)) (fun a U => a = #[(.ref a1)] ∧ Z.Warmed39 U.vm ∧ U.heap = h0) (fun _ _ _ _ _ => True) (fun _ U o U' => ∃ v L, o = .returned v ∧ Q_rm14 Z a1 h0 n0 v U'.heap L ∧ FrameEnd U o U' L ({ frames := 1, cells := 0, slots := 0, locals := 12 } : Room).cells ({ frames := 1, cells := 0, slots := 0, locals := 12 } : Room).slots) := by
  refine MetFree.of_bodySF (plainFor_of_name own_pn2) hisR ?_
  intro p e s m args below meth c s₁ Bd hml0 hP hK
  obtain ⟨rfl, hZ, hh⟩ := hP
  have hx := Bd.exec
  have hby := Bd.bytes
  have hml : c.maxLocals = 1 := hml0
  have hown : s.vm.findClass "com/example/tandemwick/tandemwick/FutureState$Cancellation" = some m.cls := findClass_of_methodNamed Bd.named
  have hnm := (name_of_methodNamed Bd.named Bd.method).1
  have hlk : meth.locks = false := Bd.notSynchronized
  have X0 : Stand p l e ({ frames := 1, cells := 0, slots := 0, locals := 12 } : Room) s m #[(.ref a1)] below meth c s₁ [] 0 0 := Stand.of_body Bd
  have e0 : s₁.heap = h0 := by rw [← hh, Bd.state]; rfl
  have N0 := Fr.nil n0
  suffices hgo : own_Ok p e below (own_Qx s (Q_rm14 Z a1 h0 n0) 0 0) (s₁.setTop (mkF m 0 #[.val (.ref a1)] [])) from by
    obtain ⟨s₂, o, h1, h2⟩ := hgo
    exact ⟨s₂, o, castTop (own_ef_rm14 m a1) h1, h2⟩
  show own_Ok p e below _ (s₁.setTop (mkF m 0 #[.val (.ref a1)] []))
  refine own_st (fun _ k => XS.aloadN X0.here hx rfl (hb hby own_d14_0) rfl rfl k) ?_
  show own_Ok p e below _ (s₁.setTop (mkF m 1 #[.val (.ref a1)] [(.ref a1)]))
  obtain ⟨T101, X101, e101, st101⟩ := initO X0 hx hZ hown (hw _ (List.mem_of_getElem? (i := 96) rfl)) (hw _ (List.mem_of_getElem? (i := 7) rfl)) (hw _ (List.mem_of_getElem? (i := 8) rfl)) e0 (g := (mkF m 1 #[.val (.ref a1)] [(.ref a1)])) rfl (by rw [hml]; rfl) rfl (hb hby own_d14_1) (by decide) (W := 0) (by show 2 * 0 + _ ≤ _; exact Nat.le_of_eq rfl) (by decide)
  refine own_st st101 ?_
  show own_Ok p e below _ (T101.setTop (mkF m 4 #[.val (.ref a1)] []))
  exact own_retV X101 hx hlk Bd.returns (hb hby own_d14_4) (by rw [e101]; exact ⟨rfl, N0, rfl⟩) (by decide) (by decide)
theorem own_d12_0 : decode jdk_18_method_1_code 0 = .ok (.aload_n 0, 1) := by decide +kernel
theorem own_d12_1 : decode jdk_18_method_1_code 1 = .ok (.invokespecial 1, 3) := by decide +kernel
theorem own_d12_4 : decode jdk_18_method_1_code 4 = .ok (.return_, 1) := by decide +kernel
theorem own_ef_rm12 (m : MethodId) (a1 : Addr) : entryFrame m #[(.ref a1)] 1 = mkF m 0 #[.val (.ref a1)] [] := by first | (simp [entryFrame, mkF, argsToLocals, Value.category]; done) | rfl
def Q_rm12 (Z : State) (a1 : Addr) (h0 : Heap) (n0 : Nat) (v : Option Value) (h : Heap) (L : List Loc) : Prop := v = none ∧ Fr n0 L ∧ h = h0
theorem own_pn3 : plainName "java/lang/Number" = true := by first | (simp [plainName, overriddenIn]; done) | decide +kernel
set_option maxRecDepth 65536 in
set_option maxHeartbeats 40000000 in
theorem rm12 (l : Launch) (Z : State) (a0 : Array Value) (hw : ∀ d ∈ tables_1, d.before a0 Z = true) (ws : List Jvm.Cond) (a1 : Addr) (h0 : Heap) (n0 : Nat) (O0 : Old Z n0 h0) :
    MetFree l (⟨"java/lang/Number", "<init>", "()V"⟩ : MethodName) (head1 (Jvm.Cond.code (⟨"java/lang/Number", "<init>", "()V"⟩ : MethodName) jdk_18_method_1_code 1 none :: ws) ({ frames := 1, cells := 0, slots := 0, locals := 12 } : Room)) (fun a U => a = #[(.ref a1)] ∧ Z.Warmed39 U.vm ∧ U.heap = h0) (fun _ _ _ _ _ => True) (fun _ U o U' => ∃ v L, o = .returned v ∧ Q_rm12 Z a1 h0 n0 v U'.heap L ∧ FrameEnd U o U' L ({ frames := 1, cells := 0, slots := 0, locals := 12 } : Room).cells ({ frames := 1, cells := 0, slots := 0, locals := 12 } : Room).slots) := by
  refine MetFree.of_bodySF (plainFor_of_name own_pn3) hisR ?_
  intro p e s m args below meth c s₁ Bd hml0 hP hK
  obtain ⟨rfl, hZ, hh⟩ := hP
  have hx := Bd.exec
  have hby := Bd.bytes
  have hml : c.maxLocals = 1 := hml0
  have hown : s.vm.findClass "java/lang/Number" = some m.cls := findClass_of_methodNamed Bd.named
  have hnm := (name_of_methodNamed Bd.named Bd.method).1
  have hlk : meth.locks = false := Bd.notSynchronized
  have X0 : Stand p l e ({ frames := 1, cells := 0, slots := 0, locals := 12 } : Room) s m #[(.ref a1)] below meth c s₁ [] 0 0 := Stand.of_body Bd
  have e0 : s₁.heap = h0 := by rw [← hh, Bd.state]; rfl
  have N0 := Fr.nil n0
  suffices hgo : own_Ok p e below (own_Qx s (Q_rm12 Z a1 h0 n0) 0 0) (s₁.setTop (mkF m 0 #[.val (.ref a1)] [])) from by
    obtain ⟨s₂, o, h1, h2⟩ := hgo
    exact ⟨s₂, o, castTop (own_ef_rm12 m a1) h1, h2⟩
  show own_Ok p e below _ (s₁.setTop (mkF m 0 #[.val (.ref a1)] []))
  refine own_st (fun _ k => XS.aloadN X0.here hx rfl (hb hby own_d12_0) rfl rfl k) ?_
  show own_Ok p e below _ (s₁.setTop (mkF m 1 #[.val (.ref a1)] [(.ref a1)]))
  obtain ⟨T101, X101, e101, st101⟩ := initO X0 hx hZ hown (hw _ (List.mem_of_getElem? (i := 76) rfl)) (hw _ (List.mem_of_getElem? (i := 7) rfl)) (hw _ (List.mem_of_getElem? (i := 8) rfl)) e0 (g := (mkF m 1 #[.val (.ref a1)] [(.ref a1)])) rfl (by rw [hml]; rfl) rfl (hb hby own_d12_1) (by decide) (W := 0) (by show 2 * 0 + _ ≤ _; exact Nat.le_of_eq rfl) (by decide)
  refine own_st st101 ?_
  show own_Ok p e below _ (T101.setTop (mkF m 4 #[.val (.ref a1)] []))
  exact own_retV X101 hx hlk Bd.returns (hb hby own_d12_4) (by rw [e101]; exact ⟨rfl, N0, rfl⟩) (by decide) (by decide)
theorem own_d15_0 : decode jdk_33_method_23_code 0 = .ok (.aload_n 0, 1) := by decide +kernel
theorem own_d15_1 : decode jdk_33_method_23_code 1 = .ok (.invokespecial 202, 3) := by decide +kernel
theorem own_pd0 : parseMethodDescriptor "()V" = some ⟨[], none⟩ := by decide +kernel
theorem own_d15_4 : decode jdk_33_method_23_code 4 = .ok (.aload_n 0, 1) := by decide +kernel
theorem own_d15_5 : decode jdk_33_method_23_code 5 = .ok (.iload_n 1, 1) := by decide +kernel
theorem own_d15_6 : decode jdk_33_method_23_code 6 = .ok (.putfield 205, 3) := by decide +kernel
theorem own_d15_9 : decode jdk_33_method_23_code 9 = .ok (.return_, 1) := by decide +kernel
theorem own_ef_rm15 (m : MethodId) (a1 : Addr) (x1 : Int32) : entryFrame m #[(.ref a1), (.int x1)] 2 = mkF m 0 #[.val (.ref a1), .val (.int x1)] [] := by first | (simp [entryFrame, mkF, argsToLocals, Value.category]; done) | rfl
def Q_rm15 (Z : State) (a1 : Addr) (x1 : Int32) (h0 : Heap) (n0 : Nat) (v : Option Value) (h : Heap) (L : List Loc) : Prop := v = none ∧ Fr n0 L ∧ Keep h0 h [a1]
theorem own_pn4 : plainName "java/lang/Integer" = true := by first | (simp [plainName, overriddenIn]; done) | decide +kernel
set_option maxRecDepth 65536 in
set_option maxHeartbeats 40000000 in
theorem rm15 (l : Launch) (Z : State) (a0 : Array Value) (hw : ∀ d ∈ tables_1, d.before a0 Z = true) (ws : List Jvm.Cond) (a1 : Addr) (x1 : Int32) (h0 : Heap) (n0 : Nat) (O0 : Old Z n0 h0) (E1 : Exa Z h0 a1 "java/lang/Integer") (F1 : Fld Z h0 a1 "java/lang/Integer" "value" "I" (.int (0 : Int32))) (g1 : n0 ≤ a1) :
    MetFree l (⟨"java/lang/Integer", "<init>", "(I)V"⟩ : MethodName) (head1 (Jvm.Cond.code (⟨"java/lang/Integer", "<init>", "(I)V"⟩ : MethodName) jdk_33_method_23_code 2 none :: ws) ({ frames := 2, cells := 0, slots := 0, locals := 24 } : Room)) (fun a U => a = #[(.ref a1), (.int x1)] ∧ Z.Warmed39 U.vm ∧ U.heap = h0) (fun _ _ _ _ _ => True) (fun _ U o U' => ∃ v L, o = .returned v ∧ Q_rm15 Z a1 x1 h0 n0 v U'.heap L ∧ FrameEnd U o U' L ({ frames := 2, cells := 0, slots := 0, locals := 24 } : Room).cells ({ frames := 2, cells := 0, slots := 0, locals := 24 } : Room).slots) := by
  refine MetFree.of_bodySF (plainFor_of_name own_pn4) hisR ?_
  intro p e s m args below meth c s₁ Bd hml0 hP hK
  obtain ⟨rfl, hZ, hh⟩ := hP
  have hx := Bd.exec
  have hby := Bd.bytes
  have hml : c.maxLocals = 2 := hml0
  have hown : s.vm.findClass "java/lang/Integer" = some m.cls := findClass_of_methodNamed Bd.named
  have hnm := (name_of_methodNamed Bd.named Bd.method).1
  have hlk : meth.locks = false := Bd.notSynchronized
  have X0 : Stand p l e ({ frames := 2, cells := 0, slots := 0, locals := 24 } : Room) s m #[(.ref a1), (.int x1)] below meth c s₁ [] 0 0 := Stand.of_body Bd
  have e0 : s₁.heap = h0 := by rw [← hh, Bd.state]; rfl
  have N0 := Fr.nil n0
  suffices hgo : own_Ok p e below (own_Qx s (Q_rm15 Z a1 x1 h0 n0) 0 0) (s₁.setTop (mkF m 0 #[.val (.ref a1), .val (.int x1)] [])) from by
    obtain ⟨s₂, o, h1, h2⟩ := hgo
    exact ⟨s₂, o, castTop (own_ef_rm15 m a1 x1) h1, h2⟩
  show own_Ok p e below _ (s₁.setTop (mkF m 0 #[.val (.ref a1), .val (.int x1)] []))
  refine own_st (fun _ k => XS.aloadN X0.here hx rfl (hb hby own_d15_0) rfl rfl k) ?_
  show own_Ok p e below _ (s₁.setTop (mkF m 1 #[.val (.ref a1), .val (.int x1)] [(.ref a1)]))
  obtain ⟨_, _, ⟨T101, L101, k101, n101⟩, -, X101, ⟨Lc101, hQ101, l101, y101, z101⟩, st101⟩ := X0.specialBack hx (y := (⟨"java/lang/Number", "<init>", "()V"⟩ : MethodName)) rfl hown (mvT hZ (hw _ (List.mem_of_getElem? (i := 107) rfl))) (mvT hZ (hw _ (List.mem_of_getElem? (i := 71) rfl))) (mvT hZ (hw _ (List.mem_of_getElem? (i := 75) rfl))) (by decide) (backOf (W := 0) (rm12 l Z a0 hw [] a1 h0 n0 O0) hZ (hw _ (List.mem_of_getElem? (i := 75) rfl)) (hw _ (List.mem_of_getElem? (i := 74) rfl)) (by decide) (by decide)) (g := (mkF m 1 #[.val (.ref a1), .val (.int x1)] [(.ref a1)])) rfl (by rw [hml]; rfl) (Steps.refl _) (a := a1) (argsL := []) (rest := []) (lenOf own_pd0 rfl) rfl (by show 2 * 0 + _ ≤ _; exact Nat.le_of_eq rfl) (hb hby own_d15_1) (fun _ _ => ⟨rfl, e0, (by decide : 0 + 0 ≤ _), (by decide : 0 + 0 ≤ _)⟩)
  dsimp only [Pt.U, Pt.locs, Pt.cells, Pt.slots] at X101 l101 y101 z101 st101 hQ101
  subst l101 y101 z101
  obtain ⟨rfl, Nq101, e101⟩ := hQ101
  have N101 := Fr.app N0 Nq101
  refine own_st (fun _ k => st101.trans k) ?_
  show own_Ok p e below _ (T101.setTop (mkF m 4 #[.val (.ref a1), .val (.int x1)] []))
  refine own_st (fun _ k => XS.aloadN X101.here hx rfl (hb hby own_d15_4) rfl rfl k) ?_
  show own_Ok p e below _ (T101.setTop (mkF m 5 #[.val (.ref a1), .val (.int x1)] [(.ref a1)]))
  refine own_st (fun _ k => XS.iloadN X101.here hx rfl (hb hby own_d15_5) rfl k) ?_
  show own_Ok p e below _ (T101.setTop (mkF m 6 #[.val (.ref a1), .val (.int x1)] [(.int x1), (.ref a1)]))
  obtain ⟨T102, h102, X102, e102, W102, st102⟩ := putF X101 hx hZ hown (host := "") (Or.inl (hw _ (List.mem_of_getElem? (i := 109) rfl))) Via.refl e101 F1 E1 (Or.inr ⟨(hw _ (List.mem_of_getElem? (i := 110) rfl)), rfl, hnm⟩) (hw _ (List.mem_of_getElem? (i := 102) rfl)) (ty := .int) (by decide) rfl rfl (g := (mkF m 6 #[.val (.ref a1), .val (.int x1)] [(.int x1), (.ref a1)])) rfl rfl (hb hby own_d15_6)
  refine own_st st102 ?_
  have F102 := F1.same W102
  have N102 := Fr.snoc X102 N101 g1
  show own_Ok p e below _ (T102.setTop (mkF m 9 #[.val (.ref a1), .val (.int x1)] []))
  have f103 := (Keep.refl h0 [a1]).wr W102 (Or.inl (by simp))
  exact own_retV X102 hx hlk Bd.returns (hb hby own_d15_9) (by rw [e102]; exact ⟨rfl, N102, f103⟩) (by decide) (by decide)
theorem own_d11_0 : decode jdk_35_method_26_code 0 = .ok (.aload_n 0, 1) := by decide +kernel
theorem own_d11_1 : decode jdk_35_method_26_code 1 = .ok (.invokespecial 270, 3) := by decide +kernel
theorem own_d11_4 : decode jdk_35_method_26_code 4 = .ok (.aload_n 0, 1) := by decide +kernel
theorem own_d11_5 : decode jdk_35_method_26_code 5 = .ok (.lload_n 1, 1) := by decide +kernel
theorem own_d11_6 : decode jdk_35_method_26_code 6 = .ok (.putfield 273, 3) := by decide +kernel
theorem own_d11_9 : decode jdk_35_method_26_code 9 = .ok (.return_, 1) := by decide +kernel
theorem own_ef_rm11 (m : MethodId) (a1 : Addr) (q1 : Int64) : entryFrame m #[(.ref a1), (.long q1)] 3 = mkF m 0 #[.val (.ref a1), .val (.long q1), .second] [] := by first | (simp [entryFrame, mkF, argsToLocals, Value.category]; done) | rfl
def Q_rm11 (Z : State) (a1 : Addr) (q1 : Int64) (h0 : Heap) (n0 : Nat) (v : Option Value) (h : Heap) (L : List Loc) : Prop := v = none ∧ Fr n0 L ∧ Keep h0 h [a1]
theorem own_pn5 : plainName "java/lang/Long" = true := by first | (simp [plainName, overriddenIn]; done) | decide +kernel
set_option maxRecDepth 65536 in
set_option maxHeartbeats 40000000 in
theorem rm11 (l : Launch) (Z : State) (a0 : Array Value) (hw : ∀ d ∈ tables_1, d.before a0 Z = true) (ws : List Jvm.Cond) (a1 : Addr) (q1 : Int64) (h0 : Heap) (n0 : Nat) (O0 : Old Z n0 h0) (E1 : Exa Z h0 a1 "java/lang/Long") (F1 : Fld Z h0 a1 "java/lang/Long" "value" "J" (.long (0 : Int64))) (g1 : n0 ≤ a1) :
    MetFree l (⟨"java/lang/Long", "<init>", "(J)V"⟩ : MethodName) (head1 (Jvm.Cond.code (⟨"java/lang/Long", "<init>", "(J)V"⟩ : MethodName) jdk_35_method_26_code 3 none :: ws) ({ frames := 2, cells := 0, slots := 0, locals := 24 } : Room)) (fun a U => a = #[(.ref a1), (.long q1)] ∧ Z.Warmed39 U.vm ∧ U.heap = h0) (fun _ _ _ _ _ => True) (fun _ U o U' => ∃ v L, o = .returned v ∧ Q_rm11 Z a1 q1 h0 n0 v U'.heap L ∧ FrameEnd U o U' L ({ frames := 2, cells := 0, slots := 0, locals := 24 } : Room).cells ({ frames := 2, cells := 0, slots := 0, locals := 24 } : Room).slots) := by
  refine MetFree.of_bodySF (plainFor_of_name own_pn5) hisR ?_
  intro p e s m args below meth c s₁ Bd hml0 hP hK
  obtain ⟨rfl, hZ, hh⟩ := hP
  have hx := Bd.exec
  have hby := Bd.bytes
  have hml : c.maxLocals = 3 := hml0
  have hown : s.vm.findClass "java/lang/Long" = some m.cls := findClass_of_methodNamed Bd.named
  have hnm := (name_of_methodNamed Bd.named Bd.method).1
  have hlk : meth.locks = false := Bd.notSynchronized
  have X0 : Stand p l e ({ frames := 2, cells := 0, slots := 0, locals := 24 } : Room) s m #[(.ref a1), (.long q1)] below meth c s₁ [] 0 0 := Stand.of_body Bd
  have e0 : s₁.heap = h0 := by rw [← hh, Bd.state]; rfl
  have N0 := Fr.nil n0
  suffices hgo : own_Ok p e below (own_Qx s (Q_rm11 Z a1 q1 h0 n0) 0 0) (s₁.setTop (mkF m 0 #[.val (.ref a1), .val (.long q1), .second] [])) from by
    obtain ⟨s₂, o, h1, h2⟩ := hgo
    exact ⟨s₂, o, castTop (own_ef_rm11 m a1 q1) h1, h2⟩
  show own_Ok p e below _ (s₁.setTop (mkF m 0 #[.val (.ref a1), .val (.long q1), .second] []))
  refine own_st (fun _ k => XS.aloadN X0.here hx rfl (hb hby own_d11_0) rfl rfl k) ?_
  show own_Ok p e below _ (s₁.setTop (mkF m 1 #[.val (.ref a1), .val (.long q1), .second] [(.ref a1)]))
  obtain ⟨_, _, ⟨T101, L101, k101, n101⟩, -, X101, ⟨Lc101, hQ101, l101, y101, z101⟩, st101⟩ := X0.specialBack hx (y := (⟨"java/lang/Number", "<init>", "()V"⟩ : MethodName)) rfl hown (mvT hZ (hw _ (List.mem_of_getElem? (i := 70) rfl))) (mvT hZ (hw _ (List.mem_of_getElem? (i := 71) rfl))) (mvT hZ (hw _ (List.mem_of_getElem? (i := 75) rfl))) (by decide) (backOf (W := 0) (rm12 l Z a0 hw [] a1 h0 n0 O0) hZ (hw _ (List.mem_of_getElem? (i := 75) rfl)) (hw _ (List.mem_of_getElem? (i := 74) rfl)) (by decide) (by decide)) (g := (mkF m 1 #[.val (.ref a1), .val (.long q1), .second] [(.ref a1)])) rfl (by rw [hml]; rfl) (Steps.refl _) (a := a1) (argsL := []) (rest := []) (lenOf own_pd0 rfl) rfl (by show 2 * 0 + _ ≤ _; exact Nat.le_of_eq rfl) (hb hby own_d11_1) (fun _ _ => ⟨rfl, e0, (by decide : 0 + 0 ≤ _), (by decide : 0 + 0 ≤ _)⟩)
  dsimp only [Pt.U, Pt.locs, Pt.cells, Pt.slots] at X101 l101 y101 z101 st101 hQ101
  subst l101 y101 z101
  obtain ⟨rfl, Nq101, e101⟩ := hQ101
  have N101 := Fr.app N0 Nq101
  refine own_st (fun _ k => st101.trans k) ?_
  show own_Ok p e below _ (T101.setTop (mkF m 4 #[.val (.ref a1), .val (.long q1), .second] []))
  refine own_st (fun _ k => XS.aloadN X101.here hx rfl (hb hby own_d11_4) rfl rfl k) ?_
  show own_Ok p e below _ (T101.setTop (mkF m 5 #[.val (.ref a1), .val (.long q1), .second] [(.ref a1)]))
  refine own_st (fun _ k => XS.lloadN X101.here hx rfl (hb hby own_d11_5) rfl k) ?_
  show own_Ok p e below _ (T101.setTop (mkF m 6 #[.val (.ref a1), .val (.long q1), .second] [(.long q1), (.ref a1)]))
  obtain ⟨T102, h102, X102, e102, W102, st102⟩ := putF X101 hx hZ hown (host := "") (Or.inl (hw _ (List.mem_of_getElem? (i := 77) rfl))) Via.refl e101 F1 E1 (Or.inr ⟨(hw _ (List.mem_of_getElem? (i := 78) rfl)), rfl, hnm⟩) (hw _ (List.mem_of_getElem? (i := 65) rfl)) (ty := .long) (by decide) rfl rfl (g := (mkF m 6 #[.val (.ref a1), .val (.long q1), .second] [(.long q1), (.ref a1)])) rfl rfl (hb hby own_d11_6)
  refine own_st st102 ?_
  have F102 := F1.same W102
  have N102 := Fr.snoc X102 N101 g1
  show own_Ok p e below _ (T102.setTop (mkF m 9 #[.val (.ref a1), .val (.long q1), .second] []))
  have f103 := (Keep.refl h0 [a1]).wr W102 (Or.inl (by simp))
  exact own_retV X102 hx hlk Bd.returns (hb hby own_d11_9) (by rw [e102]; exact ⟨rfl, N102, f103⟩) (by decide) (by decide)
theorem own_d13_0 : decode jdk_33_method_22_code 0 = .ok (.iload_n 0, 1) := by decide +kernel
theorem own_d13_1 : decode jdk_33_method_22_code 1 = .ok (.bipush (-128), 2) := by decide +kernel
theorem own_d13_3 : decode jdk_33_method_22_code 3 = .ok (.if_icmp .lt 20, 3) := by decide +kernel
theorem own_d13_23 : decode jdk_33_method_22_code 23 = .ok (.new 1, 3) := by decide +kernel
theorem own_d13_26 : decode jdk_33_method_22_code 26 = .ok (.dup, 1) := by decide +kernel
theorem own_d13_27 : decode jdk_33_method_22_code 27 = .ok (.iload_n 0, 1) := by decide +kernel
theorem own_d13_28 : decode jdk_33_method_22_code 28 = .ok (.invokespecial 199, 3) := by decide +kernel
theorem own_pd1 : parseMethodDescriptor "(I)V" = some ⟨[.int], none⟩ := by decide +kernel
theorem own_d13_31 : decode jdk_33_method_22_code 31 = .ok (.areturn, 1) := by decide +kernel
theorem own_d13_6 : decode jdk_33_method_22_code 6 = .ok (.iload_n 0, 1) := by decide +kernel
theorem own_d13_7 : decode jdk_33_method_22_code 7 = .ok (.getstatic 191, 3) := by decide +kernel
theorem own_d13_10 : decode jdk_33_method_22_code 10 = .ok (.if_icmp .gt 13, 3) := by decide +kernel
theorem own_d13_13 : decode jdk_33_method_22_code 13 = .ok (.getstatic 195, 3) := by decide +kernel
theorem own_d13_16 : decode jdk_33_method_22_code 16 = .ok (.iload_n 0, 1) := by decide +kernel
theorem own_d13_17 : decode jdk_33_method_22_code 17 = .ok (.sipush 128, 3) := by decide +kernel
theorem own_d13_20 : decode jdk_33_method_22_code 20 = .ok (.iadd, 1) := by decide +kernel
theorem own_d13_21 : decode jdk_33_method_22_code 21 = .ok (.aaload, 1) := by decide +kernel
theorem own_d13_22 : decode jdk_33_method_22_code 22 = .ok (.areturn, 1) := by decide +kernel
theorem own_ef_rm_voI (m : MethodId) (x1 : Int32) : entryFrame m #[(.int x1)] 1 = mkF m 0 #[.val (.int x1)] [] := by first | (simp [entryFrame, mkF, argsToLocals, Value.category]; done) | rfl
def Q_rm_voI (Z : State) (x1 : Int32) (ca : Addr) (cl : Cell) (h0 : Heap) (n0 : Nat) (v : Option Value) (h : Heap) (L : List Loc) : Prop := ∃ (t : Addr), v = some (.ref t) ∧ Fr n0 L ∧ Keep h0 h [] ∧ Exa Z h t "java/lang/Integer"
set_option maxRecDepth 65536 in
set_option maxHeartbeats 40000000 in
theorem rm_voI (l : Launch) (Z : State) (a0 : Array Value) (hw : ∀ d ∈ tables_1, d.before a0 Z = true) (ws : List Jvm.Cond) (x1 : Int32) (ca : Addr) (cl : Cell) (h0 : Heap) (n0 : Nat) (O0 : Old Z n0 h0) (SH : Sta Z Z.heap "java/lang/Integer$IntegerCache" "high" "I" (.int (127 : Int32))) (SC : Sta Z Z.heap "java/lang/Integer$IntegerCache" "cache" "[Ljava/lang/Integer;" (.ref ca)) (CA1 : Arr Z Z.heap ca cl (.object "java/lang/Integer")) (hsz : cl.slots.size = 256) (el : ∀ i, i < 256 → ∃ x, cl.slots[i]? = some (.ref x) ∧ Exa Z Z.heap x "java/lang/Integer") :
    MetFree l (⟨"java/lang/Integer", "valueOf", "(I)Ljava/lang/Integer;"⟩ : MethodName) (head1 (Jvm.Cond.code (⟨"java/lang/Integer", "valueOf", "(I)Ljava/lang/Integer;"⟩ : MethodName) jdk_33_method_22_code 1 (some (.object "java/lang/Integer")) :: ws) ({ frames := 3, cells := 1, slots := 1, locals := 38 } : Room)) (fun a U => a = #[(.int x1)] ∧ Z.Warmed39 U.vm ∧ U.heap = h0) (fun _ _ _ _ _ => True) (fun _ U o U' => ∃ v L, o = .returned v ∧ Q_rm_voI Z x1 ca cl h0 n0 v U'.heap L ∧ FrameEnd U o U' L ({ frames := 3, cells := 1, slots := 1, locals := 38 } : Room).cells ({ frames := 3, cells := 1, slots := 1, locals := 38 } : Room).slots) := by
  refine MetFree.of_bodySF (plainFor_of_name own_pn4) hisR ?_
  intro p e s m args below meth c s₁ Bd hml0 hP hK
  obtain ⟨rfl, hZ, hh⟩ := hP
  have hx := Bd.exec
  have hby := Bd.bytes
  have hml : c.maxLocals = 1 := hml0
  have hown : s.vm.findClass "java/lang/Integer" = some m.cls := findClass_of_methodNamed Bd.named
  have hnm := (name_of_methodNamed Bd.named Bd.method).1
  have hlk : meth.locks = false := Bd.notSynchronized
  have X0 : Stand p l e ({ frames := 3, cells := 1, slots := 1, locals := 38 } : Room) s m #[(.int x1)] below meth c s₁ [] 0 0 := Stand.of_body Bd
  have e0 : s₁.heap = h0 := by rw [← hh, Bd.state]; rfl
  have N0 := Fr.nil n0
  suffices hgo : own_Ok p e below (own_Qx s (Q_rm_voI Z x1 ca cl h0 n0) 1 1) (s₁.setTop (mkF m 0 #[.val (.int x1)] [])) from by
    obtain ⟨s₂, o, h1, h2⟩ := hgo
    exact ⟨s₂, o, castTop (own_ef_rm_voI m x1) h1, h2⟩
  show own_Ok p e below _ (s₁.setTop (mkF m 0 #[.val (.int x1)] []))
  refine own_st (fun _ k => XS.iloadN X0.here hx rfl (hb hby own_d13_0) rfl k) ?_
  show own_Ok p e below _ (s₁.setTop (mkF m 1 #[.val (.int x1)] [(.int x1)]))
  refine own_st (fun _ k => XS.bipush X0.here hx rfl (hb hby own_d13_1) k) ?_
  show own_Ok p e below _ (s₁.setTop (mkF m 3 #[.val (.int x1)] [(.int (-128 : Int32)), (.int x1)]))
  by_cases c3_101 : x1 < (-128 : Int32)
  · skip
    refine own_st (fun _ k => XS.icmpYes X0.here hx rfl (pc0 := 3) (pc' := 23) rfl (hb hby own_d13_3) rfl (XT.ii_lt_t c3_101) (by decide) (by decide) k) ?_
    show own_Ok p e below _ (s₁.setTop (mkF m 23 #[.val (.int x1)] []))
    obtain ⟨T102, h102, X102, e102, E102, A102, D102, -, st102⟩ := newO X0 hx hZ hown (hw _ (List.mem_of_getElem? (i := 101) rfl)) (hw _ (List.mem_of_getElem? (i := 102) rfl)) (hw _ (List.mem_of_getElem? (i := 83) rfl)) e0 (g := (mkF m 23 #[.val (.int x1)] [])) rfl (hb hby own_d13_23) (by decide) (by decide)
    obtain ⟨b102, g102⟩ : ∃ z, z = h0.size := ⟨_, rfl⟩
    rw [← g102] at A102 D102 st102
    refine own_st st102 ?_
    have gb_b102 : n0 ≤ b102 := Nat.le_trans (own_n0 O0) (Nat.le_of_eq g102.symm)
    have gz_b102 : h0.size ≤ b102 := Nat.le_trans (Keep.refl h0 []).1 (Nat.le_of_eq g102.symm)
    have F102_value : Fld Z h102 b102 "java/lang/Integer" "value" "I" (.int (0 : Int32)) := D102 (Or.inr (hw _ (List.mem_of_getElem? (i := 110) rfl))) (ty := .int) (by decide)
    show own_Ok p e below _ (T102.setTop (mkF m 26 #[.val (.int x1)] [(.ref b102)]))
    refine own_st (fun _ k => XS.dup X102.here hx rfl (hb hby own_d13_26) rfl rfl k) ?_
    show own_Ok p e below _ (T102.setTop (mkF m 27 #[.val (.int x1)] [(.ref b102), (.ref b102)]))
    refine own_st (fun _ k => XS.iloadN X102.here hx rfl (hb hby own_d13_27) rfl k) ?_
    show own_Ok p e below _ (T102.setTop (mkF m 28 #[.val (.int x1)] [(.int x1), (.ref b102), (.ref b102)]))
    have f104 := O0.ext E102
    obtain ⟨_, _, ⟨T103, L103, k103, n103⟩, -, X103, ⟨Lc103, hQ103, l103, y103, z103⟩, st103⟩ := X102.specialBack hx (y := (⟨"java/lang/Integer", "<init>", "(I)V"⟩ : MethodName)) rfl hown (mvT hZ (hw _ (List.mem_of_getElem? (i := 103) rfl))) (mvT hZ (hw _ (List.mem_of_getElem? (i := 104) rfl))) (mvT hZ (hw _ (List.mem_of_getElem? (i := 106) rfl))) (by decide) (backOf (W := 1) (rm15 l Z a0 hw [] b102 x1 h102 n0 f104 A102 F102_value gb_b102) hZ (hw _ (List.mem_of_getElem? (i := 106) rfl)) (hw _ (List.mem_of_getElem? (i := 83) rfl)) (by decide) (by decide)) (g := (mkF m 28 #[.val (.int x1)] [(.int x1), (.ref b102), (.ref b102)])) rfl (by rw [hml]; rfl) (Steps.refl _) (a := b102) (argsL := [(.int x1)]) (rest := [(.ref b102)]) (lenOf own_pd1 rfl) rfl (by show 2 * 0 + _ ≤ _; exact Nat.le_of_eq rfl) (hb hby own_d13_28) (fun _ _ => ⟨rfl, e102, (by decide : 1 + 0 ≤ _), (by decide : 1 + 0 ≤ _)⟩)
    dsimp only [Pt.U, Pt.locs, Pt.cells, Pt.slots] at X103 l103 y103 z103 st103 hQ103
    subst l103 y103 z103
    obtain ⟨rfl, Nq103, K103⟩ := hQ103
    have N103 := Fr.app N0 Nq103
    refine own_st (fun _ k => st103.trans k) ?_
    have e103 : T103.heap = T103.heap := rfl
    show own_Ok p e below _ (T103.setTop (mkF m 31 #[.val (.int x1)] [(.ref b102)]))
    show own_Ok p e below _ (T103.setTop (mkF m 31 #[.val (.int x1)] [(.ref b102)]))
    have f105 := (Keep.refl h0 []).ext E102
    have f106 := f105.trans K103 (allS (Or.inr gz_b102) all0)
    have f107 := A102.keep K103
    exact own_retA X103 hx hlk (t := (.object "java/lang/Integer")) rfl Bd.returns rfl (hb hby own_d13_31) (by rw [e103]; exact ⟨b102, rfl, N103, f106, f107⟩) (by decide) (by decide)
  · skip
    refine own_st (fun _ k => XS.icmpNo X0.here hx rfl (hb hby own_d13_3) rfl (XT.ii_lt_f c3_101) k) ?_
    show own_Ok p e below _ (s₁.setTop (mkF m 6 #[.val (.int x1)] []))
    refine own_st (fun _ k => XS.iloadN X0.here hx rfl (hb hby own_d13_6) rfl k) ?_
    show own_Ok p e below _ (s₁.setTop (mkF m 7 #[.val (.int x1)] [(.int x1)]))
    obtain ⟨T108, X108, e108, st108⟩ := getS2 X0 hx hZ hown (host := "") (Or.inl (hw _ (List.mem_of_getElem? (i := 85) rfl))) Via.refl e0 (SH.ext O0.2) (g := (mkF m 7 #[.val (.int x1)] [(.int x1)])) rfl (hb hby own_d13_7)
    refine own_st st108 ?_
    show own_Ok p e below _ (T108.setTop (mkF m 10 #[.val (.int x1)] [(.int (127 : Int32)), (.int x1)]))
    by_cases c10_109 : (127 : Int32) < x1
    · skip
      refine own_st (fun _ k => XS.icmpYes X108.here hx rfl (pc0 := 10) (pc' := 23) rfl (hb hby own_d13_10) rfl (XT.ii_gt_t c10_109) (by decide) (by decide) k) ?_
      show own_Ok p e below _ (T108.setTop (mkF m 23 #[.val (.int x1)] []))
      obtain ⟨T110, h110, X110, e110, E110, A110, D110, -, st110⟩ := newO X108 hx hZ hown (hw _ (List.mem_of_getElem? (i := 101) rfl)) (hw _ (List.mem_of_getElem? (i := 102) rfl)) (hw _ (List.mem_of_getElem? (i := 83) rfl)) e108 (g := (mkF m 23 #[.val (.int x1)] [])) rfl (hb hby own_d13_23) (by decide) (by decide)
      obtain ⟨b110, g110⟩ : ∃ z, z = h0.size := ⟨_, rfl⟩
      rw [← g110] at A110 D110 st110
      refine own_st st110 ?_
      have gb_b110 : n0 ≤ b110 := Nat.le_trans (own_n0 O0) (Nat.le_of_eq g110.symm)
      have gz_b110 : h0.size ≤ b110 := Nat.le_trans (Keep.refl h0 []).1 (Nat.le_of_eq g110.symm)
      have F110_value : Fld Z h110 b110 "java/lang/Integer" "value" "I" (.int (0 : Int32)) := D110 (Or.inr (hw _ (List.mem_of_getElem? (i := 110) rfl))) (ty := .int) (by decide)
      show own_Ok p e below _ (T110.setTop (mkF m 26 #[.val (.int x1)] [(.ref b110)]))
      refine own_st (fun _ k => XS.dup X110.here hx rfl (hb hby own_d13_26) rfl rfl k) ?_
      show own_Ok p e below _ (T110.setTop (mkF m 27 #[.val (.int x1)] [(.ref b110), (.ref b110)]))
      refine own_st (fun _ k => XS.iloadN X110.here hx rfl (hb hby own_d13_27) rfl k) ?_
      show own_Ok p e below _ (T110.setTop (mkF m 28 #[.val (.int x1)] [(.int x1), (.ref b110), (.ref b110)]))
      have f112 := O0.ext E110
      obtain ⟨_, _, ⟨T111, L111, k111, n111⟩, -, X111, ⟨Lc111, hQ111, l111, y111, z111⟩, st111⟩ := X110.specialBack hx (y := (⟨"java/lang/Integer", "<init>", "(I)V"⟩ : MethodName)) rfl hown (mvT hZ (hw _ (List.mem_of_getElem? (i := 103) rfl))) (mvT hZ (hw _ (List.mem_of_getElem? (i := 104) rfl))) (mvT hZ (hw _ (List.mem_of_getElem? (i := 106) rfl))) (by decide) (backOf (W := 1) (rm15 l Z a0 hw [] b110 x1 h110 n0 f112 A110 F110_value gb_b110) hZ (hw _ (List.mem_of_getElem? (i := 106) rfl)) (hw _ (List.mem_of_getElem? (i := 83) rfl)) (by decide) (by decide)) (g := (mkF m 28 #[.val (.int x1)] [(.int x1), (.ref b110), (.ref b110)])) rfl (by rw [hml]; rfl) (Steps.refl _) (a := b110) (argsL := [(.int x1)]) (rest := [(.ref b110)]) (lenOf own_pd1 rfl) rfl (by show 2 * 0 + _ ≤ _; exact Nat.le_of_eq rfl) (hb hby own_d13_28) (fun _ _ => ⟨rfl, e110, (by decide : 1 + 0 ≤ _), (by decide : 1 + 0 ≤ _)⟩)
      dsimp only [Pt.U, Pt.locs, Pt.cells, Pt.slots] at X111 l111 y111 z111 st111 hQ111
      subst l111 y111 z111
      obtain ⟨rfl, Nq111, K111⟩ := hQ111
      have N111 := Fr.app N0 Nq111
      refine own_st (fun _ k => st111.trans k) ?_
      have e111 : T111.heap = T111.heap := rfl
      show own_Ok p e below _ (T111.setTop (mkF m 31 #[.val (.int x1)] [(.ref b110)]))
      show own_Ok p e below _ (T111.setTop (mkF m 31 #[.val (.int x1)] [(.ref b110)]))
      have f113 := (Keep.refl h0 []).ext E110
      have f114 := f113.trans K111 (allS (Or.inr gz_b110) all0)
      have f115 := A110.keep K111
      exact own_retA X111 hx hlk (t := (.object "java/lang/Integer")) rfl Bd.returns rfl (hb hby own_d13_31) (by rw [e111]; exact ⟨b110, rfl, N111, f114, f115⟩) (by decide) (by decide)
    · skip
      refine own_st (fun _ k => XS.icmpNo X108.here hx rfl (hb hby own_d13_10) rfl (XT.ii_gt_f c10_109) k) ?_
      show own_Ok p e below _ (T108.setTop (mkF m 13 #[.val (.int x1)] []))
      obtain ⟨T116, X116, e116, st116⟩ := getS2 X108 hx hZ hown (host := "") (Or.inl (hw _ (List.mem_of_getElem? (i := 87) rfl))) Via.refl e108 (SC.ext O0.2) (g := (mkF m 13 #[.val (.int x1)] [])) rfl (hb hby own_d13_13)
      refine own_st st116 ?_
      show own_Ok p e below _ (T116.setTop (mkF m 16 #[.val (.int x1)] [(.ref ca)]))
      refine own_st (fun _ k => XS.iloadN X116.here hx rfl (hb hby own_d13_16) rfl k) ?_
      show own_Ok p e below _ (T116.setTop (mkF m 17 #[.val (.int x1)] [(.int x1), (.ref ca)]))
      refine own_st (fun _ k => XS.sipush X116.here hx rfl (hb hby own_d13_17) k) ?_
      show own_Ok p e below _ (T116.setTop (mkF m 20 #[.val (.int x1)] [(.int (128 : Int32)), (.int x1), (.ref ca)]))
      refine own_st (fun _ k => XS.iadd X116.here hx rfl (hb hby own_d13_20) rfl k) ?_
      show own_Ok p e below _ (T116.setTop (mkF m 21 #[.val (.int x1)] [(.int (x1 + (128 : Int32))), (.ref ca)]))
      have hin : ¬ ((x1 + (128 : Int32)) < 0 ∨ cl.slots.size ≤ ((x1 + (128 : Int32))).toNatClampNeg) := own_cacheI hsz c3_101 c10_109
      obtain ⟨xe, hel, hex⟩ := el ((x1 + (128 : Int32))).toNatClampNeg (Nat.lt_of_not_le fun q => hin (Or.inr (hsz ▸ q)))
      refine own_st (X116.aaload hx (j := (x1 + (128 : Int32))) (v := .ref xe) (by rw [e116]; exact O0.2.2 _ _ CA1.1) (State.isArrayOf_alike hZ.alike CA1.2.1) rfl CA1.2.2 hin hel (g := (mkF m 21 #[.val (.int x1)] [(.int (x1 + (128 : Int32))), (.ref ca)])) rfl rfl (hb hby own_d13_21)) ?_
      show own_Ok p e below _ (T116.setTop (mkF m 22 #[.val (.int x1)] [(.ref xe)]))
      exact own_retA X116 hx hlk (t := (.object "java/lang/Integer")) rfl Bd.returns rfl (hb hby own_d13_22) (by rw [e116]; exact ⟨xe, rfl, N0, (Keep.refl h0 []), (hex.ext O0.2)⟩) (by decide) (by decide)
theorem own_d10_0 : decode jdk_35_method_24_code 0 = .ok (.sipush 128, 3) := by decide +kernel
theorem own_d10_3 : decode jdk_35_method_24_code 3 = .ok (.istore_n 2, 1) := by decide +kernel
theorem own_d10_4 : decode jdk_35_method_24_code 4 = .ok (.lload_n 0, 1) := by decide +kernel
theorem own_d10_5 : decode jdk_35_method_24_code 5 = .ok (.ldc2_w 230, 3) := by decide +kernel
theorem own_d10_8 : decode jdk_35_method_24_code 8 = .ok (.lcmp, 1) := by decide +kernel
theorem own_d10_9 : decode jdk_35_method_24_code 9 = .ok (.ifCond .lt 22, 3) := by decide +kernel
theorem own_d10_31 : decode jdk_35_method_24_code 31 = .ok (.new 1, 3) := by decide +kernel
theorem own_d10_34 : decode jdk_35_method_24_code 34 = .ok (.dup, 1) := by decide +kernel
theorem own_d10_35 : decode jdk_35_method_24_code 35 = .ok (.lload_n 0, 1) := by decide +kernel
theorem own_d10_36 : decode jdk_35_method_24_code 36 = .ok (.invokespecial 240, 3) := by decide +kernel
theorem own_pd2 : parseMethodDescriptor "(J)V" = some ⟨[.long], none⟩ := by decide +kernel
theorem own_d10_39 : decode jdk_35_method_24_code 39 = .ok (.areturn, 1) := by decide +kernel
theorem own_d10_12 : decode jdk_35_method_24_code 12 = .ok (.lload_n 0, 1) := by decide +kernel
theorem own_d10_13 : decode jdk_35_method_24_code 13 = .ok (.ldc2_w 232, 3) := by decide +kernel
theorem own_d10_16 : decode jdk_35_method_24_code 16 = .ok (.lcmp, 1) := by decide +kernel
theorem own_d10_17 : decode jdk_35_method_24_code 17 = .ok (.ifCond .gt 14, 3) := by decide +kernel
theorem own_d10_20 : decode jdk_35_method_24_code 20 = .ok (.getstatic 234, 3) := by decide +kernel
theorem own_d10_23 : decode jdk_35_method_24_code 23 = .ok (.lload_n 0, 1) := by decide +kernel
theorem own_d10_24 : decode jdk_35_method_24_code 24 = .ok (.l2i, 1) := by decide +kernel
theorem own_d10_25 : decode jdk_35_method_24_code 25 = .ok (.sipush 128, 3) := by decide +kernel
theorem own_d10_28 : decode jdk_35_method_24_code 28 = .ok (.iadd, 1) := by decide +kernel
theorem own_d10_29 : decode jdk_35_method_24_code 29 = .ok (.aaload, 1) := by decide +kernel
theorem own_d10_30 : decode jdk_35_method_24_code 30 = .ok (.areturn, 1) := by decide +kernel
theorem own_ef_rm_voJ (m : MethodId) (q1 : Int64) : entryFrame m #[(.long q1)] 3 = mkF m 0 #[.val (.long q1), .second, .unset] [] := by first | (simp [entryFrame, mkF, argsToLocals, Value.category]; done) | rfl
def Q_rm_voJ (Z : State) (q1 : Int64) (ca : Addr) (cl : Cell) (h0 : Heap) (n0 : Nat) (v : Option Value) (h : Heap) (L : List Loc) : Prop := ∃ (t : Addr), v = some (.ref t) ∧ Fr n0 L ∧ Keep h0 h [] ∧ Exa Z h t "java/lang/Long"
set_option maxRecDepth 65536 in
set_option maxHeartbeats 40000000 in
theorem rm_voJ (l : Launch) (Z : State) (a0 : Array Value) (hw : ∀ d ∈ tables_1, d.before a0 Z = true) (ws : List Jvm.Cond) (q1 : Int64) (ca : Addr) (cl : Cell) (h0 : Heap) (n0 : Nat) (O0 : Old Z n0 h0) (SC : Sta Z Z.heap "java/lang/Long$LongCache" "cache" "[Ljava/lang/Long;" (.ref ca)) (CA1 : Arr Z Z.heap ca cl (.object "java/lang/Long")) (hsz : cl.slots.size = 256) (el : ∀ i, i < 256 → ∃ x, cl.slots[i]? = some (.ref x) ∧ Exa Z Z.heap x "java/lang/Long") :
    MetFree l (⟨"java/lang/Long", "valueOf", "(J)Ljava/lang/Long;"⟩ : MethodName) (head1 (Jvm.Cond.code (⟨"java/lang/Long", "valueOf", "(J)Ljava/lang/Long;"⟩ : MethodName) jdk_35_method_24_code 3 (some (.object "java/lang/Long")) :: ws) ({ frames := 3, cells := 1, slots := 1, locals := 39 } : Room)) (fun a U => a = #[(.long q1)] ∧ Z.Warmed39 U.vm ∧ U.heap = h0) (fun _ _ _ _ _ => True) (fun _ U o U' => ∃ v L, o = .returned v ∧ Q_rm_voJ Z q1 ca cl h0 n0 v U'.heap L ∧ FrameEnd U o U' L ({ frames := 3, cells := 1, slots := 1, locals := 39 } : Room).cells ({ frames := 3, cells := 1, slots := 1, locals := 39 } : Room).slots) := by
  refine MetFree.of_bodySF (plainFor_of_name own_pn5) hisR ?_
  intro p e s m args below meth c s₁ Bd hml0 hP hK
  obtain ⟨rfl, hZ, hh⟩ := hP
  have hx := Bd.exec
  have hby := Bd.bytes
  have hml : c.maxLocals = 3 := hml0
  have hown : s.vm.findClass "java/lang/Long" = some m.cls := findClass_of_methodNamed Bd.named
  have hnm := (name_of_methodNamed Bd.named Bd.method).1
  have hlk : meth.locks = false := Bd.notSynchronized
  have X0 : Stand p l e ({ frames := 3, cells := 1, slots := 1, locals := 39 } : Room) s m #[(.long q1)] below meth c s₁ [] 0 0 := Stand.of_body Bd
  have e0 : s₁.heap = h0 := by rw [← hh, Bd.state]; rfl
  have N0 := Fr.nil n0
  suffices hgo : own_Ok p e below (own_Qx s (Q_rm_voJ Z q1 ca cl h0 n0) 1 1) (s₁.setTop (mkF m 0 #[.val (.long q1), .second, .unset] [])) from by
    obtain ⟨s₂, o, h1, h2⟩ := hgo
    exact ⟨s₂, o, castTop (own_ef_rm_voJ m q1) h1, h2⟩
  show own_Ok p e below _ (s₁.setTop (mkF m 0 #[.val (.long q1), .second, .unset] []))
  refine own_st (fun _ k => XS.sipush X0.here hx rfl (hb hby own_d10_0) k) ?_
  show own_Ok p e below _ (s₁.setTop (mkF m 3 #[.val (.long q1), .second, .unset] [(.int (128 : Int32))]))
  refine own_st (fun _ k => XS.istoreN X0.here hx rfl (hb hby own_d10_3) rfl (l' := #[.val (.long q1), .second, .val (.int (128 : Int32))]) rfl k) ?_
  show own_Ok p e below _ (s₁.setTop (mkF m 4 #[.val (.long q1), .second, .val (.int (128 : Int32))] []))
  refine own_st (fun _ k => XS.lloadN X0.here hx rfl (hb hby own_d10_4) rfl k) ?_
  show own_Ok p e below _ (s₁.setTop (mkF m 5 #[.val (.long q1), .second, .val (.int (128 : Int32))] [(.long q1)]))
  refine own_st (fun _ k => Jvm.Stand.ldc2J X0 hx hown (mvT hZ (hw _ (List.mem_of_getElem? (i := 62) rfl))) rfl (hb hby own_d10_5) k) ?_
  show own_Ok p e below _ (s₁.setTop (mkF m 8 #[.val (.long q1), .second, .val (.int (128 : Int32))] [(.long (-128 : Int64)), (.long q1)]))
  refine own_st (fun _ k => XT.lcmp X0.here hx rfl (hb hby own_d10_8) rfl k) ?_
  show own_Ok p e below _ (s₁.setTop (mkF m 9 #[.val (.long q1), .second, .val (.int (128 : Int32))] [(.int (XT.cmpL q1 (-128 : Int64)))]))
  by_cases c9_101 : q1 < (-128 : Int64)
  · skip
    refine own_st (fun _ k => XS.ifYes X0.here hx rfl (pc0 := 9) (pc' := 31) rfl (hb hby own_d10_9) rfl (XT.ll_lt_t c9_101) (by decide) (by decide) k) ?_
    show own_Ok p e below _ (s₁.setTop (mkF m 31 #[.val (.long q1), .second, .val (.int (128 : Int32))] []))
    obtain ⟨T102, h102, X102, e102, E102, A102, D102, -, st102⟩ := newO X0 hx hZ hown (hw _ (List.mem_of_getElem? (i := 64) rfl)) (hw _ (List.mem_of_getElem? (i := 65) rfl)) (hw _ (List.mem_of_getElem? (i := 60) rfl)) e0 (g := (mkF m 31 #[.val (.long q1), .second, .val (.int (128 : Int32))] [])) rfl (hb hby own_d10_31) (by decide) (by decide)
    obtain ⟨b102, g102⟩ : ∃ z, z = h0.size := ⟨_, rfl⟩
    rw [← g102] at A102 D102 st102
    refine own_st st102 ?_
    have gb_b102 : n0 ≤ b102 := Nat.le_trans (own_n0 O0) (Nat.le_of_eq g102.symm)
    have gz_b102 : h0.size ≤ b102 := Nat.le_trans (Keep.refl h0 []).1 (Nat.le_of_eq g102.symm)
    have F102_value : Fld Z h102 b102 "java/lang/Long" "value" "J" (.long (0 : Int64)) := D102 (Or.inr (hw _ (List.mem_of_getElem? (i := 78) rfl))) (ty := .long) (by decide)
    show own_Ok p e below _ (T102.setTop (mkF m 34 #[.val (.long q1), .second, .val (.int (128 : Int32))] [(.ref b102)]))
    refine own_st (fun _ k => XS.dup X102.here hx rfl (hb hby own_d10_34) rfl rfl k) ?_
    show own_Ok p e below _ (T102.setTop (mkF m 35 #[.val (.long q1), .second, .val (.int (128 : Int32))] [(.ref b102), (.ref b102)]))
    refine own_st (fun _ k => XS.lloadN X102.here hx rfl (hb hby own_d10_35) rfl k) ?_
    show own_Ok p e below _ (T102.setTop (mkF m 36 #[.val (.long q1), .second, .val (.int (128 : Int32))] [(.long q1), (.ref b102), (.ref b102)]))
    have f104 := O0.ext E102
    obtain ⟨_, _, ⟨T103, L103, k103, n103⟩, -, X103, ⟨Lc103, hQ103, l103, y103, z103⟩, st103⟩ := X102.specialBack hx (y := (⟨"java/lang/Long", "<init>", "(J)V"⟩ : MethodName)) rfl hown (mvT hZ (hw _ (List.mem_of_getElem? (i := 66) rfl))) (mvT hZ (hw _ (List.mem_of_getElem? (i := 67) rfl))) (mvT hZ (hw _ (List.mem_of_getElem? (i := 69) rfl))) (by decide) (backOf (W := 1) (rm11 l Z a0 hw [] b102 q1 h102 n0 f104 A102 F102_value gb_b102) hZ (hw _ (List.mem_of_getElem? (i := 69) rfl)) (hw _ (List.mem_of_getElem? (i := 60) rfl)) (by decide) (by decide)) (g := (mkF m 36 #[.val (.long q1), .second, .val (.int (128 : Int32))] [(.long q1), (.ref b102), (.ref b102)])) rfl (by rw [hml]; rfl) (Steps.refl _) (a := b102) (argsL := [(.long q1)]) (rest := [(.ref b102)]) (lenOf own_pd2 rfl) rfl (by show 2 * 0 + _ ≤ _; exact Nat.le_of_eq rfl) (hb hby own_d10_36) (fun _ _ => ⟨rfl, e102, (by decide : 1 + 0 ≤ _), (by decide : 1 + 0 ≤ _)⟩)
    dsimp only [Pt.U, Pt.locs, Pt.cells, Pt.slots] at X103 l103 y103 z103 st103 hQ103
    subst l103 y103 z103
    obtain ⟨rfl, Nq103, K103⟩ := hQ103
    have N103 := Fr.app N0 Nq103
    refine own_st (fun _ k => st103.trans k) ?_
    have e103 : T103.heap = T103.heap := rfl
    show own_Ok p e below _ (T103.setTop (mkF m 39 #[.val (.long q1), .second, .val (.int (128 : Int32))] [(.ref b102)]))
    show own_Ok p e below _ (T103.setTop (mkF m 39 #[.val (.long q1), .second, .val (.int (128 : Int32))] [(.ref b102)]))
    have f105 := (Keep.refl h0 []).ext E102
    have f106 := f105.trans K103 (allS (Or.inr gz_b102) all0)
    have f107 := A102.keep K103
    exact own_retA X103 hx hlk (t := (.object "java/lang/Long")) rfl Bd.returns rfl (hb hby own_d10_39) (by rw [e103]; exact ⟨b102, rfl, N103, f106, f107⟩) (by decide) (by decide)
  · skip
    refine own_st (fun _ k => XS.ifNo X0.here hx rfl (hb hby own_d10_9) rfl (XT.ll_lt_f c9_101) k) ?_
    show own_Ok p e below _ (s₁.setTop (mkF m 12 #[.val (.long q1), .second, .val (.int (128 : Int32))] []))
    refine own_st (fun _ k => XS.lloadN X0.here hx rfl (hb hby own_d10_12) rfl k) ?_
    show own_Ok p e below _ (s₁.setTop (mkF m 13 #[.val (.long q1), .second, .val (.int (128 : Int32))] [(.long q1)]))
    refine own_st (fun _ k => Jvm.Stand.ldc2J X0 hx hown (mvT hZ (hw _ (List.mem_of_getElem? (i := 63) rfl))) rfl (hb hby own_d10_13) k) ?_
    show own_Ok p e below _ (s₁.setTop (mkF m 16 #[.val (.long q1), .second, .val (.int (128 : Int32))] [(.long (127 : Int64)), (.long q1)]))
    refine own_st (fun _ k => XT.lcmp X0.here hx rfl (hb hby own_d10_16) rfl k) ?_
    show own_Ok p e below _ (s₁.setTop (mkF m 17 #[.val (.long q1), .second, .val (.int (128 : Int32))] [(.int (XT.cmpL q1 (127 : Int64)))]))
    by_cases c17_108 : (127 : Int64) < q1
    · skip
      refine own_st (fun _ k => XS.ifYes X0.here hx rfl (pc0 := 17) (pc' := 31) rfl (hb hby own_d10_17) rfl (XT.ll_gt_t c17_108) (by decide) (by decide) k) ?_
      show own_Ok p e below _ (s₁.setTop (mkF m 31 #[.val (.long q1), .second, .val (.int (128 : Int32))] []))
      obtain ⟨T109, h109, X109, e109, E109, A109, D109, -, st109⟩ := newO X0 hx hZ hown (hw _ (List.mem_of_getElem? (i := 64) rfl)) (hw _ (List.mem_of_getElem? (i := 65) rfl)) (hw _ (List.mem_of_getElem? (i := 60) rfl)) e0 (g := (mkF m 31 #[.val (.long q1), .second, .val (.int (128 : Int32))] [])) rfl (hb hby own_d10_31) (by decide) (by decide)
      obtain ⟨b109, g109⟩ : ∃ z, z = h0.size := ⟨_, rfl⟩
      rw [← g109] at A109 D109 st109
      refine own_st st109 ?_
      have gb_b109 : n0 ≤ b109 := Nat.le_trans (own_n0 O0) (Nat.le_of_eq g109.symm)
      have gz_b109 : h0.size ≤ b109 := Nat.le_trans (Keep.refl h0 []).1 (Nat.le_of_eq g109.symm)
      have F109_value : Fld Z h109 b109 "java/lang/Long" "value" "J" (.long (0 : Int64)) := D109 (Or.inr (hw _ (List.mem_of_getElem? (i := 78) rfl))) (ty := .long) (by decide)
      show own_Ok p e below _ (T109.setTop (mkF m 34 #[.val (.long q1), .second, .val (.int (128 : Int32))] [(.ref b109)]))
      refine own_st (fun _ k => XS.dup X109.here hx rfl (hb hby own_d10_34) rfl rfl k) ?_
      show own_Ok p e below _ (T109.setTop (mkF m 35 #[.val (.long q1), .second, .val (.int (128 : Int32))] [(.ref b109), (.ref b109)]))
      refine own_st (fun _ k => XS.lloadN X109.here hx rfl (hb hby own_d10_35) rfl k) ?_
      show own_Ok p e below _ (T109.setTop (mkF m 36 #[.val (.long q1), .second, .val (.int (128 : Int32))] [(.long q1), (.ref b109), (.ref b109)]))
      have f111 := O0.ext E109
      obtain ⟨_, _, ⟨T110, L110, k110, n110⟩, -, X110, ⟨Lc110, hQ110, l110, y110, z110⟩, st110⟩ := X109.specialBack hx (y := (⟨"java/lang/Long", "<init>", "(J)V"⟩ : MethodName)) rfl hown (mvT hZ (hw _ (List.mem_of_getElem? (i := 66) rfl))) (mvT hZ (hw _ (List.mem_of_getElem? (i := 67) rfl))) (mvT hZ (hw _ (List.mem_of_getElem? (i := 69) rfl))) (by decide) (backOf (W := 1) (rm11 l Z a0 hw [] b109 q1 h109 n0 f111 A109 F109_value gb_b109) hZ (hw _ (List.mem_of_getElem? (i := 69) rfl)) (hw _ (List.mem_of_getElem? (i := 60) rfl)) (by decide) (by decide)) (g := (mkF m 36 #[.val (.long q1), .second, .val (.int (128 : Int32))] [(.long q1), (.ref b109), (.ref b109)])) rfl (by rw [hml]; rfl) (Steps.refl _) (a := b109) (argsL := [(.long q1)]) (rest := [(.ref b109)]) (lenOf own_pd2 rfl) rfl (by show 2 * 0 + _ ≤ _; exact Nat.le_of_eq rfl) (hb hby own_d10_36) (fun _ _ => ⟨rfl, e109, (by decide : 1 + 0 ≤ _), (by decide : 1 + 0 ≤ _)⟩)
      dsimp only [Pt.U, Pt.locs, Pt.cells, Pt.slots] at X110 l110 y110 z110 st110 hQ110
      subst l110 y110 z110
      obtain ⟨rfl, Nq110, K110⟩ := hQ110
      have N110 := Fr.app N0 Nq110
      refine own_st (fun _ k => st110.trans k) ?_
      have e110 : T110.heap = T110.heap := rfl
      show own_Ok p e below _ (T110.setTop (mkF m 39 #[.val (.long q1), .second, .val (.int (128 : Int32))] [(.ref b109)]))
      show own_Ok p e below _ (T110.setTop (mkF m 39 #[.val (.long q1), .second, .val (.int (128 : Int32))] [(.ref b109)]))
      have f112 := (Keep.refl h0 []).ext E109
      have f113 := f112.trans K110 (allS (Or.inr gz_b109) all0)
      have f114 := A109.keep K110
      exact own_retA X110 hx hlk (t := (.object "java/lang/Long")) rfl Bd.returns rfl (hb hby own_d10_39) (by rw [e110]; exact ⟨b109, rfl, N110, f113, f114⟩) (by decide) (by decide)
    · skip
      refine own_st (fun _ k => XS.ifNo X0.here hx rfl (hb hby own_d10_17) rfl (XT.ll_gt_f c17_108) k) ?_
      show own_Ok p e below _ (s₁.setTop (mkF m 20 #[.val (.long q1), .second, .val (.int (128 : Int32))] []))
      obtain ⟨T115, X115, e115, st115⟩ := getS2 X0 hx hZ hown (host := "") (Or.inl (hw _ (List.mem_of_getElem? (i := 99) rfl))) Via.refl e0 (SC.ext O0.2) (g := (mkF m 20 #[.val (.long q1), .second, .val (.int (128 : Int32))] [])) rfl (hb hby own_d10_20)
      refine own_st st115 ?_
      show own_Ok p e below _ (T115.setTop (mkF m 23 #[.val (.long q1), .second, .val (.int (128 : Int32))] [(.ref ca)]))
      refine own_st (fun _ k => XS.lloadN X115.here hx rfl (hb hby own_d10_23) rfl k) ?_
      show own_Ok p e below _ (T115.setTop (mkF m 24 #[.val (.long q1), .second, .val (.int (128 : Int32))] [(.long q1), (.ref ca)]))
      refine own_st (fun _ k => XS.l2i X115.here hx rfl (hb hby own_d10_24) rfl k) ?_
      show own_Ok p e below _ (T115.setTop (mkF m 25 #[.val (.long q1), .second, .val (.int (128 : Int32))] [(.int (q1.toInt32)), (.ref ca)]))
      refine own_st (fun _ k => XS.sipush X115.here hx rfl (hb hby own_d10_25) k) ?_
      show own_Ok p e below _ (T115.setTop (mkF m 28 #[.val (.long q1), .second, .val (.int (128 : Int32))] [(.int (128 : Int32)), (.int (q1.toInt32)), (.ref ca)]))
      refine own_st (fun _ k => XS.iadd X115.here hx rfl (hb hby own_d10_28) rfl k) ?_
      show own_Ok p e below _ (T115.setTop (mkF m 29 #[.val (.long q1), .second, .val (.int (128 : Int32))] [(.int ((q1.toInt32) + (128 : Int32))), (.ref ca)]))
      have hin : ¬ (((q1.toInt32) + (128 : Int32)) < 0 ∨ cl.slots.size ≤ (((q1.toInt32) + (128 : Int32))).toNatClampNeg) := own_cacheL hsz c9_101 c17_108
      obtain ⟨xe, hel, hex⟩ := el (((q1.toInt32) + (128 : Int32))).toNatClampNeg (Nat.lt_of_not_le fun q => hin (Or.inr (hsz ▸ q)))
      refine own_st (X115.aaload hx (j := ((q1.toInt32) + (128 : Int32))) (v := .ref xe) (by rw [e115]; exact O0.2.2 _ _ CA1.1) (State.isArrayOf_alike hZ.alike CA1.2.1) rfl CA1.2.2 hin hel (g := (mkF m 29 #[.val (.long q1), .second, .val (.int (128 : Int32))] [(.int ((q1.toInt32) + (128 : Int32))), (.ref ca)])) rfl rfl (hb hby own_d10_29)) ?_
      show own_Ok p e below _ (T115.setTop (mkF m 30 #[.val (.long q1), .second, .val (.int (128 : Int32))] [(.ref xe)]))
      exact own_retA X115 hx hlk (t := (.object "java/lang/Long")) rfl Bd.returns rfl (hb hby own_d10_30) (by rw [e115]; exact ⟨xe, rfl, N0, (Keep.refl h0 []), (hex.ext O0.2)⟩) (by decide) (by decide)
theorem own_d3_0 : decode prog_16_method_2_code 0 = .ok (.aload_n 0, 1) := by decide +kernel
theorem own_d3_1 : decode prog_16_method_2_code 1 = .ok (.getfield 7, 3) := by decide +kernel
theorem own_d3_4 : decode prog_16_method_2_code 4 = .ok (.ifnull 27, 3) := by decide +kernel
theorem own_d3_31 : decode prog_16_method_2_code 31 = .ok (.iconst 0, 1) := by decide +kernel
theorem own_d3_32 : decode prog_16_method_2_code 32 = .ok (.ireturn, 1) := by decide +kernel
theorem own_ef_rm_pend_null (m : MethodId) (a1 : Addr) : entryFrame m #[(.ref a1)] 1 = mkF m 0 #[.val (.ref a1)] [] := by first | (simp [entryFrame, mkF, argsToLocals, Value.category]; done) | rfl
def Q_rm_pend_null (Z : State) (a1 : Addr) (h0 : Heap) (n0 : Nat) (v : Option Value) (h : Heap) (L : List Loc) : Prop := v = some (.int (0 : Int32)) ∧ Fr n0 L ∧ h = h0
set_option maxRecDepth 65536 in
set_option maxHeartbeats 40000000 in
theorem rm_pend_null (l : Launch) (Z : State) (a0 : Array Value) (hw : ∀ d ∈ tables_1, d.before a0 Z = true) (ws : List Jvm.Cond) (a1 : Addr) (h0 : Heap) (n0 : Nat) (O0 : Old Z n0 h0) (F1 : Fld Z h0 a1 "com/example/tandemwick/tandemwick/FutureState$Special" "content" "Ljava/lang/Object;" .null) :
    MetFree l (⟨"com/example/tandemwick/tandemwick/FutureState$Special", "isPending", "()Z"⟩ : MethodName) (head1 (Jvm.Cond.code (⟨"com/example/tandemwick/tandemwick/FutureState$Special", "isPending", "()Z"⟩ : MethodName) prog_16_method_2_code 1 (some .boolean) :: ws) ({ frames := 0, cells := 0, slots := 0, locals := 0 } : Room)) (fun a U => a = #[(.ref a1)] ∧ Z.Warmed39 U.vm ∧ U.heap = h0) (fun _ _ _ _ _ => True) (fun _ U o U' => ∃ v L, o = .returned v ∧ Q_rm_pend_null Z a1 h0 n0 v U'.heap L ∧ FrameEnd U o U' L ({ frames := 0, cells := 0, slots := 0, locals := 0 } : Room).cells ({ frames := 0, cells := 0, slots := 0, locals := 0 } : Room).slots) := by
  refine MetFree.of_bodySF (plainFor_of_name own_pn0) hisR ?_
  intro p e s m args below meth c s₁ Bd hml0 hP hK
  obtain ⟨rfl, hZ, hh⟩ := hP
  have hx := Bd.exec
  have hby := Bd.bytes
  have hml : c.maxLocals = 1 := hml0
  have hown : s.vm.findClass "com/example/tandemwick/tandemwick/FutureState$Special" = some m.cls := findClass_of_methodNamed Bd.named
  have hnm := (name_of_methodNamed Bd.named Bd.method).1
  have hlk : meth.locks = false := Bd.notSynchronized
  have X0 : Stand p l e ({ frames := 0, cells := 0, slots := 0, locals := 0 } : Room) s m #[(.ref a1)] below meth c s₁ [] 0 0 := Stand.of_body Bd
  have e0 : s₁.heap = h0 := by rw [← hh, Bd.state]; rfl
  have N0 := Fr.nil n0
  suffices hgo : own_Ok p e below (own_Qx s (Q_rm_pend_null Z a1 h0 n0) 0 0) (s₁.setTop (mkF m 0 #[.val (.ref a1)] [])) from by
    obtain ⟨s₂, o, h1, h2⟩ := hgo
    exact ⟨s₂, o, castTop (own_ef_rm_pend_null m a1) h1, h2⟩
  show own_Ok p e below _ (s₁.setTop (mkF m 0 #[.val (.ref a1)] []))
  refine own_st (fun _ k => XS.aloadN X0.here hx rfl (hb hby own_d3_0) rfl rfl k) ?_
  show own_Ok p e below _ (s₁.setTop (mkF m 1 #[.val (.ref a1)] [(.ref a1)]))
  obtain ⟨T101, X101, e101, st101⟩ := getF X0 hx hZ hown (host := "") (Or.inl (hw _ (List.mem_of_getElem? (i := 9) rfl))) Via.refl e0 F1 (g := (mkF m 1 #[.val (.ref a1)] [(.ref a1)])) rfl rfl (hb hby own_d3_1)
  refine own_st st101 ?_
  show own_Ok p e below _ (T101.setTop (mkF m 4 #[.val (.ref a1)] [.null]))
  refine own_st (fun _ k => XS.ifnullYes X101.here hx rfl (pc0 := 4) (pc' := 31) rfl (hb hby own_d3_4) rfl (by decide) (by decide) k) ?_
  show own_Ok p e below _ (T101.setTop (mkF m 31 #[.val (.ref a1)] []))
  refine own_st (fun _ k => XS.iconst X101.here hx rfl (hb hby own_d3_31) k) ?_
  show own_Ok p e below _ (T101.setTop (mkF m 32 #[.val (.ref a1)] [(.int (0 : Int32))]))
  exact own_retN X101 hx hlk (t := .boolean) Bd.returns (by simp) (hb hby own_d3_32) (by rw [e101]; exact ⟨rfl, N0, rfl⟩) (by decide) (by decide)
theorem own_d3_7 : decode prog_16_method_2_code 7 = .ok (.aload_n 0, 1) := by decide +kernel
theorem own_d3_8 : decode prog_16_method_2_code 8 = .ok (.getfield 7, 3) := by decide +kernel
theorem own_d3_11 : decode prog_16_method_2_code 11 = .ok (.instanceof 13, 3) := by decide +kernel
theorem own_d3_14 : decode prog_16_method_2_code 14 = .ok (.ifCond .ne 17, 3) := by decide +kernel
theorem own_ef_rm_pend_F (m : MethodId) (a1 : Addr) : entryFrame m #[(.ref a1)] 1 = mkF m 0 #[.val (.ref a1)] [] := by first | (simp [entryFrame, mkF, argsToLocals, Value.category]; done) | rfl
def Q_rm_pend_F (Z : State) (a1 : Addr) (bq : Addr) (h0 : Heap) (n0 : Nat) (v : Option Value) (h : Heap) (L : List Loc) : Prop := v = some (.int (0 : Int32)) ∧ Fr n0 L ∧ h = h0
set_option maxRecDepth 65536 in
set_option maxHeartbeats 40000000 in
theorem rm_pend_F (l : Launch) (Z : State) (a0 : Array Value) (hw : ∀ d ∈ tables_1, d.before a0 Z = true) (ws : List Jvm.Cond) (a1 : Addr) (bq : Addr) (h0 : Heap) (n0 : Nat) (O0 : Old Z n0 h0) (F1 : Fld Z h0 a1 "com/example/tandemwick/tandemwick/FutureState$Special" "content" "Ljava/lang/Object;" (.ref bq)) (E1 : Exa Z h0 bq "com/example/tandemwick/tandemwick/FutureState$Failure") :
    MetFree l (⟨"com/example/tandemwick/tandemwick/FutureState$Special", "isPending", "()Z"⟩ : MethodName) (head1 (Jvm.Cond.code (⟨"com/example/tandemwick/tandemwick/FutureState$Special", "isPending", "()Z"⟩ : MethodName) prog_16_method_2_code 1 (some .boolean) :: ws) ({ frames := 0, cells := 0, slots := 0, locals := 0 } : Room)) (fun a U => a = #[(.ref a1)] ∧ Z.Warmed39 U.vm ∧ U.heap = h0) (fun _ _ _ _ _ => True) (fun _ U o U' => ∃ v L, o = .returned v ∧ Q_rm_pend_F Z a1 bq h0 n0 v U'.heap L ∧ FrameEnd U o U' L ({ frames := 0, cells := 0, slots := 0, locals := 0 } : Room).cells ({ frames := 0, cells := 0, slots := 0, locals := 0 } : Room).slots) := by
  refine MetFree.of_bodySF (plainFor_of_name own_pn0) hisR ?_
  intro p e s m args below meth c s₁ Bd hml0 hP hK
  obtain ⟨rfl, hZ, hh⟩ := hP
  have hx := Bd.exec
  have hby := Bd.bytes
  have hml : c.maxLocals = 1 := hml0
  have hown : s.vm.findClass "com/example/tandemwick/tandemwick/FutureState$Special" = some m.cls := findClass_of_methodNamed Bd.named
  have hnm := (name_of_methodNamed Bd.named Bd.method).1
  have hlk : meth.locks = false := Bd.notSynchronized
  have X0 : Stand p l e ({ frames := 0, cells := 0, slots := 0, locals := 0 } : Room) s m #[(.ref a1)] below meth c s₁ [] 0 0 := Stand.of_body Bd
  have e0 : s₁.heap = h0 := by rw [← hh, Bd.state]; rfl
  have N0 := Fr.nil n0
  suffices hgo : own_Ok p e below (own_Qx s (Q_rm_pend_F Z a1 bq h0 n0) 0 0) (s₁.setTop (mkF m 0 #[.val (.ref a1)] [])) from by
    obtain ⟨s₂, o, h1, h2⟩ := hgo
    exact ⟨s₂, o, castTop (own_ef_rm_pend_F m a1) h1, h2⟩
  show own_Ok p e below _ (s₁.setTop (mkF m 0 #[.val (.ref a1)] []))
  refine own_st (fun _ k => XS.aloadN X0.here hx rfl (hb hby own_d3_0) rfl rfl k) ?_
  show own_Ok p e below _ (s₁.setTop (mkF m 1 #[.val (.ref a1)] [(.ref a1)]))
  obtain ⟨T101, X101, e101, st101⟩ := getF X0 hx hZ hown (host := "") (Or.inl (hw _ (List.mem_of_getElem? (i := 9) rfl))) Via.refl e0 F1 (g := (mkF m 1 #[.val (.ref a1)] [(.ref a1)])) rfl rfl (hb hby own_d3_1)
  refine own_st st101 ?_
  show own_Ok p e below _ (T101.setTop (mkF m 4 #[.val (.ref a1)] [(.ref bq)]))
  refine own_st (fun _ k => XS.ifnullNo X101.here hx rfl (hb hby own_d3_4) rfl k) ?_
  show own_Ok p e below _ (T101.setTop (mkF m 7 #[.val (.ref a1)] []))
  refine own_st (fun _ k => XS.aloadN X101.here hx rfl (hb hby own_d3_7) rfl rfl k) ?_
  show own_Ok p e below _ (T101.setTop (mkF m 8 #[.val (.ref a1)] [(.ref a1)]))
  obtain ⟨T102, X102, e102, st102⟩ := getF X101 hx hZ hown (host := "") (Or.inl (hw _ (List.mem_of_getElem? (i := 9) rfl))) Via.refl e101 F1 (g := (mkF m 8 #[.val (.ref a1)] [(.ref a1)])) rfl rfl (hb hby own_d3_8)
  refine own_st st102 ?_
  show own_Ok p e below _ (T102.setTop (mkF m 11 #[.val (.ref a1)] [(.ref bq)]))
  obtain ⟨T103, X103, e103, st103⟩ := instY X102 hx hZ hown (hw _ (List.mem_of_getElem? (i := 16) rfl)) e102 (Ins.self E1) (g := (mkF m 11 #[.val (.ref a1)] [(.ref bq)])) rfl rfl (hb hby own_d3_11)
  refine own_st st103 ?_
  show own_Ok p e below _ (T103.setTop (mkF m 14 #[.val (.ref a1)] [(.int (1 : Int32))]))
  refine own_st (fun _ k => XS.ifYes X103.here hx rfl (pc0 := 14) (pc' := 31) rfl (hb hby own_d3_14) rfl (XT.i0_ne_t (by decide)) (by decide) (by decide) k) ?_
  show own_Ok p e below _ (T103.setTop (mkF m 31 #[.val (.ref a1)] []))
  refine own_st (fun _ k => XS.iconst X103.here hx rfl (hb hby own_d3_31) k) ?_
  show own_Ok p e below _ (T103.setTop (mkF m 32 #[.val (.ref a1)] [(.int (0 : Int32))]))
  exact own_retN X103 hx hlk (t := .boolean) Bd.returns (by simp) (hb hby own_d3_32) (by rw [e103]; exact ⟨rfl, N0, rfl⟩) (by decide) (by decide)
theorem own_d3_17 : decode prog_16_method_2_code 17 = .ok (.aload_n 0, 1) := by decide +kernel
theorem own_d3_18 : decode prog_16_method_2_code 18 = .ok (.getfield 7, 3) := by decide +kernel
theorem own_d3_21 : decode prog_16_method_2_code 21 = .ok (.instanceof 15, 3) := by decide +kernel
theorem own_d3_24 : decode prog_16_method_2_code 24 = .ok (.ifCond .ne 7, 3) := by decide +kernel
theorem own_ef_rm_pend_C (m : MethodId) (a1 : Addr) : entryFrame m #[(.ref a1)] 1 = mkF m 0 #[.val (.ref a1)] [] := by first | (simp [entryFrame, mkF, argsToLocals, Value.category]; done) | rfl
def Q_rm_pend_C (Z : State) (a1 : Addr) (bq : Addr) (h0 : Heap) (n0 : Nat) (v : Option Value) (h : Heap) (L : List Loc) : Prop := v = some (.int (0 : Int32)) ∧ Fr n0 L ∧ h = h0
set_option maxRecDepth 65536 in
set_option maxHeartbeats 40000000 in
theorem rm_pend_C (l : Launch) (Z : State) (a0 : Array Value) (hw : ∀ d ∈ tables_1, d.before a0 Z = true) (ws : List Jvm.Cond) (a1 : Addr) (bq : Addr) (h0 : Heap) (n0 : Nat) (O0 : Old Z n0 h0) (F1 : Fld Z h0 a1 "com/example/tandemwick/tandemwick/FutureState$Special" "content" "Ljava/lang/Object;" (.ref bq)) (E1 : Exa Z h0 bq "com/example/tandemwick/tandemwick/FutureState$Cancellation") :
    MetFree l (⟨"com/example/tandemwick/tandemwick/FutureState$Special", "isPending", "()Z"⟩ : MethodName) (head1 (Jvm.Cond.code (⟨"com/example/tandemwick/tandemwick/FutureState$Special", "isPending", "()Z"⟩ : MethodName) prog_16_method_2_code 1 (some .boolean) :: ws) ({ frames := 0, cells := 0, slots := 0, locals := 0 } : Room)) (fun a U => a = #[(.ref a1)] ∧ Z.Warmed39 U.vm ∧ U.heap = h0) (fun _ _ _ _ _ => True) (fun _ U o U' => ∃ v L, o = .returned v ∧ Q_rm_pend_C Z a1 bq h0 n0 v U'.heap L ∧ FrameEnd U o U' L ({ frames := 0, cells := 0, slots := 0, locals := 0 } : Room).cells ({ frames := 0, cells := 0, slots := 0, locals := 0 } : Room).slots) := by
  refine MetFree.of_bodySF (plainFor_of_name own_pn0) hisR ?_
  intro p e s m args below meth c s₁ Bd hml0 hP hK
  obtain ⟨rfl, hZ, hh⟩ := hP
  have hx := Bd.exec
  have hby := Bd.bytes
  have hml : c.maxLocals = 1 := hml0
  have hown : s.vm.findClass "com/example/tandemwick/tandemwick/FutureState$Special" = some m.cls := findClass_of_methodNamed Bd.named
  have hnm := (name_of_methodNamed Bd.named Bd.method).1
  have hlk : meth.locks = false := Bd.notSynchronized
  have X0 : Stand p l e ({ frames := 0, cells := 0, slots := 0, locals := 0 } : Room) s m #[(.ref a1)] below meth c s₁ [] 0 0 := Stand.of_body Bd
  have e0 : s₁.heap = h0 := by rw [← hh, Bd.state]; rfl
  have N0 := Fr.nil n0
  suffices hgo : own_Ok p e below (own_Qx s (Q_rm_pend_C Z a1 bq h0 n0) 0 0) (s₁.setTop (mkF m 0 #[.val (.ref a1)] [])) from by
    obtain ⟨s₂, o, h1, h2⟩ := hgo
    exact ⟨s₂, o, castTop (own_ef_rm_pend_C m a1) h1, h2⟩
  show own_Ok p e below _ (s₁.setTop (mkF m 0 #[.val (.ref a1)] []))
  refine own_st (fun _ k => XS.aloadN X0.here hx rfl (hb hby own_d3_0) rfl rfl k) ?_
  show own_Ok p e below _ (s₁.setTop (mkF m 1 #[.val (.ref a1)] [(.ref a1)]))
  obtain ⟨T101, X101, e101, st101⟩ := getF X0 hx hZ hown (host := "") (Or.inl (hw _ (List.mem_of_getElem? (i := 9) rfl))) Via.refl e0 F1 (g := (mkF m 1 #[.val (.ref a1)] [(.ref a1)])) rfl rfl (hb hby own_d3_1)
  refine own_st st101 ?_
  show own_Ok p e below _ (T101.setTop (mkF m 4 #[.val (.ref a1)] [(.ref bq)]))
  refine own_st (fun _ k => XS.ifnullNo X101.here hx rfl (hb hby own_d3_4) rfl k) ?_
  show own_Ok p e below _ (T101.setTop (mkF m 7 #[.val (.ref a1)] []))
  refine own_st (fun _ k => XS.aloadN X101.here hx rfl (hb hby own_d3_7) rfl rfl k) ?_
  show own_Ok p e below _ (T101.setTop (mkF m 8 #[.val (.ref a1)] [(.ref a1)]))
  obtain ⟨T102, X102, e102, st102⟩ := getF X101 hx hZ hown (host := "") (Or.inl (hw _ (List.mem_of_getElem? (i := 9) rfl))) Via.refl e101 F1 (g := (mkF m 8 #[.val (.ref a1)] [(.ref a1)])) rfl rfl (hb hby own_d3_8)
  refine own_st st102 ?_
  show own_Ok p e below _ (T102.setTop (mkF m 11 #[.val (.ref a1)] [(.ref bq)]))
  obtain ⟨T103, X103, e103, st103⟩ := instNo X102 hx hZ hown (hw _ (List.mem_of_getElem? (i := 16) rfl)) e102 E1 (own_NSno (hw _ (List.mem_of_getElem? (i := 97) rfl)) (hw _ (List.mem_of_getElem? (i := 50) rfl)) (NS.step (hw _ (List.mem_of_getElem? (i := 97) rfl)) (own_NSroot (hw _ (List.mem_of_getElem? (i := 18) rfl)) (hw _ (List.mem_of_getElem? (i := 50) rfl)) (by decide)) (by decide)) (by decide)) (g := (mkF m 11 #[.val (.ref a1)] [(.ref bq)])) rfl rfl (hb hby own_d3_11)
  refine own_st st103 ?_
  show own_Ok p e below _ (T103.setTop (mkF m 14 #[.val (.ref a1)] [(.int (0 : Int32))]))
  refine own_st (fun _ k => XS.ifNo X103.here hx rfl (hb hby own_d3_14) rfl (XT.i0_ne_f (by decide)) k) ?_
  show own_Ok p e below _ (T103.setTop (mkF m 17 #[.val (.ref a1)] []))
  refine own_st (fun _ k => XS.aloadN X103.here hx rfl (hb hby own_d3_17) rfl rfl k) ?_
  show own_Ok p e below _ (T103.setTop (mkF m 18 #[.val (.ref a1)] [(.ref a1)]))
  obtain ⟨T104, X104, e104, st104⟩ := getF X103 hx hZ hown (host := "") (Or.inl (hw _ (List.mem_of_getElem? (i := 9) rfl))) Via.refl e103 F1 (g := (mkF m 18 #[.val (.ref a1)] [(.ref a1)])) rfl rfl (hb hby own_d3_18)
  refine own_st st104 ?_
  show own_Ok p e below _ (T104.setTop (mkF m 21 #[.val (.ref a1)] [(.ref bq)]))
  obtain ⟨T105, X105, e105, st105⟩ := instY X104 hx hZ hown (hw _ (List.mem_of_getElem? (i := 19) rfl)) e104 (Ins.self E1) (g := (mkF m 21 #[.val (.ref a1)] [(.ref bq)])) rfl rfl (hb hby own_d3_21)
  refine own_st st105 ?_
  show own_Ok p e below _ (T105.setTop (mkF m 24 #[.val (.ref a1)] [(.int (1 : Int32))]))
  refine own_st (fun _ k => XS.ifYes X105.here hx rfl (pc0 := 24) (pc' := 31) rfl (hb hby own_d3_24) rfl (XT.i0_ne_t (by decide)) (by decide) (by decide) k) ?_
  show own_Ok p e below _ (T105.setTop (mkF m 31 #[.val (.ref a1)] []))
  refine own_st (fun _ k => XS.iconst X105.here hx rfl (hb hby own_d3_31) k) ?_
  show own_Ok p e below _ (T105.setTop (mkF m 32 #[.val (.ref a1)] [(.int (0 : Int32))]))
  exact own_retN X105 hx hlk (t := .boolean) Bd.returns (by simp) (hb hby own_d3_32) (by rw [e105]; exact ⟨rfl, N0, rfl⟩) (by decide) (by decide)
theorem own_d3_27 : decode prog_16_method_2_code 27 = .ok (.iconst 1, 1) := by decide +kernel
theorem own_d3_28 : decode prog_16_method_2_code 28 = .ok (.goto 4, 3) := by decide +kernel
theorem own_ef_rm_pend_I (m : MethodId) (a1 : Addr) : entryFrame m #[(.ref a1)] 1 = mkF m 0 #[.val (.ref a1)] [] := by first | (simp [entryFrame, mkF, argsToLocals, Value.category]; done) | rfl
def Q_rm_pend_I (Z : State) (a1 : Addr) (bq : Addr) (h0 : Heap) (n0 : Nat) (v : Option Value) (h : Heap) (L : List Loc) : Prop := v = some (.int (1 : Int32)) ∧ Fr n0 L ∧ h = h0
set_option maxRecDepth 65536 in
set_option maxHeartbeats 40000000 in
theorem rm_pend_I (l : Launch) (Z : State) (a0 : Array Value) (hw : ∀ d ∈ tables_1, d.before a0 Z = true) (ws : List Jvm.Cond) (a1 : Addr) (bq : Addr) (h0 : Heap) (n0 : Nat) (O0 : Old Z n0 h0) (F1 : Fld Z h0 a1 "com/example/tandemwick/tandemwick/FutureState$Special" "content" "Ljava/lang/Object;" (.ref bq)) (E1 : Exa Z h0 bq "java/lang/Integer") :
    MetFree l (⟨"com/example/tandemwick/tandemwick/FutureState$Special", "isPending", "()Z"⟩ : MethodName) (head1 (Jvm.Cond.code (⟨"com/example/tandemwick/tandemwick/FutureState$Special", "isPending", "()Z"⟩ : MethodName) prog_16_method_2_code 1 (some .boolean) :: ws) ({ frames := 0, cells := 0, slots := 0, locals := 0 } : Room)) (fun a U => a = #[(.ref a1)] ∧ Z.Warmed39 U.vm ∧ U.heap = h0) (fun _ _ _ _ _ => True) (fun _ U o U' => ∃ v L, o = .returned v ∧ Q_rm_pend_I Z a1 bq h0 n0 v U'.heap L ∧ FrameEnd U o U' L ({ frames := 0, cells := 0, slots := 0, locals := 0 } : Room).cells ({ frames := 0, cells := 0, slots := 0, locals := 0 } : Room).slots) := by
  refine MetFree.of_bodySF (plainFor_of_name own_pn0) hisR ?_
  intro p e s m args below meth c s₁ Bd hml0 hP hK
  obtain ⟨rfl, hZ, hh⟩ := hP
  have hx := Bd.exec
  have hby := Bd.bytes
  have hml : c.maxLocals = 1 := hml0
  have hown : s.vm.findClass "com/example/tandemwick/tandemwick/FutureState$Special" = some m.cls := findClass_of_methodNamed Bd.named
  have hnm := (name_of_methodNamed Bd.named Bd.method).1
  have hlk : meth.locks = false := Bd.notSynchronized
  have X0 : Stand p l e ({ frames := 0, cells := 0, slots := 0, locals := 0 } : Room) s m #[(.ref a1)] below meth c s₁ [] 0 0 := Stand.of_body Bd
  have e0 : s₁.heap = h0 := by rw [← hh, Bd.state]; rfl
  have N0 := Fr.nil n0
  suffices hgo : own_Ok p e below (own_Qx s (Q_rm_pend_I Z a1 bq h0 n0) 0 0) (s₁.setTop (mkF m 0 #[.val (.ref a1)] [])) from by
    obtain ⟨s₂, o, h1, h2⟩ := hgo
    exact ⟨s₂, o, castTop (own_ef_rm_pend_I m a1) h1, h2⟩
  show own_Ok p e below _ (s₁.setTop (mkF m 0 #[.val (.ref a1)] []))
  refine own_st (fun _ k => XS.aloadN X0.here hx rfl (hb hby own_d3_0) rfl rfl k) ?_
  show own_Ok p e below _ (s₁.setTop (mkF m 1 #[.val (.ref a1)] [(.ref a1)]))
  obtain ⟨T101, X101, e101, st101⟩ := getF X0 hx hZ hown (host := "") (Or.inl (hw _ (List.mem_of_getElem? (i := 9) rfl))) Via.refl e0 F1 (g := (mkF m 1 #[.val (.ref a1)] [(.ref a1)])) rfl rfl (hb hby own_d3_1)
  refine own_st st101 ?_
  show own_Ok p e below _ (T101.setTop (mkF m 4 #[.val (.ref a1)] [(.ref bq)]))
  refine own_st (fun _ k => XS.ifnullNo X101.here hx rfl (hb hby own_d3_4) rfl k) ?_
  show own_Ok p e below _ (T101.setTop (mkF m 7 #[.val (.ref a1)] []))
  refine own_st (fun _ k => XS.aloadN X101.here hx rfl (hb hby own_d3_7) rfl rfl k) ?_
  show own_Ok p e below _ (T101.setTop (mkF m 8 #[.val (.ref a1)] [(.ref a1)]))
  obtain ⟨T102, X102, e102, st102⟩ := getF X101 hx hZ hown (host := "") (Or.inl (hw _ (List.mem_of_getElem? (i := 9) rfl))) Via.refl e101 F1 (g := (mkF m 8 #[.val (.ref a1)] [(.ref a1)])) rfl rfl (hb hby own_d3_8)
  refine own_st st102 ?_
  show own_Ok p e below _ (T102.setTop (mkF m 11 #[.val (.ref a1)] [(.ref bq)]))
  obtain ⟨T103, X103, e103, st103⟩ := instNo X102 hx hZ hown (hw _ (List.mem_of_getElem? (i := 16) rfl)) e102 E1 (own_NSno (hw _ (List.mem_of_getElem? (i := 88) rfl)) (hw _ (List.mem_of_getElem? (i := 50) rfl)) (NS.step (hw _ (List.mem_of_getElem? (i := 88) rfl)) (NS.step (hw _ (List.mem_of_getElem? (i := 80) rfl)) (own_NSroot (hw _ (List.mem_of_getElem? (i := 18) rfl)) (hw _ (List.mem_of_getElem? (i := 50) rfl)) (by decide)) (by decide)) (by decide)) (by decide)) (g := (mkF m 11 #[.val (.ref a1)] [(.ref bq)])) rfl rfl (hb hby own_d3_11)
  refine own_st st103 ?_
  show own_Ok p e below _ (T103.setTop (mkF m 14 #[.val (.ref a1)] [(.int (0 : Int32))]))
  refine own_st (fun _ k => XS.ifNo X103.here hx rfl (hb hby own_d3_14) rfl (XT.i0_ne_f (by decide)) k) ?_
  show own_Ok p e below _ (T103.setTop (mkF m 17 #[.val (.ref a1)] []))
  refine own_st (fun _ k => XS.aloadN X103.here hx rfl (hb hby own_d3_17) rfl rfl k) ?_
  show own_Ok p e below _ (T103.setTop (mkF m 18 #[.val (.ref a1)] [(.ref a1)]))
  obtain ⟨T104, X104, e104, st104⟩ := getF X103 hx hZ hown (host := "") (Or.inl (hw _ (List.mem_of_getElem? (i := 9) rfl))) Via.refl e103 F1 (g := (mkF m 18 #[.val (.ref a1)] [(.ref a1)])) rfl rfl (hb hby own_d3_18)
  refine own_st st104 ?_
  show own_Ok p e below _ (T104.setTop (mkF m 21 #[.val (.ref a1)] [(.ref bq)]))
  obtain ⟨T105, X105, e105, st105⟩ := instNo X104 hx hZ hown (hw _ (List.mem_of_getElem? (i := 19) rfl)) e104 E1 (own_NSno (hw _ (List.mem_of_getElem? (i := 88) rfl)) (hw _ (List.mem_of_getElem? (i := 91) rfl)) (NS.step (hw _ (List.mem_of_getElem? (i := 88) rfl)) (NS.step (hw _ (List.mem_of_getElem? (i := 80) rfl)) (own_NSroot (hw _ (List.mem_of_getElem? (i := 18) rfl)) (hw _ (List.mem_of_getElem? (i := 91) rfl)) (by decide)) (by decide)) (by decide)) (by decide)) (g := (mkF m 21 #[.val (.ref a1)] [(.ref bq)])) rfl rfl (hb hby own_d3_21)
  refine own_st st105 ?_
  show own_Ok p e below _ (T105.setTop (mkF m 24 #[.val (.ref a1)] [(.int (0 : Int32))]))
  refine own_st (fun _ k => XS.ifNo X105.here hx rfl (hb hby own_d3_24) rfl (XT.i0_ne_f (by decide)) k) ?_
  show own_Ok p e below _ (T105.setTop (mkF m 27 #[.val (.ref a1)] []))
  refine own_st (fun _ k => XS.iconst X105.here hx rfl (hb hby own_d3_27) k) ?_
  show own_Ok p e below _ (T105.setTop (mkF m 28 #[.val (.ref a1)] [(.int (1 : Int32))]))
  refine own_st (fun _ k => XS.goto X105.here hx rfl (pc0 := 28) (pc' := 32) rfl (hb hby own_d3_28) (by decide) (by decide) k) ?_
  show own_Ok p e below _ (T105.setTop (mkF m 32 #[.val (.ref a1)] [(.int (1 : Int32))]))
  exact own_retN X105 hx hlk (t := .boolean) Bd.returns (by simp) (hb hby own_d3_32) (by rw [e105]; exact ⟨rfl, N0, rfl⟩) (by decide) (by decide)
theorem own_ef_rm_pend_S (m : MethodId) (a1 : Addr) : entryFrame m #[(.ref a1)] 1 = mkF m 0 #[.val (.ref a1)] [] := by first | (simp [entryFrame, mkF, argsToLocals, Value.category]; done) | rfl
def Q_rm_pend_S (Z : State) (a1 : Addr) (bq : Addr) (h0 : Heap) (n0 : Nat) (v : Option Value) (h : Heap) (L : List Loc) : Prop := v = some (.int (1 : Int32)) ∧ Fr n0 L ∧ h = h0
set_option maxRecDepth 65536 in
set_option maxHeartbeats 40000000 in
theorem rm_pend_S (l : Launch) (Z : State) (a0 : Array Value) (hw : ∀ d ∈ tables_1, d.before a0 Z = true) (ws : List Jvm.Cond) (a1 : Addr) (bq : Addr) (h0 : Heap) (n0 : Nat) (O0 : Old Z n0 h0) (F1 : Fld Z h0 a1 "com/example/tandemwick/tandemwick/FutureState$Special" "content" "Ljava/lang/Object;" (.ref bq)) (E1 : Exa Z h0 bq "java/lang/String") :
    MetFree l (⟨"com/example/tandemwick/tandemwick/FutureState$Special", "isPending", "()Z"⟩ : MethodName) (head1 (Jvm.Cond.code (⟨"com/example/tandemwick/tandemwick/FutureState$Special", "isPending", "()Z"⟩ : MethodName) prog_16_method_2_code 1 (some .boolean) :: ws) ({ frames := 0, cells := 0, slots := 0, locals := 0 } : Room)) (fun a U => a = #[(.ref a1)] ∧ Z.Warmed39 U.vm ∧ U.heap = h0) (fun _ _ _ _ _ => True) (fun _ U o U' => ∃ v L, o = .returned v ∧ Q_rm_pend_S Z a1 bq h0 n0 v U'.heap L ∧ FrameEnd U o U' L ({ frames := 0, cells := 0, slots := 0, locals := 0 } : Room).cells ({ frames := 0, cells := 0, slots := 0, locals := 0 } : Room).slots) := by
  refine MetFree.of_bodySF (plainFor_of_name own_pn0) hisR ?_
  intro p e s m args below meth c s₁ Bd hml0 hP hK
  obtain ⟨rfl, hZ, hh⟩ := hP
  have hx := Bd.exec
  have hby := Bd.bytes
  have hml : c.maxLocals = 1 := hml0
  have hown : s.vm.findClass "com/example/tandemwick/tandemwick/FutureState$Special" = some m.cls := findClass_of_methodNamed Bd.named
  have hnm := (name_of_methodNamed Bd.named Bd.method).1
  have hlk : meth.locks = false := Bd.notSynchronized
  have X0 : Stand p l e ({ frames := 0, cells := 0, slots := 0, locals := 0 } : Room) s m #[(.ref a1)] below meth c s₁ [] 0 0 := Stand.of_body Bd
  have e0 : s₁.heap = h0 := by rw [← hh, Bd.state]; rfl
  have N0 := Fr.nil n0
  suffices hgo : own_Ok p e below (own_Qx s (Q_rm_pend_S Z a1 bq h0 n0) 0 0) (s₁.setTop (mkF m 0 #[.val (.ref a1)] [])) from by
    obtain ⟨s₂, o, h1, h2⟩ := hgo
    exact ⟨s₂, o, castTop (own_ef_rm_pend_S m a1) h1, h2⟩
  show own_Ok p e below _ (s₁.setTop (mkF m 0 #[.val (.ref a1)] []))
  refine own_st (fun _ k => XS.aloadN X0.here hx rfl (hb hby own_d3_0) rfl rfl k) ?_
  show own_Ok p e below _ (s₁.setTop (mkF m 1 #[.val (.ref a1)] [(.ref a1)]))
  obtain ⟨T101, X101, e101, st101⟩ := getF X0 hx hZ hown (host := "") (Or.inl (hw _ (List.mem_of_getElem? (i := 9) rfl))) Via.refl e0 F1 (g := (mkF m 1 #[.val (.ref a1)] [(.ref a1)])) rfl rfl (hb hby own_d3_1)
  refine own_st st101 ?_
  show own_Ok p e below _ (T101.setTop (mkF m 4 #[.val (.ref a1)] [(.ref bq)]))
  refine own_st (fun _ k => XS.ifnullNo X101.here hx rfl (hb hby own_d3_4) rfl k) ?_
  show own_Ok p e below _ (T101.setTop (mkF m 7 #[.val (.ref a1)] []))
  refine own_st (fun _ k => XS.aloadN X101.here hx rfl (hb hby own_d3_7) rfl rfl k) ?_
  show own_Ok p e below _ (T101.setTop (mkF m 8 #[.val (.ref a1)] [(.ref a1)]))
  obtain ⟨T102, X102, e102, st102⟩ := getF X101 hx hZ hown (host := "") (Or.inl (hw _ (List.mem_of_getElem? (i := 9) rfl))) Via.refl e101 F1 (g := (mkF m 8 #[.val (.ref a1)] [(.ref a1)])) rfl rfl (hb hby own_d3_8)
  refine own_st st102 ?_
  show own_Ok p e below _ (T102.setTop (mkF m 11 #[.val (.ref a1)] [(.ref bq)]))
  obtain ⟨T103, X103, e103, st103⟩ := instNo X102 hx hZ hown (hw _ (List.mem_of_getElem? (i := 16) rfl)) e102 E1 (own_NSno (hw _ (List.mem_of_getElem? (i := 48) rfl)) (hw _ (List.mem_of_getElem? (i := 50) rfl)) (NS.step (hw _ (List.mem_of_getElem? (i := 48) rfl)) (own_NSroot (hw _ (List.mem_of_getElem? (i := 18) rfl)) (hw _ (List.mem_of_getElem? (i := 50) rfl)) (by decide)) (by decide)) (by decide)) (g := (mkF m 11 #[.val (.ref a1)] [(.ref bq)])) rfl rfl (hb hby own_d3_11)
  refine own_st st103 ?_
  show own_Ok p e below _ (T103.setTop (mkF m 14 #[.val (.ref a1)] [(.int (0 : Int32))]))
  refine own_st (fun _ k => XS.ifNo X103.here hx rfl (hb hby own_d3_14) rfl (XT.i0_ne_f (by decide)) k) ?_
  show own_Ok p e below _ (T103.setTop (mkF m 17 #[.val (.ref a1)] []))
  refine own_st (fun _ k => XS.aloadN X103.here hx rfl (hb hby own_d3_17) rfl rfl k) ?_
  show own_Ok p e below _ (T103.setTop (mkF m 18 #[.val (.ref a1)] [(.ref a1)]))
  obtain ⟨T104, X104, e104, st104⟩ := getF X103 hx hZ hown (host := "") (Or.inl (hw _ (List.mem_of_getElem? (i := 9) rfl))) Via.refl e103 F1 (g := (mkF m 18 #[.val (.ref a1)] [(.ref a1)])) rfl rfl (hb hby own_d3_18)
  refine own_st st104 ?_
  show own_Ok p e below _ (T104.setTop (mkF m 21 #[.val (.ref a1)] [(.ref bq)]))
  obtain ⟨T105, X105, e105, st105⟩ := instNo X104 hx hZ hown (hw _ (List.mem_of_getElem? (i := 19) rfl)) e104 E1 (own_NSno (hw _ (List.mem_of_getElem? (i := 48) rfl)) (hw _ (List.mem_of_getElem? (i := 91) rfl)) (NS.step (hw _ (List.mem_of_getElem? (i := 48) rfl)) (own_NSroot (hw _ (List.mem_of_getElem? (i := 18) rfl)) (hw _ (List.mem_of_getElem? (i := 91) rfl)) (by decide)) (by decide)) (by decide)) (g := (mkF m 21 #[.val (.ref a1)] [(.ref bq)])) rfl rfl (hb hby own_d3_21)
  refine own_st st105 ?_
  show own_Ok p e below _ (T105.setTop (mkF m 24 #[.val (.ref a1)] [(.int (0 : Int32))]))
  refine own_st (fun _ k => XS.ifNo X105.here hx rfl (hb hby own_d3_24) rfl (XT.i0_ne_f (by decide)) k) ?_
  show own_Ok p e below _ (T105.setTop (mkF m 27 #[.val (.ref a1)] []))
  refine own_st (fun _ k => XS.iconst X105.here hx rfl (hb hby own_d3_27) k) ?_
  show own_Ok p e below _ (T105.setTop (mkF m 28 #[.val (.ref a1)] [(.int (1 : Int32))]))
  refine own_st (fun _ k => XS.goto X105.here hx rfl (pc0 := 28) (pc' := 32) rfl (hb hby own_d3_28) (by decide) (by decide) k) ?_
  show own_Ok p e below _ (T105.setTop (mkF m 32 #[.val (.ref a1)] [(.int (1 : Int32))]))
  exact own_retN X105 hx hlk (t := .boolean) Bd.returns (by simp) (hb hby own_d3_32) (by rw [e105]; exact ⟨rfl, N0, rfl⟩) (by decide) (by decide)
theorem own_ef_rm_pend_P (m : MethodId) (a1 : Addr) : entryFrame m #[(.ref a1)] 1 = mkF m 0 #[.val (.ref a1)] [] := by first | (simp [entryFrame, mkF, argsToLocals, Value.category]; done) | rfl
def Q_rm_pend_P (Z : State) (a1 : Addr) (bq : Addr) (h0 : Heap) (n0 : Nat) (v : Option Value) (h : Heap) (L : List Loc) : Prop := v = some (.int (1 : Int32)) ∧ Fr n0 L ∧ h = h0
set_option maxRecDepth 65536 in
set_option maxHeartbeats 40000000 in
theorem rm_pend_P (l : Launch) (Z : State) (a0 : Array Value) (hw : ∀ d ∈ tables_1, d.before a0 Z = true) (ws : List Jvm.Cond) (a1 : Addr) (bq : Addr) (h0 : Heap) (n0 : Nat) (O0 : Old Z n0 h0) (F1 : Fld Z h0 a1 "com/example/tandemwick/tandemwick/FutureState$Special" "content" "Ljava/lang/Object;" (.ref bq)) (E1 : Exa Z h0 bq "com/example/tandemwick/tandemwick/FutureState$Special") :
    MetFree l (⟨"com/example/tandemwick/tandemwick/FutureState$Special", "isPending", "()Z"⟩ : MethodName) (head1 (Jvm.Cond.code (⟨"com/example/tandemwick/tandemwick/FutureState$Special", "isPending", "()Z"⟩ : MethodName) prog_16_method_2_code 1 (some .boolean) :: ws) ({ frames := 0, cells := 0, slots := 0, locals := 0 } : Room)) (fun a U => a = #[(.ref a1)] ∧ Z.Warmed39 U.vm ∧ U.heap = h0) (fun _ _ _ _ _ => True) (fun _ U o U' => ∃ v L, o = .returned v ∧ Q_rm_pend_P Z a1 bq h0 n0 v U'.heap L ∧ FrameEnd U o U' L ({ frames := 0, cells := 0, slots := 0, locals := 0 } : Room).cells ({ frames := 0, cells := 0, slots := 0, locals := 0 } : Room).slots) := by
  refine MetFree.of_bodySF (plainFor_of_name own_pn0) hisR ?_
  intro p e s m args below meth c s₁ Bd hml0 hP hK
  obtain ⟨rfl, hZ, hh⟩ := hP
  have hx := Bd.exec
  have hby := Bd.bytes
  have hml : c.maxLocals = 1 := hml0
  have hown : s.vm.findClass "com/example/tandemwick/tandemwick/FutureState$Special" = some m.cls := findClass_of_methodNamed Bd.named
  have hnm := (name_of_methodNamed Bd.named Bd.method).1
  have hlk : meth.locks = false := Bd.notSynchronized
  have X0 : Stand p l e ({ frames := 0, cells := 0, slots := 0, locals := 0 } : Room) s m #[(.ref a1)] below meth c s₁ [] 0 0 := Stand.of_body Bd
  have e0 : s₁.heap = h0 := by rw [← hh, Bd.state]; rfl
  have N0 := Fr.nil n0
  suffices hgo : own_Ok p e below (own_Qx s (Q_rm_pend_P Z a1 bq h0 n0) 0 0) (s₁.setTop (mkF m 0 #[.val (.ref a1)] [])) from by
    obtain ⟨s₂, o, h1, h2⟩ := hgo
    exact ⟨s₂, o, castTop (own_ef_rm_pend_P m a1) h1, h2⟩
  show own_Ok p e below _ (s₁.setTop (mkF m 0 #[.val (.ref a1)] []))
  refine own_st (fun _ k => XS.aloadN X0.here hx rfl (hb hby own_d3_0) rfl rfl k) ?_
  show own_Ok p e below _ (s₁.setTop (mkF m 1 #[.val (.ref a1)] [(.ref a1)]))
  obtain ⟨T101, X101, e101, st101⟩ := getF X0 hx hZ hown (host := "") (Or.inl (hw _ (List.mem_of_getElem? (i := 9) rfl))) Via.refl e0 F1 (g := (mkF m 1 #[.val (.ref a1)] [(.ref a1)])) rfl rfl (hb hby own_d3_1)
  refine own_st st101 ?_
  show own_Ok p e below _ (T101.setTop (mkF m 4 #[.val (.ref a1)] [(.ref bq)]))
  refine own_st (fun _ k => XS.ifnullNo X101.here hx rfl (hb hby own_d3_4) rfl k) ?_
  show own_Ok p e below _ (T101.setTop (mkF m 7 #[.val (.ref a1)] []))
  refine own_st (fun _ k => XS.aloadN X101.here hx rfl (hb hby own_d3_7) rfl rfl k) ?_
  show own_Ok p e below _ (T101.setTop (mkF m 8 #[.val (.ref a1)] [(.ref a1)]))
  obtain ⟨T102, X102, e102, st102⟩ := getF X101 hx hZ hown (host := "") (Or.inl (hw _ (List.mem_of_getElem? (i := 9) rfl))) Via.refl e101 F1 (g := (mkF m 8 #[.val (.ref a1)] [(.ref a1)])) rfl rfl (hb hby own_d3_8)
  refine own_st st102 ?_
  show own_Ok p e below _ (T102.setTop (mkF m 11 #[.val (.ref a1)] [(.ref bq)]))
  obtain ⟨T103, X103, e103, st103⟩ := instNo X102 hx hZ hown (hw _ (List.mem_of_getElem? (i := 16) rfl)) e102 E1 (own_NSno (hw _ (List.mem_of_getElem? (i := 17) rfl)) (hw _ (List.mem_of_getElem? (i := 50) rfl)) (NS.step (hw _ (List.mem_of_getElem? (i := 17) rfl)) (own_NSroot (hw _ (List.mem_of_getElem? (i := 18) rfl)) (hw _ (List.mem_of_getElem? (i := 50) rfl)) (by decide)) (by decide)) (by decide)) (g := (mkF m 11 #[.val (.ref a1)] [(.ref bq)])) rfl rfl (hb hby own_d3_11)
  refine own_st st103 ?_
  show own_Ok p e below _ (T103.setTop (mkF m 14 #[.val (.ref a1)] [(.int (0 : Int32))]))
  refine own_st (fun _ k => XS.ifNo X103.here hx rfl (hb hby own_d3_14) rfl (XT.i0_ne_f (by decide)) k) ?_
  show own_Ok p e below _ (T103.setTop (mkF m 17 #[.val (.ref a1)] []))
  refine own_st (fun _ k => XS.aloadN X103.here hx rfl (hb hby own_d3_17) rfl rfl k) ?_
  show own_Ok p e below _ (T103.setTop (mkF m 18 #[.val (.ref a1)] [(.ref a1)]))
  obtain ⟨T104, X104, e104, st104⟩ := getF X103 hx hZ hown (host := "") (Or.inl (hw _ (List.mem_of_getElem? (i := 9) rfl))) Via.refl e103 F1 (g := (mkF m 18 #[.val (.ref a1)] [(.ref a1)])) rfl rfl (hb hby own_d3_18)
  refine own_st st104 ?_
  show own_Ok p e below _ (T104.setTop (mkF m 21 #[.val (.ref a1)] [(.ref bq)]))
  obtain ⟨T105, X105, e105, st105⟩ := instNo X104 hx hZ hown (hw _ (List.mem_of_getElem? (i := 19) rfl)) e104 E1 (own_NSno (hw _ (List.mem_of_getElem? (i := 17) rfl)) (hw _ (List.mem_of_getElem? (i := 91) rfl)) (NS.step (hw _ (List.mem_of_getElem? (i := 17) rfl)) (own_NSroot (hw _ (List.mem_of_getElem? (i := 18) rfl)) (hw _ (List.mem_of_getElem? (i := 91) rfl)) (by decide)) (by decide)) (by decide)) (g := (mkF m 21 #[.val (.ref a1)] [(.ref bq)])) rfl rfl (hb hby own_d3_21)
  refine own_st st105 ?_
  show own_Ok p e below _ (T105.setTop (mkF m 24 #[.val (.ref a1)] [(.int (0 : Int32))]))
  refine own_st (fun _ k => XS.ifNo X105.here hx rfl (hb hby own_d3_24) rfl (XT.i0_ne_f (by decide)) k) ?_
  show own_Ok p e below _ (T105.setTop (mkF m 27 #[.val (.ref a1)] []))
  refine own_st (fun _ k => XS.iconst X105.here hx rfl (hb hby own_d3_27) k) ?_
  show own_Ok p e below _ (T105.setTop (mkF m 28 #[.val (.ref a1)] [(.int (1 : Int32))]))
  refine own_st (fun _ k => XS.goto X105.here hx rfl (pc0 := 28) (pc' := 32) rfl (hb hby own_d3_28) (by decide) (by decide) k) ?_
  show own_Ok p e below _ (T105.setTop (mkF m 32 #[.val (.ref a1)] [(.int (1 : Int32))]))
  exact own_retN X105 hx hlk (t := .boolean) Bd.returns (by simp) (hb hby own_d3_32) (by rw [e105]; exact ⟨rfl, N0, rfl⟩) (by decide) (by decide)
theorem own_ef_rm_pend_L (m : MethodId) (a1 : Addr) : entryFrame m #[(.ref a1)] 1 = mkF m 0 #[.val (.ref a1)] [] := by first | (simp [entryFrame, mkF, argsToLocals, Value.category]; done) | rfl
def Q_rm_pend_L (Z : State) (a1 : Addr) (bq : Addr) (h0 : Heap) (n0 : Nat) (v : Option Value) (h : Heap) (L : List Loc) : Prop := v = some (.int (1 : Int32)) ∧ Fr n0 L ∧ h = h0
set_option maxRecDepth 65536 in
set_option maxHeartbeats 40000000 in
theorem rm_pend_L (l : Launch) (Z : State) (a0 : Array Value) (hw : ∀ d ∈ tables_1, d.before a0 Z = true) (ws : List Jvm.Cond) (a1 : Addr) (bq : Addr) (h0 : Heap) (n0 : Nat) (O0 : Old Z n0 h0) (F1 : Fld Z h0 a1 "com/example/tandemwick/tandemwick/FutureState$Special" "content" "Ljava/lang/Object;" (.ref bq)) (E1 : Exa Z h0 bq "java/lang/Long") :
    MetFree l (⟨"com/example/tandemwick/tandemwick/FutureState$Special", "isPending", "()Z"⟩ : MethodName) (head1 (Jvm.Cond.code (⟨"com/example/tandemwick/tandemwick/FutureState$Special", "isPending", "()Z"⟩ : MethodName) prog_16_method_2_code 1 (some .boolean) :: ws) ({ frames := 0, cells := 0, slots := 0, locals := 0 } : Room)) (fun a U => a = #[(.ref a1)] ∧ Z.Warmed39 U.vm ∧ U.heap = h0) (fun _ _ _ _ _ => True) (fun _ U o U' => ∃ v L, o = .returned v ∧ Q_rm_pend_L Z a1 bq h0 n0 v U'.heap L ∧ FrameEnd U o U' L ({ frames := 0, cells := 0, slots := 0, locals := 0 } : Room).cells ({ frames := 0, cells := 0, slots := 0, locals := 0 } : Room).slots) := by
  refine MetFree.of_bodySF (plainFor_of_name own_pn0) hisR ?_
  intro p e s m args below meth c s₁ Bd hml0 hP hK
  obtain ⟨rfl, hZ, hh⟩ := hP
  have hx := Bd.exec
  have hby := Bd.bytes
  have hml : c.maxLocals = 1 := hml0
  have hown : s.vm.findClass "com/example/tandemwick/tandemwick/FutureState$Special" = some m.cls := findClass_of_methodNamed Bd.named
  have hnm := (name_of_methodNamed Bd.named Bd.method).1
  have hlk : meth.locks = false := Bd.notSynchronized
  have X0 : Stand p l e ({ frames := 0, cells := 0, slots := 0, locals := 0 } : Room) s m #[(.ref a1)] below meth c s₁ [] 0 0 := Stand.of_body Bd
  have e0 : s₁.heap = h0 := by rw [← hh, Bd.state]; rfl
  have N0 := Fr.nil n0
  suffices hgo : own_Ok p e below (own_Qx s (Q_rm_pend_L Z a1 bq h0 n0) 0 0) (s₁.setTop (mkF m 0 #[.val (.ref a1)] [])) from by
    obtain ⟨s₂, o, h1, h2⟩ := hgo
    exact ⟨s₂, o, castTop (own_ef_rm_pend_L m a1) h1, h2⟩
  show own_Ok p e below _ (s₁.setTop (mkF m 0 #[.val (.ref a1)] []))
  refine own_st (fun _ k => XS.aloadN X0.here hx rfl (hb hby own_d3_0) rfl rfl k) ?_
  show own_Ok p e below _ (s₁.setTop (mkF m 1 #[.val (.ref a1)] [(.ref a1)]))
  obtain ⟨T101, X101, e101, st101⟩ := getF X0 hx hZ hown (host := "") (Or.inl (hw _ (List.mem_of_getElem? (i := 9) rfl))) Via.refl e0 F1 (g := (mkF m 1 #[.val (.ref a1)] [(.ref a1)])) rfl rfl (hb hby own_d3_1)
  refine own_st st101 ?_
  show own_Ok p e below _ (T101.setTop (mkF m 4 #[.val (.ref a1)] [(.ref bq)]))
  refine own_st (fun _ k => XS.ifnullNo X101.here hx rfl (hb hby own_d3_4) rfl k) ?_
  show own_Ok p e below _ (T101.setTop (mkF m 7 #[.val (.ref a1)] []))
  refine own_st (fun _ k => XS.aloadN X101.here hx rfl (hb hby own_d3_7) rfl rfl k) ?_
  show own_Ok p e below _ (T101.setTop (mkF m 8 #[.val (.ref a1)] [(.ref a1)]))
  obtain ⟨T102, X102, e102, st102⟩ := getF X101 hx hZ hown (host := "") (Or.inl (hw _ (List.mem_of_getElem? (i := 9) rfl))) Via.refl e101 F1 (g := (mkF m 8 #[.val (.ref a1)] [(.ref a1)])) rfl rfl (hb hby own_d3_8)
  refine own_st st102 ?_
  show own_Ok p e below _ (T102.setTop (mkF m 11 #[.val (.ref a1)] [(.ref bq)]))
  obtain ⟨T103, X103, e103, st103⟩ := instNo X102 hx hZ hown (hw _ (List.mem_of_getElem? (i := 16) rfl)) e102 E1 (own_NSno (hw _ (List.mem_of_getElem? (i := 79) rfl)) (hw _ (List.mem_of_getElem? (i := 50) rfl)) (NS.step (hw _ (List.mem_of_getElem? (i := 79) rfl)) (NS.step (hw _ (List.mem_of_getElem? (i := 80) rfl)) (own_NSroot (hw _ (List.mem_of_getElem? (i := 18) rfl)) (hw _ (List.mem_of_getElem? (i := 50) rfl)) (by decide)) (by decide)) (by decide)) (by decide)) (g := (mkF m 11 #[.val (.ref a1)] [(.ref bq)])) rfl rfl (hb hby own_d3_11)
  refine own_st st103 ?_
  show own_Ok p e below _ (T103.setTop (mkF m 14 #[.val (.ref a1)] [(.int (0 : Int32))]))
  refine own_st (fun _ k => XS.ifNo X103.here hx rfl (hb hby own_d3_14) rfl (XT.i0_ne_f (by decide)) k) ?_
  show own_Ok p e below _ (T103.setTop (mkF m 17 #[.val (.ref a1)] []))
  refine own_st (fun _ k => XS.aloadN X103.here hx rfl (hb hby own_d3_17) rfl rfl k) ?_
  show own_Ok p e below _ (T103.setTop (mkF m 18 #[.val (.ref a1)] [(.ref a1)]))
  obtain ⟨T104, X104, e104, st104⟩ := getF X103 hx hZ hown (host := "") (Or.inl (hw _ (List.mem_of_getElem? (i := 9) rfl))) Via.refl e103 F1 (g := (mkF m 18 #[.val (.ref a1)] [(.ref a1)])) rfl rfl (hb hby own_d3_18)
  refine own_st st104 ?_
  show own_Ok p e below _ (T104.setTop (mkF m 21 #[.val (.ref a1)] [(.ref bq)]))
  obtain ⟨T105, X105, e105, st105⟩ := instNo X104 hx hZ hown (hw _ (List.mem_of_getElem? (i := 19) rfl)) e104 E1 (own_NSno (hw _ (List.mem_of_getElem? (i := 79) rfl)) (hw _ (List.mem_of_getElem? (i := 91) rfl)) (NS.step (hw _ (List.mem_of_getElem? (i := 79) rfl)) (NS.step (hw _ (List.mem_of_getElem? (i := 80) rfl)) (own_NSroot (hw _ (List.mem_of_getElem? (i := 18) rfl)) (hw _ (List.mem_of_getElem? (i := 91) rfl)) (by decide)) (by decide)) (by decide)) (by decide)) (g := (mkF m 21 #[.val (.ref a1)] [(.ref bq)])) rfl rfl (hb hby own_d3_21)
  refine own_st st105 ?_
  show own_Ok p e below _ (T105.setTop (mkF m 24 #[.val (.ref a1)] [(.int (0 : Int32))]))
  refine own_st (fun _ k => XS.ifNo X105.here hx rfl (hb hby own_d3_24) rfl (XT.i0_ne_f (by decide)) k) ?_
  show own_Ok p e below _ (T105.setTop (mkF m 27 #[.val (.ref a1)] []))
  refine own_st (fun _ k => XS.iconst X105.here hx rfl (hb hby own_d3_27) k) ?_
  show own_Ok p e below _ (T105.setTop (mkF m 28 #[.val (.ref a1)] [(.int (1 : Int32))]))
  refine own_st (fun _ k => XS.goto X105.here hx rfl (pc0 := 28) (pc' := 32) rfl (hb hby own_d3_28) (by decide) (by decide) k) ?_
  show own_Ok p e below _ (T105.setTop (mkF m 32 #[.val (.ref a1)] [(.int (1 : Int32))]))
  exact own_retN X105 hx hlk (t := .boolean) Bd.returns (by simp) (hb hby own_d3_32) (by rw [e105]; exact ⟨rfl, N0, rfl⟩) (by decide) (by decide)
theorem own_pd3 : parseMethodDescriptor "(Ljava/lang/Object;)V" = some ⟨[(.object "java/lang/Object")], none⟩ := by decide +kernel
theorem own_pd4 : parseMethodDescriptor "()Z" = some ⟨[], some .boolean⟩ := by decide +kernel
theorem own_pd5 : parseMethodDescriptor "(Ljava/lang/Throwable;)V" = some ⟨[(.object "java/lang/Throwable")], none⟩ := by decide +kernel
theorem own_pd6 : parseMethodDescriptor "(I)Ljava/lang/Integer;" = some ⟨[.int], some (.object "java/lang/Integer")⟩ := by decide +kernel
theorem own_pd7 : parseMethodDescriptor "([C)V" = some ⟨[(.array .char)], none⟩ := by decide +kernel
theorem own_pd8 : parseMethodDescriptor "(J)Ljava/lang/Long;" = some ⟨[.long], some (.object "java/lang/Long")⟩ := by decide +kernel
theorem own_ef_rm_law (m : MethodId) (xa : Int32) (xb : Int32) : entryFrame m #[(.int xa), (.int xb)] maxLocals = mkF m 0 #[.val (.int xa), .val (.int xb), .unset, .unset, .unset, .unset] [] := by first | (simp [entryFrame, mkF, argsToLocals, Value.category, maxLocals]; done) | rfl
def Q_rm_law (Z : State) (xa : Int32) (xb : Int32) (G1 : Int32) (cai : Addr) (cli : Cell) (cal : Addr) (cll : Cell) (h0 : Heap) (n0 : Nat) (v : Option Value) (h : Heap) (L : List Loc) : Prop := v = some (.int 1) ∧ Fr n0 L
theorem own_pn6 : plainName "com/example/tandemwick/tandemwick/SpecialIsPendingPinLaw" = true := by first | (simp [plainName, overriddenIn]; done) | decide +kernel
set_option maxRecDepth 65536 in
set_option maxHeartbeats 40000000 in
theorem rm_law (l : Launch) (Z : State) (a0 : Array Value) (hw : ∀ d ∈ tables_1, d.before a0 Z = true) (ws : List Jvm.Cond) (xa : Int32) (xb : Int32) (G1 : Int32) (cai : Addr) (cli : Cell) (cal : Addr) (cll : Cell) (h0 : Heap) (n0 : Nat) (O0 : Old Z n0 h0) (SG1 : Sta Z Z.heap "java/lang/String" "COMPACT_STRINGS" "Z" (.int G1)) (PG1 : ¬ (G1 = (0 : Int32))) (SHI : Sta Z Z.heap "java/lang/Integer$IntegerCache" "high" "I" (.int (127 : Int32))) (SCI : Sta Z Z.heap "java/lang/Integer$IntegerCache" "cache" "[Ljava/lang/Integer;" (.ref cai)) (CAI : Arr Z Z.heap cai cli (.object "java/lang/Integer")) (hszI : cli.slots.size = 256) (elI : ∀ i, i < 256 → ∃ x, cli.slots[i]? = some (.ref x) ∧ Exa Z Z.heap x "java/lang/Integer") (SCL : Sta Z Z.heap "java/lang/Long$LongCache" "cache" "[Ljava/lang/Long;" (.ref cal)) (CAL : Arr Z Z.heap cal cll (.object "java/lang/Long")) (hszL : cll.slots.size = 256) (elL : ∀ i, i < 256 → ∃ x, cll.slots[i]? = some (.ref x) ∧ Exa Z Z.heap x "java/lang/Long") :
    MetFree l x (head1 (Jvm.Cond.code x code maxLocals ret :: ws) room_1) (fun a U => a = #[(.int xa), (.int xb)] ∧ Z.Warmed39 U.vm ∧ U.heap = h0) (fun _ _ _ _ _ => True) (fun _ U o U' => ∃ v L, o = .returned v ∧ Q_rm_law Z xa xb G1 cai cli cal cll h0 n0 v U'.heap L ∧ FrameEnd U o U' L 4 7) := by
  refine MetFree.of_bodySF (plainFor_of_name own_pn6) hisR ?_
  intro p e s m args below meth c s₁ Bd hml0 hP hK
  obtain ⟨rfl, hZ, hh⟩ := hP
  have hx := Bd.exec
  have hby := Bd.bytes
  have hml : c.maxLocals = 6 := hml0
  have hown : s.vm.findClass "com/example/tandemwick/tandemwick/SpecialIsPendingPinLaw" = some m.cls := findClass_of_methodNamed Bd.named
  have hnm := (name_of_methodNamed Bd.named Bd.method).1
  have hlk : meth.locks = false := Bd.notSynchronized
  have X0 : Stand p l e room_1 s m #[(.int xa), (.int xb)] below meth c s₁ [] 0 0 := Stand.of_body Bd
  have e0 : s₁.heap = h0 := by rw [← hh, Bd.state]; rfl
  have N0 := Fr.nil n0
  suffices hgo : own_Ok p e below (own_Qx s (Q_rm_law Z xa xb G1 cai cli cal cll h0 n0) 4 7) (s₁.setTop (mkF m 0 #[.val (.int xa), .val (.int xb), .unset, .unset, .unset, .unset] [])) from by
    obtain ⟨s₂, o, h1, h2⟩ := hgo
    exact ⟨s₂, o, castTop (own_ef_rm_law m xa xb) h1, h2⟩
  have hws : ∀ d ∈ StrChars.Road.words, d.before a0 Z = true := fun d hd => hw d ((by decide +kernel : ∀ d ∈ StrChars.Road.words, d ∈ tables_1) d hd)
  show own_Ok p e below _ (s₁.setTop (mkF m 0 #[.val (.int xa), .val (.int xb), .unset, .unset, .unset, .unset] []))
  refine own_st (fun _ k => XS.iloadN X0.here hx rfl (hb hby at_0) rfl k) ?_
  show own_Ok p e below _ (s₁.setTop (mkF m 1 #[.val (.int xa), .val (.int xb), .unset, .unset, .unset, .unset] [(.int xa)]))
  refine own_st (fun _ k => XS.bipush X0.here hx rfl (hb hby at_1) k) ?_
  show own_Ok p e below _ (s₁.setTop (mkF m 3 #[.val (.int xa), .val (.int xb), .unset, .unset, .unset, .unset] [(.int (7 : Int32)), (.int xa)]))
  refine own_st (fun _ k => XS.iand X0.here hx rfl (hb hby at_3) rfl k) ?_
  show own_Ok p e below _ (s₁.setTop (mkF m 4 #[.val (.int xa), .val (.int xb), .unset, .unset, .unset, .unset] [(.int (xa &&& (7 : Int32)))]))
  refine own_st (fun _ k => XS.istoreN X0.here hx rfl (hb hby at_4) rfl (l' := #[.val (.int xa), .val (.int xb), .val (.int (xa &&& (7 : Int32))), .unset, .unset, .unset]) rfl k) ?_
  show own_Ok p e below _ (s₁.setTop (mkF m 5 #[.val (.int xa), .val (.int xb), .val (.int (xa &&& (7 : Int32))), .unset, .unset, .unset] []))
  refine own_st (fun _ k => XS.iloadN X0.here hx rfl (hb hby at_5) rfl k) ?_
  show own_Ok p e below _ (s₁.setTop (mkF m 6 #[.val (.int xa), .val (.int xb), .val (.int (xa &&& (7 : Int32))), .unset, .unset, .unset] [(.int (xa &&& (7 : Int32)))]))
  by_cases c6_101 : (xa &&& (7 : Int32)) = (0 : Int32)
  · skip
    refine own_st (fun _ k => XS.ifNo X0.here hx rfl (hb hby at_6) rfl (XT.i0_ne_f c6_101) k) ?_
    show own_Ok p e below _ (s₁.setTop (mkF m 9 #[.val (.int xa), .val (.int xb), .val (.int (xa &&& (7 : Int32))), .unset, .unset, .unset] []))
    rw [show (xa &&& (7 : Int32)) = (0 : Int32) from c6_101]
    show own_Ok p e below _ (s₁.setTop (mkF m 9 #[.val (.int xa), .val (.int xb), .val (.int (0 : Int32)), .unset, .unset, .unset] []))
    refine own_st (fun _ k => XS.aconstNull X0.here hx rfl (hb hby at_9) k) ?_
    show own_Ok p e below _ (s₁.setTop (mkF m 10 #[.val (.int xa), .val (.int xb), .val (.int (0 : Int32)), .unset, .unset, .unset] [.null]))
    refine own_st (fun _ k => XS.astoreN X0.here hx rfl (hb hby at_10) rfl rfl (l' := #[.val (.int xa), .val (.int xb), .val (.int (0 : Int32)), .val .null, .unset, .unset]) rfl k) ?_
    show own_Ok p e below _ (s₁.setTop (mkF m 11 #[.val (.int xa), .val (.int xb), .val (.int (0 : Int32)), .val .null, .unset, .unset] []))
    refine own_st (fun _ k => XS.goto X0.here hx rfl (pc0 := 11) (pc' := 141) rfl (hb hby at_11) (by decide) (by decide) k) ?_
    show own_Ok p e below _ (s₁.setTop (mkF m 141 #[.val (.int xa), .val (.int xb), .val (.int (0 : Int32)), .val .null, .unset, .unset] []))
    obtain ⟨T102, h102, X102, e102, E102, A102, D102, -, st102⟩ := newO X0 hx hZ hown (hw _ (List.mem_of_getElem? (i := 0) rfl)) (hw _ (List.mem_of_getElem? (i := 1) rfl)) (hw _ (List.mem_of_getElem? (i := 2) rfl)) e0 (g := (mkF m 141 #[.val (.int xa), .val (.int xb), .val (.int (0 : Int32)), .val .null, .unset, .unset] [])) rfl (hb hby at_141) (by decide) (by decide)
    obtain ⟨b102, g102⟩ : ∃ z, z = h0.size := ⟨_, rfl⟩
    rw [← g102] at A102 D102 st102
    refine own_st st102 ?_
    have gb_b102 : n0 ≤ b102 := Nat.le_trans (own_n0 O0) (Nat.le_of_eq g102.symm)
    have F102_content : Fld Z h102 b102 "com/example/tandemwick/tandemwick/FutureState$Special" "content" "Ljava/lang/Object;" .null := D102 (Or.inr (hw _ (List.mem_of_getElem? (i := 10) rfl))) (ty := (.object "java/lang/Object")) (by decide)
    show own_Ok p e below _ (T102.setTop (mkF m 144 #[.val (.int xa), .val (.int xb), .val (.int (0 : Int32)), .val .null, .unset, .unset] [(.ref b102)]))
    refine own_st (fun _ k => XS.dup X102.here hx rfl (hb hby at_144) rfl rfl k) ?_
    show own_Ok p e below _ (T102.setTop (mkF m 145 #[.val (.int xa), .val (.int xb), .val (.int (0 : Int32)), .val .null, .unset, .unset] [(.ref b102), (.ref b102)]))
    refine own_st (fun _ k => XS.aloadN X102.here hx rfl (hb hby at_145) rfl rfl k) ?_
    show own_Ok p e below _ (T102.setTop (mkF m 146 #[.val (.int xa), .val (.int xb), .val (.int (0 : Int32)), .val .null, .unset, .unset] [.null, (.ref b102), (.ref b102)]))
    have f104 := O0.ext E102
    obtain ⟨_, _, ⟨T103, L103, k103, n103⟩, -, X103, ⟨Lc103, hQ103, l103, y103, z103⟩, st103⟩ := X102.specialBack hx (y := (⟨"com/example/tandemwick/tandemwick/FutureState$Special", "<init>", "(Ljava/lang/Object;)V"⟩ : MethodName)) rfl hown (mvT hZ (hw _ (List.mem_of_getElem? (i := 3) rfl))) (mvT hZ (hw _ (List.mem_of_getElem? (i := 4) rfl))) (mvT hZ (hw _ (List.mem_of_getElem? (i := 5) rfl))) (by decide) (backOf (W := 1) (rm1 l Z a0 hw [] b102 .null h102 n0 f104 rfl A102 F102_content gb_b102) hZ (hw _ (List.mem_of_getElem? (i := 5) rfl)) (hw _ (List.mem_of_getElem? (i := 2) rfl)) (by decide) (by decide)) (g := (mkF m 146 #[.val (.int xa), .val (.int xb), .val (.int (0 : Int32)), .val .null, .unset, .unset] [.null, (.ref b102), (.ref b102)])) rfl (by rw [hml]; rfl) (Steps.refl _) (a := b102) (argsL := [.null]) (rest := [(.ref b102)]) (lenOf own_pd3 rfl) rfl (by show 2 * 0 + _ ≤ _; exact Nat.le_of_eq rfl) (hb hby at_146) (fun _ _ => ⟨rfl, e102, (by decide : 1 + 0 ≤ _), (by decide : 1 + 0 ≤ _)⟩)
    dsimp only [Pt.U, Pt.locs, Pt.cells, Pt.slots] at X103 l103 y103 z103 st103 hQ103
    subst l103 y103 z103
    obtain ⟨rfl, Nq103, K103, g103_0⟩ := hQ103
    have N103 := Fr.app N0 Nq103
    refine own_st (fun _ k => st103.trans k) ?_
    have e103 : T103.heap = T103.heap := rfl
    show own_Ok p e below _ (T103.setTop (mkF m 149 #[.val (.int xa), .val (.int xb), .val (.int (0 : Int32)), .val .null, .unset, .unset] [(.ref b102)]))
    refine own_st (fun _ k => XS.astore X103.here hx rfl (hb hby at_149) rfl rfl (l' := #[.val (.int xa), .val (.int xb), .val (.int (0 : Int32)), .val .null, .val (.ref b102), .unset]) rfl k) ?_
    show own_Ok p e below _ (T103.setTop (mkF m 151 #[.val (.int xa), .val (.int xb), .val (.int (0 : Int32)), .val .null, .val (.ref b102), .unset] []))
    refine own_st (fun _ k => XS.iloadN X103.here hx rfl (hb hby at_151) rfl k) ?_
    show own_Ok p e below _ (T103.setTop (mkF m 152 #[.val (.int xa), .val (.int xb), .val (.int (0 : Int32)), .val .null, .val (.ref b102), .unset] [(.int (0 : Int32))]))
    refine own_st (fun _ k => XS.iconst X103.here hx rfl (hb hby at_152) k) ?_
    show own_Ok p e below _ (T103.setTop (mkF m 153 #[.val (.int xa), .val (.int xb), .val (.int (0 : Int32)), .val .null, .val (.ref b102), .unset] [(.int (3 : Int32)), (.int (0 : Int32))]))
    refine own_st (fun _ k => XS.icmpYes X103.here hx rfl (pc0 := 153) (pc' := 160) rfl (hb hby at_153) rfl (XT.ii_lt_t (by decide)) (by decide) (by decide) k) ?_
    show own_Ok p e below _ (T103.setTop (mkF m 160 #[.val (.int xa), .val (.int xb), .val (.int (0 : Int32)), .val .null, .val (.ref b102), .unset] []))
    refine own_st (fun _ k => XS.iconst X103.here hx rfl (hb hby at_160) k) ?_
    show own_Ok p e below _ (T103.setTop (mkF m 161 #[.val (.int xa), .val (.int xb), .val (.int (0 : Int32)), .val .null, .val (.ref b102), .unset] [(.int (0 : Int32))]))
    refine own_st (fun _ k => XS.istore X103.here hx rfl (hb hby at_161) rfl (l' := #[.val (.int xa), .val (.int xb), .val (.int (0 : Int32)), .val .null, .val (.ref b102), .val (.int (0 : Int32))]) rfl k) ?_
    show own_Ok p e below _ (T103.setTop (mkF m 163 #[.val (.int xa), .val (.int xb), .val (.int (0 : Int32)), .val .null, .val (.ref b102), .val (.int (0 : Int32))] []))
    refine own_st (fun _ k => XS.aload X103.here hx rfl (hb hby at_163) rfl rfl k) ?_
    show own_Ok p e below _ (T103.setTop (mkF m 165 #[.val (.int xa), .val (.int xb), .val (.int (0 : Int32)), .val .null, .val (.ref b102), .val (.int (0 : Int32))] [(.ref b102)]))
    have f106 := f104.keep K103 (allS gb_b102 all0)
    have f107 := A102.keep K103
    obtain ⟨cq105, kq105, q105a, q105b, q105c⟩ := isOf hZ e103 f107
    obtain ⟨_, _, ⟨T105, L105, k105, n105⟩, -, X105, ⟨Lc105, hQ105, l105, y105, z105⟩, st105⟩ := X103.virtualBack hx (y := (⟨"com/example/tandemwick/tandemwick/FutureState$Special", "isPending", "()Z"⟩ : MethodName)) (z := (⟨"com/example/tandemwick/tandemwick/FutureState$Special", "isPending", "()Z"⟩ : MethodName)) hown (mvT hZ (hw _ (List.mem_of_getElem? (i := 11) rfl))) (mvT hZ (hw _ (List.mem_of_getElem? (i := 12) rfl))) (notFace_of_selects (args := #[]) (mvT hZ (hw _ (List.mem_of_getElem? (i := 14) rfl)))) (mvT hZ (hw _ (List.mem_of_getElem? (i := 14) rfl))) (mvT hZ (hw _ (List.mem_of_getElem? (i := 13) rfl))) (by decide) (backOf (W := 0) (rm_pend_null l Z a0 hw [] b102 T103.heap n0 f106 g103_0) hZ (hw _ (List.mem_of_getElem? (i := 15) rfl)) (hw _ (List.mem_of_getElem? (i := 2) rfl)) (by decide) (by decide)) q105a q105c (g := (mkF m 165 #[.val (.int xa), .val (.int xb), .val (.int (0 : Int32)), .val .null, .val (.ref b102), .val (.int (0 : Int32))] [(.ref b102)])) rfl (by rw [hml]; rfl) (Steps.refl _) (argsL := []) (rest := []) (lenOf own_pd4 rfl) rfl (by show 2 * 0 + _ ≤ _; exact Nat.le_of_eq rfl) (hb hby at_165) (fun _ _ => ⟨rfl, e103, (by decide : 1 + 0 ≤ _), (by decide : 1 + 0 ≤ _)⟩)
    dsimp only [Pt.U, Pt.locs, Pt.cells, Pt.slots] at X105 l105 y105 z105 st105 hQ105
    subst l105 y105 z105
    obtain ⟨rfl, Nq105, e105⟩ := hQ105
    have N105 := Fr.app N103 Nq105
    refine own_st (fun _ k => st105.trans k) ?_
    show own_Ok p e below _ (T105.setTop (mkF m 168 #[.val (.int xa), .val (.int xb), .val (.int (0 : Int32)), .val .null, .val (.ref b102), .val (.int (0 : Int32))] [(.int (0 : Int32))]))
    refine own_st (fun _ k => XS.iload X105.here hx rfl (hb hby at_168) rfl k) ?_
    show own_Ok p e below _ (T105.setTop (mkF m 170 #[.val (.int xa), .val (.int xb), .val (.int (0 : Int32)), .val .null, .val (.ref b102), .val (.int (0 : Int32))] [(.int (0 : Int32)), (.int (0 : Int32))]))
    refine own_st (fun _ k => XS.icmpNo X105.here hx rfl (hb hby at_170) rfl (XT.ii_ne_f (by decide)) k) ?_
    show own_Ok p e below _ (T105.setTop (mkF m 173 #[.val (.int xa), .val (.int xb), .val (.int (0 : Int32)), .val .null, .val (.ref b102), .val (.int (0 : Int32))] []))
    refine own_st (fun _ k => XS.iconst X105.here hx rfl (hb hby at_173) k) ?_
    show own_Ok p e below _ (T105.setTop (mkF m 174 #[.val (.int xa), .val (.int xb), .val (.int (0 : Int32)), .val .null, .val (.ref b102), .val (.int (0 : Int32))] [(.int (1 : Int32))]))
    refine own_st (fun _ k => XS.goto X105.here hx rfl (pc0 := 174) (pc' := 178) rfl (hb hby at_174) (by decide) (by decide) k) ?_
    show own_Ok p e below _ (T105.setTop (mkF m 178 #[.val (.int xa), .val (.int xb), .val (.int (0 : Int32)), .val .null, .val (.ref b102), .val (.int (0 : Int32))] [(.int (1 : Int32))]))
    exact own_retN X105 hx hlk (t := .boolean) Bd.returns (by simp) (hb hby at_178) (by rw [e105]; exact ⟨rfl, N105⟩) (by decide) (by decide)
  · skip
    refine own_st (fun _ k => XS.ifYes X0.here hx rfl (pc0 := 6) (pc' := 14) rfl (hb hby at_6) rfl (XT.i0_ne_t c6_101) (by decide) (by decide) k) ?_
    show own_Ok p e below _ (s₁.setTop (mkF m 14 #[.val (.int xa), .val (.int xb), .val (.int (xa &&& (7 : Int32))), .unset, .unset, .unset] []))
    refine own_st (fun _ k => XS.iloadN X0.here hx rfl (hb hby at_14) rfl k) ?_
    show own_Ok p e below _ (s₁.setTop (mkF m 15 #[.val (.int xa), .val (.int xb), .val (.int (xa &&& (7 : Int32))), .unset, .unset, .unset] [(.int (xa &&& (7 : Int32)))]))
    refine own_st (fun _ k => XS.iconst X0.here hx rfl (hb hby at_15) k) ?_
    show own_Ok p e below _ (s₁.setTop (mkF m 16 #[.val (.int xa), .val (.int xb), .val (.int (xa &&& (7 : Int32))), .unset, .unset, .unset] [(.int (1 : Int32)), (.int (xa &&& (7 : Int32)))]))
    by_cases c16_108 : (xa &&& (7 : Int32)) = (1 : Int32)
    · skip
      refine own_st (fun _ k => XS.icmpNo X0.here hx rfl (hb hby at_16) rfl (XT.ii_ne_f c16_108) k) ?_
      show own_Ok p e below _ (s₁.setTop (mkF m 19 #[.val (.int xa), .val (.int xb), .val (.int (xa &&& (7 : Int32))), .unset, .unset, .unset] []))
      rw [show (xa &&& (7 : Int32)) = (1 : Int32) from c16_108]
      show own_Ok p e below _ (s₁.setTop (mkF m 19 #[.val (.int xa), .val (.int xb), .val (.int (1 : Int32)), .unset, .unset, .unset] []))
      obtain ⟨T109, h109, X109, e109, E109, A109, D109, -, st109⟩ := newO X0 hx hZ hown (hw _ (List.mem_of_getElem? (i := 49) rfl)) (hw _ (List.mem_of_getElem? (i := 50) rfl)) (hw _ (List.mem_of_getElem? (i := 51) rfl)) e0 (g := (mkF m 19 #[.val (.int xa), .val (.int xb), .val (.int (1 : Int32)), .unset, .unset, .unset] [])) rfl (hb hby at_19) (by decide) (by decide)
      obtain ⟨b109, g109⟩ : ∃ z, z = h0.size := ⟨_, rfl⟩
      rw [← g109] at A109 D109 st109
      refine own_st st109 ?_
      have gb_b109 : n0 ≤ b109 := Nat.le_trans (own_n0 O0) (Nat.le_of_eq g109.symm)
      have F109_cause : Fld Z h109 b109 "com/example/tandemwick/tandemwick/FutureState$Failure" "cause" "Ljava/lang/Throwable;" .null := D109 (Or.inr (hw _ (List.mem_of_getElem? (i := 57) rfl))) (ty := (.object "java/lang/Throwable")) (by decide)
      show own_Ok p e below _ (T109.setTop (mkF m 22 #[.val (.int xa), .val (.int xb), .val (.int (1 : Int32)), .unset, .unset, .unset] [(.ref b109)]))
      refine own_st (fun _ k => XS.dup X109.here hx rfl (hb hby at_22) rfl rfl k) ?_
      show own_Ok p e below _ (T109.setTop (mkF m 23 #[.val (.int xa), .val (.int xb), .val (.int (1 : Int32)), .unset, .unset, .unset] [(.ref b109), (.ref b109)]))
      refine own_st (fun _ k => XS.aconstNull X109.here hx rfl (hb hby at_23) k) ?_
      show own_Ok p e below _ (T109.setTop (mkF m 24 #[.val (.int xa), .val (.int xb), .val (.int (1 : Int32)), .unset, .unset, .unset] [.null, (.ref b109), (.ref b109)]))
      have f111 := O0.ext E109
      obtain ⟨_, _, ⟨T110, L110, k110, n110⟩, -, X110, ⟨Lc110, hQ110, l110, y110, z110⟩, st110⟩ := X109.specialBack hx (y := (⟨"com/example/tandemwick/tandemwick/FutureState$Failure", "<init>", "(Ljava/lang/Throwable;)V"⟩ : MethodName)) rfl hown (mvT hZ (hw _ (List.mem_of_getElem? (i := 52) rfl))) (mvT hZ (hw _ (List.mem_of_getElem? (i := 53) rfl))) (mvT hZ (hw _ (List.mem_of_getElem? (i := 54) rfl))) (by decide) (backOf (W := 1) (rm9 l Z a0 hw [] b109 h109 n0 f111 A109 F109_cause gb_b109) hZ (hw _ (List.mem_of_getElem? (i := 54) rfl)) (hw _ (List.mem_of_getElem? (i := 51) rfl)) (by decide) (by decide)) (g := (mkF m 24 #[.val (.int xa), .val (.int xb), .val (.int (1 : Int32)), .unset, .unset, .unset] [.null, (.ref b109), (.ref b109)])) rfl (by rw [hml]; rfl) (Steps.refl _) (a := b109) (argsL := [.null]) (rest := [(.ref b109)]) (lenOf own_pd5 rfl) rfl (by show 2 * 0 + _ ≤ _; exact Nat.le_of_eq rfl) (hb hby at_24) (fun _ _ => ⟨rfl, e109, (by decide : 1 + 0 ≤ _), (by decide : 1 + 0 ≤ _)⟩)
      dsimp only [Pt.U, Pt.locs, Pt.cells, Pt.slots] at X110 l110 y110 z110 st110 hQ110
      subst l110 y110 z110
      obtain ⟨rfl, Nq110, K110⟩ := hQ110
      have N110 := Fr.app N0 Nq110
      refine own_st (fun _ k => st110.trans k) ?_
      have e110 : T110.heap = T110.heap := rfl
      show own_Ok p e below _ (T110.setTop (mkF m 27 #[.val (.int xa), .val (.int xb), .val (.int (1 : Int32)), .unset, .unset, .unset] [(.ref b109)]))
      refine own_st (fun _ k => XS.astoreN X110.here hx rfl (hb hby at_27) rfl rfl (l' := #[.val (.int xa), .val (.int xb), .val (.int (1 : Int32)), .val (.ref b109), .unset, .unset]) rfl k) ?_
      show own_Ok p e below _ (T110.setTop (mkF m 28 #[.val (.int xa), .val (.int xb), .val (.int (1 : Int32)), .val (.ref b109), .unset, .unset] []))
      refine own_st (fun _ k => XS.goto X110.here hx rfl (pc0 := 28) (pc' := 141) rfl (hb hby at_28) (by decide) (by decide) k) ?_
      show own_Ok p e below _ (T110.setTop (mkF m 141 #[.val (.int xa), .val (.int xb), .val (.int (1 : Int32)), .val (.ref b109), .unset, .unset] []))
      obtain ⟨T112, h112, X112, e112, E112, A112, D112, -, st112⟩ := newO X110 hx hZ hown (hw _ (List.mem_of_getElem? (i := 0) rfl)) (hw _ (List.mem_of_getElem? (i := 1) rfl)) (hw _ (List.mem_of_getElem? (i := 2) rfl)) e110 (g := (mkF m 141 #[.val (.int xa), .val (.int xb), .val (.int (1 : Int32)), .val (.ref b109), .unset, .unset] [])) rfl (hb hby at_141) (by decide) (by decide)
      obtain ⟨b112, g112⟩ : ∃ z, z = T110.heap.size := ⟨_, rfl⟩
      rw [← g112] at A112 D112 st112
      refine own_st st112 ?_
      have f113 := f111.keep K110 (allS gb_b109 all0)
      have gb_b112 : n0 ≤ b112 := Nat.le_trans (own_n0 f113) (Nat.le_of_eq g112.symm)
      have f114 := A109.keep K110
      have ne_b109_b112 : b109 ≠ b112 := Nat.ne_of_lt (Nat.lt_of_lt_of_le f114.lt (Nat.le_of_eq g112.symm))
      have F112_content : Fld Z h112 b112 "com/example/tandemwick/tandemwick/FutureState$Special" "content" "Ljava/lang/Object;" .null := D112 (Or.inr (hw _ (List.mem_of_getElem? (i := 10) rfl))) (ty := (.object "java/lang/Object")) (by decide)
      show own_Ok p e below _ (T112.setTop (mkF m 144 #[.val (.int xa), .val (.int xb), .val (.int (1 : Int32)), .val (.ref b109), .unset, .unset] [(.ref b112)]))
      refine own_st (fun _ k => XS.dup X112.here hx rfl (hb hby at_144) rfl rfl k) ?_
      show own_Ok p e below _ (T112.setTop (mkF m 145 #[.val (.int xa), .val (.int xb), .val (.int (1 : Int32)), .val (.ref b109), .unset, .unset] [(.ref b112), (.ref b112)]))
      refine own_st (fun _ k => XS.aloadN X112.here hx rfl (hb hby at_145) rfl rfl k) ?_
      show own_Ok p e below _ (T112.setTop (mkF m 146 #[.val (.int xa), .val (.int xb), .val (.int (1 : Int32)), .val (.ref b109), .unset, .unset] [(.ref b109), (.ref b112), (.ref b112)]))
      have f116 := f113.ext E112
      obtain ⟨_, _, ⟨T115, L115, k115, n115⟩, -, X115, ⟨Lc115, hQ115, l115, y115, z115⟩, st115⟩ := X112.specialBack hx (y := (⟨"com/example/tandemwick/tandemwick/FutureState$Special", "<init>", "(Ljava/lang/Object;)V"⟩ : MethodName)) rfl hown (mvT hZ (hw _ (List.mem_of_getElem? (i := 3) rfl))) (mvT hZ (hw _ (List.mem_of_getElem? (i := 4) rfl))) (mvT hZ (hw _ (List.mem_of_getElem? (i := 5) rfl))) (by decide) (backOf (W := 1) (rm1 l Z a0 hw [] b112 ((.ref b109)) h112 n0 f116 rfl A112 F112_content gb_b112) hZ (hw _ (List.mem_of_getElem? (i := 5) rfl)) (hw _ (List.mem_of_getElem? (i := 2) rfl)) (by decide) (by decide)) (g := (mkF m 146 #[.val (.int xa), .val (.int xb), .val (.int (1 : Int32)), .val (.ref b109), .unset, .unset] [(.ref b109), (.ref b112), (.ref b112)])) rfl (by rw [hml]; rfl) (Steps.refl _) (a := b112) (argsL := [(.ref b109)]) (rest := [(.ref b112)]) (lenOf own_pd3 rfl) rfl (by show 2 * 0 + _ ≤ _; exact Nat.le_of_eq rfl) (hb hby at_146) (fun _ _ => ⟨rfl, e112, (by decide : 2 + 0 ≤ _), (by decide : 2 + 0 ≤ _)⟩)
      dsimp only [Pt.U, Pt.locs, Pt.cells, Pt.slots] at X115 l115 y115 z115 st115 hQ115
      subst l115 y115 z115
      obtain ⟨rfl, Nq115, K115, g115_0⟩ := hQ115
      have N115 := Fr.app N110 Nq115
      refine own_st (fun _ k => st115.trans k) ?_
      have e115 : T115.heap = T115.heap := rfl
      show own_Ok p e below _ (T115.setTop (mkF m 149 #[.val (.int xa), .val (.int xb), .val (.int (1 : Int32)), .val (.ref b109), .unset, .unset] [(.ref b112)]))
      refine own_st (fun _ k => XS.astore X115.here hx rfl (hb hby at_149) rfl rfl (l' := #[.val (.int xa), .val (.int xb), .val (.int (1 : Int32)), .val (.ref b109), .val (.ref b112), .unset]) rfl k) ?_
      show own_Ok p e below _ (T115.setTop (mkF m 151 #[.val (.int xa), .val (.int xb), .val (.int (1 : Int32)), .val (.ref b109), .val (.ref b112), .unset] []))
      refine own_st (fun _ k => XS.iloadN X115.here hx rfl (hb hby at_151) rfl k) ?_
      show own_Ok p e below _ (T115.setTop (mkF m 152 #[.val (.int xa), .val (.int xb), .val (.int (1 : Int32)), .val (.ref b109), .val (.ref b112), .unset] [(.int (1 : Int32))]))
      refine own_st (fun _ k => XS.iconst X115.here hx rfl (hb hby at_152) k) ?_
      show own_Ok p e below _ (T115.setTop (mkF m 153 #[.val (.int xa), .val (.int xb), .val (.int (1 : Int32)), .val (.ref b109), .val (.ref b112), .unset] [(.int (3 : Int32)), (.int (1 : Int32))]))
      refine own_st (fun _ k => XS.icmpYes X115.here hx rfl (pc0 := 153) (pc' := 160) rfl (hb hby at_153) rfl (XT.ii_lt_t (by decide)) (by decide) (by decide) k) ?_
      show own_Ok p e below _ (T115.setTop (mkF m 160 #[.val (.int xa), .val (.int xb), .val (.int (1 : Int32)), .val (.ref b109), .val (.ref b112), .unset] []))
      refine own_st (fun _ k => XS.iconst X115.here hx rfl (hb hby at_160) k) ?_
      show own_Ok p e below _ (T115.setTop (mkF m 161 #[.val (.int xa), .val (.int xb), .val (.int (1 : Int32)), .val (.ref b109), .val (.ref b112), .unset] [(.int (0 : Int32))]))
      refine own_st (fun _ k => XS.istore X115.here hx rfl (hb hby at_161) rfl (l' := #[.val (.int xa), .val (.int xb), .val (.int (1 : Int32)), .val (.ref b109), .val (.ref b112), .val (.int (0 : Int32))]) rfl k) ?_
      show own_Ok p e below _ (T115.setTop (mkF m 163 #[.val (.int xa), .val (.int xb), .val (.int (1 : Int32)), .val (.ref b109), .val (.ref b112), .val (.int (0 : Int32))] []))
      refine own_st (fun _ k => XS.aload X115.here hx rfl (hb hby at_163) rfl rfl k) ?_
      show own_Ok p e below _ (T115.setTop (mkF m 165 #[.val (.int xa), .val (.int xb), .val (.int (1 : Int32)), .val (.ref b109), .val (.ref b112), .val (.int (0 : Int32))] [(.ref b112)]))
      have f118 := f114.ext E112
      have f119 := f118.keep K115
      have f120 := f116.keep K115 (allS gb_b112 all0)
      have f121 := A112.keep K115
      obtain ⟨cq117, kq117, q117a, q117b, q117c⟩ := isOf hZ e115 f121
      obtain ⟨_, _, ⟨T117, L117, k117, n117⟩, -, X117, ⟨Lc117, hQ117, l117, y117, z117⟩, st117⟩ := X115.virtualBack hx (y := (⟨"com/example/tandemwick/tandemwick/FutureState$Special", "isPending", "()Z"⟩ : MethodName)) (z := (⟨"com/example/tandemwick/tandemwick/FutureState$Special", "isPending", "()Z"⟩ : MethodName)) hown (mvT hZ (hw _ (List.mem_of_getElem? (i := 11) rfl))) (mvT hZ (hw _ (List.mem_of_getElem? (i := 12) rfl))) (notFace_of_selects (args := #[]) (mvT hZ (hw _ (List.mem_of_getElem? (i := 14) rfl)))) (mvT hZ (hw _ (List.mem_of_getElem? (i := 14) rfl))) (mvT hZ (hw _ (List.mem_of_getElem? (i := 13) rfl))) (by decide) (backOf (W := 0) (rm_pend_F l Z a0 hw [] b112 b109 T115.heap n0 f120 g115_0 f119) hZ (hw _ (List.mem_of_getElem? (i := 15) rfl)) (hw _ (List.mem_of_getElem? (i := 2) rfl)) (by decide) (by decide)) q117a q117c (g := (mkF m 165 #[.val (.int xa), .val (.int xb), .val (.int (1 : Int32)), .val (.ref b109), .val (.ref b112), .val (.int (0 : Int32))] [(.ref b112)])) rfl (by rw [hml]; rfl) (Steps.refl _) (argsL := []) (rest := []) (lenOf own_pd4 rfl) rfl (by show 2 * 0 + _ ≤ _; exact Nat.le_of_eq rfl) (hb hby at_165) (fun _ _ => ⟨rfl, e115, (by decide : 2 + 0 ≤ _), (by decide : 2 + 0 ≤ _)⟩)
      dsimp only [Pt.U, Pt.locs, Pt.cells, Pt.slots] at X117 l117 y117 z117 st117 hQ117
      subst l117 y117 z117
      obtain ⟨rfl, Nq117, e117⟩ := hQ117
      have N117 := Fr.app N115 Nq117
      refine own_st (fun _ k => st117.trans k) ?_
      show own_Ok p e below _ (T117.setTop (mkF m 168 #[.val (.int xa), .val (.int xb), .val (.int (1 : Int32)), .val (.ref b109), .val (.ref b112), .val (.int (0 : Int32))] [(.int (0 : Int32))]))
      refine own_st (fun _ k => XS.iload X117.here hx rfl (hb hby at_168) rfl k) ?_
      show own_Ok p e below _ (T117.setTop (mkF m 170 #[.val (.int xa), .val (.int xb), .val (.int (1 : Int32)), .val (.ref b109), .val (.ref b112), .val (.int (0 : Int32))] [(.int (0 : Int32)), (.int (0 : Int32))]))
      refine own_st (fun _ k => XS.icmpNo X117.here hx rfl (hb hby at_170) rfl (XT.ii_ne_f (by decide)) k) ?_
      show own_Ok p e below _ (T117.setTop (mkF m 173 #[.val (.int xa), .val (.int xb), .val (.int (1 : Int32)), .val (.ref b109), .val (.ref b112), .val (.int (0 : Int32))] []))
      refine own_st (fun _ k => XS.iconst X117.here hx rfl (hb hby at_173) k) ?_
      show own_Ok p e below _ (T117.setTop (mkF m 174 #[.val (.int xa), .val (.int xb), .val (.int (1 : Int32)), .val (.ref b109), .val (.ref b112), .val (.int (0 : Int32))] [(.int (1 : Int32))]))
      refine own_st (fun _ k => XS.goto X117.here hx rfl (pc0 := 174) (pc' := 178) rfl (hb hby at_174) (by decide) (by decide) k) ?_
      show own_Ok p e below _ (T117.setTop (mkF m 178 #[.val (.int xa), .val (.int xb), .val (.int (1 : Int32)), .val (.ref b109), .val (.ref b112), .val (.int (0 : Int32))] [(.int (1 : Int32))]))
      exact own_retN X117 hx hlk (t := .boolean) Bd.returns (by simp) (hb hby at_178) (by rw [e117]; exact ⟨rfl, N117⟩) (by decide) (by decide)
    · skip
      refine own_st (fun _ k => XS.icmpYes X0.here hx rfl (pc0 := 16) (pc' := 31) rfl (hb hby at_16) rfl (XT.ii_ne_t c16_108) (by decide) (by decide) k) ?_
      show own_Ok p e below _ (s₁.setTop (mkF m 31 #[.val (.int xa), .val (.int xb), .val (.int (xa &&& (7 : Int32))), .unset, .unset, .unset] []))
      refine own_st (fun _ k => XS.iloadN X0.here hx rfl (hb hby at_31) rfl k) ?_
      show own_Ok p e below _ (s₁.setTop (mkF m 32 #[.val (.int xa), .val (.int xb), .val (.int (xa &&& (7 : Int32))), .unset, .unset, .unset] [(.int (xa &&& (7 : Int32)))]))
      refine own_st (fun _ k => XS.iconst X0.here hx rfl (hb hby at_32) k) ?_
      show own_Ok p e below _ (s₁.setTop (mkF m 33 #[.val (.int xa), .val (.int xb), .val (.int (xa &&& (7 : Int32))), .unset, .unset, .unset] [(.int (2 : Int32)), (.int (xa &&& (7 : Int32)))]))
      by_cases c33_122 : (xa &&& (7 : Int32)) = (2 : Int32)
      · skip
        refine own_st (fun _ k => XS.icmpNo X0.here hx rfl (hb hby at_33) rfl (XT.ii_ne_f c33_122) k) ?_
        show own_Ok p e below _ (s₁.setTop (mkF m 36 #[.val (.int xa), .val (.int xb), .val (.int (xa &&& (7 : Int32))), .unset, .unset, .unset] []))
        rw [show (xa &&& (7 : Int32)) = (2 : Int32) from c33_122]
        show own_Ok p e below _ (s₁.setTop (mkF m 36 #[.val (.int xa), .val (.int xb), .val (.int (2 : Int32)), .unset, .unset, .unset] []))
        obtain ⟨T123, h123, X123, e123, E123, A123, D123, -, st123⟩ := newO X0 hx hZ hown (hw _ (List.mem_of_getElem? (i := 90) rfl)) (hw _ (List.mem_of_getElem? (i := 91) rfl)) (hw _ (List.mem_of_getElem? (i := 92) rfl)) e0 (g := (mkF m 36 #[.val (.int xa), .val (.int xb), .val (.int (2 : Int32)), .unset, .unset, .unset] [])) rfl (hb hby at_36) (by decide) (by decide)
        obtain ⟨b123, g123⟩ : ∃ z, z = h0.size := ⟨_, rfl⟩
        rw [← g123] at A123 D123 st123
        refine own_st st123 ?_
        have gb_b123 : n0 ≤ b123 := Nat.le_trans (own_n0 O0) (Nat.le_of_eq g123.symm)
        show own_Ok p e below _ (T123.setTop (mkF m 39 #[.val (.int xa), .val (.int xb), .val (.int (2 : Int32)), .unset, .unset, .unset] [(.ref b123)]))
        refine own_st (fun _ k => XS.dup X123.here hx rfl (hb hby at_39) rfl rfl k) ?_
        show own_Ok p e below _ (T123.setTop (mkF m 40 #[.val (.int xa), .val (.int xb), .val (.int (2 : Int32)), .unset, .unset, .unset] [(.ref b123), (.ref b123)]))
        have f125 := O0.ext E123
        obtain ⟨_, _, ⟨T124, L124, k124, n124⟩, -, X124, ⟨Lc124, hQ124, l124, y124, z124⟩, st124⟩ := X123.specialBack hx (y := (⟨"com/example/tandemwick/tandemwick/FutureState$Cancellation", "<init>", "()V"⟩ : MethodName)) rfl hown (mvT hZ (hw _ (List.mem_of_getElem? (i := 93) rfl))) (mvT hZ (hw _ (List.mem_of_getElem? (i := 94) rfl))) (mvT hZ (hw _ (List.mem_of_getElem? (i := 95) rfl))) (by decide) (backOf (W := 1) (rm14 l Z a0 hw [] b123 h123 n0 f125) hZ (hw _ (List.mem_of_getElem? (i := 95) rfl)) (hw _ (List.mem_of_getElem? (i := 92) rfl)) (by decide) (by decide)) (g := (mkF m 40 #[.val (.int xa), .val (.int xb), .val (.int (2 : Int32)), .unset, .unset, .unset] [(.ref b123), (.ref b123)])) rfl (by rw [hml]; rfl) (Steps.refl _) (a := b123) (argsL := []) (rest := [(.ref b123)]) (lenOf own_pd0 rfl) rfl (by show 2 * 0 + _ ≤ _; exact Nat.le_of_eq rfl) (hb hby at_40) (fun _ _ => ⟨rfl, e123, (by decide : 1 + 0 ≤ _), (by decide : 0 + 0 ≤ _)⟩)
        dsimp only [Pt.U, Pt.locs, Pt.cells, Pt.slots] at X124 l124 y124 z124 st124 hQ124
        subst l124 y124 z124
        obtain ⟨rfl, Nq124, e124⟩ := hQ124
        have N124 := Fr.app N0 Nq124
        refine own_st (fun _ k => st124.trans k) ?_
        show own_Ok p e below _ (T124.setTop (mkF m 43 #[.val (.int xa), .val (.int xb), .val (.int (2 : Int32)), .unset, .unset, .unset] [(.ref b123)]))
        refine own_st (fun _ k => XS.astoreN X124.here hx rfl (hb hby at_43) rfl rfl (l' := #[.val (.int xa), .val (.int xb), .val (.int (2 : Int32)), .val (.ref b123), .unset, .unset]) rfl k) ?_
        show own_Ok p e below _ (T124.setTop (mkF m 44 #[.val (.int xa), .val (.int xb), .val (.int (2 : Int32)), .val (.ref b123), .unset, .unset] []))
        refine own_st (fun _ k => XS.goto X124.here hx rfl (pc0 := 44) (pc' := 141) rfl (hb hby at_44) (by decide) (by decide) k) ?_
        show own_Ok p e below _ (T124.setTop (mkF m 141 #[.val (.int xa), .val (.int xb), .val (.int (2 : Int32)), .val (.ref b123), .unset, .unset] []))
        obtain ⟨T126, h126, X126, e126, E126, A126, D126, -, st126⟩ := newO X124 hx hZ hown (hw _ (List.mem_of_getElem? (i := 0) rfl)) (hw _ (List.mem_of_getElem? (i := 1) rfl)) (hw _ (List.mem_of_getElem? (i := 2) rfl)) e124 (g := (mkF m 141 #[.val (.int xa), .val (.int xb), .val (.int (2 : Int32)), .val (.ref b123), .unset, .unset] [])) rfl (hb hby at_141) (by decide) (by decide)
        obtain ⟨b126, g126⟩ : ∃ z, z = h123.size := ⟨_, rfl⟩
        rw [← g126] at A126 D126 st126
        refine own_st st126 ?_
        have gb_b126 : n0 ≤ b126 := Nat.le_trans (own_n0 f125) (Nat.le_of_eq g126.symm)
        have ne_b123_b126 : b123 ≠ b126 := Nat.ne_of_lt (Nat.lt_of_lt_of_le A123.lt (Nat.le_of_eq g126.symm))
        have F126_content : Fld Z h126 b126 "com/example/tandemwick/tandemwick/FutureState$Special" "content" "Ljava/lang/Object;" .null := D126 (Or.inr (hw _ (List.mem_of_getElem? (i := 10) rfl))) (ty := (.object "java/lang/Object")) (by decide)
        show own_Ok p e below _ (T126.setTop (mkF m 144 #[.val (.int xa), .val (.int xb), .val (.int (2 : Int32)), .val (.ref b123), .unset, .unset] [(.ref b126)]))
        refine own_st (fun _ k => XS.dup X126.here hx rfl (hb hby at_144) rfl rfl k) ?_
        show own_Ok p e below _ (T126.setTop (mkF m 145 #[.val (.int xa), .val (.int xb), .val (.int (2 : Int32)), .val (.ref b123), .unset, .unset] [(.ref b126), (.ref b126)]))
        refine own_st (fun _ k => XS.aloadN X126.here hx rfl (hb hby at_145) rfl rfl k) ?_
        show own_Ok p e below _ (T126.setTop (mkF m 146 #[.val (.int xa), .val (.int xb), .val (.int (2 : Int32)), .val (.ref b123), .unset, .unset] [(.ref b123), (.ref b126), (.ref b126)]))
        have f128 := f125.ext E126
        obtain ⟨_, _, ⟨T127, L127, k127, n127⟩, -, X127, ⟨Lc127, hQ127, l127, y127, z127⟩, st127⟩ := X126.specialBack hx (y := (⟨"com/example/tandemwick/tandemwick/FutureState$Special", "<init>", "(Ljava/lang/Object;)V"⟩ : MethodName)) rfl hown (mvT hZ (hw _ (List.mem_of_getElem? (i := 3) rfl))) (mvT hZ (hw _ (List.mem_of_getElem? (i := 4) rfl))) (mvT hZ (hw _ (List.mem_of_getElem? (i := 5) rfl))) (by decide) (backOf (W := 1) (rm1 l Z a0 hw [] b126 ((.ref b123)) h126 n0 f128 rfl A126 F126_content gb_b126) hZ (hw _ (List.mem_of_getElem? (i := 5) rfl)) (hw _ (List.mem_of_getElem? (i := 2) rfl)) (by decide) (by decide)) (g := (mkF m 146 #[.val (.int xa), .val (.int xb), .val (.int (2 : Int32)), .val (.ref b123), .unset, .unset] [(.ref b123), (.ref b126), (.ref b126)])) rfl (by rw [hml]; rfl) (Steps.refl _) (a := b126) (argsL := [(.ref b123)]) (rest := [(.ref b126)]) (lenOf own_pd3 rfl) rfl (by show 2 * 0 + _ ≤ _; exact Nat.le_of_eq rfl) (hb hby at_146) (fun _ _ => ⟨rfl, e126, (by decide : 2 + 0 ≤ _), (by decide : 1 + 0 ≤ _)⟩)
        dsimp only [Pt.U, Pt.locs, Pt.cells, Pt.slots] at X127 l127 y127 z127 st127 hQ127
        subst l127 y127 z127
        obtain ⟨rfl, Nq127, K127, g127_0⟩ := hQ127
        have N127 := Fr.app N124 Nq127
        refine own_st (fun _ k => st127.trans k) ?_
        have e127 : T127.heap = T127.heap := rfl
        show own_Ok p e below _ (T127.setTop (mkF m 149 #[.val (.int xa), .val (.int xb), .val (.int (2 : Int32)), .val (.ref b123), .unset, .unset] [(.ref b126)]))
        refine own_st (fun _ k => XS.astore X127.here hx rfl (hb hby at_149) rfl rfl (l' := #[.val (.int xa), .val (.int xb), .val (.int (2 : Int32)), .val (.ref b123), .val (.ref b126), .unset]) rfl k) ?_
        show own_Ok p e below _ (T127.setTop (mkF m 151 #[.val (.int xa), .val (.int xb), .val (.int (2 : Int32)), .val (.ref b123), .val (.ref b126), .unset] []))
        refine own_st (fun _ k => XS.iloadN X127.here hx rfl (hb hby at_151) rfl k) ?_
        show own_Ok p e below _ (T127.setTop (mkF m 152 #[.val (.int xa), .val (.int xb), .val (.int (2 : Int32)), .val (.ref b123), .val (.ref b126), .unset] [(.int (2 : Int32))]))
        refine own_st (fun _ k => XS.iconst X127.here hx rfl (hb hby at_152) k) ?_
        show own_Ok p e below _ (T127.setTop (mkF m 153 #[.val (.int xa), .val (.int xb), .val (.int (2 : Int32)), .val (.ref b123), .val (.ref b126), .unset] [(.int (3 : Int32)), (.int (2 : Int32))]))
        refine own_st (fun _ k => XS.icmpYes X127.here hx rfl (pc0 := 153) (pc' := 160) rfl (hb hby at_153) rfl (XT.ii_lt_t (by decide)) (by decide) (by decide) k) ?_
        show own_Ok p e below _ (T127.setTop (mkF m 160 #[.val (.int xa), .val (.int xb), .val (.int (2 : Int32)), .val (.ref b123), .val (.ref b126), .unset] []))
        refine own_st (fun _ k => XS.iconst X127.here hx rfl (hb hby at_160) k) ?_
        show own_Ok p e below _ (T127.setTop (mkF m 161 #[.val (.int xa), .val (.int xb), .val (.int (2 : Int32)), .val (.ref b123), .val (.ref b126), .unset] [(.int (0 : Int32))]))
        refine own_st (fun _ k => XS.istore X127.here hx rfl (hb hby at_161) rfl (l' := #[.val (.int xa), .val (.int xb), .val (.int (2 : Int32)), .val (.ref b123), .val (.ref b126), .val (.int (0 : Int32))]) rfl k) ?_
        show own_Ok p e below _ (T127.setTop (mkF m 163 #[.val (.int xa), .val (.int xb), .val (.int (2 : Int32)), .val (.ref b123), .val (.ref b126), .val (.int (0 : Int32))] []))
        refine own_st (fun _ k => XS.aload X127.here hx rfl (hb hby at_163) rfl rfl k) ?_
        show own_Ok p e below _ (T127.setTop (mkF m 165 #[.val (.int xa), .val (.int xb), .val (.int (2 : Int32)), .val (.ref b123), .val (.ref b126), .val (.int (0 : Int32))] [(.ref b126)]))
        have f130 := A123.ext E126
        have f131 := f130.keep K127
        have f132 := f128.keep K127 (allS gb_b126 all0)
        have f133 := A126.keep K127
        obtain ⟨cq129, kq129, q129a, q129b, q129c⟩ := isOf hZ e127 f133
        obtain ⟨_, _, ⟨T129, L129, k129, n129⟩, -, X129, ⟨Lc129, hQ129, l129, y129, z129⟩, st129⟩ := X127.virtualBack hx (y := (⟨"com/example/tandemwick/tandemwick/FutureState$Special", "isPending", "()Z"⟩ : MethodName)) (z := (⟨"com/example/tandemwick/tandemwick/FutureState$Special", "isPending", "()Z"⟩ : MethodName)) hown (mvT hZ (hw _ (List.mem_of_getElem? (i := 11) rfl))) (mvT hZ (hw _ (List.mem_of_getElem? (i := 12) rfl))) (notFace_of_selects (args := #[]) (mvT hZ (hw _ (List.mem_of_getElem? (i := 14) rfl)))) (mvT hZ (hw _ (List.mem_of_getElem? (i := 14) rfl))) (mvT hZ (hw _ (List.mem_of_getElem? (i := 13) rfl))) (by decide) (backOf (W := 0) (rm_pend_C l Z a0 hw [] b126 b123 T127.heap n0 f132 g127_0 f131) hZ (hw _ (List.mem_of_getElem? (i := 15) rfl)) (hw _ (List.mem_of_getElem? (i := 2) rfl)) (by decide) (by decide)) q129a q129c (g := (mkF m 165 #[.val (.int xa), .val (.int xb), .val (.int (2 : Int32)), .val (.ref b123), .val (.ref b126), .val (.int (0 : Int32))] [(.ref b126)])) rfl (by rw [hml]; rfl) (Steps.refl _) (argsL := []) (rest := []) (lenOf own_pd4 rfl) rfl (by show 2 * 0 + _ ≤ _; exact Nat.le_of_eq rfl) (hb hby at_165) (fun _ _ => ⟨rfl, e127, (by decide : 2 + 0 ≤ _), (by decide : 1 + 0 ≤ _)⟩)
        dsimp only [Pt.U, Pt.locs, Pt.cells, Pt.slots] at X129 l129 y129 z129 st129 hQ129
        subst l129 y129 z129
        obtain ⟨rfl, Nq129, e129⟩ := hQ129
        have N129 := Fr.app N127 Nq129
        refine own_st (fun _ k => st129.trans k) ?_
        show own_Ok p e below _ (T129.setTop (mkF m 168 #[.val (.int xa), .val (.int xb), .val (.int (2 : Int32)), .val (.ref b123), .val (.ref b126), .val (.int (0 : Int32))] [(.int (0 : Int32))]))
        refine own_st (fun _ k => XS.iload X129.here hx rfl (hb hby at_168) rfl k) ?_
        show own_Ok p e below _ (T129.setTop (mkF m 170 #[.val (.int xa), .val (.int xb), .val (.int (2 : Int32)), .val (.ref b123), .val (.ref b126), .val (.int (0 : Int32))] [(.int (0 : Int32)), (.int (0 : Int32))]))
        refine own_st (fun _ k => XS.icmpNo X129.here hx rfl (hb hby at_170) rfl (XT.ii_ne_f (by decide)) k) ?_
        show own_Ok p e below _ (T129.setTop (mkF m 173 #[.val (.int xa), .val (.int xb), .val (.int (2 : Int32)), .val (.ref b123), .val (.ref b126), .val (.int (0 : Int32))] []))
        refine own_st (fun _ k => XS.iconst X129.here hx rfl (hb hby at_173) k) ?_
        show own_Ok p e below _ (T129.setTop (mkF m 174 #[.val (.int xa), .val (.int xb), .val (.int (2 : Int32)), .val (.ref b123), .val (.ref b126), .val (.int (0 : Int32))] [(.int (1 : Int32))]))
        refine own_st (fun _ k => XS.goto X129.here hx rfl (pc0 := 174) (pc' := 178) rfl (hb hby at_174) (by decide) (by decide) k) ?_
        show own_Ok p e below _ (T129.setTop (mkF m 178 #[.val (.int xa), .val (.int xb), .val (.int (2 : Int32)), .val (.ref b123), .val (.ref b126), .val (.int (0 : Int32))] [(.int (1 : Int32))]))
        exact own_retN X129 hx hlk (t := .boolean) Bd.returns (by simp) (hb hby at_178) (by rw [e129]; exact ⟨rfl, N129⟩) (by decide) (by decide)
      · skip
        refine own_st (fun _ k => XS.icmpYes X0.here hx rfl (pc0 := 33) (pc' := 47) rfl (hb hby at_33) rfl (XT.ii_ne_t c33_122) (by decide) (by decide) k) ?_
        show own_Ok p e below _ (s₁.setTop (mkF m 47 #[.val (.int xa), .val (.int xb), .val (.int (xa &&& (7 : Int32))), .unset, .unset, .unset] []))
        refine own_st (fun _ k => XS.iloadN X0.here hx rfl (hb hby at_47) rfl k) ?_
        show own_Ok p e below _ (s₁.setTop (mkF m 48 #[.val (.int xa), .val (.int xb), .val (.int (xa &&& (7 : Int32))), .unset, .unset, .unset] [(.int (xa &&& (7 : Int32)))]))
        refine own_st (fun _ k => XS.iconst X0.here hx rfl (hb hby at_48) k) ?_
        show own_Ok p e below _ (s₁.setTop (mkF m 49 #[.val (.int xa), .val (.int xb), .val (.int (xa &&& (7 : Int32))), .unset, .unset, .unset] [(.int (3 : Int32)), (.int (xa &&& (7 : Int32)))]))
        by_cases c49_134 : (xa &&& (7 : Int32)) = (3 : Int32)
        · skip
          refine own_st (fun _ k => XS.icmpNo X0.here hx rfl (hb hby at_49) rfl (XT.ii_ne_f c49_134) k) ?_
          show own_Ok p e below _ (s₁.setTop (mkF m 52 #[.val (.int xa), .val (.int xb), .val (.int (xa &&& (7 : Int32))), .unset, .unset, .unset] []))
          rw [show (xa &&& (7 : Int32)) = (3 : Int32) from c49_134]
          show own_Ok p e below _ (s₁.setTop (mkF m 52 #[.val (.int xa), .val (.int xb), .val (.int (3 : Int32)), .unset, .unset, .unset] []))
          refine own_st (fun _ k => XS.iloadN X0.here hx rfl (hb hby at_52) rfl k) ?_
          show own_Ok p e below _ (s₁.setTop (mkF m 53 #[.val (.int xa), .val (.int xb), .val (.int (3 : Int32)), .unset, .unset, .unset] [(.int xb)]))
          obtain ⟨_, _, ⟨T135, L135, k135, n135⟩, -, X135, ⟨Lc135, hQ135, l135, y135, z135⟩, st135⟩ := Jvm.LawKit.callS X0 hx (y := (⟨"java/lang/Integer", "valueOf", "(I)Ljava/lang/Integer;"⟩ : MethodName)) hown (mvT hZ (hw _ (List.mem_of_getElem? (i := 81) rfl))) (mvT hZ (hw _ (List.mem_of_getElem? (i := 82) rfl))) (mvT hZ (hw _ (List.mem_of_getElem? (i := 83) rfl))) (mvT hZ (hw _ (List.mem_of_getElem? (i := 84) rfl))) (by decide) (backOf (W := 0) (rm_voI l Z a0 hw [] xb cai cli h0 n0 O0 SHI SCI CAI hszI elI) hZ (hw _ (List.mem_of_getElem? (i := 84) rfl)) (hw _ (List.mem_of_getElem? (i := 83) rfl)) (by decide) (by decide)) (g := (mkF m 53 #[.val (.int xa), .val (.int xb), .val (.int (3 : Int32)), .unset, .unset, .unset] [(.int xb)])) rfl (by rw [hml]; rfl) (argsL := [(.int xb)]) (rest := []) (lenOf own_pd6 rfl) rfl (by show 2 * 0 + _ ≤ _; exact Nat.le_of_eq rfl) (hb hby at_53) (fun _ _ => ⟨rfl, e0, (by decide : 0 + 1 ≤ _), (by decide : 0 + 1 ≤ _)⟩)
          dsimp only [Pt.U, Pt.locs, Pt.cells, Pt.slots] at X135 l135 y135 z135 st135 hQ135
          subst l135 y135 z135
          obtain ⟨t_135, rfl, Nq135, K135, g135_0⟩ := hQ135
          have N135 := Fr.app N0 Nq135
          refine own_st st135 ?_
          have e135 : T135.heap = T135.heap := rfl
          show own_Ok p e below _ (T135.setTop (mkF m 56 #[.val (.int xa), .val (.int xb), .val (.int (3 : Int32)), .unset, .unset, .unset] [(.ref t_135)]))
          refine own_st (fun _ k => XS.astoreN X135.here hx rfl (hb hby at_56) rfl rfl (l' := #[.val (.int xa), .val (.int xb), .val (.int (3 : Int32)), .val (.ref t_135), .unset, .unset]) rfl k) ?_
          show own_Ok p e below _ (T135.setTop (mkF m 57 #[.val (.int xa), .val (.int xb), .val (.int (3 : Int32)), .val (.ref t_135), .unset, .unset] []))
          refine own_st (fun _ k => XS.goto X135.here hx rfl (pc0 := 57) (pc' := 141) rfl (hb hby at_57) (by decide) (by decide) k) ?_
          show own_Ok p e below _ (T135.setTop (mkF m 141 #[.val (.int xa), .val (.int xb), .val (.int (3 : Int32)), .val (.ref t_135), .unset, .unset] []))
          obtain ⟨T136, h136, X136, e136, E136, A136, D136, -, st136⟩ := newO X135 hx hZ hown (hw _ (List.mem_of_getElem? (i := 0) rfl)) (hw _ (List.mem_of_getElem? (i := 1) rfl)) (hw _ (List.mem_of_getElem? (i := 2) rfl)) e135 (g := (mkF m 141 #[.val (.int xa), .val (.int xb), .val (.int (3 : Int32)), .val (.ref t_135), .unset, .unset] [])) rfl (hb hby at_141) (by decide) (by decide)
          obtain ⟨b136, g136⟩ : ∃ z, z = T135.heap.size := ⟨_, rfl⟩
          rw [← g136] at A136 D136 st136
          refine own_st st136 ?_
          have f137 := O0.keep K135 all0
          have gb_b136 : n0 ≤ b136 := Nat.le_trans (own_n0 f137) (Nat.le_of_eq g136.symm)
          have ne_t_135_b136 : t_135 ≠ b136 := Nat.ne_of_lt (Nat.lt_of_lt_of_le g135_0.lt (Nat.le_of_eq g136.symm))
          have F136_content : Fld Z h136 b136 "com/example/tandemwick/tandemwick/FutureState$Special" "content" "Ljava/lang/Object;" .null := D136 (Or.inr (hw _ (List.mem_of_getElem? (i := 10) rfl))) (ty := (.object "java/lang/Object")) (by decide)
          show own_Ok p e below _ (T136.setTop (mkF m 144 #[.val (.int xa), .val (.int xb), .val (.int (3 : Int32)), .val (.ref t_135), .unset, .unset] [(.ref b136)]))
          refine own_st (fun _ k => XS.dup X136.here hx rfl (hb hby at_144) rfl rfl k) ?_
          show own_Ok p e below _ (T136.setTop (mkF m 145 #[.val (.int xa), .val (.int xb), .val (.int (3 : Int32)), .val (.ref t_135), .unset, .unset] [(.ref b136), (.ref b136)]))
          refine own_st (fun _ k => XS.aloadN X136.here hx rfl (hb hby at_145) rfl rfl k) ?_
          show own_Ok p e below _ (T136.setTop (mkF m 146 #[.val (.int xa), .val (.int xb), .val (.int (3 : Int32)), .val (.ref t_135), .unset, .unset] [(.ref t_135), (.ref b136), (.ref b136)]))
          have f139 := f137.ext E136
          obtain ⟨_, _, ⟨T138, L138, k138, n138⟩, -, X138, ⟨Lc138, hQ138, l138, y138, z138⟩, st138⟩ := X136.specialBack hx (y := (⟨"com/example/tandemwick/tandemwick/FutureState$Special", "<init>", "(Ljava/lang/Object;)V"⟩ : MethodName)) rfl hown (mvT hZ (hw _ (List.mem_of_getElem? (i := 3) rfl))) (mvT hZ (hw _ (List.mem_of_getElem? (i := 4) rfl))) (mvT hZ (hw _ (List.mem_of_getElem? (i := 5) rfl))) (by decide) (backOf (W := 1) (rm1 l Z a0 hw [] b136 ((.ref t_135)) h136 n0 f139 rfl A136 F136_content gb_b136) hZ (hw _ (List.mem_of_getElem? (i := 5) rfl)) (hw _ (List.mem_of_getElem? (i := 2) rfl)) (by decide) (by decide)) (g := (mkF m 146 #[.val (.int xa), .val (.int xb), .val (.int (3 : Int32)), .val (.ref t_135), .unset, .unset] [(.ref t_135), (.ref b136), (.ref b136)])) rfl (by rw [hml]; rfl) (Steps.refl _) (a := b136) (argsL := [(.ref t_135)]) (rest := [(.ref b136)]) (lenOf own_pd3 rfl) rfl (by show 2 * 0 + _ ≤ _; exact Nat.le_of_eq rfl) (hb hby at_146) (fun _ _ => ⟨rfl, e136, (by decide : 2 + 0 ≤ _), (by decide : 2 + 0 ≤ _)⟩)
          dsimp only [Pt.U, Pt.locs, Pt.cells, Pt.slots] at X138 l138 y138 z138 st138 hQ138
          subst l138 y138 z138
          obtain ⟨rfl, Nq138, K138, g138_0⟩ := hQ138
          have N138 := Fr.app N135 Nq138
          refine own_st (fun _ k => st138.trans k) ?_
          have e138 : T138.heap = T138.heap := rfl
          show own_Ok p e below _ (T138.setTop (mkF m 149 #[.val (.int xa), .val (.int xb), .val (.int (3 : Int32)), .val (.ref t_135), .unset, .unset] [(.ref b136)]))
          refine own_st (fun _ k => XS.astore X138.here hx rfl (hb hby at_149) rfl rfl (l' := #[.val (.int xa), .val (.int xb), .val (.int (3 : Int32)), .val (.ref t_135), .val (.ref b136), .unset]) rfl k) ?_
          show own_Ok p e below _ (T138.setTop (mkF m 151 #[.val (.int xa), .val (.int xb), .val (.int (3 : Int32)), .val (.ref t_135), .val (.ref b136), .unset] []))
          refine own_st (fun _ k => XS.iloadN X138.here hx rfl (hb hby at_151) rfl k) ?_
          show own_Ok p e below _ (T138.setTop (mkF m 152 #[.val (.int xa), .val (.int xb), .val (.int (3 : Int32)), .val (.ref t_135), .val (.ref b136), .unset] [(.int (3 : Int32))]))
          refine own_st (fun _ k => XS.iconst X138.here hx rfl (hb hby at_152) k) ?_
          show own_Ok p e below _ (T138.setTop (mkF m 153 #[.val (.int xa), .val (.int xb), .val (.int (3 : Int32)), .val (.ref t_135), .val (.ref b136), .unset] [(.int (3 : Int32)), (.int (3 : Int32))]))
          refine own_st (fun _ k => XS.icmpNo X138.here hx rfl (hb hby at_153) rfl (XT.ii_lt_f (by decide)) k) ?_
          show own_Ok p e below _ (T138.setTop (mkF m 156 #[.val (.int xa), .val (.int xb), .val (.int (3 : Int32)), .val (.ref t_135), .val (.ref b136), .unset] []))
          refine own_st (fun _ k => XS.iconst X138.here hx rfl (hb hby at_156) k) ?_
          show own_Ok p e below _ (T138.setTop (mkF m 157 #[.val (.int xa), .val (.int xb), .val (.int (3 : Int32)), .val (.ref t_135), .val (.ref b136), .unset] [(.int (1 : Int32))]))
          refine own_st (fun _ k => XS.goto X138.here hx rfl (pc0 := 157) (pc' := 161) rfl (hb hby at_157) (by decide) (by decide) k) ?_
          show own_Ok p e below _ (T138.setTop (mkF m 161 #[.val (.int xa), .val (.int xb), .val (.int (3 : Int32)), .val (.ref t_135), .val (.ref b136), .unset] [(.int (1 : Int32))]))
          refine own_st (fun _ k => XS.istore X138.here hx rfl (hb hby at_161) rfl (l' := #[.val (.int xa), .val (.int xb), .val (.int (3 : Int32)), .val (.ref t_135), .val (.ref b136), .val (.int (1 : Int32))]) rfl k) ?_
          show own_Ok p e below _ (T138.setTop (mkF m 163 #[.val (.int xa), .val (.int xb), .val (.int (3 : Int32)), .val (.ref t_135), .val (.ref b136), .val (.int (1 : Int32))] []))
          refine own_st (fun _ k => XS.aload X138.here hx rfl (hb hby at_163) rfl rfl k) ?_
          show own_Ok p e below _ (T138.setTop (mkF m 165 #[.val (.int xa), .val (.int xb), .val (.int (3 : Int32)), .val (.ref t_135), .val (.ref b136), .val (.int (1 : Int32))] [(.ref b136)]))
          have f141 := g135_0.ext E136
          have f142 := f141.keep K138
          have f143 := f139.keep K138 (allS gb_b136 all0)
          have f144 := A136.keep K138
          obtain ⟨cq140, kq140, q140a, q140b, q140c⟩ := isOf hZ e138 f144
          obtain ⟨_, _, ⟨T140, L140, k140, n140⟩, -, X140, ⟨Lc140, hQ140, l140, y140, z140⟩, st140⟩ := X138.virtualBack hx (y := (⟨"com/example/tandemwick/tandemwick/FutureState$Special", "isPending", "()Z"⟩ : MethodName)) (z := (⟨"com/example/tandemwick/tandemwick/FutureState$Special", "isPending", "()Z"⟩ : MethodName)) hown (mvT hZ (hw _ (List.mem_of_getElem? (i := 11) rfl))) (mvT hZ (hw _ (List.mem_of_getElem? (i := 12) rfl))) (notFace_of_selects (args := #[]) (mvT hZ (hw _ (List.mem_of_getElem? (i := 14) rfl)))) (mvT hZ (hw _ (List.mem_of_getElem? (i := 14) rfl))) (mvT hZ (hw _ (List.mem_of_getElem? (i := 13) rfl))) (by decide) (backOf (W := 0) (rm_pend_I l Z a0 hw [] b136 t_135 T138.heap n0 f143 g138_0 f142) hZ (hw _ (List.mem_of_getElem? (i := 15) rfl)) (hw _ (List.mem_of_getElem? (i := 2) rfl)) (by decide) (by decide)) q140a q140c (g := (mkF m 165 #[.val (.int xa), .val (.int xb), .val (.int (3 : Int32)), .val (.ref t_135), .val (.ref b136), .val (.int (1 : Int32))] [(.ref b136)])) rfl (by rw [hml]; rfl) (Steps.refl _) (argsL := []) (rest := []) (lenOf own_pd4 rfl) rfl (by show 2 * 0 + _ ≤ _; exact Nat.le_of_eq rfl) (hb hby at_165) (fun _ _ => ⟨rfl, e138, (by decide : 2 + 0 ≤ _), (by decide : 2 + 0 ≤ _)⟩)
          dsimp only [Pt.U, Pt.locs, Pt.cells, Pt.slots] at X140 l140 y140 z140 st140 hQ140
          subst l140 y140 z140
          obtain ⟨rfl, Nq140, e140⟩ := hQ140
          have N140 := Fr.app N138 Nq140
          refine own_st (fun _ k => st140.trans k) ?_
          show own_Ok p e below _ (T140.setTop (mkF m 168 #[.val (.int xa), .val (.int xb), .val (.int (3 : Int32)), .val (.ref t_135), .val (.ref b136), .val (.int (1 : Int32))] [(.int (1 : Int32))]))
          refine own_st (fun _ k => XS.iload X140.here hx rfl (hb hby at_168) rfl k) ?_
          show own_Ok p e below _ (T140.setTop (mkF m 170 #[.val (.int xa), .val (.int xb), .val (.int (3 : Int32)), .val (.ref t_135), .val (.ref b136), .val (.int (1 : Int32))] [(.int (1 : Int32)), (.int (1 : Int32))]))
          refine own_st (fun _ k => XS.icmpNo X140.here hx rfl (hb hby at_170) rfl (XT.ii_ne_f (by decide)) k) ?_
          show own_Ok p e below _ (T140.setTop (mkF m 173 #[.val (.int xa), .val (.int xb), .val (.int (3 : Int32)), .val (.ref t_135), .val (.ref b136), .val (.int (1 : Int32))] []))
          refine own_st (fun _ k => XS.iconst X140.here hx rfl (hb hby at_173) k) ?_
          show own_Ok p e below _ (T140.setTop (mkF m 174 #[.val (.int xa), .val (.int xb), .val (.int (3 : Int32)), .val (.ref t_135), .val (.ref b136), .val (.int (1 : Int32))] [(.int (1 : Int32))]))
          refine own_st (fun _ k => XS.goto X140.here hx rfl (pc0 := 174) (pc' := 178) rfl (hb hby at_174) (by decide) (by decide) k) ?_
          show own_Ok p e below _ (T140.setTop (mkF m 178 #[.val (.int xa), .val (.int xb), .val (.int (3 : Int32)), .val (.ref t_135), .val (.ref b136), .val (.int (1 : Int32))] [(.int (1 : Int32))]))
          exact own_retN X140 hx hlk (t := .boolean) Bd.returns (by simp) (hb hby at_178) (by rw [e140]; exact ⟨rfl, N140⟩) (by decide) (by decide)
        · skip
          refine own_st (fun _ k => XS.icmpYes X0.here hx rfl (pc0 := 49) (pc' := 60) rfl (hb hby at_49) rfl (XT.ii_ne_t c49_134) (by decide) (by decide) k) ?_
          show own_Ok p e below _ (s₁.setTop (mkF m 60 #[.val (.int xa), .val (.int xb), .val (.int (xa &&& (7 : Int32))), .unset, .unset, .unset] []))
          refine own_st (fun _ k => XS.iloadN X0.here hx rfl (hb hby at_60) rfl k) ?_
          show own_Ok p e below _ (s₁.setTop (mkF m 61 #[.val (.int xa), .val (.int xb), .val (.int (xa &&& (7 : Int32))), .unset, .unset, .unset] [(.int (xa &&& (7 : Int32)))]))
          refine own_st (fun _ k => XS.iconst X0.here hx rfl (hb hby at_61) k) ?_
          show own_Ok p e below _ (s₁.setTop (mkF m 62 #[.val (.int xa), .val (.int xb), .val (.int (xa &&& (7 : Int32))), .unset, .unset, .unset] [(.int (4 : Int32)), (.int (xa &&& (7 : Int32)))]))
          by_cases c62_145 : (xa &&& (7 : Int32)) = (4 : Int32)
          · skip
            refine own_st (fun _ k => XS.icmpNo X0.here hx rfl (hb hby at_62) rfl (XT.ii_ne_f c62_145) k) ?_
            show own_Ok p e below _ (s₁.setTop (mkF m 65 #[.val (.int xa), .val (.int xb), .val (.int (xa &&& (7 : Int32))), .unset, .unset, .unset] []))
            rw [show (xa &&& (7 : Int32)) = (4 : Int32) from c62_145]
            show own_Ok p e below _ (s₁.setTop (mkF m 65 #[.val (.int xa), .val (.int xb), .val (.int (4 : Int32)), .unset, .unset, .unset] []))
            refine own_st (fun _ k => XS.iconst X0.here hx rfl (hb hby at_65) k) ?_
            show own_Ok p e below _ (s₁.setTop (mkF m 66 #[.val (.int xa), .val (.int xb), .val (.int (4 : Int32)), .unset, .unset, .unset] [(.int (1 : Int32))]))
            obtain ⟨T146, h146, k146, X146, e146, E146, A146, st146⟩ := newP X0 hx hZ (hw _ (List.mem_of_getElem? (i := 20) rfl)) e0 (g := (mkF m 66 #[.val (.int xa), .val (.int xb), .val (.int (4 : Int32)), .unset, .unset, .unset] [(.int (1 : Int32))])) rfl (hb hby at_66) rfl (by decide) (cap := 1) (by decide) (by decide) (by decide) (by decide)
            obtain ⟨b146, g146⟩ : ∃ z, z = h0.size := ⟨_, rfl⟩
            rw [← g146] at A146 st146
            refine own_st st146 ?_
            have gb_b146 : n0 ≤ b146 := Nat.le_trans (own_n0 O0) (Nat.le_of_eq g146.symm)
            have V146 : Arv Z h146 b146 k146 .char (1 : Int32) [(.int (0 : Int32))] (.int (0 : Int32)) := (Arv.new A146 (by decide)).pad (pad_rep [] (.int (0 : Int32)) 1)
            show own_Ok p e below _ (T146.setTop (mkF m 68 #[.val (.int xa), .val (.int xb), .val (.int (4 : Int32)), .unset, .unset, .unset] [(.ref b146)]))
            refine own_st (fun _ k => XS.astore X146.here hx rfl (hb hby at_68) rfl rfl (l' := #[.val (.int xa), .val (.int xb), .val (.int (4 : Int32)), .unset, .val (.ref b146), .unset]) rfl k) ?_
            show own_Ok p e below _ (T146.setTop (mkF m 70 #[.val (.int xa), .val (.int xb), .val (.int (4 : Int32)), .unset, .val (.ref b146), .unset] []))
            refine own_st (fun _ k => XS.aload X146.here hx rfl (hb hby at_70) rfl rfl k) ?_
            show own_Ok p e below _ (T146.setTop (mkF m 72 #[.val (.int xa), .val (.int xb), .val (.int (4 : Int32)), .unset, .val (.ref b146), .unset] [(.ref b146)]))
            refine own_st (fun _ k => XS.iconst X146.here hx rfl (hb hby at_72) k) ?_
            show own_Ok p e below _ (T146.setTop (mkF m 73 #[.val (.int xa), .val (.int xb), .val (.int (4 : Int32)), .unset, .val (.ref b146), .unset] [(.int (0 : Int32)), (.ref b146)]))
            refine own_st (fun _ k => XS.iloadN X146.here hx rfl (hb hby at_73) rfl k) ?_
            show own_Ok p e below _ (T146.setTop (mkF m 74 #[.val (.int xa), .val (.int xb), .val (.int (4 : Int32)), .unset, .val (.ref b146), .unset] [(.int xb), (.int (0 : Int32)), (.ref b146)]))
            refine own_st (fun _ k => XS.sipush X146.here hx rfl (hb hby at_74) k) ?_
            show own_Ok p e below _ (T146.setTop (mkF m 77 #[.val (.int xa), .val (.int xb), .val (.int (4 : Int32)), .unset, .val (.ref b146), .unset] [(.int (255 : Int32)), (.int xb), (.int (0 : Int32)), (.ref b146)]))
            refine own_st (fun _ k => XS.iand X146.here hx rfl (hb hby at_77) rfl k) ?_
            show own_Ok p e below _ (T146.setTop (mkF m 78 #[.val (.int xa), .val (.int xb), .val (.int (4 : Int32)), .unset, .val (.ref b146), .unset] [(.int (xb &&& (255 : Int32))), (.int (0 : Int32)), (.ref b146)]))
            refine own_st (fun _ k => XS.i2c X146.here hx rfl (hb hby at_78) rfl k) ?_
            show own_Ok p e below _ (T146.setTop (mkF m 79 #[.val (.int xa), .val (.int xb), .val (.int (4 : Int32)), .unset, .val (.ref b146), .unset] [(.int ((xb &&& (255 : Int32)).toUInt32.toUInt16.toUInt32.toInt32)), (.int (0 : Int32)), (.ref b146)]))
            obtain ⟨T147, h147, X147, e147, W147, V147, st147⟩ := own_stC X146 hx hZ e146 V146 0 rfl (by decide) (by decide) (Nat.le_of_ble_eq_true rfl) (g := (mkF m 79 #[.val (.int xa), .val (.int xb), .val (.int (4 : Int32)), .unset, .val (.ref b146), .unset] [(.int ((xb &&& (255 : Int32)).toUInt32.toUInt16.toUInt32.toInt32)), (.int (0 : Int32)), (.ref b146)])) rfl rfl (hb hby at_79)
            refine own_st st147 ?_
            have V147' : Arv Z h147 b146 k146 .char (1 : Int32) [(.int (nar .char ((xb &&& (255 : Int32)).toUInt32.toUInt16.toUInt32.toInt32)))] (.int (0 : Int32)) := V147
            have N147 := Fr.snoc X147 N0 gb_b146
            show own_Ok p e below _ (T147.setTop (mkF m 80 #[.val (.int xa), .val (.int xb), .val (.int (4 : Int32)), .unset, .val (.ref b146), .unset] []))
            obtain ⟨T148, h148, X148, e148, E148, A148, D148, -, st148⟩ := newO X147 hx hZ hown (hw _ (List.mem_of_getElem? (i := 21) rfl)) (hw _ (List.mem_of_getElem? (i := 22) rfl)) (hw _ (List.mem_of_getElem? (i := 23) rfl)) e147 (g := (mkF m 80 #[.val (.int xa), .val (.int xb), .val (.int (4 : Int32)), .unset, .val (.ref b146), .unset] [])) rfl (hb hby at_80) (by decide) (by decide)
            obtain ⟨b148, g148⟩ : ∃ z, z = h147.size := ⟨_, rfl⟩
            rw [← g148] at A148 D148 st148
            refine own_st st148 ?_
            have f149 := O0.ext E146
            have f150 := f149.wr W147 gb_b146
            have gb_b148 : n0 ≤ b148 := Nat.le_trans (own_n0 f150) (Nat.le_of_eq g148.symm)
            have ne_b146_b148 : b146 ≠ b148 := Nat.ne_of_lt (Nat.lt_of_lt_of_le V147'.lt (Nat.le_of_eq g148.symm))
            have F148_coder : Fld Z h148 b148 "java/lang/String" "coder" "B" (.int (0 : Int32)) := D148 (Or.inr (hw _ (List.mem_of_getElem? (i := 45) rfl))) (ty := .byte) (by decide)
            have F148_value : Fld Z h148 b148 "java/lang/String" "value" "[B" .null := D148 (Or.inr (hw _ (List.mem_of_getElem? (i := 47) rfl))) (ty := (.array .byte)) (by decide)
            show own_Ok p e below _ (T148.setTop (mkF m 83 #[.val (.int xa), .val (.int xb), .val (.int (4 : Int32)), .unset, .val (.ref b146), .unset] [(.ref b148)]))
            refine own_st (fun _ k => XS.dup X148.here hx rfl (hb hby at_83) rfl rfl k) ?_
            show own_Ok p e below _ (T148.setTop (mkF m 84 #[.val (.int xa), .val (.int xb), .val (.int (4 : Int32)), .unset, .val (.ref b146), .unset] [(.ref b148), (.ref b148)]))
            refine own_st (fun _ k => XS.aload X148.here hx rfl (hb hby at_84) rfl rfl k) ?_
            show own_Ok p e below _ (T148.setTop (mkF m 86 #[.val (.int xa), .val (.int xb), .val (.int (4 : Int32)), .unset, .val (.ref b146), .unset] [(.ref b146), (.ref b148), (.ref b148)]))
            have f152 := V147'.ext E148
            have f153 := f150.ext E148
            obtain ⟨_, _, ⟨T151, L151, k151, n151⟩, -, X151, ⟨Lc151, hQ151, l151, y151, z151⟩, st151⟩ := X148.specialBack hx (y := (⟨"java/lang/String", "<init>", "([C)V"⟩ : MethodName)) rfl hown (mvT hZ (hw _ (List.mem_of_getElem? (i := 24) rfl))) (mvT hZ (hw _ (List.mem_of_getElem? (i := 25) rfl))) (mvT hZ (hw _ (List.mem_of_getElem? (i := 26) rfl))) (by decide) (StrChars.Road.backV (W := 1) hZ hws (kI := 4) (hw _ (List.mem_of_getElem? (i := 22) rfl)) (cs := ([(nar .char ((xb &&& (255 : Int32)).toUInt32.toUInt16.toUInt32.toInt32))] : List Int32)) (bs := (([(nar .char ((xb &&& (255 : Int32)).toUInt32.toUInt16.toUInt32.toInt32))] : List Int32)).map (fun c => c.toInt8.toInt32)) (n := 1) gb_b148 (own_n0 f153) A148 F148_value F148_coder f152 (SG1.ext f153.2) PG1 rfl rfl (by decide) (by decide) (own_hp xb) rfl (by decide) (by decide)) (g := (mkF m 86 #[.val (.int xa), .val (.int xb), .val (.int (4 : Int32)), .unset, .val (.ref b146), .unset] [(.ref b146), (.ref b148), (.ref b148)])) rfl (by rw [hml]; rfl) (Steps.refl _) (a := b148) (argsL := [(.ref b146)]) (rest := [(.ref b148)]) (lenOf own_pd7 rfl) rfl (by show 2 * 0 + _ ≤ _; exact Nat.le_of_eq rfl) (hb hby at_86) (fun _ _ => ⟨rfl, e148, (by decide : 2 + 1 ≤ _), (by decide : 5 + 1 ≤ _)⟩)
            dsimp only [Pt.U, Pt.locs, Pt.cells, Pt.slots] at X151 l151 y151 z151 st151 hQ151
            subst l151 y151 z151
            obtain ⟨rfl, Nq151, K151, g151_0, g151_1, tS_153, kS_153, u1_153, u2_153, u3_153, vS_153, aS_153⟩ := hQ151
            have N151 := Fr.app N147 Nq151
            refine own_st (fun _ k => st151.trans k) ?_
            have gb_tS_153 : n0 ≤ tS_153 := Nat.le_trans (own_n0 f153) u2_153
            have ne_b146_tS_153 : b146 ≠ tS_153 := Nat.ne_of_lt (Nat.lt_of_lt_of_le f152.lt u2_153)
            have ne_b148_tS_153 : b148 ≠ tS_153 := Nat.ne_of_lt (Nat.lt_of_lt_of_le A148.lt u2_153)
            have e151 : T151.heap = T151.heap := rfl
            show own_Ok p e below _ (T151.setTop (mkF m 89 #[.val (.int xa), .val (.int xb), .val (.int (4 : Int32)), .unset, .val (.ref b146), .unset] [(.ref b148)]))
            show own_Ok p e below _ (T151.setTop (mkF m 89 #[.val (.int xa), .val (.int xb), .val (.int (4 : Int32)), .unset, .val (.ref b146), .unset] [(.ref b148)]))
            refine own_st (fun _ k => XS.astoreN X151.here hx rfl (hb hby at_89) rfl rfl (l' := #[.val (.int xa), .val (.int xb), .val (.int (4 : Int32)), .val (.ref b148), .val (.ref b146), .unset]) rfl k) ?_
            show own_Ok p e below _ (T151.setTop (mkF m 90 #[.val (.int xa), .val (.int xb), .val (.int (4 : Int32)), .val (.ref b148), .val (.ref b146), .unset] []))
            refine own_st (fun _ k => XS.goto X151.here hx rfl (pc0 := 90) (pc' := 141) rfl (hb hby at_90) (by decide) (by decide) k) ?_
            show own_Ok p e below _ (T151.setTop (mkF m 141 #[.val (.int xa), .val (.int xb), .val (.int (4 : Int32)), .val (.ref b148), .val (.ref b146), .unset] []))
            obtain ⟨T154, h154, X154, e154, E154, A154, D154, -, st154⟩ := newO X151 hx hZ hown (hw _ (List.mem_of_getElem? (i := 0) rfl)) (hw _ (List.mem_of_getElem? (i := 1) rfl)) (hw _ (List.mem_of_getElem? (i := 2) rfl)) e151 (g := (mkF m 141 #[.val (.int xa), .val (.int xb), .val (.int (4 : Int32)), .val (.ref b148), .val (.ref b146), .unset] [])) rfl (hb hby at_141) (by decide) (by decide)
            obtain ⟨b154, g154⟩ : ∃ z, z = T151.heap.size := ⟨_, rfl⟩
            rw [← g154] at A154 D154 st154
            refine own_st st154 ?_
            have f155 := f153.keep K151 (allS gb_b148 all0)
            have gb_b154 : n0 ≤ b154 := Nat.le_trans (own_n0 f155) (Nat.le_of_eq g154.symm)
            have f156 := f152.keep K151 (ninS ne_b146_b148 nin0)
            have ne_b146_b154 : b146 ≠ b154 := Nat.ne_of_lt (Nat.lt_of_lt_of_le f156.lt (Nat.le_of_eq g154.symm))
            have ne_b148_b154 : b148 ≠ b154 := Nat.ne_of_lt (Nat.lt_of_lt_of_le g151_0.lt (Nat.le_of_eq g154.symm))
            have ne_tS_153_b154 : tS_153 ≠ b154 := Nat.ne_of_lt (Nat.lt_of_lt_of_le aS_153.lt (Nat.le_of_eq g154.symm))
            have F154_content : Fld Z h154 b154 "com/example/tandemwick/tandemwick/FutureState$Special" "content" "Ljava/lang/Object;" .null := D154 (Or.inr (hw _ (List.mem_of_getElem? (i := 10) rfl))) (ty := (.object "java/lang/Object")) (by decide)
            show own_Ok p e below _ (T154.setTop (mkF m 144 #[.val (.int xa), .val (.int xb), .val (.int (4 : Int32)), .val (.ref b148), .val (.ref b146), .unset] [(.ref b154)]))
            refine own_st (fun _ k => XS.dup X154.here hx rfl (hb hby at_144) rfl rfl k) ?_
            show own_Ok p e below _ (T154.setTop (mkF m 145 #[.val (.int xa), .val (.int xb), .val (.int (4 : Int32)), .val (.ref b148), .val (.ref b146), .unset] [(.ref b154), (.ref b154)]))
            refine own_st (fun _ k => XS.aloadN X154.here hx rfl (hb hby at_145) rfl rfl k) ?_
            show own_Ok p e below _ (T154.setTop (mkF m 146 #[.val (.int xa), .val (.int xb), .val (.int (4 : Int32)), .val (.ref b148), .val (.ref b146), .unset] [(.ref b148), (.ref b154), (.ref b154)]))
            have f158 := f155.ext E154
            obtain ⟨_, _, ⟨T157, L157, k157, n157⟩, -, X157, ⟨Lc157, hQ157, l157, y157, z157⟩, st157⟩ := X154.specialBack hx (y := (⟨"com/example/tandemwick/tandemwick/FutureState$Special", "<init>", "(Ljava/lang/Object;)V"⟩ : MethodName)) rfl hown (mvT hZ (hw _ (List.mem_of_getElem? (i := 3) rfl))) (mvT hZ (hw _ (List.mem_of_getElem? (i := 4) rfl))) (mvT hZ (hw _ (List.mem_of_getElem? (i := 5) rfl))) (by decide) (backOf (W := 1) (rm1 l Z a0 hw [] b154 ((.ref b148)) h154 n0 f158 rfl A154 F154_content gb_b154) hZ (hw _ (List.mem_of_getElem? (i := 5) rfl)) (hw _ (List.mem_of_getElem? (i := 2) rfl)) (by decide) (by decide)) (g := (mkF m 146 #[.val (.int xa), .val (.int xb), .val (.int (4 : Int32)), .val (.ref b148), .val (.ref b146), .unset] [(.ref b148), (.ref b154), (.ref b154)])) rfl (by rw [hml]; rfl) (Steps.refl _) (a := b154) (argsL := [(.ref b148)]) (rest := [(.ref b154)]) (lenOf own_pd3 rfl) rfl (by show 2 * 0 + _ ≤ _; exact Nat.le_of_eq rfl) (hb hby at_146) (fun _ _ => ⟨rfl, e154, (by decide : 4 + 0 ≤ _), (by decide : 7 + 0 ≤ _)⟩)
            dsimp only [Pt.U, Pt.locs, Pt.cells, Pt.slots] at X157 l157 y157 z157 st157 hQ157
            subst l157 y157 z157
            obtain ⟨rfl, Nq157, K157, g157_0⟩ := hQ157
            have N157 := Fr.app N151 Nq157
            refine own_st (fun _ k => st157.trans k) ?_
            have e157 : T157.heap = T157.heap := rfl
            show own_Ok p e below _ (T157.setTop (mkF m 149 #[.val (.int xa), .val (.int xb), .val (.int (4 : Int32)), .val (.ref b148), .val (.ref b146), .unset] [(.ref b154)]))
            refine own_st (fun _ k => XS.astore X157.here hx rfl (hb hby at_149) rfl rfl (l' := #[.val (.int xa), .val (.int xb), .val (.int (4 : Int32)), .val (.ref b148), .val (.ref b154), .unset]) rfl k) ?_
            show own_Ok p e below _ (T157.setTop (mkF m 151 #[.val (.int xa), .val (.int xb), .val (.int (4 : Int32)), .val (.ref b148), .val (.ref b154), .unset] []))
            refine own_st (fun _ k => XS.iloadN X157.here hx rfl (hb hby at_151) rfl k) ?_
            show own_Ok p e below _ (T157.setTop (mkF m 152 #[.val (.int xa), .val (.int xb), .val (.int (4 : Int32)), .val (.ref b148), .val (.ref b154), .unset] [(.int (4 : Int32))]))
            refine own_st (fun _ k => XS.iconst X157.here hx rfl (hb hby at_152) k) ?_
            show own_Ok p e below _ (T157.setTop (mkF m 153 #[.val (.int xa), .val (.int xb), .val (.int (4 : Int32)), .val (.ref b148), .val (.ref b154), .unset] [(.int (3 : Int32)), (.int (4 : Int32))]))
            refine own_st (fun _ k => XS.icmpNo X157.here hx rfl (hb hby at_153) rfl (XT.ii_lt_f (by decide)) k) ?_
            show own_Ok p e below _ (T157.setTop (mkF m 156 #[.val (.int xa), .val (.int xb), .val (.int (4 : Int32)), .val (.ref b148), .val (.ref b154), .unset] []))
            refine own_st (fun _ k => XS.iconst X157.here hx rfl (hb hby at_156) k) ?_
            show own_Ok p e below _ (T157.setTop (mkF m 157 #[.val (.int xa), .val (.int xb), .val (.int (4 : Int32)), .val (.ref b148), .val (.ref b154), .unset] [(.int (1 : Int32))]))
            refine own_st (fun _ k => XS.goto X157.here hx rfl (pc0 := 157) (pc' := 161) rfl (hb hby at_157) (by decide) (by decide) k) ?_
            show own_Ok p e below _ (T157.setTop (mkF m 161 #[.val (.int xa), .val (.int xb), .val (.int (4 : Int32)), .val (.ref b148), .val (.ref b154), .unset] [(.int (1 : Int32))]))
            refine own_st (fun _ k => XS.istore X157.here hx rfl (hb hby at_161) rfl (l' := #[.val (.int xa), .val (.int xb), .val (.int (4 : Int32)), .val (.ref b148), .val (.ref b154), .val (.int (1 : Int32))]) rfl k) ?_
            show own_Ok p e below _ (T157.setTop (mkF m 163 #[.val (.int xa), .val (.int xb), .val (.int (4 : Int32)), .val (.ref b148), .val (.ref b154), .val (.int (1 : Int32))] []))
            refine own_st (fun _ k => XS.aload X157.here hx rfl (hb hby at_163) rfl rfl k) ?_
            show own_Ok p e below _ (T157.setTop (mkF m 165 #[.val (.int xa), .val (.int xb), .val (.int (4 : Int32)), .val (.ref b148), .val (.ref b154), .val (.int (1 : Int32))] [(.ref b154)]))
            have f160 := g151_0.ext E154
            have f161 := f160.keep K157
            have f162 := f158.keep K157 (allS gb_b154 all0)
            have f163 := A154.keep K157
            obtain ⟨cq159, kq159, q159a, q159b, q159c⟩ := isOf hZ e157 f163
            obtain ⟨_, _, ⟨T159, L159, k159, n159⟩, -, X159, ⟨Lc159, hQ159, l159, y159, z159⟩, st159⟩ := X157.virtualBack hx (y := (⟨"com/example/tandemwick/tandemwick/FutureState$Special", "isPending", "()Z"⟩ : MethodName)) (z := (⟨"com/example/tandemwick/tandemwick/FutureState$Special", "isPending", "()Z"⟩ : MethodName)) hown (mvT hZ (hw _ (List.mem_of_getElem? (i := 11) rfl))) (mvT hZ (hw _ (List.mem_of_getElem? (i := 12) rfl))) (notFace_of_selects (args := #[]) (mvT hZ (hw _ (List.mem_of_getElem? (i := 14) rfl)))) (mvT hZ (hw _ (List.mem_of_getElem? (i := 14) rfl))) (mvT hZ (hw _ (List.mem_of_getElem? (i := 13) rfl))) (by decide) (backOf (W := 0) (rm_pend_S l Z a0 hw [] b154 b148 T157.heap n0 f162 g157_0 f161) hZ (hw _ (List.mem_of_getElem? (i := 15) rfl)) (hw _ (List.mem_of_getElem? (i := 2) rfl)) (by decide) (by decide)) q159a q159c (g := (mkF m 165 #[.val (.int xa), .val (.int xb), .val (.int (4 : Int32)), .val (.ref b148), .val (.ref b154), .val (.int (1 : Int32))] [(.ref b154)])) rfl (by rw [hml]; rfl) (Steps.refl _) (argsL := []) (rest := []) (lenOf own_pd4 rfl) rfl (by show 2 * 0 + _ ≤ _; exact Nat.le_of_eq rfl) (hb hby at_165) (fun _ _ => ⟨rfl, e157, (by decide : 4 + 0 ≤ _), (by decide : 7 + 0 ≤ _)⟩)
            dsimp only [Pt.U, Pt.locs, Pt.cells, Pt.slots] at X159 l159 y159 z159 st159 hQ159
            subst l159 y159 z159
            obtain ⟨rfl, Nq159, e159⟩ := hQ159
            have N159 := Fr.app N157 Nq159
            refine own_st (fun _ k => st159.trans k) ?_
            show own_Ok p e below _ (T159.setTop (mkF m 168 #[.val (.int xa), .val (.int xb), .val (.int (4 : Int32)), .val (.ref b148), .val (.ref b154), .val (.int (1 : Int32))] [(.int (1 : Int32))]))
            refine own_st (fun _ k => XS.iload X159.here hx rfl (hb hby at_168) rfl k) ?_
            show own_Ok p e below _ (T159.setTop (mkF m 170 #[.val (.int xa), .val (.int xb), .val (.int (4 : Int32)), .val (.ref b148), .val (.ref b154), .val (.int (1 : Int32))] [(.int (1 : Int32)), (.int (1 : Int32))]))
            refine own_st (fun _ k => XS.icmpNo X159.here hx rfl (hb hby at_170) rfl (XT.ii_ne_f (by decide)) k) ?_
            show own_Ok p e below _ (T159.setTop (mkF m 173 #[.val (.int xa), .val (.int xb), .val (.int (4 : Int32)), .val (.ref b148), .val (.ref b154), .val (.int (1 : Int32))] []))
            refine own_st (fun _ k => XS.iconst X159.here hx rfl (hb hby at_173) k) ?_
            show own_Ok p e below _ (T159.setTop (mkF m 174 #[.val (.int xa), .val (.int xb), .val (.int (4 : Int32)), .val (.ref b148), .val (.ref b154), .val (.int (1 : Int32))] [(.int (1 : Int32))]))
            refine own_st (fun _ k => XS.goto X159.here hx rfl (pc0 := 174) (pc' := 178) rfl (hb hby at_174) (by decide) (by decide) k) ?_
            show own_Ok p e below _ (T159.setTop (mkF m 178 #[.val (.int xa), .val (.int xb), .val (.int (4 : Int32)), .val (.ref b148), .val (.ref b154), .val (.int (1 : Int32))] [(.int (1 : Int32))]))
            exact own_retN X159 hx hlk (t := .boolean) Bd.returns (by simp) (hb hby at_178) (by rw [e159]; exact ⟨rfl, N159⟩) (by decide) (by decide)
          · skip
            refine own_st (fun _ k => XS.icmpYes X0.here hx rfl (pc0 := 62) (pc' := 93) rfl (hb hby at_62) rfl (XT.ii_ne_t c62_145) (by decide) (by decide) k) ?_
            show own_Ok p e below _ (s₁.setTop (mkF m 93 #[.val (.int xa), .val (.int xb), .val (.int (xa &&& (7 : Int32))), .unset, .unset, .unset] []))
            refine own_st (fun _ k => XS.iloadN X0.here hx rfl (hb hby at_93) rfl k) ?_
            show own_Ok p e below _ (s₁.setTop (mkF m 94 #[.val (.int xa), .val (.int xb), .val (.int (xa &&& (7 : Int32))), .unset, .unset, .unset] [(.int (xa &&& (7 : Int32)))]))
            refine own_st (fun _ k => XS.iconst X0.here hx rfl (hb hby at_94) k) ?_
            show own_Ok p e below _ (s₁.setTop (mkF m 95 #[.val (.int xa), .val (.int xb), .val (.int (xa &&& (7 : Int32))), .unset, .unset, .unset] [(.int (5 : Int32)), (.int (xa &&& (7 : Int32)))]))
            by_cases c95_164 : (xa &&& (7 : Int32)) = (5 : Int32)
            · skip
              refine own_st (fun _ k => XS.icmpNo X0.here hx rfl (hb hby at_95) rfl (XT.ii_ne_f c95_164) k) ?_
              show own_Ok p e below _ (s₁.setTop (mkF m 98 #[.val (.int xa), .val (.int xb), .val (.int (xa &&& (7 : Int32))), .unset, .unset, .unset] []))
              rw [show (xa &&& (7 : Int32)) = (5 : Int32) from c95_164]
              show own_Ok p e below _ (s₁.setTop (mkF m 98 #[.val (.int xa), .val (.int xb), .val (.int (5 : Int32)), .unset, .unset, .unset] []))
              obtain ⟨T165, h165, X165, e165, E165, A165, D165, -, st165⟩ := newO X0 hx hZ hown (hw _ (List.mem_of_getElem? (i := 0) rfl)) (hw _ (List.mem_of_getElem? (i := 1) rfl)) (hw _ (List.mem_of_getElem? (i := 2) rfl)) e0 (g := (mkF m 98 #[.val (.int xa), .val (.int xb), .val (.int (5 : Int32)), .unset, .unset, .unset] [])) rfl (hb hby at_98) (by decide) (by decide)
              obtain ⟨b165, g165⟩ : ∃ z, z = h0.size := ⟨_, rfl⟩
              rw [← g165] at A165 D165 st165
              refine own_st st165 ?_
              have gb_b165 : n0 ≤ b165 := Nat.le_trans (own_n0 O0) (Nat.le_of_eq g165.symm)
              have F165_content : Fld Z h165 b165 "com/example/tandemwick/tandemwick/FutureState$Special" "content" "Ljava/lang/Object;" .null := D165 (Or.inr (hw _ (List.mem_of_getElem? (i := 10) rfl))) (ty := (.object "java/lang/Object")) (by decide)
              show own_Ok p e below _ (T165.setTop (mkF m 101 #[.val (.int xa), .val (.int xb), .val (.int (5 : Int32)), .unset, .unset, .unset] [(.ref b165)]))
              refine own_st (fun _ k => XS.dup X165.here hx rfl (hb hby at_101) rfl rfl k) ?_
              show own_Ok p e below _ (T165.setTop (mkF m 102 #[.val (.int xa), .val (.int xb), .val (.int (5 : Int32)), .unset, .unset, .unset] [(.ref b165), (.ref b165)]))
              obtain ⟨T166, h166, X166, e166, E166, A166, D166, -, st166⟩ := newO X165 hx hZ hown (hw _ (List.mem_of_getElem? (i := 49) rfl)) (hw _ (List.mem_of_getElem? (i := 50) rfl)) (hw _ (List.mem_of_getElem? (i := 51) rfl)) e165 (g := (mkF m 102 #[.val (.int xa), .val (.int xb), .val (.int (5 : Int32)), .unset, .unset, .unset] [(.ref b165), (.ref b165)])) rfl (hb hby at_102) (by decide) (by decide)
              obtain ⟨b166, g166⟩ : ∃ z, z = h165.size := ⟨_, rfl⟩
              rw [← g166] at A166 D166 st166
              refine own_st st166 ?_
              have f167 := O0.ext E165
              have gb_b166 : n0 ≤ b166 := Nat.le_trans (own_n0 f167) (Nat.le_of_eq g166.symm)
              have ne_b165_b166 : b165 ≠ b166 := Nat.ne_of_lt (Nat.lt_of_lt_of_le A165.lt (Nat.le_of_eq g166.symm))
              have F166_cause : Fld Z h166 b166 "com/example/tandemwick/tandemwick/FutureState$Failure" "cause" "Ljava/lang/Throwable;" .null := D166 (Or.inr (hw _ (List.mem_of_getElem? (i := 57) rfl))) (ty := (.object "java/lang/Throwable")) (by decide)
              show own_Ok p e below _ (T166.setTop (mkF m 105 #[.val (.int xa), .val (.int xb), .val (.int (5 : Int32)), .unset, .unset, .unset] [(.ref b166), (.ref b165), (.ref b165)]))
              refine own_st (fun _ k => XS.dup X166.here hx rfl (hb hby at_105) rfl rfl k) ?_
              show own_Ok p e below _ (T166.setTop (mkF m 106 #[.val (.int xa), .val (.int xb), .val (.int (5 : Int32)), .unset, .unset, .unset] [(.ref b166), (.ref b166), (.ref b165), (.ref b165)]))
              refine own_st (fun _ k => XS.aconstNull X166.here hx rfl (hb hby at_106) k) ?_
              show own_Ok p e below _ (T166.setTop (mkF m 107 #[.val (.int xa), .val (.int xb), .val (.int (5 : Int32)), .unset, .unset, .unset] [.null, (.ref b166), (.ref b166), (.ref b165), (.ref b165)]))
              have f169 := f167.ext E166
              obtain ⟨_, _, ⟨T168, L168, k168, n168⟩, -, X168, ⟨Lc168, hQ168, l168, y168, z168⟩, st168⟩ := X166.specialBack hx (y := (⟨"com/example/tandemwick/tandemwick/FutureState$Failure", "<init>", "(Ljava/lang/Throwable;)V"⟩ : MethodName)) rfl hown (mvT hZ (hw _ (List.mem_of_getElem? (i := 52) rfl))) (mvT hZ (hw _ (List.mem_of_getElem? (i := 53) rfl))) (mvT hZ (hw _ (List.mem_of_getElem? (i := 54) rfl))) (by decide) (backOf (W := 3) (rm9 l Z a0 hw [] b166 h166 n0 f169 A166 F166_cause gb_b166) hZ (hw _ (List.mem_of_getElem? (i := 54) rfl)) (hw _ (List.mem_of_getElem? (i := 51) rfl)) (by decide) (by decide)) (g := (mkF m 107 #[.val (.int xa), .val (.int xb), .val (.int (5 : Int32)), .unset, .unset, .unset] [.null, (.ref b166), (.ref b166), (.ref b165), (.ref b165)])) rfl (by rw [hml]; rfl) (Steps.refl _) (a := b166) (argsL := [.null]) (rest := [(.ref b166), (.ref b165), (.ref b165)]) (lenOf own_pd5 rfl) rfl (by show 2 * 0 + _ ≤ _; exact Nat.le_of_eq rfl) (hb hby at_107) (fun _ _ => ⟨rfl, e166, (by decide : 2 + 0 ≤ _), (by decide : 2 + 0 ≤ _)⟩)
              dsimp only [Pt.U, Pt.locs, Pt.cells, Pt.slots] at X168 l168 y168 z168 st168 hQ168
              subst l168 y168 z168
              obtain ⟨rfl, Nq168, K168⟩ := hQ168
              have N168 := Fr.app N0 Nq168
              refine own_st (fun _ k => st168.trans k) ?_
              have e168 : T168.heap = T168.heap := rfl
              show own_Ok p e below _ (T168.setTop (mkF m 110 #[.val (.int xa), .val (.int xb), .val (.int (5 : Int32)), .unset, .unset, .unset] [(.ref b166), (.ref b165), (.ref b165)]))
              have f171 := A165.ext E166
              have f172 := f171.keep K168
              have f173 := F165_content.ext E166
              have f174 := f173.keep K168 (ninS ne_b165_b166 nin0)
              have f175 := f169.keep K168 (allS gb_b166 all0)
              obtain ⟨_, _, ⟨T170, L170, k170, n170⟩, -, X170, ⟨Lc170, hQ170, l170, y170, z170⟩, st170⟩ := X168.specialBack hx (y := (⟨"com/example/tandemwick/tandemwick/FutureState$Special", "<init>", "(Ljava/lang/Object;)V"⟩ : MethodName)) rfl hown (mvT hZ (hw _ (List.mem_of_getElem? (i := 3) rfl))) (mvT hZ (hw _ (List.mem_of_getElem? (i := 4) rfl))) (mvT hZ (hw _ (List.mem_of_getElem? (i := 5) rfl))) (by decide) (backOf (W := 1) (rm1 l Z a0 hw [] b165 ((.ref b166)) T168.heap n0 f175 rfl f172 f174 gb_b165) hZ (hw _ (List.mem_of_getElem? (i := 5) rfl)) (hw _ (List.mem_of_getElem? (i := 2) rfl)) (by decide) (by decide)) (g := (mkF m 110 #[.val (.int xa), .val (.int xb), .val (.int (5 : Int32)), .unset, .unset, .unset] [(.ref b166), (.ref b165), (.ref b165)])) rfl (by rw [hml]; rfl) (Steps.refl _) (a := b165) (argsL := [(.ref b166)]) (rest := [(.ref b165)]) (lenOf own_pd3 rfl) rfl (by show 2 * 0 + _ ≤ _; exact Nat.le_of_eq rfl) (hb hby at_110) (fun _ _ => ⟨rfl, e168, (by decide : 2 + 0 ≤ _), (by decide : 2 + 0 ≤ _)⟩)
              dsimp only [Pt.U, Pt.locs, Pt.cells, Pt.slots] at X170 l170 y170 z170 st170 hQ170
              subst l170 y170 z170
              obtain ⟨rfl, Nq170, K170, g170_0⟩ := hQ170
              have N170 := Fr.app N168 Nq170
              refine own_st (fun _ k => st170.trans k) ?_
              have e170 : T170.heap = T170.heap := rfl
              show own_Ok p e below _ (T170.setTop (mkF m 113 #[.val (.int xa), .val (.int xb), .val (.int (5 : Int32)), .unset, .unset, .unset] [(.ref b165)]))
              refine own_st (fun _ k => XS.astoreN X170.here hx rfl (hb hby at_113) rfl rfl (l' := #[.val (.int xa), .val (.int xb), .val (.int (5 : Int32)), .val (.ref b165), .unset, .unset]) rfl k) ?_
              show own_Ok p e below _ (T170.setTop (mkF m 114 #[.val (.int xa), .val (.int xb), .val (.int (5 : Int32)), .val (.ref b165), .unset, .unset] []))
              refine own_st (fun _ k => XS.goto X170.here hx rfl (pc0 := 114) (pc' := 141) rfl (hb hby at_114) (by decide) (by decide) k) ?_
              show own_Ok p e below _ (T170.setTop (mkF m 141 #[.val (.int xa), .val (.int xb), .val (.int (5 : Int32)), .val (.ref b165), .unset, .unset] []))
              obtain ⟨T176, h176, X176, e176, E176, A176, D176, -, st176⟩ := newO X170 hx hZ hown (hw _ (List.mem_of_getElem? (i := 0) rfl)) (hw _ (List.mem_of_getElem? (i := 1) rfl)) (hw _ (List.mem_of_getElem? (i := 2) rfl)) e170 (g := (mkF m 141 #[.val (.int xa), .val (.int xb), .val (.int (5 : Int32)), .val (.ref b165), .unset, .unset] [])) rfl (hb hby at_141) (by decide) (by decide)
              obtain ⟨b176, g176⟩ : ∃ z, z = T170.heap.size := ⟨_, rfl⟩
              rw [← g176] at A176 D176 st176
              refine own_st st176 ?_
              have f177 := f175.keep K170 (allS gb_b165 all0)
              have gb_b176 : n0 ≤ b176 := Nat.le_trans (own_n0 f177) (Nat.le_of_eq g176.symm)
              have f178 := f172.keep K170
              have ne_b165_b176 : b165 ≠ b176 := Nat.ne_of_lt (Nat.lt_of_lt_of_le f178.lt (Nat.le_of_eq g176.symm))
              have f179 := A166.keep K168
              have f180 := f179.keep K170
              have ne_b166_b176 : b166 ≠ b176 := Nat.ne_of_lt (Nat.lt_of_lt_of_le f180.lt (Nat.le_of_eq g176.symm))
              have F176_content : Fld Z h176 b176 "com/example/tandemwick/tandemwick/FutureState$Special" "content" "Ljava/lang/Object;" .null := D176 (Or.inr (hw _ (List.mem_of_getElem? (i := 10) rfl))) (ty := (.object "java/lang/Object")) (by decide)
              show own_Ok p e below _ (T176.setTop (mkF m 144 #[.val (.int xa), .val (.int xb), .val (.int (5 : Int32)), .val (.ref b165), .unset, .unset] [(.ref b176)]))
              refine own_st (fun _ k => XS.dup X176.here hx rfl (hb hby at_144) rfl rfl k) ?_
              show own_Ok p e below _ (T176.setTop (mkF m 145 #[.val (.int xa), .val (.int xb), .val (.int (5 : Int32)), .val (.ref b165), .unset, .unset] [(.ref b176), (.ref b176)]))
              refine own_st (fun _ k => XS.aloadN X176.here hx rfl (hb hby at_145) rfl rfl k) ?_
              show own_Ok p e below _ (T176.setTop (mkF m 146 #[.val (.int xa), .val (.int xb), .val (.int (5 : Int32)), .val (.ref b165), .unset, .unset] [(.ref b165), (.ref b176), (.ref b176)]))
              have f182 := f177.ext E176
              obtain ⟨_, _, ⟨T181, L181, k181, n181⟩, -, X181, ⟨Lc181, hQ181, l181, y181, z181⟩, st181⟩ := X176.specialBack hx (y := (⟨"com/example/tandemwick/tandemwick/FutureState$Special", "<init>", "(Ljava/lang/Object;)V"⟩ : MethodName)) rfl hown (mvT hZ (hw _ (List.mem_of_getElem? (i := 3) rfl))) (mvT hZ (hw _ (List.mem_of_getElem? (i := 4) rfl))) (mvT hZ (hw _ (List.mem_of_getElem? (i := 5) rfl))) (by decide) (backOf (W := 1) (rm1 l Z a0 hw [] b176 ((.ref b165)) h176 n0 f182 rfl A176 F176_content gb_b176) hZ (hw _ (List.mem_of_getElem? (i := 5) rfl)) (hw _ (List.mem_of_getElem? (i := 2) rfl)) (by decide) (by decide)) (g := (mkF m 146 #[.val (.int xa), .val (.int xb), .val (.int (5 : Int32)), .val (.ref b165), .unset, .unset] [(.ref b165), (.ref b176), (.ref b176)])) rfl (by rw [hml]; rfl) (Steps.refl _) (a := b176) (argsL := [(.ref b165)]) (rest := [(.ref b176)]) (lenOf own_pd3 rfl) rfl (by show 2 * 0 + _ ≤ _; exact Nat.le_of_eq rfl) (hb hby at_146) (fun _ _ => ⟨rfl, e176, (by decide : 3 + 0 ≤ _), (by decide : 3 + 0 ≤ _)⟩)
              dsimp only [Pt.U, Pt.locs, Pt.cells, Pt.slots] at X181 l181 y181 z181 st181 hQ181
              subst l181 y181 z181
              obtain ⟨rfl, Nq181, K181, g181_0⟩ := hQ181
              have N181 := Fr.app N170 Nq181
              refine own_st (fun _ k => st181.trans k) ?_
              have e181 : T181.heap = T181.heap := rfl
              show own_Ok p e below _ (T181.setTop (mkF m 149 #[.val (.int xa), .val (.int xb), .val (.int (5 : Int32)), .val (.ref b165), .unset, .unset] [(.ref b176)]))
              refine own_st (fun _ k => XS.astore X181.here hx rfl (hb hby at_149) rfl rfl (l' := #[.val (.int xa), .val (.int xb), .val (.int (5 : Int32)), .val (.ref b165), .val (.ref b176), .unset]) rfl k) ?_
              show own_Ok p e below _ (T181.setTop (mkF m 151 #[.val (.int xa), .val (.int xb), .val (.int (5 : Int32)), .val (.ref b165), .val (.ref b176), .unset] []))
              refine own_st (fun _ k => XS.iloadN X181.here hx rfl (hb hby at_151) rfl k) ?_
              show own_Ok p e below _ (T181.setTop (mkF m 152 #[.val (.int xa), .val (.int xb), .val (.int (5 : Int32)), .val (.ref b165), .val (.ref b176), .unset] [(.int (5 : Int32))]))
              refine own_st (fun _ k => XS.iconst X181.here hx rfl (hb hby at_152) k) ?_
              show own_Ok p e below _ (T181.setTop (mkF m 153 #[.val (.int xa), .val (.int xb), .val (.int (5 : Int32)), .val (.ref b165), .val (.ref b176), .unset] [(.int (3 : Int32)), (.int (5 : Int32))]))
              refine own_st (fun _ k => XS.icmpNo X181.here hx rfl (hb hby at_153) rfl (XT.ii_lt_f (by decide)) k) ?_
              show own_Ok p e below _ (T181.setTop (mkF m 156 #[.val (.int xa), .val (.int xb), .val (.int (5 : Int32)), .val (.ref b165), .val (.ref b176), .unset] []))
              refine own_st (fun _ k => XS.iconst X181.here hx rfl (hb hby at_156) k) ?_
              show own_Ok p e below _ (T181.setTop (mkF m 157 #[.val (.int xa), .val (.int xb), .val (.int (5 : Int32)), .val (.ref b165), .val (.ref b176), .unset] [(.int (1 : Int32))]))
              refine own_st (fun _ k => XS.goto X181.here hx rfl (pc0 := 157) (pc' := 161) rfl (hb hby at_157) (by decide) (by decide) k) ?_
              show own_Ok p e below _ (T181.setTop (mkF m 161 #[.val (.int xa), .val (.int xb), .val (.int (5 : Int32)), .val (.ref b165), .val (.ref b176), .unset] [(.int (1 : Int32))]))
              refine own_st (fun _ k => XS.istore X181.here hx rfl (hb hby at_161) rfl (l' := #[.val (.int xa), .val (.int xb), .val (.int (5 : Int32)), .val (.ref b165), .val (.ref b176), .val (.int (1 : Int32))]) rfl k) ?_
              show own_Ok p e below _ (T181.setTop (mkF m 163 #[.val (.int xa), .val (.int xb), .val (.int (5 : Int32)), .val (.ref b165), .val (.ref b176), .val (.int (1 : Int32))] []))
              refine own_st (fun _ k => XS.aload X181.here hx rfl (hb hby at_163) rfl rfl k) ?_
              show own_Ok p e below _ (T181.setTop (mkF m 165 #[.val (.int xa), .val (.int xb), .val (.int (5 : Int32)), .val (.ref b165), .val (.ref b176), .val (.int (1 : Int32))] [(.ref b176)]))
              have f184 := f178.ext E176
              have f185 := f184.keep K181
              have f186 := f182.keep K181 (allS gb_b176 all0)
              have f187 := A176.keep K181
              obtain ⟨cq183, kq183, q183a, q183b, q183c⟩ := isOf hZ e181 f187
              obtain ⟨_, _, ⟨T183, L183, k183, n183⟩, -, X183, ⟨Lc183, hQ183, l183, y183, z183⟩, st183⟩ := X181.virtualBack hx (y := (⟨"com/example/tandemwick/tandemwick/FutureState$Special", "isPending", "()Z"⟩ : MethodName)) (z := (⟨"com/example/tandemwick/tandemwick/FutureState$Special", "isPending", "()Z"⟩ : MethodName)) hown (mvT hZ (hw _ (List.mem_of_getElem? (i := 11) rfl))) (mvT hZ (hw _ (List.mem_of_getElem? (i := 12) rfl))) (notFace_of_selects (args := #[]) (mvT hZ (hw _ (List.mem_of_getElem? (i := 14) rfl)))) (mvT hZ (hw _ (List.mem_of_getElem? (i := 14) rfl))) (mvT hZ (hw _ (List.mem_of_getElem? (i := 13) rfl))) (by decide) (backOf (W := 0) (rm_pend_P l Z a0 hw [] b176 b165 T181.heap n0 f186 g181_0 f185) hZ (hw _ (List.mem_of_getElem? (i := 15) rfl)) (hw _ (List.mem_of_getElem? (i := 2) rfl)) (by decide) (by decide)) q183a q183c (g := (mkF m 165 #[.val (.int xa), .val (.int xb), .val (.int (5 : Int32)), .val (.ref b165), .val (.ref b176), .val (.int (1 : Int32))] [(.ref b176)])) rfl (by rw [hml]; rfl) (Steps.refl _) (argsL := []) (rest := []) (lenOf own_pd4 rfl) rfl (by show 2 * 0 + _ ≤ _; exact Nat.le_of_eq rfl) (hb hby at_165) (fun _ _ => ⟨rfl, e181, (by decide : 3 + 0 ≤ _), (by decide : 3 + 0 ≤ _)⟩)
              dsimp only [Pt.U, Pt.locs, Pt.cells, Pt.slots] at X183 l183 y183 z183 st183 hQ183
              subst l183 y183 z183
              obtain ⟨rfl, Nq183, e183⟩ := hQ183
              have N183 := Fr.app N181 Nq183
              refine own_st (fun _ k => st183.trans k) ?_
              show own_Ok p e below _ (T183.setTop (mkF m 168 #[.val (.int xa), .val (.int xb), .val (.int (5 : Int32)), .val (.ref b165), .val (.ref b176), .val (.int (1 : Int32))] [(.int (1 : Int32))]))
              refine own_st (fun _ k => XS.iload X183.here hx rfl (hb hby at_168) rfl k) ?_
              show own_Ok p e below _ (T183.setTop (mkF m 170 #[.val (.int xa), .val (.int xb), .val (.int (5 : Int32)), .val (.ref b165), .val (.ref b176), .val (.int (1 : Int32))] [(.int (1 : Int32)), (.int (1 : Int32))]))
              refine own_st (fun _ k => XS.icmpNo X183.here hx rfl (hb hby at_170) rfl (XT.ii_ne_f (by decide)) k) ?_
              show own_Ok p e below _ (T183.setTop (mkF m 173 #[.val (.int xa), .val (.int xb), .val (.int (5 : Int32)), .val (.ref b165), .val (.ref b176), .val (.int (1 : Int32))] []))
              refine own_st (fun _ k => XS.iconst X183.here hx rfl (hb hby at_173) k) ?_
              show own_Ok p e below _ (T183.setTop (mkF m 174 #[.val (.int xa), .val (.int xb), .val (.int (5 : Int32)), .val (.ref b165), .val (.ref b176), .val (.int (1 : Int32))] [(.int (1 : Int32))]))
              refine own_st (fun _ k => XS.goto X183.here hx rfl (pc0 := 174) (pc' := 178) rfl (hb hby at_174) (by decide) (by decide) k) ?_
              show own_Ok p e below _ (T183.setTop (mkF m 178 #[.val (.int xa), .val (.int xb), .val (.int (5 : Int32)), .val (.ref b165), .val (.ref b176), .val (.int (1 : Int32))] [(.int (1 : Int32))]))
              exact own_retN X183 hx hlk (t := .boolean) Bd.returns (by simp) (hb hby at_178) (by rw [e183]; exact ⟨rfl, N183⟩) (by decide) (by decide)
            · skip
              refine own_st (fun _ k => XS.icmpYes X0.here hx rfl (pc0 := 95) (pc' := 117) rfl (hb hby at_95) rfl (XT.ii_ne_t c95_164) (by decide) (by decide) k) ?_
              show own_Ok p e below _ (s₁.setTop (mkF m 117 #[.val (.int xa), .val (.int xb), .val (.int (xa &&& (7 : Int32))), .unset, .unset, .unset] []))
              refine own_st (fun _ k => XS.iloadN X0.here hx rfl (hb hby at_117) rfl k) ?_
              show own_Ok p e below _ (s₁.setTop (mkF m 118 #[.val (.int xa), .val (.int xb), .val (.int (xa &&& (7 : Int32))), .unset, .unset, .unset] [(.int (xa &&& (7 : Int32)))]))
              refine own_st (fun _ k => XS.bipush X0.here hx rfl (hb hby at_118) k) ?_
              show own_Ok p e below _ (s₁.setTop (mkF m 120 #[.val (.int xa), .val (.int xb), .val (.int (xa &&& (7 : Int32))), .unset, .unset, .unset] [(.int (6 : Int32)), (.int (xa &&& (7 : Int32)))]))
              by_cases c120_188 : (xa &&& (7 : Int32)) = (6 : Int32)
              · skip
                refine own_st (fun _ k => XS.icmpNo X0.here hx rfl (hb hby at_120) rfl (XT.ii_ne_f c120_188) k) ?_
                show own_Ok p e below _ (s₁.setTop (mkF m 123 #[.val (.int xa), .val (.int xb), .val (.int (xa &&& (7 : Int32))), .unset, .unset, .unset] []))
                rw [show (xa &&& (7 : Int32)) = (6 : Int32) from c120_188]
                show own_Ok p e below _ (s₁.setTop (mkF m 123 #[.val (.int xa), .val (.int xb), .val (.int (6 : Int32)), .unset, .unset, .unset] []))
                obtain ⟨T189, h189, X189, e189, E189, A189, D189, -, st189⟩ := newO X0 hx hZ hown (hw _ (List.mem_of_getElem? (i := 0) rfl)) (hw _ (List.mem_of_getElem? (i := 1) rfl)) (hw _ (List.mem_of_getElem? (i := 2) rfl)) e0 (g := (mkF m 123 #[.val (.int xa), .val (.int xb), .val (.int (6 : Int32)), .unset, .unset, .unset] [])) rfl (hb hby at_123) (by decide) (by decide)
                obtain ⟨b189, g189⟩ : ∃ z, z = h0.size := ⟨_, rfl⟩
                rw [← g189] at A189 D189 st189
                refine own_st st189 ?_
                have gb_b189 : n0 ≤ b189 := Nat.le_trans (own_n0 O0) (Nat.le_of_eq g189.symm)
                have F189_content : Fld Z h189 b189 "com/example/tandemwick/tandemwick/FutureState$Special" "content" "Ljava/lang/Object;" .null := D189 (Or.inr (hw _ (List.mem_of_getElem? (i := 10) rfl))) (ty := (.object "java/lang/Object")) (by decide)
                show own_Ok p e below _ (T189.setTop (mkF m 126 #[.val (.int xa), .val (.int xb), .val (.int (6 : Int32)), .unset, .unset, .unset] [(.ref b189)]))
                refine own_st (fun _ k => XS.dup X189.here hx rfl (hb hby at_126) rfl rfl k) ?_
                show own_Ok p e below _ (T189.setTop (mkF m 127 #[.val (.int xa), .val (.int xb), .val (.int (6 : Int32)), .unset, .unset, .unset] [(.ref b189), (.ref b189)]))
                refine own_st (fun _ k => XS.aconstNull X189.here hx rfl (hb hby at_127) k) ?_
                show own_Ok p e below _ (T189.setTop (mkF m 128 #[.val (.int xa), .val (.int xb), .val (.int (6 : Int32)), .unset, .unset, .unset] [.null, (.ref b189), (.ref b189)]))
                have f191 := O0.ext E189
                obtain ⟨_, _, ⟨T190, L190, k190, n190⟩, -, X190, ⟨Lc190, hQ190, l190, y190, z190⟩, st190⟩ := X189.specialBack hx (y := (⟨"com/example/tandemwick/tandemwick/FutureState$Special", "<init>", "(Ljava/lang/Object;)V"⟩ : MethodName)) rfl hown (mvT hZ (hw _ (List.mem_of_getElem? (i := 3) rfl))) (mvT hZ (hw _ (List.mem_of_getElem? (i := 4) rfl))) (mvT hZ (hw _ (List.mem_of_getElem? (i := 5) rfl))) (by decide) (backOf (W := 1) (rm1 l Z a0 hw [] b189 .null h189 n0 f191 rfl A189 F189_content gb_b189) hZ (hw _ (List.mem_of_getElem? (i := 5) rfl)) (hw _ (List.mem_of_getElem? (i := 2) rfl)) (by decide) (by decide)) (g := (mkF m 128 #[.val (.int xa), .val (.int xb), .val (.int (6 : Int32)), .unset, .unset, .unset] [.null, (.ref b189), (.ref b189)])) rfl (by rw [hml]; rfl) (Steps.refl _) (a := b189) (argsL := [.null]) (rest := [(.ref b189)]) (lenOf own_pd3 rfl) rfl (by show 2 * 0 + _ ≤ _; exact Nat.le_of_eq rfl) (hb hby at_128) (fun _ _ => ⟨rfl, e189, (by decide : 1 + 0 ≤ _), (by decide : 1 + 0 ≤ _)⟩)
                dsimp only [Pt.U, Pt.locs, Pt.cells, Pt.slots] at X190 l190 y190 z190 st190 hQ190
                subst l190 y190 z190
                obtain ⟨rfl, Nq190, K190, g190_0⟩ := hQ190
                have N190 := Fr.app N0 Nq190
                refine own_st (fun _ k => st190.trans k) ?_
                have e190 : T190.heap = T190.heap := rfl
                show own_Ok p e below _ (T190.setTop (mkF m 131 #[.val (.int xa), .val (.int xb), .val (.int (6 : Int32)), .unset, .unset, .unset] [(.ref b189)]))
                refine own_st (fun _ k => XS.astoreN X190.here hx rfl (hb hby at_131) rfl rfl (l' := #[.val (.int xa), .val (.int xb), .val (.int (6 : Int32)), .val (.ref b189), .unset, .unset]) rfl k) ?_
                show own_Ok p e below _ (T190.setTop (mkF m 132 #[.val (.int xa), .val (.int xb), .val (.int (6 : Int32)), .val (.ref b189), .unset, .unset] []))
                refine own_st (fun _ k => XS.goto X190.here hx rfl (pc0 := 132) (pc' := 141) rfl (hb hby at_132) (by decide) (by decide) k) ?_
                show own_Ok p e below _ (T190.setTop (mkF m 141 #[.val (.int xa), .val (.int xb), .val (.int (6 : Int32)), .val (.ref b189), .unset, .unset] []))
                obtain ⟨T192, h192, X192, e192, E192, A192, D192, -, st192⟩ := newO X190 hx hZ hown (hw _ (List.mem_of_getElem? (i := 0) rfl)) (hw _ (List.mem_of_getElem? (i := 1) rfl)) (hw _ (List.mem_of_getElem? (i := 2) rfl)) e190 (g := (mkF m 141 #[.val (.int xa), .val (.int xb), .val (.int (6 : Int32)), .val (.ref b189), .unset, .unset] [])) rfl (hb hby at_141) (by decide) (by decide)
                obtain ⟨b192, g192⟩ : ∃ z, z = T190.heap.size := ⟨_, rfl⟩
                rw [← g192] at A192 D192 st192
                refine own_st st192 ?_
                have f193 := f191.keep K190 (allS gb_b189 all0)
                have gb_b192 : n0 ≤ b192 := Nat.le_trans (own_n0 f193) (Nat.le_of_eq g192.symm)
                have f194 := A189.keep K190
                have ne_b189_b192 : b189 ≠ b192 := Nat.ne_of_lt (Nat.lt_of_lt_of_le f194.lt (Nat.le_of_eq g192.symm))
                have F192_content : Fld Z h192 b192 "com/example/tandemwick/tandemwick/FutureState$Special" "content" "Ljava/lang/Object;" .null := D192 (Or.inr (hw _ (List.mem_of_getElem? (i := 10) rfl))) (ty := (.object "java/lang/Object")) (by decide)
                show own_Ok p e below _ (T192.setTop (mkF m 144 #[.val (.int xa), .val (.int xb), .val (.int (6 : Int32)), .val (.ref b189), .unset, .unset] [(.ref b192)]))
                refine own_st (fun _ k => XS.dup X192.here hx rfl (hb hby at_144) rfl rfl k) ?_
                show own_Ok p e below _ (T192.setTop (mkF m 145 #[.val (.int xa), .val (.int xb), .val (.int (6 : Int32)), .val (.ref b189), .unset, .unset] [(.ref b192), (.ref b192)]))
                refine own_st (fun _ k => XS.aloadN X192.here hx rfl (hb hby at_145) rfl rfl k) ?_
                show own_Ok p e below _ (T192.setTop (mkF m 146 #[.val (.int xa), .val (.int xb), .val (.int (6 : Int32)), .val (.ref b189), .unset, .unset] [(.ref b189), (.ref b192), (.ref b192)]))
                have f196 := f193.ext E192
                obtain ⟨_, _, ⟨T195, L195, k195, n195⟩, -, X195, ⟨Lc195, hQ195, l195, y195, z195⟩, st195⟩ := X192.specialBack hx (y := (⟨"com/example/tandemwick/tandemwick/FutureState$Special", "<init>", "(Ljava/lang/Object;)V"⟩ : MethodName)) rfl hown (mvT hZ (hw _ (List.mem_of_getElem? (i := 3) rfl))) (mvT hZ (hw _ (List.mem_of_getElem? (i := 4) rfl))) (mvT hZ (hw _ (List.mem_of_getElem? (i := 5) rfl))) (by decide) (backOf (W := 1) (rm1 l Z a0 hw [] b192 ((.ref b189)) h192 n0 f196 rfl A192 F192_content gb_b192) hZ (hw _ (List.mem_of_getElem? (i := 5) rfl)) (hw _ (List.mem_of_getElem? (i := 2) rfl)) (by decide) (by decide)) (g := (mkF m 146 #[.val (.int xa), .val (.int xb), .val (.int (6 : Int32)), .val (.ref b189), .unset, .unset] [(.ref b189), (.ref b192), (.ref b192)])) rfl (by rw [hml]; rfl) (Steps.refl _) (a := b192) (argsL := [(.ref b189)]) (rest := [(.ref b192)]) (lenOf own_pd3 rfl) rfl (by show 2 * 0 + _ ≤ _; exact Nat.le_of_eq rfl) (hb hby at_146) (fun _ _ => ⟨rfl, e192, (by decide : 2 + 0 ≤ _), (by decide : 2 + 0 ≤ _)⟩)
                dsimp only [Pt.U, Pt.locs, Pt.cells, Pt.slots] at X195 l195 y195 z195 st195 hQ195
                subst l195 y195 z195
                obtain ⟨rfl, Nq195, K195, g195_0⟩ := hQ195
                have N195 := Fr.app N190 Nq195
                refine own_st (fun _ k => st195.trans k) ?_
                have e195 : T195.heap = T195.heap := rfl
                show own_Ok p e below _ (T195.setTop (mkF m 149 #[.val (.int xa), .val (.int xb), .val (.int (6 : Int32)), .val (.ref b189), .unset, .unset] [(.ref b192)]))
                refine own_st (fun _ k => XS.astore X195.here hx rfl (hb hby at_149) rfl rfl (l' := #[.val (.int xa), .val (.int xb), .val (.int (6 : Int32)), .val (.ref b189), .val (.ref b192), .unset]) rfl k) ?_
                show own_Ok p e below _ (T195.setTop (mkF m 151 #[.val (.int xa), .val (.int xb), .val (.int (6 : Int32)), .val (.ref b189), .val (.ref b192), .unset] []))
                refine own_st (fun _ k => XS.iloadN X195.here hx rfl (hb hby at_151) rfl k) ?_
                show own_Ok p e below _ (T195.setTop (mkF m 152 #[.val (.int xa), .val (.int xb), .val (.int (6 : Int32)), .val (.ref b189), .val (.ref b192), .unset] [(.int (6 : Int32))]))
                refine own_st (fun _ k => XS.iconst X195.here hx rfl (hb hby at_152) k) ?_
                show own_Ok p e below _ (T195.setTop (mkF m 153 #[.val (.int xa), .val (.int xb), .val (.int (6 : Int32)), .val (.ref b189), .val (.ref b192), .unset] [(.int (3 : Int32)), (.int (6 : Int32))]))
                refine own_st (fun _ k => XS.icmpNo X195.here hx rfl (hb hby at_153) rfl (XT.ii_lt_f (by decide)) k) ?_
                show own_Ok p e below _ (T195.setTop (mkF m 156 #[.val (.int xa), .val (.int xb), .val (.int (6 : Int32)), .val (.ref b189), .val (.ref b192), .unset] []))
                refine own_st (fun _ k => XS.iconst X195.here hx rfl (hb hby at_156) k) ?_
                show own_Ok p e below _ (T195.setTop (mkF m 157 #[.val (.int xa), .val (.int xb), .val (.int (6 : Int32)), .val (.ref b189), .val (.ref b192), .unset] [(.int (1 : Int32))]))
                refine own_st (fun _ k => XS.goto X195.here hx rfl (pc0 := 157) (pc' := 161) rfl (hb hby at_157) (by decide) (by decide) k) ?_
                show own_Ok p e below _ (T195.setTop (mkF m 161 #[.val (.int xa), .val (.int xb), .val (.int (6 : Int32)), .val (.ref b189), .val (.ref b192), .unset] [(.int (1 : Int32))]))
                refine own_st (fun _ k => XS.istore X195.here hx rfl (hb hby at_161) rfl (l' := #[.val (.int xa), .val (.int xb), .val (.int (6 : Int32)), .val (.ref b189), .val (.ref b192), .val (.int (1 : Int32))]) rfl k) ?_
                show own_Ok p e below _ (T195.setTop (mkF m 163 #[.val (.int xa), .val (.int xb), .val (.int (6 : Int32)), .val (.ref b189), .val (.ref b192), .val (.int (1 : Int32))] []))
                refine own_st (fun _ k => XS.aload X195.here hx rfl (hb hby at_163) rfl rfl k) ?_
                show own_Ok p e below _ (T195.setTop (mkF m 165 #[.val (.int xa), .val (.int xb), .val (.int (6 : Int32)), .val (.ref b189), .val (.ref b192), .val (.int (1 : Int32))] [(.ref b192)]))
                have f198 := f194.ext E192
                have f199 := f198.keep K195
                have f200 := f196.keep K195 (allS gb_b192 all0)
                have f201 := A192.keep K195
                obtain ⟨cq197, kq197, q197a, q197b, q197c⟩ := isOf hZ e195 f201
                obtain ⟨_, _, ⟨T197, L197, k197, n197⟩, -, X197, ⟨Lc197, hQ197, l197, y197, z197⟩, st197⟩ := X195.virtualBack hx (y := (⟨"com/example/tandemwick/tandemwick/FutureState$Special", "isPending", "()Z"⟩ : MethodName)) (z := (⟨"com/example/tandemwick/tandemwick/FutureState$Special", "isPending", "()Z"⟩ : MethodName)) hown (mvT hZ (hw _ (List.mem_of_getElem? (i := 11) rfl))) (mvT hZ (hw _ (List.mem_of_getElem? (i := 12) rfl))) (notFace_of_selects (args := #[]) (mvT hZ (hw _ (List.mem_of_getElem? (i := 14) rfl)))) (mvT hZ (hw _ (List.mem_of_getElem? (i := 14) rfl))) (mvT hZ (hw _ (List.mem_of_getElem? (i := 13) rfl))) (by decide) (backOf (W := 0) (rm_pend_P l Z a0 hw [] b192 b189 T195.heap n0 f200 g195_0 f199) hZ (hw _ (List.mem_of_getElem? (i := 15) rfl)) (hw _ (List.mem_of_getElem? (i := 2) rfl)) (by decide) (by decide)) q197a q197c (g := (mkF m 165 #[.val (.int xa), .val (.int xb), .val (.int (6 : Int32)), .val (.ref b189), .val (.ref b192), .val (.int (1 : Int32))] [(.ref b192)])) rfl (by rw [hml]; rfl) (Steps.refl _) (argsL := []) (rest := []) (lenOf own_pd4 rfl) rfl (by show 2 * 0 + _ ≤ _; exact Nat.le_of_eq rfl) (hb hby at_165) (fun _ _ => ⟨rfl, e195, (by decide : 2 + 0 ≤ _), (by decide : 2 + 0 ≤ _)⟩)
                dsimp only [Pt.U, Pt.locs, Pt.cells, Pt.slots] at X197 l197 y197 z197 st197 hQ197
                subst l197 y197 z197
                obtain ⟨rfl, Nq197, e197⟩ := hQ197
                have N197 := Fr.app N195 Nq197
                refine own_st (fun _ k => st197.trans k) ?_
                show own_Ok p e below _ (T197.setTop (mkF m 168 #[.val (.int xa), .val (.int xb), .val (.int (6 : Int32)), .val (.ref b189), .val (.ref b192), .val (.int (1 : Int32))] [(.int (1 : Int32))]))
                refine own_st (fun _ k => XS.iload X197.here hx rfl (hb hby at_168) rfl k) ?_
                show own_Ok p e below _ (T197.setTop (mkF m 170 #[.val (.int xa), .val (.int xb), .val (.int (6 : Int32)), .val (.ref b189), .val (.ref b192), .val (.int (1 : Int32))] [(.int (1 : Int32)), (.int (1 : Int32))]))
                refine own_st (fun _ k => XS.icmpNo X197.here hx rfl (hb hby at_170) rfl (XT.ii_ne_f (by decide)) k) ?_
                show own_Ok p e below _ (T197.setTop (mkF m 173 #[.val (.int xa), .val (.int xb), .val (.int (6 : Int32)), .val (.ref b189), .val (.ref b192), .val (.int (1 : Int32))] []))
                refine own_st (fun _ k => XS.iconst X197.here hx rfl (hb hby at_173) k) ?_
                show own_Ok p e below _ (T197.setTop (mkF m 174 #[.val (.int xa), .val (.int xb), .val (.int (6 : Int32)), .val (.ref b189), .val (.ref b192), .val (.int (1 : Int32))] [(.int (1 : Int32))]))
                refine own_st (fun _ k => XS.goto X197.here hx rfl (pc0 := 174) (pc' := 178) rfl (hb hby at_174) (by decide) (by decide) k) ?_
                show own_Ok p e below _ (T197.setTop (mkF m 178 #[.val (.int xa), .val (.int xb), .val (.int (6 : Int32)), .val (.ref b189), .val (.ref b192), .val (.int (1 : Int32))] [(.int (1 : Int32))]))
                exact own_retN X197 hx hlk (t := .boolean) Bd.returns (by simp) (hb hby at_178) (by rw [e197]; exact ⟨rfl, N197⟩) (by decide) (by decide)
              · skip
                refine own_st (fun _ k => XS.icmpYes X0.here hx rfl (pc0 := 120) (pc' := 135) rfl (hb hby at_120) rfl (XT.ii_ne_t c120_188) (by decide) (by decide) k) ?_
                show own_Ok p e below _ (s₁.setTop (mkF m 135 #[.val (.int xa), .val (.int xb), .val (.int (xa &&& (7 : Int32))), .unset, .unset, .unset] []))
                have k7 : (xa &&& (7 : Int32)) = (7 : Int32) := own_k7 xa c6_101 c16_108 c33_122 c49_134 c62_145 c95_164 c120_188
                rw [show (xa &&& (7 : Int32)) = (7 : Int32) from k7]
                show own_Ok p e below _ (s₁.setTop (mkF m 135 #[.val (.int xa), .val (.int xb), .val (.int (7 : Int32)), .unset, .unset, .unset] []))
                refine own_st (fun _ k => XS.iloadN X0.here hx rfl (hb hby at_135) rfl k) ?_
                show own_Ok p e below _ (s₁.setTop (mkF m 136 #[.val (.int xa), .val (.int xb), .val (.int (7 : Int32)), .unset, .unset, .unset] [(.int xb)]))
                refine own_st (fun _ k => XS.i2l X0.here hx rfl (hb hby at_136) rfl k) ?_
                show own_Ok p e below _ (s₁.setTop (mkF m 137 #[.val (.int xa), .val (.int xb), .val (.int (7 : Int32)), .unset, .unset, .unset] [(.long (xb.toInt64))]))
                obtain ⟨_, _, ⟨T202, L202, k202, n202⟩, -, X202, ⟨Lc202, hQ202, l202, y202, z202⟩, st202⟩ := Jvm.LawKit.callS X0 hx (y := (⟨"java/lang/Long", "valueOf", "(J)Ljava/lang/Long;"⟩ : MethodName)) hown (mvT hZ (hw _ (List.mem_of_getElem? (i := 58) rfl))) (mvT hZ (hw _ (List.mem_of_getElem? (i := 59) rfl))) (mvT hZ (hw _ (List.mem_of_getElem? (i := 60) rfl))) (mvT hZ (hw _ (List.mem_of_getElem? (i := 61) rfl))) (by decide) (backOf (W := 0) (rm_voJ l Z a0 hw [] ((xb.toInt64)) cal cll h0 n0 O0 SCL CAL hszL elL) hZ (hw _ (List.mem_of_getElem? (i := 61) rfl)) (hw _ (List.mem_of_getElem? (i := 60) rfl)) (by decide) (by decide)) (g := (mkF m 137 #[.val (.int xa), .val (.int xb), .val (.int (7 : Int32)), .unset, .unset, .unset] [(.long (xb.toInt64))])) rfl (by rw [hml]; rfl) (argsL := [(.long (xb.toInt64))]) (rest := []) (lenOf own_pd8 rfl) rfl (by show 2 * 0 + _ ≤ _; exact Nat.le_of_eq rfl) (hb hby at_137) (fun _ _ => ⟨rfl, e0, (by decide : 0 + 1 ≤ _), (by decide : 0 + 1 ≤ _)⟩)
                dsimp only [Pt.U, Pt.locs, Pt.cells, Pt.slots] at X202 l202 y202 z202 st202 hQ202
                subst l202 y202 z202
                obtain ⟨t_202, rfl, Nq202, K202, g202_0⟩ := hQ202
                have N202 := Fr.app N0 Nq202
                refine own_st st202 ?_
                have e202 : T202.heap = T202.heap := rfl
                show own_Ok p e below _ (T202.setTop (mkF m 140 #[.val (.int xa), .val (.int xb), .val (.int (7 : Int32)), .unset, .unset, .unset] [(.ref t_202)]))
                refine own_st (fun _ k => XS.astoreN X202.here hx rfl (hb hby at_140) rfl rfl (l' := #[.val (.int xa), .val (.int xb), .val (.int (7 : Int32)), .val (.ref t_202), .unset, .unset]) rfl k) ?_
                show own_Ok p e below _ (T202.setTop (mkF m 141 #[.val (.int xa), .val (.int xb), .val (.int (7 : Int32)), .val (.ref t_202), .unset, .unset] []))
                obtain ⟨T203, h203, X203, e203, E203, A203, D203, -, st203⟩ := newO X202 hx hZ hown (hw _ (List.mem_of_getElem? (i := 0) rfl)) (hw _ (List.mem_of_getElem? (i := 1) rfl)) (hw _ (List.mem_of_getElem? (i := 2) rfl)) e202 (g := (mkF m 141 #[.val (.int xa), .val (.int xb), .val (.int (7 : Int32)), .val (.ref t_202), .unset, .unset] [])) rfl (hb hby at_141) (by decide) (by decide)
                obtain ⟨b203, g203⟩ : ∃ z, z = T202.heap.size := ⟨_, rfl⟩
                rw [← g203] at A203 D203 st203
                refine own_st st203 ?_
                have f204 := O0.keep K202 all0
                have gb_b203 : n0 ≤ b203 := Nat.le_trans (own_n0 f204) (Nat.le_of_eq g203.symm)
                have ne_t_202_b203 : t_202 ≠ b203 := Nat.ne_of_lt (Nat.lt_of_lt_of_le g202_0.lt (Nat.le_of_eq g203.symm))
                have F203_content : Fld Z h203 b203 "com/example/tandemwick/tandemwick/FutureState$Special" "content" "Ljava/lang/Object;" .null := D203 (Or.inr (hw _ (List.mem_of_getElem? (i := 10) rfl))) (ty := (.object "java/lang/Object")) (by decide)
                show own_Ok p e below _ (T203.setTop (mkF m 144 #[.val (.int xa), .val (.int xb), .val (.int (7 : Int32)), .val (.ref t_202), .unset, .unset] [(.ref b203)]))
                refine own_st (fun _ k => XS.dup X203.here hx rfl (hb hby at_144) rfl rfl k) ?_
                show own_Ok p e below _ (T203.setTop (mkF m 145 #[.val (.int xa), .val (.int xb), .val (.int (7 : Int32)), .val (.ref t_202), .unset, .unset] [(.ref b203), (.ref b203)]))
                refine own_st (fun _ k => XS.aloadN X203.here hx rfl (hb hby at_145) rfl rfl k) ?_
                show own_Ok p e below _ (T203.setTop (mkF m 146 #[.val (.int xa), .val (.int xb), .val (.int (7 : Int32)), .val (.ref t_202), .unset, .unset] [(.ref t_202), (.ref b203), (.ref b203)]))
                have f206 := f204.ext E203
                obtain ⟨_, _, ⟨T205, L205, k205, n205⟩, -, X205, ⟨Lc205, hQ205, l205, y205, z205⟩, st205⟩ := X203.specialBack hx (y := (⟨"com/example/tandemwick/tandemwick/FutureState$Special", "<init>", "(Ljava/lang/Object;)V"⟩ : MethodName)) rfl hown (mvT hZ (hw _ (List.mem_of_getElem? (i := 3) rfl))) (mvT hZ (hw _ (List.mem_of_getElem? (i := 4) rfl))) (mvT hZ (hw _ (List.mem_of_getElem? (i := 5) rfl))) (by decide) (backOf (W := 1) (rm1 l Z a0 hw [] b203 ((.ref t_202)) h203 n0 f206 rfl A203 F203_content gb_b203) hZ (hw _ (List.mem_of_getElem? (i := 5) rfl)) (hw _ (List.mem_of_getElem? (i := 2) rfl)) (by decide) (by decide)) (g := (mkF m 146 #[.val (.int xa), .val (.int xb), .val (.int (7 : Int32)), .val (.ref t_202), .unset, .unset] [(.ref t_202), (.ref b203), (.ref b203)])) rfl (by rw [hml]; rfl) (Steps.refl _) (a := b203) (argsL := [(.ref t_202)]) (rest := [(.ref b203)]) (lenOf own_pd3 rfl) rfl (by show 2 * 0 + _ ≤ _; exact Nat.le_of_eq rfl) (hb hby at_146) (fun _ _ => ⟨rfl, e203, (by decide : 2 + 0 ≤ _), (by decide : 2 + 0 ≤ _)⟩)
                dsimp only [Pt.U, Pt.locs, Pt.cells, Pt.slots] at X205 l205 y205 z205 st205 hQ205
                subst l205 y205 z205
                obtain ⟨rfl, Nq205, K205, g205_0⟩ := hQ205
                have N205 := Fr.app N202 Nq205
                refine own_st (fun _ k => st205.trans k) ?_
                have e205 : T205.heap = T205.heap := rfl
                show own_Ok p e below _ (T205.setTop (mkF m 149 #[.val (.int xa), .val (.int xb), .val (.int (7 : Int32)), .val (.ref t_202), .unset, .unset] [(.ref b203)]))
                refine own_st (fun _ k => XS.astore X205.here hx rfl (hb hby at_149) rfl rfl (l' := #[.val (.int xa), .val (.int xb), .val (.int (7 : Int32)), .val (.ref t_202), .val (.ref b203), .unset]) rfl k) ?_
                show own_Ok p e below _ (T205.setTop (mkF m 151 #[.val (.int xa), .val (.int xb), .val (.int (7 : Int32)), .val (.ref t_202), .val (.ref b203), .unset] []))
                refine own_st (fun _ k => XS.iloadN X205.here hx rfl (hb hby at_151) rfl k) ?_
                show own_Ok p e below _ (T205.setTop (mkF m 152 #[.val (.int xa), .val (.int xb), .val (.int (7 : Int32)), .val (.ref t_202), .val (.ref b203), .unset] [(.int (7 : Int32))]))
                refine own_st (fun _ k => XS.iconst X205.here hx rfl (hb hby at_152) k) ?_
                show own_Ok p e below _ (T205.setTop (mkF m 153 #[.val (.int xa), .val (.int xb), .val (.int (7 : Int32)), .val (.ref t_202), .val (.ref b203), .unset] [(.int (3 : Int32)), (.int (7 : Int32))]))
                refine own_st (fun _ k => XS.icmpNo X205.here hx rfl (hb hby at_153) rfl (XT.ii_lt_f (by decide)) k) ?_
                show own_Ok p e below _ (T205.setTop (mkF m 156 #[.val (.int xa), .val (.int xb), .val (.int (7 : Int32)), .val (.ref t_202), .val (.ref b203), .unset] []))
                refine own_st (fun _ k => XS.iconst X205.here hx rfl (hb hby at_156) k) ?_
                show own_Ok p e below _ (T205.setTop (mkF m 157 #[.val (.int xa), .val (.int xb), .val (.int (7 : Int32)), .val (.ref t_202), .val (.ref b203), .unset] [(.int (1 : Int32))]))
                refine own_st (fun _ k => XS.goto X205.here hx rfl (pc0 := 157) (pc' := 161) rfl (hb hby at_157) (by decide) (by decide) k) ?_
                show own_Ok p e below _ (T205.setTop (mkF m 161 #[.val (.int xa), .val (.int xb), .val (.int (7 : Int32)), .val (.ref t_202), .val (.ref b203), .unset] [(.int (1 : Int32))]))
                refine own_st (fun _ k => XS.istore X205.here hx rfl (hb hby at_161) rfl (l' := #[.val (.int xa), .val (.int xb), .val (.int (7 : Int32)), .val (.ref t_202), .val (.ref b203), .val (.int (1 : Int32))]) rfl k) ?_
                show own_Ok p e below _ (T205.setTop (mkF m 163 #[.val (.int xa), .val (.int xb), .val (.int (7 : Int32)), .val (.ref t_202), .val (.ref b203), .val (.int (1 : Int32))] []))
                refine own_st (fun _ k => XS.aload X205.here hx rfl (hb hby at_163) rfl rfl k) ?_
                show own_Ok p e below _ (T205.setTop (mkF m 165 #[.val (.int xa), .val (.int xb), .val (.int (7 : Int32)), .val (.ref t_202), .val (.ref b203), .val (.int (1 : Int32))] [(.ref b203)]))
                have f208 := g202_0.ext E203
                have f209 := f208.keep K205
                have f210 := f206.keep K205 (allS gb_b203 all0)
                have f211 := A203.keep K205
                obtain ⟨cq207, kq207, q207a, q207b, q207c⟩ := isOf hZ e205 f211
                obtain ⟨_, _, ⟨T207, L207, k207, n207⟩, -, X207, ⟨Lc207, hQ207, l207, y207, z207⟩, st207⟩ := X205.virtualBack hx (y := (⟨"com/example/tandemwick/tandemwick/FutureState$Special", "isPending", "()Z"⟩ : MethodName)) (z := (⟨"com/example/tandemwick/tandemwick/FutureState$Special", "isPending", "()Z"⟩ : MethodName)) hown (mvT hZ (hw _ (List.mem_of_getElem? (i := 11) rfl))) (mvT hZ (hw _ (List.mem_of_getElem? (i := 12) rfl))) (notFace_of_selects (args := #[]) (mvT hZ (hw _ (List.mem_of_getElem? (i := 14) rfl)))) (mvT hZ (hw _ (List.mem_of_getElem? (i := 14) rfl))) (mvT hZ (hw _ (List.mem_of_getElem? (i := 13) rfl))) (by decide) (backOf (W := 0) (rm_pend_L l Z a0 hw [] b203 t_202 T205.heap n0 f210 g205_0 f209) hZ (hw _ (List.mem_of_getElem? (i := 15) rfl)) (hw _ (List.mem_of_getElem? (i := 2) rfl)) (by decide) (by decide)) q207a q207c (g := (mkF m 165 #[.val (.int xa), .val (.int xb), .val (.int (7 : Int32)), .val (.ref t_202), .val (.ref b203), .val (.int (1 : Int32))] [(.ref b203)])) rfl (by rw [hml]; rfl) (Steps.refl _) (argsL := []) (rest := []) (lenOf own_pd4 rfl) rfl (by show 2 * 0 + _ ≤ _; exact Nat.le_of_eq rfl) (hb hby at_165) (fun _ _ => ⟨rfl, e205, (by decide : 2 + 0 ≤ _), (by decide : 2 + 0 ≤ _)⟩)
                dsimp only [Pt.U, Pt.locs, Pt.cells, Pt.slots] at X207 l207 y207 z207 st207 hQ207
                subst l207 y207 z207
                obtain ⟨rfl, Nq207, e207⟩ := hQ207
                have N207 := Fr.app N205 Nq207
                refine own_st (fun _ k => st207.trans k) ?_
                show own_Ok p e below _ (T207.setTop (mkF m 168 #[.val (.int xa), .val (.int xb), .val (.int (7 : Int32)), .val (.ref t_202), .val (.ref b203), .val (.int (1 : Int32))] [(.int (1 : Int32))]))
                refine own_st (fun _ k => XS.iload X207.here hx rfl (hb hby at_168) rfl k) ?_
                show own_Ok p e below _ (T207.setTop (mkF m 170 #[.val (.int xa), .val (.int xb), .val (.int (7 : Int32)), .val (.ref t_202), .val (.ref b203), .val (.int (1 : Int32))] [(.int (1 : Int32)), (.int (1 : Int32))]))
                refine own_st (fun _ k => XS.icmpNo X207.here hx rfl (hb hby at_170) rfl (XT.ii_ne_f (by decide)) k) ?_
                show own_Ok p e below _ (T207.setTop (mkF m 173 #[.val (.int xa), .val (.int xb), .val (.int (7 : Int32)), .val (.ref t_202), .val (.ref b203), .val (.int (1 : Int32))] []))
                refine own_st (fun _ k => XS.iconst X207.here hx rfl (hb hby at_173) k) ?_
                show own_Ok p e below _ (T207.setTop (mkF m 174 #[.val (.int xa), .val (.int xb), .val (.int (7 : Int32)), .val (.ref t_202), .val (.ref b203), .val (.int (1 : Int32))] [(.int (1 : Int32))]))
                refine own_st (fun _ k => XS.goto X207.here hx rfl (pc0 := 174) (pc' := 178) rfl (hb hby at_174) (by decide) (by decide) k) ?_
                show own_Ok p e below _ (T207.setTop (mkF m 178 #[.val (.int xa), .val (.int xb), .val (.int (7 : Int32)), .val (.ref t_202), .val (.ref b203), .val (.int (1 : Int32))] [(.int (1 : Int32))]))
                exact own_retN X207 hx hlk (t := .boolean) Bd.returns (by simp) (hb hby at_178) (by rw [e207]; exact ⟨rfl, N207⟩) (by decide) (by decide)
set_option maxRecDepth 65536 in
set_option maxHeartbeats 40000000 in
theorem comes_1 {Post : Tables → Env → Array Value → State → Outcome → State → Prop} (hpost : ∀ tb e args s v u, (limb_1_1.after args s (.returned v) u = true ∧ limb_1_2.after args s (.returned v) u = true ∧ True) → FrameEnd s (.returned v) u (Jvm.fieldLocs frame_1_writes args s ++ Jvm.arrayLocs frame_1_arrays args s ++ Jvm.staticLocs frame_1_statics s) 16 128 → Post tb e args s (.returned v) u) :
    ArmFor flags0 classFile x code maxLocals ret World_1 tables_1 room_1 Calls_1 rest_1 Pre_1 Post := by
  intro l hfl _ _ p e ha hc hk s m args below hf hA hF happ hP
  obtain ⟨hcalls, hrest, hpre⟩ := hP
  obtain ⟨-, -, -, hnamed, -, -, -, hat⟩ := (Spec.applies_iff hf).mp happ
  obtain ⟨hg, hn⟩ := and_e (Cond.before_iff.mp (show (Jvm.Cond.and given_1 narrow_1).before args s = true from hpre))
  obtain ⟨hcount, hr0⟩ := and_e hg
  obtain ⟨ha0, hr1⟩ := and_e hr0
  have ha1 := hr1
  obtain ⟨w0, w1, rfl⟩ : ∃ w0 w1 : Value, args = #[w0, w1] := by
    have hs : args.size = 2 := by simpa [Cond.value, given_1] using hcount
    obtain ⟨L⟩ := args
    match L, hs with
    | [w0, w1], _ => exact ⟨w0, w1, rfl⟩
  have hw := fun d (hd : d ∈ tables_1) => atoms_spec (ws := Jvm.Cond.code x code maxLocals ret :: tables_1) hat d (List.mem_cons_of_mem _ hd)
  obtain ⟨hsets, hown0⟩ := atoms_of _ (rest_1_c_eq ▸ (show rest_1_c.before _ s = true from hrest))
  have hrst := Cond.before_iff.mp hown0
  have hfit : Fit s := fun {y c} hc i hi => by
    obtain ⟨ha, rfl⟩ := Array.getElem?_eq_some_iff.mp hc
    have q := List.all_eq_true.mp ((Array.all_eq_true_iff_forall_mem.mp hF) _ (Array.getElem_mem ha)) i (List.mem_range.mpr hi)
    simpa [Array.getElem?_eq_getElem hi] using q
  obtain ⟨i0, ea0⟩ := is_v ha0
  obtain rfl : w0 = (.int i0) := Option.some.inj ea0
  obtain ⟨i1, ea1⟩ := is_v ha1
  obtain rfl : w1 = (.int i1) := Option.some.inj ea1
  obtain ⟨G1, eG1⟩ := is_v (Cond.before_iff.mp (hsets _ (List.mem_of_getElem? (i := 1) rfl)))
  have SG1 : Sta s s.heap "java/lang/String" "COMPACT_STRINGS" "Z" (.int G1) := Sta.start eG1 (Or.inl (hsets _ (List.mem_of_getElem? (i := 0) rfl)))
  have PG1 : ¬ (G1 = (0 : Int32)) := gotF (Cond.eq_ints eG1 (Term.int_eval (0))) (not_v (Cond.before_iff.mp (hsets _ (List.mem_of_getElem? (i := 2) rfl))))
  obtain ⟨cai, cli, SCI, CAI, hszI, elI⟩ := own_cacheStart (K := "java/lang/Integer") (d := "[Ljava/lang/Integer;") (hsets _ (List.mem_of_getElem? (i := 13) rfl)) (hsets _ (List.mem_of_getElem? (i := 15) rfl)) (hsets _ (List.mem_of_getElem? (i := 16) rfl)) (Or.inr ⟨(hw _ (List.mem_of_getElem? (i := 86) rfl)), hsets _ (List.mem_of_getElem? (i := 11) rfl)⟩)
  obtain ⟨cal, cll, SCL, CAL, hszL, elL⟩ := own_cacheStart (K := "java/lang/Long") (d := "[Ljava/lang/Long;") (hsets _ (List.mem_of_getElem? (i := 19) rfl)) (hsets _ (List.mem_of_getElem? (i := 21) rfl)) (hsets _ (List.mem_of_getElem? (i := 22) rfl)) (Or.inl (hsets _ (List.mem_of_getElem? (i := 18) rfl)))
  have SHI : Sta s s.heap "java/lang/Integer$IntegerCache" "high" "I" (.int (127 : Int32)) := own_staEq (hsets _ (List.mem_of_getElem? (i := 12) rfl)) (Or.inl (hsets _ (List.mem_of_getElem? (i := 10) rfl)))
  obtain ⟨n, o, h1, h2, h3, _, L, rfl, ⟨rfl, N⟩, hq⟩ := rm_law l s _ hw tables_1 i0 i1 G1 cai cli cal cll s.heap s.heap.size (Old.start s) SG1 PG1 SHI SCI CAI hszI elI SCL CAL hszL elL p e ha hc hk s m _ below hf ((Spec.applies_iff_loose hf).mp happ).1 ⟨rfl, State.Warmed39.refl s, rfl⟩ trivial
  refine ⟨n, _, h1, h2, h3, hpost _ _ _ _ _ _ ⟨Cond.after_iff.mpr rfl, Cond.after_iff.mpr (eq_i res_at (Term.int_eval (1)) rfl), trivial⟩ ⟨hq.1, hq.2.1, (hq.2.2.sift fun y hy => Or.inr (N y hy)).mono (by decide) (by decide)⟩⟩
theorem main_1_1 : Claimed_1_1 := comes_1 fun _ _ _ _ _ _ h hF => ⟨h.1, hF⟩
theorem main_1_2 : Claimed_1_2 := comes_1 fun _ _ _ _ _ _ h hF => ⟨h.2.1, hF⟩
end Jvm.Pilot.@@N@@
namespace Jvm.Pilot.@@N@@
open Jvm Jvm.ClassFile Sem Op Lib Jvm.Free Jvm.Stand Jvm.Pilot.@@N@@.Jvm.D
/-! MADE BY PROGRAM (witnessworld.py) out of the Statement's table words and the real class files: 29 classes; the members and pool entries that the words name. The judged class is class 1, her method 1. -/
namespace start1
open Jvm.ClassFile
def u (s : String) : CpInfo := .utf8 (stringToUtf16 s)
/-- a pool by its gaps: so many unusable entries, then the entry; so many at the end -/
def gap : Nat → List CpInfo → List CpInfo
  | 0, r => r
  | n + 1, r => .unusable :: gap n r
def poolList (es : List (Nat × CpInfo)) (last : Nat) : List CpInfo := es.foldr (fun e r => gap e.1 (e.2 :: r)) (gap last [])
def pool (es : List (Nat × CpInfo)) (last : Nat) : Array CpInfo := ⟨poolList es last⟩
def fileOf (pool : Array CpInfo) (this : Nat) (attrs : Array Attribute := #[]) (ms : Array MethodInfo := #[]) (fl : Nat := 33) (sup : Nat := 0) (ifs : Array Nat := #[]) (fds : Array FieldInfo := #[]) : ClassFile where
  minorVersion := 0
  majorVersion := 65
  constantPool := pool
  accessFlags := fl
  thisClass := this
  superClass := sup
  interfaces := ifs
  fields := fds
  methods := ms
  attributes := attrs
def plain (name : String) (sup : Option ClassId) : Class where
  name := name
  kind := .ordinary
  loader := none
  accessFlags := 33
  super := sup
  interfaces := #[]
  cf := none
  fields := #[]
  methods := #[]
  instanceTypes := #[]
  staticTypes := #[]
  resolved := #[]
  callSites := []
  init := .initialized
  statics := none
  mirror := none

def pool0 : Array CpInfo := pool [(5, u "<init>"), (0, u "()V"), (1, .class_ 10), (1, u "java/lang/Object")] 113

def k0c0 : Code := { maxStack := 0, maxLocals := 1, code := object_method_1_code, exceptionTable := #[], attributes := #[] }
def k0m0 : Method := { name := "<init>", desc := "()V", sig := { parameters := [], returnType := none }, accessFlags := 1, code := some k0c0 }
/-- java/lang/Object -/
def k0 : Class := { plain "java/lang/Object" none with
  accessFlags := 33
  interfaces := #[]
  cf := some (fileOf pool0 8 #[] #[{ accessFlags := 1, nameIndex := 5, descriptorIndex := 6, attributes := #[] }] 33 0 #[] #[])
  fields := #[]
  methods := #[k0m0]
  instanceTypes := #[]
  staticTypes := #[]
  resolved := Array.replicate 124 none
  statics := none }

def pool1 : Array CpInfo := pool [(2, .class_ 4), (0, .nameAndType 5 6), (0, u "java/lang/Object"), (0, u "<init>"), (0, u "()V"), (0, .class_ 8), (0, u "com/example/tandemwick/tandemwick/FutureState$Failure"), (0, .methodref 7 10), (0, .nameAndType 5 11), (0, u "(Ljava/lang/Throwable;)V"), (0, .class_ 13), (0, u "com/example/tandemwick/tandemwick/FutureState$Cancellation"), (0, .methodref 12 3), (0, .methodref 16 17), (0, .class_ 18), (0, .nameAndType 19 20), (0, u "java/lang/Integer"), (0, u "valueOf"), (0, u "(I)Ljava/lang/Integer;"), (0, .class_ 22), (0, u "java/lang/String"), (0, .methodref 21 24), (0, .nameAndType 5 25), (0, u "([C)V"), (0, .class_ 27), (0, u "com/example/tandemwick/tandemwick/FutureState$Special"), (0, .methodref 26 29), (0, .nameAndType 5 30), (0, u "(Ljava/lang/Object;)V"), (0, .methodref 32 33), (0, .class_ 34), (0, .nameAndType 19 35), (0, u "java/lang/Long"), (0, u "(J)Ljava/lang/Long;"), (0, .methodref 26 37), (0, .nameAndType 38 39), (0, u "isPending"), (0, u "()Z"), (0, .class_ 41), (0, u "com/example/tandemwick/tandemwick/SpecialIsPendingPinLaw"), (2, u "law"), (0, u "(II)Z")] 9

def k1m0 : Method := { name := "<init>", desc := "()V", sig := { parameters := [], returnType := none }, accessFlags := 2, code := none }
def k1c1 : Code := { maxStack := 5, maxLocals := 6, code := code, exceptionTable := #[], attributes := #[] }
def k1m1 : Method := { name := "law", desc := "(II)Z", sig := { parameters := [.int, .int], returnType := some .boolean }, accessFlags := 9, code := some k1c1 }
/-- com/example/tandemwick/tandemwick/SpecialIsPendingPinLaw -/
def k1 : Class := { plain "com/example/tandemwick/tandemwick/SpecialIsPendingPinLaw" (some 0) with
  accessFlags := 49
  interfaces := #[]
  cf := some (fileOf pool1 40 #[] #[{ accessFlags := 2, nameIndex := 5, descriptorIndex := 6, attributes := #[] }, { accessFlags := 9, nameIndex := 44, descriptorIndex := 45, attributes := #[] }] 49 2 #[] #[])
  fields := #[]
  methods := #[k1m0, k1m1]
  instanceTypes := #[]
  staticTypes := #[]
  resolved := Array.replicate 55 none
  statics := none }

def pool2 : Array CpInfo := pool [(1, .methodref 2 3), (0, .class_ 4), (0, .nameAndType 5 6), (0, u "java/lang/Object"), (0, u "<init>"), (0, u "()V"), (0, .fieldref 8 9), (0, .class_ 10), (0, .nameAndType 11 12), (0, u "com/example/tandemwick/tandemwick/FutureState$Special"), (0, u "content"), (0, u "Ljava/lang/Object;"), (0, .class_ 14), (0, u "com/example/tandemwick/tandemwick/FutureState$Failure"), (0, .class_ 16), (0, u "com/example/tandemwick/tandemwick/FutureState$Cancellation"), (0, u "(Ljava/lang/Object;)V"), (2, u "isPending"), (0, u "()Z"), (4, .class_ 27), (0, u "com/example/tandemwick/tandemwick/FutureState")] 4

def k2c0 : Code := { maxStack := 2, maxLocals := 2, code := prog_16_method_1_code, exceptionTable := #[], attributes := #[] }
def k2m0 : Method := { name := "<init>", desc := "(Ljava/lang/Object;)V", sig := { parameters := [(.object "java/lang/Object")], returnType := none }, accessFlags := 0, code := some k2c0 }
def k2c1 : Code := { maxStack := 1, maxLocals := 1, code := prog_16_method_2_code, exceptionTable := #[], attributes := #[] }
def k2m1 : Method := { name := "isPending", desc := "()Z", sig := { parameters := [], returnType := some .boolean }, accessFlags := 0, code := some k2c1 }
/-- com/example/tandemwick/tandemwick/FutureState$Special -/
def k2 : Class := { plain "com/example/tandemwick/tandemwick/FutureState$Special" (some 0) with
  accessFlags := 48
  interfaces := #[]
  cf := some (fileOf pool2 8 #[.nestHost 26] #[{ accessFlags := 0, nameIndex := 5, descriptorIndex := 17, attributes := #[] }, { accessFlags := 0, nameIndex := 20, descriptorIndex := 21, attributes := #[] }] 48 2 #[] #[{ accessFlags := 16, nameIndex := 11, descriptorIndex := 12, attributes := #[] }])
  fields := #[{ name := "content", type := (.object "java/lang/Object"), accessFlags := 16, slot := 0, constantValue := 0 }]
  methods := #[k2m0, k2m1]
  instanceTypes := #[(.object "java/lang/Object")]
  staticTypes := #[]
  resolved := Array.replicate 32 none
  statics := none }

def pool3 : Array CpInfo := pool [(1, .methodref 2 3), (0, .class_ 4), (0, .nameAndType 5 6), (0, u "java/lang/Object"), (0, u "<init>"), (0, u "()V"), (0, .fieldref 8 9), (0, .class_ 10), (0, .nameAndType 11 12), (0, u "com/example/tandemwick/tandemwick/FutureState$Failure"), (0, u "cause"), (0, u "Ljava/lang/Throwable;"), (0, u "(Ljava/lang/Throwable;)V"), (5, .class_ 20), (0, u "com/example/tandemwick/tandemwick/FutureState")] 2

def k3c0 : Code := { maxStack := 2, maxLocals := 2, code := prog_15_method_1_code, exceptionTable := #[], attributes := #[] }
def k3m0 : Method := { name := "<init>", desc := "(Ljava/lang/Throwable;)V", sig := { parameters := [(.object "java/lang/Throwable")], returnType := none }, accessFlags := 0, code := some k3c0 }
/-- com/example/tandemwick/tandemwick/FutureState$Failure -/
def k3 : Class := { plain "com/example/tandemwick/tandemwick/FutureState$Failure" (some 0) with
  accessFlags := 48
  interfaces := #[]
  cf := some (fileOf pool3 8 #[.nestHost 19] #[{ accessFlags := 0, nameIndex := 5, descriptorIndex := 13, attributes := #[] }] 48 2 #[] #[{ accessFlags := 16, nameIndex := 11, descriptorIndex := 12, attributes := #[] }])
  fields := #[{ name := "cause", type := (.object "java/lang/Throwable"), accessFlags := 16, slot := 0, constantValue := 0 }]
  methods := #[k3m0]
  instanceTypes := #[(.object "java/lang/Throwable")]
  staticTypes := #[]
  resolved := Array.replicate 23 none
  statics := none }

def pool4 : Array CpInfo := pool [(1, .methodref 2 3), (0, .class_ 4), (0, .nameAndType 5 6), (0, u "java/lang/Object"), (0, u "<init>"), (0, u "()V"), (0, .class_ 8), (0, u "com/example/tandemwick/tandemwick/FutureState$Cancellation"), (5, .class_ 15), (0, u "com/example/tandemwick/tandemwick/FutureState")] 2

def k4c0 : Code := { maxStack := 1, maxLocals := 1, code := prog_13_method_1_code, exceptionTable := #[], attributes := #[] }
def k4m0 : Method := { name := "<init>", desc := "()V", sig := { parameters := [], returnType := none }, accessFlags := 0, code := some k4c0 }
/-- com/example/tandemwick/tandemwick/FutureState$Cancellation -/
def k4 : Class := { plain "com/example/tandemwick/tandemwick/FutureState$Cancellation" (some 0) with
  accessFlags := 48
  interfaces := #[]
  cf := some (fileOf pool4 7 #[.nestHost 14] #[{ accessFlags := 0, nameIndex := 5, descriptorIndex := 6, attributes := #[] }] 48 2 #[] #[])
  fields := #[]
  methods := #[k4m0]
  instanceTypes := #[]
  staticTypes := #[]
  resolved := Array.replicate 18 none
  statics := none }

def pool5 : Array CpInfo := pool [(1, .class_ 2), (0, u "java/io/Serializable"), (0, .class_ 4), (0, u "java/lang/Object")] 2

/-- java/io/Serializable -/
def k5 : Class := { plain "java/io/Serializable" (some 0) with
  accessFlags := 1537
  interfaces := #[]
  cf := some (fileOf pool5 1 #[] #[] 1537 3 #[] #[])
  fields := #[]
  methods := #[]
  instanceTypes := #[]
  staticTypes := #[]
  resolved := Array.replicate 7 none
  statics := none }

def pool6 : Array CpInfo := pool [(1, .class_ 2), (0, u "java/lang/Comparable"), (0, .class_ 4), (0, u "java/lang/Object")] 7

/-- java/lang/Comparable -/
def k6 : Class := { plain "java/lang/Comparable" (some 0) with
  accessFlags := 1537
  interfaces := #[]
  cf := some (fileOf pool6 1 #[] #[] 1537 3 #[] #[])
  fields := #[]
  methods := #[]
  instanceTypes := #[]
  staticTypes := #[]
  resolved := Array.replicate 12 none
  statics := none }

def pool7 : Array CpInfo := pool [(2, .class_ 4), (1, u "java/lang/CharSequence"), (42, .class_ 48), (0, u "java/lang/CharSequence$1CodePointIterator"), (10, .class_ 60), (0, u "java/lang/CharSequence$1CharIterator"), (5, .class_ 67), (0, u "java/lang/Object")] 63

/-- java/lang/CharSequence -/
def k7 : Class := { plain "java/lang/CharSequence" (some 0) with
  accessFlags := 1537
  interfaces := #[]
  cf := some (fileOf pool7 2 #[.nestMembers #[47, 59]] #[] 1537 66 #[] #[])
  fields := #[]
  methods := #[]
  instanceTypes := #[]
  staticTypes := #[]
  resolved := Array.replicate 131 none
  statics := none }

def pool8 : Array CpInfo := pool [(1, .class_ 2), (0, u "java/lang/constant/Constable"), (0, .class_ 4), (0, u "java/lang/Object")] 6

/-- java/lang/constant/Constable -/
def k8 : Class := { plain "java/lang/constant/Constable" (some 0) with
  accessFlags := 1537
  interfaces := #[]
  cf := some (fileOf pool8 1 #[] #[] 1537 3 #[] #[])
  fields := #[]
  methods := #[]
  instanceTypes := #[]
  staticTypes := #[]
  resolved := Array.replicate 11 none
  statics := none }

def pool9 : Array CpInfo := pool [(1, .class_ 2), (0, u "java/lang/constant/ConstantDesc"), (0, .class_ 4), (0, u "java/lang/Object")] 32

/-- java/lang/constant/ConstantDesc -/
def k9 : Class := { plain "java/lang/constant/ConstantDesc" (some 0) with
  accessFlags := 1537
  interfaces := #[]
  cf := some (fileOf pool9 1 #[] #[] 1537 3 #[] #[])
  fields := #[]
  methods := #[]
  instanceTypes := #[]
  staticTypes := #[]
  resolved := Array.replicate 37 none
  statics := none }

def pool10 : Array CpInfo := pool [(1, .methodref 2 3), (0, .class_ 4), (0, .nameAndType 5 6), (0, u "java/lang/Object"), (0, u "<init>"), (0, u "()V"), (2, .fieldref 10 11), (0, .class_ 12), (0, .nameAndType 13 14), (0, u "java/lang/String"), (0, u "value"), (0, u "[B"), (0, .fieldref 10 16), (0, .nameAndType 17 18), (0, u "coder"), (0, u "B"), (2, u "hash"), (0, u "I"), (2, u "hashIsZero"), (0, u "Z"), (0, .methodref 10 28), (0, .nameAndType 5 29), (0, u "([CIILjava/lang/Void;)V"), (8, .fieldref 10 39), (0, .nameAndType 40 26), (0, u "COMPACT_STRINGS"), (1, .class_ 44), (1, u "java/lang/StringUTF16"), (0, u "compress"), (1, .methodref 42 48), (0, .nameAndType 49 50), (0, u "coderFromArrayLen"), (0, u "([BI)B"), (126, .methodref 42 178), (0, .nameAndType 45 179), (0, u "([CII)[B"), (395, .class_ 576), (0, u "java/lang/CharSequence"), (22, u "CASE_INSENSITIVE_ORDER"), (0, u "Ljava/util/Comparator;"), (409, u "([C)V"), (90, u "serialPersistentFields"), (0, u "[Ljava/io/ObjectStreamField;"), (0, .class_ 1104), (0, u "java/lang/String$CaseInsensitiveComparator"), (1, .class_ 1107), (0, u "java/io/Serializable"), (0, .class_ 1109), (0, u "java/lang/Comparable"), (0, .class_ 1111), (0, u "java/lang/constant/Constable"), (0, .class_ 1113), (0, u "java/lang/constant/ConstantDesc"), (2, u "serialVersionUID"), (0, u "J"), (3, u "REPL"), (0, u "C"), (2, u "LATIN1"), (1, u "UTF16")] 323

def k10m0 : Method := { name := "<init>", desc := "()V", sig := { parameters := [], returnType := none }, accessFlags := 1, code := none }
def k10c1 : Code := { maxStack := 5, maxLocals := 2, code := jdk_42_method_3_code, exceptionTable := #[], attributes := #[] }
def k10m1 : Method := { name := "<init>", desc := "([C)V", sig := { parameters := [(.array .char)], returnType := none }, accessFlags := 1, code := some k10c1 }
def k10c2 : Code := { maxStack := 4, maxLocals := 6, code := jdk_42_method_149_code, exceptionTable := #[], attributes := #[] }
def k10m2 : Method := { name := "<init>", desc := "([CIILjava/lang/Void;)V", sig := { parameters := [(.array .char), .int, .int, (.object "java/lang/Void")], returnType := none }, accessFlags := 2, code := some k10c2 }
/-- java/lang/String -/
def k10 : Class := { plain "java/lang/String" (some 0) with
  accessFlags := 49
  interfaces := #[5, 6, 7, 8, 9]
  cf := some (fileOf pool10 10 #[.nestMembers #[1103]] #[{ accessFlags := 1, nameIndex := 5, descriptorIndex := 6, attributes := #[] }, { accessFlags := 1, nameIndex := 5, descriptorIndex := 1010, attributes := #[] }, { accessFlags := 2, nameIndex := 5, descriptorIndex := 29, attributes := #[] }] 49 2 #[1106, 1108, 575, 1110, 1112] #[{ accessFlags := 18, nameIndex := 13, descriptorIndex := 14, attributes := #[] }, { accessFlags := 18, nameIndex := 17, descriptorIndex := 18, attributes := #[] }, { accessFlags := 2, nameIndex := 21, descriptorIndex := 22, attributes := #[] }, { accessFlags := 2, nameIndex := 25, descriptorIndex := 26, attributes := #[] }, { accessFlags := 26, nameIndex := 1116, descriptorIndex := 1117, attributes := #[] }, { accessFlags := 24, nameIndex := 40, descriptorIndex := 26, attributes := #[] }, { accessFlags := 26, nameIndex := 1101, descriptorIndex := 1102, attributes := #[] }, { accessFlags := 26, nameIndex := 1121, descriptorIndex := 1122, attributes := #[] }, { accessFlags := 25, nameIndex := 599, descriptorIndex := 600, attributes := #[] }, { accessFlags := 24, nameIndex := 1125, descriptorIndex := 18, attributes := #[] }, { accessFlags := 24, nameIndex := 1127, descriptorIndex := 18, attributes := #[] }])
  fields := #[{ name := "value", type := (.array .byte), accessFlags := 18, slot := 0, constantValue := 0 }, { name := "coder", type := .byte, accessFlags := 18, slot := 1, constantValue := 0 }, { name := "hash", type := .int, accessFlags := 2, slot := 2, constantValue := 0 }, { name := "hashIsZero", type := .boolean, accessFlags := 2, slot := 3, constantValue := 0 }, { name := "serialVersionUID", type := .long, accessFlags := 26, slot := 0, constantValue := 0 }, { name := "COMPACT_STRINGS", type := .boolean, accessFlags := 24, slot := 1, constantValue := 0 }, { name := "serialPersistentFields", type := (.array (.object "java/io/ObjectStreamField")), accessFlags := 26, slot := 2, constantValue := 0 }, { name := "REPL", type := .char, accessFlags := 26, slot := 3, constantValue := 0 }, { name := "CASE_INSENSITIVE_ORDER", type := (.object "java/util/Comparator"), accessFlags := 25, slot := 4, constantValue := 0 }, { name := "LATIN1", type := .byte, accessFlags := 24, slot := 5, constantValue := 0 }, { name := "UTF16", type := .byte, accessFlags := 24, slot := 6, constantValue := 0 }]
  methods := #[k10m0, k10m1, k10m2]
  instanceTypes := #[(.array .byte), .byte, .int, .boolean]
  staticTypes := #[.long, .boolean, (.array (.object "java/io/ObjectStreamField")), .char, (.object "java/util/Comparator"), .byte, .byte]
  resolved := Array.replicate 1451 none
  statics := some 0 }

def pool11 : Array CpInfo := pool [(6, .class_ 8), (1, u "java/lang/Object"), (0, u "<init>"), (0, u "()V"), (1, .class_ 14), (1, u "java/lang/StringUTF16"), (31, u "$assertionsDisabled"), (0, u "Z"), (13, u "HI_BYTE_SHIFT"), (0, u "I"), (2, u "LO_BYTE_SHIFT"), (49, .methodref 12 116), (0, .nameAndType 117 118), (0, u "compress"), (0, u "([CI[BII)I"), (3, u "([CII)[B"), (138, u "coderFromArrayLen"), (0, u "([BI)B"), (106, .class_ 371), (1, u "java/lang/StringUTF16$LinesSpliterator"), (58, u "MAX_LENGTH"), (196, .class_ 628), (0, u "java/lang/StringUTF16$CodePointsSpliterator"), (0, .class_ 630), (0, u "java/lang/StringUTF16$CharsSpliterator")] 4

def k11m0 : Method := { name := "<init>", desc := "()V", sig := { parameters := [], returnType := none }, accessFlags := 0, code := none }
def k11c1 : Code := { maxStack := 2, maxLocals := 2, code := jdk_52_method_15_code, exceptionTable := #[], attributes := #[] }
def k11m1 : Method := { name := "coderFromArrayLen", desc := "([BI)B", sig := { parameters := [(.array .byte), .int], returnType := some .byte }, accessFlags := 8, code := some k11c1 }
def k11c2 : Code := { maxStack := 5, maxLocals := 6, code := jdk_52_method_16_code, exceptionTable := #[], attributes := #[] }
def k11m2 : Method := { name := "compress", desc := "([CII)[B", sig := { parameters := [(.array .char), .int, .int], returnType := some (.array .byte) }, accessFlags := 9, code := some k11c2 }
def k11c3 : Code := { maxStack := 3, maxLocals := 7, code := jdk_52_method_21_code, exceptionTable := #[], attributes := #[] }
def k11m3 : Method := { name := "compress", desc := "([CI[BII)I", sig := { parameters := [(.array .char), .int, (.array .byte), .int, .int], returnType := some .int }, accessFlags := 9, code := some k11c3 }
/-- java/lang/StringUTF16 -/
def k11 : Class := { plain "java/lang/StringUTF16" (some 0) with
  accessFlags := 48
  interfaces := #[]
  cf := some (fileOf pool11 12 #[.nestMembers #[627, 629, 369]] #[{ accessFlags := 0, nameIndex := 9, descriptorIndex := 10, attributes := #[] }, { accessFlags := 8, nameIndex := 261, descriptorIndex := 262, attributes := #[] }, { accessFlags := 9, nameIndex := 117, descriptorIndex := 122, attributes := #[] }, { accessFlags := 9, nameIndex := 117, descriptorIndex := 118, attributes := #[] }] 48 6 #[] #[{ accessFlags := 26, nameIndex := 61, descriptorIndex := 62, attributes := #[] }, { accessFlags := 26, nameIndex := 65, descriptorIndex := 62, attributes := #[] }, { accessFlags := 24, nameIndex := 430, descriptorIndex := 62, attributes := #[] }, { accessFlags := 4120, nameIndex := 46, descriptorIndex := 47, attributes := #[] }])
  fields := #[{ name := "HI_BYTE_SHIFT", type := .int, accessFlags := 26, slot := 0, constantValue := 0 }, { name := "LO_BYTE_SHIFT", type := .int, accessFlags := 26, slot := 1, constantValue := 0 }, { name := "MAX_LENGTH", type := .int, accessFlags := 24, slot := 2, constantValue := 0 }, { name := "$assertionsDisabled", type := .boolean, accessFlags := 4120, slot := 3, constantValue := 0 }]
  methods := #[k11m0, k11m1, k11m2, k11m3]
  instanceTypes := #[]
  staticTypes := #[.int, .int, .int, .boolean]
  resolved := Array.replicate 635 none
  statics := none }

def pool12 : Array CpInfo := pool [(1, .methodref 2 3), (0, .class_ 4), (0, .nameAndType 5 6), (0, u "java/lang/Object"), (0, u "<init>"), (0, u "()V"), (1, .class_ 10), (1, u "java/lang/Number"), (2, .class_ 14), (0, u "java/io/Serializable"), (0, u "serialVersionUID"), (0, u "J")] 20

def k12c0 : Code := { maxStack := 1, maxLocals := 1, code := jdk_18_method_1_code, exceptionTable := #[], attributes := #[] }
def k12m0 : Method := { name := "<init>", desc := "()V", sig := { parameters := [], returnType := none }, accessFlags := 1, code := some k12c0 }
/-- java/lang/Number -/
def k12 : Class := { plain "java/lang/Number" (some 0) with
  accessFlags := 1057
  interfaces := #[5]
  cf := some (fileOf pool12 8 #[] #[{ accessFlags := 1, nameIndex := 5, descriptorIndex := 6, attributes := #[] }] 1057 2 #[13] #[{ accessFlags := 26, nameIndex := 15, descriptorIndex := 16, attributes := #[] }])
  fields := #[{ name := "serialVersionUID", type := .long, accessFlags := 26, slot := 0, constantValue := 0 }]
  methods := #[k12m0]
  instanceTypes := #[]
  staticTypes := #[.long]
  resolved := Array.replicate 37 none
  statics := none }

def pool13 : Array CpInfo := pool [(1, .class_ 2), (0, u "java/lang/Long"), (55, .nameAndType 59 60), (0, u "<init>"), (0, u "()V"), (24, u "valueOf"), (143, u "(J)Ljava/lang/Long;"), (0, .long 18446744073709551488), (1, .long 127), (1, .fieldref 235 236), (0, .class_ 237), (0, .nameAndType 238 239), (0, u "java/lang/Long$LongCache"), (0, u "cache"), (0, u "[Ljava/lang/Long;"), (0, .methodref 1 241), (0, .nameAndType 59 242), (0, u "(J)V"), (27, .methodref 271 58), (0, .class_ 272), (0, u "java/lang/Number"), (0, .fieldref 1 274), (0, .nameAndType 275 276), (0, u "value"), (0, u "J"), (84, u "TYPE"), (0, u "Ljava/lang/Class;"), (0, .class_ 364), (0, u "java/lang/Comparable"), (0, .class_ 366), (0, u "java/lang/constant/Constable"), (0, .class_ 368), (0, u "java/lang/constant/ConstantDesc"), (0, u "MIN_VALUE"), (1, u "MAX_VALUE"), (4, u "SIZE"), (0, u "I"), (1, u "BYTES"), (1, u "serialVersionUID")] 142

def k13c0 : Code := { maxStack := 4, maxLocals := 3, code := jdk_35_method_24_code, exceptionTable := #[], attributes := #[] }
def k13m0 : Method := { name := "valueOf", desc := "(J)Ljava/lang/Long;", sig := { parameters := [.long], returnType := some (.object "java/lang/Long") }, accessFlags := 9, code := some k13c0 }
def k13c1 : Code := { maxStack := 3, maxLocals := 3, code := jdk_35_method_26_code, exceptionTable := #[], attributes := #[] }
def k13m1 : Method := { name := "<init>", desc := "(J)V", sig := { parameters := [.long], returnType := none }, accessFlags := 1, code := some k13c1 }
/-- java/lang/Long -/
def k13 : Class := { plain "java/lang/Long" (some 12) with
  accessFlags := 49
  interfaces := #[6, 8, 9]
  cf := some (fileOf pool13 1 #[.nestMembers #[235]] #[{ accessFlags := 9, nameIndex := 85, descriptorIndex := 229, attributes := #[] }, { accessFlags := 1, nameIndex := 59, descriptorIndex := 242, attributes := #[] }] 49 271 #[363, 365, 367] #[{ accessFlags := 25, nameIndex := 369, descriptorIndex := 276, attributes := #[] }, { accessFlags := 25, nameIndex := 371, descriptorIndex := 276, attributes := #[] }, { accessFlags := 25, nameIndex := 361, descriptorIndex := 362, attributes := #[] }, { accessFlags := 18, nameIndex := 275, descriptorIndex := 276, attributes := #[] }, { accessFlags := 25, nameIndex := 376, descriptorIndex := 377, attributes := #[] }, { accessFlags := 25, nameIndex := 379, descriptorIndex := 377, attributes := #[] }, { accessFlags := 26, nameIndex := 381, descriptorIndex := 276, attributes := #[] }])
  fields := #[{ name := "MIN_VALUE", type := .long, accessFlags := 25, slot := 0, constantValue := 0 }, { name := "MAX_VALUE", type := .long, accessFlags := 25, slot := 1, constantValue := 0 }, { name := "TYPE", type := (.object "java/lang/Class"), accessFlags := 25, slot := 2, constantValue := 0 }, { name := "value", type := .long, accessFlags := 18, slot := 0, constantValue := 0 }, { name := "SIZE", type := .int, accessFlags := 25, slot := 3, constantValue := 0 }, { name := "BYTES", type := .int, accessFlags := 25, slot := 4, constantValue := 0 }, { name := "serialVersionUID", type := .long, accessFlags := 26, slot := 5, constantValue := 0 }]
  methods := #[k13m0, k13m1]
  instanceTypes := #[.long]
  staticTypes := #[.long, .long, (.object "java/lang/Class"), .int, .int, .long]
  resolved := Array.replicate 524 none
  statics := none }

def pool14 : Array CpInfo := pool [(1, .class_ 2), (0, u "java/lang/Integer"), (16, u "digits"), (0, u "[C"), (46, u "<init>"), (17, u "DigitOnes"), (0, u "[B"), (2, u "DigitTens"), (10, .nameAndType 67 101), (0, u "()V"), (85, u "valueOf"), (0, u "(I)Ljava/lang/Integer;"), (0, .class_ 190), (0, u "java/lang/Integer$IntegerCache"), (0, .fieldref 189 192), (0, .nameAndType 193 194), (0, u "high"), (0, u "I"), (0, .fieldref 189 196), (0, .nameAndType 197 198), (0, u "cache"), (0, u "[Ljava/lang/Integer;"), (0, .methodref 1 200), (0, .nameAndType 67 201), (0, u "(I)V"), (0, .methodref 203 100), (0, .class_ 204), (0, u "java/lang/Number"), (0, .fieldref 1 206), (0, .nameAndType 207 194), (0, u "value"), (94, u "TYPE"), (0, u "Ljava/lang/Class;"), (0, .class_ 305), (0, u "java/lang/Comparable"), (0, .class_ 307), (0, u "java/lang/constant/Constable"), (0, .class_ 309), (0, u "java/lang/constant/ConstantDesc"), (0, u "MIN_VALUE"), (1, u "MAX_VALUE"), (3, u "SIZE"), (1, u "BYTES"), (1, u "serialVersionUID"), (0, u "J")] 131

def k14c0 : Code := { maxStack := 3, maxLocals := 1, code := jdk_33_method_22_code, exceptionTable := #[], attributes := #[] }
def k14m0 : Method := { name := "valueOf", desc := "(I)Ljava/lang/Integer;", sig := { parameters := [.int], returnType := some (.object "java/lang/Integer") }, accessFlags := 9, code := some k14c0 }
def k14c1 : Code := { maxStack := 2, maxLocals := 2, code := jdk_33_method_23_code, exceptionTable := #[], attributes := #[] }
def k14m1 : Method := { name := "<init>", desc := "(I)V", sig := { parameters := [.int], returnType := none }, accessFlags := 1, code := some k14c1 }
/-- java/lang/Integer -/
def k14 : Class := { plain "java/lang/Integer" (some 12) with
  accessFlags := 49
  interfaces := #[6, 8, 9]
  cf := some (fileOf pool14 1 #[.nestMembers #[189]] #[{ accessFlags := 9, nameIndex := 187, descriptorIndex := 188, attributes := #[] }, { accessFlags := 1, nameIndex := 67, descriptorIndex := 201, attributes := #[] }] 49 203 #[304, 306, 308] #[{ accessFlags := 25, nameIndex := 310, descriptorIndex := 194, attributes := #[] }, { accessFlags := 25, nameIndex := 312, descriptorIndex := 194, attributes := #[] }, { accessFlags := 25, nameIndex := 302, descriptorIndex := 303, attributes := #[] }, { accessFlags := 24, nameIndex := 19, descriptorIndex := 20, attributes := #[] }, { accessFlags := 24, nameIndex := 89, descriptorIndex := 86, attributes := #[] }, { accessFlags := 24, nameIndex := 85, descriptorIndex := 86, attributes := #[] }, { accessFlags := 18, nameIndex := 207, descriptorIndex := 194, attributes := #[] }, { accessFlags := 25, nameIndex := 316, descriptorIndex := 194, attributes := #[] }, { accessFlags := 25, nameIndex := 318, descriptorIndex := 194, attributes := #[] }, { accessFlags := 26, nameIndex := 320, descriptorIndex := 321, attributes := #[] }])
  fields := #[{ name := "MIN_VALUE", type := .int, accessFlags := 25, slot := 0, constantValue := 0 }, { name := "MAX_VALUE", type := .int, accessFlags := 25, slot := 1, constantValue := 0 }, { name := "TYPE", type := (.object "java/lang/Class"), accessFlags := 25, slot := 2, constantValue := 0 }, { name := "digits", type := (.array .char), accessFlags := 24, slot := 3, constantValue := 0 }, { name := "DigitTens", type := (.array .byte), accessFlags := 24, slot := 4, constantValue := 0 }, { name := "DigitOnes", type := (.array .byte), accessFlags := 24, slot := 5, constantValue := 0 }, { name := "value", type := .int, accessFlags := 18, slot := 0, constantValue := 0 }, { name := "SIZE", type := .int, accessFlags := 25, slot := 6, constantValue := 0 }, { name := "BYTES", type := .int, accessFlags := 25, slot := 7, constantValue := 0 }, { name := "serialVersionUID", type := .long, accessFlags := 26, slot := 8, constantValue := 0 }]
  methods := #[k14m0, k14m1]
  instanceTypes := #[.int]
  staticTypes := #[.int, .int, (.object "java/lang/Class"), (.array .char), (.array .byte), (.array .byte), .int, .int, .long]
  resolved := Array.replicate 453 none
  statics := none }

def pool15 : Array CpInfo := pool [(2, .class_ 4), (1, u "java/lang/Object"), (0, u "<init>"), (0, u "()V"), (0, .class_ 8), (0, u "java/lang/Integer"), (7, .class_ 18), (1, u "java/lang/Integer$IntegerCache"), (0, u "$assertionsDisabled"), (0, u "Z"), (26, u "high"), (0, u "I"), (8, u "archivedCache"), (0, u "[Ljava/lang/Integer;"), (12, u "cache"), (0, u "low")] 27

def k15m0 : Method := { name := "<init>", desc := "()V", sig := { parameters := [], returnType := none }, accessFlags := 2, code := none }
/-- java/lang/Integer$IntegerCache -/
def k15 : Class := { plain "java/lang/Integer$IntegerCache" (some 0) with
  accessFlags := 48
  interfaces := #[]
  cf := some (fileOf pool15 16 #[.nestHost 7] #[{ accessFlags := 2, nameIndex := 5, descriptorIndex := 6, attributes := #[] }] 48 2 #[] #[{ accessFlags := 24, nameIndex := 72, descriptorIndex := 48, attributes := #[] }, { accessFlags := 24, nameIndex := 47, descriptorIndex := 48, attributes := #[] }, { accessFlags := 24, nameIndex := 71, descriptorIndex := 58, attributes := #[] }, { accessFlags := 8, nameIndex := 57, descriptorIndex := 58, attributes := #[] }, { accessFlags := 4120, nameIndex := 19, descriptorIndex := 20, attributes := #[] }])
  fields := #[{ name := "low", type := .int, accessFlags := 24, slot := 0, constantValue := 0 }, { name := "high", type := .int, accessFlags := 24, slot := 1, constantValue := 0 }, { name := "cache", type := (.array (.object "java/lang/Integer")), accessFlags := 24, slot := 2, constantValue := 0 }, { name := "archivedCache", type := (.array (.object "java/lang/Integer")), accessFlags := 8, slot := 3, constantValue := 0 }, { name := "$assertionsDisabled", type := .boolean, accessFlags := 4120, slot := 4, constantValue := 0 }]
  methods := #[k15m0]
  instanceTypes := #[]
  staticTypes := #[.int, .int, (.array (.object "java/lang/Integer")), (.array (.object "java/lang/Integer")), .boolean]
  resolved := Array.replicate 100 none
  statics := some 1 }

def pool16 : Array CpInfo := pool [(2, .class_ 4), (1, u "java/lang/Object"), (0, u "<init>"), (0, u "()V"), (0, .class_ 8), (0, u "java/lang/Long"), (7, .class_ 18), (1, u "java/lang/Long$LongCache"), (0, u "$assertionsDisabled"), (0, u "Z"), (8, u "archivedCache"), (0, u "[Ljava/lang/Long;"), (7, u "cache")] 24

def k16m0 : Method := { name := "<init>", desc := "()V", sig := { parameters := [], returnType := none }, accessFlags := 2, code := none }
/-- java/lang/Long$LongCache -/
def k16 : Class := { plain "java/lang/Long$LongCache" (some 0) with
  accessFlags := 48
  interfaces := #[]
  cf := some (fileOf pool16 16 #[.nestHost 7] #[{ accessFlags := 2, nameIndex := 5, descriptorIndex := 6, attributes := #[] }] 48 2 #[] #[{ accessFlags := 24, nameIndex := 38, descriptorIndex := 30, attributes := #[] }, { accessFlags := 8, nameIndex := 29, descriptorIndex := 30, attributes := #[] }, { accessFlags := 4120, nameIndex := 19, descriptorIndex := 20, attributes := #[] }])
  fields := #[{ name := "cache", type := (.array (.object "java/lang/Long")), accessFlags := 24, slot := 0, constantValue := 0 }, { name := "archivedCache", type := (.array (.object "java/lang/Long")), accessFlags := 8, slot := 1, constantValue := 0 }, { name := "$assertionsDisabled", type := .boolean, accessFlags := 4120, slot := 2, constantValue := 0 }]
  methods := #[k16m0]
  instanceTypes := #[]
  staticTypes := #[(.array (.object "java/lang/Long")), (.array (.object "java/lang/Long")), .boolean]
  resolved := Array.replicate 63 none
  statics := some 2 }

def pool17 : Array CpInfo := pool [(4, .class_ 6), (1, u "java/lang/Object"), (0, u "<init>"), (0, u "()V"), (5, .class_ 16), (1, u "java/lang/StringLatin1"), (104, u "$assertionsDisabled"), (0, u "Z"), (98, .class_ 223), (1, u "java/lang/StringLatin1$LinesSpliterator"), (166, .class_ 391), (0, u "java/lang/StringLatin1$CharsSpliterator")] 3

def k17m0 : Method := { name := "<init>", desc := "()V", sig := { parameters := [], returnType := none }, accessFlags := 0, code := none }
/-- java/lang/StringLatin1 -/
def k17 : Class := { plain "java/lang/StringLatin1" (some 0) with
  accessFlags := 48
  interfaces := #[]
  cf := some (fileOf pool17 14 #[.nestMembers #[390, 221]] #[{ accessFlags := 0, nameIndex := 7, descriptorIndex := 8, attributes := #[] }] 48 4 #[] #[{ accessFlags := 4120, nameIndex := 121, descriptorIndex := 122, attributes := #[] }])
  fields := #[{ name := "$assertionsDisabled", type := .boolean, accessFlags := 4120, slot := 0, constantValue := 0 }]
  methods := #[k17m0]
  instanceTypes := #[]
  staticTypes := #[.boolean]
  resolved := Array.replicate 395 none
  statics := none }

def pool18 : Array CpInfo := pool [(2, .class_ 4), (1, u "java/lang/Object"), (0, u "<init>"), (0, u "()V"), (17, .class_ 26), (1, u "jdk/internal/util/Preconditions"), (28, .class_ 56), (0, u "jdk/internal/util/Preconditions$4"), (57, .class_ 115), (0, u "jdk/internal/util/Preconditions$1"), (7, u "SIOOBE_FORMATTER"), (0, u "Ljava/util/function/BiFunction;"), (0, .class_ 126), (0, u "jdk/internal/util/Preconditions$2"), (3, u "AIOOBE_FORMATTER"), (0, .class_ 132), (0, u "jdk/internal/util/Preconditions$3"), (3, u "IOOBE_FORMATTER")] 57

def k18m0 : Method := { name := "<init>", desc := "()V", sig := { parameters := [], returnType := none }, accessFlags := 1, code := none }
/-- jdk/internal/util/Preconditions -/
def k18 : Class := { plain "jdk/internal/util/Preconditions" (some 0) with
  accessFlags := 33
  interfaces := #[]
  cf := some (fileOf pool18 24 #[.nestMembers #[55, 131, 125, 114]] #[{ accessFlags := 1, nameIndex := 5, descriptorIndex := 6, attributes := #[] }] 33 2 #[] #[{ accessFlags := 25, nameIndex := 123, descriptorIndex := 124, attributes := #[] }, { accessFlags := 25, nameIndex := 130, descriptorIndex := 124, attributes := #[] }, { accessFlags := 25, nameIndex := 136, descriptorIndex := 124, attributes := #[] }])
  fields := #[{ name := "SIOOBE_FORMATTER", type := (.object "java/util/function/BiFunction"), accessFlags := 25, slot := 0, constantValue := 0 }, { name := "AIOOBE_FORMATTER", type := (.object "java/util/function/BiFunction"), accessFlags := 25, slot := 1, constantValue := 0 }, { name := "IOOBE_FORMATTER", type := (.object "java/util/function/BiFunction"), accessFlags := 25, slot := 2, constantValue := 0 }]
  methods := #[k18m0]
  instanceTypes := #[]
  staticTypes := #[(.object "java/util/function/BiFunction"), (.object "java/util/function/BiFunction"), (.object "java/util/function/BiFunction")]
  resolved := Array.replicate 194 none
  statics := some 3 }

def pool19 : Array CpInfo := pool [(9, u "<init>"), (6, .class_ 18), (1, u "java/lang/Object"), (0, u "()V"), (1, .class_ 23), (1, u "jdk/internal/util/ArraysSupport"), (0, u "LOG2_ARRAY_LONG_INDEX_SCALE"), (0, u "I"), (2, u "U"), (0, u "Ljdk/internal/misc/Unsafe;"), (8, u "BIG_ENDIAN"), (0, u "Z"), (8, u "LOG2_BYTE_BIT_SIZE"), (4, u "LOG2_ARRAY_INT_INDEX_SCALE"), (54, u "JLA"), (0, u "Ljdk/internal/access/JavaLangAccess;"), (11, u "LOG2_ARRAY_BOOLEAN_INDEX_SCALE"), (9, u "LOG2_ARRAY_BYTE_INDEX_SCALE"), (5, u "LOG2_ARRAY_CHAR_INDEX_SCALE"), (5, u "LOG2_ARRAY_SHORT_INDEX_SCALE"), (18, u "LOG2_ARRAY_FLOAT_INDEX_SCALE"), (24, u "LOG2_ARRAY_DOUBLE_INDEX_SCALE"), (89, u "T_BOOLEAN"), (2, u "T_CHAR"), (1, u "T_FLOAT"), (1, u "T_DOUBLE"), (1, u "T_BYTE"), (1, u "T_SHORT"), (1, u "T_INT"), (1, u "T_LONG"), (1, u "SOFT_MAX_ARRAY_LENGTH")] 83

def k19m0 : Method := { name := "<init>", desc := "()V", sig := { parameters := [], returnType := none }, accessFlags := 2, code := none }
/-- jdk/internal/util/ArraysSupport -/
def k19 : Class := { plain "jdk/internal/util/ArraysSupport" (some 0) with
  accessFlags := 33
  interfaces := #[]
  cf := some (fileOf pool19 21 #[] #[{ accessFlags := 2, nameIndex := 9, descriptorIndex := 19, attributes := #[] }] 33 16 #[] #[{ accessFlags := 24, nameIndex := 28, descriptorIndex := 29, attributes := #[] }, { accessFlags := 26, nameIndex := 38, descriptorIndex := 39, attributes := #[] }, { accessFlags := 25, nameIndex := 121, descriptorIndex := 25, attributes := #[] }, { accessFlags := 25, nameIndex := 131, descriptorIndex := 25, attributes := #[] }, { accessFlags := 25, nameIndex := 137, descriptorIndex := 25, attributes := #[] }, { accessFlags := 25, nameIndex := 143, descriptorIndex := 25, attributes := #[] }, { accessFlags := 25, nameIndex := 53, descriptorIndex := 25, attributes := #[] }, { accessFlags := 25, nameIndex := 24, descriptorIndex := 25, attributes := #[] }, { accessFlags := 25, nameIndex := 162, descriptorIndex := 25, attributes := #[] }, { accessFlags := 25, nameIndex := 187, descriptorIndex := 25, attributes := #[] }, { accessFlags := 26, nameIndex := 48, descriptorIndex := 25, attributes := #[] }, { accessFlags := 25, nameIndex := 277, descriptorIndex := 25, attributes := #[] }, { accessFlags := 25, nameIndex := 280, descriptorIndex := 25, attributes := #[] }, { accessFlags := 25, nameIndex := 282, descriptorIndex := 25, attributes := #[] }, { accessFlags := 25, nameIndex := 284, descriptorIndex := 25, attributes := #[] }, { accessFlags := 25, nameIndex := 286, descriptorIndex := 25, attributes := #[] }, { accessFlags := 25, nameIndex := 288, descriptorIndex := 25, attributes := #[] }, { accessFlags := 25, nameIndex := 290, descriptorIndex := 25, attributes := #[] }, { accessFlags := 25, nameIndex := 292, descriptorIndex := 25, attributes := #[] }, { accessFlags := 26, nameIndex := 108, descriptorIndex := 109, attributes := #[] }, { accessFlags := 25, nameIndex := 294, descriptorIndex := 25, attributes := #[] }])
  fields := #[{ name := "U", type := (.object "jdk/internal/misc/Unsafe"), accessFlags := 24, slot := 0, constantValue := 0 }, { name := "BIG_ENDIAN", type := .boolean, accessFlags := 26, slot := 1, constantValue := 0 }, { name := "LOG2_ARRAY_BOOLEAN_INDEX_SCALE", type := .int, accessFlags := 25, slot := 2, constantValue := 0 }, { name := "LOG2_ARRAY_BYTE_INDEX_SCALE", type := .int, accessFlags := 25, slot := 3, constantValue := 0 }, { name := "LOG2_ARRAY_CHAR_INDEX_SCALE", type := .int, accessFlags := 25, slot := 4, constantValue := 0 }, { name := "LOG2_ARRAY_SHORT_INDEX_SCALE", type := .int, accessFlags := 25, slot := 5, constantValue := 0 }, { name := "LOG2_ARRAY_INT_INDEX_SCALE", type := .int, accessFlags := 25, slot := 6, constantValue := 0 }, { name := "LOG2_ARRAY_LONG_INDEX_SCALE", type := .int, accessFlags := 25, slot := 7, constantValue := 0 }, { name := "LOG2_ARRAY_FLOAT_INDEX_SCALE", type := .int, accessFlags := 25, slot := 8, constantValue := 0 }, { name := "LOG2_ARRAY_DOUBLE_INDEX_SCALE", type := .int, accessFlags := 25, slot := 9, constantValue := 0 }, { name := "LOG2_BYTE_BIT_SIZE", type := .int, accessFlags := 26, slot := 10, constantValue := 0 }, { name := "T_BOOLEAN", type := .int, accessFlags := 25, slot := 11, constantValue := 0 }, { name := "T_CHAR", type := .int, accessFlags := 25, slot := 12, constantValue := 0 }, { name := "T_FLOAT", type := .int, accessFlags := 25, slot := 13, constantValue := 0 }, { name := "T_DOUBLE", type := .int, accessFlags := 25, slot := 14, constantValue := 0 }, { name := "T_BYTE", type := .int, accessFlags := 25, slot := 15, constantValue := 0 }, { name := "T_SHORT", type := .int, accessFlags := 25, slot := 16, constantValue := 0 }, { name := "T_INT", type := .int, accessFlags := 25, slot := 17, constantValue := 0 }, { name := "T_LONG", type := .int, accessFlags := 25, slot := 18, constantValue := 0 }, { name := "JLA", type := (.object "jdk/internal/access/JavaLangAccess"), accessFlags := 26, slot := 19, constantValue := 0 }, { name := "SOFT_MAX_ARRAY_LENGTH", type := .int, accessFlags := 25, slot := 20, constantValue := 0 }]
  methods := #[k19m0]
  instanceTypes := #[]
  staticTypes := #[(.object "jdk/internal/misc/Unsafe"), .boolean, .int, .int, .int, .int, .int, .int, .int, .int, .int, .int, .int, .int, .int, .int, .int, .int, .int, (.object "jdk/internal/access/JavaLangAccess"), .int]
  resolved := Array.replicate 378 none
  statics := none }

def pool20 : Array CpInfo := pool [(1, u "java/lang/Cloneable"), (0, .class_ 1), (0, u "java/lang/Object"), (0, .class_ 3)] 3

/-- java/lang/Cloneable -/
def k20 : Class := { plain "java/lang/Cloneable" (some 0) with
  accessFlags := 1537
  interfaces := #[]
  cf := some (fileOf pool20 2 #[] #[] 1537 4 #[] #[])
  fields := #[]
  methods := #[]
  instanceTypes := #[]
  staticTypes := #[]
  resolved := Array.replicate 8 none
  statics := none }

/-- the primitive byte -/
def k21 : Class := { plain "byte" none with kind := .primitive 'B', accessFlags := 0x411 }
/-- [B -/
def k22 : Class := { plain "[B" (some 0) with kind := .array 21 .byte, interfaces := #[20, 5], accessFlags := 1041 }

/-- the primitive char -/
def k23 : Class := { plain "char" none with kind := .primitive 'C', accessFlags := 0x411 }
/-- [C -/
def k24 : Class := { plain "[C" (some 0) with kind := .array 23 .char, interfaces := #[20, 5], accessFlags := 1041 }

/-- the primitive int -/
def k25 : Class := { plain "int" none with kind := .primitive 'I', accessFlags := 0x411 }
/-- [I -/
def k26 : Class := { plain "[I" (some 0) with kind := .array 25 .int, interfaces := #[20, 5], accessFlags := 1041 }

/-- [Ljava/lang/Integer; -/
def k27 : Class := { plain "[Ljava/lang/Integer;" (some 0) with kind := .array 14 (.object "java/lang/Integer"), interfaces := #[20, 5], accessFlags := 1041 }

/-- [Ljava/lang/Long; -/
def k28 : Class := { plain "[Ljava/lang/Long;" (some 0) with kind := .array 13 (.object "java/lang/Long"), interfaces := #[20, 5], accessFlags := 1041 }

def heap : Heap := #[{ cls := 10, slots := #[.long 0, .int 1, .null, .int 0, .null, .int 0, .int 0], vm := .statics 10 },
  { cls := 15, slots := #[.int 0, .int 127, .ref 4, .null, .int 0], vm := .statics 15 },
  { cls := 16, slots := #[.ref 5, .null, .int 0], vm := .statics 16 },
  { cls := 18, slots := #[.null, .null, .null], vm := .statics 18 },
  { cls := 27, slots := #[.ref 6, .ref 7, .ref 8, .ref 9, .ref 10, .ref 11, .ref 12, .ref 13, .ref 14, .ref 15, .ref 16, .ref 17, .ref 18, .ref 19, .ref 20, .ref 21, .ref 22, .ref 23, .ref 24, .ref 25, .ref 26, .ref 27, .ref 28, .ref 29, .ref 30, .ref 31, .ref 32, .ref 33, .ref 34, .ref 35, .ref 36, .ref 37, .ref 38, .ref 39, .ref 40, .ref 41, .ref 42, .ref 43, .ref 44, .ref 45, .ref 46, .ref 47, .ref 48, .ref 49, .ref 50, .ref 51, .ref 52, .ref 53, .ref 54, .ref 55, .ref 56, .ref 57, .ref 58, .ref 59, .ref 60, .ref 61, .ref 62, .ref 63, .ref 64, .ref 65, .ref 66, .ref 67, .ref 68, .ref 69, .ref 70, .ref 71, .ref 72, .ref 73, .ref 74, .ref 75, .ref 76, .ref 77, .ref 78, .ref 79, .ref 80, .ref 81, .ref 82, .ref 83, .ref 84, .ref 85, .ref 86, .ref 87, .ref 88, .ref 89, .ref 90, .ref 91, .ref 92, .ref 93, .ref 94, .ref 95, .ref 96, .ref 97, .ref 98, .ref 99, .ref 100, .ref 101, .ref 102, .ref 103, .ref 104, .ref 105, .ref 106, .ref 107, .ref 108, .ref 109, .ref 110, .ref 111, .ref 112, .ref 113, .ref 114, .ref 115, .ref 116, .ref 117, .ref 118, .ref 119, .ref 120, .ref 121, .ref 122, .ref 123, .ref 124, .ref 125, .ref 126, .ref 127, .ref 128, .ref 129, .ref 130, .ref 131, .ref 132, .ref 133, .ref 134, .ref 135, .ref 136, .ref 137, .ref 138, .ref 139, .ref 140, .ref 141, .ref 142, .ref 143, .ref 144, .ref 145, .ref 146, .ref 147, .ref 148, .ref 149, .ref 150, .ref 151, .ref 152, .ref 153, .ref 154, .ref 155, .ref 156, .ref 157, .ref 158, .ref 159, .ref 160, .ref 161, .ref 162, .ref 163, .ref 164, .ref 165, .ref 166, .ref 167, .ref 168, .ref 169, .ref 170, .ref 171, .ref 172, .ref 173, .ref 174, .ref 175, .ref 176, .ref 177, .ref 178, .ref 179, .ref 180, .ref 181, .ref 182, .ref 183, .ref 184, .ref 185, .ref 186, .ref 187, .ref 188, .ref 189, .ref 190, .ref 191, .ref 192, .ref 193, .ref 194, .ref 195, .ref 196, .ref 197, .ref 198, .ref 199, .ref 200, .ref 201, .ref 202, .ref 203, .ref 204, .ref 205, .ref 206, .ref 207, .ref 208, .ref 209, .ref 210, .ref 211, .ref 212, .ref 213, .ref 214, .ref 215, .ref 216, .ref 217, .ref 218, .ref 219, .ref 220, .ref 221, .ref 222, .ref 223, .ref 224, .ref 225, .ref 226, .ref 227, .ref 228, .ref 229, .ref 230, .ref 231, .ref 232, .ref 233, .ref 234, .ref 235, .ref 236, .ref 237, .ref 238, .ref 239, .ref 240, .ref 241, .ref 242, .ref 243, .ref 244, .ref 245, .ref 246, .ref 247, .ref 248, .ref 249, .ref 250, .ref 251, .ref 252, .ref 253, .ref 254, .ref 255, .ref 256, .ref 257, .ref 258, .ref 259, .ref 260, .ref 261], vm := .none },
  { cls := 28, slots := #[.ref 262, .ref 263, .ref 264, .ref 265, .ref 266, .ref 267, .ref 268, .ref 269, .ref 270, .ref 271, .ref 272, .ref 273, .ref 274, .ref 275, .ref 276, .ref 277, .ref 278, .ref 279, .ref 280, .ref 281, .ref 282, .ref 283, .ref 284, .ref 285, .ref 286, .ref 287, .ref 288, .ref 289, .ref 290, .ref 291, .ref 292, .ref 293, .ref 294, .ref 295, .ref 296, .ref 297, .ref 298, .ref 299, .ref 300, .ref 301, .ref 302, .ref 303, .ref 304, .ref 305, .ref 306, .ref 307, .ref 308, .ref 309, .ref 310, .ref 311, .ref 312, .ref 313, .ref 314, .ref 315, .ref 316, .ref 317, .ref 318, .ref 319, .ref 320, .ref 321, .ref 322, .ref 323, .ref 324, .ref 325, .ref 326, .ref 327, .ref 328, .ref 329, .ref 330, .ref 331, .ref 332, .ref 333, .ref 334, .ref 335, .ref 336, .ref 337, .ref 338, .ref 339, .ref 340, .ref 341, .ref 342, .ref 343, .ref 344, .ref 345, .ref 346, .ref 347, .ref 348, .ref 349, .ref 350, .ref 351, .ref 352, .ref 353, .ref 354, .ref 355, .ref 356, .ref 357, .ref 358, .ref 359, .ref 360, .ref 361, .ref 362, .ref 363, .ref 364, .ref 365, .ref 366, .ref 367, .ref 368, .ref 369, .ref 370, .ref 371, .ref 372, .ref 373, .ref 374, .ref 375, .ref 376, .ref 377, .ref 378, .ref 379, .ref 380, .ref 381, .ref 382, .ref 383, .ref 384, .ref 385, .ref 386, .ref 387, .ref 388, .ref 389, .ref 390, .ref 391, .ref 392, .ref 393, .ref 394, .ref 395, .ref 396, .ref 397, .ref 398, .ref 399, .ref 400, .ref 401, .ref 402, .ref 403, .ref 404, .ref 405, .ref 406, .ref 407, .ref 408, .ref 409, .ref 410, .ref 411, .ref 412, .ref 413, .ref 414, .ref 415, .ref 416, .ref 417, .ref 418, .ref 419, .ref 420, .ref 421, .ref 422, .ref 423, .ref 424, .ref 425, .ref 426, .ref 427, .ref 428, .ref 429, .ref 430, .ref 431, .ref 432, .ref 433, .ref 434, .ref 435, .ref 436, .ref 437, .ref 438, .ref 439, .ref 440, .ref 441, .ref 442, .ref 443, .ref 444, .ref 445, .ref 446, .ref 447, .ref 448, .ref 449, .ref 450, .ref 451, .ref 452, .ref 453, .ref 454, .ref 455, .ref 456, .ref 457, .ref 458, .ref 459, .ref 460, .ref 461, .ref 462, .ref 463, .ref 464, .ref 465, .ref 466, .ref 467, .ref 468, .ref 469, .ref 470, .ref 471, .ref 472, .ref 473, .ref 474, .ref 475, .ref 476, .ref 477, .ref 478, .ref 479, .ref 480, .ref 481, .ref 482, .ref 483, .ref 484, .ref 485, .ref 486, .ref 487, .ref 488, .ref 489, .ref 490, .ref 491, .ref 492, .ref 493, .ref 494, .ref 495, .ref 496, .ref 497, .ref 498, .ref 499, .ref 500, .ref 501, .ref 502, .ref 503, .ref 504, .ref 505, .ref 506, .ref 507, .ref 508, .ref 509, .ref 510, .ref 511, .ref 512, .ref 513, .ref 514, .ref 515, .ref 516, .ref 517], vm := .none },
  { cls := 14, slots := #[.int (-128)], vm := .none },
  { cls := 14, slots := #[.int (-127)], vm := .none },
  { cls := 14, slots := #[.int (-126)], vm := .none },
  { cls := 14, slots := #[.int (-125)], vm := .none },
  { cls := 14, slots := #[.int (-124)], vm := .none },
  { cls := 14, slots := #[.int (-123)], vm := .none },
  { cls := 14, slots := #[.int (-122)], vm := .none },
  { cls := 14, slots := #[.int (-121)], vm := .none },
  { cls := 14, slots := #[.int (-120)], vm := .none },
  { cls := 14, slots := #[.int (-119)], vm := .none },
  { cls := 14, slots := #[.int (-118)], vm := .none },
  { cls := 14, slots := #[.int (-117)], vm := .none },
  { cls := 14, slots := #[.int (-116)], vm := .none },
  { cls := 14, slots := #[.int (-115)], vm := .none },
  { cls := 14, slots := #[.int (-114)], vm := .none },
  { cls := 14, slots := #[.int (-113)], vm := .none },
  { cls := 14, slots := #[.int (-112)], vm := .none },
  { cls := 14, slots := #[.int (-111)], vm := .none },
  { cls := 14, slots := #[.int (-110)], vm := .none },
  { cls := 14, slots := #[.int (-109)], vm := .none },
  { cls := 14, slots := #[.int (-108)], vm := .none },
  { cls := 14, slots := #[.int (-107)], vm := .none },
  { cls := 14, slots := #[.int (-106)], vm := .none },
  { cls := 14, slots := #[.int (-105)], vm := .none },
  { cls := 14, slots := #[.int (-104)], vm := .none },
  { cls := 14, slots := #[.int (-103)], vm := .none },
  { cls := 14, slots := #[.int (-102)], vm := .none },
  { cls := 14, slots := #[.int (-101)], vm := .none },
  { cls := 14, slots := #[.int (-100)], vm := .none },
  { cls := 14, slots := #[.int (-99)], vm := .none },
  { cls := 14, slots := #[.int (-98)], vm := .none },
  { cls := 14, slots := #[.int (-97)], vm := .none },
  { cls := 14, slots := #[.int (-96)], vm := .none },
  { cls := 14, slots := #[.int (-95)], vm := .none },
  { cls := 14, slots := #[.int (-94)], vm := .none },
  { cls := 14, slots := #[.int (-93)], vm := .none },
  { cls := 14, slots := #[.int (-92)], vm := .none },
  { cls := 14, slots := #[.int (-91)], vm := .none },
  { cls := 14, slots := #[.int (-90)], vm := .none },
  { cls := 14, slots := #[.int (-89)], vm := .none },
  { cls := 14, slots := #[.int (-88)], vm := .none },
  { cls := 14, slots := #[.int (-87)], vm := .none },
  { cls := 14, slots := #[.int (-86)], vm := .none },
  { cls := 14, slots := #[.int (-85)], vm := .none },
  { cls := 14, slots := #[.int (-84)], vm := .none },
  { cls := 14, slots := #[.int (-83)], vm := .none },
  { cls := 14, slots := #[.int (-82)], vm := .none },
  { cls := 14, slots := #[.int (-81)], vm := .none },
  { cls := 14, slots := #[.int (-80)], vm := .none },
  { cls := 14, slots := #[.int (-79)], vm := .none },
  { cls := 14, slots := #[.int (-78)], vm := .none },
  { cls := 14, slots := #[.int (-77)], vm := .none },
  { cls := 14, slots := #[.int (-76)], vm := .none },
  { cls := 14, slots := #[.int (-75)], vm := .none },
  { cls := 14, slots := #[.int (-74)], vm := .none },
  { cls := 14, slots := #[.int (-73)], vm := .none },
  { cls := 14, slots := #[.int (-72)], vm := .none },
  { cls := 14, slots := #[.int (-71)], vm := .none },
  { cls := 14, slots := #[.int (-70)], vm := .none },
  { cls := 14, slots := #[.int (-69)], vm := .none },
  { cls := 14, slots := #[.int (-68)], vm := .none },
  { cls := 14, slots := #[.int (-67)], vm := .none },
  { cls := 14, slots := #[.int (-66)], vm := .none },
  { cls := 14, slots := #[.int (-65)], vm := .none },
  { cls := 14, slots := #[.int (-64)], vm := .none },
  { cls := 14, slots := #[.int (-63)], vm := .none },
  { cls := 14, slots := #[.int (-62)], vm := .none },
  { cls := 14, slots := #[.int (-61)], vm := .none },
  { cls := 14, slots := #[.int (-60)], vm := .none },
  { cls := 14, slots := #[.int (-59)], vm := .none },
  { cls := 14, slots := #[.int (-58)], vm := .none },
  { cls := 14, slots := #[.int (-57)], vm := .none },
  { cls := 14, slots := #[.int (-56)], vm := .none },
  { cls := 14, slots := #[.int (-55)], vm := .none },
  { cls := 14, slots := #[.int (-54)], vm := .none },
  { cls := 14, slots := #[.int (-53)], vm := .none },
  { cls := 14, slots := #[.int (-52)], vm := .none },
  { cls := 14, slots := #[.int (-51)], vm := .none },
  { cls := 14, slots := #[.int (-50)], vm := .none },
  { cls := 14, slots := #[.int (-49)], vm := .none },
  { cls := 14, slots := #[.int (-48)], vm := .none },
  { cls := 14, slots := #[.int (-47)], vm := .none },
  { cls := 14, slots := #[.int (-46)], vm := .none },
  { cls := 14, slots := #[.int (-45)], vm := .none },
  { cls := 14, slots := #[.int (-44)], vm := .none },
  { cls := 14, slots := #[.int (-43)], vm := .none },
  { cls := 14, slots := #[.int (-42)], vm := .none },
  { cls := 14, slots := #[.int (-41)], vm := .none },
  { cls := 14, slots := #[.int (-40)], vm := .none },
  { cls := 14, slots := #[.int (-39)], vm := .none },
  { cls := 14, slots := #[.int (-38)], vm := .none },
  { cls := 14, slots := #[.int (-37)], vm := .none },
  { cls := 14, slots := #[.int (-36)], vm := .none },
  { cls := 14, slots := #[.int (-35)], vm := .none },
  { cls := 14, slots := #[.int (-34)], vm := .none },
  { cls := 14, slots := #[.int (-33)], vm := .none },
  { cls := 14, slots := #[.int (-32)], vm := .none },
  { cls := 14, slots := #[.int (-31)], vm := .none },
  { cls := 14, slots := #[.int (-30)], vm := .none },
  { cls := 14, slots := #[.int (-29)], vm := .none },
  { cls := 14, slots := #[.int (-28)], vm := .none },
  { cls := 14, slots := #[.int (-27)], vm := .none },
  { cls := 14, slots := #[.int (-26)], vm := .none },
  { cls := 14, slots := #[.int (-25)], vm := .none },
  { cls := 14, slots := #[.int (-24)], vm := .none },
  { cls := 14, slots := #[.int (-23)], vm := .none },
  { cls := 14, slots := #[.int (-22)], vm := .none },
  { cls := 14, slots := #[.int (-21)], vm := .none },
  { cls := 14, slots := #[.int (-20)], vm := .none },
  { cls := 14, slots := #[.int (-19)], vm := .none },
  { cls := 14, slots := #[.int (-18)], vm := .none },
  { cls := 14, slots := #[.int (-17)], vm := .none },
  { cls := 14, slots := #[.int (-16)], vm := .none },
  { cls := 14, slots := #[.int (-15)], vm := .none },
  { cls := 14, slots := #[.int (-14)], vm := .none },
  { cls := 14, slots := #[.int (-13)], vm := .none },
  { cls := 14, slots := #[.int (-12)], vm := .none },
  { cls := 14, slots := #[.int (-11)], vm := .none },
  { cls := 14, slots := #[.int (-10)], vm := .none },
  { cls := 14, slots := #[.int (-9)], vm := .none },
  { cls := 14, slots := #[.int (-8)], vm := .none },
  { cls := 14, slots := #[.int (-7)], vm := .none },
  { cls := 14, slots := #[.int (-6)], vm := .none },
  { cls := 14, slots := #[.int (-5)], vm := .none },
  { cls := 14, slots := #[.int (-4)], vm := .none },
  { cls := 14, slots := #[.int (-3)], vm := .none },
  { cls := 14, slots := #[.int (-2)], vm := .none },
  { cls := 14, slots := #[.int (-1)], vm := .none },
  { cls := 14, slots := #[.int (0)], vm := .none },
  { cls := 14, slots := #[.int (1)], vm := .none },
  { cls := 14, slots := #[.int (2)], vm := .none },
  { cls := 14, slots := #[.int (3)], vm := .none },
  { cls := 14, slots := #[.int (4)], vm := .none },
  { cls := 14, slots := #[.int (5)], vm := .none },
  { cls := 14, slots := #[.int (6)], vm := .none },
  { cls := 14, slots := #[.int (7)], vm := .none },
  { cls := 14, slots := #[.int (8)], vm := .none },
  { cls := 14, slots := #[.int (9)], vm := .none },
  { cls := 14, slots := #[.int (10)], vm := .none },
  { cls := 14, slots := #[.int (11)], vm := .none },
  { cls := 14, slots := #[.int (12)], vm := .none },
  { cls := 14, slots := #[.int (13)], vm := .none },
  { cls := 14, slots := #[.int (14)], vm := .none },
  { cls := 14, slots := #[.int (15)], vm := .none },
  { cls := 14, slots := #[.int (16)], vm := .none },
  { cls := 14, slots := #[.int (17)], vm := .none },
  { cls := 14, slots := #[.int (18)], vm := .none },
  { cls := 14, slots := #[.int (19)], vm := .none },
  { cls := 14, slots := #[.int (20)], vm := .none },
  { cls := 14, slots := #[.int (21)], vm := .none },
  { cls := 14, slots := #[.int (22)], vm := .none },
  { cls := 14, slots := #[.int (23)], vm := .none },
  { cls := 14, slots := #[.int (24)], vm := .none },
  { cls := 14, slots := #[.int (25)], vm := .none },
  { cls := 14, slots := #[.int (26)], vm := .none },
  { cls := 14, slots := #[.int (27)], vm := .none },
  { cls := 14, slots := #[.int (28)], vm := .none },
  { cls := 14, slots := #[.int (29)], vm := .none },
  { cls := 14, slots := #[.int (30)], vm := .none },
  { cls := 14, slots := #[.int (31)], vm := .none },
  { cls := 14, slots := #[.int (32)], vm := .none },
  { cls := 14, slots := #[.int (33)], vm := .none },
  { cls := 14, slots := #[.int (34)], vm := .none },
  { cls := 14, slots := #[.int (35)], vm := .none },
  { cls := 14, slots := #[.int (36)], vm := .none },
  { cls := 14, slots := #[.int (37)], vm := .none },
  { cls := 14, slots := #[.int (38)], vm := .none },
  { cls := 14, slots := #[.int (39)], vm := .none },
  { cls := 14, slots := #[.int (40)], vm := .none },
  { cls := 14, slots := #[.int (41)], vm := .none },
  { cls := 14, slots := #[.int (42)], vm := .none },
  { cls := 14, slots := #[.int (43)], vm := .none },
  { cls := 14, slots := #[.int (44)], vm := .none },
  { cls := 14, slots := #[.int (45)], vm := .none },
  { cls := 14, slots := #[.int (46)], vm := .none },
  { cls := 14, slots := #[.int (47)], vm := .none },
  { cls := 14, slots := #[.int (48)], vm := .none },
  { cls := 14, slots := #[.int (49)], vm := .none },
  { cls := 14, slots := #[.int (50)], vm := .none },
  { cls := 14, slots := #[.int (51)], vm := .none },
  { cls := 14, slots := #[.int (52)], vm := .none },
  { cls := 14, slots := #[.int (53)], vm := .none },
  { cls := 14, slots := #[.int (54)], vm := .none },
  { cls := 14, slots := #[.int (55)], vm := .none },
  { cls := 14, slots := #[.int (56)], vm := .none },
  { cls := 14, slots := #[.int (57)], vm := .none },
  { cls := 14, slots := #[.int (58)], vm := .none },
  { cls := 14, slots := #[.int (59)], vm := .none },
  { cls := 14, slots := #[.int (60)], vm := .none },
  { cls := 14, slots := #[.int (61)], vm := .none },
  { cls := 14, slots := #[.int (62)], vm := .none },
  { cls := 14, slots := #[.int (63)], vm := .none },
  { cls := 14, slots := #[.int (64)], vm := .none },
  { cls := 14, slots := #[.int (65)], vm := .none },
  { cls := 14, slots := #[.int (66)], vm := .none },
  { cls := 14, slots := #[.int (67)], vm := .none },
  { cls := 14, slots := #[.int (68)], vm := .none },
  { cls := 14, slots := #[.int (69)], vm := .none },
  { cls := 14, slots := #[.int (70)], vm := .none },
  { cls := 14, slots := #[.int (71)], vm := .none },
  { cls := 14, slots := #[.int (72)], vm := .none },
  { cls := 14, slots := #[.int (73)], vm := .none },
  { cls := 14, slots := #[.int (74)], vm := .none },
  { cls := 14, slots := #[.int (75)], vm := .none },
  { cls := 14, slots := #[.int (76)], vm := .none },
  { cls := 14, slots := #[.int (77)], vm := .none },
  { cls := 14, slots := #[.int (78)], vm := .none },
  { cls := 14, slots := #[.int (79)], vm := .none },
  { cls := 14, slots := #[.int (80)], vm := .none },
  { cls := 14, slots := #[.int (81)], vm := .none },
  { cls := 14, slots := #[.int (82)], vm := .none },
  { cls := 14, slots := #[.int (83)], vm := .none },
  { cls := 14, slots := #[.int (84)], vm := .none },
  { cls := 14, slots := #[.int (85)], vm := .none },
  { cls := 14, slots := #[.int (86)], vm := .none },
  { cls := 14, slots := #[.int (87)], vm := .none },
  { cls := 14, slots := #[.int (88)], vm := .none },
  { cls := 14, slots := #[.int (89)], vm := .none },
  { cls := 14, slots := #[.int (90)], vm := .none },
  { cls := 14, slots := #[.int (91)], vm := .none },
  { cls := 14, slots := #[.int (92)], vm := .none },
  { cls := 14, slots := #[.int (93)], vm := .none },
  { cls := 14, slots := #[.int (94)], vm := .none },
  { cls := 14, slots := #[.int (95)], vm := .none },
  { cls := 14, slots := #[.int (96)], vm := .none },
  { cls := 14, slots := #[.int (97)], vm := .none },
  { cls := 14, slots := #[.int (98)], vm := .none },
  { cls := 14, slots := #[.int (99)], vm := .none },
  { cls := 14, slots := #[.int (100)], vm := .none },
  { cls := 14, slots := #[.int (101)], vm := .none },
  { cls := 14, slots := #[.int (102)], vm := .none },
  { cls := 14, slots := #[.int (103)], vm := .none },
  { cls := 14, slots := #[.int (104)], vm := .none },
  { cls := 14, slots := #[.int (105)], vm := .none },
  { cls := 14, slots := #[.int (106)], vm := .none },
  { cls := 14, slots := #[.int (107)], vm := .none },
  { cls := 14, slots := #[.int (108)], vm := .none },
  { cls := 14, slots := #[.int (109)], vm := .none },
  { cls := 14, slots := #[.int (110)], vm := .none },
  { cls := 14, slots := #[.int (111)], vm := .none },
  { cls := 14, slots := #[.int (112)], vm := .none },
  { cls := 14, slots := #[.int (113)], vm := .none },
  { cls := 14, slots := #[.int (114)], vm := .none },
  { cls := 14, slots := #[.int (115)], vm := .none },
  { cls := 14, slots := #[.int (116)], vm := .none },
  { cls := 14, slots := #[.int (117)], vm := .none },
  { cls := 14, slots := #[.int (118)], vm := .none },
  { cls := 14, slots := #[.int (119)], vm := .none },
  { cls := 14, slots := #[.int (120)], vm := .none },
  { cls := 14, slots := #[.int (121)], vm := .none },
  { cls := 14, slots := #[.int (122)], vm := .none },
  { cls := 14, slots := #[.int (123)], vm := .none },
  { cls := 14, slots := #[.int (124)], vm := .none },
  { cls := 14, slots := #[.int (125)], vm := .none },
  { cls := 14, slots := #[.int (126)], vm := .none },
  { cls := 14, slots := #[.int (127)], vm := .none },
  { cls := 13, slots := #[.long (-128)], vm := .none },
  { cls := 13, slots := #[.long (-127)], vm := .none },
  { cls := 13, slots := #[.long (-126)], vm := .none },
  { cls := 13, slots := #[.long (-125)], vm := .none },
  { cls := 13, slots := #[.long (-124)], vm := .none },
  { cls := 13, slots := #[.long (-123)], vm := .none },
  { cls := 13, slots := #[.long (-122)], vm := .none },
  { cls := 13, slots := #[.long (-121)], vm := .none },
  { cls := 13, slots := #[.long (-120)], vm := .none },
  { cls := 13, slots := #[.long (-119)], vm := .none },
  { cls := 13, slots := #[.long (-118)], vm := .none },
  { cls := 13, slots := #[.long (-117)], vm := .none },
  { cls := 13, slots := #[.long (-116)], vm := .none },
  { cls := 13, slots := #[.long (-115)], vm := .none },
  { cls := 13, slots := #[.long (-114)], vm := .none },
  { cls := 13, slots := #[.long (-113)], vm := .none },
  { cls := 13, slots := #[.long (-112)], vm := .none },
  { cls := 13, slots := #[.long (-111)], vm := .none },
  { cls := 13, slots := #[.long (-110)], vm := .none },
  { cls := 13, slots := #[.long (-109)], vm := .none },
  { cls := 13, slots := #[.long (-108)], vm := .none },
  { cls := 13, slots := #[.long (-107)], vm := .none },
  { cls := 13, slots := #[.long (-106)], vm := .none },
  { cls := 13, slots := #[.long (-105)], vm := .none },
  { cls := 13, slots := #[.long (-104)], vm := .none },
  { cls := 13, slots := #[.long (-103)], vm := .none },
  { cls := 13, slots := #[.long (-102)], vm := .none },
  { cls := 13, slots := #[.long (-101)], vm := .none },
  { cls := 13, slots := #[.long (-100)], vm := .none },
  { cls := 13, slots := #[.long (-99)], vm := .none },
  { cls := 13, slots := #[.long (-98)], vm := .none },
  { cls := 13, slots := #[.long (-97)], vm := .none },
  { cls := 13, slots := #[.long (-96)], vm := .none },
  { cls := 13, slots := #[.long (-95)], vm := .none },
  { cls := 13, slots := #[.long (-94)], vm := .none },
  { cls := 13, slots := #[.long (-93)], vm := .none },
  { cls := 13, slots := #[.long (-92)], vm := .none },
  { cls := 13, slots := #[.long (-91)], vm := .none },
  { cls := 13, slots := #[.long (-90)], vm := .none },
  { cls := 13, slots := #[.long (-89)], vm := .none },
  { cls := 13, slots := #[.long (-88)], vm := .none },
  { cls := 13, slots := #[.long (-87)], vm := .none },
  { cls := 13, slots := #[.long (-86)], vm := .none },
  { cls := 13, slots := #[.long (-85)], vm := .none },
  { cls := 13, slots := #[.long (-84)], vm := .none },
  { cls := 13, slots := #[.long (-83)], vm := .none },
  { cls := 13, slots := #[.long (-82)], vm := .none },
  { cls := 13, slots := #[.long (-81)], vm := .none },
  { cls := 13, slots := #[.long (-80)], vm := .none },
  { cls := 13, slots := #[.long (-79)], vm := .none },
  { cls := 13, slots := #[.long (-78)], vm := .none },
  { cls := 13, slots := #[.long (-77)], vm := .none },
  { cls := 13, slots := #[.long (-76)], vm := .none },
  { cls := 13, slots := #[.long (-75)], vm := .none },
  { cls := 13, slots := #[.long (-74)], vm := .none },
  { cls := 13, slots := #[.long (-73)], vm := .none },
  { cls := 13, slots := #[.long (-72)], vm := .none },
  { cls := 13, slots := #[.long (-71)], vm := .none },
  { cls := 13, slots := #[.long (-70)], vm := .none },
  { cls := 13, slots := #[.long (-69)], vm := .none },
  { cls := 13, slots := #[.long (-68)], vm := .none },
  { cls := 13, slots := #[.long (-67)], vm := .none },
  { cls := 13, slots := #[.long (-66)], vm := .none },
  { cls := 13, slots := #[.long (-65)], vm := .none },
  { cls := 13, slots := #[.long (-64)], vm := .none },
  { cls := 13, slots := #[.long (-63)], vm := .none },
  { cls := 13, slots := #[.long (-62)], vm := .none },
  { cls := 13, slots := #[.long (-61)], vm := .none },
  { cls := 13, slots := #[.long (-60)], vm := .none },
  { cls := 13, slots := #[.long (-59)], vm := .none },
  { cls := 13, slots := #[.long (-58)], vm := .none },
  { cls := 13, slots := #[.long (-57)], vm := .none },
  { cls := 13, slots := #[.long (-56)], vm := .none },
  { cls := 13, slots := #[.long (-55)], vm := .none },
  { cls := 13, slots := #[.long (-54)], vm := .none },
  { cls := 13, slots := #[.long (-53)], vm := .none },
  { cls := 13, slots := #[.long (-52)], vm := .none },
  { cls := 13, slots := #[.long (-51)], vm := .none },
  { cls := 13, slots := #[.long (-50)], vm := .none },
  { cls := 13, slots := #[.long (-49)], vm := .none },
  { cls := 13, slots := #[.long (-48)], vm := .none },
  { cls := 13, slots := #[.long (-47)], vm := .none },
  { cls := 13, slots := #[.long (-46)], vm := .none },
  { cls := 13, slots := #[.long (-45)], vm := .none },
  { cls := 13, slots := #[.long (-44)], vm := .none },
  { cls := 13, slots := #[.long (-43)], vm := .none },
  { cls := 13, slots := #[.long (-42)], vm := .none },
  { cls := 13, slots := #[.long (-41)], vm := .none },
  { cls := 13, slots := #[.long (-40)], vm := .none },
  { cls := 13, slots := #[.long (-39)], vm := .none },
  { cls := 13, slots := #[.long (-38)], vm := .none },
  { cls := 13, slots := #[.long (-37)], vm := .none },
  { cls := 13, slots := #[.long (-36)], vm := .none },
  { cls := 13, slots := #[.long (-35)], vm := .none },
  { cls := 13, slots := #[.long (-34)], vm := .none },
  { cls := 13, slots := #[.long (-33)], vm := .none },
  { cls := 13, slots := #[.long (-32)], vm := .none },
  { cls := 13, slots := #[.long (-31)], vm := .none },
  { cls := 13, slots := #[.long (-30)], vm := .none },
  { cls := 13, slots := #[.long (-29)], vm := .none },
  { cls := 13, slots := #[.long (-28)], vm := .none },
  { cls := 13, slots := #[.long (-27)], vm := .none },
  { cls := 13, slots := #[.long (-26)], vm := .none },
  { cls := 13, slots := #[.long (-25)], vm := .none },
  { cls := 13, slots := #[.long (-24)], vm := .none },
  { cls := 13, slots := #[.long (-23)], vm := .none },
  { cls := 13, slots := #[.long (-22)], vm := .none },
  { cls := 13, slots := #[.long (-21)], vm := .none },
  { cls := 13, slots := #[.long (-20)], vm := .none },
  { cls := 13, slots := #[.long (-19)], vm := .none },
  { cls := 13, slots := #[.long (-18)], vm := .none },
  { cls := 13, slots := #[.long (-17)], vm := .none },
  { cls := 13, slots := #[.long (-16)], vm := .none },
  { cls := 13, slots := #[.long (-15)], vm := .none },
  { cls := 13, slots := #[.long (-14)], vm := .none },
  { cls := 13, slots := #[.long (-13)], vm := .none },
  { cls := 13, slots := #[.long (-12)], vm := .none },
  { cls := 13, slots := #[.long (-11)], vm := .none },
  { cls := 13, slots := #[.long (-10)], vm := .none },
  { cls := 13, slots := #[.long (-9)], vm := .none },
  { cls := 13, slots := #[.long (-8)], vm := .none },
  { cls := 13, slots := #[.long (-7)], vm := .none },
  { cls := 13, slots := #[.long (-6)], vm := .none },
  { cls := 13, slots := #[.long (-5)], vm := .none },
  { cls := 13, slots := #[.long (-4)], vm := .none },
  { cls := 13, slots := #[.long (-3)], vm := .none },
  { cls := 13, slots := #[.long (-2)], vm := .none },
  { cls := 13, slots := #[.long (-1)], vm := .none },
  { cls := 13, slots := #[.long (0)], vm := .none },
  { cls := 13, slots := #[.long (1)], vm := .none },
  { cls := 13, slots := #[.long (2)], vm := .none },
  { cls := 13, slots := #[.long (3)], vm := .none },
  { cls := 13, slots := #[.long (4)], vm := .none },
  { cls := 13, slots := #[.long (5)], vm := .none },
  { cls := 13, slots := #[.long (6)], vm := .none },
  { cls := 13, slots := #[.long (7)], vm := .none },
  { cls := 13, slots := #[.long (8)], vm := .none },
  { cls := 13, slots := #[.long (9)], vm := .none },
  { cls := 13, slots := #[.long (10)], vm := .none },
  { cls := 13, slots := #[.long (11)], vm := .none },
  { cls := 13, slots := #[.long (12)], vm := .none },
  { cls := 13, slots := #[.long (13)], vm := .none },
  { cls := 13, slots := #[.long (14)], vm := .none },
  { cls := 13, slots := #[.long (15)], vm := .none },
  { cls := 13, slots := #[.long (16)], vm := .none },
  { cls := 13, slots := #[.long (17)], vm := .none },
  { cls := 13, slots := #[.long (18)], vm := .none },
  { cls := 13, slots := #[.long (19)], vm := .none },
  { cls := 13, slots := #[.long (20)], vm := .none },
  { cls := 13, slots := #[.long (21)], vm := .none },
  { cls := 13, slots := #[.long (22)], vm := .none },
  { cls := 13, slots := #[.long (23)], vm := .none },
  { cls := 13, slots := #[.long (24)], vm := .none },
  { cls := 13, slots := #[.long (25)], vm := .none },
  { cls := 13, slots := #[.long (26)], vm := .none },
  { cls := 13, slots := #[.long (27)], vm := .none },
  { cls := 13, slots := #[.long (28)], vm := .none },
  { cls := 13, slots := #[.long (29)], vm := .none },
  { cls := 13, slots := #[.long (30)], vm := .none },
  { cls := 13, slots := #[.long (31)], vm := .none },
  { cls := 13, slots := #[.long (32)], vm := .none },
  { cls := 13, slots := #[.long (33)], vm := .none },
  { cls := 13, slots := #[.long (34)], vm := .none },
  { cls := 13, slots := #[.long (35)], vm := .none },
  { cls := 13, slots := #[.long (36)], vm := .none },
  { cls := 13, slots := #[.long (37)], vm := .none },
  { cls := 13, slots := #[.long (38)], vm := .none },
  { cls := 13, slots := #[.long (39)], vm := .none },
  { cls := 13, slots := #[.long (40)], vm := .none },
  { cls := 13, slots := #[.long (41)], vm := .none },
  { cls := 13, slots := #[.long (42)], vm := .none },
  { cls := 13, slots := #[.long (43)], vm := .none },
  { cls := 13, slots := #[.long (44)], vm := .none },
  { cls := 13, slots := #[.long (45)], vm := .none },
  { cls := 13, slots := #[.long (46)], vm := .none },
  { cls := 13, slots := #[.long (47)], vm := .none },
  { cls := 13, slots := #[.long (48)], vm := .none },
  { cls := 13, slots := #[.long (49)], vm := .none },
  { cls := 13, slots := #[.long (50)], vm := .none },
  { cls := 13, slots := #[.long (51)], vm := .none },
  { cls := 13, slots := #[.long (52)], vm := .none },
  { cls := 13, slots := #[.long (53)], vm := .none },
  { cls := 13, slots := #[.long (54)], vm := .none },
  { cls := 13, slots := #[.long (55)], vm := .none },
  { cls := 13, slots := #[.long (56)], vm := .none },
  { cls := 13, slots := #[.long (57)], vm := .none },
  { cls := 13, slots := #[.long (58)], vm := .none },
  { cls := 13, slots := #[.long (59)], vm := .none },
  { cls := 13, slots := #[.long (60)], vm := .none },
  { cls := 13, slots := #[.long (61)], vm := .none },
  { cls := 13, slots := #[.long (62)], vm := .none },
  { cls := 13, slots := #[.long (63)], vm := .none },
  { cls := 13, slots := #[.long (64)], vm := .none },
  { cls := 13, slots := #[.long (65)], vm := .none },
  { cls := 13, slots := #[.long (66)], vm := .none },
  { cls := 13, slots := #[.long (67)], vm := .none },
  { cls := 13, slots := #[.long (68)], vm := .none },
  { cls := 13, slots := #[.long (69)], vm := .none },
  { cls := 13, slots := #[.long (70)], vm := .none },
  { cls := 13, slots := #[.long (71)], vm := .none },
  { cls := 13, slots := #[.long (72)], vm := .none },
  { cls := 13, slots := #[.long (73)], vm := .none },
  { cls := 13, slots := #[.long (74)], vm := .none },
  { cls := 13, slots := #[.long (75)], vm := .none },
  { cls := 13, slots := #[.long (76)], vm := .none },
  { cls := 13, slots := #[.long (77)], vm := .none },
  { cls := 13, slots := #[.long (78)], vm := .none },
  { cls := 13, slots := #[.long (79)], vm := .none },
  { cls := 13, slots := #[.long (80)], vm := .none },
  { cls := 13, slots := #[.long (81)], vm := .none },
  { cls := 13, slots := #[.long (82)], vm := .none },
  { cls := 13, slots := #[.long (83)], vm := .none },
  { cls := 13, slots := #[.long (84)], vm := .none },
  { cls := 13, slots := #[.long (85)], vm := .none },
  { cls := 13, slots := #[.long (86)], vm := .none },
  { cls := 13, slots := #[.long (87)], vm := .none },
  { cls := 13, slots := #[.long (88)], vm := .none },
  { cls := 13, slots := #[.long (89)], vm := .none },
  { cls := 13, slots := #[.long (90)], vm := .none },
  { cls := 13, slots := #[.long (91)], vm := .none },
  { cls := 13, slots := #[.long (92)], vm := .none },
  { cls := 13, slots := #[.long (93)], vm := .none },
  { cls := 13, slots := #[.long (94)], vm := .none },
  { cls := 13, slots := #[.long (95)], vm := .none },
  { cls := 13, slots := #[.long (96)], vm := .none },
  { cls := 13, slots := #[.long (97)], vm := .none },
  { cls := 13, slots := #[.long (98)], vm := .none },
  { cls := 13, slots := #[.long (99)], vm := .none },
  { cls := 13, slots := #[.long (100)], vm := .none },
  { cls := 13, slots := #[.long (101)], vm := .none },
  { cls := 13, slots := #[.long (102)], vm := .none },
  { cls := 13, slots := #[.long (103)], vm := .none },
  { cls := 13, slots := #[.long (104)], vm := .none },
  { cls := 13, slots := #[.long (105)], vm := .none },
  { cls := 13, slots := #[.long (106)], vm := .none },
  { cls := 13, slots := #[.long (107)], vm := .none },
  { cls := 13, slots := #[.long (108)], vm := .none },
  { cls := 13, slots := #[.long (109)], vm := .none },
  { cls := 13, slots := #[.long (110)], vm := .none },
  { cls := 13, slots := #[.long (111)], vm := .none },
  { cls := 13, slots := #[.long (112)], vm := .none },
  { cls := 13, slots := #[.long (113)], vm := .none },
  { cls := 13, slots := #[.long (114)], vm := .none },
  { cls := 13, slots := #[.long (115)], vm := .none },
  { cls := 13, slots := #[.long (116)], vm := .none },
  { cls := 13, slots := #[.long (117)], vm := .none },
  { cls := 13, slots := #[.long (118)], vm := .none },
  { cls := 13, slots := #[.long (119)], vm := .none },
  { cls := 13, slots := #[.long (120)], vm := .none },
  { cls := 13, slots := #[.long (121)], vm := .none },
  { cls := 13, slots := #[.long (122)], vm := .none },
  { cls := 13, slots := #[.long (123)], vm := .none },
  { cls := 13, slots := #[.long (124)], vm := .none },
  { cls := 13, slots := #[.long (125)], vm := .none },
  { cls := 13, slots := #[.long (126)], vm := .none },
  { cls := 13, slots := #[.long (127)], vm := .none }]
def classes : Array Class := #[k0, k1, k2, k3, k4, k5, k6, k7, k8, k9, k10, k11, k12, k13, k14, k15, k16, k17, k18, k19, k20, k21, k22, k23, k24, k25, k26, k27, k28]
def interned : List (Array UInt16 × Addr) := []
def slotsUsed : Nat := 1042
def theMethod : MethodId := ⟨1, 1⟩
def args0 : Array Value := #[.int 0, .int 5]
def aboutOver (below : List Frame) : State where
  vm := { classes := classes, interned := interned.toArray }
  heap := heap
  slotsUsed := slotsUsed
  threads := #[{ frames := .invoking theMethod args0 :: below }]
def below0 : List Frame := [.native { method := ⟨0, 0⟩, args := #[] }]
def about1 : State := aboutOver below0
def p0 : Program := .bare "" "" ""
def e0 : Env := launch0.env 0 0 0
theorem w_frames : about1.frames = Frame.invoking theMethod args0 :: below0 := rfl
set_option maxRecDepth 65536 in
theorem w_args : argsFit about1.vm theMethod args0 = true := by decide +kernel
set_option maxRecDepth 65536 in
theorem w_heap : heapFits about1 = true := by decide +kernel
set_option maxRecDepth 65536 in
theorem w_runnable : about1.curStatus? = some .runnable := by decide +kernel
set_option maxRecDepth 65536 in
theorem w_alone : about1.alone = true := by decide +kernel
set_option maxRecDepth 65536 in
theorem w_named : about1.methodNamed? x = some theMethod := by decide +kernel
set_option maxRecDepth 65536 in
theorem w_hears : about1.hears theMethod below0 = true := by decide +kernel
set_option maxRecDepth 65536 in
theorem w_ripe : about1.ripe theMethod args0 below0 = true := by decide +kernel
theorem w_running : about1.status = .running := rfl
set_option maxRecDepth 65536 in
theorem w_room : about1.hasRoom e0.platform room_1 = true :=
  launch0.hasRoom_least _ room_1 (by decide +kernel) (by decide +kernel) (by decide +kernel) (by decide +kernel) (by decide +kernel) (by decide +kernel)
theorem allAtoms_all (ts : List Jvm.Cond) (a : Array Jvm.Value) (st : Jvm.State) : (allAtoms ts).before a st = ts.all (fun c => c.before a st) := by
  induction ts with
  | nil => rfl
  | cons c t ih =>
    show (Jvm.Cond.and c (allAtoms t)).before a st = _
    rw [Jvm.Cond.before_and, ih, List.all_cons]
def words1 : List Jvm.Cond := Jvm.Cond.code x code maxLocals ret :: tables_1
/-- a 'code' word, met by the world's own term for the bytes: nothing is compared byte by byte -/
theorem code_word {y : MethodName} {bytes : ByteArray} {mx : Nat} {rt : Option FieldType} {a : Array Value} {s : State} {m : MethodId} {meth : Method} {c : Code} (h1 : s.methodNamed? y = some m) (h2 : s.vm.method? m = some meth) (h3 : meth.code = some c) (h4 : c.code = bytes)
    (h5 : (c.maxLocals == mx && c.exceptionTable.isEmpty && decide (c.maxStack ≤ mostOperands) && decide (meth.sig.returnType = rt) && !meth.locks && decide (parseMethodDescriptor y.desc = some meth.sig)) = true) : (Jvm.Cond.code y bytes mx rt).before a s = true := by
  simp only [Bool.and_eq_true, beq_iff_eq, Bool.not_eq_true', decide_eq_true_eq] at h5
  obtain ⟨⟨⟨⟨⟨g1, g2⟩, g3⟩, g4⟩, g5⟩, g6⟩ := h5
  simp [Cond.before, Cond.holds, Cond.value, h1, h2, h3, h4, g1, g2, g3, g4, g5, g6]
def isCode : Jvm.Cond → Bool
  | .code _ _ _ _ => true
  | _ => false
theorem all_split {L : List Jvm.Cond} {P : Jvm.Cond → Bool} (h1 : L.all (fun c => isCode c || P c) = true) (h2 : ∀ c ∈ L.filter isCode, P c = true) : L.all P = true := by
  refine List.all_eq_true.mpr fun c hc => ?_
  have h := List.all_eq_true.mp h1 c hc
  rcases Bool.eq_false_or_eq_true (isCode c) with hi | hi
  · exact h2 c (List.mem_filter.mpr ⟨hc, hi⟩)
  · simpa [hi] using h
set_option maxRecDepth 65536 in
theorem w_c0 : (Jvm.Cond.code x code maxLocals ret).before args0 about1 = true := code_word (m := ⟨1, 1⟩) (meth := k1m1) (c := k1c1) (by decide +kernel) rfl rfl rfl (by decide +kernel)
set_option maxRecDepth 65536 in
theorem w_c1 : (Jvm.Cond.code ({ cls := "com/example/tandemwick/tandemwick/FutureState$Special", name := "<init>", desc := "(Ljava/lang/Object;)V" } : Jvm.MethodName) prog_16_method_1_code (2 : Nat) (Option.none : Option Jvm.ClassFile.FieldType)).before args0 about1 = true := code_word (m := ⟨2, 0⟩) (meth := k2m0) (c := k2c0) (by decide +kernel) rfl rfl rfl (by decide +kernel)
set_option maxRecDepth 65536 in
theorem w_c2 : (Jvm.Cond.code ({ cls := "java/lang/Object", name := "<init>", desc := "()V" } : Jvm.MethodName) object_method_1_code (1 : Nat) (Option.none : Option Jvm.ClassFile.FieldType)).before args0 about1 = true := code_word (m := ⟨0, 0⟩) (meth := k0m0) (c := k0c0) (by decide +kernel) rfl rfl rfl (by decide +kernel)
set_option maxRecDepth 65536 in
theorem w_c3 : (Jvm.Cond.code ({ cls := "com/example/tandemwick/tandemwick/FutureState$Special", name := "isPending", desc := "()Z" } : Jvm.MethodName) prog_16_method_2_code (1 : Nat) (Option.some Jvm.ClassFile.FieldType.boolean)).before args0 about1 = true := code_word (m := ⟨2, 1⟩) (meth := k2m1) (c := k2c1) (by decide +kernel) rfl rfl rfl (by decide +kernel)
set_option maxRecDepth 65536 in
theorem w_c4 : (Jvm.Cond.code ({ cls := "java/lang/String", name := "<init>", desc := "([C)V" } : Jvm.MethodName) jdk_42_method_3_code (2 : Nat) (Option.none : Option Jvm.ClassFile.FieldType)).before args0 about1 = true := code_word (m := ⟨10, 1⟩) (meth := k10m1) (c := k10c1) (by decide +kernel) rfl rfl rfl (by decide +kernel)
set_option maxRecDepth 65536 in
theorem w_c5 : (Jvm.Cond.code ({ cls := "java/lang/String", name := "<init>", desc := "([CIILjava/lang/Void;)V" } : Jvm.MethodName) jdk_42_method_149_code (6 : Nat) (Option.none : Option Jvm.ClassFile.FieldType)).before args0 about1 = true := code_word (m := ⟨10, 2⟩) (meth := k10m2) (c := k10c2) (by decide +kernel) rfl rfl rfl (by decide +kernel)
set_option maxRecDepth 65536 in
theorem w_c6 : (Jvm.Cond.code ({ cls := "java/lang/StringUTF16", name := "compress", desc := "([CII)[B" } : Jvm.MethodName) jdk_52_method_16_code (6 : Nat) (Option.some (Jvm.ClassFile.FieldType.array Jvm.ClassFile.FieldType.byte))).before args0 about1 = true := code_word (m := ⟨11, 2⟩) (meth := k11m2) (c := k11c2) (by decide +kernel) rfl rfl rfl (by decide +kernel)
set_option maxRecDepth 65536 in
theorem w_c7 : (Jvm.Cond.code ({ cls := "java/lang/StringUTF16", name := "compress", desc := "([CI[BII)I" } : Jvm.MethodName) jdk_52_method_21_code (7 : Nat) (Option.some Jvm.ClassFile.FieldType.int)).before args0 about1 = true := code_word (m := ⟨11, 3⟩) (meth := k11m3) (c := k11c3) (by decide +kernel) rfl rfl rfl (by decide +kernel)
set_option maxRecDepth 65536 in
theorem w_c8 : (Jvm.Cond.code ({ cls := "java/lang/StringUTF16", name := "coderFromArrayLen", desc := "([BI)B" } : Jvm.MethodName) jdk_52_method_15_code (2 : Nat) (Option.some Jvm.ClassFile.FieldType.byte)).before args0 about1 = true := code_word (m := ⟨11, 1⟩) (meth := k11m1) (c := k11c1) (by decide +kernel) rfl rfl rfl (by decide +kernel)
set_option maxRecDepth 65536 in
theorem w_c9 : (Jvm.Cond.code ({ cls := "com/example/tandemwick/tandemwick/FutureState$Failure", name := "<init>", desc := "(Ljava/lang/Throwable;)V" } : Jvm.MethodName) prog_15_method_1_code (2 : Nat) (Option.none : Option Jvm.ClassFile.FieldType)).before args0 about1 = true := code_word (m := ⟨3, 0⟩) (meth := k3m0) (c := k3c0) (by decide +kernel) rfl rfl rfl (by decide +kernel)
set_option maxRecDepth 65536 in
theorem w_c10 : (Jvm.Cond.code ({ cls := "java/lang/Long", name := "valueOf", desc := "(J)Ljava/lang/Long;" } : Jvm.MethodName) jdk_35_method_24_code (3 : Nat) (Option.some (Jvm.ClassFile.FieldType.object "java/lang/Long"))).before args0 about1 = true := code_word (m := ⟨13, 0⟩) (meth := k13m0) (c := k13c0) (by decide +kernel) rfl rfl rfl (by decide +kernel)
set_option maxRecDepth 65536 in
theorem w_c11 : (Jvm.Cond.code ({ cls := "java/lang/Long", name := "<init>", desc := "(J)V" } : Jvm.MethodName) jdk_35_method_26_code (3 : Nat) (Option.none : Option Jvm.ClassFile.FieldType)).before args0 about1 = true := code_word (m := ⟨13, 1⟩) (meth := k13m1) (c := k13c1) (by decide +kernel) rfl rfl rfl (by decide +kernel)
set_option maxRecDepth 65536 in
theorem w_c12 : (Jvm.Cond.code ({ cls := "java/lang/Number", name := "<init>", desc := "()V" } : Jvm.MethodName) jdk_18_method_1_code (1 : Nat) (Option.none : Option Jvm.ClassFile.FieldType)).before args0 about1 = true := code_word (m := ⟨12, 0⟩) (meth := k12m0) (c := k12c0) (by decide +kernel) rfl rfl rfl (by decide +kernel)
set_option maxRecDepth 65536 in
theorem w_c13 : (Jvm.Cond.code ({ cls := "java/lang/Integer", name := "valueOf", desc := "(I)Ljava/lang/Integer;" } : Jvm.MethodName) jdk_33_method_22_code (1 : Nat) (Option.some (Jvm.ClassFile.FieldType.object "java/lang/Integer"))).before args0 about1 = true := code_word (m := ⟨14, 0⟩) (meth := k14m0) (c := k14c0) (by decide +kernel) rfl rfl rfl (by decide +kernel)
set_option maxRecDepth 65536 in
theorem w_c14 : (Jvm.Cond.code ({ cls := "com/example/tandemwick/tandemwick/FutureState$Cancellation", name := "<init>", desc := "()V" } : Jvm.MethodName) prog_13_method_1_code (1 : Nat) (Option.none : Option Jvm.ClassFile.FieldType)).before args0 about1 = true := code_word (m := ⟨4, 0⟩) (meth := k4m0) (c := k4c0) (by decide +kernel) rfl rfl rfl (by decide +kernel)
set_option maxRecDepth 65536 in
theorem w_c15 : (Jvm.Cond.code ({ cls := "java/lang/Integer", name := "<init>", desc := "(I)V" } : Jvm.MethodName) jdk_33_method_23_code (2 : Nat) (Option.none : Option Jvm.ClassFile.FieldType)).before args0 about1 = true := code_word (m := ⟨14, 1⟩) (meth := k14m1) (c := k14c1) (by decide +kernel) rfl rfl rfl (by decide +kernel)
def codes1 : List Jvm.Cond := [Jvm.Cond.code x code maxLocals ret, Jvm.Cond.code ({ cls := "com/example/tandemwick/tandemwick/FutureState$Special", name := "<init>", desc := "(Ljava/lang/Object;)V" } : Jvm.MethodName) prog_16_method_1_code (2 : Nat) (Option.none : Option Jvm.ClassFile.FieldType), Jvm.Cond.code ({ cls := "java/lang/Object", name := "<init>", desc := "()V" } : Jvm.MethodName) object_method_1_code (1 : Nat) (Option.none : Option Jvm.ClassFile.FieldType), Jvm.Cond.code ({ cls := "com/example/tandemwick/tandemwick/FutureState$Special", name := "isPending", desc := "()Z" } : Jvm.MethodName) prog_16_method_2_code (1 : Nat) (Option.some Jvm.ClassFile.FieldType.boolean), Jvm.Cond.code ({ cls := "java/lang/String", name := "<init>", desc := "([C)V" } : Jvm.MethodName) jdk_42_method_3_code (2 : Nat) (Option.none : Option Jvm.ClassFile.FieldType), Jvm.Cond.code ({ cls := "java/lang/String", name := "<init>", desc := "([CIILjava/lang/Void;)V" } : Jvm.MethodName) jdk_42_method_149_code (6 : Nat) (Option.none : Option Jvm.ClassFile.FieldType), Jvm.Cond.code ({ cls := "java/lang/StringUTF16", name := "compress", desc := "([CII)[B" } : Jvm.MethodName) jdk_52_method_16_code (6 : Nat) (Option.some (Jvm.ClassFile.FieldType.array Jvm.ClassFile.FieldType.byte)), Jvm.Cond.code ({ cls := "java/lang/StringUTF16", name := "compress", desc := "([CI[BII)I" } : Jvm.MethodName) jdk_52_method_21_code (7 : Nat) (Option.some Jvm.ClassFile.FieldType.int), Jvm.Cond.code ({ cls := "java/lang/StringUTF16", name := "coderFromArrayLen", desc := "([BI)B" } : Jvm.MethodName) jdk_52_method_15_code (2 : Nat) (Option.some Jvm.ClassFile.FieldType.byte), Jvm.Cond.code ({ cls := "com/example/tandemwick/tandemwick/FutureState$Failure", name := "<init>", desc := "(Ljava/lang/Throwable;)V" } : Jvm.MethodName) prog_15_method_1_code (2 : Nat) (Option.none : Option Jvm.ClassFile.FieldType), Jvm.Cond.code ({ cls := "java/lang/Long", name := "valueOf", desc := "(J)Ljava/lang/Long;" } : Jvm.MethodName) jdk_35_method_24_code (3 : Nat) (Option.some (Jvm.ClassFile.FieldType.object "java/lang/Long")), Jvm.Cond.code ({ cls := "java/lang/Long", name := "<init>", desc := "(J)V" } : Jvm.MethodName) jdk_35_method_26_code (3 : Nat) (Option.none : Option Jvm.ClassFile.FieldType), Jvm.Cond.code ({ cls := "java/lang/Number", name := "<init>", desc := "()V" } : Jvm.MethodName) jdk_18_method_1_code (1 : Nat) (Option.none : Option Jvm.ClassFile.FieldType), Jvm.Cond.code ({ cls := "java/lang/Integer", name := "valueOf", desc := "(I)Ljava/lang/Integer;" } : Jvm.MethodName) jdk_33_method_22_code (1 : Nat) (Option.some (Jvm.ClassFile.FieldType.object "java/lang/Integer")), Jvm.Cond.code ({ cls := "com/example/tandemwick/tandemwick/FutureState$Cancellation", name := "<init>", desc := "()V" } : Jvm.MethodName) prog_13_method_1_code (1 : Nat) (Option.none : Option Jvm.ClassFile.FieldType), Jvm.Cond.code ({ cls := "java/lang/Integer", name := "<init>", desc := "(I)V" } : Jvm.MethodName) jdk_33_method_23_code (2 : Nat) (Option.none : Option Jvm.ClassFile.FieldType)]
set_option maxRecDepth 65536 in
theorem codes_eq : words1.filter isCode = codes1 := rfl
theorem w_codes : ∀ c ∈ words1.filter isCode, c.before args0 about1 = true := by
  rw [codes_eq]
  intro c hc
  simp only [codes1, List.mem_cons, List.not_mem_nil, or_false] at hc
  rcases hc with rfl | rfl | rfl | rfl | rfl | rfl | rfl | rfl | rfl | rfl | rfl | rfl | rfl | rfl | rfl | rfl
  · exact w_c0
  · exact w_c1
  · exact w_c2
  · exact w_c3
  · exact w_c4
  · exact w_c5
  · exact w_c6
  · exact w_c7
  · exact w_c8
  · exact w_c9
  · exact w_c10
  · exact w_c11
  · exact w_c12
  · exact w_c13
  · exact w_c14
  · exact w_c15
set_option maxRecDepth 65536 in
theorem w_t1 : (words1.take 24).all (fun c => isCode c || c.before args0 about1) = true := by decide +kernel
set_option maxRecDepth 65536 in
theorem w_t2 : ((words1.drop 24).take 24).all (fun c => isCode c || c.before args0 about1) = true := by decide +kernel
set_option maxRecDepth 65536 in
theorem w_t3 : (((words1.drop 24).drop 24).take 24).all (fun c => isCode c || c.before args0 about1) = true := by decide +kernel
set_option maxRecDepth 65536 in
theorem w_t4 : ((((words1.drop 24).drop 24).drop 24).take 24).all (fun c => isCode c || c.before args0 about1) = true := by decide +kernel
set_option maxRecDepth 65536 in
theorem w_t5 : ((((words1.drop 24).drop 24).drop 24).drop 24).all (fun c => isCode c || c.before args0 about1) = true := by decide +kernel
theorem w_tables : (allAtoms (Jvm.Cond.code x code maxLocals ret :: tables_1)).before args0 about1 = true := by
  rw [allAtoms_all]
  show words1.all (fun c => c.before args0 about1) = true
  refine all_split ?_ w_codes
  rw [← List.take_append_drop 24 words1, List.all_append, w_t1, ← List.take_append_drop 24 (words1.drop 24), List.all_append, w_t2, ← List.take_append_drop 24 ((words1.drop 24).drop 24), List.all_append, w_t3, ← List.take_append_drop 24 (((words1.drop 24).drop 24).drop 24), List.all_append, w_t4, w_t5]
  rfl
set_option maxRecDepth 65536 in
theorem w_rest : rest_1_c.before args0 about1 = true := by decide +kernel
set_option maxRecDepth 65536 in
theorem w_case : (Jvm.Cond.and given_1 narrow_1).before args0 about1 = true := by decide +kernel
theorem w_applies : (headSpec (Jvm.Cond.code x code maxLocals ret :: tables_1) room_1).applies x e0.platform about1 = true :=
  (Spec.applies_iff w_frames).mpr ⟨w_running, w_runnable, w_alone, w_named, w_hears, w_ripe, w_room, w_tables⟩
theorem atStart : AtStart classFile x code maxLocals ret World_1 tables_1 room_1 Calls_1 rest_1 Pre_1 launch0 p0 e0 about1 theMethod args0 below0 :=
  ⟨lists_1, trivial, launch0.admits_env _ _ _, launch0.least_env, fairChoices_fair.cas, fairChoices_fair.clock, w_frames, w_args, w_heap, w_applies, trivial, w_rest, w_case⟩
end start1
theorem witness_1 : WitnessClaimed_1 := ⟨start1.p0, start1.e0, start1.about1, start1.theMethod, start1.args0, start1.below0, start1.atStart⟩
end Jvm.Pilot.@@N@@
