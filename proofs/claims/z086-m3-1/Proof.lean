import JvmDerived
import JvmDerived.Pilot.@@N@@Statement
import JvmDerived.Pilot.@@N@@Code
set_option linter.unusedVariables false
set_option linter.unusedSimpArgs false
/- laws to paste: Road.backV (cut by pick.py; bodies as the Statement names them) -/
namespace Jvm.Pilot.@@N@@
namespace StrChars
open Jvm Sem ClassFile Op Lib Jvm.Stand Jvm.Free.XT Jvm.Free.ALB Jvm.Free.JM Jvm.Free
open Jvm.Lib.Cold (StaticIs)
/-- a char array whose places are chars -/
def Ch (a : Addr) (A : Cell) (U : State) : Prop := Arr .char a A U ∧ Typed .char A
theorem Ch.mv {a : Addr} {A : Cell} {U U' : State} (h : Ch a A U) (hal : U.vm.Alike U'.vm) (hh : U'.heap = U.heap) : Ch a A U' := ⟨h.1.mv hal hh, h.2⟩
theorem Ch.keep {a : Addr} {A : Cell} {U U' : State} (h : Ch a A U) (hal : U.vm.Alike U'.vm) (hk : U'.heap[a]? = some A) : Ch a A U' := ⟨h.1.keep hal hk, h.2⟩
/-- what place i of a char[]'s cell holds -/
def cv (A : Cell) (i : Nat) : Int32 := match A.slots[i]? with | some (.int x) => x | _ => 0
theorem Ch.get {a : Addr} {A : Cell} {U : State} (h : Ch a A U) {i : Nat} (hi : i < A.slots.size) : A.slots[i]? = some (.int (cv A i)) := by
  have e := Array.getElem?_eq_getElem hi
  have f := h.2 i _ e
  unfold cv; rw [e]
  generalize A.slots[i] = v at f
  cases v <;> simp [fits] at f ⊢
/-- the byte that i2b leaves of a char -/
def lo8 (x : Int32) : Int32 := x.toInt8.toInt32
theorem fits_lo8 (y : Int32) : fits .byte (.int (lo8 y)) = true := by
  have h1 := y.toInt8.le_toInt
  have h2 := y.toInt8.toInt_lt
  simp only [lo8, fits, Bool.and_eq_true, decide_eq_true_eq, Int32.le_iff_toInt_le, Int8.toInt_toInt32, show (-128 : Int32).toInt = -128 from by decide, show (127 : Int32).toInt = 127 from by decide]
  omega
/-- A' is A but that each place j of lo .. hi - 1 holds f j -/
def Laid (A A' : Cell) (lo hi : Nat) (f : Nat → Value) : Prop := A'.cls = A.cls ∧ A'.vm = A.vm ∧ A'.slots.size = A.slots.size ∧ ∀ i, A'.slots[i]? = if lo ≤ i ∧ i < hi then some (f i) else A.slots[i]?
theorem Laid.zero (A : Cell) (lo : Nat) (f : Nat → Value) : Laid A A lo (lo + 0) f := ⟨rfl, rfl, rfl, fun i => by rw [if_neg (by omega)]⟩
theorem Laid.step {A Ak : Cell} {lo k : Nat} {f : Nat → Value} {v : Value} (h : Laid A Ak lo k f) (hlo : lo ≤ k) (hk : k < Ak.slots.size) (hv : v = f k) : Laid A (Ak.setSlot k v) lo (k + 1) f := by
  refine ⟨h.1, h.2.1, by simpa [Cell.setSlot] using h.2.2.1, fun i => ?_⟩
  by_cases e : k = i
  · subst e; rw [Cell.slots_setSlot_self v hk, if_pos (by omega), hv]
  · rw [Cell.slots_setSlot_ne v e, h.2.2.2 i]
    by_cases q : lo ≤ i ∧ i < k
    · rw [if_pos q, if_pos (by omega)]
    · rw [if_neg q, if_neg (by omega)]
def U16 : String := "java/lang/StringUTF16"
namespace Cmp5
def yN : MethodName := ⟨"java/lang/StringUTF16", "compress", "([CI[BII)I"⟩
abbrev yB : ByteArray := jdk_52_method_21_code
theorem d0 : decode yB 0 = .ok (.iconst 0, 1) := by decide +kernel
theorem d1 : decode yB 1 = .ok (.istore 5, 2) := by decide +kernel
theorem d3 : decode yB 3 = .ok (.iload 5, 2) := by decide +kernel
theorem d5 : decode yB 5 = .ok (.iload 4, 2) := by decide +kernel
theorem d7 : decode yB 7 = .ok (.if_icmp (.ge) 37, 3) := by decide +kernel
theorem d10 : decode yB 10 = .ok (.aload_n 0, 1) := by decide +kernel
theorem d11 : decode yB 11 = .ok (.iload_n 1, 1) := by decide +kernel
theorem d12 : decode yB 12 = .ok (.caload, 1) := by decide +kernel
theorem d13 : decode yB 13 = .ok (.istore 6, 2) := by decide +kernel
theorem d15 : decode yB 15 = .ok (.iload 6, 2) := by decide +kernel
theorem d17 : decode yB 17 = .ok (.sipush 255, 3) := by decide +kernel
theorem d20 : decode yB 20 = .ok (.if_icmp (.le) 6, 3) := by decide +kernel
theorem d26 : decode yB 26 = .ok (.aload_n 2, 1) := by decide +kernel
theorem d27 : decode yB 27 = .ok (.iload_n 3, 1) := by decide +kernel
theorem d28 : decode yB 28 = .ok (.iload 6, 2) := by decide +kernel
theorem d30 : decode yB 30 = .ok (.i2b, 1) := by decide +kernel
theorem d31 : decode yB 31 = .ok (.bastore, 1) := by decide +kernel
theorem d32 : decode yB 32 = .ok (.iinc 1 1, 3) := by decide +kernel
theorem d35 : decode yB 35 = .ok (.iinc 3 1, 3) := by decide +kernel
theorem d38 : decode yB 38 = .ok (.iinc 5 1, 3) := by decide +kernel
theorem d41 : decode yB 41 = .ok (.goto (-38), 3) := by decide +kernel
theorem d44 : decode yB 44 = .ok (.iload 4, 2) := by decide +kernel
theorem d46 : decode yB 46 = .ok (.ireturn, 1) := by decide +kernel
def site : List Cond := []
def tab : Cond := tabOf yN yB 7 (some .int) site
def P (b : Addr) (A : Cell) (d : Addr) (B : Cell) (o q len : Nat) (args : Array Value) (s : State) : Prop := args = #[.ref b, .int (Int32.ofNat o), .ref d, .int (Int32.ofNat q), .int (Int32.ofNat len)] ∧ Ch b A s ∧ Arr .byte d B s ∧ b ≠ d ∧ o + len ≤ A.slots.size ∧ q + len ≤ B.slots.size ∧ ∀ i, i < len → ¬ 255 < cv A (o + i)
def E (b : Addr) (A : Cell) (d : Addr) (B : Cell) (o q len : Nat) (r : Option Value) (s u : State) : Prop := r = some (.int (Int32.ofNat len)) ∧ ∃ B', Put d B' s u ∧ Laid B B' q (q + len) (fun j => Value.int (lo8 (cv A (o + (j - q)))))
/-- no char of the range above 255: len; the places written hold each char's low byte -/
theorem law (l : Launch) (b : Addr) (A : Cell) (d : Addr) (B : Cell) (o q len : Nat) : Law l yN 5 5 0 0 yB 7 (some .int) site (P b A d B o q len) (E b A d B o q len) (copyLocs d q len) 0 0 := by
  refine Law.of_walk (plainFor_of_name (by decide +kernel)) (by decide +kernel) (by decide +kernel) (by decide) (fun _ _ h => by rw [h.1]; rfl) (fun _ U U' hal hh h => ⟨h.1, h.2.1.mv hal hh, h.2.2.1.mv hal hh, h.2.2.2⟩) (fun r U U' V V' h1 hal h2 h => ⟨h.1, h.2.elim fun B' q => ⟨B', q.1.mv h1 h2, q.2⟩⟩) ?_
  intro p e s m args below meth c s₁ X0 hexec hbytes hml hret hlk hnm hown hh0 W hP
  obtain ⟨rfl, hA, hB, hne, l1, l2, hp⟩ := hP
  have c1 : Steps p.tables e below (s₁.setTop (entryFrame m #[.ref b, .int (Int32.ofNat o), .ref d, .int (Int32.ofNat q), .int (Int32.ofNat len)] 7)) (s₁.setTop (mkF m 0 #[.val (.ref b), .val (.int (Int32.ofNat o)), .val (.ref d), .val (.int (Int32.ofNat q)), .val (.int (Int32.ofNat len)), .unset, .unset] [])) := entry rfl
  have hA0 := hA.1.mv X0.warmed.alike hh0
  have hB0 := hB.mv X0.warmed.alike hh0
  have a31 := hA.1.2.2.2
  have c2 : Steps p.tables e below (s₁.setTop (entryFrame m #[.ref b, .int (Int32.ofNat o), .ref d, .int (Int32.ofNat q), .int (Int32.ofNat len)] 7)) (s₁.setTop (mkF m 3 #[.val (.ref b), .val (.int (Int32.ofNat o)), .val (.ref d), .val (.int (Int32.ofNat q)), .val (.int (Int32.ofNat len)), .val (.int 0), .unset] [])) := c1.trans (by
    refine iconstV X0.here hexec rfl 0 (hb hbytes d0) (by decide) ?_
    refine XS.istore X0.here hexec rfl (hb hbytes d1) rfl rfl ?_
    exact Steps.refl _)
  have loop : ∀ (r i : Nat), i + r = len → ∀ (z : Slot), (z = .unset ∨ ∃ w, z = .val w ∧ w.category = 1) → ∀ (Tl : State) (Bk : Cell), Stand p l e { frames := 0, locals := 0, cells := 0, slots := 0 } s m #[.ref b, .int (Int32.ofNat o), .ref d, .int (Int32.ofNat q), .int (Int32.ofNat len)] below meth c Tl ([] ++ copyLocs d q i) 0 0 → Put d Bk s₁ Tl → Laid B Bk q (q + i) (fun j => Value.int (lo8 (cv A (o + (j - q))))) →
      Steps p.tables e below (s₁.setTop (entryFrame m #[.ref b, .int (Int32.ofNat o), .ref d, .int (Int32.ofNat q), .int (Int32.ofNat len)] 7)) (Tl.setTop (mkF m 3 #[.val (.ref b), .val (.int (Int32.ofNat (o + i))), .val (.ref d), .val (.int (Int32.ofNat (q + i))), .val (.int (Int32.ofNat len)), .val (.int (Int32.ofNat i)), z] [])) → ∃ (T' : State) (B' : Cell) (z' : Slot), Stand p l e { frames := 0, locals := 0, cells := 0, slots := 0 } s m #[.ref b, .int (Int32.ofNat o), .ref d, .int (Int32.ofNat q), .int (Int32.ofNat len)] below meth c T' ([] ++ copyLocs d q len) 0 0 ∧ Put d B' s₁ T' ∧ Laid B B' q (q + len) (fun j => Value.int (lo8 (cv A (o + (j - q))))) ∧
      Steps p.tables e below (s₁.setTop (entryFrame m #[.ref b, .int (Int32.ofNat o), .ref d, .int (Int32.ofNat q), .int (Int32.ofNat len)] 7)) (T'.setTop (mkF m 3 #[.val (.ref b), .val (.int (Int32.ofNat (o + len))), .val (.ref d), .val (.int (Int32.ofNat (q + len))), .val (.int (Int32.ofNat len)), .val (.int (Int32.ofNat len)), z'] [])) := by
    intro r
    induction r with
    | zero =>
      intro i hi z hz Tl Bk Xl pl fl cl
      have hil : i = len := by omega
      rw [hil] at Xl fl cl
      exact ⟨Tl, Bk, z, Xl, pl, fl, cl⟩
    | succ r ih =>
      intro i hi z hz Tl Bk Xl pl fl cl
      have all := X0.warmed.alike.symm.trans Xl.warmed.alike
      have hAl := hA0.keep all (pl.other hne hA0.1)
      have hBk := hB0.like all pl.1 fl.1 fl.2.1 fl.2.2.1
      have hlt : q + i < Bk.slots.size := by rw [fl.2.2.1]; omega
      have c3 : Steps p.tables e below (s₁.setTop (entryFrame m #[.ref b, .int (Int32.ofNat o), .ref d, .int (Int32.ofNat q), .int (Int32.ofNat len)] 7)) (Tl.setTop (mkF m 12 #[.val (.ref b), .val (.int (Int32.ofNat (o + i))), .val (.ref d), .val (.int (Int32.ofNat (q + i))), .val (.int (Int32.ofNat len)), .val (.int (Int32.ofNat i)), z] [.int (Int32.ofNat (o + i)), .ref b])) := cl.trans (by
        refine XS.iload Xl.here hexec rfl (hb hbytes d3) rfl ?_
        refine XS.iload Xl.here hexec rfl (hb hbytes d5) rfl ?_
        refine XS.icmpNo Xl.here hexec rfl (hb hbytes d7) rfl (ii_ge_f (lt32 (by omega) (by omega))) ?_
        refine XS.aloadN Xl.here hexec rfl (hb hbytes d10) rfl rfl ?_
        refine XS.iloadN Xl.here hexec rfl (hb hbytes d11) rfl ?_
        exact Steps.refl _)
      have c4 : Steps p.tables e below (s₁.setTop (entryFrame m #[.ref b, .int (Int32.ofNat o), .ref d, .int (Int32.ofNat q), .int (Int32.ofNat len)] 7)) (Tl.setTop (mkF m 13 #[.val (.ref b), .val (.int (Int32.ofNat (o + i))), .val (.ref d), .val (.int (Int32.ofNat (q + i))), .val (.int (Int32.ofNat len)), .val (.int (Int32.ofNat i)), z] [.int (cv A (o + i))])) := c3.trans (by
        refine Xl.aget hexec hAl rfl (hA.get (i := o + i) (by omega)) rfl rfl (hb hbytes d12) ?_
        exact Steps.refl _)
      have c5 : Steps p.tables e below (s₁.setTop (entryFrame m #[.ref b, .int (Int32.ofNat o), .ref d, .int (Int32.ofNat q), .int (Int32.ofNat len)] 7)) (Tl.setTop (mkF m 15 #[.val (.ref b), .val (.int (Int32.ofNat (o + i))), .val (.ref d), .val (.int (Int32.ofNat (q + i))), .val (.int (Int32.ofNat len)), .val (.int (Int32.ofNat i)), .val (.int (cv A (o + i)))] [])) := c4.trans (by
        refine XS.istoreS Xl.here hexec rfl (hb hbytes d13) rfl rfl hz ?_
        exact Steps.refl _)
      have c6 : Steps p.tables e below (s₁.setTop (entryFrame m #[.ref b, .int (Int32.ofNat o), .ref d, .int (Int32.ofNat q), .int (Int32.ofNat len)] 7)) (Tl.setTop (mkF m 31 #[.val (.ref b), .val (.int (Int32.ofNat (o + i))), .val (.ref d), .val (.int (Int32.ofNat (q + i))), .val (.int (Int32.ofNat len)), .val (.int (Int32.ofNat i)), .val (.int (cv A (o + i)))] [.int (lo8 (cv A (o + i))), .int (Int32.ofNat (q + i)), .ref d])) := c5.trans (by
        refine XS.iload Xl.here hexec rfl (hb hbytes d15) rfl ?_
        refine sipushV Xl.here hexec rfl 255 (hb hbytes d17) (by decide) ?_
        refine XS.icmpYes Xl.here hexec rfl (pc0 := 20) rfl (hb hbytes d20) rfl (ii_le_t (hp i (by omega))) (by decide) rfl ?_
        refine XS.aloadN Xl.here hexec rfl (hb hbytes d26) rfl rfl ?_
        refine XS.iloadN Xl.here hexec rfl (hb hbytes d27) rfl ?_
        refine XS.iload Xl.here hexec rfl (hb hbytes d28) rfl ?_
        refine i2b Xl.here hexec rfl (hb hbytes d30) rfl ?_
        exact Steps.refl _)
      obtain ⟨T7, X7, p7, st7⟩ := Xl.aput hexec hBk rfl hlt rfl (fits_lo8 (cv A (o + i))) (g := (mkF m 31 #[.val (.ref b), .val (.int (Int32.ofNat (o + i))), .val (.ref d), .val (.int (Int32.ofNat (q + i))), .val (.int (Int32.ofNat len)), .val (.int (Int32.ofNat i)), .val (.int (cv A (o + i)))] [.int (lo8 (cv A (o + i))), .int (Int32.ofNat (q + i)), .ref d])) rfl (rest := []) rfl (hb hbytes d31)
      have c8 : Steps p.tables e below (s₁.setTop (entryFrame m #[.ref b, .int (Int32.ofNat o), .ref d, .int (Int32.ofNat q), .int (Int32.ofNat len)] 7)) (T7.setTop (mkF m 32 #[.val (.ref b), .val (.int (Int32.ofNat (o + i))), .val (.ref d), .val (.int (Int32.ofNat (q + i))), .val (.int (Int32.ofNat len)), .val (.int (Int32.ofNat i)), .val (.int (cv A (o + i)))] [])) := c6.trans (st7 _ (Steps.refl _))
      have c9 : Steps p.tables e below (s₁.setTop (entryFrame m #[.ref b, .int (Int32.ofNat o), .ref d, .int (Int32.ofNat q), .int (Int32.ofNat len)] 7)) (T7.setTop (mkF m 3 #[.val (.ref b), .val (.int (Int32.ofNat (o + i) + 1)), .val (.ref d), .val (.int (Int32.ofNat (q + i) + 1)), .val (.int (Int32.ofNat len)), .val (.int (Int32.ofNat i + 1)), .val (.int (cv A (o + i)))] [])) := c8.trans (by
        refine iincV X7.here hexec rfl 1 (hb hbytes d32) (by decide) rfl rfl ?_
        refine iincV X7.here hexec rfl 1 (hb hbytes d35) (by decide) rfl rfl ?_
        refine iincV X7.here hexec rfl 1 (hb hbytes d38) (by decide) rfl rfl ?_
        refine XS.goto X7.here hexec rfl (pc0 := 41) rfl (hb hbytes d41) (by decide) rfl ?_
        exact Steps.refl _)
      have c10 : Steps p.tables e below (s₁.setTop (entryFrame m #[.ref b, .int (Int32.ofNat o), .ref d, .int (Int32.ofNat q), .int (Int32.ofNat len)] 7)) (T7.setTop (mkF m 3 #[.val (.ref b), .val (.int (Int32.ofNat (o + (i + 1)))), .val (.ref d), .val (.int (Int32.ofNat (q + (i + 1)))), .val (.int (Int32.ofNat len)), .val (.int (Int32.ofNat (i + 1))), .val (.int (cv A (o + i)))] [])) := by
        have := c9
        rw [succ32, succ32, succ32] at this
        exact this
      exact ih (i + 1) (by omega) _ (Or.inr ⟨_, rfl, rfl⟩) T7 _ (by rw [copyLocs_step, ← List.append_assoc]; exact X7) (pl.trans p7) (fl.step (by omega) hlt (by simp)) c10
  obtain ⟨T9, B9, z9, X9, p9, f9, g9⟩ := loop len 0 (by omega) .unset (Or.inl rfl) s₁ B (by simpa [copyLocs] using X0) ⟨hB0.1, fun _ _ => rfl, rfl⟩ (Laid.zero _ _ _) c2
  have c11 : Steps p.tables e below (s₁.setTop (entryFrame m #[.ref b, .int (Int32.ofNat o), .ref d, .int (Int32.ofNat q), .int (Int32.ofNat len)] 7)) (T9.setTop (mkF m 46 #[.val (.ref b), .val (.int (Int32.ofNat (o + len))), .val (.ref d), .val (.int (Int32.ofNat (q + len))), .val (.int (Int32.ofNat len)), .val (.int (Int32.ofNat len)), z9] [.int (Int32.ofNat len)])) := g9.trans (by
    refine XS.iload X9.here hexec rfl (hb hbytes d3) rfl ?_
    refine XS.iload X9.here hexec rfl (hb hbytes d5) rfl ?_
    refine XS.icmpYes X9.here hexec rfl (pc0 := 7) rfl (hb hbytes d7) rfl (ii_ge_t (nlt32 (by omega) (Nat.le_refl _))) (by decide) rfl ?_
    refine XS.iload X9.here hexec rfl (hb hbytes d44) rfl ?_
    exact Steps.refl _)
  exact ⟨T9, some (.int (Int32.ofNat len)), _, _, _, X9, by simp, rfl, rfl, (fun h => by cases h), ⟨rfl, B9, p9.from hh0, f9⟩, fun fs hl => c11.trans (X9.ireturnOut hexec hret rfl (Or.inl rfl) (hb hbytes d46) hl)⟩
end Cmp5
namespace Cmp3
def yN : MethodName := ⟨"java/lang/StringUTF16", "compress", "([CII)[B"⟩
abbrev yB : ByteArray := jdk_52_method_16_code
theorem d0 : decode yB 0 = .ok (.iload_n 2, 1) := by decide +kernel
theorem d1 : decode yB 1 = .ok (.newarray .byte, 2) := by decide +kernel
theorem d3 : decode yB 3 = .ok (.astore_n 3, 1) := by decide +kernel
theorem d4 : decode yB 4 = .ok (.aload_n 0, 1) := by decide +kernel
theorem d5 : decode yB 5 = .ok (.iload_n 1, 1) := by decide +kernel
theorem d6 : decode yB 6 = .ok (.aload_n 3, 1) := by decide +kernel
theorem d7 : decode yB 7 = .ok (.iconst 0, 1) := by decide +kernel
theorem d8 : decode yB 8 = .ok (.iload_n 2, 1) := by decide +kernel
theorem d9 : decode yB 9 = .ok (.invokestatic 115, 3) := by decide +kernel
theorem d12 : decode yB 12 = .ok (.istore 4, 2) := by decide +kernel
theorem d14 : decode yB 14 = .ok (.iload 4, 2) := by decide +kernel
theorem d16 : decode yB 16 = .ok (.iload_n 2, 1) := by decide +kernel
theorem d17 : decode yB 17 = .ok (.if_icmp (.eq) 40, 3) := by decide +kernel
theorem d57 : decode yB 57 = .ok (.aload_n 3, 1) := by decide +kernel
theorem d58 : decode yB 58 = .ok (.areturn, 1) := by decide +kernel
def site : List Cond := [.arrayClass .byte, Cmp5.tab] ++ staticW U16 115 Cmp5.yN
def tab : Cond := tabOf yN yB 6 (some (.array .byte)) site
def P (b : Addr) (A : Cell) (o len : Nat) (args : Array Value) (s : State) : Prop := args = #[.ref b, .int (Int32.ofNat o), .int (Int32.ofNat len)] ∧ Ch b A s ∧ o + len ≤ A.slots.size ∧ len ≤ 536870912 ∧ ∀ i, i < len → ¬ 255 < cv A (o + i)
def E (b : Addr) (A : Cell) (o len : Nat) (r : Option Value) (s u : State) : Prop := NewArr .byte "[B" len (fun j => .int (lo8 (cv A (o + j)))) r s u ∧ u.heap.size = s.heap.size + 1
/-- no char of the range above 255: a new byte[] of their low bytes -/
theorem law (l : Launch) (b : Addr) (A : Cell) (o len : Nat) : Law l yN 3 3 1 18 yB 6 (some (.array .byte)) site (P b A o len) (E b A o len) [] 1 len := by
  refine Law.of_walk (plainFor_of_name (by decide +kernel)) (by decide +kernel) (by decide +kernel) (by decide) (fun _ _ h => by rw [h.1]; rfl) (fun _ U U' hal hh h => ⟨h.1, h.2.1.mv hal hh, h.2.2⟩) (fun r U U' V V' h1 hal h2 h => ⟨NewArr.mv r U U' V V' h1 hal h2 h.1, by rw [h1, h2]; exact h.2⟩) ?_
  intro p e s m args below meth c s₁ X0 hexec hbytes hml hret hlk hnm hown hh0 W hP
  obtain ⟨rfl, hA, l1, l2, hp⟩ := hP
  have a31 := hA.1.2.2.2
  have c1 : Steps p.tables e below (s₁.setTop (entryFrame m #[.ref b, .int (Int32.ofNat o), .int (Int32.ofNat len)] 6)) (s₁.setTop (mkF m 0 #[.val (.ref b), .val (.int (Int32.ofNat o)), .val (.int (Int32.ofNat len)), .unset, .unset, .unset] [])) := entry rfl
  have c2 : Steps p.tables e below (s₁.setTop (entryFrame m #[.ref b, .int (Int32.ofNat o), .int (Int32.ofNat len)] 6)) (s₁.setTop (mkF m 1 #[.val (.ref b), .val (.int (Int32.ofNat o)), .val (.int (Int32.ofNat len)), .unset, .unset, .unset] [.int (Int32.ofNat len)])) := c1.trans (by
    refine XS.iloadN X0.here hexec rfl (hb hbytes d0) rfl ?_
    exact Steps.refl _)
  obtain ⟨T3, B3, X3, ba3, bs3, bv3, bh3, bf3, st3⟩ := X0.anew hexec (atype := .byte) (wk W (.arrayClass .byte)) rfl (by show len * 1 ≤ _; omega) (by omega) (g := (mkF m 1 #[.val (.ref b), .val (.int (Int32.ofNat o)), .val (.int (Int32.ofNat len)), .unset, .unset, .unset] [.int (Int32.ofNat len)])) rfl (hb hbytes d1) (rest := []) rfl (Nat.le_refl _) (by show 0 + len ≤ len; omega)
  rw [hh0] at ba3 st3
  have kp3 : XT.Kept s T3 := (XT.Kept.of_eq hh0).push bh3
  have hA3 := hA.keep X3.warmed.alike (kp3 _ _ hA.1.1)
  have hne : b ≠ s.heap.size := hA.1.ne
  have c4 : Steps p.tables e below (s₁.setTop (entryFrame m #[.ref b, .int (Int32.ofNat o), .int (Int32.ofNat len)] 6)) (T3.setTop (mkF m 3 #[.val (.ref b), .val (.int (Int32.ofNat o)), .val (.int (Int32.ofNat len)), .unset, .unset, .unset] [.ref s.heap.size])) := c2.trans (st3 _ (Steps.refl _))
  have c5 : Steps p.tables e below (s₁.setTop (entryFrame m #[.ref b, .int (Int32.ofNat o), .int (Int32.ofNat len)] 6)) (T3.setTop (mkF m 9 #[.val (.ref b), .val (.int (Int32.ofNat o)), .val (.int (Int32.ofNat len)), .val (.ref s.heap.size), .unset, .unset] [.int (Int32.ofNat len), .int 0, .ref s.heap.size, .int (Int32.ofNat o), .ref b])) := c4.trans (by
    refine XS.astoreN X3.here hexec rfl (hb hbytes d3) rfl rfl rfl ?_
    refine XS.aloadN X3.here hexec rfl (hb hbytes d4) rfl rfl ?_
    refine XS.iloadN X3.here hexec rfl (hb hbytes d5) rfl ?_
    refine XS.aloadN X3.here hexec rfl (hb hbytes d6) rfl rfl ?_
    refine iconstV X3.here hexec rfl 0 (hb hbytes d7) (by decide) ?_
    refine XS.iloadN X3.here hexec rfl (hb hbytes d8) rfl ?_
    exact Steps.refl _)
  obtain ⟨v6, T6, X6, E6, g6⟩ := X3.callS hexec (Cmp5.law l b A s.heap.size B3 o 0 len) hown (wks W (staticW U16 115 Cmp5.yN)) (wk W Cmp5.tab) (W := 0) (Nat.le_of_ble_eq_true rfl) (Nat.le_of_ble_eq_true rfl) (Nat.le_refl _) (by show 0 + len + 0 ≤ len; omega) (g := (mkF m 9 #[.val (.ref b), .val (.int (Int32.ofNat o)), .val (.int (Int32.ofNat len)), .val (.ref s.heap.size), .unset, .unset] [.int (Int32.ofNat len), .int (Int32.ofNat 0), .ref s.heap.size, .int (Int32.ofNat o), .ref b])) rfl (by rw [hml]; rfl) c5 (argsL := [.ref b, .int (Int32.ofNat o), .ref s.heap.size, .int (Int32.ofNat 0), .int (Int32.ofNat len)]) (rest := []) rfl rfl (by show 2 * 0 + 0 ≤ _; decide) (hb hbytes d9) (⟨rfl, hA3, ba3, hne, l1, by rw [bs3]; simp, hp⟩)
  obtain ⟨rfl, B6, p6, f6⟩ := E6
  have c7 : Steps p.tables e below (s₁.setTop (entryFrame m #[.ref b, .int (Int32.ofNat o), .int (Int32.ofNat len)] 6)) (T6.setTop (mkF m 12 #[.val (.ref b), .val (.int (Int32.ofNat o)), .val (.int (Int32.ofNat len)), .val (.ref s.heap.size), .unset, .unset] [.int (Int32.ofNat len)])) := g6
  have c8 : Steps p.tables e below (s₁.setTop (entryFrame m #[.ref b, .int (Int32.ofNat o), .int (Int32.ofNat len)] 6)) (T6.setTop (mkF m 58 #[.val (.ref b), .val (.int (Int32.ofNat o)), .val (.int (Int32.ofNat len)), .val (.ref s.heap.size), .val (.int (Int32.ofNat len)), .unset] [.ref s.heap.size])) := c7.trans (by
    refine XS.istore X6.here hexec rfl (hb hbytes d12) rfl rfl ?_
    refine XS.iload X6.here hexec rfl (hb hbytes d14) rfl ?_
    refine XS.iloadN X6.here hexec rfl (hb hbytes d16) rfl ?_
    refine XS.icmpYes X6.here hexec rfl (pc0 := 17) rfl (hb hbytes d17) rfl (ii_eq_t rfl) (by decide) rfl ?_
    refine XS.aloadN X6.here hexec rfl (hb hbytes d57) rfl rfl ?_
    exact Steps.refl _)
  have X8 := X6.wide (L' := []) (cells' := 1) (slots' := len) (fun x hx hlt => by
    simp only [List.nil_append, copyLocs, List.mem_map, List.mem_range] at hx
    obtain ⟨i, -, rfl⟩ := hx
    exact absurd hlt (Nat.lt_irrefl _)) (Nat.le_refl _) (by omega)
  exact ⟨T6, some (.ref s.heap.size), _, _, _, X8, rfl, rfl, rfl, (fun h => by cases h), ⟨⟨rfl, B6, ba3.like (X3.warmed.alike.symm.trans X6.warmed.alike) p6.1 f6.1 f6.2.1 f6.2.2.1, f6.2.1.trans bv3, by rw [X6.warmed.alike.findClass, f6.1]; exact bf3, by rw [f6.2.2.1, bs3]; simp, fun j hj => by rw [f6.2.2.2 j, if_pos (by omega)]; rfl, kp3.put p6 (Nat.le_refl _)⟩, by rw [p6.2.2, bh3, hh0]; simp⟩, fun fs hl => c8.trans (X8.areturnOut hexec rfl hret rfl (hb hbytes d58) hl)⟩
end Cmp3
namespace CodL
def yN : MethodName := ⟨"java/lang/StringUTF16", "coderFromArrayLen", "([BI)B"⟩
abbrev yB : ByteArray := jdk_52_method_15_code
theorem d0 : decode yB 0 = .ok (.iload_n 1, 1) := by decide +kernel
theorem d1 : decode yB 1 = .ok (.aload_n 0, 1) := by decide +kernel
theorem d2 : decode yB 2 = .ok (.arraylength, 1) := by decide +kernel
theorem d3 : decode yB 3 = .ok (.isub, 1) := by decide +kernel
theorem d4 : decode yB 4 = .ok (.bipush 31, 2) := by decide +kernel
theorem d6 : decode yB 6 = .ok (.iushr, 1) := by decide +kernel
theorem d7 : decode yB 7 = .ok (.i2b, 1) := by decide +kernel
theorem d8 : decode yB 8 = .ok (.ireturn, 1) := by decide +kernel
def site : List Cond := []
def tab : Cond := tabOf yN yB 2 (some .byte) site
def P (d : Addr) (B : Cell) (args : Array Value) (s : State) : Prop := args = #[.ref d, .int (Int32.ofNat B.slots.size)] ∧ Arr .byte d B s
def E (r : Option Value) (s u : State) : Prop := XT.PureE (some (.int 0)) r s u
/-- an array as long as the number of chars: LATIN1 -/
theorem law (l : Launch) (d : Addr) (B : Cell) : Law l yN 2 2 0 0 yB 2 (some .byte) site (P d B) E [] 0 0 := by
  refine Law.of_walk (plainFor_of_name (by decide +kernel)) (by decide +kernel) (by decide +kernel) (by decide) (fun _ _ h => by rw [h.1]; rfl) (fun _ U U' hal hh h => ⟨h.1, h.2.mv hal hh⟩) (fun r U U' V V' h1 hal h2 h => XT.PureE.mv r U U' V V' h1 hal h2 h) ?_
  intro p e s m args below meth c s₁ X0 hexec hbytes hml hret hlk hnm hown hh0 W hP
  obtain ⟨rfl, hB⟩ := hP
  have hB0 := hB.mv X0.warmed.alike hh0
  have c1 : Steps p.tables e below (s₁.setTop (entryFrame m #[.ref d, .int (Int32.ofNat B.slots.size)] 2)) (s₁.setTop (mkF m 0 #[.val (.ref d), .val (.int (Int32.ofNat B.slots.size))] [])) := entry rfl
  have c2 : Steps p.tables e below (s₁.setTop (entryFrame m #[.ref d, .int (Int32.ofNat B.slots.size)] 2)) (s₁.setTop (mkF m 2 #[.val (.ref d), .val (.int (Int32.ofNat B.slots.size))] [.ref d, .int (Int32.ofNat B.slots.size)])) := c1.trans (by
    refine XS.iloadN X0.here hexec rfl (hb hbytes d0) rfl ?_
    refine XS.aloadN X0.here hexec rfl (hb hbytes d1) rfl rfl ?_
    exact Steps.refl _)
  have c3 : Steps p.tables e below (s₁.setTop (entryFrame m #[.ref d, .int (Int32.ofNat B.slots.size)] 2)) (s₁.setTop (mkF m 8 #[.val (.ref d), .val (.int (Int32.ofNat B.slots.size))] [.int (lo8 (ushr (Int32.ofNat B.slots.size - Int32.ofNat B.slots.size) 31))])) := c2.trans (by
    refine X0.alen hexec hB0 rfl rfl (hb hbytes d2) ?_
    refine XS.isub X0.here hexec rfl (hb hbytes d3) rfl ?_
    refine bipushV X0.here hexec rfl 31 (hb hbytes d4) (by decide) ?_
    refine iushr X0.here hexec rfl (hb hbytes d6) rfl ?_
    refine i2b X0.here hexec rfl (hb hbytes d7) rfl ?_
    exact Steps.refl _)
  have e0 : lo8 (ushr (Int32.ofNat B.slots.size - Int32.ofNat B.slots.size) 31) = 0 := by rw [Int32.sub_self]; decide
  rw [e0] at c3
  exact ⟨s₁, some (.int 0), _, _, _, X0, rfl, rfl, rfl, (fun h => by cases h), ⟨rfl, hh0⟩, fun fs hl => c3.trans (X0.ireturnOut hexec hret rfl (Or.inr (Or.inr (Or.inl rfl))) (hb hbytes d8) hl)⟩
end CodL
/-- the String at a is Latin-1 over a new byte[] (the heap's one new cell): the low bytes of the len chars of A from o on; every cell but a is kept -/
def Got (a : Addr) (D : Cell) (fV fC : Field) (A : Cell) (o len : Nat) (r : Option Value) (s u : State) : Prop := r = none ∧ ∃ D' V : Cell, Blank "java/lang/String" a D' u ∧ Same D D' [fV.slot, fC.slot] ∧ D'.slots[fV.slot]? = some (.ref s.heap.size) ∧ D'.slots[fC.slot]? = some (.int 0) ∧ Arr .byte s.heap.size V u ∧ V.vm = .none ∧ u.vm.findClass "[B" = some V.cls ∧ V.slots.size = len ∧ (∀ j, j < len → V.slots[j]? = some (.int (lo8 (cv A (o + j))))) ∧ (∀ (y : Addr) (c : Cell), y ≠ a → s.heap[y]? = some c → u.heap[y]? = some c) ∧ u.heap.size = s.heap.size + 1
theorem Got.mv {a : Addr} {D A : Cell} {fV fC : Field} {o len : Nat} : ∀ r (U U' V V' : State), U'.heap = U.heap → V.vm.Alike V'.vm → V'.heap = V.heap → Got a D fV fC A o len r U V → Got a D fV fC A o len r U' V' :=
  fun r U U' V V' h1 hal h2 ⟨e0, D', X, a1, a2, a3, a4, a5, a6, a7, a8, a9, a10, a11⟩ => ⟨e0, D', X, a1.mv hal h2, a2, by rw [h1]; exact a3, a4, by rw [h1]; exact a5.mv hal h2, a6, by rw [hal.findClass]; exact a7, a8, a9, by rw [h1, h2]; exact a10, by rw [h1, h2]; exact a11⟩
namespace New4
def yN : MethodName := ⟨"java/lang/String", "<init>", "([CIILjava/lang/Void;)V"⟩
abbrev yB : ByteArray := jdk_42_method_149_code
theorem d0 : decode yB 0 = .ok (.aload_n 0, 1) := by decide +kernel
theorem d1 : decode yB 1 = .ok (.invokespecial 1, 3) := by decide +kernel
theorem d4 : decode yB 4 = .ok (.iload_n 3, 1) := by decide +kernel
theorem d5 : decode yB 5 = .ok (.ifCond (.ne) 22, 3) := by decide +kernel
theorem d27 : decode yB 27 = .ok (.getstatic 38, 3) := by decide +kernel
theorem d30 : decode yB 30 = .ok (.ifCond (.eq) 28, 3) := by decide +kernel
theorem d33 : decode yB 33 = .ok (.aload_n 1, 1) := by decide +kernel
theorem d34 : decode yB 34 = .ok (.iload_n 2, 1) := by decide +kernel
theorem d35 : decode yB 35 = .ok (.iload_n 3, 1) := by decide +kernel
theorem d36 : decode yB 36 = .ok (.invokestatic 177, 3) := by decide +kernel
theorem d39 : decode yB 39 = .ok (.astore 5, 2) := by decide +kernel
theorem d41 : decode yB 41 = .ok (.aload_n 0, 1) := by decide +kernel
theorem d42 : decode yB 42 = .ok (.aload 5, 2) := by decide +kernel
theorem d44 : decode yB 44 = .ok (.iload_n 3, 1) := by decide +kernel
theorem d45 : decode yB 45 = .ok (.invokestatic 47, 3) := by decide +kernel
theorem d48 : decode yB 48 = .ok (.putfield 15, 3) := by decide +kernel
theorem d51 : decode yB 51 = .ok (.aload_n 0, 1) := by decide +kernel
theorem d52 : decode yB 52 = .ok (.aload 5, 2) := by decide +kernel
theorem d54 : decode yB 54 = .ok (.putfield 9, 3) := by decide +kernel
theorem d57 : decode yB 57 = .ok (.return_, 1) := by decide +kernel
def site : List Cond := [.fieldLink "java/lang/String" 38 "java/lang/String" "COMPACT_STRINGS" "Z", Cmp3.tab, CodL.tab, .laysFinal "java/lang/String" "java/lang/String" "value" "[B", .fieldLink "java/lang/String" 9 "java/lang/String" "value" "[B", .laysFinal "java/lang/String" "java/lang/String" "coder" "B", .fieldLink "java/lang/String" 15 "java/lang/String" "coder" "B"] ++ objW "java/lang/String" 1 ++ staticW "java/lang/String" 177 Cmp3.yN ++ staticW "java/lang/String" 47 CodL.yN
def tab : Cond := tabOf yN yB 6 none site
def P (a : Addr) (D : Cell) (fV fC : Field) (b : Addr) (A : Cell) (z : Int32) (o len : Nat) (args : Array Value) (s : State) : Prop := args = #[.ref a, .ref b, .int (Int32.ofNat o), .int (Int32.ofNat len), .null] ∧ Blank "java/lang/String" a D s ∧ Found "java/lang/String" "value" "[B" fV s ∧ Found "java/lang/String" "coder" "B" fC s ∧ Ch b A s ∧ StaticIs s "java/lang/String" "COMPACT_STRINGS" "Z" (.int z) ∧ ¬ z = 0 ∧ 0 < len ∧ o + len ≤ A.slots.size ∧ len ≤ 536870912 ∧ ∀ i, i < len → ¬ 255 < cv A (o + i)
def E (a : Addr) (D : Cell) (fV fC : Field) (A : Cell) (o len : Nat) (r : Option Value) (s u : State) : Prop := Got a D fV fC A o len r s u
/-- len > 0, no char of the range above 255: a Latin-1 String of their low bytes -/
theorem law (l : Launch) (a : Addr) (D : Cell) (fV fC : Field) (b : Addr) (A : Cell) (z : Int32) (o len : Nat) : Law l yN 5 4 2 35 yB 6 none site (P a D fV fC b A z o len) (E a D fV fC A o len) [⟨a, fC.slot⟩, ⟨a, fV.slot⟩] 1 len := by
  refine Law.of_walk (plainFor_of_name (by decide +kernel)) (by decide +kernel) (by decide +kernel) (by decide) (fun _ _ h => by rw [h.1]; rfl) (fun _ U U' hal hh h => ⟨h.1, h.2.1.mv hal hh, h.2.2.1.al hal, h.2.2.2.1.al hal, h.2.2.2.2.1.mv hal hh, h.2.2.2.2.2.1.there hal hh, h.2.2.2.2.2.2⟩) (fun r U U' V V' h1 hal h2 h => Got.mv r U U' V V' h1 hal h2 h) ?_
  intro p e s m args below meth c s₁ X0 hexec hbytes hml hret hlk hnm hown hh0 W hP
  obtain ⟨rfl, hB, f1, f2, hA, s1, hz, l0, l1, l2, hp⟩ := hP
  have a31 := hA.1.2.2.2
  have c1 : Steps p.tables e below (s₁.setTop (entryFrame m #[.ref a, .ref b, .int (Int32.ofNat o), .int (Int32.ofNat len), .null] 6)) (s₁.setTop (mkF m 0 #[.val (.ref a), .val (.ref b), .val (.int (Int32.ofNat o)), .val (.int (Int32.ofNat len)), .val .null, .unset] [])) := entry rfl
  have c2 : Steps p.tables e below (s₁.setTop (entryFrame m #[.ref a, .ref b, .int (Int32.ofNat o), .int (Int32.ofNat len), .null] 6)) (s₁.setTop (mkF m 1 #[.val (.ref a), .val (.ref b), .val (.int (Int32.ofNat o)), .val (.int (Int32.ofNat len)), .val .null, .unset] [.ref a])) := c1.trans (by
    refine XS.aloadN X0.here hexec rfl (hb hbytes d0) rfl rfl ?_
    exact Steps.refl _)
  obtain ⟨T3, X3, q3, st3⟩ := X0.oinit hexec hown (wks W (objW "java/lang/String" 1)) (g := (mkF m 1 #[.val (.ref a), .val (.ref b), .val (.int (Int32.ofNat o)), .val (.int (Int32.ofNat len)), .val .null, .unset] [.ref a])) rfl (by rw [hml]; rfl) (rest := []) rfl (hb hbytes d1) (W := 0) (by show 2 * 0 + 0 ≤ _; decide) (Nat.le_of_ble_eq_true rfl) (Nat.le_of_ble_eq_true rfl)
  have hh3 := q3.trans hh0
  have c4 : Steps p.tables e below (s₁.setTop (entryFrame m #[.ref a, .ref b, .int (Int32.ofNat o), .int (Int32.ofNat len), .null] 6)) (T3.setTop (mkF m 27 #[.val (.ref a), .val (.ref b), .val (.int (Int32.ofNat o)), .val (.int (Int32.ofNat len)), .val .null, .unset] [])) := (c2.trans (st3 _ (Steps.refl _))).trans (by
    refine XS.iloadN X3.here hexec rfl (hb hbytes d4) rfl ?_
    refine XS.ifYes X3.here hexec rfl (pc0 := 5) rfl (hb hbytes d5) rfl (i0_ne_t (nz32 (by omega) l0)) (by decide) rfl ?_
    exact Steps.refl _)
  obtain ⟨T5, X5, q5, st5⟩ := X3.sget hexec hown (wk W (.fieldLink "java/lang/String" 38 "java/lang/String" "COMPACT_STRINGS" "Z")) s1 (fun _ _ h => by rw [hh3]; exact h) (g := (mkF m 27 #[.val (.ref a), .val (.ref b), .val (.int (Int32.ofNat o)), .val (.int (Int32.ofNat len)), .val .null, .unset] [])) rfl (hb hbytes d27)
  have hh5 := q5.trans hh3
  have c6 : Steps p.tables e below (s₁.setTop (entryFrame m #[.ref a, .ref b, .int (Int32.ofNat o), .int (Int32.ofNat len), .null] 6)) (T5.setTop (mkF m 30 #[.val (.ref a), .val (.ref b), .val (.int (Int32.ofNat o)), .val (.int (Int32.ofNat len)), .val .null, .unset] [.int z])) := c4.trans (st5 _ (Steps.refl _))
  have c7 : Steps p.tables e below (s₁.setTop (entryFrame m #[.ref a, .ref b, .int (Int32.ofNat o), .int (Int32.ofNat len), .null] 6)) (T5.setTop (mkF m 36 #[.val (.ref a), .val (.ref b), .val (.int (Int32.ofNat o)), .val (.int (Int32.ofNat len)), .val .null, .unset] [.int (Int32.ofNat len), .int (Int32.ofNat o), .ref b])) := c6.trans (by
    refine XS.ifNo X5.here hexec rfl (hb hbytes d30) rfl (i0_eq_f hz) ?_
    refine XS.aloadN X5.here hexec rfl (hb hbytes d33) rfl rfl ?_
    refine XS.iloadN X5.here hexec rfl (hb hbytes d34) rfl ?_
    refine XS.iloadN X5.here hexec rfl (hb hbytes d35) rfl ?_
    exact Steps.refl _)
  obtain ⟨v8, T8, X8, E8, g8⟩ := X5.callS hexec (Cmp3.law l b A o len) hown (wks W (staticW "java/lang/String" 177 Cmp3.yN)) (wk W Cmp3.tab) (W := 0) (Nat.le_of_ble_eq_true rfl) (Nat.le_of_ble_eq_true rfl) (Nat.le_refl _) (by show 0 + len ≤ len; omega) (g := (mkF m 36 #[.val (.ref a), .val (.ref b), .val (.int (Int32.ofNat o)), .val (.int (Int32.ofNat len)), .val .null, .unset] [.int (Int32.ofNat len), .int (Int32.ofNat o), .ref b])) rfl (by rw [hml]; rfl) c7 (argsL := [.ref b, .int (Int32.ofNat o), .int (Int32.ofNat len)]) (rest := []) rfl rfl (by show 2 * 0 + 0 ≤ _; decide) (hb hbytes d36) (⟨rfl, hA.mv X5.warmed.alike hh5, l1, l2, hp⟩)
  obtain ⟨e8, z8⟩ := E8
  obtain ⟨rfl, N, n1, n2, n3, n4, n5, n6⟩ := NewArr.mv _ T5 s _ _ hh5.symm (Vm.Alike.refl _) rfl e8
  rw [hh5] at z8
  have hB1 := hB.keep X8.warmed.alike (n6 _ _ hB.1)
  have hne : s.heap.size ≠ a := (Nat.ne_of_lt (Array.getElem?_eq_some_iff.mp hB.1).1).symm
  have c9 : Steps p.tables e below (s₁.setTop (entryFrame m #[.ref a, .ref b, .int (Int32.ofNat o), .int (Int32.ofNat len), .null] 6)) (T8.setTop (mkF m 39 #[.val (.ref a), .val (.ref b), .val (.int (Int32.ofNat o)), .val (.int (Int32.ofNat len)), .val .null, .unset] [.ref s.heap.size])) := g8
  have c10 : Steps p.tables e below (s₁.setTop (entryFrame m #[.ref a, .ref b, .int (Int32.ofNat o), .int (Int32.ofNat len), .null] 6)) (T8.setTop (mkF m 45 #[.val (.ref a), .val (.ref b), .val (.int (Int32.ofNat o)), .val (.int (Int32.ofNat len)), .val .null, .val (.ref s.heap.size)] [.int (Int32.ofNat N.slots.size), .ref s.heap.size, .ref a])) := by
    have hc : Steps p.tables e below (s₁.setTop (entryFrame m #[.ref a, .ref b, .int (Int32.ofNat o), .int (Int32.ofNat len), .null] 6)) (T8.setTop (mkF m 45 #[.val (.ref a), .val (.ref b), .val (.int (Int32.ofNat o)), .val (.int (Int32.ofNat len)), .val .null, .val (.ref s.heap.size)] [.int (Int32.ofNat len), .ref s.heap.size, .ref a])) := c9.trans (by
      refine XS.astore X8.here hexec rfl (hb hbytes d39) rfl rfl rfl ?_
      refine XS.aloadN X8.here hexec rfl (hb hbytes d41) rfl rfl ?_
      refine XS.aload X8.here hexec rfl (hb hbytes d42) rfl rfl ?_
      refine XS.iloadN X8.here hexec rfl (hb hbytes d44) rfl ?_
      exact Steps.refl _)
    rw [n4]; exact hc
  obtain ⟨v11, T11, X11, E11, g11⟩ := X8.callS hexec (CodL.law l s.heap.size N) hown (wks W (staticW "java/lang/String" 47 CodL.yN)) (wk W CodL.tab) (W := 1) (Nat.le_of_ble_eq_true rfl) (Nat.le_of_ble_eq_true rfl) (Nat.le_refl _) (by show 0 + len + 0 ≤ len; omega) (g := (mkF m 45 #[.val (.ref a), .val (.ref b), .val (.int (Int32.ofNat o)), .val (.int (Int32.ofNat len)), .val .null, .val (.ref s.heap.size)] [.int (Int32.ofNat N.slots.size), .ref s.heap.size, .ref a])) rfl (by rw [hml]; rfl) c10 (argsL := [.ref s.heap.size, .int (Int32.ofNat N.slots.size)]) (rest := [.ref a]) rfl rfl (by show 2 * 0 + (1 + 0) ≤ _; decide) (hb hbytes d45) (⟨rfl, n1⟩)
  obtain ⟨rfl, q11⟩ := E11
  have hB11 := hB1.mv (X8.warmed.alike.symm.trans X11.warmed.alike) q11
  have c12 : Steps p.tables e below (s₁.setTop (entryFrame m #[.ref a, .ref b, .int (Int32.ofNat o), .int (Int32.ofNat len), .null] 6)) (T11.setTop (mkF m 48 #[.val (.ref a), .val (.ref b), .val (.int (Int32.ofNat o)), .val (.int (Int32.ofNat len)), .val .null, .val (.ref s.heap.size)] [.int 0, .ref a])) := g11
  obtain ⟨T13, X13, p13, bl13, sl13, st13⟩ := X11.finit hexec hown (wk W (.fieldLink "java/lang/String" 15 "java/lang/String" "coder" "B")) (Or.inr ⟨_, (wk W (.laysFinal "java/lang/String" "java/lang/String" "coder" "B"))⟩) (Or.inl ⟨rfl, hnm⟩) f2 (Or.inl rfl) hB11 (t := .byte) (by decide +kernel) rfl (g := (mkF m 48 #[.val (.ref a), .val (.ref b), .val (.int (Int32.ofNat o)), .val (.int (Int32.ofNat len)), .val .null, .val (.ref s.heap.size)] [.int 0, .ref a])) rfl (rest := []) rfl (hb hbytes d48)
  have c14 : Steps p.tables e below (s₁.setTop (entryFrame m #[.ref a, .ref b, .int (Int32.ofNat o), .int (Int32.ofNat len), .null] 6)) (T13.setTop (mkF m 54 #[.val (.ref a), .val (.ref b), .val (.int (Int32.ofNat o)), .val (.int (Int32.ofNat len)), .val .null, .val (.ref s.heap.size)] [.ref s.heap.size, .ref a])) := (c12.trans (st13 _ (Steps.refl _))).trans (by
    refine XS.aloadN X13.here hexec rfl (hb hbytes d51) rfl rfl ?_
    refine XS.aload X13.here hexec rfl (hb hbytes d52) rfl rfl ?_
    exact Steps.refl _)
  obtain ⟨T15, X15, p15, bl15, sl15, st15⟩ := X13.finit hexec hown (wk W (.fieldLink "java/lang/String" 9 "java/lang/String" "value" "[B")) (Or.inr ⟨_, (wk W (.laysFinal "java/lang/String" "java/lang/String" "value" "[B"))⟩) (Or.inl ⟨rfl, hnm⟩) f1 (Or.inl rfl) bl13 (t := (.array .byte)) (by decide +kernel) rfl (g := (mkF m 54 #[.val (.ref a), .val (.ref b), .val (.int (Int32.ofNat o)), .val (.int (Int32.ofNat len)), .val .null, .val (.ref s.heap.size)] [.ref s.heap.size, .ref a])) rfl (rest := []) rfl (hb hbytes d54)
  have c16 : Steps p.tables e below (s₁.setTop (entryFrame m #[.ref a, .ref b, .int (Int32.ofNat o), .int (Int32.ofNat len), .null] 6)) (T15.setTop (mkF m 57 #[.val (.ref a), .val (.ref b), .val (.int (Int32.ofNat o)), .val (.int (Int32.ofNat len)), .val .null, .val (.ref s.heap.size)] [])) := c14.trans (st15 _ (Steps.refl _))
  have ap := apart (Or.inr ⟨_, (wk W (.laysFinal "java/lang/String" "java/lang/String" "value" "[B"))⟩) (Or.inr ⟨_, (wk W (.laysFinal "java/lang/String" "java/lang/String" "coder" "B"))⟩) f1 f2 (t₁ := .array .byte) (t₂ := .byte) (by decide +kernel) (by decide +kernel) (by decide)
  have al := X8.warmed.alike.symm.trans X15.warmed.alike
  have n7 : T11.heap[s.heap.size]? = some N := by rw [q11]; exact n1.1
  exact ⟨T15, none, _, _, _, X15, by simp, rfl, by omega, (fun _ => rfl), ⟨rfl, _, N, bl15, ((Same.refl D _).set _ (by simp)).set _ (by simp), sl15, (Cell.slots_setSlot_ne _ ap).trans sl13, n1.keep al (p15.other hne (p13.other hne n7)), n2, by rw [al.findClass]; exact n3, n4, n5, fun y c h1 h2 => p15.other h1 (p13.other h1 (by rw [q11]; exact n6 y c h2)), by rw [p15.2.2, p13.2.2, q11]; exact z8⟩, fun fs hl => c16.trans (X15.returnOut hexec hret (hb hbytes d57) hl)⟩
end New4
namespace New1
def yN : MethodName := ⟨"java/lang/String", "<init>", "([C)V"⟩
abbrev yB : ByteArray := jdk_42_method_3_code
theorem d0 : decode yB 0 = .ok (.aload_n 0, 1) := by decide +kernel
theorem d1 : decode yB 1 = .ok (.aload_n 1, 1) := by decide +kernel
theorem d2 : decode yB 2 = .ok (.iconst 0, 1) := by decide +kernel
theorem d3 : decode yB 3 = .ok (.aload_n 1, 1) := by decide +kernel
theorem d4 : decode yB 4 = .ok (.arraylength, 1) := by decide +kernel
theorem d5 : decode yB 5 = .ok (.aconst_null, 1) := by decide +kernel
theorem d6 : decode yB 6 = .ok (.invokespecial 27, 3) := by decide +kernel
theorem d9 : decode yB 9 = .ok (.return_, 1) := by decide +kernel
def site : List Cond := [New4.tab] ++ initW "java/lang/String" 27 New4.yN
def tab : Cond := tabOf yN yB 2 none site
def P (a : Addr) (D : Cell) (fV fC : Field) (b : Addr) (A : Cell) (z : Int32) (args : Array Value) (s : State) : Prop := args = #[.ref a, .ref b] ∧ Blank "java/lang/String" a D s ∧ Found "java/lang/String" "value" "[B" fV s ∧ Found "java/lang/String" "coder" "B" fC s ∧ Ch b A s ∧ StaticIs s "java/lang/String" "COMPACT_STRINGS" "Z" (.int z) ∧ ¬ z = 0 ∧ 0 < A.slots.size ∧ A.slots.size ≤ 536870912 ∧ ∀ i, i < A.slots.size → ¬ 255 < cv A i
def E (a : Addr) (D : Cell) (fV fC : Field) (A : Cell) (r : Option Value) (s u : State) : Prop := Got a D fV fC A 0 A.slots.size r s u
/-- new String(chars), not empty, no char above 255: a Latin-1 String of their low bytes -/
theorem law (l : Launch) (a : Addr) (D : Cell) (fV fC : Field) (b : Addr) (A : Cell) (z : Int32) : Law l yN 2 1 3 52 yB 2 none site (P a D fV fC b A z) (E a D fV fC A) [⟨a, fC.slot⟩, ⟨a, fV.slot⟩] 1 A.slots.size := by
  refine Law.of_walk (plainFor_of_name (by decide +kernel)) (by decide +kernel) (by decide +kernel) (by decide) (fun _ _ h => by rw [h.1]; rfl) (fun _ U U' hal hh h => ⟨h.1, h.2.1.mv hal hh, h.2.2.1.al hal, h.2.2.2.1.al hal, h.2.2.2.2.1.mv hal hh, h.2.2.2.2.2.1.there hal hh, h.2.2.2.2.2.2⟩) (fun r U U' V V' h1 hal h2 h => Got.mv r U U' V V' h1 hal h2 h) ?_
  intro p e s m args below meth c s₁ X0 hexec hbytes hml hret hlk hnm hown hh0 W hP
  obtain ⟨rfl, hB, f1, f2, hA, s1, hz, l0, l2, hp⟩ := hP
  have c1 : Steps p.tables e below (s₁.setTop (entryFrame m #[.ref a, .ref b] 2)) (s₁.setTop (mkF m 0 #[.val (.ref a), .val (.ref b)] [])) := entry rfl
  have c2 : Steps p.tables e below (s₁.setTop (entryFrame m #[.ref a, .ref b] 2)) (s₁.setTop (mkF m 6 #[.val (.ref a), .val (.ref b)] [.null, .int (Int32.ofNat A.slots.size), .int 0, .ref b, .ref a])) := c1.trans (by
    refine XS.aloadN X0.here hexec rfl (hb hbytes d0) rfl rfl ?_
    refine XS.aloadN X0.here hexec rfl (hb hbytes d1) rfl rfl ?_
    refine iconstV X0.here hexec rfl 0 (hb hbytes d2) (by decide) ?_
    refine XS.aloadN X0.here hexec rfl (hb hbytes d3) rfl rfl ?_
    refine X0.alen hexec (hA.1.mv X0.warmed.alike hh0) rfl rfl (hb hbytes d4) ?_
    refine XS.aconstNull X0.here hexec rfl (hb hbytes d5) ?_
    exact Steps.refl _)
  obtain ⟨v3, T3, X3, E3, g3⟩ := X0.callN hexec (New4.law l a D fV fC b A z 0 A.slots.size) rfl hown (wks W (initW "java/lang/String" 27 New4.yN)) (W New4.tab (by simp only [site, List.mem_cons, List.mem_append, true_or, or_true])) (W := 0) (Nat.le_of_ble_eq_true rfl) (Nat.le_of_ble_eq_true rfl) (Nat.le_refl _) (by show 0 + A.slots.size ≤ A.slots.size; omega) (g := (mkF m 6 #[.val (.ref a), .val (.ref b)] [.null, .int (Int32.ofNat A.slots.size), .int (Int32.ofNat 0), .ref b, .ref a])) rfl (by rw [hml]; rfl) c2 (argsL := [.ref b, .int (Int32.ofNat 0), .int (Int32.ofNat A.slots.size), .null]) (rest := []) rfl rfl (by show 2 * 0 + 0 ≤ _; decide) (hb hbytes d6) (⟨rfl, hB.mv X0.warmed.alike hh0, f1.al X0.warmed.alike, f2.al X0.warmed.alike, hA.mv X0.warmed.alike hh0, s1.there X0.warmed.alike hh0, hz, l0, by omega, l2, fun i hi => by rw [Nat.zero_add]; exact hp i hi⟩)
  have e0 := Got.mv _ s₁ s _ _ hh0.symm (Vm.Alike.refl _) rfl E3
  obtain rfl := e0.1
  have c4 : Steps p.tables e below (s₁.setTop (entryFrame m #[.ref a, .ref b] 2)) (T3.setTop (mkF m 9 #[.val (.ref a), .val (.ref b)] [])) := g3
  exact ⟨T3, none, _, _, _, X3, by simp, rfl, by omega, (fun _ => rfl), e0, fun fs hl => c4.trans (X3.returnOut hexec hret (hb hbytes d9) hl)⟩
theorem pays {l : Launch} {R : Room} {p : Program} {e : Env} {below : List Frame} {s : State} {sargs : Array Value} {len W : Nat} (a : Addr) (D : Cell) (fV fC : Field) (b : Addr) (A : Cell) (z : Int32) (htab : tab.before sargs s = true) (hfr : 4 ≤ R.frames) (hlo : W + 65 ≤ R.locals) :
    Back l R p e below s sargs yN len W (fun A₁ a₁ => A₁.cells + 1 ≤ R.cells ∧ A₁.slots + A.slots.size ≤ R.slots ∧ P a D fV fC b A z a₁ A₁.U) (fun A₁ _ v₁ B₁ => E a D fV fC A v₁ A₁.U B₁.U ∧ B₁.locs = A₁.locs ++ [⟨a, fC.slot⟩, ⟨a, fV.slot⟩] ∧ B₁.cells = A₁.cells + 1 ∧ B₁.slots = A₁.slots + A.slots.size) :=
  (law l a D fV fC b A z).pays htab hfr (by omega)
end New1
end StrChars
namespace StrChars.Road
open Jvm Sem ClassFile Op Lib Jvm.Stand Jvm.Free Jvm.Free.XT
open Jvm.Lib.Cold (StaticIs)
abbrev ST : String := "java/lang/String"
/-- every table word that New1's law asks, flat -/
abbrev words : List Jvm.Cond := [.code New1.yN New1.yB 2 none, .initialized ST, .methodLink ST 27 New4.yN, .instanceMethod New4.yN,
  .code New4.yN New4.yB 6 none, .fieldLink ST 38 ST "COMPACT_STRINGS" "Z", .laysFinal ST ST "value" "[B", .fieldLink ST 9 ST "value" "[B", .laysFinal ST ST "coder" "B", .fieldLink ST 15 ST "coder" "B",
  .methodLink ST 1 Lib.objectInit, .instanceMethod Lib.objectInit, .code Lib.objectInit ⟨#[0xb1]⟩ 1 none, .methodLink ST 177 Cmp3.yN, .static Cmp3.yN, .methodLink ST 47 CodL.yN, .static CodL.yN,
  .code Cmp3.yN Cmp3.yB 6 (some (.array .byte)), .initialized U16, .arrayClass .byte, .methodLink U16 115 Cmp5.yN, .static Cmp5.yN, .code Cmp5.yN Cmp5.yB 7 (some .int), .code CodL.yN CodL.yB 2 (some .byte)]
theorem tab_of {a : Array Value} {s : State} (h : ∀ w ∈ words, w.before a s = true) : New1.tab.before a s = true := by
  have h5 : Cmp5.tab.before a s = true := unparts (wk h (.code Cmp5.yN Cmp5.yB 7 (some .int))) (wks h (.initialized Cmp5.yN.cls :: Cmp5.site))
  have hc : CodL.tab.before a s = true := unparts (wk h (.code CodL.yN CodL.yB 2 (some .byte))) (wks h (.initialized CodL.yN.cls :: CodL.site))
  have q5 : ∀ w ∈ Cmp5.tab :: words, w.before a s = true := fun w hw => (List.mem_cons.mp hw).elim (fun e => e ▸ h5) (h w)
  have h3 : Cmp3.tab.before a s = true := unparts (wk q5 (.code Cmp3.yN Cmp3.yB 6 (some (.array .byte)))) (wks q5 (.initialized Cmp3.yN.cls :: Cmp3.site))
  have q3 : ∀ w ∈ Cmp3.tab :: CodL.tab :: words, w.before a s = true := fun w hw => (List.mem_cons.mp hw).elim (fun e => e ▸ h3) fun hw => (List.mem_cons.mp hw).elim (fun e => e ▸ hc) (h w)
  have h4 : New4.tab.before a s = true := unparts (wk q3 (.code New4.yN New4.yB 6 none)) (wks q3 (.initialized New4.yN.cls :: New4.site))
  have q4 : ∀ w ∈ New4.tab :: words, w.before a s = true := fun w hw => (List.mem_cons.mp hw).elim (fun e => e ▸ h4) (h w)
  exact unparts (wk q4 (.code New1.yN New1.yB 2 none)) (wks q4 (.initialized New1.yN.cls :: New1.site))
/-- the words ride from the start Z to the walk's own state -/
theorem moved {Z s : State} {a0 args : Array Value} (hZ : Z.Warmed39 s.vm) (hw : ∀ d ∈ words, d.before a0 Z = true) : ∀ d ∈ words, d.before args s = true := fun d hd => by
  have q := hw d hd
  have t : ∀ d ∈ words, d = .arrayClass .byte ∨ (d.onTables && d.keepsFace) = true := by decide +kernel
  rcases t d hd with rfl | t
  · exact RoadKit.mvA hZ q
  · exact RoadKit.mv hZ q t
/-- WHAT COMES BACK, over the tables of the start Z: h the heap at the call, h' behind it -/
def Q (Z : State) (x : Addr) (A : Cell) (h : Heap) (v : Option Value) (h' : Heap) (L : List Loc) : Prop := v = none ∧ (∀ y ∈ L, y.base = x) ∧ RoadKit.Keep h h' [x] ∧ h'.size = h.size + 1 ∧ RoadKit.Exa Z h' x ST ∧ RoadKit.Fld Z h' x ST "value" "[B" (.ref h.size) ∧ RoadKit.Fld Z h' x ST "coder" "B" (.int 0) ∧
  (∃ V : Cell, RoadKit.Arr Z h' h.size V .byte ∧ V.vm = .none ∧ Z.vm.findClass "[B" = some V.cls ∧ V.slots.size = A.slots.size ∧ ∀ j, j < A.slots.size → V.slots[j]? = some (.int (lo8 (cv A j)))) ∧
  ∀ (O n d : String) (w : Value), RoadKit.Fld Z h x O n d w → RoadKit.slotOf Z O n d ≠ RoadKit.slotOf Z ST "value" "[B" → RoadKit.slotOf Z O n d ≠ RoadKit.slotOf Z ST "coder" "B" → RoadKit.Fld Z h' x O n d w
/-- **new String(chars) AT A CALL, IN THE ROAD'S FORM**: for specialBack behind newO: x the fresh String, b the char[] with the cell A -/
theorem back {p : Program} {l : Launch} {e : Env} {R : Room} {s : State} {args : Array Value} {below : List Frame} {len W : Nat} {Z : State} {a0 : Array Value} {h : Heap} (hZ : Z.Warmed39 s.vm) (hw : ∀ d ∈ words, d.before a0 Z = true) {kI : Nat} (wi : (Jvm.Cond.instantiable ST kI).before a0 Z = true)
    {x b : Addr} {A : Cell} {z : Int32} {v0 c0 : Value} (E : RoadKit.Exa Z h x ST) (V : RoadKit.Fld Z h x ST "value" "[B" v0) (C : RoadKit.Fld Z h x ST "coder" "B" c0) (K : RoadKit.Arr Z h b A .char) (hty : Typed .char A) (S : RoadKit.Sta Z h ST "COMPACT_STRINGS" "Z" (.int z)) (hz : ¬ z = 0)
    (l0 : 0 < A.slots.size) (l2 : A.slots.size ≤ 536870912) (hp : ∀ i, i < A.slots.size → ¬ 255 < cv A i) (hfr : 4 ≤ R.frames) (hlo : W + 65 ≤ R.locals) :
    Back l R p e below s args New1.yN len W (fun P a => a = #[.ref x, .ref b] ∧ P.U.heap = h ∧ P.cells + 1 ≤ R.cells ∧ P.slots + A.slots.size ≤ R.slots)
      (fun P _ v B => ∃ L, Q Z x A h v B.U.heap L ∧ B.locs = P.locs ++ L ∧ B.cells = P.cells + 1 ∧ B.slots = P.slots + A.slots.size) := by
  intro m meth c P g ig mk a X hg hsize hdg hW hn hp'
  obtain ⟨rfl, rfl, r1, r2⟩ := hp'
  have al : Z.vm.Alike P.U.vm := hZ.alike.trans X.warmed.alike
  obtain ⟨D, cfV, kV, iV, fV, hD, gV, stV, knV, obV, asV, slV⟩ := id V
  obtain ⟨D', cfC, kC, iC, fC, hD', gC, stC, -, -, asC, slC⟩ := id C
  cases hD.symm.trans hD'
  obtain ⟨D2, kD, e1, e2, e3, e4, e5⟩ := id E
  cases hD.symm.trans e1
  obtain ⟨c2, k2, i1, i2, i3, -⟩ := Cond.instantiable_spec wi
  cases e2.symm.trans i1
  cases e3.symm.trans i2
  obtain ⟨kU, u1, u2⟩ := al.2.2 _ _ e3
  have hB : Blank ST x D P.U := ⟨hD, ⟨knV, fun q hq => by rw [hq] at obV; cases obV⟩, by rw [al.findClass]; exact e2, kU, u1, by rw [u2]; exact i3, by rw [u2]; exact e5 i3⟩
  have F1 : Found ST "value" "[B" fV P.U := ⟨SBG.found_only al ⟨cfV, kV, iV, gV⟩, stV⟩
  have F2 : Found ST "coder" "B" fC P.U := ⟨SBG.found_only al ⟨cfC, kC, iC, gC⟩, stC⟩
  have hA : Ch b A P.U := ⟨⟨K.1, State.isArrayOf_alike al K.2.1, K.2.2, by omega⟩, hty⟩
  have hS : StaticIs P.U ST "COMPACT_STRINGS" "Z" (.int z) := by
    obtain ⟨cfS, iS, kS, fS, st, cS, t1, t2, t3, t4, t5, t6, t7⟩ := S
    exact StaticIs.there (s := { Z with heap := P.U.heap }) ⟨cfS, iS, kS, fS, st, cS, t1, t2, t3, t4, t5, (fun q => by rw [q] at t6; cases t6), t7⟩ al rfl
  obtain ⟨v, B, X', ⟨⟨hv, E', V', q1, q2, q3, q4, q5, q6, q7, q8, q9, q10, q11⟩, hl, hc, hs⟩, st⟩ := New1.pays x D fV fC b A z (tab_of (moved hZ hw)) hfr hlo m meth c P g ig mk _ X hg hsize hdg hW hn ⟨r1, r2, rfl, hB, F1, F2, hA, hS, hz, l0, l2, hp⟩
  have al' : Z.vm.Alike B.U.vm := hZ.alike.trans X'.warmed.alike
  have hsz : E'.slots.size = D.slots.size := by
    obtain ⟨-, -, -, kB, w1, w2, w3⟩ := q1
    obtain ⟨kB', y1, y2⟩ := al'.2.2 _ _ e3
    rw [q2.2.1] at w1
    cases w1.symm.trans y1
    rw [w3, e5 i3, y2]
  refine ⟨v, B, X', ⟨_, ⟨hv, ?_, ⟨by omega, fun y cy hy hn' => q10 y cy (by simpa using hn') hy, fun y cy hy => ?_⟩, q11, ⟨E', _, q1.1, by rw [q2.2.1]; exact e2, by rw [q2.2.1]; exact e3, by rw [q2.1]; exact obV, fun _ => by rw [hsz]; exact e5 i3⟩,
    ⟨E', cfV, kV, iV, fV, q1.1, gV, stV, by rw [q2.1]; exact knV, by rw [q2.1]; exact obV, by rw [q2.2.1]; exact asV, q3⟩, ⟨E', cfC, kC, iC, fC, q1.1, gC, stC, by rw [q2.1]; exact knV, by rw [q2.1]; exact obV, by rw [q2.2.1]; exact asC, q4⟩,
    ⟨V', ⟨q5.1, State.isArrayOf_alike al'.symm q5.2.1, q5.2.2.1⟩, q6, by rw [← al'.findClass]; exact q7, q8, fun j hj => by have := q9 j hj; rwa [Nat.zero_add] at this⟩, fun O n d w F n1 n2 => ?_⟩, hl, hc, hs⟩, st⟩
  · intro y hy
    simp only [List.mem_cons, List.not_mem_nil, or_false] at hy
    rcases hy with rfl | rfl <;> rfl
  · by_cases q : y = x
    · subst q
      cases hD.symm.trans hy
      exact ⟨E', q1.1, q2.2.1, q2.1, hsz⟩
    · exact ⟨cy, q10 y cy q hy, rfl, rfl, rfl⟩
  · obtain ⟨D3, cf, k, i, f, g1, g2, g3, g4, g5, g6, g7⟩ := F
    cases hD.symm.trans g1
    simp only [RoadKit.slotOf, g2, gV, gC, Option.map_some, Option.getD_some] at n1 n2
    exact ⟨E', cf, k, i, f, q1.1, g2, g3, by rw [q2.1]; exact g4, by rw [q2.1]; exact g5, by rw [q2.2.1]; exact g6, by rw [q2.2.2 f.slot (by simp [n1, n2])]; exact g7⟩
end StrChars.Road
namespace StrChars.Road
open Jvm Sem ClassFile Op Lib Jvm.Stand Jvm.Free Jvm.Free.XT
/-- WHAT COMES BACK, the byte[] as a list of values -/
def QA (Z : State) (x : Addr) (zn : Int32) (cs : List Int32) (h : Heap) (v : Option Value) (h' : Heap) (L : List Loc) : Prop := v = none ∧ (∀ y ∈ L, y.base = x) ∧ RoadKit.Keep h h' [x] ∧ h'.size = h.size + 1 ∧ RoadKit.Exa Z h' x ST ∧ RoadKit.Fld Z h' x ST "value" "[B" (.ref h.size) ∧ RoadKit.Fld Z h' x ST "coder" "B" (.int 0) ∧
  (∃ kb, Z.vm.findClass "[B" = some kb ∧ RoadKit.Arv Z h' h.size kb .byte zn (cs.map fun c => .int (lo8 c)) (.int 0)) ∧
  ∀ (O n d : String) (w : Value), RoadKit.Fld Z h x O n d w → RoadKit.slotOf Z O n d ≠ RoadKit.slotOf Z ST "value" "[B" → RoadKit.slotOf Z O n d ≠ RoadKit.slotOf Z ST "coder" "B" → RoadKit.Fld Z h' x O n d w
/-- **new String(chars) AT A CALL, THE ARRAYS AS LISTS**: the char[] at b holds cs, not empty, no char above 255 -/
theorem backArv {p : Program} {l : Launch} {e : Env} {R : Room} {s : State} {args : Array Value} {below : List Frame} {len W : Nat} {Z : State} {a0 : Array Value} {h : Heap} (hZ : Z.Warmed39 s.vm) (hw : ∀ d ∈ words, d.before a0 Z = true) {kI : Nat} (wi : (Jvm.Cond.instantiable ST kI).before a0 Z = true)
    {x b : Addr} {k : ClassId} {zn z : Int32} {cs : List Int32} {dv v0 c0 : Value} (E : RoadKit.Exa Z h x ST) (V : RoadKit.Fld Z h x ST "value" "[B" v0) (C : RoadKit.Fld Z h x ST "coder" "B" c0) (K : RoadKit.Arv Z h b k .char zn (cs.map Value.int) dv) (S : RoadKit.Sta Z h ST "COMPACT_STRINGS" "Z" (.int z)) (hz : ¬ z = 0)
    (hlen : zn.toNatClampNeg = cs.length) (h0 : 0 < cs.length) (hbig : cs.length ≤ 536870912) (hall : ∀ c ∈ cs, ¬ 255 < c) (hfr : 4 ≤ R.frames) (hlo : W + 65 ≤ R.locals) :
    Back l R p e below s args New1.yN len W (fun P a => a = #[.ref x, .ref b] ∧ P.U.heap = h ∧ P.cells + 1 ≤ R.cells ∧ P.slots + cs.length ≤ R.slots)
      (fun P _ v B => ∃ L, QA Z x zn cs h v B.U.heap L ∧ B.locs = P.locs ++ L ∧ B.cells = P.cells + 1 ∧ B.slots = P.slots + cs.length) := by
  obtain ⟨A, K1, K2, K3, K4, K5, K6⟩ := K
  have e : A.slots.size = cs.length := K3.trans hlen
  have hat : ∀ (i : Nat) (hi : i < cs.length), A.slots[i]? = some (.int cs[i]) := fun i hi => by rw [K5 i (by omega)]; simp [List.getD_eq_getElem?_getD, hi]
  have hcv : ∀ (i : Nat) (hi : i < cs.length), cv A i = cs[i] := fun i hi => by unfold cv; rw [hat i hi]
  have hty : Typed .char A := fun i v hv => by
    have hi : i < A.slots.size := (Array.getElem?_eq_some_iff.mp hv).1
    have q := K5 i hi
    rw [hv] at q
    rw [Option.some.inj q]
    exact K6 i hi
  refine Back.mono (back hZ hw wi E V C K1 hty S hz (by omega) (by omega) (fun i hi => by rw [hcv i (by omega)]; exact hall _ (List.getElem_mem _)) hfr hlo) (fun P a hp => ⟨hp.1, hp.2.1, hp.2.2.1, by rw [e]; exact hp.2.2.2⟩) (fun P a v B hp hq => ?_)
  obtain ⟨L, ⟨q1, q2, q3, q4, q5, q6, q7, ⟨V', v1, v2, v3, v4, v5⟩, q9⟩, hl, hc, hs⟩ := hq
  refine ⟨L, ⟨q1, q2, q3, q4, q5, q6, q7, ⟨V'.cls, v3, V', v1, rfl, by rw [v4, e, hlen], K4, fun i hi => ?_, fun i hi => ?_⟩, q9⟩, hl, hc, by rw [hs, e]⟩
  · have hi' : i < cs.length := by omega
    rw [v5 i (by omega), hcv i hi']; simp [List.getD_eq_getElem?_getD, hi']
  · have hi' : i < cs.length := by omega
    simp only [List.getD_eq_getElem?_getD, List.getElem?_map, List.getElem?_eq_getElem hi', Option.map_some, Option.getD_some]
    exact fits_lo8 _
end StrChars.Road
namespace StrChars.Road
open Jvm Sem ClassFile Op Lib Jvm.Stand Jvm.Free Jvm.Free.XT
/-- WHAT COMES BACK, in the writer's own shape -/
def QV (Z : State) (x : Addr) (N : Int32) (bs : List Int32) (h : Heap) (n0 : Nat) (v : Option Value) (h' : Heap) (L : List Loc) : Prop := v = none ∧ RoadKit.Fr n0 L ∧ RoadKit.Keep h h' [x] ∧ RoadKit.Exa Z h' x ST ∧ RoadKit.Fld Z h' x ST "coder" "B" (.int 0) ∧
  ∃ (t : Addr) (kb : ClassId), n0 ≤ t ∧ h.size ≤ t ∧ ¬ t = x ∧ RoadKit.Fld Z h' x ST "value" "[B" (.ref t) ∧ RoadKit.Arv Z h' t kb .byte N (bs.map Value.int) (.int 0)
/-- **new String(chars) AT A CALL, FOR THE WRITER**: a char[] of n known ints, each 0 to 255 -/
theorem backV {p : Program} {l : Launch} {e : Env} {R : Room} {s : State} {args : Array Value} {below : List Frame} {len W : Nat} {Z : State} {a0 : Array Value} {h : Heap} (hZ : Z.Warmed39 s.vm) (hw : ∀ d ∈ words, d.before a0 Z = true) {kI : Nat} (wi : (Jvm.Cond.instantiable ST kI).before a0 Z = true)
    {x b : Addr} {kC : ClassId} {cs bs : List Int32} {d v0 c0 : Value} {z N : Int32} {n n0 : Nat} (hx0 : n0 ≤ x) (hh0 : n0 ≤ h.size) (E : RoadKit.Exa Z h x ST) (V : RoadKit.Fld Z h x ST "value" "[B" v0) (C : RoadKit.Fld Z h x ST "coder" "B" c0) (K : RoadKit.Arv Z h b kC .char N (cs.map Value.int) d) (S : RoadKit.Sta Z h ST "COMPACT_STRINGS" "Z" (.int z)) (hz : ¬ z = 0)
    (hn : cs.length = n) (hN : N = Int32.ofNat n) (l0 : 0 < n) (l2 : n ≤ 4000) (hp : ∀ c ∈ cs, ¬ c < 0 ∧ ¬ (255 : Int32) < c) (hb : bs = cs.map (fun c => c.toInt8.toInt32)) (hfr : 4 ≤ R.frames) (hlo : W + 65 ≤ R.locals) :
    Back l R p e below s args (⟨"java/lang/String", "<init>", "([C)V"⟩ : MethodName) len W (fun P a => a = #[.ref x, .ref b] ∧ P.U.heap = h ∧ P.cells + 1 ≤ R.cells ∧ P.slots + n ≤ R.slots)
      (fun P _ v B => ∃ L, QV Z x N bs h n0 v B.U.heap L ∧ B.locs = P.locs ++ L ∧ B.cells = P.cells + 1 ∧ B.slots = P.slots + n) := by
  subst hn hN hb
  refine Back.mono (backArv hZ hw wi E V C K S hz (n32 (by omega)) l0 (by omega) (fun c hc => (hp c hc).2) hfr hlo) (fun P a hp => hp) (fun P a v B hp hq => ?_)
  obtain ⟨L, ⟨q1, q2, q3, q4, q5, q6, q7, ⟨kb, v1, v2⟩, q9⟩, hl, hc, hs⟩ := hq
  exact ⟨L, ⟨q1, fun y hy => by rw [q2 y hy]; exact hx0, q3, q5, q7, h.size, kb, hh0, Nat.le_refl _, Nat.ne_of_gt E.lt, q6, by rw [List.map_map]; exact v2⟩, hl, hc, hs⟩
end StrChars.Road
end Jvm.Pilot.@@N@@
namespace Jvm.Pilot.@@N@@
open Jvm Jvm.ClassFile Sem Op Lib Jvm.Free Jvm.Stand Jvm.LawKit Jvm.RoadKit Bundle Jvm.Pilot.@@N@@.Jvm.D
section OwnKit
variable {p : Program} {l : Launch} {e : Env} {R : Room} {s : State} {m : MethodId} {args : Array Value} {below : List Frame} {meth : Method} {c : Code} {T : State} {locs : List Loc} {cells slots : Nat} {Z : State} {h : Heap} {a : Addr} {k : ClassId} {n : Int32} {vs : List Value} {dv : Value}
/-- from S on the body's run ends as Qx says -/
def own_Ok (p : Program) (e : Env) (below : List Frame) (Qx : Outcome → State → Prop) (S : State) : Prop := ∃ s₂ o, Steps p.tables e below S s₂ ∧ s₂.status = .running ∧ Ended s₂ below o ∧ Qx o s₂
theorem own_st {Qx : Outcome → State → Prop} {S S' : State} (h : ∀ t, Steps p.tables e below S' t → Steps p.tables e below S t) (k : own_Ok p e below Qx S') : own_Ok p e below Qx S := by
  obtain ⟨s₂, o, h1, h2⟩ := k
  exact ⟨s₂, o, h s₂ h1, h2⟩
def own_Qx (s : State) (Q : Option Value → Heap → List Loc → Prop) (kc ks : Nat) : Outcome → State → Prop := fun o s₂ => ∃ v L, o = .returned v ∧ Q v s₂.heap L ∧ FrameEnd s o s₂ L kc ks
theorem own_out (X : Stand p l e R s m args below meth c T locs cells slots) (hlk : meth.locks = false) {Q : Option Value → Heap → List Loc → Prop} {kc ks : Nat} {g : JFrame} (v : Option Value) (hv : meth.sig.returnType = none → v = none)
    (hst : ∀ fs, (∀ (f : JFrame) (acts : List Action), f.method = m → f.locked = none → f.entered = [] → (doReturn e (T.setTop f) acts v).1 = T.setFrames fs) → Steps p.tables e below (T.setTop g) (T.setFrames fs))
    (hq : Q v T.heap locs) (hk : cells ≤ kc) (hn : slots ≤ ks) : own_Ok p e below (own_Qx s Q kc ks) (T.setTop g) := by
  obtain ⟨fs, hr, hrun, hended, hW, hsame⟩ := X.leave (v := v) hv hlk
  exact ⟨_, _, hst fs hr, hrun, hended, v, locs, rfl, hq, ⟨_, rfl⟩, hW, hsame.mono hk hn⟩
theorem own_retV (X : Stand p l e R s m args below meth c T locs cells slots) (hx : p.tables.exec = Jvm.exec) (hlk : meth.locks = false) {Q : Option Value → Heap → List Loc → Prop} {kc ks : Nat} {pc : Nat} {Ls : Array Slot} (hret : meth.sig.returnType = none) (hd : decode c.code pc = .ok (.return_, 1))
    (hq : Q none T.heap locs) (hk : cells ≤ kc) (hn : slots ≤ ks) : own_Ok p e below (own_Qx s Q kc ks) (T.setTop (mkF m pc Ls [])) :=
  own_out X hlk none (fun _ => rfl) (fun fs hr => X.returnOut hx hret hd hr) hq hk hn
theorem own_retI (X : Stand p l e R s m args below meth c T locs cells slots) (hx : p.tables.exec = Jvm.exec) (hlk : meth.locks = false) {Q : Option Value → Heap → List Loc → Prop} {kc ks : Nat} {pc : Nat} {Ls : Array Slot} {z : Int32} {rest : List Value} (hret : meth.sig.returnType = some .int) (hd : decode c.code pc = .ok (.ireturn, 1))
    (hq : Q (some (.int z)) T.heap locs) (hk : cells ≤ kc) (hn : slots ≤ ks) : own_Ok p e below (own_Qx s Q kc ks) (T.setTop (mkF m pc Ls (.int z :: rest))) :=
  own_out X hlk _ (fun h => by rw [hret] at h; cases h) (fun fs hr => retOut X hx (i := .ireturn) hret rfl (Or.inl ⟨rfl, Or.inl rfl, _, rfl⟩) hd hr) hq hk hn
theorem own_retN (X : Stand p l e R s m args below meth c T locs cells slots) (hx : p.tables.exec = Jvm.exec) (hlk : meth.locks = false) {Q : Option Value → Heap → List Loc → Prop} {kc ks : Nat} {pc : Nat} {Ls : Array Slot} {z : Int32} {t : FieldType} {rest : List Value} (hret : meth.sig.returnType = some t) (ht : t = .boolean ∨ t = .byte ∨ t = .char ∨ t = .short) (hd : decode c.code pc = .ok (.ireturn, 1))
    (hq : Q (some (.int (nar t z))) T.heap locs) (hk : cells ≤ kc) (hn : slots ≤ ks) : own_Ok p e below (own_Qx s Q kc ks) (T.setTop (mkF m pc Ls (.int z :: rest))) :=
  own_out X hlk _ (fun h => by rw [hret] at h; cases h) (fun fs hr => retN X hx hret ht hd hr) hq hk hn
theorem own_retJ (X : Stand p l e R s m args below meth c T locs cells slots) (hx : p.tables.exec = Jvm.exec) (hlk : meth.locks = false) {Q : Option Value → Heap → List Loc → Prop} {kc ks : Nat} {pc : Nat} {Ls : Array Slot} {z : Int64} {rest : List Value} (hret : meth.sig.returnType = some .long) (hd : decode c.code pc = .ok (.lreturn, 1))
    (hq : Q (some (.long z)) T.heap locs) (hk : cells ≤ kc) (hn : slots ≤ ks) : own_Ok p e below (own_Qx s Q kc ks) (T.setTop (mkF m pc Ls (.long z :: rest))) :=
  own_out X hlk _ (fun h => by rw [hret] at h; cases h) (fun fs hr => retOut X hx (i := .lreturn) hret rfl (Or.inr (Or.inl ⟨rfl, rfl, _, rfl⟩)) hd hr) hq hk hn
theorem own_narR {v : Value} {t : FieldType} (hv : v.isRef = true) (ht : t.isReference = true) : narrow t v = v := by
  cases t <;> first | (cases ht; done) | (cases v <;> first | rfl | (cases hv; done))
theorem own_fitsR {v : Value} {t : FieldType} (hv : v.isRef = true) (ht : t.isReference = true) : fits t v = true := by
  cases t <;> first | (cases ht; done) | (cases v <;> first | rfl | (cases hv; done))
theorem own_retA (X : Stand p l e R s m args below meth c T locs cells slots) (hx : p.tables.exec = Jvm.exec) (hlk : meth.locks = false) {Q : Option Value → Heap → List Loc → Prop} {kc ks : Nat} {pc : Nat} {Ls : Array Slot} {w : Value} {t : FieldType} {rest : List Value} (hw : w.isRef = true) (hret : meth.sig.returnType = some t) (ht : t.isReference = true) (hd : decode c.code pc = .ok (.areturn, 1))
    (hq : Q (some w) T.heap locs) (hk : cells ≤ kc) (hn : slots ≤ ks) : own_Ok p e below (own_Qx s Q kc ks) (T.setTop (mkF m pc Ls (w :: rest))) :=
  own_out X hlk _ (fun h => by rw [hret] at h; cases h) (fun fs hr => retOut X hx (i := .areturn) hret (own_narR hw ht) (Or.inr (Or.inr (Or.inr (Or.inr ⟨rfl, ht, hw⟩)))) hd hr) hq hk hn
theorem own_n0 {n0 : Nat} (O : Old Z n0 h) : n0 ≤ h.size := O.1 ▸ O.2.1
theorem own_len {ty : FieldType} (X : Stand p l e R s m args below meth c T locs cells slots) (hx : p.tables.exec = Jvm.exec) (hZ : Z.Warmed39 s.vm) (eT : T.heap = h) (A : Arv Z h a k ty n vs dv) {g : JFrame} (hg : g.method = m) {rest : List Value} (hs : g.stack = .ref a :: rest) (hd : decode c.code g.pc = .ok (.arraylength, 1)) (t : State)
    (hr : Steps p.tables e below (T.setTop { g with pc := g.pc + 1, stack := .int n :: rest }) t) : Steps p.tables e below (T.setTop g) t := by
  obtain ⟨cl, A1, -, S, h0, -⟩ := A
  exact X.arraylength hx (by rw [eT]; exact A1.1) (State.isArrayOf_alike hZ.alike A1.2.1) hg hs hd t (by rw [len_of S h0]; exact hr)
theorem own_ldC (X : Stand p l e R s m args below meth c T locs cells slots) (hx : p.tables.exec = Jvm.exec) (hZ : Z.Warmed39 s.vm) (eT : T.heap = h) (A : Arv Z h a k .char n vs dv) {j v : Int32} (h0 : ¬ j < 0) (h1 : j < n) (hv : vs.getD j.toNatClampNeg dv = .int v) {g : JFrame} (hg : g.method = m) {rest : List Value} (hs : g.stack = .int j :: .ref a :: rest) (hd : decode c.code g.pc = .ok (.caload, 1)) (t : State)
    (hr : Steps p.tables e below (T.setTop { g with pc := g.pc + 1, stack := .int v :: rest }) t) : Steps p.tables e below (T.setTop g) t := by
  obtain ⟨cl, A1, -, S, -, H, -⟩ := A
  exact X.caload hx (by rw [eT]; exact A1.1) (State.isArrayOf_alike hZ.alike A1.2.1) A1.2.2 (inb_of S ⟨h0, h1⟩) (H.at (inb_of S ⟨h0, h1⟩) hv) hg hs hd t hr
theorem own_ldB (X : Stand p l e R s m args below meth c T locs cells slots) (hx : p.tables.exec = Jvm.exec) (hZ : Z.Warmed39 s.vm) (eT : T.heap = h) (A : Arv Z h a k .byte n vs dv) {j v : Int32} (h0 : ¬ j < 0) (h1 : j < n) (hv : vs.getD j.toNatClampNeg dv = .int v) {g : JFrame} (hg : g.method = m) {rest : List Value} (hs : g.stack = .int j :: .ref a :: rest) (hd : decode c.code g.pc = .ok (.baload, 1)) (t : State)
    (hr : Steps p.tables e below (T.setTop { g with pc := g.pc + 1, stack := .int v :: rest }) t) : Steps p.tables e below (T.setTop g) t := by
  obtain ⟨cl, A1, -, S, -, H, -⟩ := A
  exact X.baloadBytes hx (by rw [eT]; exact A1.1) (State.isArrayOf_alike hZ.alike A1.2.1) A1.2.2 (inb_of S ⟨h0, h1⟩) (H.at (inb_of S ⟨h0, h1⟩) hv) hg hs hd t hr
theorem own_ldI (X : Stand p l e R s m args below meth c T locs cells slots) (hx : p.tables.exec = Jvm.exec) (hZ : Z.Warmed39 s.vm) (eT : T.heap = h) (A : Arv Z h a k .int n vs dv) {j v : Int32} (h0 : ¬ j < 0) (h1 : j < n) (hv : vs.getD j.toNatClampNeg dv = .int v) {g : JFrame} (hg : g.method = m) {rest : List Value} (hs : g.stack = .int j :: .ref a :: rest) (hd : decode c.code g.pc = .ok (.iaload, 1)) (t : State)
    (hr : Steps p.tables e below (T.setTop { g with pc := g.pc + 1, stack := .int v :: rest }) t) : Steps p.tables e below (T.setTop g) t := by
  obtain ⟨cl, A1, -, S, -, H, -⟩ := A
  exact X.iaload hx (by rw [eT]; exact A1.1) (State.isArrayOf_alike hZ.alike A1.2.1) A1.2.2 (inb_of S ⟨h0, h1⟩) (H.at (inb_of S ⟨h0, h1⟩) hv) hg hs hd t hr
theorem own_ldJ (X : Stand p l e R s m args below meth c T locs cells slots) (hx : p.tables.exec = Jvm.exec) (hZ : Z.Warmed39 s.vm) (eT : T.heap = h) (A : Arv Z h a k .long n vs dv) {j : Int32} {v : Int64} (h0 : ¬ j < 0) (h1 : j < n) (hv : vs.getD j.toNatClampNeg dv = .long v) {g : JFrame} (hg : g.method = m) {rest : List Value} (hs : g.stack = .int j :: .ref a :: rest) (hd : decode c.code g.pc = .ok (.laload, 1)) (t : State)
    (hr : Steps p.tables e below (T.setTop { g with pc := g.pc + 1, stack := .long v :: rest }) t) : Steps p.tables e below (T.setTop g) t := by
  obtain ⟨cl, A1, -, S, -, H, -⟩ := A
  exact X.laload hx (by rw [eT]; exact A1.1) (State.isArrayOf_alike hZ.alike A1.2.1) A1.2.2 (inb_of S ⟨h0, h1⟩) (H.at (inb_of S ⟨h0, h1⟩) hv) hg hs hd t hr
theorem own_ldR {ty : FieldType} (X : Stand p l e R s m args below meth c T locs cells slots) (hx : p.tables.exec = Jvm.exec) (hZ : Z.Warmed39 s.vm) (eT : T.heap = h) (A : Arv Z h a k ty n vs dv) {j : Int32} {v : Value} (h0 : ¬ j < 0) (h1 : j < n) (hv : vs.getD j.toNatClampNeg dv = v) (hty : ty.isReference = true) {g : JFrame} (hg : g.method = m) {rest : List Value} (hs : g.stack = .int j :: .ref a :: rest) (hd : decode c.code g.pc = .ok (.aaload, 1)) (t : State)
    (hr : Steps p.tables e below (T.setTop { g with pc := g.pc + 1, stack := v :: rest }) t) : Steps p.tables e below (T.setTop g) t := by
  obtain ⟨cl, A1, -, S, -, H, -⟩ := A
  exact X.aaload hx (by rw [eT]; exact A1.1) (State.isArrayOf_alike hZ.alike A1.2.1) hty A1.2.2 (inb_of S ⟨h0, h1⟩) (H.at (inb_of S ⟨h0, h1⟩) hv) hg hs hd t hr
theorem own_stC (X : Stand p l e R s m args below meth c T locs cells slots) (hx : p.tables.exec = Jvm.exec) (hZ : Z.Warmed39 s.vm) (eT : T.heap = h) (A : Arv Z h a k .char n vs dv) {j x : Int32} (i : Nat) (hi : j.toNatClampNeg = i) (h0 : ¬ j < 0) (h1 : j < n) (h2 : i < vs.length) {g : JFrame} (hg : g.method = m) {rest : List Value} (hs : g.stack = .int x :: .int j :: .ref a :: rest) (hd : decode c.code g.pc = .ok (.castore, 1)) :
    ∃ T' h', Stand p l e R s m args below meth c T' (locs ++ [⟨a, j.toNatClampNeg⟩]) cells slots ∧ T'.heap = h' ∧ Wr h h' a j.toNatClampNeg (.int (nar .char x)) ∧ Arv Z h' a k .char n (vs.set i (.int (nar .char x))) dv ∧ ∀ target, Steps p.tables e below (T'.setTop { g with pc := g.pc + 1, stack := rest }) target → Steps p.tables e below (T.setTop g) target := by
  obtain ⟨cl, A1, q, S, hn, H, G⟩ := A
  obtain ⟨T', h', X', e', W', st⟩ := stC X hx hZ eT A1 (inb_of S ⟨h0, h1⟩) hg hs hd
  exact ⟨T', h', X', e', W', Arv.set A1 q S hn H G (fits_nar_char _) W' i hi h2, st⟩
theorem own_stB (X : Stand p l e R s m args below meth c T locs cells slots) (hx : p.tables.exec = Jvm.exec) (hZ : Z.Warmed39 s.vm) (eT : T.heap = h) (A : Arv Z h a k .byte n vs dv) {j x : Int32} (i : Nat) (hi : j.toNatClampNeg = i) (h0 : ¬ j < 0) (h1 : j < n) (h2 : i < vs.length) {g : JFrame} (hg : g.method = m) {rest : List Value} (hs : g.stack = .int x :: .int j :: .ref a :: rest) (hd : decode c.code g.pc = .ok (.bastore, 1)) :
    ∃ T' h', Stand p l e R s m args below meth c T' (locs ++ [⟨a, j.toNatClampNeg⟩]) cells slots ∧ T'.heap = h' ∧ Wr h h' a j.toNatClampNeg (.int (nar .byte x)) ∧ Arv Z h' a k .byte n (vs.set i (.int (nar .byte x))) dv ∧ ∀ target, Steps p.tables e below (T'.setTop { g with pc := g.pc + 1, stack := rest }) target → Steps p.tables e below (T.setTop g) target := by
  obtain ⟨cl, A1, q, S, hn, H, G⟩ := A
  obtain ⟨T', h', X', e', W', st⟩ := stB X hx hZ eT A1 (inb_of S ⟨h0, h1⟩) hg hs hd
  exact ⟨T', h', X', e', W', Arv.set A1 q S hn H G (fits_nar_byte _) W' i hi h2, st⟩
theorem own_stI (X : Stand p l e R s m args below meth c T locs cells slots) (hx : p.tables.exec = Jvm.exec) (hZ : Z.Warmed39 s.vm) (eT : T.heap = h) (A : Arv Z h a k .int n vs dv) {j x : Int32} (i : Nat) (hi : j.toNatClampNeg = i) (h0 : ¬ j < 0) (h1 : j < n) (h2 : i < vs.length) {g : JFrame} (hg : g.method = m) {rest : List Value} (hs : g.stack = .int x :: .int j :: .ref a :: rest) (hd : decode c.code g.pc = .ok (.iastore, 1)) :
    ∃ T' h', Stand p l e R s m args below meth c T' (locs ++ [⟨a, j.toNatClampNeg⟩]) cells slots ∧ T'.heap = h' ∧ Wr h h' a j.toNatClampNeg (.int x) ∧ Arv Z h' a k .int n (vs.set i (.int x)) dv ∧ ∀ target, Steps p.tables e below (T'.setTop { g with pc := g.pc + 1, stack := rest }) target → Steps p.tables e below (T.setTop g) target := by
  obtain ⟨cl, A1, q, S, hn, H, G⟩ := A
  obtain ⟨T', h', X', e', W', st⟩ := stI X hx hZ eT A1 (inb_of S ⟨h0, h1⟩) hg hs hd
  exact ⟨T', h', X', e', W', Arv.set A1 q S hn H G rfl W' i hi h2, st⟩
theorem own_stJ (X : Stand p l e R s m args below meth c T locs cells slots) (hx : p.tables.exec = Jvm.exec) (hZ : Z.Warmed39 s.vm) (eT : T.heap = h) (A : Arv Z h a k .long n vs dv) {j : Int32} {x : Int64} (i : Nat) (hi : j.toNatClampNeg = i) (h0 : ¬ j < 0) (h1 : j < n) (h2 : i < vs.length) {g : JFrame} (hg : g.method = m) {rest : List Value} (hs : g.stack = .long x :: .int j :: .ref a :: rest) (hd : decode c.code g.pc = .ok (.lastore, 1)) :
    ∃ T' h', Stand p l e R s m args below meth c T' (locs ++ [⟨a, j.toNatClampNeg⟩]) cells slots ∧ T'.heap = h' ∧ Wr h h' a j.toNatClampNeg (.long x) ∧ Arv Z h' a k .long n (vs.set i (.long x)) dv ∧ ∀ target, Steps p.tables e below (T'.setTop { g with pc := g.pc + 1, stack := rest }) target → Steps p.tables e below (T.setTop g) target := by
  obtain ⟨cl, A1, q, S, hn, H, G⟩ := A
  obtain ⟨T', h', X', e', W', st⟩ := stJ X hx hZ eT A1 (inb_of S ⟨h0, h1⟩) hg hs hd
  exact ⟨T', h', X', e', W', Arv.set A1 q S hn H G rfl W' i hi h2, st⟩
theorem own_stR {ty : FieldType} (X : Stand p l e R s m args below meth c T locs cells slots) (hx : p.tables.exec = Jvm.exec) (hZ : Z.Warmed39 s.vm) (eT : T.heap = h) (A : Arv Z h a k ty n vs dv) {j : Int32} {x : Value} (i : Nat) (hi : j.toNatClampNeg = i) (h0 : ¬ j < 0) (h1 : j < n) (h2 : i < vs.length) (hty : ty.isReference = true) (hxr : x.isRef = true) (hsto : ∀ cl : Cell, Arr Z h a cl ty → cl.cls = k → Sto Z h a x) {g : JFrame} (hg : g.method = m) {rest : List Value} (hs : g.stack = x :: .int j :: .ref a :: rest) (hd : decode c.code g.pc = .ok (.aastore, 1)) :
    ∃ T' h', Stand p l e R s m args below meth c T' (locs ++ [⟨a, j.toNatClampNeg⟩]) cells slots ∧ T'.heap = h' ∧ Wr h h' a j.toNatClampNeg x ∧ Arv Z h' a k ty n (vs.set i x) dv ∧ ∀ target, Steps p.tables e below (T'.setTop { g with pc := g.pc + 1, stack := rest }) target → Steps p.tables e below (T.setTop g) target := by
  obtain ⟨cl, A1, q, S, hn, H, G⟩ := A
  obtain ⟨T', h', X', e', W', st⟩ := stR X hx hZ eT A1 (inb_of S ⟨h0, h1⟩) hty (hsto cl A1 q) hg hs hd
  exact ⟨T', h', X', e', W', Arv.set A1 q S hn H G (own_fitsR hxr hty) W' i hi h2, st⟩
end OwnKit
theorem own_and127 (x : Int32) : ∃ k : Fin 128, x &&& 127 = Int32.ofNat k.val := by
  have h : (x &&& 127).toBitVec.toNat < 128 := by
    simp only [Int32.toBitVec_and, BitVec.toNat_and]
    exact Nat.lt_succ_of_le Nat.and_le_right
  refine ⟨⟨_, h⟩, ?_⟩
  apply Int32.toBitVec_inj.mp
  show _ = BitVec.ofNat 32 _
  rw [BitVec.ofNat_toNat]; simp
theorem own_hp (c : Int32) : ∀ z ∈ ([(nar .char ((c &&& (127 : Int32)).toUInt32.toUInt16.toUInt32.toInt32))] : List Int32), ¬ z < 0 ∧ ¬ (255 : Int32) < z := by
  intro z hz
  obtain rfl := List.mem_singleton.mp hz
  obtain ⟨k, hk⟩ := own_and127 c
  rw [hk]
  have t : ∀ k : Fin 128, ¬ nar .char ((Int32.ofNat k.val).toUInt32.toUInt16.toUInt32.toInt32) < 0 ∧ ¬ (255 : Int32) < nar .char ((Int32.ofNat k.val).toUInt32.toUInt16.toUInt32.toInt32) := by decide +kernel
  exact t k
theorem own_nneg (v : Int32) : ¬ (((v.toUInt32 >>> ((1 : Int32) &&& 31).toUInt32).toInt32) % (1048577 : Int32)) < (0 : Int32) := by
  have e : ((v.toUInt32 >>> ((1 : Int32) &&& 31).toUInt32).toInt32).toInt = (v.toUInt32.toNat / 2 : Nat) := by
    have h1 : (v.toUInt32 >>> ((1 : Int32) &&& 31).toUInt32).toNat = v.toUInt32.toNat / 2 := by
      rw [UInt32.toNat_shiftRight]
      have : (((1 : Int32) &&& 31).toUInt32.toNat % 32) = 1 := by decide
      rw [this, Nat.shiftRight_eq_div_pow]
    have h2 := v.toUInt32.toNat_lt
    show (v.toUInt32 >>> ((1 : Int32) &&& 31).toUInt32).toBitVec.toInt = _
    rw [BitVec.toInt_eq_toNat_cond]
    have h3 : (v.toUInt32 >>> ((1 : Int32) &&& 31).toUInt32).toBitVec.toNat = v.toUInt32.toNat / 2 := h1
    rw [h3]
    have : 2 * (v.toUInt32.toNat / 2) < 2 ^ 32 := by omega
    rw [if_pos this]
  have := (c_irem ((v.toUInt32 >>> ((1 : Int32) &&& 31).toUInt32).toInt32) (1048577 : Int32) 1048577 rfl).1 (by rw [e]; omega)
  rw [Int32.lt_iff_toInt_lt, this]
  have : (0 : Int32).toInt = 0 := rfl
  omega
theorem own_d8_0 : decode jdk_30_method_1_code 0 = .ok (.aload_n 0, 1) := by decide +kernel
theorem own_d8_1 : decode jdk_30_method_1_code 1 = .ok (.invokespecial 1, 3) := by decide +kernel
theorem own_d8_4 : decode jdk_30_method_1_code 4 = .ok (.return_, 1) := by decide +kernel
theorem own_ef_rm8 (m : MethodId) (a1 : Addr) : entryFrame m #[(.ref a1)] 1 = mkF m 0 #[.val (.ref a1)] [] := by first | (simp [entryFrame, mkF, argsToLocals, Value.category]; done) | rfl
def Q_rm8 (Z : State) (a1 : Addr) (h0 : Heap) (n0 : Nat) (v : Option Value) (h : Heap) (L : List Loc) : Prop := v = none ∧ Fr n0 L ∧ h = h0
theorem own_pn0 : plainName "java/lang/Record" = true := by first | (simp [plainName, overriddenIn]; done) | decide +kernel
set_option maxRecDepth 65536 in
set_option maxHeartbeats 40000000 in
theorem rm8 (l : Launch) (Z : State) (a0 : Array Value) (hw : ∀ d ∈ tables_1, d.before a0 Z = true) (ws : List Jvm.Cond) (a1 : Addr) (h0 : Heap) (n0 : Nat) (O0 : Old Z n0 h0) :
    MetFree l (⟨"java/lang/Record", "<init>", "()V"⟩ : MethodName) (head1 (Jvm.Cond.code (⟨"java/lang/Record", "<init>", "()V"⟩ : MethodName) jdk_30_method_1_code 1 none :: ws) ({ frames := 1, cells := 0, slots := 0, locals := 12 } : Room)) (fun a U => a = #[(.ref a1)] ∧ Z.Warmed39 U.vm ∧ U.heap = h0) (fun _ _ _ _ _ => True) (fun _ U o U' => ∃ v L, o = .returned v ∧ Q_rm8 Z a1 h0 n0 v U'.heap L ∧ FrameEnd U o U' L ({ frames := 1, cells := 0, slots := 0, locals := 12 } : Room).cells ({ frames := 1, cells := 0, slots := 0, locals := 12 } : Room).slots) := by
  refine MetFree.of_bodySF (plainFor_of_name own_pn0) hisR ?_
  intro p e s m args below meth c s₁ Bd hml0 hP hK
  obtain ⟨rfl, hZ, hh⟩ := hP
  have hx := Bd.exec
  have hby := Bd.bytes
  have hml : c.maxLocals = 1 := hml0
  have hown : s.vm.findClass "java/lang/Record" = some m.cls := findClass_of_methodNamed Bd.named
  have hnm := (name_of_methodNamed Bd.named Bd.method).1
  have hlk : meth.locks = false := Bd.notSynchronized
  have X0 : Stand p l e ({ frames := 1, cells := 0, slots := 0, locals := 12 } : Room) s m #[(.ref a1)] below meth c s₁ [] 0 0 := Stand.of_body Bd
  have e0 : s₁.heap = h0 := by rw [← hh, Bd.state]; rfl
  have N0 := Fr.nil n0
  suffices hgo : own_Ok p e below (own_Qx s (Q_rm8 Z a1 h0 n0) 0 0) (s₁.setTop (mkF m 0 #[.val (.ref a1)] [])) from by
    obtain ⟨s₂, o, h1, h2⟩ := hgo
    exact ⟨s₂, o, castTop (own_ef_rm8 m a1) h1, h2⟩
  show own_Ok p e below _ (s₁.setTop (mkF m 0 #[.val (.ref a1)] []))
  refine own_st (fun _ k => XS.aloadN X0.here hx rfl (hb hby own_d8_0) rfl rfl k) ?_
  show own_Ok p e below _ (s₁.setTop (mkF m 1 #[.val (.ref a1)] [(.ref a1)]))
  obtain ⟨T1, X1, e1, st1⟩ := initO X0 hx hZ hown (hw _ (List.mem_of_getElem? (i := 42) rfl)) (hw _ (List.mem_of_getElem? (i := 17) rfl)) (hw _ (List.mem_of_getElem? (i := 18) rfl)) e0 (g := (mkF m 1 #[.val (.ref a1)] [(.ref a1)])) rfl (by rw [hml]; rfl) rfl (hb hby own_d8_1) (by decide) (W := 0) (by show 2 * 0 + _ ≤ _; exact Nat.le_of_eq rfl) (by decide)
  refine own_st st1 ?_
  show own_Ok p e below _ (T1.setTop (mkF m 4 #[.val (.ref a1)] []))
  exact own_retV X1 hx hlk Bd.returns (hb hby own_d8_4) (by rw [e1]; exact ⟨rfl, N0, rfl⟩) (by decide) (by decide)
theorem own_d7_0 : decode prog_192_method_1_code 0 = .ok (.aload_n 0, 1) := by decide +kernel
theorem own_d7_1 : decode prog_192_method_1_code 1 = .ok (.invokespecial 3, 3) := by decide +kernel
theorem own_pd0 : parseMethodDescriptor "()V" = some ⟨[], none⟩ := by decide +kernel
theorem own_d7_4 : decode prog_192_method_1_code 4 = .ok (.aload_n 0, 1) := by decide +kernel
theorem own_d7_5 : decode prog_192_method_1_code 5 = .ok (.aload_n 1, 1) := by decide +kernel
theorem own_d7_6 : decode prog_192_method_1_code 6 = .ok (.putfield 9, 3) := by decide +kernel
theorem own_d7_9 : decode prog_192_method_1_code 9 = .ok (.aload_n 0, 1) := by decide +kernel
theorem own_d7_10 : decode prog_192_method_1_code 10 = .ok (.aload_n 2, 1) := by decide +kernel
theorem own_d7_11 : decode prog_192_method_1_code 11 = .ok (.putfield 15, 3) := by decide +kernel
theorem own_d7_14 : decode prog_192_method_1_code 14 = .ok (.aload_n 0, 1) := by decide +kernel
theorem own_d7_15 : decode prog_192_method_1_code 15 = .ok (.lload_n 3, 1) := by decide +kernel
theorem own_d7_16 : decode prog_192_method_1_code 16 = .ok (.putfield 19, 3) := by decide +kernel
theorem own_d7_19 : decode prog_192_method_1_code 19 = .ok (.aload_n 0, 1) := by decide +kernel
theorem own_d7_20 : decode prog_192_method_1_code 20 = .ok (.lload 5, 2) := by decide +kernel
theorem own_d7_22 : decode prog_192_method_1_code 22 = .ok (.putfield 23, 3) := by decide +kernel
theorem own_d7_25 : decode prog_192_method_1_code 25 = .ok (.aload_n 0, 1) := by decide +kernel
theorem own_d7_26 : decode prog_192_method_1_code 26 = .ok (.iload 7, 2) := by decide +kernel
theorem own_d7_28 : decode prog_192_method_1_code 28 = .ok (.putfield 26, 3) := by decide +kernel
theorem own_d7_31 : decode prog_192_method_1_code 31 = .ok (.aload_n 0, 1) := by decide +kernel
theorem own_d7_32 : decode prog_192_method_1_code 32 = .ok (.iload 8, 2) := by decide +kernel
theorem own_d7_34 : decode prog_192_method_1_code 34 = .ok (.putfield 30, 3) := by decide +kernel
theorem own_d7_37 : decode prog_192_method_1_code 37 = .ok (.return_, 1) := by decide +kernel
theorem own_ef_rm7 (m : MethodId) (a1 : Addr) (a2 : Addr) (a3 : Addr) (q4 : Int64) (q5 : Int64) (p6 : Int32) (p7 : Int32) : entryFrame m #[(.ref a1), (.ref a2), (.ref a3), (.long q4), (.long q5), (.int p6), (.int p7)] 9 = mkF m 0 #[.val (.ref a1), .val (.ref a2), .val (.ref a3), .val (.long q4), .second, .val (.long q5), .second, .val (.int p6), .val (.int p7)] [] := by first | (simp [entryFrame, mkF, argsToLocals, Value.category]; done) | rfl
def Q_rm7 (Z : State) (a1 : Addr) (a2 : Addr) (a3 : Addr) (q4 : Int64) (q5 : Int64) (p6 : Int32) (p7 : Int32) (h0 : Heap) (n0 : Nat) (v : Option Value) (h : Heap) (L : List Loc) : Prop := v = none ∧ Fr n0 L ∧ Keep h0 h [a1] ∧ Fld Z h a1 "com/example/shardlift/shardlift/node/Records$Record" "utf8" "[B" (.ref a3) ∧ Fld Z h a1 "com/example/shardlift/shardlift/node/Records$Record" "valueLength" "I" (.int p6)
theorem own_pn1 : plainName "com/example/shardlift/shardlift/node/Records$Record" = true := by first | (simp [plainName, overriddenIn]; done) | decide +kernel
set_option maxRecDepth 65536 in
set_option maxHeartbeats 40000000 in
theorem rm7 (l : Launch) (Z : State) (a0 : Array Value) (hw : ∀ d ∈ tables_1, d.before a0 Z = true) (ws : List Jvm.Cond) (a1 : Addr) (a2 : Addr) (a3 : Addr) (q4 : Int64) (q5 : Int64) (p6 : Int32) (p7 : Int32) (h0 : Heap) (n0 : Nat) (O0 : Old Z n0 h0) (E_a1 : Exa Z h0 a1 "com/example/shardlift/shardlift/node/Records$Record") (F_key : Fld Z h0 a1 "com/example/shardlift/shardlift/node/Records$Record" "key" "Ljava/lang/String;" .null) (F_utf8 : Fld Z h0 a1 "com/example/shardlift/shardlift/node/Records$Record" "utf8" "[B" .null) (F_token : Fld Z h0 a1 "com/example/shardlift/shardlift/node/Records$Record" "token" "J" (.long (0 : Int64))) (F_timestamp : Fld Z h0 a1 "com/example/shardlift/shardlift/node/Records$Record" "timestamp" "J" (.long (0 : Int64))) (F_valueLength : Fld Z h0 a1 "com/example/shardlift/shardlift/node/Records$Record" "valueLength" "I" (.int (0 : Int32))) (F_crc : Fld Z h0 a1 "com/example/shardlift/shardlift/node/Records$Record" "crc" "I" (.int (0 : Int32))) (g_a1 : n0 ≤ a1) :
    MetFree l (⟨"com/example/shardlift/shardlift/node/Records$Record", "<init>", "(Ljava/lang/String;[BJJII)V"⟩ : MethodName) (head1 (Jvm.Cond.code (⟨"com/example/shardlift/shardlift/node/Records$Record", "<init>", "(Ljava/lang/String;[BJJII)V"⟩ : MethodName) prog_192_method_1_code 9 none :: ws) ({ frames := 2, cells := 0, slots := 0, locals := 24 } : Room)) (fun a U => a = #[(.ref a1), (.ref a2), (.ref a3), (.long q4), (.long q5), (.int p6), (.int p7)] ∧ Z.Warmed39 U.vm ∧ U.heap = h0) (fun _ _ _ _ _ => True) (fun _ U o U' => ∃ v L, o = .returned v ∧ Q_rm7 Z a1 a2 a3 q4 q5 p6 p7 h0 n0 v U'.heap L ∧ FrameEnd U o U' L ({ frames := 2, cells := 0, slots := 0, locals := 24 } : Room).cells ({ frames := 2, cells := 0, slots := 0, locals := 24 } : Room).slots) := by
  refine MetFree.of_bodySF (plainFor_of_name own_pn1) hisR ?_
  intro p e s m args below meth c s₁ Bd hml0 hP hK
  obtain ⟨rfl, hZ, hh⟩ := hP
  have hx := Bd.exec
  have hby := Bd.bytes
  have hml : c.maxLocals = 9 := hml0
  have hown : s.vm.findClass "com/example/shardlift/shardlift/node/Records$Record" = some m.cls := findClass_of_methodNamed Bd.named
  have hnm := (name_of_methodNamed Bd.named Bd.method).1
  have hlk : meth.locks = false := Bd.notSynchronized
  have X0 : Stand p l e ({ frames := 2, cells := 0, slots := 0, locals := 24 } : Room) s m #[(.ref a1), (.ref a2), (.ref a3), (.long q4), (.long q5), (.int p6), (.int p7)] below meth c s₁ [] 0 0 := Stand.of_body Bd
  have e0 : s₁.heap = h0 := by rw [← hh, Bd.state]; rfl
  have N0 := Fr.nil n0
  suffices hgo : own_Ok p e below (own_Qx s (Q_rm7 Z a1 a2 a3 q4 q5 p6 p7 h0 n0) 0 0) (s₁.setTop (mkF m 0 #[.val (.ref a1), .val (.ref a2), .val (.ref a3), .val (.long q4), .second, .val (.long q5), .second, .val (.int p6), .val (.int p7)] [])) from by
    obtain ⟨s₂, o, h1, h2⟩ := hgo
    exact ⟨s₂, o, castTop (own_ef_rm7 m a1 a2 a3 q4 q5 p6 p7) h1, h2⟩
  show own_Ok p e below _ (s₁.setTop (mkF m 0 #[.val (.ref a1), .val (.ref a2), .val (.ref a3), .val (.long q4), .second, .val (.long q5), .second, .val (.int p6), .val (.int p7)] []))
  refine own_st (fun _ k => XS.aloadN X0.here hx rfl (hb hby own_d7_0) rfl rfl k) ?_
  show own_Ok p e below _ (s₁.setTop (mkF m 1 #[.val (.ref a1), .val (.ref a2), .val (.ref a3), .val (.long q4), .second, .val (.long q5), .second, .val (.int p6), .val (.int p7)] [(.ref a1)]))
  obtain ⟨_, _, ⟨T1, L1, k1, n1⟩, -, X1, ⟨Lc1, hQ1, l1, y1, z1⟩, st1⟩ := X0.specialBack hx (y := (⟨"java/lang/Record", "<init>", "()V"⟩ : MethodName)) rfl hown (mvT hZ (hw _ (List.mem_of_getElem? (i := 37) rfl))) (mvT hZ (hw _ (List.mem_of_getElem? (i := 38) rfl))) (mvT hZ (hw _ (List.mem_of_getElem? (i := 41) rfl))) (by decide) (backOf (W := 0) (rm8 l Z a0 hw [] a1 h0 n0 O0) hZ (hw _ (List.mem_of_getElem? (i := 41) rfl)) (hw _ (List.mem_of_getElem? (i := 40) rfl)) (by decide) (by decide)) (g := (mkF m 1 #[.val (.ref a1), .val (.ref a2), .val (.ref a3), .val (.long q4), .second, .val (.long q5), .second, .val (.int p6), .val (.int p7)] [(.ref a1)])) rfl (by rw [hml]; rfl) (Steps.refl _) (a := a1) (argsL := []) (rest := []) (lenOf own_pd0 rfl) rfl (by show 2 * 0 + _ ≤ _; exact Nat.le_of_eq rfl) (hb hby own_d7_1) (fun _ _ => ⟨rfl, e0, (by decide : 0 + 0 ≤ _), (by decide : 0 + 0 ≤ _)⟩)
  dsimp only [Pt.U, Pt.locs, Pt.cells, Pt.slots] at X1 l1 y1 z1 st1 hQ1
  subst l1 y1 z1
  obtain ⟨rfl, Nq1, e1⟩ := hQ1
  have N1 := Fr.app N0 Nq1
  refine own_st (fun _ k => st1.trans k) ?_
  show own_Ok p e below _ (T1.setTop (mkF m 4 #[.val (.ref a1), .val (.ref a2), .val (.ref a3), .val (.long q4), .second, .val (.long q5), .second, .val (.int p6), .val (.int p7)] []))
  refine own_st (fun _ k => XS.aloadN X1.here hx rfl (hb hby own_d7_4) rfl rfl k) ?_
  show own_Ok p e below _ (T1.setTop (mkF m 5 #[.val (.ref a1), .val (.ref a2), .val (.ref a3), .val (.long q4), .second, .val (.long q5), .second, .val (.int p6), .val (.int p7)] [(.ref a1)]))
  refine own_st (fun _ k => XS.aloadN X1.here hx rfl (hb hby own_d7_5) rfl rfl k) ?_
  show own_Ok p e below _ (T1.setTop (mkF m 6 #[.val (.ref a1), .val (.ref a2), .val (.ref a3), .val (.long q4), .second, .val (.long q5), .second, .val (.int p6), .val (.int p7)] [(.ref a2), (.ref a1)]))
  obtain ⟨T2, h2, X2, e2, W2, st2⟩ := putF X1 hx hZ hown (host := "") (Or.inl (hw _ (List.mem_of_getElem? (i := 43) rfl))) Via.refl e1 F_key E_a1 (Or.inr ⟨(hw _ (List.mem_of_getElem? (i := 44) rfl)), rfl, hnm⟩) (hw _ (List.mem_of_getElem? (i := 4) rfl)) (ty := (.object "java/lang/String")) (by decide) rfl rfl (g := (mkF m 6 #[.val (.ref a1), .val (.ref a2), .val (.ref a3), .val (.long q4), .second, .val (.long q5), .second, .val (.int p6), .val (.int p7)] [(.ref a2), (.ref a1)])) rfl rfl (hb hby own_d7_6)
  refine own_st st2 ?_
  have F2 := F_key.same W2
  have N2 := Fr.snoc X2 N1 g_a1
  show own_Ok p e below _ (T2.setTop (mkF m 9 #[.val (.ref a1), .val (.ref a2), .val (.ref a3), .val (.long q4), .second, .val (.long q5), .second, .val (.int p6), .val (.int p7)] []))
  refine own_st (fun _ k => XS.aloadN X2.here hx rfl (hb hby own_d7_9) rfl rfl k) ?_
  show own_Ok p e below _ (T2.setTop (mkF m 10 #[.val (.ref a1), .val (.ref a2), .val (.ref a3), .val (.long q4), .second, .val (.long q5), .second, .val (.int p6), .val (.int p7)] [(.ref a1)]))
  refine own_st (fun _ k => XS.aloadN X2.here hx rfl (hb hby own_d7_10) rfl rfl k) ?_
  show own_Ok p e below _ (T2.setTop (mkF m 11 #[.val (.ref a1), .val (.ref a2), .val (.ref a3), .val (.long q4), .second, .val (.long q5), .second, .val (.int p6), .val (.int p7)] [(.ref a3), (.ref a1)]))
  have f3 := E_a1.wr W2
  have f4 := F_utf8.other W2 (Or.inr (slot_ne (Or.inr (hw _ (List.mem_of_getElem? (i := 46) rfl))) (Or.inr (hw _ (List.mem_of_getElem? (i := 44) rfl))) (by decide) (t := (.array .byte)) (t' := (.object "java/lang/String")) (by decide) (by decide)))
  obtain ⟨T5, h5, X5, e5, W5, st5⟩ := putF X2 hx hZ hown (host := "") (Or.inl (hw _ (List.mem_of_getElem? (i := 45) rfl))) Via.refl e2 f4 f3 (Or.inr ⟨(hw _ (List.mem_of_getElem? (i := 46) rfl)), rfl, hnm⟩) (hw _ (List.mem_of_getElem? (i := 4) rfl)) (ty := (.array .byte)) (by decide) rfl rfl (g := (mkF m 11 #[.val (.ref a1), .val (.ref a2), .val (.ref a3), .val (.long q4), .second, .val (.long q5), .second, .val (.int p6), .val (.int p7)] [(.ref a3), (.ref a1)])) rfl rfl (hb hby own_d7_11)
  refine own_st st5 ?_
  have F5 := f4.same W5
  have N5 := Fr.snoc X5 N2 g_a1
  show own_Ok p e below _ (T5.setTop (mkF m 14 #[.val (.ref a1), .val (.ref a2), .val (.ref a3), .val (.long q4), .second, .val (.long q5), .second, .val (.int p6), .val (.int p7)] []))
  refine own_st (fun _ k => XS.aloadN X5.here hx rfl (hb hby own_d7_14) rfl rfl k) ?_
  show own_Ok p e below _ (T5.setTop (mkF m 15 #[.val (.ref a1), .val (.ref a2), .val (.ref a3), .val (.long q4), .second, .val (.long q5), .second, .val (.int p6), .val (.int p7)] [(.ref a1)]))
  refine own_st (fun _ k => XS.lloadN X5.here hx rfl (hb hby own_d7_15) rfl k) ?_
  show own_Ok p e below _ (T5.setTop (mkF m 16 #[.val (.ref a1), .val (.ref a2), .val (.ref a3), .val (.long q4), .second, .val (.long q5), .second, .val (.int p6), .val (.int p7)] [(.long q4), (.ref a1)]))
  have f6 := f3.wr W5
  have f7 := F_token.other W2 (Or.inr (slot_ne (Or.inr (hw _ (List.mem_of_getElem? (i := 48) rfl))) (Or.inr (hw _ (List.mem_of_getElem? (i := 44) rfl))) (by decide) (t := .long) (t' := (.object "java/lang/String")) (by decide) (by decide)))
  have f8 := f7.other W5 (Or.inr (slot_ne (Or.inr (hw _ (List.mem_of_getElem? (i := 48) rfl))) (Or.inr (hw _ (List.mem_of_getElem? (i := 46) rfl))) (by decide) (t := .long) (t' := (.array .byte)) (by decide) (by decide)))
  obtain ⟨T9, h9, X9, e9, W9, st9⟩ := putF X5 hx hZ hown (host := "") (Or.inl (hw _ (List.mem_of_getElem? (i := 47) rfl))) Via.refl e5 f8 f6 (Or.inr ⟨(hw _ (List.mem_of_getElem? (i := 48) rfl)), rfl, hnm⟩) (hw _ (List.mem_of_getElem? (i := 4) rfl)) (ty := .long) (by decide) rfl rfl (g := (mkF m 16 #[.val (.ref a1), .val (.ref a2), .val (.ref a3), .val (.long q4), .second, .val (.long q5), .second, .val (.int p6), .val (.int p7)] [(.long q4), (.ref a1)])) rfl rfl (hb hby own_d7_16)
  refine own_st st9 ?_
  have F9 := f8.same W9
  have N9 := Fr.snoc X9 N5 g_a1
  show own_Ok p e below _ (T9.setTop (mkF m 19 #[.val (.ref a1), .val (.ref a2), .val (.ref a3), .val (.long q4), .second, .val (.long q5), .second, .val (.int p6), .val (.int p7)] []))
  refine own_st (fun _ k => XS.aloadN X9.here hx rfl (hb hby own_d7_19) rfl rfl k) ?_
  show own_Ok p e below _ (T9.setTop (mkF m 20 #[.val (.ref a1), .val (.ref a2), .val (.ref a3), .val (.long q4), .second, .val (.long q5), .second, .val (.int p6), .val (.int p7)] [(.ref a1)]))
  refine own_st (fun _ k => XS.lload X9.here hx rfl (hb hby own_d7_20) rfl k) ?_
  show own_Ok p e below _ (T9.setTop (mkF m 22 #[.val (.ref a1), .val (.ref a2), .val (.ref a3), .val (.long q4), .second, .val (.long q5), .second, .val (.int p6), .val (.int p7)] [(.long q5), (.ref a1)]))
  have f10 := f6.wr W9
  have f11 := F_timestamp.other W2 (Or.inr (slot_ne (Or.inr (hw _ (List.mem_of_getElem? (i := 50) rfl))) (Or.inr (hw _ (List.mem_of_getElem? (i := 44) rfl))) (by decide) (t := .long) (t' := (.object "java/lang/String")) (by decide) (by decide)))
  have f12 := f11.other W5 (Or.inr (slot_ne (Or.inr (hw _ (List.mem_of_getElem? (i := 50) rfl))) (Or.inr (hw _ (List.mem_of_getElem? (i := 46) rfl))) (by decide) (t := .long) (t' := (.array .byte)) (by decide) (by decide)))
  have f13 := f12.other W9 (Or.inr (slot_ne (Or.inr (hw _ (List.mem_of_getElem? (i := 50) rfl))) (Or.inr (hw _ (List.mem_of_getElem? (i := 48) rfl))) (by decide) (t := .long) (t' := .long) (by decide) (by decide)))
  obtain ⟨T14, h14, X14, e14, W14, st14⟩ := putF X9 hx hZ hown (host := "") (Or.inl (hw _ (List.mem_of_getElem? (i := 49) rfl))) Via.refl e9 f13 f10 (Or.inr ⟨(hw _ (List.mem_of_getElem? (i := 50) rfl)), rfl, hnm⟩) (hw _ (List.mem_of_getElem? (i := 4) rfl)) (ty := .long) (by decide) rfl rfl (g := (mkF m 22 #[.val (.ref a1), .val (.ref a2), .val (.ref a3), .val (.long q4), .second, .val (.long q5), .second, .val (.int p6), .val (.int p7)] [(.long q5), (.ref a1)])) rfl rfl (hb hby own_d7_22)
  refine own_st st14 ?_
  have F14 := f13.same W14
  have N14 := Fr.snoc X14 N9 g_a1
  show own_Ok p e below _ (T14.setTop (mkF m 25 #[.val (.ref a1), .val (.ref a2), .val (.ref a3), .val (.long q4), .second, .val (.long q5), .second, .val (.int p6), .val (.int p7)] []))
  refine own_st (fun _ k => XS.aloadN X14.here hx rfl (hb hby own_d7_25) rfl rfl k) ?_
  show own_Ok p e below _ (T14.setTop (mkF m 26 #[.val (.ref a1), .val (.ref a2), .val (.ref a3), .val (.long q4), .second, .val (.long q5), .second, .val (.int p6), .val (.int p7)] [(.ref a1)]))
  refine own_st (fun _ k => XS.iload X14.here hx rfl (hb hby own_d7_26) rfl k) ?_
  show own_Ok p e below _ (T14.setTop (mkF m 28 #[.val (.ref a1), .val (.ref a2), .val (.ref a3), .val (.long q4), .second, .val (.long q5), .second, .val (.int p6), .val (.int p7)] [(.int p6), (.ref a1)]))
  have f15 := f10.wr W14
  have f16 := F_valueLength.other W2 (Or.inr (slot_ne (Or.inr (hw _ (List.mem_of_getElem? (i := 52) rfl))) (Or.inr (hw _ (List.mem_of_getElem? (i := 44) rfl))) (by decide) (t := .int) (t' := (.object "java/lang/String")) (by decide) (by decide)))
  have f17 := f16.other W5 (Or.inr (slot_ne (Or.inr (hw _ (List.mem_of_getElem? (i := 52) rfl))) (Or.inr (hw _ (List.mem_of_getElem? (i := 46) rfl))) (by decide) (t := .int) (t' := (.array .byte)) (by decide) (by decide)))
  have f18 := f17.other W9 (Or.inr (slot_ne (Or.inr (hw _ (List.mem_of_getElem? (i := 52) rfl))) (Or.inr (hw _ (List.mem_of_getElem? (i := 48) rfl))) (by decide) (t := .int) (t' := .long) (by decide) (by decide)))
  have f19 := f18.other W14 (Or.inr (slot_ne (Or.inr (hw _ (List.mem_of_getElem? (i := 52) rfl))) (Or.inr (hw _ (List.mem_of_getElem? (i := 50) rfl))) (by decide) (t := .int) (t' := .long) (by decide) (by decide)))
  obtain ⟨T20, h20, X20, e20, W20, st20⟩ := putF X14 hx hZ hown (host := "") (Or.inl (hw _ (List.mem_of_getElem? (i := 51) rfl))) Via.refl e14 f19 f15 (Or.inr ⟨(hw _ (List.mem_of_getElem? (i := 52) rfl)), rfl, hnm⟩) (hw _ (List.mem_of_getElem? (i := 4) rfl)) (ty := .int) (by decide) rfl rfl (g := (mkF m 28 #[.val (.ref a1), .val (.ref a2), .val (.ref a3), .val (.long q4), .second, .val (.long q5), .second, .val (.int p6), .val (.int p7)] [(.int p6), (.ref a1)])) rfl rfl (hb hby own_d7_28)
  refine own_st st20 ?_
  have F20 := f19.same W20
  have N20 := Fr.snoc X20 N14 g_a1
  show own_Ok p e below _ (T20.setTop (mkF m 31 #[.val (.ref a1), .val (.ref a2), .val (.ref a3), .val (.long q4), .second, .val (.long q5), .second, .val (.int p6), .val (.int p7)] []))
  refine own_st (fun _ k => XS.aloadN X20.here hx rfl (hb hby own_d7_31) rfl rfl k) ?_
  show own_Ok p e below _ (T20.setTop (mkF m 32 #[.val (.ref a1), .val (.ref a2), .val (.ref a3), .val (.long q4), .second, .val (.long q5), .second, .val (.int p6), .val (.int p7)] [(.ref a1)]))
  refine own_st (fun _ k => XS.iload X20.here hx rfl (hb hby own_d7_32) rfl k) ?_
  show own_Ok p e below _ (T20.setTop (mkF m 34 #[.val (.ref a1), .val (.ref a2), .val (.ref a3), .val (.long q4), .second, .val (.long q5), .second, .val (.int p6), .val (.int p7)] [(.int p7), (.ref a1)]))
  have f21 := f15.wr W20
  have f22 := F_crc.other W2 (Or.inr (slot_ne (Or.inr (hw _ (List.mem_of_getElem? (i := 54) rfl))) (Or.inr (hw _ (List.mem_of_getElem? (i := 44) rfl))) (by decide) (t := .int) (t' := (.object "java/lang/String")) (by decide) (by decide)))
  have f23 := f22.other W5 (Or.inr (slot_ne (Or.inr (hw _ (List.mem_of_getElem? (i := 54) rfl))) (Or.inr (hw _ (List.mem_of_getElem? (i := 46) rfl))) (by decide) (t := .int) (t' := (.array .byte)) (by decide) (by decide)))
  have f24 := f23.other W9 (Or.inr (slot_ne (Or.inr (hw _ (List.mem_of_getElem? (i := 54) rfl))) (Or.inr (hw _ (List.mem_of_getElem? (i := 48) rfl))) (by decide) (t := .int) (t' := .long) (by decide) (by decide)))
  have f25 := f24.other W14 (Or.inr (slot_ne (Or.inr (hw _ (List.mem_of_getElem? (i := 54) rfl))) (Or.inr (hw _ (List.mem_of_getElem? (i := 50) rfl))) (by decide) (t := .int) (t' := .long) (by decide) (by decide)))
  have f26 := f25.other W20 (Or.inr (slot_ne (Or.inr (hw _ (List.mem_of_getElem? (i := 54) rfl))) (Or.inr (hw _ (List.mem_of_getElem? (i := 52) rfl))) (by decide) (t := .int) (t' := .int) (by decide) (by decide)))
  obtain ⟨T27, h27, X27, e27, W27, st27⟩ := putF X20 hx hZ hown (host := "") (Or.inl (hw _ (List.mem_of_getElem? (i := 53) rfl))) Via.refl e20 f26 f21 (Or.inr ⟨(hw _ (List.mem_of_getElem? (i := 54) rfl)), rfl, hnm⟩) (hw _ (List.mem_of_getElem? (i := 4) rfl)) (ty := .int) (by decide) rfl rfl (g := (mkF m 34 #[.val (.ref a1), .val (.ref a2), .val (.ref a3), .val (.long q4), .second, .val (.long q5), .second, .val (.int p6), .val (.int p7)] [(.int p7), (.ref a1)])) rfl rfl (hb hby own_d7_34)
  refine own_st st27 ?_
  have F27 := f26.same W27
  have N27 := Fr.snoc X27 N20 g_a1
  show own_Ok p e below _ (T27.setTop (mkF m 37 #[.val (.ref a1), .val (.ref a2), .val (.ref a3), .val (.long q4), .second, .val (.long q5), .second, .val (.int p6), .val (.int p7)] []))
  have f28 := (Keep.refl h0 [a1]).wr W2 (Or.inl (by simp))
  have f29 := f28.wr W5 (Or.inl (by simp))
  have f30 := f29.wr W9 (Or.inl (by simp))
  have f31 := f30.wr W14 (Or.inl (by simp))
  have f32 := f31.wr W20 (Or.inl (by simp))
  have f33 := f32.wr W27 (Or.inl (by simp))
  have f34 := F5.other W9 (Or.inr (slot_ne (Or.inr (hw _ (List.mem_of_getElem? (i := 46) rfl))) (Or.inr (hw _ (List.mem_of_getElem? (i := 48) rfl))) (by decide) (t := (.array .byte)) (t' := .long) (by decide) (by decide)))
  have f35 := f34.other W14 (Or.inr (slot_ne (Or.inr (hw _ (List.mem_of_getElem? (i := 46) rfl))) (Or.inr (hw _ (List.mem_of_getElem? (i := 50) rfl))) (by decide) (t := (.array .byte)) (t' := .long) (by decide) (by decide)))
  have f36 := f35.other W20 (Or.inr (slot_ne (Or.inr (hw _ (List.mem_of_getElem? (i := 46) rfl))) (Or.inr (hw _ (List.mem_of_getElem? (i := 52) rfl))) (by decide) (t := (.array .byte)) (t' := .int) (by decide) (by decide)))
  have f37 := f36.other W27 (Or.inr (slot_ne (Or.inr (hw _ (List.mem_of_getElem? (i := 46) rfl))) (Or.inr (hw _ (List.mem_of_getElem? (i := 54) rfl))) (by decide) (t := (.array .byte)) (t' := .int) (by decide) (by decide)))
  have f38 := F20.other W27 (Or.inr (slot_ne (Or.inr (hw _ (List.mem_of_getElem? (i := 52) rfl))) (Or.inr (hw _ (List.mem_of_getElem? (i := 54) rfl))) (by decide) (t := .int) (t' := .int) (by decide) (by decide)))
  exact own_retV X27 hx hlk Bd.returns (hb hby own_d7_37) (by rw [e27]; exact ⟨rfl, N27, f33, f37, f38⟩) (by decide) (by decide)
theorem own_d9_0 : decode prog_192_method_4_code 0 = .ok (.aload_n 0, 1) := by decide +kernel
theorem own_d9_1 : decode prog_192_method_4_code 1 = .ok (.getfield 26, 3) := by decide +kernel
theorem own_d9_4 : decode prog_192_method_4_code 4 = .ok (.ifCond .ge 7, 3) := by decide +kernel
theorem own_d9_7 : decode prog_192_method_4_code 7 = .ok (.iconst 1, 1) := by decide +kernel
theorem own_d9_8 : decode prog_192_method_4_code 8 = .ok (.goto 4, 3) := by decide +kernel
theorem own_d9_12 : decode prog_192_method_4_code 12 = .ok (.ireturn, 1) := by decide +kernel
theorem own_d9_11 : decode prog_192_method_4_code 11 = .ok (.iconst 0, 1) := by decide +kernel
theorem own_ef_rm9 (m : MethodId) (a1 : Addr) : entryFrame m #[(.ref a1)] 1 = mkF m 0 #[.val (.ref a1)] [] := by first | (simp [entryFrame, mkF, argsToLocals, Value.category]; done) | rfl
def Q_rm9 (Z : State) (a1 : Addr) (pz : Int32) (h0 : Heap) (n0 : Nat) (v : Option Value) (h : Heap) (L : List Loc) : Prop := v = some (.int (if pz < (0 : Int32) then (1 : Int32) else (0 : Int32))) ∧ Fr n0 L ∧ h = h0
set_option maxRecDepth 65536 in
set_option maxHeartbeats 40000000 in
theorem rm9 (l : Launch) (Z : State) (a0 : Array Value) (hw : ∀ d ∈ tables_1, d.before a0 Z = true) (ws : List Jvm.Cond) (a1 : Addr) (pz : Int32) (h0 : Heap) (n0 : Nat) (O0 : Old Z n0 h0) (F1 : Fld Z h0 a1 "com/example/shardlift/shardlift/node/Records$Record" "valueLength" "I" (.int pz)) :
    MetFree l (⟨"com/example/shardlift/shardlift/node/Records$Record", "isDelete", "()Z"⟩ : MethodName) (head1 (Jvm.Cond.code (⟨"com/example/shardlift/shardlift/node/Records$Record", "isDelete", "()Z"⟩ : MethodName) prog_192_method_4_code 1 (some .boolean) :: ws) ({ frames := 0, cells := 0, slots := 0, locals := 0 } : Room)) (fun a U => a = #[(.ref a1)] ∧ Z.Warmed39 U.vm ∧ U.heap = h0) (fun _ _ _ _ _ => True) (fun _ U o U' => ∃ v L, o = .returned v ∧ Q_rm9 Z a1 pz h0 n0 v U'.heap L ∧ FrameEnd U o U' L ({ frames := 0, cells := 0, slots := 0, locals := 0 } : Room).cells ({ frames := 0, cells := 0, slots := 0, locals := 0 } : Room).slots) := by
  refine MetFree.of_bodySF (plainFor_of_name own_pn1) hisR ?_
  intro p e s m args below meth c s₁ Bd hml0 hP hK
  obtain ⟨rfl, hZ, hh⟩ := hP
  have hx := Bd.exec
  have hby := Bd.bytes
  have hml : c.maxLocals = 1 := hml0
  have hown : s.vm.findClass "com/example/shardlift/shardlift/node/Records$Record" = some m.cls := findClass_of_methodNamed Bd.named
  have hnm := (name_of_methodNamed Bd.named Bd.method).1
  have hlk : meth.locks = false := Bd.notSynchronized
  have X0 : Stand p l e ({ frames := 0, cells := 0, slots := 0, locals := 0 } : Room) s m #[(.ref a1)] below meth c s₁ [] 0 0 := Stand.of_body Bd
  have e0 : s₁.heap = h0 := by rw [← hh, Bd.state]; rfl
  have N0 := Fr.nil n0
  suffices hgo : own_Ok p e below (own_Qx s (Q_rm9 Z a1 pz h0 n0) 0 0) (s₁.setTop (mkF m 0 #[.val (.ref a1)] [])) from by
    obtain ⟨s₂, o, h1, h2⟩ := hgo
    exact ⟨s₂, o, castTop (own_ef_rm9 m a1) h1, h2⟩
  show own_Ok p e below _ (s₁.setTop (mkF m 0 #[.val (.ref a1)] []))
  refine own_st (fun _ k => XS.aloadN X0.here hx rfl (hb hby own_d9_0) rfl rfl k) ?_
  show own_Ok p e below _ (s₁.setTop (mkF m 1 #[.val (.ref a1)] [(.ref a1)]))
  obtain ⟨T1, X1, e1, st1⟩ := getF X0 hx hZ hown (host := "") (Or.inl (hw _ (List.mem_of_getElem? (i := 51) rfl))) Via.refl e0 F1 (g := (mkF m 1 #[.val (.ref a1)] [(.ref a1)])) rfl rfl (hb hby own_d9_1)
  refine own_st st1 ?_
  show own_Ok p e below _ (T1.setTop (mkF m 4 #[.val (.ref a1)] [(.int pz)]))
  by_cases c4_2 : pz < (0 : Int32)
  · skip
    refine own_st (fun _ k => XS.ifNo X1.here hx rfl (hb hby own_d9_4) rfl (XT.i0_ge_f c4_2) k) ?_
    show own_Ok p e below _ (T1.setTop (mkF m 7 #[.val (.ref a1)] []))
    refine own_st (fun _ k => XS.iconst X1.here hx rfl (hb hby own_d9_7) k) ?_
    show own_Ok p e below _ (T1.setTop (mkF m 8 #[.val (.ref a1)] [(.int (1 : Int32))]))
    refine own_st (fun _ k => XS.goto X1.here hx rfl (pc0 := 8) (pc' := 12) rfl (hb hby own_d9_8) (by decide) (by decide) k) ?_
    show own_Ok p e below _ (T1.setTop (mkF m 12 #[.val (.ref a1)] [(.int (1 : Int32))]))
    exact own_retN X1 hx hlk (t := .boolean) Bd.returns (by simp) (hb hby own_d9_12) (by rw [e1]; exact ⟨by rw [if_pos c4_2]; rfl, N0, rfl⟩) (by decide) (by decide)
  · skip
    refine own_st (fun _ k => XS.ifYes X1.here hx rfl (pc0 := 4) (pc' := 11) rfl (hb hby own_d9_4) rfl (XT.i0_ge_t c4_2) (by decide) (by decide) k) ?_
    show own_Ok p e below _ (T1.setTop (mkF m 11 #[.val (.ref a1)] []))
    refine own_st (fun _ k => XS.iconst X1.here hx rfl (hb hby own_d9_11) k) ?_
    show own_Ok p e below _ (T1.setTop (mkF m 12 #[.val (.ref a1)] [(.int (0 : Int32))]))
    exact own_retN X1 hx hlk (t := .boolean) Bd.returns (by simp) (hb hby own_d9_12) (by rw [e1]; exact ⟨by rw [if_neg c4_2]; rfl, N0, rfl⟩) (by decide) (by decide)
theorem own_d11_0 : decode jdk_29_method_65_code 0 = .ok (.iload_n 0, 1) := by decide +kernel
theorem own_d11_1 : decode jdk_29_method_65_code 1 = .ok (.iload_n 1, 1) := by decide +kernel
theorem own_d11_2 : decode jdk_29_method_65_code 2 = .ok (.if_icmp .lt 7, 3) := by decide +kernel
theorem own_d11_9 : decode jdk_29_method_65_code 9 = .ok (.iload_n 1, 1) := by decide +kernel
theorem own_d11_10 : decode jdk_29_method_65_code 10 = .ok (.ireturn, 1) := by decide +kernel
theorem own_d11_5 : decode jdk_29_method_65_code 5 = .ok (.iload_n 0, 1) := by decide +kernel
theorem own_d11_6 : decode jdk_29_method_65_code 6 = .ok (.goto 4, 3) := by decide +kernel
theorem own_ef_rm11 (m : MethodId) (p1 : Int32) (p2 : Int32) : entryFrame m #[(.int p1), (.int p2)] 2 = mkF m 0 #[.val (.int p1), .val (.int p2)] [] := by first | (simp [entryFrame, mkF, argsToLocals, Value.category]; done) | rfl
def Q_rm11 (Z : State) (p1 : Int32) (p2 : Int32) (h0 : Heap) (n0 : Nat) (v : Option Value) (h : Heap) (L : List Loc) : Prop := v = some (.int (if p1 < p2 then p2 else p1)) ∧ Fr n0 L ∧ h = h0
set_option maxRecDepth 65536 in
set_option maxHeartbeats 40000000 in
theorem rm11 (l : Launch) (Z : State) (a0 : Array Value) (hw : ∀ d ∈ tables_1, d.before a0 Z = true) (ws : List Jvm.Cond) (p1 : Int32) (p2 : Int32) (h0 : Heap) (n0 : Nat) (O0 : Old Z n0 h0) :
    MetFree l (⟨"java/lang/Math", "max", "(II)I"⟩ : MethodName) (head1 (Jvm.Cond.code (⟨"java/lang/Math", "max", "(II)I"⟩ : MethodName) jdk_29_method_65_code 2 (some .int) :: ws) ({ frames := 0, cells := 0, slots := 0, locals := 0 } : Room)) (fun a U => a = #[(.int p1), (.int p2)] ∧ Z.Warmed39 U.vm ∧ U.heap = h0) (fun _ _ _ _ _ => True) (fun _ U o U' => ∃ v L, o = .returned v ∧ Q_rm11 Z p1 p2 h0 n0 v U'.heap L ∧ FrameEnd U o U' L ({ frames := 0, cells := 0, slots := 0, locals := 0 } : Room).cells ({ frames := 0, cells := 0, slots := 0, locals := 0 } : Room).slots) := by
  refine MetFree.of_bodySF (Jvm.Free.JP.mathPlain rfl (by decide +kernel)) hisR ?_
  intro p e s m args below meth c s₁ Bd hml0 hP hK
  obtain ⟨rfl, hZ, hh⟩ := hP
  have hx := Bd.exec
  have hby := Bd.bytes
  have hml : c.maxLocals = 2 := hml0
  have hown : s.vm.findClass "java/lang/Math" = some m.cls := findClass_of_methodNamed Bd.named
  have hnm := (name_of_methodNamed Bd.named Bd.method).1
  have hlk : meth.locks = false := Bd.notSynchronized
  have X0 : Stand p l e ({ frames := 0, cells := 0, slots := 0, locals := 0 } : Room) s m #[(.int p1), (.int p2)] below meth c s₁ [] 0 0 := Stand.of_body Bd
  have e0 : s₁.heap = h0 := by rw [← hh, Bd.state]; rfl
  have N0 := Fr.nil n0
  suffices hgo : own_Ok p e below (own_Qx s (Q_rm11 Z p1 p2 h0 n0) 0 0) (s₁.setTop (mkF m 0 #[.val (.int p1), .val (.int p2)] [])) from by
    obtain ⟨s₂, o, h1, h2⟩ := hgo
    exact ⟨s₂, o, castTop (own_ef_rm11 m p1 p2) h1, h2⟩
  show own_Ok p e below _ (s₁.setTop (mkF m 0 #[.val (.int p1), .val (.int p2)] []))
  refine own_st (fun _ k => XS.iloadN X0.here hx rfl (hb hby own_d11_0) rfl k) ?_
  show own_Ok p e below _ (s₁.setTop (mkF m 1 #[.val (.int p1), .val (.int p2)] [(.int p1)]))
  refine own_st (fun _ k => XS.iloadN X0.here hx rfl (hb hby own_d11_1) rfl k) ?_
  show own_Ok p e below _ (s₁.setTop (mkF m 2 #[.val (.int p1), .val (.int p2)] [(.int p2), (.int p1)]))
  by_cases c2_1 : p1 < p2
  · skip
    refine own_st (fun _ k => XS.icmpYes X0.here hx rfl (pc0 := 2) (pc' := 9) rfl (hb hby own_d11_2) rfl (XT.ii_lt_t c2_1) (by decide) (by decide) k) ?_
    show own_Ok p e below _ (s₁.setTop (mkF m 9 #[.val (.int p1), .val (.int p2)] []))
    refine own_st (fun _ k => XS.iloadN X0.here hx rfl (hb hby own_d11_9) rfl k) ?_
    show own_Ok p e below _ (s₁.setTop (mkF m 10 #[.val (.int p1), .val (.int p2)] [(.int p2)]))
    exact own_retI X0 hx hlk Bd.returns (hb hby own_d11_10) (by rw [e0]; exact ⟨by rw [if_pos c2_1], N0, rfl⟩) (by decide) (by decide)
  · skip
    refine own_st (fun _ k => XS.icmpNo X0.here hx rfl (hb hby own_d11_2) rfl (XT.ii_lt_f c2_1) k) ?_
    show own_Ok p e below _ (s₁.setTop (mkF m 5 #[.val (.int p1), .val (.int p2)] []))
    refine own_st (fun _ k => XS.iloadN X0.here hx rfl (hb hby own_d11_5) rfl k) ?_
    show own_Ok p e below _ (s₁.setTop (mkF m 6 #[.val (.int p1), .val (.int p2)] [(.int p1)]))
    refine own_st (fun _ k => XS.goto X0.here hx rfl (pc0 := 6) (pc' := 10) rfl (hb hby own_d11_6) (by decide) (by decide) k) ?_
    show own_Ok p e below _ (s₁.setTop (mkF m 10 #[.val (.int p1), .val (.int p2)] [(.int p1)]))
    exact own_retI X0 hx hlk Bd.returns (hb hby own_d11_10) (by rw [e0]; exact ⟨by rw [if_neg c2_1], N0, rfl⟩) (by decide) (by decide)
theorem own_d10_0 : decode prog_192_method_3_code 0 = .ok (.bipush 20, 2) := by decide +kernel
theorem own_d10_2 : decode prog_192_method_3_code 2 = .ok (.aload_n 0, 1) := by decide +kernel
theorem own_d10_3 : decode prog_192_method_3_code 3 = .ok (.getfield 15, 3) := by decide +kernel
theorem own_d10_6 : decode prog_192_method_3_code 6 = .ok (.arraylength, 1) := by decide +kernel
theorem own_d10_7 : decode prog_192_method_3_code 7 = .ok (.iadd, 1) := by decide +kernel
theorem own_d10_8 : decode prog_192_method_3_code 8 = .ok (.aload_n 0, 1) := by decide +kernel
theorem own_d10_9 : decode prog_192_method_3_code 9 = .ok (.getfield 26, 3) := by decide +kernel
theorem own_d10_12 : decode prog_192_method_3_code 12 = .ok (.iconst 0, 1) := by decide +kernel
theorem own_d10_13 : decode prog_192_method_3_code 13 = .ok (.invokestatic 33, 3) := by decide +kernel
theorem own_pd1 : parseMethodDescriptor "(II)I" = some ⟨[.int, .int], some .int⟩ := by decide +kernel
theorem own_d10_16 : decode prog_192_method_3_code 16 = .ok (.iadd, 1) := by decide +kernel
theorem own_d10_17 : decode prog_192_method_3_code 17 = .ok (.ireturn, 1) := by decide +kernel
theorem own_ef_rm10 (m : MethodId) (a1 : Addr) : entryFrame m #[(.ref a1)] 1 = mkF m 0 #[.val (.ref a1)] [] := by first | (simp [entryFrame, mkF, argsToLocals, Value.category]; done) | rfl
def Q_rm10 (Z : State) (a1 : Addr) (a3 : Addr) (k3 : ClassId) (vs : List Value) (pz : Int32) (h0 : Heap) (n0 : Nat) (v : Option Value) (h : Heap) (L : List Loc) : Prop := v = some (.int ((21 : Int32) + (if pz < (0 : Int32) then (0 : Int32) else pz))) ∧ Fr n0 L ∧ h = h0
set_option maxRecDepth 65536 in
set_option maxHeartbeats 40000000 in
theorem rm10 (l : Launch) (Z : State) (a0 : Array Value) (hw : ∀ d ∈ tables_1, d.before a0 Z = true) (ws : List Jvm.Cond) (a1 : Addr) (a3 : Addr) (k3 : ClassId) (vs : List Value) (pz : Int32) (h0 : Heap) (n0 : Nat) (O0 : Old Z n0 h0) (F1 : Fld Z h0 a1 "com/example/shardlift/shardlift/node/Records$Record" "valueLength" "I" (.int pz)) (F2 : Fld Z h0 a1 "com/example/shardlift/shardlift/node/Records$Record" "utf8" "[B" (.ref a3)) (V3 : Arv Z h0 a3 k3 .byte (1 : Int32) vs (.int (0 : Int32))) :
    MetFree l (⟨"com/example/shardlift/shardlift/node/Records$Record", "length", "()I"⟩ : MethodName) (head1 (Jvm.Cond.code (⟨"com/example/shardlift/shardlift/node/Records$Record", "length", "()I"⟩ : MethodName) prog_192_method_3_code 1 (some .int) :: ws) ({ frames := 1, cells := 0, slots := 0, locals := 14 } : Room)) (fun a U => a = #[(.ref a1)] ∧ Z.Warmed39 U.vm ∧ U.heap = h0) (fun _ _ _ _ _ => True) (fun _ U o U' => ∃ v L, o = .returned v ∧ Q_rm10 Z a1 a3 k3 vs pz h0 n0 v U'.heap L ∧ FrameEnd U o U' L ({ frames := 1, cells := 0, slots := 0, locals := 14 } : Room).cells ({ frames := 1, cells := 0, slots := 0, locals := 14 } : Room).slots) := by
  refine MetFree.of_bodySF (plainFor_of_name own_pn1) hisR ?_
  intro p e s m args below meth c s₁ Bd hml0 hP hK
  obtain ⟨rfl, hZ, hh⟩ := hP
  have hx := Bd.exec
  have hby := Bd.bytes
  have hml : c.maxLocals = 1 := hml0
  have hown : s.vm.findClass "com/example/shardlift/shardlift/node/Records$Record" = some m.cls := findClass_of_methodNamed Bd.named
  have hnm := (name_of_methodNamed Bd.named Bd.method).1
  have hlk : meth.locks = false := Bd.notSynchronized
  have X0 : Stand p l e ({ frames := 1, cells := 0, slots := 0, locals := 14 } : Room) s m #[(.ref a1)] below meth c s₁ [] 0 0 := Stand.of_body Bd
  have e0 : s₁.heap = h0 := by rw [← hh, Bd.state]; rfl
  have N0 := Fr.nil n0
  suffices hgo : own_Ok p e below (own_Qx s (Q_rm10 Z a1 a3 k3 vs pz h0 n0) 0 0) (s₁.setTop (mkF m 0 #[.val (.ref a1)] [])) from by
    obtain ⟨s₂, o, h1, h2⟩ := hgo
    exact ⟨s₂, o, castTop (own_ef_rm10 m a1) h1, h2⟩
  show own_Ok p e below _ (s₁.setTop (mkF m 0 #[.val (.ref a1)] []))
  refine own_st (fun _ k => XS.bipush X0.here hx rfl (hb hby own_d10_0) k) ?_
  show own_Ok p e below _ (s₁.setTop (mkF m 2 #[.val (.ref a1)] [(.int (20 : Int32))]))
  refine own_st (fun _ k => XS.aloadN X0.here hx rfl (hb hby own_d10_2) rfl rfl k) ?_
  show own_Ok p e below _ (s₁.setTop (mkF m 3 #[.val (.ref a1)] [(.ref a1), (.int (20 : Int32))]))
  obtain ⟨T1, X1, e1, st1⟩ := getF X0 hx hZ hown (host := "") (Or.inl (hw _ (List.mem_of_getElem? (i := 45) rfl))) Via.refl e0 F2 (g := (mkF m 3 #[.val (.ref a1)] [(.ref a1), (.int (20 : Int32))])) rfl rfl (hb hby own_d10_3)
  refine own_st st1 ?_
  show own_Ok p e below _ (T1.setTop (mkF m 6 #[.val (.ref a1)] [(.ref a3), (.int (20 : Int32))]))
  refine own_st (own_len X1 hx hZ e1 V3 (g := (mkF m 6 #[.val (.ref a1)] [(.ref a3), (.int (20 : Int32))])) rfl rfl (hb hby own_d10_6)) ?_
  show own_Ok p e below _ (T1.setTop (mkF m 7 #[.val (.ref a1)] [(.int (1 : Int32)), (.int (20 : Int32))]))
  refine own_st (fun _ k => XS.iadd X1.here hx rfl (hb hby own_d10_7) rfl k) ?_
  show own_Ok p e below _ (T1.setTop (mkF m 8 #[.val (.ref a1)] [(.int (21 : Int32))]))
  refine own_st (fun _ k => XS.aloadN X1.here hx rfl (hb hby own_d10_8) rfl rfl k) ?_
  show own_Ok p e below _ (T1.setTop (mkF m 9 #[.val (.ref a1)] [(.ref a1), (.int (21 : Int32))]))
  obtain ⟨T2, X2, e2, st2⟩ := getF X1 hx hZ hown (host := "") (Or.inl (hw _ (List.mem_of_getElem? (i := 51) rfl))) Via.refl e1 F1 (g := (mkF m 9 #[.val (.ref a1)] [(.ref a1), (.int (21 : Int32))])) rfl rfl (hb hby own_d10_9)
  refine own_st st2 ?_
  show own_Ok p e below _ (T2.setTop (mkF m 12 #[.val (.ref a1)] [(.int pz), (.int (21 : Int32))]))
  refine own_st (fun _ k => XS.iconst X2.here hx rfl (hb hby own_d10_12) k) ?_
  show own_Ok p e below _ (T2.setTop (mkF m 13 #[.val (.ref a1)] [(.int (0 : Int32)), (.int pz), (.int (21 : Int32))]))
  obtain ⟨_, _, ⟨T3, L3, k3, n3⟩, -, X3, ⟨Lc3, hQ3, l3, y3, z3⟩, st3⟩ := Jvm.LawKit.callS X2 hx (y := (⟨"java/lang/Math", "max", "(II)I"⟩ : MethodName)) hown (mvT hZ (hw _ (List.mem_of_getElem? (i := 65) rfl))) (mvT hZ (hw _ (List.mem_of_getElem? (i := 66) rfl))) (mvT hZ (hw _ (List.mem_of_getElem? (i := 67) rfl))) (mvT hZ (hw _ (List.mem_of_getElem? (i := 68) rfl))) (by decide) (backOf (W := 1) (rm11 l Z a0 hw [] pz ((0 : Int32)) h0 n0 O0) hZ (hw _ (List.mem_of_getElem? (i := 68) rfl)) (hw _ (List.mem_of_getElem? (i := 67) rfl)) (by decide) (by decide)) (g := (mkF m 13 #[.val (.ref a1)] [(.int (0 : Int32)), (.int pz), (.int (21 : Int32))])) rfl (by rw [hml]; rfl) (argsL := [(.int pz), (.int (0 : Int32))]) (rest := [(.int (21 : Int32))]) (lenOf own_pd1 rfl) rfl (by show 2 * 0 + _ ≤ _; exact Nat.le_of_eq rfl) (hb hby own_d10_13) (fun _ _ => ⟨rfl, e2, (by decide : 0 + 0 ≤ _), (by decide : 0 + 0 ≤ _)⟩)
  dsimp only [Pt.U, Pt.locs, Pt.cells, Pt.slots] at X3 l3 y3 z3 st3 hQ3
  subst l3 y3 z3
  obtain ⟨rfl, Nq3, e3⟩ := hQ3
  have N3 := Fr.app N0 Nq3
  refine own_st st3 ?_
  show own_Ok p e below _ (T3.setTop (mkF m 16 #[.val (.ref a1)] [(.int (if pz < (0 : Int32) then (0 : Int32) else pz)), (.int (21 : Int32))]))
  refine own_st (fun _ k => XS.iadd X3.here hx rfl (hb hby own_d10_16) rfl k) ?_
  show own_Ok p e below _ (T3.setTop (mkF m 17 #[.val (.ref a1)] [(.int ((21 : Int32) + (if pz < (0 : Int32) then (0 : Int32) else pz)))]))
  exact own_retI X3 hx hlk Bd.returns (hb hby own_d10_17) (by rw [e3]; exact ⟨rfl, N3, rfl⟩) (by decide) (by decide)
theorem own_pd2 : parseMethodDescriptor "([C)V" = some ⟨[(.array .char)], none⟩ := by decide +kernel
theorem own_pd3 : parseMethodDescriptor "(Ljava/lang/String;[BJJII)V" = some ⟨[(.object "java/lang/String"), (.array .byte), .long, .long, .int, .int], none⟩ := by decide +kernel
theorem own_pd4 : parseMethodDescriptor "()Z" = some ⟨[], some .boolean⟩ := by decide +kernel
theorem own_pd5 : parseMethodDescriptor "()I" = some ⟨[], some .int⟩ := by decide +kernel
theorem own_ef_rm_law (m : MethodId) (xv : Int32) (xc : Int32) (t1 : Int64) (t2 : Int64) (cr : Int32) : entryFrame m #[(.int xv), (.int xc), (.long t1), (.long t2), (.int cr)] maxLocals = mkF m 0 #[.val (.int xv), .val (.int xc), .val (.long t1), .second, .val (.long t2), .second, .val (.int cr), .unset, .unset, .unset, .unset, .unset, .unset, .unset] [] := by first | (simp [entryFrame, mkF, argsToLocals, Value.category, maxLocals]; done) | rfl
def Q_rm_law (Z : State) (xv : Int32) (xc : Int32) (t1 : Int64) (t2 : Int64) (cr : Int32) (G1 : Int32) (h0 : Heap) (n0 : Nat) (v : Option Value) (h : Heap) (L : List Loc) : Prop := v = some (.int 1) ∧ Fr n0 L
theorem own_pn2 : plainName "com/example/shardlift/shardlift/node/RecordIsDeletePinLaw" = true := by first | (simp [plainName, overriddenIn]; done) | decide +kernel
set_option maxRecDepth 65536 in
set_option maxHeartbeats 40000000 in
theorem rm_law (l : Launch) (Z : State) (a0 : Array Value) (hw : ∀ d ∈ tables_1, d.before a0 Z = true) (ws : List Jvm.Cond) (xv : Int32) (xc : Int32) (t1 : Int64) (t2 : Int64) (cr : Int32) (G1 : Int32) (h0 : Heap) (n0 : Nat) (O0 : Old Z n0 h0) (SG1 : Sta Z Z.heap "java/lang/String" "COMPACT_STRINGS" "Z" (.int G1)) (PG1 : ¬ (G1 = (0 : Int32))) :
    MetFree l x (head1 (Jvm.Cond.code x code maxLocals ret :: ws) room_1) (fun a U => a = #[(.int xv), (.int xc), (.long t1), (.long t2), (.int cr)] ∧ Z.Warmed39 U.vm ∧ U.heap = h0) (fun _ _ _ _ _ => True) (fun _ U o U' => ∃ v L, o = .returned v ∧ Q_rm_law Z xv xc t1 t2 cr G1 h0 n0 v U'.heap L ∧ FrameEnd U o U' L 5 13) := by
  refine MetFree.of_bodySF (plainFor_of_name own_pn2) hisR ?_
  intro p e s m args below meth c s₁ Bd hml0 hP hK
  obtain ⟨rfl, hZ, hh⟩ := hP
  have hx := Bd.exec
  have hby := Bd.bytes
  have hml : c.maxLocals = 14 := hml0
  have hown : s.vm.findClass "com/example/shardlift/shardlift/node/RecordIsDeletePinLaw" = some m.cls := findClass_of_methodNamed Bd.named
  have hnm := (name_of_methodNamed Bd.named Bd.method).1
  have hlk : meth.locks = false := Bd.notSynchronized
  have X0 : Stand p l e room_1 s m #[(.int xv), (.int xc), (.long t1), (.long t2), (.int cr)] below meth c s₁ [] 0 0 := Stand.of_body Bd
  have e0 : s₁.heap = h0 := by rw [← hh, Bd.state]; rfl
  have N0 := Fr.nil n0
  suffices hgo : own_Ok p e below (own_Qx s (Q_rm_law Z xv xc t1 t2 cr G1 h0 n0) 5 13) (s₁.setTop (mkF m 0 #[.val (.int xv), .val (.int xc), .val (.long t1), .second, .val (.long t2), .second, .val (.int cr), .unset, .unset, .unset, .unset, .unset, .unset, .unset] [])) from by
    obtain ⟨s₂, o, h1, h2⟩ := hgo
    exact ⟨s₂, o, castTop (own_ef_rm_law m xv xc t1 t2 cr) h1, h2⟩
  have hws : ∀ d ∈ StrChars.Road.words, d.before a0 Z = true := fun d hd => hw d ((by decide +kernel : ∀ d ∈ StrChars.Road.words, d ∈ tables_1) d hd)
  show own_Ok p e below _ (s₁.setTop (mkF m 0 #[.val (.int xv), .val (.int xc), .val (.long t1), .second, .val (.long t2), .second, .val (.int cr), .unset, .unset, .unset, .unset, .unset, .unset, .unset] []))
  refine own_st (fun _ k => XS.iloadN X0.here hx rfl (hb hby at_0) rfl k) ?_
  show own_Ok p e below _ (s₁.setTop (mkF m 1 #[.val (.int xv), .val (.int xc), .val (.long t1), .second, .val (.long t2), .second, .val (.int cr), .unset, .unset, .unset, .unset, .unset, .unset, .unset] [(.int xv)]))
  refine own_st (fun _ k => XS.iconst X0.here hx rfl (hb hby at_1) k) ?_
  show own_Ok p e below _ (s₁.setTop (mkF m 2 #[.val (.int xv), .val (.int xc), .val (.long t1), .second, .val (.long t2), .second, .val (.int cr), .unset, .unset, .unset, .unset, .unset, .unset, .unset] [(.int (1 : Int32)), (.int xv)]))
  refine own_st (fun _ k => XS.iand X0.here hx rfl (hb hby at_2) rfl k) ?_
  show own_Ok p e below _ (s₁.setTop (mkF m 3 #[.val (.int xv), .val (.int xc), .val (.long t1), .second, .val (.long t2), .second, .val (.int cr), .unset, .unset, .unset, .unset, .unset, .unset, .unset] [(.int (xv &&& (1 : Int32)))]))
  by_cases c3_1 : (xv &&& (1 : Int32)) = (0 : Int32)
  · skip
    refine own_st (fun _ k => XS.ifYes X0.here hx rfl (pc0 := 3) (pc' := 10) rfl (hb hby at_3) rfl (XT.i0_eq_t c3_1) (by decide) (by decide) k) ?_
    show own_Ok p e below _ (s₁.setTop (mkF m 10 #[.val (.int xv), .val (.int xc), .val (.long t1), .second, .val (.long t2), .second, .val (.int cr), .unset, .unset, .unset, .unset, .unset, .unset, .unset] []))
    refine own_st (fun _ k => XS.iconst X0.here hx rfl (hb hby at_10) k) ?_
    show own_Ok p e below _ (s₁.setTop (mkF m 11 #[.val (.int xv), .val (.int xc), .val (.long t1), .second, .val (.long t2), .second, .val (.int cr), .unset, .unset, .unset, .unset, .unset, .unset, .unset] [(.int (0 : Int32))]))
    refine own_st (fun _ k => XS.istore X0.here hx rfl (hb hby at_11) rfl (l' := #[.val (.int xv), .val (.int xc), .val (.long t1), .second, .val (.long t2), .second, .val (.int cr), .val (.int (0 : Int32)), .unset, .unset, .unset, .unset, .unset, .unset]) rfl k) ?_
    show own_Ok p e below _ (s₁.setTop (mkF m 13 #[.val (.int xv), .val (.int xc), .val (.long t1), .second, .val (.long t2), .second, .val (.int cr), .val (.int (0 : Int32)), .unset, .unset, .unset, .unset, .unset, .unset] []))
    refine own_st (fun _ k => XS.iload X0.here hx rfl (hb hby at_13) rfl k) ?_
    show own_Ok p e below _ (s₁.setTop (mkF m 15 #[.val (.int xv), .val (.int xc), .val (.long t1), .second, .val (.long t2), .second, .val (.int cr), .val (.int (0 : Int32)), .unset, .unset, .unset, .unset, .unset, .unset] [(.int (0 : Int32))]))
    refine own_st (fun _ k => XS.ifYes X0.here hx rfl (pc0 := 15) (pc' := 22) rfl (hb hby at_15) rfl (XT.i0_eq_t (by decide)) (by decide) (by decide) k) ?_
    show own_Ok p e below _ (s₁.setTop (mkF m 22 #[.val (.int xv), .val (.int xc), .val (.long t1), .second, .val (.long t2), .second, .val (.int cr), .val (.int (0 : Int32)), .unset, .unset, .unset, .unset, .unset, .unset] []))
    refine own_st (fun _ k => XS.iloadN X0.here hx rfl (hb hby at_22) rfl k) ?_
    show own_Ok p e below _ (s₁.setTop (mkF m 23 #[.val (.int xv), .val (.int xc), .val (.long t1), .second, .val (.long t2), .second, .val (.int cr), .val (.int (0 : Int32)), .unset, .unset, .unset, .unset, .unset, .unset] [(.int xv)]))
    refine own_st (fun _ k => XS.iconst X0.here hx rfl (hb hby at_23) k) ?_
    show own_Ok p e below _ (s₁.setTop (mkF m 24 #[.val (.int xv), .val (.int xc), .val (.long t1), .second, .val (.long t2), .second, .val (.int cr), .val (.int (0 : Int32)), .unset, .unset, .unset, .unset, .unset, .unset] [(.int (1 : Int32)), (.int xv)]))
    refine own_st (fun _ k => XS.iushr X0.here hx rfl (hb hby at_24) rfl k) ?_
    show own_Ok p e below _ (s₁.setTop (mkF m 25 #[.val (.int xv), .val (.int xc), .val (.long t1), .second, .val (.long t2), .second, .val (.int cr), .val (.int (0 : Int32)), .unset, .unset, .unset, .unset, .unset, .unset] [(.int ((xv.toUInt32 >>> ((1 : Int32) &&& 31).toUInt32).toInt32))]))
    refine own_st (fun _ k => Jvm.Stand.ldcI X0 hx hown (mvT hZ (hw _ (List.mem_of_getElem? (i := 0) rfl))) rfl (hb hby at_25) k) ?_
    show own_Ok p e below _ (s₁.setTop (mkF m 27 #[.val (.int xv), .val (.int xc), .val (.long t1), .second, .val (.long t2), .second, .val (.int cr), .val (.int (0 : Int32)), .unset, .unset, .unset, .unset, .unset, .unset] [(.int (1048577 : Int32)), (.int ((xv.toUInt32 >>> ((1 : Int32) &&& 31).toUInt32).toInt32))]))
    refine own_st (fun _ k => Jvm.RoadKit.iremM X0 hx rfl (hb hby at_27) rfl (by decide) k) ?_
    show own_Ok p e below _ (s₁.setTop (mkF m 28 #[.val (.int xv), .val (.int xc), .val (.long t1), .second, .val (.long t2), .second, .val (.int cr), .val (.int (0 : Int32)), .unset, .unset, .unset, .unset, .unset, .unset] [(.int (((xv.toUInt32 >>> ((1 : Int32) &&& 31).toUInt32).toInt32) % (1048577 : Int32)))]))
    refine own_st (fun _ k => XS.istore X0.here hx rfl (hb hby at_28) rfl (l' := #[.val (.int xv), .val (.int xc), .val (.long t1), .second, .val (.long t2), .second, .val (.int cr), .val (.int (0 : Int32)), .val (.int (((xv.toUInt32 >>> ((1 : Int32) &&& 31).toUInt32).toInt32) % (1048577 : Int32))), .unset, .unset, .unset, .unset, .unset]) rfl k) ?_
    show own_Ok p e below _ (s₁.setTop (mkF m 30 #[.val (.int xv), .val (.int xc), .val (.long t1), .second, .val (.long t2), .second, .val (.int cr), .val (.int (0 : Int32)), .val (.int (((xv.toUInt32 >>> ((1 : Int32) &&& 31).toUInt32).toInt32) % (1048577 : Int32))), .unset, .unset, .unset, .unset, .unset] []))
    refine own_st (fun _ k => XS.iconst X0.here hx rfl (hb hby at_30) k) ?_
    show own_Ok p e below _ (s₁.setTop (mkF m 31 #[.val (.int xv), .val (.int xc), .val (.long t1), .second, .val (.long t2), .second, .val (.int cr), .val (.int (0 : Int32)), .val (.int (((xv.toUInt32 >>> ((1 : Int32) &&& 31).toUInt32).toInt32) % (1048577 : Int32))), .unset, .unset, .unset, .unset, .unset] [(.int (1 : Int32))]))
    obtain ⟨T2, h2, k2, X2, e2, E2, A2, st2⟩ := newP X0 hx hZ (hw _ (List.mem_of_getElem? (i := 1) rfl)) e0 (g := (mkF m 31 #[.val (.int xv), .val (.int xc), .val (.long t1), .second, .val (.long t2), .second, .val (.int cr), .val (.int (0 : Int32)), .val (.int (((xv.toUInt32 >>> ((1 : Int32) &&& 31).toUInt32).toInt32) % (1048577 : Int32))), .unset, .unset, .unset, .unset, .unset] [(.int (1 : Int32))])) rfl (hb hby at_31) rfl (by decide) (cap := 1) (by decide) (by decide) (by decide) (by decide)
    obtain ⟨b2, g2⟩ : ∃ z, z = h0.size := ⟨_, rfl⟩
    rw [← g2] at A2 st2
    refine own_st st2 ?_
    have gb_b2 : n0 ≤ b2 := Nat.le_trans (own_n0 O0) (Nat.le_of_eq g2.symm)
    have V2 : Arv Z h2 b2 k2 .char (1 : Int32) [(.int (0 : Int32))] (.int (0 : Int32)) := (Arv.new A2 (by decide)).pad (pad_rep [] (.int (0 : Int32)) 1)
    show own_Ok p e below _ (T2.setTop (mkF m 33 #[.val (.int xv), .val (.int xc), .val (.long t1), .second, .val (.long t2), .second, .val (.int cr), .val (.int (0 : Int32)), .val (.int (((xv.toUInt32 >>> ((1 : Int32) &&& 31).toUInt32).toInt32) % (1048577 : Int32))), .unset, .unset, .unset, .unset, .unset] [(.ref b2)]))
    refine own_st (fun _ k => XS.dup X2.here hx rfl (hb hby at_33) rfl rfl k) ?_
    show own_Ok p e below _ (T2.setTop (mkF m 34 #[.val (.int xv), .val (.int xc), .val (.long t1), .second, .val (.long t2), .second, .val (.int cr), .val (.int (0 : Int32)), .val (.int (((xv.toUInt32 >>> ((1 : Int32) &&& 31).toUInt32).toInt32) % (1048577 : Int32))), .unset, .unset, .unset, .unset, .unset] [(.ref b2), (.ref b2)]))
    refine own_st (fun _ k => XS.iconst X2.here hx rfl (hb hby at_34) k) ?_
    show own_Ok p e below _ (T2.setTop (mkF m 35 #[.val (.int xv), .val (.int xc), .val (.long t1), .second, .val (.long t2), .second, .val (.int cr), .val (.int (0 : Int32)), .val (.int (((xv.toUInt32 >>> ((1 : Int32) &&& 31).toUInt32).toInt32) % (1048577 : Int32))), .unset, .unset, .unset, .unset, .unset] [(.int (0 : Int32)), (.ref b2), (.ref b2)]))
    refine own_st (fun _ k => XS.iloadN X2.here hx rfl (hb hby at_35) rfl k) ?_
    show own_Ok p e below _ (T2.setTop (mkF m 36 #[.val (.int xv), .val (.int xc), .val (.long t1), .second, .val (.long t2), .second, .val (.int cr), .val (.int (0 : Int32)), .val (.int (((xv.toUInt32 >>> ((1 : Int32) &&& 31).toUInt32).toInt32) % (1048577 : Int32))), .unset, .unset, .unset, .unset, .unset] [(.int xc), (.int (0 : Int32)), (.ref b2), (.ref b2)]))
    refine own_st (fun _ k => XS.bipush X2.here hx rfl (hb hby at_36) k) ?_
    show own_Ok p e below _ (T2.setTop (mkF m 38 #[.val (.int xv), .val (.int xc), .val (.long t1), .second, .val (.long t2), .second, .val (.int cr), .val (.int (0 : Int32)), .val (.int (((xv.toUInt32 >>> ((1 : Int32) &&& 31).toUInt32).toInt32) % (1048577 : Int32))), .unset, .unset, .unset, .unset, .unset] [(.int (127 : Int32)), (.int xc), (.int (0 : Int32)), (.ref b2), (.ref b2)]))
    refine own_st (fun _ k => XS.iand X2.here hx rfl (hb hby at_38) rfl k) ?_
    show own_Ok p e below _ (T2.setTop (mkF m 39 #[.val (.int xv), .val (.int xc), .val (.long t1), .second, .val (.long t2), .second, .val (.int cr), .val (.int (0 : Int32)), .val (.int (((xv.toUInt32 >>> ((1 : Int32) &&& 31).toUInt32).toInt32) % (1048577 : Int32))), .unset, .unset, .unset, .unset, .unset] [(.int (xc &&& (127 : Int32))), (.int (0 : Int32)), (.ref b2), (.ref b2)]))
    refine own_st (fun _ k => XS.i2c X2.here hx rfl (hb hby at_39) rfl k) ?_
    show own_Ok p e below _ (T2.setTop (mkF m 40 #[.val (.int xv), .val (.int xc), .val (.long t1), .second, .val (.long t2), .second, .val (.int cr), .val (.int (0 : Int32)), .val (.int (((xv.toUInt32 >>> ((1 : Int32) &&& 31).toUInt32).toInt32) % (1048577 : Int32))), .unset, .unset, .unset, .unset, .unset] [(.int ((xc &&& (127 : Int32)).toUInt32.toUInt16.toUInt32.toInt32)), (.int (0 : Int32)), (.ref b2), (.ref b2)]))
    obtain ⟨T3, h3, X3, e3, W3, V3, st3⟩ := own_stC X2 hx hZ e2 V2 0 rfl (by decide) (by decide) (Nat.le_of_ble_eq_true rfl) (g := (mkF m 40 #[.val (.int xv), .val (.int xc), .val (.long t1), .second, .val (.long t2), .second, .val (.int cr), .val (.int (0 : Int32)), .val (.int (((xv.toUInt32 >>> ((1 : Int32) &&& 31).toUInt32).toInt32) % (1048577 : Int32))), .unset, .unset, .unset, .unset, .unset] [(.int ((xc &&& (127 : Int32)).toUInt32.toUInt16.toUInt32.toInt32)), (.int (0 : Int32)), (.ref b2), (.ref b2)])) rfl rfl (hb hby at_40)
    refine own_st st3 ?_
    have V3' : Arv Z h3 b2 k2 .char (1 : Int32) [(.int (nar .char ((xc &&& (127 : Int32)).toUInt32.toUInt16.toUInt32.toInt32)))] (.int (0 : Int32)) := V3
    have N3 := Fr.snoc X3 N0 gb_b2
    show own_Ok p e below _ (T3.setTop (mkF m 41 #[.val (.int xv), .val (.int xc), .val (.long t1), .second, .val (.long t2), .second, .val (.int cr), .val (.int (0 : Int32)), .val (.int (((xv.toUInt32 >>> ((1 : Int32) &&& 31).toUInt32).toInt32) % (1048577 : Int32))), .unset, .unset, .unset, .unset, .unset] [(.ref b2)]))
    refine own_st (fun _ k => XS.astore X3.here hx rfl (hb hby at_41) rfl rfl (l' := #[.val (.int xv), .val (.int xc), .val (.long t1), .second, .val (.long t2), .second, .val (.int cr), .val (.int (0 : Int32)), .val (.int (((xv.toUInt32 >>> ((1 : Int32) &&& 31).toUInt32).toInt32) % (1048577 : Int32))), .val (.ref b2), .unset, .unset, .unset, .unset]) rfl k) ?_
    show own_Ok p e below _ (T3.setTop (mkF m 43 #[.val (.int xv), .val (.int xc), .val (.long t1), .second, .val (.long t2), .second, .val (.int cr), .val (.int (0 : Int32)), .val (.int (((xv.toUInt32 >>> ((1 : Int32) &&& 31).toUInt32).toInt32) % (1048577 : Int32))), .val (.ref b2), .unset, .unset, .unset, .unset] []))
    refine own_st (fun _ k => XS.iconst X3.here hx rfl (hb hby at_43) k) ?_
    show own_Ok p e below _ (T3.setTop (mkF m 44 #[.val (.int xv), .val (.int xc), .val (.long t1), .second, .val (.long t2), .second, .val (.int cr), .val (.int (0 : Int32)), .val (.int (((xv.toUInt32 >>> ((1 : Int32) &&& 31).toUInt32).toInt32) % (1048577 : Int32))), .val (.ref b2), .unset, .unset, .unset, .unset] [(.int (1 : Int32))]))
    obtain ⟨T4, h4, k4, X4, e4, E4, A4, st4⟩ := newP X3 hx hZ (hw _ (List.mem_of_getElem? (i := 2) rfl)) e3 (g := (mkF m 44 #[.val (.int xv), .val (.int xc), .val (.long t1), .second, .val (.long t2), .second, .val (.int cr), .val (.int (0 : Int32)), .val (.int (((xv.toUInt32 >>> ((1 : Int32) &&& 31).toUInt32).toInt32) % (1048577 : Int32))), .val (.ref b2), .unset, .unset, .unset, .unset] [(.int (1 : Int32))])) rfl (hb hby at_44) rfl (by decide) (cap := 1) (by decide) (by decide) (by decide) (by decide)
    obtain ⟨b4, g4⟩ : ∃ z, z = h3.size := ⟨_, rfl⟩
    rw [← g4] at A4 st4
    refine own_st st4 ?_
    have f5 := O0.ext E2
    have f6 := f5.wr W3 gb_b2
    have gb_b4 : n0 ≤ b4 := Nat.le_trans (own_n0 f6) (Nat.le_of_eq g4.symm)
    have ne_b2_b4 : b2 ≠ b4 := Nat.ne_of_lt (Nat.lt_of_lt_of_le V3'.lt (Nat.le_of_eq g4.symm))
    have V4 : Arv Z h4 b4 k4 .byte (1 : Int32) [(.int (0 : Int32))] (.int (0 : Int32)) := (Arv.new A4 (by decide)).pad (pad_rep [] (.int (0 : Int32)) 1)
    show own_Ok p e below _ (T4.setTop (mkF m 46 #[.val (.int xv), .val (.int xc), .val (.long t1), .second, .val (.long t2), .second, .val (.int cr), .val (.int (0 : Int32)), .val (.int (((xv.toUInt32 >>> ((1 : Int32) &&& 31).toUInt32).toInt32) % (1048577 : Int32))), .val (.ref b2), .unset, .unset, .unset, .unset] [(.ref b4)]))
    refine own_st (fun _ k => XS.dup X4.here hx rfl (hb hby at_46) rfl rfl k) ?_
    show own_Ok p e below _ (T4.setTop (mkF m 47 #[.val (.int xv), .val (.int xc), .val (.long t1), .second, .val (.long t2), .second, .val (.int cr), .val (.int (0 : Int32)), .val (.int (((xv.toUInt32 >>> ((1 : Int32) &&& 31).toUInt32).toInt32) % (1048577 : Int32))), .val (.ref b2), .unset, .unset, .unset, .unset] [(.ref b4), (.ref b4)]))
    refine own_st (fun _ k => XS.iconst X4.here hx rfl (hb hby at_47) k) ?_
    show own_Ok p e below _ (T4.setTop (mkF m 48 #[.val (.int xv), .val (.int xc), .val (.long t1), .second, .val (.long t2), .second, .val (.int cr), .val (.int (0 : Int32)), .val (.int (((xv.toUInt32 >>> ((1 : Int32) &&& 31).toUInt32).toInt32) % (1048577 : Int32))), .val (.ref b2), .unset, .unset, .unset, .unset] [(.int (0 : Int32)), (.ref b4), (.ref b4)]))
    refine own_st (fun _ k => XS.iloadN X4.here hx rfl (hb hby at_48) rfl k) ?_
    show own_Ok p e below _ (T4.setTop (mkF m 49 #[.val (.int xv), .val (.int xc), .val (.long t1), .second, .val (.long t2), .second, .val (.int cr), .val (.int (0 : Int32)), .val (.int (((xv.toUInt32 >>> ((1 : Int32) &&& 31).toUInt32).toInt32) % (1048577 : Int32))), .val (.ref b2), .unset, .unset, .unset, .unset] [(.int xc), (.int (0 : Int32)), (.ref b4), (.ref b4)]))
    refine own_st (fun _ k => XS.bipush X4.here hx rfl (hb hby at_49) k) ?_
    show own_Ok p e below _ (T4.setTop (mkF m 51 #[.val (.int xv), .val (.int xc), .val (.long t1), .second, .val (.long t2), .second, .val (.int cr), .val (.int (0 : Int32)), .val (.int (((xv.toUInt32 >>> ((1 : Int32) &&& 31).toUInt32).toInt32) % (1048577 : Int32))), .val (.ref b2), .unset, .unset, .unset, .unset] [(.int (127 : Int32)), (.int xc), (.int (0 : Int32)), (.ref b4), (.ref b4)]))
    refine own_st (fun _ k => XS.iand X4.here hx rfl (hb hby at_51) rfl k) ?_
    show own_Ok p e below _ (T4.setTop (mkF m 52 #[.val (.int xv), .val (.int xc), .val (.long t1), .second, .val (.long t2), .second, .val (.int cr), .val (.int (0 : Int32)), .val (.int (((xv.toUInt32 >>> ((1 : Int32) &&& 31).toUInt32).toInt32) % (1048577 : Int32))), .val (.ref b2), .unset, .unset, .unset, .unset] [(.int (xc &&& (127 : Int32))), (.int (0 : Int32)), (.ref b4), (.ref b4)]))
    refine own_st (fun _ k => XS.i2b X4.here hx rfl (hb hby at_52) rfl k) ?_
    show own_Ok p e below _ (T4.setTop (mkF m 53 #[.val (.int xv), .val (.int xc), .val (.long t1), .second, .val (.long t2), .second, .val (.int cr), .val (.int (0 : Int32)), .val (.int (((xv.toUInt32 >>> ((1 : Int32) &&& 31).toUInt32).toInt32) % (1048577 : Int32))), .val (.ref b2), .unset, .unset, .unset, .unset] [(.int ((xc &&& (127 : Int32)).toInt8.toInt32)), (.int (0 : Int32)), (.ref b4), (.ref b4)]))
    obtain ⟨T7, h7, X7, e7, W7, V7, st7⟩ := own_stB X4 hx hZ e4 V4 0 rfl (by decide) (by decide) (Nat.le_of_ble_eq_true rfl) (g := (mkF m 53 #[.val (.int xv), .val (.int xc), .val (.long t1), .second, .val (.long t2), .second, .val (.int cr), .val (.int (0 : Int32)), .val (.int (((xv.toUInt32 >>> ((1 : Int32) &&& 31).toUInt32).toInt32) % (1048577 : Int32))), .val (.ref b2), .unset, .unset, .unset, .unset] [(.int ((xc &&& (127 : Int32)).toInt8.toInt32)), (.int (0 : Int32)), (.ref b4), (.ref b4)])) rfl rfl (hb hby at_53)
    refine own_st st7 ?_
    have V7' : Arv Z h7 b4 k4 .byte (1 : Int32) [(.int (nar .byte ((xc &&& (127 : Int32)).toInt8.toInt32)))] (.int (0 : Int32)) := V7
    have N7 := Fr.snoc X7 N3 gb_b4
    show own_Ok p e below _ (T7.setTop (mkF m 54 #[.val (.int xv), .val (.int xc), .val (.long t1), .second, .val (.long t2), .second, .val (.int cr), .val (.int (0 : Int32)), .val (.int (((xv.toUInt32 >>> ((1 : Int32) &&& 31).toUInt32).toInt32) % (1048577 : Int32))), .val (.ref b2), .unset, .unset, .unset, .unset] [(.ref b4)]))
    refine own_st (fun _ k => XS.astore X7.here hx rfl (hb hby at_54) rfl rfl (l' := #[.val (.int xv), .val (.int xc), .val (.long t1), .second, .val (.long t2), .second, .val (.int cr), .val (.int (0 : Int32)), .val (.int (((xv.toUInt32 >>> ((1 : Int32) &&& 31).toUInt32).toInt32) % (1048577 : Int32))), .val (.ref b2), .val (.ref b4), .unset, .unset, .unset]) rfl k) ?_
    show own_Ok p e below _ (T7.setTop (mkF m 56 #[.val (.int xv), .val (.int xc), .val (.long t1), .second, .val (.long t2), .second, .val (.int cr), .val (.int (0 : Int32)), .val (.int (((xv.toUInt32 >>> ((1 : Int32) &&& 31).toUInt32).toInt32) % (1048577 : Int32))), .val (.ref b2), .val (.ref b4), .unset, .unset, .unset] []))
    obtain ⟨T8, h8, X8, e8, E8, A8, D8, -, st8⟩ := newO X7 hx hZ hown (hw _ (List.mem_of_getElem? (i := 3) rfl)) (hw _ (List.mem_of_getElem? (i := 4) rfl)) (hw _ (List.mem_of_getElem? (i := 5) rfl)) e7 (g := (mkF m 56 #[.val (.int xv), .val (.int xc), .val (.long t1), .second, .val (.long t2), .second, .val (.int cr), .val (.int (0 : Int32)), .val (.int (((xv.toUInt32 >>> ((1 : Int32) &&& 31).toUInt32).toInt32) % (1048577 : Int32))), .val (.ref b2), .val (.ref b4), .unset, .unset, .unset] [])) rfl (hb hby at_56) (by decide) (by decide)
    obtain ⟨b8, g8⟩ : ∃ z, z = h7.size := ⟨_, rfl⟩
    rw [← g8] at A8 D8 st8
    refine own_st st8 ?_
    have f9 := f6.ext E4
    have f10 := f9.wr W7 gb_b4
    have gb_b8 : n0 ≤ b8 := Nat.le_trans (own_n0 f10) (Nat.le_of_eq g8.symm)
    have f11 := V3'.ext E4
    have f12 := f11.other W7 ne_b2_b4
    have ne_b2_b8 : b2 ≠ b8 := Nat.ne_of_lt (Nat.lt_of_lt_of_le f12.lt (Nat.le_of_eq g8.symm))
    have ne_b4_b8 : b4 ≠ b8 := Nat.ne_of_lt (Nat.lt_of_lt_of_le V7'.lt (Nat.le_of_eq g8.symm))
    have F8_key : Fld Z h8 b8 "com/example/shardlift/shardlift/node/Records$Record" "key" "Ljava/lang/String;" .null := D8 (Or.inr (hw _ (List.mem_of_getElem? (i := 44) rfl))) (ty := (.object "java/lang/String")) (by decide)
    have F8_utf8 : Fld Z h8 b8 "com/example/shardlift/shardlift/node/Records$Record" "utf8" "[B" .null := D8 (Or.inr (hw _ (List.mem_of_getElem? (i := 46) rfl))) (ty := (.array .byte)) (by decide)
    have F8_token : Fld Z h8 b8 "com/example/shardlift/shardlift/node/Records$Record" "token" "J" (.long (0 : Int64)) := D8 (Or.inr (hw _ (List.mem_of_getElem? (i := 48) rfl))) (ty := .long) (by decide)
    have F8_timestamp : Fld Z h8 b8 "com/example/shardlift/shardlift/node/Records$Record" "timestamp" "J" (.long (0 : Int64)) := D8 (Or.inr (hw _ (List.mem_of_getElem? (i := 50) rfl))) (ty := .long) (by decide)
    have F8_valueLength : Fld Z h8 b8 "com/example/shardlift/shardlift/node/Records$Record" "valueLength" "I" (.int (0 : Int32)) := D8 (Or.inr (hw _ (List.mem_of_getElem? (i := 52) rfl))) (ty := .int) (by decide)
    have F8_crc : Fld Z h8 b8 "com/example/shardlift/shardlift/node/Records$Record" "crc" "I" (.int (0 : Int32)) := D8 (Or.inr (hw _ (List.mem_of_getElem? (i := 54) rfl))) (ty := .int) (by decide)
    show own_Ok p e below _ (T8.setTop (mkF m 59 #[.val (.int xv), .val (.int xc), .val (.long t1), .second, .val (.long t2), .second, .val (.int cr), .val (.int (0 : Int32)), .val (.int (((xv.toUInt32 >>> ((1 : Int32) &&& 31).toUInt32).toInt32) % (1048577 : Int32))), .val (.ref b2), .val (.ref b4), .unset, .unset, .unset] [(.ref b8)]))
    refine own_st (fun _ k => XS.dup X8.here hx rfl (hb hby at_59) rfl rfl k) ?_
    show own_Ok p e below _ (T8.setTop (mkF m 60 #[.val (.int xv), .val (.int xc), .val (.long t1), .second, .val (.long t2), .second, .val (.int cr), .val (.int (0 : Int32)), .val (.int (((xv.toUInt32 >>> ((1 : Int32) &&& 31).toUInt32).toInt32) % (1048577 : Int32))), .val (.ref b2), .val (.ref b4), .unset, .unset, .unset] [(.ref b8), (.ref b8)]))
    obtain ⟨T13, h13, X13, e13, E13, A13, D13, -, st13⟩ := newO X8 hx hZ hown (hw _ (List.mem_of_getElem? (i := 6) rfl)) (hw _ (List.mem_of_getElem? (i := 7) rfl)) (hw _ (List.mem_of_getElem? (i := 8) rfl)) e8 (g := (mkF m 60 #[.val (.int xv), .val (.int xc), .val (.long t1), .second, .val (.long t2), .second, .val (.int cr), .val (.int (0 : Int32)), .val (.int (((xv.toUInt32 >>> ((1 : Int32) &&& 31).toUInt32).toInt32) % (1048577 : Int32))), .val (.ref b2), .val (.ref b4), .unset, .unset, .unset] [(.ref b8), (.ref b8)])) rfl (hb hby at_60) (by decide) (by decide)
    obtain ⟨b13, g13⟩ : ∃ z, z = h8.size := ⟨_, rfl⟩
    rw [← g13] at A13 D13 st13
    refine own_st st13 ?_
    have f14 := f10.ext E8
    have gb_b13 : n0 ≤ b13 := Nat.le_trans (own_n0 f14) (Nat.le_of_eq g13.symm)
    have f15 := f12.ext E8
    have ne_b2_b13 : b2 ≠ b13 := Nat.ne_of_lt (Nat.lt_of_lt_of_le f15.lt (Nat.le_of_eq g13.symm))
    have f16 := V7'.ext E8
    have ne_b4_b13 : b4 ≠ b13 := Nat.ne_of_lt (Nat.lt_of_lt_of_le f16.lt (Nat.le_of_eq g13.symm))
    have ne_b8_b13 : b8 ≠ b13 := Nat.ne_of_lt (Nat.lt_of_lt_of_le A8.lt (Nat.le_of_eq g13.symm))
    have F13_coder : Fld Z h13 b13 "java/lang/String" "coder" "B" (.int (0 : Int32)) := D13 (Or.inr (hw _ (List.mem_of_getElem? (i := 31) rfl))) (ty := .byte) (by decide)
    have F13_value : Fld Z h13 b13 "java/lang/String" "value" "[B" .null := D13 (Or.inr (hw _ (List.mem_of_getElem? (i := 33) rfl))) (ty := (.array .byte)) (by decide)
    show own_Ok p e below _ (T13.setTop (mkF m 63 #[.val (.int xv), .val (.int xc), .val (.long t1), .second, .val (.long t2), .second, .val (.int cr), .val (.int (0 : Int32)), .val (.int (((xv.toUInt32 >>> ((1 : Int32) &&& 31).toUInt32).toInt32) % (1048577 : Int32))), .val (.ref b2), .val (.ref b4), .unset, .unset, .unset] [(.ref b13), (.ref b8), (.ref b8)]))
    refine own_st (fun _ k => XS.dup X13.here hx rfl (hb hby at_63) rfl rfl k) ?_
    show own_Ok p e below _ (T13.setTop (mkF m 64 #[.val (.int xv), .val (.int xc), .val (.long t1), .second, .val (.long t2), .second, .val (.int cr), .val (.int (0 : Int32)), .val (.int (((xv.toUInt32 >>> ((1 : Int32) &&& 31).toUInt32).toInt32) % (1048577 : Int32))), .val (.ref b2), .val (.ref b4), .unset, .unset, .unset] [(.ref b13), (.ref b13), (.ref b8), (.ref b8)]))
    refine own_st (fun _ k => XS.aload X13.here hx rfl (hb hby at_64) rfl rfl k) ?_
    show own_Ok p e below _ (T13.setTop (mkF m 66 #[.val (.int xv), .val (.int xc), .val (.long t1), .second, .val (.long t2), .second, .val (.int cr), .val (.int (0 : Int32)), .val (.int (((xv.toUInt32 >>> ((1 : Int32) &&& 31).toUInt32).toInt32) % (1048577 : Int32))), .val (.ref b2), .val (.ref b4), .unset, .unset, .unset] [(.ref b2), (.ref b13), (.ref b13), (.ref b8), (.ref b8)]))
    have f18 := f15.ext E13
    have f19 := f14.ext E13
    obtain ⟨_, _, ⟨T17, L17, k17, n17⟩, -, X17, ⟨Lc17, hQ17, l17, y17, z17⟩, st17⟩ := X13.specialBack hx (y := (⟨"java/lang/String", "<init>", "([C)V"⟩ : MethodName)) rfl hown (mvT hZ (hw _ (List.mem_of_getElem? (i := 9) rfl))) (mvT hZ (hw _ (List.mem_of_getElem? (i := 10) rfl))) (mvT hZ (hw _ (List.mem_of_getElem? (i := 11) rfl))) (by decide) (StrChars.Road.backV (W := 3) hZ hws (kI := 4) (hw _ (List.mem_of_getElem? (i := 7) rfl)) (cs := ([(nar .char ((xc &&& (127 : Int32)).toUInt32.toUInt16.toUInt32.toInt32))] : List Int32)) (bs := (([(nar .char ((xc &&& (127 : Int32)).toUInt32.toUInt16.toUInt32.toInt32))] : List Int32)).map (fun c => c.toInt8.toInt32)) (n := 1) gb_b13 (own_n0 f19) A13 F13_value F13_coder f18 (SG1.ext f19.2) PG1 rfl rfl (by decide) (by decide) (own_hp xc) rfl (by decide) (by decide)) (g := (mkF m 66 #[.val (.int xv), .val (.int xc), .val (.long t1), .second, .val (.long t2), .second, .val (.int cr), .val (.int (0 : Int32)), .val (.int (((xv.toUInt32 >>> ((1 : Int32) &&& 31).toUInt32).toInt32) % (1048577 : Int32))), .val (.ref b2), .val (.ref b4), .unset, .unset, .unset] [(.ref b2), (.ref b13), (.ref b13), (.ref b8), (.ref b8)])) rfl (by rw [hml]; rfl) (Steps.refl _) (a := b13) (argsL := [(.ref b2)]) (rest := [(.ref b13), (.ref b8), (.ref b8)]) (lenOf own_pd2 rfl) rfl (by show 2 * 0 + _ ≤ _; exact Nat.le_of_eq rfl) (hb hby at_66) (fun _ _ => ⟨rfl, e13, (by decide : 4 + 1 ≤ _), (by decide : 12 + 1 ≤ _)⟩)
    dsimp only [Pt.U, Pt.locs, Pt.cells, Pt.slots] at X17 l17 y17 z17 st17 hQ17
    subst l17 y17 z17
    obtain ⟨rfl, Nq17, K17, g17_0, g17_1, tS_19, kS_19, u1_19, u2_19, u3_19, vS_19, aS_19⟩ := hQ17
    have N17 := Fr.app N7 Nq17
    refine own_st (fun _ k => st17.trans k) ?_
    have gb_tS_19 : n0 ≤ tS_19 := Nat.le_trans (own_n0 f19) u2_19
    have ne_b2_tS_19 : b2 ≠ tS_19 := Nat.ne_of_lt (Nat.lt_of_lt_of_le f18.lt u2_19)
    have f20 := f16.ext E13
    have ne_b4_tS_19 : b4 ≠ tS_19 := Nat.ne_of_lt (Nat.lt_of_lt_of_le f20.lt u2_19)
    have f21 := A8.ext E13
    have ne_b8_tS_19 : b8 ≠ tS_19 := Nat.ne_of_lt (Nat.lt_of_lt_of_le f21.lt u2_19)
    have ne_b13_tS_19 : b13 ≠ tS_19 := Nat.ne_of_lt (Nat.lt_of_lt_of_le A13.lt u2_19)
    have e17 : T17.heap = T17.heap := rfl
    show own_Ok p e below _ (T17.setTop (mkF m 69 #[.val (.int xv), .val (.int xc), .val (.long t1), .second, .val (.long t2), .second, .val (.int cr), .val (.int (0 : Int32)), .val (.int (((xv.toUInt32 >>> ((1 : Int32) &&& 31).toUInt32).toInt32) % (1048577 : Int32))), .val (.ref b2), .val (.ref b4), .unset, .unset, .unset] [(.ref b13), (.ref b8), (.ref b8)]))
    show own_Ok p e below _ (T17.setTop (mkF m 69 #[.val (.int xv), .val (.int xc), .val (.long t1), .second, .val (.long t2), .second, .val (.int cr), .val (.int (0 : Int32)), .val (.int (((xv.toUInt32 >>> ((1 : Int32) &&& 31).toUInt32).toInt32) % (1048577 : Int32))), .val (.ref b2), .val (.ref b4), .unset, .unset, .unset] [(.ref b13), (.ref b8), (.ref b8)]))
    refine own_st (fun _ k => XS.aload X17.here hx rfl (hb hby at_69) rfl rfl k) ?_
    show own_Ok p e below _ (T17.setTop (mkF m 71 #[.val (.int xv), .val (.int xc), .val (.long t1), .second, .val (.long t2), .second, .val (.int cr), .val (.int (0 : Int32)), .val (.int (((xv.toUInt32 >>> ((1 : Int32) &&& 31).toUInt32).toInt32) % (1048577 : Int32))), .val (.ref b2), .val (.ref b4), .unset, .unset, .unset] [(.ref b4), (.ref b13), (.ref b8), (.ref b8)]))
    refine own_st (fun _ k => XS.lloadN X17.here hx rfl (hb hby at_71) rfl k) ?_
    show own_Ok p e below _ (T17.setTop (mkF m 72 #[.val (.int xv), .val (.int xc), .val (.long t1), .second, .val (.long t2), .second, .val (.int cr), .val (.int (0 : Int32)), .val (.int (((xv.toUInt32 >>> ((1 : Int32) &&& 31).toUInt32).toInt32) % (1048577 : Int32))), .val (.ref b2), .val (.ref b4), .unset, .unset, .unset] [(.long t1), (.ref b4), (.ref b13), (.ref b8), (.ref b8)]))
    refine own_st (fun _ k => XS.lload X17.here hx rfl (hb hby at_72) rfl k) ?_
    show own_Ok p e below _ (T17.setTop (mkF m 74 #[.val (.int xv), .val (.int xc), .val (.long t1), .second, .val (.long t2), .second, .val (.int cr), .val (.int (0 : Int32)), .val (.int (((xv.toUInt32 >>> ((1 : Int32) &&& 31).toUInt32).toInt32) % (1048577 : Int32))), .val (.ref b2), .val (.ref b4), .unset, .unset, .unset] [(.long t2), (.long t1), (.ref b4), (.ref b13), (.ref b8), (.ref b8)]))
    refine own_st (fun _ k => XS.iload X17.here hx rfl (hb hby at_74) rfl k) ?_
    show own_Ok p e below _ (T17.setTop (mkF m 76 #[.val (.int xv), .val (.int xc), .val (.long t1), .second, .val (.long t2), .second, .val (.int cr), .val (.int (0 : Int32)), .val (.int (((xv.toUInt32 >>> ((1 : Int32) &&& 31).toUInt32).toInt32) % (1048577 : Int32))), .val (.ref b2), .val (.ref b4), .unset, .unset, .unset] [(.int (((xv.toUInt32 >>> ((1 : Int32) &&& 31).toUInt32).toInt32) % (1048577 : Int32))), (.long t2), (.long t1), (.ref b4), (.ref b13), (.ref b8), (.ref b8)]))
    refine own_st (fun _ k => XS.iload X17.here hx rfl (hb hby at_76) rfl k) ?_
    show own_Ok p e below _ (T17.setTop (mkF m 78 #[.val (.int xv), .val (.int xc), .val (.long t1), .second, .val (.long t2), .second, .val (.int cr), .val (.int (0 : Int32)), .val (.int (((xv.toUInt32 >>> ((1 : Int32) &&& 31).toUInt32).toInt32) % (1048577 : Int32))), .val (.ref b2), .val (.ref b4), .unset, .unset, .unset] [(.int cr), (.int (((xv.toUInt32 >>> ((1 : Int32) &&& 31).toUInt32).toInt32) % (1048577 : Int32))), (.long t2), (.long t1), (.ref b4), (.ref b13), (.ref b8), (.ref b8)]))
    have f23 := f21.keep K17
    have f24 := F8_key.ext E13
    have f25 := f24.keep K17 (ninS ne_b8_b13 nin0)
    have f26 := F8_utf8.ext E13
    have f27 := f26.keep K17 (ninS ne_b8_b13 nin0)
    have f28 := F8_token.ext E13
    have f29 := f28.keep K17 (ninS ne_b8_b13 nin0)
    have f30 := F8_timestamp.ext E13
    have f31 := f30.keep K17 (ninS ne_b8_b13 nin0)
    have f32 := F8_valueLength.ext E13
    have f33 := f32.keep K17 (ninS ne_b8_b13 nin0)
    have f34 := F8_crc.ext E13
    have f35 := f34.keep K17 (ninS ne_b8_b13 nin0)
    have f36 := f19.keep K17 (allS gb_b13 all0)
    obtain ⟨_, _, ⟨T22, L22, k22, n22⟩, -, X22, ⟨Lc22, hQ22, l22, y22, z22⟩, st22⟩ := X17.specialBack hx (y := (⟨"com/example/shardlift/shardlift/node/Records$Record", "<init>", "(Ljava/lang/String;[BJJII)V"⟩ : MethodName)) rfl hown (mvT hZ (hw _ (List.mem_of_getElem? (i := 34) rfl))) (mvT hZ (hw _ (List.mem_of_getElem? (i := 35) rfl))) (mvT hZ (hw _ (List.mem_of_getElem? (i := 36) rfl))) (by decide) (backOf (W := 1) (rm7 l Z a0 hw [] b8 b13 b4 t1 t2 ((((xv.toUInt32 >>> ((1 : Int32) &&& 31).toUInt32).toInt32) % (1048577 : Int32))) cr T17.heap n0 f36 f23 f25 f27 f29 f31 f33 f35 gb_b8) hZ (hw _ (List.mem_of_getElem? (i := 36) rfl)) (hw _ (List.mem_of_getElem? (i := 5) rfl)) (by decide) (by decide)) (g := (mkF m 78 #[.val (.int xv), .val (.int xc), .val (.long t1), .second, .val (.long t2), .second, .val (.int cr), .val (.int (0 : Int32)), .val (.int (((xv.toUInt32 >>> ((1 : Int32) &&& 31).toUInt32).toInt32) % (1048577 : Int32))), .val (.ref b2), .val (.ref b4), .unset, .unset, .unset] [(.int cr), (.int (((xv.toUInt32 >>> ((1 : Int32) &&& 31).toUInt32).toInt32) % (1048577 : Int32))), (.long t2), (.long t1), (.ref b4), (.ref b13), (.ref b8), (.ref b8)])) rfl (by rw [hml]; rfl) (Steps.refl _) (a := b8) (argsL := [(.ref b13), (.ref b4), (.long t1), (.long t2), (.int (((xv.toUInt32 >>> ((1 : Int32) &&& 31).toUInt32).toInt32) % (1048577 : Int32))), (.int cr)]) (rest := [(.ref b8)]) (lenOf own_pd3 rfl) rfl (by show 2 * 0 + _ ≤ _; exact Nat.le_of_eq rfl) (hb hby at_78) (fun _ _ => ⟨rfl, e17, (by decide : 5 + 0 ≤ _), (by decide : 13 + 0 ≤ _)⟩)
    dsimp only [Pt.U, Pt.locs, Pt.cells, Pt.slots] at X22 l22 y22 z22 st22 hQ22
    subst l22 y22 z22
    obtain ⟨rfl, Nq22, K22, g22_0, g22_1⟩ := hQ22
    have N22 := Fr.app N17 Nq22
    refine own_st (fun _ k => st22.trans k) ?_
    have e22 : T22.heap = T22.heap := rfl
    show own_Ok p e below _ (T22.setTop (mkF m 81 #[.val (.int xv), .val (.int xc), .val (.long t1), .second, .val (.long t2), .second, .val (.int cr), .val (.int (0 : Int32)), .val (.int (((xv.toUInt32 >>> ((1 : Int32) &&& 31).toUInt32).toInt32) % (1048577 : Int32))), .val (.ref b2), .val (.ref b4), .unset, .unset, .unset] [(.ref b8)]))
    refine own_st (fun _ k => XS.astore X22.here hx rfl (hb hby at_81) rfl rfl (l' := #[.val (.int xv), .val (.int xc), .val (.long t1), .second, .val (.long t2), .second, .val (.int cr), .val (.int (0 : Int32)), .val (.int (((xv.toUInt32 >>> ((1 : Int32) &&& 31).toUInt32).toInt32) % (1048577 : Int32))), .val (.ref b2), .val (.ref b4), .val (.ref b8), .unset, .unset]) rfl k) ?_
    show own_Ok p e below _ (T22.setTop (mkF m 83 #[.val (.int xv), .val (.int xc), .val (.long t1), .second, .val (.long t2), .second, .val (.int cr), .val (.int (0 : Int32)), .val (.int (((xv.toUInt32 >>> ((1 : Int32) &&& 31).toUInt32).toInt32) % (1048577 : Int32))), .val (.ref b2), .val (.ref b4), .val (.ref b8), .unset, .unset] []))
    refine own_st (fun _ k => XS.aload X22.here hx rfl (hb hby at_83) rfl rfl k) ?_
    show own_Ok p e below _ (T22.setTop (mkF m 85 #[.val (.int xv), .val (.int xc), .val (.long t1), .second, .val (.long t2), .second, .val (.int cr), .val (.int (0 : Int32)), .val (.int (((xv.toUInt32 >>> ((1 : Int32) &&& 31).toUInt32).toInt32) % (1048577 : Int32))), .val (.ref b2), .val (.ref b4), .val (.ref b8), .unset, .unset] [(.ref b8)]))
    have f38 := f36.keep K22 (allS gb_b8 all0)
    have f39 := f23.keep K22
    obtain ⟨cq37, kq37, q37a, q37b, q37c⟩ := isOf hZ e22 f39
    obtain ⟨_, _, ⟨T37, L37, k37, n37⟩, -, X37, ⟨Lc37, hQ37, l37, y37, z37⟩, st37⟩ := X22.virtualBack hx (y := (⟨"com/example/shardlift/shardlift/node/Records$Record", "isDelete", "()Z"⟩ : MethodName)) (z := (⟨"com/example/shardlift/shardlift/node/Records$Record", "isDelete", "()Z"⟩ : MethodName)) hown (mvT hZ (hw _ (List.mem_of_getElem? (i := 55) rfl))) (mvT hZ (hw _ (List.mem_of_getElem? (i := 56) rfl))) (notFace_of_selects (args := #[]) (mvT hZ (hw _ (List.mem_of_getElem? (i := 58) rfl)))) (mvT hZ (hw _ (List.mem_of_getElem? (i := 58) rfl))) (mvT hZ (hw _ (List.mem_of_getElem? (i := 57) rfl))) (by decide) (backOf (W := 0) (rm9 l Z a0 hw [] b8 ((((xv.toUInt32 >>> ((1 : Int32) &&& 31).toUInt32).toInt32) % (1048577 : Int32))) T22.heap n0 f38 g22_1) hZ (hw _ (List.mem_of_getElem? (i := 59) rfl)) (hw _ (List.mem_of_getElem? (i := 5) rfl)) (by decide) (by decide)) q37a q37c (g := (mkF m 85 #[.val (.int xv), .val (.int xc), .val (.long t1), .second, .val (.long t2), .second, .val (.int cr), .val (.int (0 : Int32)), .val (.int (((xv.toUInt32 >>> ((1 : Int32) &&& 31).toUInt32).toInt32) % (1048577 : Int32))), .val (.ref b2), .val (.ref b4), .val (.ref b8), .unset, .unset] [(.ref b8)])) rfl (by rw [hml]; rfl) (Steps.refl _) (argsL := []) (rest := []) (lenOf own_pd4 rfl) rfl (by show 2 * 0 + _ ≤ _; exact Nat.le_of_eq rfl) (hb hby at_85) (fun _ _ => ⟨rfl, e22, (by decide : 5 + 0 ≤ _), (by decide : 13 + 0 ≤ _)⟩)
    dsimp only [Pt.U, Pt.locs, Pt.cells, Pt.slots] at X37 l37 y37 z37 st37 hQ37
    subst l37 y37 z37
    obtain ⟨rfl, Nq37, e37⟩ := hQ37
    have N37 := Fr.app N22 Nq37
    refine own_st (fun _ k => st37.trans k) ?_
    show own_Ok p e below _ (T37.setTop (mkF m 88 #[.val (.int xv), .val (.int xc), .val (.long t1), .second, .val (.long t2), .second, .val (.int cr), .val (.int (0 : Int32)), .val (.int (((xv.toUInt32 >>> ((1 : Int32) &&& 31).toUInt32).toInt32) % (1048577 : Int32))), .val (.ref b2), .val (.ref b4), .val (.ref b8), .unset, .unset] [(.int (if (((xv.toUInt32 >>> ((1 : Int32) &&& 31).toUInt32).toInt32) % (1048577 : Int32)) < (0 : Int32) then (1 : Int32) else (0 : Int32)))]))
    rw [show (if (((xv.toUInt32 >>> ((1 : Int32) &&& 31).toUInt32).toInt32) % (1048577 : Int32)) < (0 : Int32) then (1 : Int32) else (0 : Int32)) = (0 : Int32) from if_neg (own_nneg xv)]
    show own_Ok p e below _ (T37.setTop (mkF m 88 #[.val (.int xv), .val (.int xc), .val (.long t1), .second, .val (.long t2), .second, .val (.int cr), .val (.int (0 : Int32)), .val (.int (((xv.toUInt32 >>> ((1 : Int32) &&& 31).toUInt32).toInt32) % (1048577 : Int32))), .val (.ref b2), .val (.ref b4), .val (.ref b8), .unset, .unset] [(.int (0 : Int32))]))
    show own_Ok p e below _ (T37.setTop (mkF m 88 #[.val (.int xv), .val (.int xc), .val (.long t1), .second, .val (.long t2), .second, .val (.int cr), .val (.int (0 : Int32)), .val (.int (((xv.toUInt32 >>> ((1 : Int32) &&& 31).toUInt32).toInt32) % (1048577 : Int32))), .val (.ref b2), .val (.ref b4), .val (.ref b8), .unset, .unset] [(.int (0 : Int32))]))
    refine own_st (fun _ k => XS.istore X37.here hx rfl (hb hby at_88) rfl (l' := #[.val (.int xv), .val (.int xc), .val (.long t1), .second, .val (.long t2), .second, .val (.int cr), .val (.int (0 : Int32)), .val (.int (((xv.toUInt32 >>> ((1 : Int32) &&& 31).toUInt32).toInt32) % (1048577 : Int32))), .val (.ref b2), .val (.ref b4), .val (.ref b8), .val (.int (0 : Int32)), .unset]) rfl k) ?_
    show own_Ok p e below _ (T37.setTop (mkF m 90 #[.val (.int xv), .val (.int xc), .val (.long t1), .second, .val (.long t2), .second, .val (.int cr), .val (.int (0 : Int32)), .val (.int (((xv.toUInt32 >>> ((1 : Int32) &&& 31).toUInt32).toInt32) % (1048577 : Int32))), .val (.ref b2), .val (.ref b4), .val (.ref b8), .val (.int (0 : Int32)), .unset] []))
    refine own_st (fun _ k => XS.iload X37.here hx rfl (hb hby at_90) rfl k) ?_
    show own_Ok p e below _ (T37.setTop (mkF m 92 #[.val (.int xv), .val (.int xc), .val (.long t1), .second, .val (.long t2), .second, .val (.int cr), .val (.int (0 : Int32)), .val (.int (((xv.toUInt32 >>> ((1 : Int32) &&& 31).toUInt32).toInt32) % (1048577 : Int32))), .val (.ref b2), .val (.ref b4), .val (.ref b8), .val (.int (0 : Int32)), .unset] [(.int (0 : Int32))]))
    refine own_st (fun _ k => XS.iload X37.here hx rfl (hb hby at_92) rfl k) ?_
    show own_Ok p e below _ (T37.setTop (mkF m 94 #[.val (.int xv), .val (.int xc), .val (.long t1), .second, .val (.long t2), .second, .val (.int cr), .val (.int (0 : Int32)), .val (.int (((xv.toUInt32 >>> ((1 : Int32) &&& 31).toUInt32).toInt32) % (1048577 : Int32))), .val (.ref b2), .val (.ref b4), .val (.ref b8), .val (.int (0 : Int32)), .unset] [(.int (0 : Int32)), (.int (0 : Int32))]))
    refine own_st (fun _ k => XS.icmpYes X37.here hx rfl (pc0 := 94) (pc' := 99) rfl (hb hby at_94) rfl (XT.ii_eq_t (by decide)) (by decide) (by decide) k) ?_
    show own_Ok p e below _ (T37.setTop (mkF m 99 #[.val (.int xv), .val (.int xc), .val (.long t1), .second, .val (.long t2), .second, .val (.int cr), .val (.int (0 : Int32)), .val (.int (((xv.toUInt32 >>> ((1 : Int32) &&& 31).toUInt32).toInt32) % (1048577 : Int32))), .val (.ref b2), .val (.ref b4), .val (.ref b8), .val (.int (0 : Int32)), .unset] []))
    refine own_st (fun _ k => XS.iload X37.here hx rfl (hb hby at_99) rfl k) ?_
    show own_Ok p e below _ (T37.setTop (mkF m 101 #[.val (.int xv), .val (.int xc), .val (.long t1), .second, .val (.long t2), .second, .val (.int cr), .val (.int (0 : Int32)), .val (.int (((xv.toUInt32 >>> ((1 : Int32) &&& 31).toUInt32).toInt32) % (1048577 : Int32))), .val (.ref b2), .val (.ref b4), .val (.ref b8), .val (.int (0 : Int32)), .unset] [(.int (0 : Int32))]))
    refine own_st (fun _ k => XS.ifYes X37.here hx rfl (pc0 := 101) (pc' := 109) rfl (hb hby at_101) rfl (XT.i0_eq_t (by decide)) (by decide) (by decide) k) ?_
    show own_Ok p e below _ (T37.setTop (mkF m 109 #[.val (.int xv), .val (.int xc), .val (.long t1), .second, .val (.long t2), .second, .val (.int cr), .val (.int (0 : Int32)), .val (.int (((xv.toUInt32 >>> ((1 : Int32) &&& 31).toUInt32).toInt32) % (1048577 : Int32))), .val (.ref b2), .val (.ref b4), .val (.ref b8), .val (.int (0 : Int32)), .unset] []))
    refine own_st (fun _ k => XS.bipush X37.here hx rfl (hb hby at_109) k) ?_
    show own_Ok p e below _ (T37.setTop (mkF m 111 #[.val (.int xv), .val (.int xc), .val (.long t1), .second, .val (.long t2), .second, .val (.int cr), .val (.int (0 : Int32)), .val (.int (((xv.toUInt32 >>> ((1 : Int32) &&& 31).toUInt32).toInt32) % (1048577 : Int32))), .val (.ref b2), .val (.ref b4), .val (.ref b8), .val (.int (0 : Int32)), .unset] [(.int (21 : Int32))]))
    refine own_st (fun _ k => XS.iload X37.here hx rfl (hb hby at_111) rfl k) ?_
    show own_Ok p e below _ (T37.setTop (mkF m 113 #[.val (.int xv), .val (.int xc), .val (.long t1), .second, .val (.long t2), .second, .val (.int cr), .val (.int (0 : Int32)), .val (.int (((xv.toUInt32 >>> ((1 : Int32) &&& 31).toUInt32).toInt32) % (1048577 : Int32))), .val (.ref b2), .val (.ref b4), .val (.ref b8), .val (.int (0 : Int32)), .unset] [(.int (((xv.toUInt32 >>> ((1 : Int32) &&& 31).toUInt32).toInt32) % (1048577 : Int32))), (.int (21 : Int32))]))
    refine own_st (fun _ k => XS.iadd X37.here hx rfl (hb hby at_113) rfl k) ?_
    show own_Ok p e below _ (T37.setTop (mkF m 114 #[.val (.int xv), .val (.int xc), .val (.long t1), .second, .val (.long t2), .second, .val (.int cr), .val (.int (0 : Int32)), .val (.int (((xv.toUInt32 >>> ((1 : Int32) &&& 31).toUInt32).toInt32) % (1048577 : Int32))), .val (.ref b2), .val (.ref b4), .val (.ref b8), .val (.int (0 : Int32)), .unset] [(.int ((21 : Int32) + (((xv.toUInt32 >>> ((1 : Int32) &&& 31).toUInt32).toInt32) % (1048577 : Int32))))]))
    refine own_st (fun _ k => XS.istore X37.here hx rfl (hb hby at_114) rfl (l' := #[.val (.int xv), .val (.int xc), .val (.long t1), .second, .val (.long t2), .second, .val (.int cr), .val (.int (0 : Int32)), .val (.int (((xv.toUInt32 >>> ((1 : Int32) &&& 31).toUInt32).toInt32) % (1048577 : Int32))), .val (.ref b2), .val (.ref b4), .val (.ref b8), .val (.int (0 : Int32)), .val (.int ((21 : Int32) + (((xv.toUInt32 >>> ((1 : Int32) &&& 31).toUInt32).toInt32) % (1048577 : Int32))))]) rfl k) ?_
    show own_Ok p e below _ (T37.setTop (mkF m 116 #[.val (.int xv), .val (.int xc), .val (.long t1), .second, .val (.long t2), .second, .val (.int cr), .val (.int (0 : Int32)), .val (.int (((xv.toUInt32 >>> ((1 : Int32) &&& 31).toUInt32).toInt32) % (1048577 : Int32))), .val (.ref b2), .val (.ref b4), .val (.ref b8), .val (.int (0 : Int32)), .val (.int ((21 : Int32) + (((xv.toUInt32 >>> ((1 : Int32) &&& 31).toUInt32).toInt32) % (1048577 : Int32))))] []))
    refine own_st (fun _ k => XS.aload X37.here hx rfl (hb hby at_116) rfl rfl k) ?_
    show own_Ok p e below _ (T37.setTop (mkF m 118 #[.val (.int xv), .val (.int xc), .val (.long t1), .second, .val (.long t2), .second, .val (.int cr), .val (.int (0 : Int32)), .val (.int (((xv.toUInt32 >>> ((1 : Int32) &&& 31).toUInt32).toInt32) % (1048577 : Int32))), .val (.ref b2), .val (.ref b4), .val (.ref b8), .val (.int (0 : Int32)), .val (.int ((21 : Int32) + (((xv.toUInt32 >>> ((1 : Int32) &&& 31).toUInt32).toInt32) % (1048577 : Int32))))] [(.ref b8)]))
    have f41 := f20.keep K17 (ninS ne_b4_b13 nin0)
    have f42 := f41.keep K22 (ninS ne_b4_b8 nin0)
    obtain ⟨cq40, kq40, q40a, q40b, q40c⟩ := isOf hZ e37 f39
    obtain ⟨_, _, ⟨T40, L40, k40, n40⟩, -, X40, ⟨Lc40, hQ40, l40, y40, z40⟩, st40⟩ := X37.virtualBack hx (y := (⟨"com/example/shardlift/shardlift/node/Records$Record", "length", "()I"⟩ : MethodName)) (z := (⟨"com/example/shardlift/shardlift/node/Records$Record", "length", "()I"⟩ : MethodName)) hown (mvT hZ (hw _ (List.mem_of_getElem? (i := 60) rfl))) (mvT hZ (hw _ (List.mem_of_getElem? (i := 61) rfl))) (notFace_of_selects (args := #[]) (mvT hZ (hw _ (List.mem_of_getElem? (i := 63) rfl)))) (mvT hZ (hw _ (List.mem_of_getElem? (i := 63) rfl))) (mvT hZ (hw _ (List.mem_of_getElem? (i := 62) rfl))) (by decide) (backOf (W := 0) (rm10 l Z a0 hw [] b8 b4 k4 (([(.int (nar .byte ((xc &&& (127 : Int32)).toInt8.toInt32)))] : List Value)) ((((xv.toUInt32 >>> ((1 : Int32) &&& 31).toUInt32).toInt32) % (1048577 : Int32))) T22.heap n0 f38 g22_1 g22_0 f42) hZ (hw _ (List.mem_of_getElem? (i := 64) rfl)) (hw _ (List.mem_of_getElem? (i := 5) rfl)) (by decide) (by decide)) q40a q40c (g := (mkF m 118 #[.val (.int xv), .val (.int xc), .val (.long t1), .second, .val (.long t2), .second, .val (.int cr), .val (.int (0 : Int32)), .val (.int (((xv.toUInt32 >>> ((1 : Int32) &&& 31).toUInt32).toInt32) % (1048577 : Int32))), .val (.ref b2), .val (.ref b4), .val (.ref b8), .val (.int (0 : Int32)), .val (.int ((21 : Int32) + (((xv.toUInt32 >>> ((1 : Int32) &&& 31).toUInt32).toInt32) % (1048577 : Int32))))] [(.ref b8)])) rfl (by rw [hml]; rfl) (Steps.refl _) (argsL := []) (rest := []) (lenOf own_pd5 rfl) rfl (by show 2 * 0 + _ ≤ _; exact Nat.le_of_eq rfl) (hb hby at_118) (fun _ _ => ⟨rfl, e37, (by decide : 5 + 0 ≤ _), (by decide : 13 + 0 ≤ _)⟩)
    dsimp only [Pt.U, Pt.locs, Pt.cells, Pt.slots] at X40 l40 y40 z40 st40 hQ40
    subst l40 y40 z40
    obtain ⟨rfl, Nq40, e40⟩ := hQ40
    have N40 := Fr.app N37 Nq40
    refine own_st (fun _ k => st40.trans k) ?_
    show own_Ok p e below _ (T40.setTop (mkF m 121 #[.val (.int xv), .val (.int xc), .val (.long t1), .second, .val (.long t2), .second, .val (.int cr), .val (.int (0 : Int32)), .val (.int (((xv.toUInt32 >>> ((1 : Int32) &&& 31).toUInt32).toInt32) % (1048577 : Int32))), .val (.ref b2), .val (.ref b4), .val (.ref b8), .val (.int (0 : Int32)), .val (.int ((21 : Int32) + (((xv.toUInt32 >>> ((1 : Int32) &&& 31).toUInt32).toInt32) % (1048577 : Int32))))] [(.int ((21 : Int32) + (if (((xv.toUInt32 >>> ((1 : Int32) &&& 31).toUInt32).toInt32) % (1048577 : Int32)) < (0 : Int32) then (0 : Int32) else (((xv.toUInt32 >>> ((1 : Int32) &&& 31).toUInt32).toInt32) % (1048577 : Int32)))))]))
    rw [show ((21 : Int32) + (if (((xv.toUInt32 >>> ((1 : Int32) &&& 31).toUInt32).toInt32) % (1048577 : Int32)) < (0 : Int32) then (0 : Int32) else (((xv.toUInt32 >>> ((1 : Int32) &&& 31).toUInt32).toInt32) % (1048577 : Int32)))) = ((21 : Int32) + (((xv.toUInt32 >>> ((1 : Int32) &&& 31).toUInt32).toInt32) % (1048577 : Int32))) from by rw [if_neg (own_nneg xv)]]
    show own_Ok p e below _ (T40.setTop (mkF m 121 #[.val (.int xv), .val (.int xc), .val (.long t1), .second, .val (.long t2), .second, .val (.int cr), .val (.int (0 : Int32)), .val (.int (((xv.toUInt32 >>> ((1 : Int32) &&& 31).toUInt32).toInt32) % (1048577 : Int32))), .val (.ref b2), .val (.ref b4), .val (.ref b8), .val (.int (0 : Int32)), .val (.int ((21 : Int32) + (((xv.toUInt32 >>> ((1 : Int32) &&& 31).toUInt32).toInt32) % (1048577 : Int32))))] [(.int ((21 : Int32) + (((xv.toUInt32 >>> ((1 : Int32) &&& 31).toUInt32).toInt32) % (1048577 : Int32))))]))
    show own_Ok p e below _ (T40.setTop (mkF m 121 #[.val (.int xv), .val (.int xc), .val (.long t1), .second, .val (.long t2), .second, .val (.int cr), .val (.int (0 : Int32)), .val (.int (((xv.toUInt32 >>> ((1 : Int32) &&& 31).toUInt32).toInt32) % (1048577 : Int32))), .val (.ref b2), .val (.ref b4), .val (.ref b8), .val (.int (0 : Int32)), .val (.int ((21 : Int32) + (((xv.toUInt32 >>> ((1 : Int32) &&& 31).toUInt32).toInt32) % (1048577 : Int32))))] [(.int ((21 : Int32) + (((xv.toUInt32 >>> ((1 : Int32) &&& 31).toUInt32).toInt32) % (1048577 : Int32))))]))
    refine own_st (fun _ k => XS.iload X40.here hx rfl (hb hby at_121) rfl k) ?_
    show own_Ok p e below _ (T40.setTop (mkF m 123 #[.val (.int xv), .val (.int xc), .val (.long t1), .second, .val (.long t2), .second, .val (.int cr), .val (.int (0 : Int32)), .val (.int (((xv.toUInt32 >>> ((1 : Int32) &&& 31).toUInt32).toInt32) % (1048577 : Int32))), .val (.ref b2), .val (.ref b4), .val (.ref b8), .val (.int (0 : Int32)), .val (.int ((21 : Int32) + (((xv.toUInt32 >>> ((1 : Int32) &&& 31).toUInt32).toInt32) % (1048577 : Int32))))] [(.int ((21 : Int32) + (((xv.toUInt32 >>> ((1 : Int32) &&& 31).toUInt32).toInt32) % (1048577 : Int32)))), (.int ((21 : Int32) + (((xv.toUInt32 >>> ((1 : Int32) &&& 31).toUInt32).toInt32) % (1048577 : Int32))))]))
    refine own_st (fun _ k => XS.icmpNo X40.here hx rfl (hb hby at_123) rfl (XT.ii_ne_f rfl) k) ?_
    show own_Ok p e below _ (T40.setTop (mkF m 126 #[.val (.int xv), .val (.int xc), .val (.long t1), .second, .val (.long t2), .second, .val (.int cr), .val (.int (0 : Int32)), .val (.int (((xv.toUInt32 >>> ((1 : Int32) &&& 31).toUInt32).toInt32) % (1048577 : Int32))), .val (.ref b2), .val (.ref b4), .val (.ref b8), .val (.int (0 : Int32)), .val (.int ((21 : Int32) + (((xv.toUInt32 >>> ((1 : Int32) &&& 31).toUInt32).toInt32) % (1048577 : Int32))))] []))
    refine own_st (fun _ k => XS.iconst X40.here hx rfl (hb hby at_126) k) ?_
    show own_Ok p e below _ (T40.setTop (mkF m 127 #[.val (.int xv), .val (.int xc), .val (.long t1), .second, .val (.long t2), .second, .val (.int cr), .val (.int (0 : Int32)), .val (.int (((xv.toUInt32 >>> ((1 : Int32) &&& 31).toUInt32).toInt32) % (1048577 : Int32))), .val (.ref b2), .val (.ref b4), .val (.ref b8), .val (.int (0 : Int32)), .val (.int ((21 : Int32) + (((xv.toUInt32 >>> ((1 : Int32) &&& 31).toUInt32).toInt32) % (1048577 : Int32))))] [(.int (1 : Int32))]))
    refine own_st (fun _ k => XS.goto X40.here hx rfl (pc0 := 127) (pc' := 131) rfl (hb hby at_127) (by decide) (by decide) k) ?_
    show own_Ok p e below _ (T40.setTop (mkF m 131 #[.val (.int xv), .val (.int xc), .val (.long t1), .second, .val (.long t2), .second, .val (.int cr), .val (.int (0 : Int32)), .val (.int (((xv.toUInt32 >>> ((1 : Int32) &&& 31).toUInt32).toInt32) % (1048577 : Int32))), .val (.ref b2), .val (.ref b4), .val (.ref b8), .val (.int (0 : Int32)), .val (.int ((21 : Int32) + (((xv.toUInt32 >>> ((1 : Int32) &&& 31).toUInt32).toInt32) % (1048577 : Int32))))] [(.int (1 : Int32))]))
    exact own_retN X40 hx hlk (t := .boolean) Bd.returns (by simp) (hb hby at_131) (by rw [e40]; exact ⟨rfl, N40⟩) (by decide) (by decide)
  · skip
    refine own_st (fun _ k => XS.ifNo X0.here hx rfl (hb hby at_3) rfl (XT.i0_eq_f c3_1) k) ?_
    show own_Ok p e below _ (s₁.setTop (mkF m 6 #[.val (.int xv), .val (.int xc), .val (.long t1), .second, .val (.long t2), .second, .val (.int cr), .unset, .unset, .unset, .unset, .unset, .unset, .unset] []))
    refine own_st (fun _ k => XS.iconst X0.here hx rfl (hb hby at_6) k) ?_
    show own_Ok p e below _ (s₁.setTop (mkF m 7 #[.val (.int xv), .val (.int xc), .val (.long t1), .second, .val (.long t2), .second, .val (.int cr), .unset, .unset, .unset, .unset, .unset, .unset, .unset] [(.int (1 : Int32))]))
    refine own_st (fun _ k => XS.goto X0.here hx rfl (pc0 := 7) (pc' := 11) rfl (hb hby at_7) (by decide) (by decide) k) ?_
    show own_Ok p e below _ (s₁.setTop (mkF m 11 #[.val (.int xv), .val (.int xc), .val (.long t1), .second, .val (.long t2), .second, .val (.int cr), .unset, .unset, .unset, .unset, .unset, .unset, .unset] [(.int (1 : Int32))]))
    refine own_st (fun _ k => XS.istore X0.here hx rfl (hb hby at_11) rfl (l' := #[.val (.int xv), .val (.int xc), .val (.long t1), .second, .val (.long t2), .second, .val (.int cr), .val (.int (1 : Int32)), .unset, .unset, .unset, .unset, .unset, .unset]) rfl k) ?_
    show own_Ok p e below _ (s₁.setTop (mkF m 13 #[.val (.int xv), .val (.int xc), .val (.long t1), .second, .val (.long t2), .second, .val (.int cr), .val (.int (1 : Int32)), .unset, .unset, .unset, .unset, .unset, .unset] []))
    refine own_st (fun _ k => XS.iload X0.here hx rfl (hb hby at_13) rfl k) ?_
    show own_Ok p e below _ (s₁.setTop (mkF m 15 #[.val (.int xv), .val (.int xc), .val (.long t1), .second, .val (.long t2), .second, .val (.int cr), .val (.int (1 : Int32)), .unset, .unset, .unset, .unset, .unset, .unset] [(.int (1 : Int32))]))
    refine own_st (fun _ k => XS.ifNo X0.here hx rfl (hb hby at_15) rfl (XT.i0_eq_f (by decide)) k) ?_
    show own_Ok p e below _ (s₁.setTop (mkF m 18 #[.val (.int xv), .val (.int xc), .val (.long t1), .second, .val (.long t2), .second, .val (.int cr), .val (.int (1 : Int32)), .unset, .unset, .unset, .unset, .unset, .unset] []))
    refine own_st (fun _ k => XS.iconst X0.here hx rfl (hb hby at_18) k) ?_
    show own_Ok p e below _ (s₁.setTop (mkF m 19 #[.val (.int xv), .val (.int xc), .val (.long t1), .second, .val (.long t2), .second, .val (.int cr), .val (.int (1 : Int32)), .unset, .unset, .unset, .unset, .unset, .unset] [(.int (-1 : Int32))]))
    refine own_st (fun _ k => XS.goto X0.here hx rfl (pc0 := 19) (pc' := 28) rfl (hb hby at_19) (by decide) (by decide) k) ?_
    show own_Ok p e below _ (s₁.setTop (mkF m 28 #[.val (.int xv), .val (.int xc), .val (.long t1), .second, .val (.long t2), .second, .val (.int cr), .val (.int (1 : Int32)), .unset, .unset, .unset, .unset, .unset, .unset] [(.int (-1 : Int32))]))
    refine own_st (fun _ k => XS.istore X0.here hx rfl (hb hby at_28) rfl (l' := #[.val (.int xv), .val (.int xc), .val (.long t1), .second, .val (.long t2), .second, .val (.int cr), .val (.int (1 : Int32)), .val (.int (-1 : Int32)), .unset, .unset, .unset, .unset, .unset]) rfl k) ?_
    show own_Ok p e below _ (s₁.setTop (mkF m 30 #[.val (.int xv), .val (.int xc), .val (.long t1), .second, .val (.long t2), .second, .val (.int cr), .val (.int (1 : Int32)), .val (.int (-1 : Int32)), .unset, .unset, .unset, .unset, .unset] []))
    refine own_st (fun _ k => XS.iconst X0.here hx rfl (hb hby at_30) k) ?_
    show own_Ok p e below _ (s₁.setTop (mkF m 31 #[.val (.int xv), .val (.int xc), .val (.long t1), .second, .val (.long t2), .second, .val (.int cr), .val (.int (1 : Int32)), .val (.int (-1 : Int32)), .unset, .unset, .unset, .unset, .unset] [(.int (1 : Int32))]))
    obtain ⟨T43, h43, k43, X43, e43, E43, A43, st43⟩ := newP X0 hx hZ (hw _ (List.mem_of_getElem? (i := 1) rfl)) e0 (g := (mkF m 31 #[.val (.int xv), .val (.int xc), .val (.long t1), .second, .val (.long t2), .second, .val (.int cr), .val (.int (1 : Int32)), .val (.int (-1 : Int32)), .unset, .unset, .unset, .unset, .unset] [(.int (1 : Int32))])) rfl (hb hby at_31) rfl (by decide) (cap := 1) (by decide) (by decide) (by decide) (by decide)
    obtain ⟨b43, g43⟩ : ∃ z, z = h0.size := ⟨_, rfl⟩
    rw [← g43] at A43 st43
    refine own_st st43 ?_
    have gb_b43 : n0 ≤ b43 := Nat.le_trans (own_n0 O0) (Nat.le_of_eq g43.symm)
    have V43 : Arv Z h43 b43 k43 .char (1 : Int32) [(.int (0 : Int32))] (.int (0 : Int32)) := (Arv.new A43 (by decide)).pad (pad_rep [] (.int (0 : Int32)) 1)
    show own_Ok p e below _ (T43.setTop (mkF m 33 #[.val (.int xv), .val (.int xc), .val (.long t1), .second, .val (.long t2), .second, .val (.int cr), .val (.int (1 : Int32)), .val (.int (-1 : Int32)), .unset, .unset, .unset, .unset, .unset] [(.ref b43)]))
    refine own_st (fun _ k => XS.dup X43.here hx rfl (hb hby at_33) rfl rfl k) ?_
    show own_Ok p e below _ (T43.setTop (mkF m 34 #[.val (.int xv), .val (.int xc), .val (.long t1), .second, .val (.long t2), .second, .val (.int cr), .val (.int (1 : Int32)), .val (.int (-1 : Int32)), .unset, .unset, .unset, .unset, .unset] [(.ref b43), (.ref b43)]))
    refine own_st (fun _ k => XS.iconst X43.here hx rfl (hb hby at_34) k) ?_
    show own_Ok p e below _ (T43.setTop (mkF m 35 #[.val (.int xv), .val (.int xc), .val (.long t1), .second, .val (.long t2), .second, .val (.int cr), .val (.int (1 : Int32)), .val (.int (-1 : Int32)), .unset, .unset, .unset, .unset, .unset] [(.int (0 : Int32)), (.ref b43), (.ref b43)]))
    refine own_st (fun _ k => XS.iloadN X43.here hx rfl (hb hby at_35) rfl k) ?_
    show own_Ok p e below _ (T43.setTop (mkF m 36 #[.val (.int xv), .val (.int xc), .val (.long t1), .second, .val (.long t2), .second, .val (.int cr), .val (.int (1 : Int32)), .val (.int (-1 : Int32)), .unset, .unset, .unset, .unset, .unset] [(.int xc), (.int (0 : Int32)), (.ref b43), (.ref b43)]))
    refine own_st (fun _ k => XS.bipush X43.here hx rfl (hb hby at_36) k) ?_
    show own_Ok p e below _ (T43.setTop (mkF m 38 #[.val (.int xv), .val (.int xc), .val (.long t1), .second, .val (.long t2), .second, .val (.int cr), .val (.int (1 : Int32)), .val (.int (-1 : Int32)), .unset, .unset, .unset, .unset, .unset] [(.int (127 : Int32)), (.int xc), (.int (0 : Int32)), (.ref b43), (.ref b43)]))
    refine own_st (fun _ k => XS.iand X43.here hx rfl (hb hby at_38) rfl k) ?_
    show own_Ok p e below _ (T43.setTop (mkF m 39 #[.val (.int xv), .val (.int xc), .val (.long t1), .second, .val (.long t2), .second, .val (.int cr), .val (.int (1 : Int32)), .val (.int (-1 : Int32)), .unset, .unset, .unset, .unset, .unset] [(.int (xc &&& (127 : Int32))), (.int (0 : Int32)), (.ref b43), (.ref b43)]))
    refine own_st (fun _ k => XS.i2c X43.here hx rfl (hb hby at_39) rfl k) ?_
    show own_Ok p e below _ (T43.setTop (mkF m 40 #[.val (.int xv), .val (.int xc), .val (.long t1), .second, .val (.long t2), .second, .val (.int cr), .val (.int (1 : Int32)), .val (.int (-1 : Int32)), .unset, .unset, .unset, .unset, .unset] [(.int ((xc &&& (127 : Int32)).toUInt32.toUInt16.toUInt32.toInt32)), (.int (0 : Int32)), (.ref b43), (.ref b43)]))
    obtain ⟨T44, h44, X44, e44, W44, V44, st44⟩ := own_stC X43 hx hZ e43 V43 0 rfl (by decide) (by decide) (Nat.le_of_ble_eq_true rfl) (g := (mkF m 40 #[.val (.int xv), .val (.int xc), .val (.long t1), .second, .val (.long t2), .second, .val (.int cr), .val (.int (1 : Int32)), .val (.int (-1 : Int32)), .unset, .unset, .unset, .unset, .unset] [(.int ((xc &&& (127 : Int32)).toUInt32.toUInt16.toUInt32.toInt32)), (.int (0 : Int32)), (.ref b43), (.ref b43)])) rfl rfl (hb hby at_40)
    refine own_st st44 ?_
    have V44' : Arv Z h44 b43 k43 .char (1 : Int32) [(.int (nar .char ((xc &&& (127 : Int32)).toUInt32.toUInt16.toUInt32.toInt32)))] (.int (0 : Int32)) := V44
    have N44 := Fr.snoc X44 N0 gb_b43
    show own_Ok p e below _ (T44.setTop (mkF m 41 #[.val (.int xv), .val (.int xc), .val (.long t1), .second, .val (.long t2), .second, .val (.int cr), .val (.int (1 : Int32)), .val (.int (-1 : Int32)), .unset, .unset, .unset, .unset, .unset] [(.ref b43)]))
    refine own_st (fun _ k => XS.astore X44.here hx rfl (hb hby at_41) rfl rfl (l' := #[.val (.int xv), .val (.int xc), .val (.long t1), .second, .val (.long t2), .second, .val (.int cr), .val (.int (1 : Int32)), .val (.int (-1 : Int32)), .val (.ref b43), .unset, .unset, .unset, .unset]) rfl k) ?_
    show own_Ok p e below _ (T44.setTop (mkF m 43 #[.val (.int xv), .val (.int xc), .val (.long t1), .second, .val (.long t2), .second, .val (.int cr), .val (.int (1 : Int32)), .val (.int (-1 : Int32)), .val (.ref b43), .unset, .unset, .unset, .unset] []))
    refine own_st (fun _ k => XS.iconst X44.here hx rfl (hb hby at_43) k) ?_
    show own_Ok p e below _ (T44.setTop (mkF m 44 #[.val (.int xv), .val (.int xc), .val (.long t1), .second, .val (.long t2), .second, .val (.int cr), .val (.int (1 : Int32)), .val (.int (-1 : Int32)), .val (.ref b43), .unset, .unset, .unset, .unset] [(.int (1 : Int32))]))
    obtain ⟨T45, h45, k45, X45, e45, E45, A45, st45⟩ := newP X44 hx hZ (hw _ (List.mem_of_getElem? (i := 2) rfl)) e44 (g := (mkF m 44 #[.val (.int xv), .val (.int xc), .val (.long t1), .second, .val (.long t2), .second, .val (.int cr), .val (.int (1 : Int32)), .val (.int (-1 : Int32)), .val (.ref b43), .unset, .unset, .unset, .unset] [(.int (1 : Int32))])) rfl (hb hby at_44) rfl (by decide) (cap := 1) (by decide) (by decide) (by decide) (by decide)
    obtain ⟨b45, g45⟩ : ∃ z, z = h44.size := ⟨_, rfl⟩
    rw [← g45] at A45 st45
    refine own_st st45 ?_
    have f46 := O0.ext E43
    have f47 := f46.wr W44 gb_b43
    have gb_b45 : n0 ≤ b45 := Nat.le_trans (own_n0 f47) (Nat.le_of_eq g45.symm)
    have ne_b43_b45 : b43 ≠ b45 := Nat.ne_of_lt (Nat.lt_of_lt_of_le V44'.lt (Nat.le_of_eq g45.symm))
    have V45 : Arv Z h45 b45 k45 .byte (1 : Int32) [(.int (0 : Int32))] (.int (0 : Int32)) := (Arv.new A45 (by decide)).pad (pad_rep [] (.int (0 : Int32)) 1)
    show own_Ok p e below _ (T45.setTop (mkF m 46 #[.val (.int xv), .val (.int xc), .val (.long t1), .second, .val (.long t2), .second, .val (.int cr), .val (.int (1 : Int32)), .val (.int (-1 : Int32)), .val (.ref b43), .unset, .unset, .unset, .unset] [(.ref b45)]))
    refine own_st (fun _ k => XS.dup X45.here hx rfl (hb hby at_46) rfl rfl k) ?_
    show own_Ok p e below _ (T45.setTop (mkF m 47 #[.val (.int xv), .val (.int xc), .val (.long t1), .second, .val (.long t2), .second, .val (.int cr), .val (.int (1 : Int32)), .val (.int (-1 : Int32)), .val (.ref b43), .unset, .unset, .unset, .unset] [(.ref b45), (.ref b45)]))
    refine own_st (fun _ k => XS.iconst X45.here hx rfl (hb hby at_47) k) ?_
    show own_Ok p e below _ (T45.setTop (mkF m 48 #[.val (.int xv), .val (.int xc), .val (.long t1), .second, .val (.long t2), .second, .val (.int cr), .val (.int (1 : Int32)), .val (.int (-1 : Int32)), .val (.ref b43), .unset, .unset, .unset, .unset] [(.int (0 : Int32)), (.ref b45), (.ref b45)]))
    refine own_st (fun _ k => XS.iloadN X45.here hx rfl (hb hby at_48) rfl k) ?_
    show own_Ok p e below _ (T45.setTop (mkF m 49 #[.val (.int xv), .val (.int xc), .val (.long t1), .second, .val (.long t2), .second, .val (.int cr), .val (.int (1 : Int32)), .val (.int (-1 : Int32)), .val (.ref b43), .unset, .unset, .unset, .unset] [(.int xc), (.int (0 : Int32)), (.ref b45), (.ref b45)]))
    refine own_st (fun _ k => XS.bipush X45.here hx rfl (hb hby at_49) k) ?_
    show own_Ok p e below _ (T45.setTop (mkF m 51 #[.val (.int xv), .val (.int xc), .val (.long t1), .second, .val (.long t2), .second, .val (.int cr), .val (.int (1 : Int32)), .val (.int (-1 : Int32)), .val (.ref b43), .unset, .unset, .unset, .unset] [(.int (127 : Int32)), (.int xc), (.int (0 : Int32)), (.ref b45), (.ref b45)]))
    refine own_st (fun _ k => XS.iand X45.here hx rfl (hb hby at_51) rfl k) ?_
    show own_Ok p e below _ (T45.setTop (mkF m 52 #[.val (.int xv), .val (.int xc), .val (.long t1), .second, .val (.long t2), .second, .val (.int cr), .val (.int (1 : Int32)), .val (.int (-1 : Int32)), .val (.ref b43), .unset, .unset, .unset, .unset] [(.int (xc &&& (127 : Int32))), (.int (0 : Int32)), (.ref b45), (.ref b45)]))
    refine own_st (fun _ k => XS.i2b X45.here hx rfl (hb hby at_52) rfl k) ?_
    show own_Ok p e below _ (T45.setTop (mkF m 53 #[.val (.int xv), .val (.int xc), .val (.long t1), .second, .val (.long t2), .second, .val (.int cr), .val (.int (1 : Int32)), .val (.int (-1 : Int32)), .val (.ref b43), .unset, .unset, .unset, .unset] [(.int ((xc &&& (127 : Int32)).toInt8.toInt32)), (.int (0 : Int32)), (.ref b45), (.ref b45)]))
    obtain ⟨T48, h48, X48, e48, W48, V48, st48⟩ := own_stB X45 hx hZ e45 V45 0 rfl (by decide) (by decide) (Nat.le_of_ble_eq_true rfl) (g := (mkF m 53 #[.val (.int xv), .val (.int xc), .val (.long t1), .second, .val (.long t2), .second, .val (.int cr), .val (.int (1 : Int32)), .val (.int (-1 : Int32)), .val (.ref b43), .unset, .unset, .unset, .unset] [(.int ((xc &&& (127 : Int32)).toInt8.toInt32)), (.int (0 : Int32)), (.ref b45), (.ref b45)])) rfl rfl (hb hby at_53)
    refine own_st st48 ?_
    have V48' : Arv Z h48 b45 k45 .byte (1 : Int32) [(.int (nar .byte ((xc &&& (127 : Int32)).toInt8.toInt32)))] (.int (0 : Int32)) := V48
    have N48 := Fr.snoc X48 N44 gb_b45
    show own_Ok p e below _ (T48.setTop (mkF m 54 #[.val (.int xv), .val (.int xc), .val (.long t1), .second, .val (.long t2), .second, .val (.int cr), .val (.int (1 : Int32)), .val (.int (-1 : Int32)), .val (.ref b43), .unset, .unset, .unset, .unset] [(.ref b45)]))
    refine own_st (fun _ k => XS.astore X48.here hx rfl (hb hby at_54) rfl rfl (l' := #[.val (.int xv), .val (.int xc), .val (.long t1), .second, .val (.long t2), .second, .val (.int cr), .val (.int (1 : Int32)), .val (.int (-1 : Int32)), .val (.ref b43), .val (.ref b45), .unset, .unset, .unset]) rfl k) ?_
    show own_Ok p e below _ (T48.setTop (mkF m 56 #[.val (.int xv), .val (.int xc), .val (.long t1), .second, .val (.long t2), .second, .val (.int cr), .val (.int (1 : Int32)), .val (.int (-1 : Int32)), .val (.ref b43), .val (.ref b45), .unset, .unset, .unset] []))
    obtain ⟨T49, h49, X49, e49, E49, A49, D49, -, st49⟩ := newO X48 hx hZ hown (hw _ (List.mem_of_getElem? (i := 3) rfl)) (hw _ (List.mem_of_getElem? (i := 4) rfl)) (hw _ (List.mem_of_getElem? (i := 5) rfl)) e48 (g := (mkF m 56 #[.val (.int xv), .val (.int xc), .val (.long t1), .second, .val (.long t2), .second, .val (.int cr), .val (.int (1 : Int32)), .val (.int (-1 : Int32)), .val (.ref b43), .val (.ref b45), .unset, .unset, .unset] [])) rfl (hb hby at_56) (by decide) (by decide)
    obtain ⟨b49, g49⟩ : ∃ z, z = h48.size := ⟨_, rfl⟩
    rw [← g49] at A49 D49 st49
    refine own_st st49 ?_
    have f50 := f47.ext E45
    have f51 := f50.wr W48 gb_b45
    have gb_b49 : n0 ≤ b49 := Nat.le_trans (own_n0 f51) (Nat.le_of_eq g49.symm)
    have f52 := V44'.ext E45
    have f53 := f52.other W48 ne_b43_b45
    have ne_b43_b49 : b43 ≠ b49 := Nat.ne_of_lt (Nat.lt_of_lt_of_le f53.lt (Nat.le_of_eq g49.symm))
    have ne_b45_b49 : b45 ≠ b49 := Nat.ne_of_lt (Nat.lt_of_lt_of_le V48'.lt (Nat.le_of_eq g49.symm))
    have F49_key : Fld Z h49 b49 "com/example/shardlift/shardlift/node/Records$Record" "key" "Ljava/lang/String;" .null := D49 (Or.inr (hw _ (List.mem_of_getElem? (i := 44) rfl))) (ty := (.object "java/lang/String")) (by decide)
    have F49_utf8 : Fld Z h49 b49 "com/example/shardlift/shardlift/node/Records$Record" "utf8" "[B" .null := D49 (Or.inr (hw _ (List.mem_of_getElem? (i := 46) rfl))) (ty := (.array .byte)) (by decide)
    have F49_token : Fld Z h49 b49 "com/example/shardlift/shardlift/node/Records$Record" "token" "J" (.long (0 : Int64)) := D49 (Or.inr (hw _ (List.mem_of_getElem? (i := 48) rfl))) (ty := .long) (by decide)
    have F49_timestamp : Fld Z h49 b49 "com/example/shardlift/shardlift/node/Records$Record" "timestamp" "J" (.long (0 : Int64)) := D49 (Or.inr (hw _ (List.mem_of_getElem? (i := 50) rfl))) (ty := .long) (by decide)
    have F49_valueLength : Fld Z h49 b49 "com/example/shardlift/shardlift/node/Records$Record" "valueLength" "I" (.int (0 : Int32)) := D49 (Or.inr (hw _ (List.mem_of_getElem? (i := 52) rfl))) (ty := .int) (by decide)
    have F49_crc : Fld Z h49 b49 "com/example/shardlift/shardlift/node/Records$Record" "crc" "I" (.int (0 : Int32)) := D49 (Or.inr (hw _ (List.mem_of_getElem? (i := 54) rfl))) (ty := .int) (by decide)
    show own_Ok p e below _ (T49.setTop (mkF m 59 #[.val (.int xv), .val (.int xc), .val (.long t1), .second, .val (.long t2), .second, .val (.int cr), .val (.int (1 : Int32)), .val (.int (-1 : Int32)), .val (.ref b43), .val (.ref b45), .unset, .unset, .unset] [(.ref b49)]))
    refine own_st (fun _ k => XS.dup X49.here hx rfl (hb hby at_59) rfl rfl k) ?_
    show own_Ok p e below _ (T49.setTop (mkF m 60 #[.val (.int xv), .val (.int xc), .val (.long t1), .second, .val (.long t2), .second, .val (.int cr), .val (.int (1 : Int32)), .val (.int (-1 : Int32)), .val (.ref b43), .val (.ref b45), .unset, .unset, .unset] [(.ref b49), (.ref b49)]))
    obtain ⟨T54, h54, X54, e54, E54, A54, D54, -, st54⟩ := newO X49 hx hZ hown (hw _ (List.mem_of_getElem? (i := 6) rfl)) (hw _ (List.mem_of_getElem? (i := 7) rfl)) (hw _ (List.mem_of_getElem? (i := 8) rfl)) e49 (g := (mkF m 60 #[.val (.int xv), .val (.int xc), .val (.long t1), .second, .val (.long t2), .second, .val (.int cr), .val (.int (1 : Int32)), .val (.int (-1 : Int32)), .val (.ref b43), .val (.ref b45), .unset, .unset, .unset] [(.ref b49), (.ref b49)])) rfl (hb hby at_60) (by decide) (by decide)
    obtain ⟨b54, g54⟩ : ∃ z, z = h49.size := ⟨_, rfl⟩
    rw [← g54] at A54 D54 st54
    refine own_st st54 ?_
    have f55 := f51.ext E49
    have gb_b54 : n0 ≤ b54 := Nat.le_trans (own_n0 f55) (Nat.le_of_eq g54.symm)
    have f56 := f53.ext E49
    have ne_b43_b54 : b43 ≠ b54 := Nat.ne_of_lt (Nat.lt_of_lt_of_le f56.lt (Nat.le_of_eq g54.symm))
    have f57 := V48'.ext E49
    have ne_b45_b54 : b45 ≠ b54 := Nat.ne_of_lt (Nat.lt_of_lt_of_le f57.lt (Nat.le_of_eq g54.symm))
    have ne_b49_b54 : b49 ≠ b54 := Nat.ne_of_lt (Nat.lt_of_lt_of_le A49.lt (Nat.le_of_eq g54.symm))
    have F54_coder : Fld Z h54 b54 "java/lang/String" "coder" "B" (.int (0 : Int32)) := D54 (Or.inr (hw _ (List.mem_of_getElem? (i := 31) rfl))) (ty := .byte) (by decide)
    have F54_value : Fld Z h54 b54 "java/lang/String" "value" "[B" .null := D54 (Or.inr (hw _ (List.mem_of_getElem? (i := 33) rfl))) (ty := (.array .byte)) (by decide)
    show own_Ok p e below _ (T54.setTop (mkF m 63 #[.val (.int xv), .val (.int xc), .val (.long t1), .second, .val (.long t2), .second, .val (.int cr), .val (.int (1 : Int32)), .val (.int (-1 : Int32)), .val (.ref b43), .val (.ref b45), .unset, .unset, .unset] [(.ref b54), (.ref b49), (.ref b49)]))
    refine own_st (fun _ k => XS.dup X54.here hx rfl (hb hby at_63) rfl rfl k) ?_
    show own_Ok p e below _ (T54.setTop (mkF m 64 #[.val (.int xv), .val (.int xc), .val (.long t1), .second, .val (.long t2), .second, .val (.int cr), .val (.int (1 : Int32)), .val (.int (-1 : Int32)), .val (.ref b43), .val (.ref b45), .unset, .unset, .unset] [(.ref b54), (.ref b54), (.ref b49), (.ref b49)]))
    refine own_st (fun _ k => XS.aload X54.here hx rfl (hb hby at_64) rfl rfl k) ?_
    show own_Ok p e below _ (T54.setTop (mkF m 66 #[.val (.int xv), .val (.int xc), .val (.long t1), .second, .val (.long t2), .second, .val (.int cr), .val (.int (1 : Int32)), .val (.int (-1 : Int32)), .val (.ref b43), .val (.ref b45), .unset, .unset, .unset] [(.ref b43), (.ref b54), (.ref b54), (.ref b49), (.ref b49)]))
    have f59 := f56.ext E54
    have f60 := f55.ext E54
    obtain ⟨_, _, ⟨T58, L58, k58, n58⟩, -, X58, ⟨Lc58, hQ58, l58, y58, z58⟩, st58⟩ := X54.specialBack hx (y := (⟨"java/lang/String", "<init>", "([C)V"⟩ : MethodName)) rfl hown (mvT hZ (hw _ (List.mem_of_getElem? (i := 9) rfl))) (mvT hZ (hw _ (List.mem_of_getElem? (i := 10) rfl))) (mvT hZ (hw _ (List.mem_of_getElem? (i := 11) rfl))) (by decide) (StrChars.Road.backV (W := 3) hZ hws (kI := 4) (hw _ (List.mem_of_getElem? (i := 7) rfl)) (cs := ([(nar .char ((xc &&& (127 : Int32)).toUInt32.toUInt16.toUInt32.toInt32))] : List Int32)) (bs := (([(nar .char ((xc &&& (127 : Int32)).toUInt32.toUInt16.toUInt32.toInt32))] : List Int32)).map (fun c => c.toInt8.toInt32)) (n := 1) gb_b54 (own_n0 f60) A54 F54_value F54_coder f59 (SG1.ext f60.2) PG1 rfl rfl (by decide) (by decide) (own_hp xc) rfl (by decide) (by decide)) (g := (mkF m 66 #[.val (.int xv), .val (.int xc), .val (.long t1), .second, .val (.long t2), .second, .val (.int cr), .val (.int (1 : Int32)), .val (.int (-1 : Int32)), .val (.ref b43), .val (.ref b45), .unset, .unset, .unset] [(.ref b43), (.ref b54), (.ref b54), (.ref b49), (.ref b49)])) rfl (by rw [hml]; rfl) (Steps.refl _) (a := b54) (argsL := [(.ref b43)]) (rest := [(.ref b54), (.ref b49), (.ref b49)]) (lenOf own_pd2 rfl) rfl (by show 2 * 0 + _ ≤ _; exact Nat.le_of_eq rfl) (hb hby at_66) (fun _ _ => ⟨rfl, e54, (by decide : 4 + 1 ≤ _), (by decide : 12 + 1 ≤ _)⟩)
    dsimp only [Pt.U, Pt.locs, Pt.cells, Pt.slots] at X58 l58 y58 z58 st58 hQ58
    subst l58 y58 z58
    obtain ⟨rfl, Nq58, K58, g58_0, g58_1, tS_60, kS_60, u1_60, u2_60, u3_60, vS_60, aS_60⟩ := hQ58
    have N58 := Fr.app N48 Nq58
    refine own_st (fun _ k => st58.trans k) ?_
    have gb_tS_60 : n0 ≤ tS_60 := Nat.le_trans (own_n0 f60) u2_60
    have ne_b43_tS_60 : b43 ≠ tS_60 := Nat.ne_of_lt (Nat.lt_of_lt_of_le f59.lt u2_60)
    have f61 := f57.ext E54
    have ne_b45_tS_60 : b45 ≠ tS_60 := Nat.ne_of_lt (Nat.lt_of_lt_of_le f61.lt u2_60)
    have f62 := A49.ext E54
    have ne_b49_tS_60 : b49 ≠ tS_60 := Nat.ne_of_lt (Nat.lt_of_lt_of_le f62.lt u2_60)
    have ne_b54_tS_60 : b54 ≠ tS_60 := Nat.ne_of_lt (Nat.lt_of_lt_of_le A54.lt u2_60)
    have e58 : T58.heap = T58.heap := rfl
    show own_Ok p e below _ (T58.setTop (mkF m 69 #[.val (.int xv), .val (.int xc), .val (.long t1), .second, .val (.long t2), .second, .val (.int cr), .val (.int (1 : Int32)), .val (.int (-1 : Int32)), .val (.ref b43), .val (.ref b45), .unset, .unset, .unset] [(.ref b54), (.ref b49), (.ref b49)]))
    show own_Ok p e below _ (T58.setTop (mkF m 69 #[.val (.int xv), .val (.int xc), .val (.long t1), .second, .val (.long t2), .second, .val (.int cr), .val (.int (1 : Int32)), .val (.int (-1 : Int32)), .val (.ref b43), .val (.ref b45), .unset, .unset, .unset] [(.ref b54), (.ref b49), (.ref b49)]))
    refine own_st (fun _ k => XS.aload X58.here hx rfl (hb hby at_69) rfl rfl k) ?_
    show own_Ok p e below _ (T58.setTop (mkF m 71 #[.val (.int xv), .val (.int xc), .val (.long t1), .second, .val (.long t2), .second, .val (.int cr), .val (.int (1 : Int32)), .val (.int (-1 : Int32)), .val (.ref b43), .val (.ref b45), .unset, .unset, .unset] [(.ref b45), (.ref b54), (.ref b49), (.ref b49)]))
    refine own_st (fun _ k => XS.lloadN X58.here hx rfl (hb hby at_71) rfl k) ?_
    show own_Ok p e below _ (T58.setTop (mkF m 72 #[.val (.int xv), .val (.int xc), .val (.long t1), .second, .val (.long t2), .second, .val (.int cr), .val (.int (1 : Int32)), .val (.int (-1 : Int32)), .val (.ref b43), .val (.ref b45), .unset, .unset, .unset] [(.long t1), (.ref b45), (.ref b54), (.ref b49), (.ref b49)]))
    refine own_st (fun _ k => XS.lload X58.here hx rfl (hb hby at_72) rfl k) ?_
    show own_Ok p e below _ (T58.setTop (mkF m 74 #[.val (.int xv), .val (.int xc), .val (.long t1), .second, .val (.long t2), .second, .val (.int cr), .val (.int (1 : Int32)), .val (.int (-1 : Int32)), .val (.ref b43), .val (.ref b45), .unset, .unset, .unset] [(.long t2), (.long t1), (.ref b45), (.ref b54), (.ref b49), (.ref b49)]))
    refine own_st (fun _ k => XS.iload X58.here hx rfl (hb hby at_74) rfl k) ?_
    show own_Ok p e below _ (T58.setTop (mkF m 76 #[.val (.int xv), .val (.int xc), .val (.long t1), .second, .val (.long t2), .second, .val (.int cr), .val (.int (1 : Int32)), .val (.int (-1 : Int32)), .val (.ref b43), .val (.ref b45), .unset, .unset, .unset] [(.int (-1 : Int32)), (.long t2), (.long t1), (.ref b45), (.ref b54), (.ref b49), (.ref b49)]))
    refine own_st (fun _ k => XS.iload X58.here hx rfl (hb hby at_76) rfl k) ?_
    show own_Ok p e below _ (T58.setTop (mkF m 78 #[.val (.int xv), .val (.int xc), .val (.long t1), .second, .val (.long t2), .second, .val (.int cr), .val (.int (1 : Int32)), .val (.int (-1 : Int32)), .val (.ref b43), .val (.ref b45), .unset, .unset, .unset] [(.int cr), (.int (-1 : Int32)), (.long t2), (.long t1), (.ref b45), (.ref b54), (.ref b49), (.ref b49)]))
    have f64 := f62.keep K58
    have f65 := F49_key.ext E54
    have f66 := f65.keep K58 (ninS ne_b49_b54 nin0)
    have f67 := F49_utf8.ext E54
    have f68 := f67.keep K58 (ninS ne_b49_b54 nin0)
    have f69 := F49_token.ext E54
    have f70 := f69.keep K58 (ninS ne_b49_b54 nin0)
    have f71 := F49_timestamp.ext E54
    have f72 := f71.keep K58 (ninS ne_b49_b54 nin0)
    have f73 := F49_valueLength.ext E54
    have f74 := f73.keep K58 (ninS ne_b49_b54 nin0)
    have f75 := F49_crc.ext E54
    have f76 := f75.keep K58 (ninS ne_b49_b54 nin0)
    have f77 := f60.keep K58 (allS gb_b54 all0)
    obtain ⟨_, _, ⟨T63, L63, k63, n63⟩, -, X63, ⟨Lc63, hQ63, l63, y63, z63⟩, st63⟩ := X58.specialBack hx (y := (⟨"com/example/shardlift/shardlift/node/Records$Record", "<init>", "(Ljava/lang/String;[BJJII)V"⟩ : MethodName)) rfl hown (mvT hZ (hw _ (List.mem_of_getElem? (i := 34) rfl))) (mvT hZ (hw _ (List.mem_of_getElem? (i := 35) rfl))) (mvT hZ (hw _ (List.mem_of_getElem? (i := 36) rfl))) (by decide) (backOf (W := 1) (rm7 l Z a0 hw [] b49 b54 b45 t1 t2 ((-1 : Int32)) cr T58.heap n0 f77 f64 f66 f68 f70 f72 f74 f76 gb_b49) hZ (hw _ (List.mem_of_getElem? (i := 36) rfl)) (hw _ (List.mem_of_getElem? (i := 5) rfl)) (by decide) (by decide)) (g := (mkF m 78 #[.val (.int xv), .val (.int xc), .val (.long t1), .second, .val (.long t2), .second, .val (.int cr), .val (.int (1 : Int32)), .val (.int (-1 : Int32)), .val (.ref b43), .val (.ref b45), .unset, .unset, .unset] [(.int cr), (.int (-1 : Int32)), (.long t2), (.long t1), (.ref b45), (.ref b54), (.ref b49), (.ref b49)])) rfl (by rw [hml]; rfl) (Steps.refl _) (a := b49) (argsL := [(.ref b54), (.ref b45), (.long t1), (.long t2), (.int (-1 : Int32)), (.int cr)]) (rest := [(.ref b49)]) (lenOf own_pd3 rfl) rfl (by show 2 * 0 + _ ≤ _; exact Nat.le_of_eq rfl) (hb hby at_78) (fun _ _ => ⟨rfl, e58, (by decide : 5 + 0 ≤ _), (by decide : 13 + 0 ≤ _)⟩)
    dsimp only [Pt.U, Pt.locs, Pt.cells, Pt.slots] at X63 l63 y63 z63 st63 hQ63
    subst l63 y63 z63
    obtain ⟨rfl, Nq63, K63, g63_0, g63_1⟩ := hQ63
    have N63 := Fr.app N58 Nq63
    refine own_st (fun _ k => st63.trans k) ?_
    have e63 : T63.heap = T63.heap := rfl
    show own_Ok p e below _ (T63.setTop (mkF m 81 #[.val (.int xv), .val (.int xc), .val (.long t1), .second, .val (.long t2), .second, .val (.int cr), .val (.int (1 : Int32)), .val (.int (-1 : Int32)), .val (.ref b43), .val (.ref b45), .unset, .unset, .unset] [(.ref b49)]))
    refine own_st (fun _ k => XS.astore X63.here hx rfl (hb hby at_81) rfl rfl (l' := #[.val (.int xv), .val (.int xc), .val (.long t1), .second, .val (.long t2), .second, .val (.int cr), .val (.int (1 : Int32)), .val (.int (-1 : Int32)), .val (.ref b43), .val (.ref b45), .val (.ref b49), .unset, .unset]) rfl k) ?_
    show own_Ok p e below _ (T63.setTop (mkF m 83 #[.val (.int xv), .val (.int xc), .val (.long t1), .second, .val (.long t2), .second, .val (.int cr), .val (.int (1 : Int32)), .val (.int (-1 : Int32)), .val (.ref b43), .val (.ref b45), .val (.ref b49), .unset, .unset] []))
    refine own_st (fun _ k => XS.aload X63.here hx rfl (hb hby at_83) rfl rfl k) ?_
    show own_Ok p e below _ (T63.setTop (mkF m 85 #[.val (.int xv), .val (.int xc), .val (.long t1), .second, .val (.long t2), .second, .val (.int cr), .val (.int (1 : Int32)), .val (.int (-1 : Int32)), .val (.ref b43), .val (.ref b45), .val (.ref b49), .unset, .unset] [(.ref b49)]))
    have f79 := f77.keep K63 (allS gb_b49 all0)
    have f80 := f64.keep K63
    obtain ⟨cq78, kq78, q78a, q78b, q78c⟩ := isOf hZ e63 f80
    obtain ⟨_, _, ⟨T78, L78, k78, n78⟩, -, X78, ⟨Lc78, hQ78, l78, y78, z78⟩, st78⟩ := X63.virtualBack hx (y := (⟨"com/example/shardlift/shardlift/node/Records$Record", "isDelete", "()Z"⟩ : MethodName)) (z := (⟨"com/example/shardlift/shardlift/node/Records$Record", "isDelete", "()Z"⟩ : MethodName)) hown (mvT hZ (hw _ (List.mem_of_getElem? (i := 55) rfl))) (mvT hZ (hw _ (List.mem_of_getElem? (i := 56) rfl))) (notFace_of_selects (args := #[]) (mvT hZ (hw _ (List.mem_of_getElem? (i := 58) rfl)))) (mvT hZ (hw _ (List.mem_of_getElem? (i := 58) rfl))) (mvT hZ (hw _ (List.mem_of_getElem? (i := 57) rfl))) (by decide) (backOf (W := 0) (rm9 l Z a0 hw [] b49 ((-1 : Int32)) T63.heap n0 f79 g63_1) hZ (hw _ (List.mem_of_getElem? (i := 59) rfl)) (hw _ (List.mem_of_getElem? (i := 5) rfl)) (by decide) (by decide)) q78a q78c (g := (mkF m 85 #[.val (.int xv), .val (.int xc), .val (.long t1), .second, .val (.long t2), .second, .val (.int cr), .val (.int (1 : Int32)), .val (.int (-1 : Int32)), .val (.ref b43), .val (.ref b45), .val (.ref b49), .unset, .unset] [(.ref b49)])) rfl (by rw [hml]; rfl) (Steps.refl _) (argsL := []) (rest := []) (lenOf own_pd4 rfl) rfl (by show 2 * 0 + _ ≤ _; exact Nat.le_of_eq rfl) (hb hby at_85) (fun _ _ => ⟨rfl, e63, (by decide : 5 + 0 ≤ _), (by decide : 13 + 0 ≤ _)⟩)
    dsimp only [Pt.U, Pt.locs, Pt.cells, Pt.slots] at X78 l78 y78 z78 st78 hQ78
    subst l78 y78 z78
    obtain ⟨rfl, Nq78, e78⟩ := hQ78
    have N78 := Fr.app N63 Nq78
    refine own_st (fun _ k => st78.trans k) ?_
    show own_Ok p e below _ (T78.setTop (mkF m 88 #[.val (.int xv), .val (.int xc), .val (.long t1), .second, .val (.long t2), .second, .val (.int cr), .val (.int (1 : Int32)), .val (.int (-1 : Int32)), .val (.ref b43), .val (.ref b45), .val (.ref b49), .unset, .unset] [(.int (if (-1 : Int32) < (0 : Int32) then (1 : Int32) else (0 : Int32)))]))
    rw [show (if (-1 : Int32) < (0 : Int32) then (1 : Int32) else (0 : Int32)) = (1 : Int32) from by decide]
    show own_Ok p e below _ (T78.setTop (mkF m 88 #[.val (.int xv), .val (.int xc), .val (.long t1), .second, .val (.long t2), .second, .val (.int cr), .val (.int (1 : Int32)), .val (.int (-1 : Int32)), .val (.ref b43), .val (.ref b45), .val (.ref b49), .unset, .unset] [(.int (1 : Int32))]))
    show own_Ok p e below _ (T78.setTop (mkF m 88 #[.val (.int xv), .val (.int xc), .val (.long t1), .second, .val (.long t2), .second, .val (.int cr), .val (.int (1 : Int32)), .val (.int (-1 : Int32)), .val (.ref b43), .val (.ref b45), .val (.ref b49), .unset, .unset] [(.int (1 : Int32))]))
    refine own_st (fun _ k => XS.istore X78.here hx rfl (hb hby at_88) rfl (l' := #[.val (.int xv), .val (.int xc), .val (.long t1), .second, .val (.long t2), .second, .val (.int cr), .val (.int (1 : Int32)), .val (.int (-1 : Int32)), .val (.ref b43), .val (.ref b45), .val (.ref b49), .val (.int (1 : Int32)), .unset]) rfl k) ?_
    show own_Ok p e below _ (T78.setTop (mkF m 90 #[.val (.int xv), .val (.int xc), .val (.long t1), .second, .val (.long t2), .second, .val (.int cr), .val (.int (1 : Int32)), .val (.int (-1 : Int32)), .val (.ref b43), .val (.ref b45), .val (.ref b49), .val (.int (1 : Int32)), .unset] []))
    refine own_st (fun _ k => XS.iload X78.here hx rfl (hb hby at_90) rfl k) ?_
    show own_Ok p e below _ (T78.setTop (mkF m 92 #[.val (.int xv), .val (.int xc), .val (.long t1), .second, .val (.long t2), .second, .val (.int cr), .val (.int (1 : Int32)), .val (.int (-1 : Int32)), .val (.ref b43), .val (.ref b45), .val (.ref b49), .val (.int (1 : Int32)), .unset] [(.int (1 : Int32))]))
    refine own_st (fun _ k => XS.iload X78.here hx rfl (hb hby at_92) rfl k) ?_
    show own_Ok p e below _ (T78.setTop (mkF m 94 #[.val (.int xv), .val (.int xc), .val (.long t1), .second, .val (.long t2), .second, .val (.int cr), .val (.int (1 : Int32)), .val (.int (-1 : Int32)), .val (.ref b43), .val (.ref b45), .val (.ref b49), .val (.int (1 : Int32)), .unset] [(.int (1 : Int32)), (.int (1 : Int32))]))
    refine own_st (fun _ k => XS.icmpYes X78.here hx rfl (pc0 := 94) (pc' := 99) rfl (hb hby at_94) rfl (XT.ii_eq_t (by decide)) (by decide) (by decide) k) ?_
    show own_Ok p e below _ (T78.setTop (mkF m 99 #[.val (.int xv), .val (.int xc), .val (.long t1), .second, .val (.long t2), .second, .val (.int cr), .val (.int (1 : Int32)), .val (.int (-1 : Int32)), .val (.ref b43), .val (.ref b45), .val (.ref b49), .val (.int (1 : Int32)), .unset] []))
    refine own_st (fun _ k => XS.iload X78.here hx rfl (hb hby at_99) rfl k) ?_
    show own_Ok p e below _ (T78.setTop (mkF m 101 #[.val (.int xv), .val (.int xc), .val (.long t1), .second, .val (.long t2), .second, .val (.int cr), .val (.int (1 : Int32)), .val (.int (-1 : Int32)), .val (.ref b43), .val (.ref b45), .val (.ref b49), .val (.int (1 : Int32)), .unset] [(.int (1 : Int32))]))
    refine own_st (fun _ k => XS.ifNo X78.here hx rfl (hb hby at_101) rfl (XT.i0_eq_f (by decide)) k) ?_
    show own_Ok p e below _ (T78.setTop (mkF m 104 #[.val (.int xv), .val (.int xc), .val (.long t1), .second, .val (.long t2), .second, .val (.int cr), .val (.int (1 : Int32)), .val (.int (-1 : Int32)), .val (.ref b43), .val (.ref b45), .val (.ref b49), .val (.int (1 : Int32)), .unset] []))
    refine own_st (fun _ k => XS.bipush X78.here hx rfl (hb hby at_104) k) ?_
    show own_Ok p e below _ (T78.setTop (mkF m 106 #[.val (.int xv), .val (.int xc), .val (.long t1), .second, .val (.long t2), .second, .val (.int cr), .val (.int (1 : Int32)), .val (.int (-1 : Int32)), .val (.ref b43), .val (.ref b45), .val (.ref b49), .val (.int (1 : Int32)), .unset] [(.int (21 : Int32))]))
    refine own_st (fun _ k => XS.goto X78.here hx rfl (pc0 := 106) (pc' := 114) rfl (hb hby at_106) (by decide) (by decide) k) ?_
    show own_Ok p e below _ (T78.setTop (mkF m 114 #[.val (.int xv), .val (.int xc), .val (.long t1), .second, .val (.long t2), .second, .val (.int cr), .val (.int (1 : Int32)), .val (.int (-1 : Int32)), .val (.ref b43), .val (.ref b45), .val (.ref b49), .val (.int (1 : Int32)), .unset] [(.int (21 : Int32))]))
    refine own_st (fun _ k => XS.istore X78.here hx rfl (hb hby at_114) rfl (l' := #[.val (.int xv), .val (.int xc), .val (.long t1), .second, .val (.long t2), .second, .val (.int cr), .val (.int (1 : Int32)), .val (.int (-1 : Int32)), .val (.ref b43), .val (.ref b45), .val (.ref b49), .val (.int (1 : Int32)), .val (.int (21 : Int32))]) rfl k) ?_
    show own_Ok p e below _ (T78.setTop (mkF m 116 #[.val (.int xv), .val (.int xc), .val (.long t1), .second, .val (.long t2), .second, .val (.int cr), .val (.int (1 : Int32)), .val (.int (-1 : Int32)), .val (.ref b43), .val (.ref b45), .val (.ref b49), .val (.int (1 : Int32)), .val (.int (21 : Int32))] []))
    refine own_st (fun _ k => XS.aload X78.here hx rfl (hb hby at_116) rfl rfl k) ?_
    show own_Ok p e below _ (T78.setTop (mkF m 118 #[.val (.int xv), .val (.int xc), .val (.long t1), .second, .val (.long t2), .second, .val (.int cr), .val (.int (1 : Int32)), .val (.int (-1 : Int32)), .val (.ref b43), .val (.ref b45), .val (.ref b49), .val (.int (1 : Int32)), .val (.int (21 : Int32))] [(.ref b49)]))
    have f82 := f61.keep K58 (ninS ne_b45_b54 nin0)
    have f83 := f82.keep K63 (ninS ne_b45_b49 nin0)
    obtain ⟨cq81, kq81, q81a, q81b, q81c⟩ := isOf hZ e78 f80
    obtain ⟨_, _, ⟨T81, L81, k81, n81⟩, -, X81, ⟨Lc81, hQ81, l81, y81, z81⟩, st81⟩ := X78.virtualBack hx (y := (⟨"com/example/shardlift/shardlift/node/Records$Record", "length", "()I"⟩ : MethodName)) (z := (⟨"com/example/shardlift/shardlift/node/Records$Record", "length", "()I"⟩ : MethodName)) hown (mvT hZ (hw _ (List.mem_of_getElem? (i := 60) rfl))) (mvT hZ (hw _ (List.mem_of_getElem? (i := 61) rfl))) (notFace_of_selects (args := #[]) (mvT hZ (hw _ (List.mem_of_getElem? (i := 63) rfl)))) (mvT hZ (hw _ (List.mem_of_getElem? (i := 63) rfl))) (mvT hZ (hw _ (List.mem_of_getElem? (i := 62) rfl))) (by decide) (backOf (W := 0) (rm10 l Z a0 hw [] b49 b45 k45 (([(.int (nar .byte ((xc &&& (127 : Int32)).toInt8.toInt32)))] : List Value)) ((-1 : Int32)) T63.heap n0 f79 g63_1 g63_0 f83) hZ (hw _ (List.mem_of_getElem? (i := 64) rfl)) (hw _ (List.mem_of_getElem? (i := 5) rfl)) (by decide) (by decide)) q81a q81c (g := (mkF m 118 #[.val (.int xv), .val (.int xc), .val (.long t1), .second, .val (.long t2), .second, .val (.int cr), .val (.int (1 : Int32)), .val (.int (-1 : Int32)), .val (.ref b43), .val (.ref b45), .val (.ref b49), .val (.int (1 : Int32)), .val (.int (21 : Int32))] [(.ref b49)])) rfl (by rw [hml]; rfl) (Steps.refl _) (argsL := []) (rest := []) (lenOf own_pd5 rfl) rfl (by show 2 * 0 + _ ≤ _; exact Nat.le_of_eq rfl) (hb hby at_118) (fun _ _ => ⟨rfl, e78, (by decide : 5 + 0 ≤ _), (by decide : 13 + 0 ≤ _)⟩)
    dsimp only [Pt.U, Pt.locs, Pt.cells, Pt.slots] at X81 l81 y81 z81 st81 hQ81
    subst l81 y81 z81
    obtain ⟨rfl, Nq81, e81⟩ := hQ81
    have N81 := Fr.app N78 Nq81
    refine own_st (fun _ k => st81.trans k) ?_
    show own_Ok p e below _ (T81.setTop (mkF m 121 #[.val (.int xv), .val (.int xc), .val (.long t1), .second, .val (.long t2), .second, .val (.int cr), .val (.int (1 : Int32)), .val (.int (-1 : Int32)), .val (.ref b43), .val (.ref b45), .val (.ref b49), .val (.int (1 : Int32)), .val (.int (21 : Int32))] [(.int ((21 : Int32) + (if (-1 : Int32) < (0 : Int32) then (0 : Int32) else (-1 : Int32))))]))
    rw [show ((21 : Int32) + (if (-1 : Int32) < (0 : Int32) then (0 : Int32) else (-1 : Int32))) = (21 : Int32) from by decide]
    show own_Ok p e below _ (T81.setTop (mkF m 121 #[.val (.int xv), .val (.int xc), .val (.long t1), .second, .val (.long t2), .second, .val (.int cr), .val (.int (1 : Int32)), .val (.int (-1 : Int32)), .val (.ref b43), .val (.ref b45), .val (.ref b49), .val (.int (1 : Int32)), .val (.int (21 : Int32))] [(.int (21 : Int32))]))
    show own_Ok p e below _ (T81.setTop (mkF m 121 #[.val (.int xv), .val (.int xc), .val (.long t1), .second, .val (.long t2), .second, .val (.int cr), .val (.int (1 : Int32)), .val (.int (-1 : Int32)), .val (.ref b43), .val (.ref b45), .val (.ref b49), .val (.int (1 : Int32)), .val (.int (21 : Int32))] [(.int (21 : Int32))]))
    refine own_st (fun _ k => XS.iload X81.here hx rfl (hb hby at_121) rfl k) ?_
    show own_Ok p e below _ (T81.setTop (mkF m 123 #[.val (.int xv), .val (.int xc), .val (.long t1), .second, .val (.long t2), .second, .val (.int cr), .val (.int (1 : Int32)), .val (.int (-1 : Int32)), .val (.ref b43), .val (.ref b45), .val (.ref b49), .val (.int (1 : Int32)), .val (.int (21 : Int32))] [(.int (21 : Int32)), (.int (21 : Int32))]))
    refine own_st (fun _ k => XS.icmpNo X81.here hx rfl (hb hby at_123) rfl (XT.ii_ne_f rfl) k) ?_
    show own_Ok p e below _ (T81.setTop (mkF m 126 #[.val (.int xv), .val (.int xc), .val (.long t1), .second, .val (.long t2), .second, .val (.int cr), .val (.int (1 : Int32)), .val (.int (-1 : Int32)), .val (.ref b43), .val (.ref b45), .val (.ref b49), .val (.int (1 : Int32)), .val (.int (21 : Int32))] []))
    refine own_st (fun _ k => XS.iconst X81.here hx rfl (hb hby at_126) k) ?_
    show own_Ok p e below _ (T81.setTop (mkF m 127 #[.val (.int xv), .val (.int xc), .val (.long t1), .second, .val (.long t2), .second, .val (.int cr), .val (.int (1 : Int32)), .val (.int (-1 : Int32)), .val (.ref b43), .val (.ref b45), .val (.ref b49), .val (.int (1 : Int32)), .val (.int (21 : Int32))] [(.int (1 : Int32))]))
    refine own_st (fun _ k => XS.goto X81.here hx rfl (pc0 := 127) (pc' := 131) rfl (hb hby at_127) (by decide) (by decide) k) ?_
    show own_Ok p e below _ (T81.setTop (mkF m 131 #[.val (.int xv), .val (.int xc), .val (.long t1), .second, .val (.long t2), .second, .val (.int cr), .val (.int (1 : Int32)), .val (.int (-1 : Int32)), .val (.ref b43), .val (.ref b45), .val (.ref b49), .val (.int (1 : Int32)), .val (.int (21 : Int32))] [(.int (1 : Int32))]))
    exact own_retN X81 hx hlk (t := .boolean) Bd.returns (by simp) (hb hby at_131) (by rw [e81]; exact ⟨rfl, N81⟩) (by decide) (by decide)
set_option maxRecDepth 65536 in
set_option maxHeartbeats 40000000 in
theorem comes_1 {Post : Tables → Env → Array Value → State → Outcome → State → Prop} (hpost : ∀ tb e args s v u, (limb_1_1.after args s (.returned v) u = true ∧ limb_1_2.after args s (.returned v) u = true ∧ True) → FrameEnd s (.returned v) u (Jvm.fieldLocs frame_1_writes args s ++ Jvm.arrayLocs frame_1_arrays args s ++ Jvm.staticLocs frame_1_statics s) 24 128 → Post tb e args s (.returned v) u) :
    ArmFor flags0 classFile x code maxLocals ret World_1 tables_1 room_1 Calls_1 rest_1 Pre_1 Post := by
  intro l hfl _ _ p e ha hc hk s m args below hf hA hF happ hP
  obtain ⟨hcalls, hrest, hpre⟩ := hP
  obtain ⟨-, -, -, hnamed, -, -, -, hat⟩ := (Spec.applies_iff hf).mp happ
  obtain ⟨hg, hn⟩ := and_e (Cond.before_iff.mp (show (Jvm.Cond.and given_1 narrow_1).before args s = true from hpre))
  obtain ⟨hcount, hr0⟩ := and_e hg
  obtain ⟨ha0, hr1⟩ := and_e hr0
  obtain ⟨ha1, hr2⟩ := and_e hr1
  obtain ⟨ha2, hr3⟩ := and_e hr2
  obtain ⟨ha3, hr4⟩ := and_e hr3
  have ha4 := hr4
  obtain ⟨w0, w1, w2, w3, w4, rfl⟩ : ∃ w0 w1 w2 w3 w4 : Value, args = #[w0, w1, w2, w3, w4] := by
    have hs : args.size = 5 := by simpa [Cond.value, given_1] using hcount
    obtain ⟨L⟩ := args
    match L, hs with
    | [w0, w1, w2, w3, w4], _ => exact ⟨w0, w1, w2, w3, w4, rfl⟩
  have hw := fun d (hd : d ∈ tables_1) => atoms_spec (ws := Jvm.Cond.code x code maxLocals ret :: tables_1) hat d (List.mem_cons_of_mem _ hd)
  obtain ⟨hsets, hown0⟩ := atoms_of _ (rest_1_c_eq ▸ (show rest_1_c.before _ s = true from hrest))
  have hrst := Cond.before_iff.mp hown0
  have hfit : Fit s := fun {y c} hc i hi => by
    obtain ⟨ha, rfl⟩ := Array.getElem?_eq_some_iff.mp hc
    have q := List.all_eq_true.mp ((Array.all_eq_true_iff_forall_mem.mp hF) _ (Array.getElem_mem ha)) i (List.mem_range.mpr hi)
    simpa [Array.getElem?_eq_getElem hi] using q
  obtain ⟨i0, ea0⟩ := is_v ha0
  obtain rfl : w0 = (.int i0) := Option.some.inj ea0
  obtain ⟨i1, ea1⟩ := is_v ha1
  obtain rfl : w1 = (.int i1) := Option.some.inj ea1
  obtain ⟨i2, ea2⟩ := isL_v ha2
  obtain rfl : w2 = (.long i2) := Option.some.inj ea2
  obtain ⟨i3, ea3⟩ := isL_v ha3
  obtain rfl : w3 = (.long i3) := Option.some.inj ea3
  obtain ⟨i4, ea4⟩ := is_v ha4
  obtain rfl : w4 = (.int i4) := Option.some.inj ea4
  obtain ⟨G1, eG1⟩ := is_v (Cond.before_iff.mp (hsets _ (List.mem_of_getElem? (i := 1) rfl)))
  have SG1 : Sta s s.heap "java/lang/String" "COMPACT_STRINGS" "Z" (.int G1) := Sta.start eG1 (Or.inl (hsets _ (List.mem_of_getElem? (i := 0) rfl)))
  have PG1 : ¬ (G1 = (0 : Int32)) := gotF (Cond.eq_ints eG1 (Term.int_eval (0))) (not_v (Cond.before_iff.mp (hsets _ (List.mem_of_getElem? (i := 2) rfl))))
  obtain ⟨n, o, h1, h2, h3, _, L, rfl, ⟨rfl, N⟩, hq⟩ := rm_law l s _ hw tables_1 i0 i1 i2 i3 i4 G1 s.heap s.heap.size (Old.start s) SG1 PG1 p e ha hc hk s m _ below hf ((Spec.applies_iff_loose hf).mp happ).1 ⟨rfl, State.Warmed39.refl s, rfl⟩ trivial
  refine ⟨n, _, h1, h2, h3, hpost _ _ _ _ _ _ ⟨Cond.after_iff.mpr rfl, Cond.after_iff.mpr (eq_i res_at (Term.int_eval (1)) rfl), trivial⟩ ⟨hq.1, hq.2.1, (hq.2.2.sift fun y hy => Or.inr (N y hy)).mono (by decide) (by decide)⟩⟩
theorem main_1_1 : Claimed_1_1 := comes_1 fun _ _ _ _ _ _ h hF => ⟨h.1, hF⟩
theorem main_1_2 : Claimed_1_2 := comes_1 fun _ _ _ _ _ _ h hF => ⟨h.2.1, hF⟩
end Jvm.Pilot.@@N@@
namespace Jvm.Pilot.@@N@@
open Jvm Jvm.ClassFile Sem Op Lib Jvm.Free Jvm.Stand Jvm.Pilot.@@N@@.Jvm.D
/-! MADE BY PROGRAM (witnessworld.py) out of the Statement's table words and the real class files: 22 classes; the members and pool entries that the words name. The judged class is class 1, her method 1. -/
namespace start1
open Jvm.ClassFile
def u (s : String) : CpInfo := .utf8 (stringToUtf16 s)
/-- a pool by its gaps: so many unusable entries, then the entry; so many at the end -/
def gap : Nat → List CpInfo → List CpInfo
  | 0, r => r
  | n + 1, r => .unusable :: gap n r
def poolList (es : List (Nat × CpInfo)) (last : Nat) : List CpInfo := es.foldr (fun e r => gap e.1 (e.2 :: r)) (gap last [])
def pool (es : List (Nat × CpInfo)) (last : Nat) : Array CpInfo := ⟨poolList es last⟩
def fileOf (pool : Array CpInfo) (this : Nat) (attrs : Array Attribute := #[]) (ms : Array MethodInfo := #[]) (fl : Nat := 33) (sup : Nat := 0) (ifs : Array Nat := #[]) (fds : Array FieldInfo := #[]) : ClassFile where
  minorVersion := 0
  majorVersion := 65
  constantPool := pool
  accessFlags := fl
  thisClass := this
  superClass := sup
  interfaces := ifs
  fields := fds
  methods := ms
  attributes := attrs
def plain (name : String) (sup : Option ClassId) : Class where
  name := name
  kind := .ordinary
  loader := none
  accessFlags := 33
  super := sup
  interfaces := #[]
  cf := none
  fields := #[]
  methods := #[]
  instanceTypes := #[]
  staticTypes := #[]
  resolved := #[]
  callSites := []
  init := .initialized
  statics := none
  mirror := none

def pool0 : Array CpInfo := pool [(5, u "<init>"), (0, u "()V"), (1, .class_ 10), (1, u "java/lang/Object")] 113

def k0c0 : Code := { maxStack := 0, maxLocals := 1, code := object_method_1_code, exceptionTable := #[], attributes := #[] }
def k0m0 : Method := { name := "<init>", desc := "()V", sig := { parameters := [], returnType := none }, accessFlags := 1, code := some k0c0 }
/-- java/lang/Object -/
def k0 : Class := { plain "java/lang/Object" none with
  accessFlags := 33
  interfaces := #[]
  cf := some (fileOf pool0 8 #[] #[{ accessFlags := 1, nameIndex := 5, descriptorIndex := 6, attributes := #[] }] 33 0 #[] #[])
  fields := #[]
  methods := #[k0m0]
  instanceTypes := #[]
  staticTypes := #[]
  resolved := Array.replicate 124 none
  statics := none }

def pool1 : Array CpInfo := pool [(2, .class_ 4), (1, u "java/lang/Object"), (0, u "<init>"), (0, u "()V"), (0, .integer 1048577), (0, .class_ 9), (0, u "com/example/shardlift/shardlift/node/Records$Record"), (0, .class_ 11), (0, u "java/lang/String"), (0, .methodref 10 13), (0, .nameAndType 5 14), (0, u "([C)V"), (0, .methodref 8 16), (0, .nameAndType 5 17), (0, u "(Ljava/lang/String;[BJJII)V"), (0, .methodref 8 19), (0, .nameAndType 20 21), (0, u "isDelete"), (0, u "()Z"), (0, .methodref 8 23), (0, .nameAndType 24 25), (0, u "length"), (0, u "()I"), (0, .class_ 27), (0, u "com/example/shardlift/shardlift/node/RecordIsDeletePinLaw"), (2, u "law"), (0, u "(IIJJI)Z")] 11

def k1m0 : Method := { name := "<init>", desc := "()V", sig := { parameters := [], returnType := none }, accessFlags := 1, code := none }
def k1c1 : Code := { maxStack := 10, maxLocals := 14, code := code, exceptionTable := #[], attributes := #[] }
def k1m1 : Method := { name := "law", desc := "(IIJJI)Z", sig := { parameters := [.int, .int, .long, .long, .int], returnType := some .boolean }, accessFlags := 9, code := some k1c1 }
/-- com/example/shardlift/shardlift/node/RecordIsDeletePinLaw -/
def k1 : Class := { plain "com/example/shardlift/shardlift/node/RecordIsDeletePinLaw" (some 0) with
  accessFlags := 49
  interfaces := #[]
  cf := some (fileOf pool1 26 #[] #[{ accessFlags := 1, nameIndex := 5, descriptorIndex := 6, attributes := #[] }, { accessFlags := 9, nameIndex := 30, descriptorIndex := 31, attributes := #[] }] 49 2 #[] #[])
  fields := #[]
  methods := #[k1m0, k1m1]
  instanceTypes := #[]
  staticTypes := #[]
  resolved := Array.replicate 43 none
  statics := none }

def pool2 : Array CpInfo := pool [(1, .methodref 2 3), (0, .class_ 4), (0, .nameAndType 5 6), (0, u "java/lang/Object"), (0, u "<init>"), (0, u "()V"), (0, .class_ 8), (0, u "java/lang/Record")] 13

def k2c0 : Code := { maxStack := 1, maxLocals := 1, code := jdk_30_method_1_code, exceptionTable := #[], attributes := #[] }
def k2m0 : Method := { name := "<init>", desc := "()V", sig := { parameters := [], returnType := none }, accessFlags := 4, code := some k2c0 }
/-- java/lang/Record -/
def k2 : Class := { plain "java/lang/Record" (some 0) with
  accessFlags := 1057
  interfaces := #[]
  cf := some (fileOf pool2 7 #[] #[{ accessFlags := 4, nameIndex := 5, descriptorIndex := 6, attributes := #[] }] 1057 2 #[] #[])
  fields := #[]
  methods := #[k2m0]
  instanceTypes := #[]
  staticTypes := #[]
  resolved := Array.replicate 22 none
  statics := none }

def pool3 : Array CpInfo := pool [(1, .class_ 2), (0, u "com/example/shardlift/shardlift/node/Records"), (0, .methodref 4 5), (0, .class_ 6), (0, .nameAndType 7 8), (0, u "java/lang/Record"), (0, u "<init>"), (0, u "()V"), (0, .fieldref 10 11), (0, .class_ 12), (0, .nameAndType 13 14), (0, u "com/example/shardlift/shardlift/node/Records$Record"), (0, u "key"), (0, u "Ljava/lang/String;"), (0, .fieldref 10 16), (0, .nameAndType 17 18), (0, u "utf8"), (0, u "[B"), (0, .fieldref 10 20), (0, .nameAndType 21 22), (0, u "token"), (0, u "J"), (0, .fieldref 10 24), (0, .nameAndType 25 22), (0, u "timestamp"), (0, .fieldref 10 27), (0, .nameAndType 28 29), (0, u "valueLength"), (0, u "I"), (0, .fieldref 10 31), (0, .nameAndType 32 29), (0, u "crc"), (0, .methodref 34 35), (0, .class_ 36), (0, .nameAndType 37 38), (0, u "java/lang/Math"), (0, u "max"), (0, u "(II)I"), (17, u "(Ljava/lang/String;[BJJII)V"), (4, u "()I"), (0, u "length"), (0, u "isDelete"), (0, u "()Z")] 33

def k3c0 : Code := { maxStack := 3, maxLocals := 9, code := prog_192_method_1_code, exceptionTable := #[], attributes := #[] }
def k3m0 : Method := { name := "<init>", desc := "(Ljava/lang/String;[BJJII)V", sig := { parameters := [(.object "java/lang/String"), (.array .byte), .long, .long, .int, .int], returnType := none }, accessFlags := 0, code := some k3c0 }
def k3c1 : Code := { maxStack := 3, maxLocals := 1, code := prog_192_method_3_code, exceptionTable := #[], attributes := #[] }
def k3m1 : Method := { name := "length", desc := "()I", sig := { parameters := [], returnType := some .int }, accessFlags := 0, code := some k3c1 }
def k3c2 : Code := { maxStack := 1, maxLocals := 1, code := prog_192_method_4_code, exceptionTable := #[], attributes := #[] }
def k3m2 : Method := { name := "isDelete", desc := "()Z", sig := { parameters := [], returnType := some .boolean }, accessFlags := 0, code := some k3c2 }
/-- com/example/shardlift/shardlift/node/Records$Record -/
def k3 : Class := { plain "com/example/shardlift/shardlift/node/Records$Record" (some 2) with
  accessFlags := 48
  interfaces := #[]
  cf := some (fileOf pool3 10 #[.nestHost 1] #[{ accessFlags := 0, nameIndex := 7, descriptorIndex := 56, attributes := #[] }, { accessFlags := 0, nameIndex := 62, descriptorIndex := 61, attributes := #[] }, { accessFlags := 0, nameIndex := 63, descriptorIndex := 64, attributes := #[] }] 48 4 #[] #[{ accessFlags := 18, nameIndex := 13, descriptorIndex := 14, attributes := #[] }, { accessFlags := 18, nameIndex := 17, descriptorIndex := 18, attributes := #[] }, { accessFlags := 18, nameIndex := 21, descriptorIndex := 22, attributes := #[] }, { accessFlags := 18, nameIndex := 25, descriptorIndex := 22, attributes := #[] }, { accessFlags := 18, nameIndex := 28, descriptorIndex := 29, attributes := #[] }, { accessFlags := 18, nameIndex := 32, descriptorIndex := 29, attributes := #[] }])
  fields := #[{ name := "key", type := (.object "java/lang/String"), accessFlags := 18, slot := 0, constantValue := 0 }, { name := "utf8", type := (.array .byte), accessFlags := 18, slot := 1, constantValue := 0 }, { name := "token", type := .long, accessFlags := 18, slot := 2, constantValue := 0 }, { name := "timestamp", type := .long, accessFlags := 18, slot := 3, constantValue := 0 }, { name := "valueLength", type := .int, accessFlags := 18, slot := 4, constantValue := 0 }, { name := "crc", type := .int, accessFlags := 18, slot := 5, constantValue := 0 }]
  methods := #[k3m0, k3m1, k3m2]
  instanceTypes := #[(.object "java/lang/String"), (.array .byte), .long, .long, .int, .int]
  staticTypes := #[]
  resolved := Array.replicate 98 none
  statics := none }

def pool4 : Array CpInfo := pool [(1, .class_ 2), (0, u "java/io/Serializable"), (0, .class_ 4), (0, u "java/lang/Object")] 2

/-- java/io/Serializable -/
def k4 : Class := { plain "java/io/Serializable" (some 0) with
  accessFlags := 1537
  interfaces := #[]
  cf := some (fileOf pool4 1 #[] #[] 1537 3 #[] #[])
  fields := #[]
  methods := #[]
  instanceTypes := #[]
  staticTypes := #[]
  resolved := Array.replicate 7 none
  statics := none }

def pool5 : Array CpInfo := pool [(1, .class_ 2), (0, u "java/lang/Comparable"), (0, .class_ 4), (0, u "java/lang/Object")] 7

/-- java/lang/Comparable -/
def k5 : Class := { plain "java/lang/Comparable" (some 0) with
  accessFlags := 1537
  interfaces := #[]
  cf := some (fileOf pool5 1 #[] #[] 1537 3 #[] #[])
  fields := #[]
  methods := #[]
  instanceTypes := #[]
  staticTypes := #[]
  resolved := Array.replicate 12 none
  statics := none }

def pool6 : Array CpInfo := pool [(2, .class_ 4), (1, u "java/lang/CharSequence"), (42, .class_ 48), (0, u "java/lang/CharSequence$1CodePointIterator"), (10, .class_ 60), (0, u "java/lang/CharSequence$1CharIterator"), (5, .class_ 67), (0, u "java/lang/Object")] 63

/-- java/lang/CharSequence -/
def k6 : Class := { plain "java/lang/CharSequence" (some 0) with
  accessFlags := 1537
  interfaces := #[]
  cf := some (fileOf pool6 2 #[.nestMembers #[47, 59]] #[] 1537 66 #[] #[])
  fields := #[]
  methods := #[]
  instanceTypes := #[]
  staticTypes := #[]
  resolved := Array.replicate 131 none
  statics := none }

def pool7 : Array CpInfo := pool [(1, .class_ 2), (0, u "java/lang/constant/Constable"), (0, .class_ 4), (0, u "java/lang/Object")] 6

/-- java/lang/constant/Constable -/
def k7 : Class := { plain "java/lang/constant/Constable" (some 0) with
  accessFlags := 1537
  interfaces := #[]
  cf := some (fileOf pool7 1 #[] #[] 1537 3 #[] #[])
  fields := #[]
  methods := #[]
  instanceTypes := #[]
  staticTypes := #[]
  resolved := Array.replicate 11 none
  statics := none }

def pool8 : Array CpInfo := pool [(1, .class_ 2), (0, u "java/lang/constant/ConstantDesc"), (0, .class_ 4), (0, u "java/lang/Object")] 32

/-- java/lang/constant/ConstantDesc -/
def k8 : Class := { plain "java/lang/constant/ConstantDesc" (some 0) with
  accessFlags := 1537
  interfaces := #[]
  cf := some (fileOf pool8 1 #[] #[] 1537 3 #[] #[])
  fields := #[]
  methods := #[]
  instanceTypes := #[]
  staticTypes := #[]
  resolved := Array.replicate 37 none
  statics := none }

def pool9 : Array CpInfo := pool [(1, .methodref 2 3), (0, .class_ 4), (0, .nameAndType 5 6), (0, u "java/lang/Object"), (0, u "<init>"), (0, u "()V"), (2, .fieldref 10 11), (0, .class_ 12), (0, .nameAndType 13 14), (0, u "java/lang/String"), (0, u "value"), (0, u "[B"), (0, .fieldref 10 16), (0, .nameAndType 17 18), (0, u "coder"), (0, u "B"), (2, u "hash"), (0, u "I"), (2, u "hashIsZero"), (0, u "Z"), (0, .methodref 10 28), (0, .nameAndType 5 29), (0, u "([CIILjava/lang/Void;)V"), (8, .fieldref 10 39), (0, .nameAndType 40 26), (0, u "COMPACT_STRINGS"), (1, .class_ 44), (1, u "java/lang/StringUTF16"), (0, u "compress"), (1, .methodref 42 48), (0, .nameAndType 49 50), (0, u "coderFromArrayLen"), (0, u "([BI)B"), (126, .methodref 42 178), (0, .nameAndType 45 179), (0, u "([CII)[B"), (395, .class_ 576), (0, u "java/lang/CharSequence"), (22, u "CASE_INSENSITIVE_ORDER"), (0, u "Ljava/util/Comparator;"), (409, u "([C)V"), (90, u "serialPersistentFields"), (0, u "[Ljava/io/ObjectStreamField;"), (0, .class_ 1104), (0, u "java/lang/String$CaseInsensitiveComparator"), (1, .class_ 1107), (0, u "java/io/Serializable"), (0, .class_ 1109), (0, u "java/lang/Comparable"), (0, .class_ 1111), (0, u "java/lang/constant/Constable"), (0, .class_ 1113), (0, u "java/lang/constant/ConstantDesc"), (2, u "serialVersionUID"), (0, u "J"), (3, u "REPL"), (0, u "C"), (2, u "LATIN1"), (1, u "UTF16")] 323

def k9m0 : Method := { name := "<init>", desc := "()V", sig := { parameters := [], returnType := none }, accessFlags := 1, code := none }
def k9c1 : Code := { maxStack := 5, maxLocals := 2, code := jdk_42_method_3_code, exceptionTable := #[], attributes := #[] }
def k9m1 : Method := { name := "<init>", desc := "([C)V", sig := { parameters := [(.array .char)], returnType := none }, accessFlags := 1, code := some k9c1 }
def k9c2 : Code := { maxStack := 4, maxLocals := 6, code := jdk_42_method_149_code, exceptionTable := #[], attributes := #[] }
def k9m2 : Method := { name := "<init>", desc := "([CIILjava/lang/Void;)V", sig := { parameters := [(.array .char), .int, .int, (.object "java/lang/Void")], returnType := none }, accessFlags := 2, code := some k9c2 }
/-- java/lang/String -/
def k9 : Class := { plain "java/lang/String" (some 0) with
  accessFlags := 49
  interfaces := #[4, 5, 6, 7, 8]
  cf := some (fileOf pool9 10 #[.nestMembers #[1103]] #[{ accessFlags := 1, nameIndex := 5, descriptorIndex := 6, attributes := #[] }, { accessFlags := 1, nameIndex := 5, descriptorIndex := 1010, attributes := #[] }, { accessFlags := 2, nameIndex := 5, descriptorIndex := 29, attributes := #[] }] 49 2 #[1106, 1108, 575, 1110, 1112] #[{ accessFlags := 18, nameIndex := 13, descriptorIndex := 14, attributes := #[] }, { accessFlags := 18, nameIndex := 17, descriptorIndex := 18, attributes := #[] }, { accessFlags := 2, nameIndex := 21, descriptorIndex := 22, attributes := #[] }, { accessFlags := 2, nameIndex := 25, descriptorIndex := 26, attributes := #[] }, { accessFlags := 26, nameIndex := 1116, descriptorIndex := 1117, attributes := #[] }, { accessFlags := 24, nameIndex := 40, descriptorIndex := 26, attributes := #[] }, { accessFlags := 26, nameIndex := 1101, descriptorIndex := 1102, attributes := #[] }, { accessFlags := 26, nameIndex := 1121, descriptorIndex := 1122, attributes := #[] }, { accessFlags := 25, nameIndex := 599, descriptorIndex := 600, attributes := #[] }, { accessFlags := 24, nameIndex := 1125, descriptorIndex := 18, attributes := #[] }, { accessFlags := 24, nameIndex := 1127, descriptorIndex := 18, attributes := #[] }])
  fields := #[{ name := "value", type := (.array .byte), accessFlags := 18, slot := 0, constantValue := 0 }, { name := "coder", type := .byte, accessFlags := 18, slot := 1, constantValue := 0 }, { name := "hash", type := .int, accessFlags := 2, slot := 2, constantValue := 0 }, { name := "hashIsZero", type := .boolean, accessFlags := 2, slot := 3, constantValue := 0 }, { name := "serialVersionUID", type := .long, accessFlags := 26, slot := 0, constantValue := 0 }, { name := "COMPACT_STRINGS", type := .boolean, accessFlags := 24, slot := 1, constantValue := 0 }, { name := "serialPersistentFields", type := (.array (.object "java/io/ObjectStreamField")), accessFlags := 26, slot := 2, constantValue := 0 }, { name := "REPL", type := .char, accessFlags := 26, slot := 3, constantValue := 0 }, { name := "CASE_INSENSITIVE_ORDER", type := (.object "java/util/Comparator"), accessFlags := 25, slot := 4, constantValue := 0 }, { name := "LATIN1", type := .byte, accessFlags := 24, slot := 5, constantValue := 0 }, { name := "UTF16", type := .byte, accessFlags := 24, slot := 6, constantValue := 0 }]
  methods := #[k9m0, k9m1, k9m2]
  instanceTypes := #[(.array .byte), .byte, .int, .boolean]
  staticTypes := #[.long, .boolean, (.array (.object "java/io/ObjectStreamField")), .char, (.object "java/util/Comparator"), .byte, .byte]
  resolved := Array.replicate 1451 none
  statics := some 0 }

def pool10 : Array CpInfo := pool [(6, .class_ 8), (1, u "java/lang/Object"), (0, u "<init>"), (0, u "()V"), (1, .class_ 14), (1, u "java/lang/StringUTF16"), (31, u "$assertionsDisabled"), (0, u "Z"), (13, u "HI_BYTE_SHIFT"), (0, u "I"), (2, u "LO_BYTE_SHIFT"), (49, .methodref 12 116), (0, .nameAndType 117 118), (0, u "compress"), (0, u "([CI[BII)I"), (3, u "([CII)[B"), (138, u "coderFromArrayLen"), (0, u "([BI)B"), (106, .class_ 371), (1, u "java/lang/StringUTF16$LinesSpliterator"), (58, u "MAX_LENGTH"), (196, .class_ 628), (0, u "java/lang/StringUTF16$CodePointsSpliterator"), (0, .class_ 630), (0, u "java/lang/StringUTF16$CharsSpliterator")] 4

def k10m0 : Method := { name := "<init>", desc := "()V", sig := { parameters := [], returnType := none }, accessFlags := 0, code := none }
def k10c1 : Code := { maxStack := 2, maxLocals := 2, code := jdk_52_method_15_code, exceptionTable := #[], attributes := #[] }
def k10m1 : Method := { name := "coderFromArrayLen", desc := "([BI)B", sig := { parameters := [(.array .byte), .int], returnType := some .byte }, accessFlags := 8, code := some k10c1 }
def k10c2 : Code := { maxStack := 5, maxLocals := 6, code := jdk_52_method_16_code, exceptionTable := #[], attributes := #[] }
def k10m2 : Method := { name := "compress", desc := "([CII)[B", sig := { parameters := [(.array .char), .int, .int], returnType := some (.array .byte) }, accessFlags := 9, code := some k10c2 }
def k10c3 : Code := { maxStack := 3, maxLocals := 7, code := jdk_52_method_21_code, exceptionTable := #[], attributes := #[] }
def k10m3 : Method := { name := "compress", desc := "([CI[BII)I", sig := { parameters := [(.array .char), .int, (.array .byte), .int, .int], returnType := some .int }, accessFlags := 9, code := some k10c3 }
/-- java/lang/StringUTF16 -/
def k10 : Class := { plain "java/lang/StringUTF16" (some 0) with
  accessFlags := 48
  interfaces := #[]
  cf := some (fileOf pool10 12 #[.nestMembers #[627, 629, 369]] #[{ accessFlags := 0, nameIndex := 9, descriptorIndex := 10, attributes := #[] }, { accessFlags := 8, nameIndex := 261, descriptorIndex := 262, attributes := #[] }, { accessFlags := 9, nameIndex := 117, descriptorIndex := 122, attributes := #[] }, { accessFlags := 9, nameIndex := 117, descriptorIndex := 118, attributes := #[] }] 48 6 #[] #[{ accessFlags := 26, nameIndex := 61, descriptorIndex := 62, attributes := #[] }, { accessFlags := 26, nameIndex := 65, descriptorIndex := 62, attributes := #[] }, { accessFlags := 24, nameIndex := 430, descriptorIndex := 62, attributes := #[] }, { accessFlags := 4120, nameIndex := 46, descriptorIndex := 47, attributes := #[] }])
  fields := #[{ name := "HI_BYTE_SHIFT", type := .int, accessFlags := 26, slot := 0, constantValue := 0 }, { name := "LO_BYTE_SHIFT", type := .int, accessFlags := 26, slot := 1, constantValue := 0 }, { name := "MAX_LENGTH", type := .int, accessFlags := 24, slot := 2, constantValue := 0 }, { name := "$assertionsDisabled", type := .boolean, accessFlags := 4120, slot := 3, constantValue := 0 }]
  methods := #[k10m0, k10m1, k10m2, k10m3]
  instanceTypes := #[]
  staticTypes := #[.int, .int, .int, .boolean]
  resolved := Array.replicate 635 none
  statics := none }

def pool11 : Array CpInfo := pool [(1, .class_ 2), (0, u "java/lang/Math"), (1, .class_ 6), (1, u "java/lang/Object"), (0, u "<init>"), (0, u "()V"), (89, .class_ 100), (1, u "java/lang/Math$RandomNumberGeneratorHolder"), (71, u "negativeZeroFloatBits"), (0, u "J"), (2, u "negativeZeroDoubleBits"), (21, u "max"), (46, u "$assertionsDisabled"), (0, u "Z"), (88, u "(II)I"), (2, u "twoToTheDoubleScaleDown"), (0, u "D"), (4, u "twoToTheDoubleScaleUp"), (9, u "E"), (3, u "PI"), (2, u "TAU"), (2, u "DEGREES_TO_RADIANS"), (0, u "RADIANS_TO_DEGREES")] 94

def k11m0 : Method := { name := "<init>", desc := "()V", sig := { parameters := [], returnType := none }, accessFlags := 2, code := none }
def k11c1 : Code := { maxStack := 2, maxLocals := 2, code := jdk_29_method_65_code, exceptionTable := #[], attributes := #[] }
def k11m1 : Method := { name := "max", desc := "(II)I", sig := { parameters := [.int, .int], returnType := some .int }, accessFlags := 9, code := some k11c1 }
/-- java/lang/Math -/
def k11 : Class := { plain "java/lang/Math" (some 0) with
  accessFlags := 49
  interfaces := #[]
  cf := some (fileOf pool11 1 #[.nestMembers #[98]] #[{ accessFlags := 2, nameIndex := 7, descriptorIndex := 8, attributes := #[] }, { accessFlags := 9, nameIndex := 198, descriptorIndex := 335, attributes := #[] }] 49 4 #[] #[{ accessFlags := 25, nameIndex := 354, descriptorIndex := 339, attributes := #[] }, { accessFlags := 25, nameIndex := 358, descriptorIndex := 339, attributes := #[] }, { accessFlags := 25, nameIndex := 361, descriptorIndex := 339, attributes := #[] }, { accessFlags := 26, nameIndex := 364, descriptorIndex := 339, attributes := #[] }, { accessFlags := 26, nameIndex := 365, descriptorIndex := 339, attributes := #[] }, { accessFlags := 26, nameIndex := 172, descriptorIndex := 173, attributes := #[] }, { accessFlags := 26, nameIndex := 176, descriptorIndex := 173, attributes := #[] }, { accessFlags := 8, nameIndex := 344, descriptorIndex := 339, attributes := #[] }, { accessFlags := 8, nameIndex := 338, descriptorIndex := 339, attributes := #[] }, { accessFlags := 4120, nameIndex := 245, descriptorIndex := 246, attributes := #[] }])
  fields := #[{ name := "E", type := .double, accessFlags := 25, slot := 0, constantValue := 0 }, { name := "PI", type := .double, accessFlags := 25, slot := 1, constantValue := 0 }, { name := "TAU", type := .double, accessFlags := 25, slot := 2, constantValue := 0 }, { name := "DEGREES_TO_RADIANS", type := .double, accessFlags := 26, slot := 3, constantValue := 0 }, { name := "RADIANS_TO_DEGREES", type := .double, accessFlags := 26, slot := 4, constantValue := 0 }, { name := "negativeZeroFloatBits", type := .long, accessFlags := 26, slot := 5, constantValue := 0 }, { name := "negativeZeroDoubleBits", type := .long, accessFlags := 26, slot := 6, constantValue := 0 }, { name := "twoToTheDoubleScaleUp", type := .double, accessFlags := 8, slot := 7, constantValue := 0 }, { name := "twoToTheDoubleScaleDown", type := .double, accessFlags := 8, slot := 8, constantValue := 0 }, { name := "$assertionsDisabled", type := .boolean, accessFlags := 4120, slot := 9, constantValue := 0 }]
  methods := #[k11m0, k11m1]
  instanceTypes := #[]
  staticTypes := #[.double, .double, .double, .double, .double, .long, .long, .double, .double, .boolean]
  resolved := Array.replicate 460 none
  statics := none }

def pool12 : Array CpInfo := pool [(4, .class_ 6), (1, u "java/lang/Object"), (0, u "<init>"), (0, u "()V"), (5, .class_ 16), (1, u "java/lang/StringLatin1"), (104, u "$assertionsDisabled"), (0, u "Z"), (98, .class_ 223), (1, u "java/lang/StringLatin1$LinesSpliterator"), (166, .class_ 391), (0, u "java/lang/StringLatin1$CharsSpliterator")] 3

def k12m0 : Method := { name := "<init>", desc := "()V", sig := { parameters := [], returnType := none }, accessFlags := 0, code := none }
/-- java/lang/StringLatin1 -/
def k12 : Class := { plain "java/lang/StringLatin1" (some 0) with
  accessFlags := 48
  interfaces := #[]
  cf := some (fileOf pool12 14 #[.nestMembers #[390, 221]] #[{ accessFlags := 0, nameIndex := 7, descriptorIndex := 8, attributes := #[] }] 48 4 #[] #[{ accessFlags := 4120, nameIndex := 121, descriptorIndex := 122, attributes := #[] }])
  fields := #[{ name := "$assertionsDisabled", type := .boolean, accessFlags := 4120, slot := 0, constantValue := 0 }]
  methods := #[k12m0]
  instanceTypes := #[]
  staticTypes := #[.boolean]
  resolved := Array.replicate 395 none
  statics := none }

def pool13 : Array CpInfo := pool [(2, .class_ 4), (1, u "java/lang/Object"), (0, u "<init>"), (0, u "()V"), (17, .class_ 26), (1, u "jdk/internal/util/Preconditions"), (28, .class_ 56), (0, u "jdk/internal/util/Preconditions$4"), (57, .class_ 115), (0, u "jdk/internal/util/Preconditions$1"), (7, u "SIOOBE_FORMATTER"), (0, u "Ljava/util/function/BiFunction;"), (0, .class_ 126), (0, u "jdk/internal/util/Preconditions$2"), (3, u "AIOOBE_FORMATTER"), (0, .class_ 132), (0, u "jdk/internal/util/Preconditions$3"), (3, u "IOOBE_FORMATTER")] 57

def k13m0 : Method := { name := "<init>", desc := "()V", sig := { parameters := [], returnType := none }, accessFlags := 1, code := none }
/-- jdk/internal/util/Preconditions -/
def k13 : Class := { plain "jdk/internal/util/Preconditions" (some 0) with
  accessFlags := 33
  interfaces := #[]
  cf := some (fileOf pool13 24 #[.nestMembers #[55, 131, 125, 114]] #[{ accessFlags := 1, nameIndex := 5, descriptorIndex := 6, attributes := #[] }] 33 2 #[] #[{ accessFlags := 25, nameIndex := 123, descriptorIndex := 124, attributes := #[] }, { accessFlags := 25, nameIndex := 130, descriptorIndex := 124, attributes := #[] }, { accessFlags := 25, nameIndex := 136, descriptorIndex := 124, attributes := #[] }])
  fields := #[{ name := "SIOOBE_FORMATTER", type := (.object "java/util/function/BiFunction"), accessFlags := 25, slot := 0, constantValue := 0 }, { name := "AIOOBE_FORMATTER", type := (.object "java/util/function/BiFunction"), accessFlags := 25, slot := 1, constantValue := 0 }, { name := "IOOBE_FORMATTER", type := (.object "java/util/function/BiFunction"), accessFlags := 25, slot := 2, constantValue := 0 }]
  methods := #[k13m0]
  instanceTypes := #[]
  staticTypes := #[(.object "java/util/function/BiFunction"), (.object "java/util/function/BiFunction"), (.object "java/util/function/BiFunction")]
  resolved := Array.replicate 194 none
  statics := some 1 }

def pool14 : Array CpInfo := pool [(9, u "<init>"), (6, .class_ 18), (1, u "java/lang/Object"), (0, u "()V"), (1, .class_ 23), (1, u "jdk/internal/util/ArraysSupport"), (0, u "LOG2_ARRAY_LONG_INDEX_SCALE"), (0, u "I"), (2, u "U"), (0, u "Ljdk/internal/misc/Unsafe;"), (8, u "BIG_ENDIAN"), (0, u "Z"), (8, u "LOG2_BYTE_BIT_SIZE"), (4, u "LOG2_ARRAY_INT_INDEX_SCALE"), (54, u "JLA"), (0, u "Ljdk/internal/access/JavaLangAccess;"), (11, u "LOG2_ARRAY_BOOLEAN_INDEX_SCALE"), (9, u "LOG2_ARRAY_BYTE_INDEX_SCALE"), (5, u "LOG2_ARRAY_CHAR_INDEX_SCALE"), (5, u "LOG2_ARRAY_SHORT_INDEX_SCALE"), (18, u "LOG2_ARRAY_FLOAT_INDEX_SCALE"), (24, u "LOG2_ARRAY_DOUBLE_INDEX_SCALE"), (89, u "T_BOOLEAN"), (2, u "T_CHAR"), (1, u "T_FLOAT"), (1, u "T_DOUBLE"), (1, u "T_BYTE"), (1, u "T_SHORT"), (1, u "T_INT"), (1, u "T_LONG"), (1, u "SOFT_MAX_ARRAY_LENGTH")] 83

def k14m0 : Method := { name := "<init>", desc := "()V", sig := { parameters := [], returnType := none }, accessFlags := 2, code := none }
/-- jdk/internal/util/ArraysSupport -/
def k14 : Class := { plain "jdk/internal/util/ArraysSupport" (some 0) with
  accessFlags := 33
  interfaces := #[]
  cf := some (fileOf pool14 21 #[] #[{ accessFlags := 2, nameIndex := 9, descriptorIndex := 19, attributes := #[] }] 33 16 #[] #[{ accessFlags := 24, nameIndex := 28, descriptorIndex := 29, attributes := #[] }, { accessFlags := 26, nameIndex := 38, descriptorIndex := 39, attributes := #[] }, { accessFlags := 25, nameIndex := 121, descriptorIndex := 25, attributes := #[] }, { accessFlags := 25, nameIndex := 131, descriptorIndex := 25, attributes := #[] }, { accessFlags := 25, nameIndex := 137, descriptorIndex := 25, attributes := #[] }, { accessFlags := 25, nameIndex := 143, descriptorIndex := 25, attributes := #[] }, { accessFlags := 25, nameIndex := 53, descriptorIndex := 25, attributes := #[] }, { accessFlags := 25, nameIndex := 24, descriptorIndex := 25, attributes := #[] }, { accessFlags := 25, nameIndex := 162, descriptorIndex := 25, attributes := #[] }, { accessFlags := 25, nameIndex := 187, descriptorIndex := 25, attributes := #[] }, { accessFlags := 26, nameIndex := 48, descriptorIndex := 25, attributes := #[] }, { accessFlags := 25, nameIndex := 277, descriptorIndex := 25, attributes := #[] }, { accessFlags := 25, nameIndex := 280, descriptorIndex := 25, attributes := #[] }, { accessFlags := 25, nameIndex := 282, descriptorIndex := 25, attributes := #[] }, { accessFlags := 25, nameIndex := 284, descriptorIndex := 25, attributes := #[] }, { accessFlags := 25, nameIndex := 286, descriptorIndex := 25, attributes := #[] }, { accessFlags := 25, nameIndex := 288, descriptorIndex := 25, attributes := #[] }, { accessFlags := 25, nameIndex := 290, descriptorIndex := 25, attributes := #[] }, { accessFlags := 25, nameIndex := 292, descriptorIndex := 25, attributes := #[] }, { accessFlags := 26, nameIndex := 108, descriptorIndex := 109, attributes := #[] }, { accessFlags := 25, nameIndex := 294, descriptorIndex := 25, attributes := #[] }])
  fields := #[{ name := "U", type := (.object "jdk/internal/misc/Unsafe"), accessFlags := 24, slot := 0, constantValue := 0 }, { name := "BIG_ENDIAN", type := .boolean, accessFlags := 26, slot := 1, constantValue := 0 }, { name := "LOG2_ARRAY_BOOLEAN_INDEX_SCALE", type := .int, accessFlags := 25, slot := 2, constantValue := 0 }, { name := "LOG2_ARRAY_BYTE_INDEX_SCALE", type := .int, accessFlags := 25, slot := 3, constantValue := 0 }, { name := "LOG2_ARRAY_CHAR_INDEX_SCALE", type := .int, accessFlags := 25, slot := 4, constantValue := 0 }, { name := "LOG2_ARRAY_SHORT_INDEX_SCALE", type := .int, accessFlags := 25, slot := 5, constantValue := 0 }, { name := "LOG2_ARRAY_INT_INDEX_SCALE", type := .int, accessFlags := 25, slot := 6, constantValue := 0 }, { name := "LOG2_ARRAY_LONG_INDEX_SCALE", type := .int, accessFlags := 25, slot := 7, constantValue := 0 }, { name := "LOG2_ARRAY_FLOAT_INDEX_SCALE", type := .int, accessFlags := 25, slot := 8, constantValue := 0 }, { name := "LOG2_ARRAY_DOUBLE_INDEX_SCALE", type := .int, accessFlags := 25, slot := 9, constantValue := 0 }, { name := "LOG2_BYTE_BIT_SIZE", type := .int, accessFlags := 26, slot := 10, constantValue := 0 }, { name := "T_BOOLEAN", type := .int, accessFlags := 25, slot := 11, constantValue := 0 }, { name := "T_CHAR", type := .int, accessFlags := 25, slot := 12, constantValue := 0 }, { name := "T_FLOAT", type := .int, accessFlags := 25, slot := 13, constantValue := 0 }, { name := "T_DOUBLE", type := .int, accessFlags := 25, slot := 14, constantValue := 0 }, { name := "T_BYTE", type := .int, accessFlags := 25, slot := 15, constantValue := 0 }, { name := "T_SHORT", type := .int, accessFlags := 25, slot := 16, constantValue := 0 }, { name := "T_INT", type := .int, accessFlags := 25, slot := 17, constantValue := 0 }, { name := "T_LONG", type := .int, accessFlags := 25, slot := 18, constantValue := 0 }, { name := "JLA", type := (.object "jdk/internal/access/JavaLangAccess"), accessFlags := 26, slot := 19, constantValue := 0 }, { name := "SOFT_MAX_ARRAY_LENGTH", type := .int, accessFlags := 25, slot := 20, constantValue := 0 }]
  methods := #[k14m0]
  instanceTypes := #[]
  staticTypes := #[(.object "jdk/internal/misc/Unsafe"), .boolean, .int, .int, .int, .int, .int, .int, .int, .int, .int, .int, .int, .int, .int, .int, .int, .int, .int, (.object "jdk/internal/access/JavaLangAccess"), .int]
  resolved := Array.replicate 378 none
  statics := none }

def pool15 : Array CpInfo := pool [(1, u "java/lang/Cloneable"), (0, .class_ 1), (0, u "java/lang/Object"), (0, .class_ 3)] 3

/-- java/lang/Cloneable -/
def k15 : Class := { plain "java/lang/Cloneable" (some 0) with
  accessFlags := 1537
  interfaces := #[]
  cf := some (fileOf pool15 2 #[] #[] 1537 4 #[] #[])
  fields := #[]
  methods := #[]
  instanceTypes := #[]
  staticTypes := #[]
  resolved := Array.replicate 8 none
  statics := none }

/-- the primitive byte -/
def k16 : Class := { plain "byte" none with kind := .primitive 'B', accessFlags := 0x411 }
/-- [B -/
def k17 : Class := { plain "[B" (some 0) with kind := .array 16 .byte, interfaces := #[15, 4], accessFlags := 1041 }

/-- the primitive char -/
def k18 : Class := { plain "char" none with kind := .primitive 'C', accessFlags := 0x411 }
/-- [C -/
def k19 : Class := { plain "[C" (some 0) with kind := .array 18 .char, interfaces := #[15, 4], accessFlags := 1041 }

/-- the primitive int -/
def k20 : Class := { plain "int" none with kind := .primitive 'I', accessFlags := 0x411 }
/-- [I -/
def k21 : Class := { plain "[I" (some 0) with kind := .array 20 .int, interfaces := #[15, 4], accessFlags := 1041 }

def heap : Heap := #[{ cls := 9, slots := #[.long 0, .int 1, .null, .int 0, .null, .int 0, .int 0], vm := .statics 9 },
  { cls := 13, slots := #[.null, .null, .null], vm := .statics 13 }]
def classes : Array Class := #[k0, k1, k2, k3, k4, k5, k6, k7, k8, k9, k10, k11, k12, k13, k14, k15, k16, k17, k18, k19, k20, k21]
def interned : List (Array UInt16 × Addr) := []
def slotsUsed : Nat := 10
def theMethod : MethodId := ⟨1, 1⟩
def args0 : Array Value := #[.int 5, .int 65, .long 7, .long 8, .int 9]
def aboutOver (below : List Frame) : State where
  vm := { classes := classes, interned := interned.toArray }
  heap := heap
  slotsUsed := slotsUsed
  threads := #[{ frames := .invoking theMethod args0 :: below }]
def below0 : List Frame := [.native { method := ⟨0, 0⟩, args := #[] }]
def about1 : State := aboutOver below0
def p0 : Program := .bare "" "" ""
def e0 : Env := launch0.env 0 0 0
theorem w_frames : about1.frames = Frame.invoking theMethod args0 :: below0 := rfl
set_option maxRecDepth 65536 in
theorem w_args : argsFit about1.vm theMethod args0 = true := by decide +kernel
set_option maxRecDepth 65536 in
theorem w_heap : heapFits about1 = true := by decide +kernel
set_option maxRecDepth 65536 in
theorem w_runnable : about1.curStatus? = some .runnable := by decide +kernel
set_option maxRecDepth 65536 in
theorem w_alone : about1.alone = true := by decide +kernel
set_option maxRecDepth 65536 in
theorem w_named : about1.methodNamed? x = some theMethod := by decide +kernel
set_option maxRecDepth 65536 in
theorem w_hears : about1.hears theMethod below0 = true := by decide +kernel
set_option maxRecDepth 65536 in
theorem w_ripe : about1.ripe theMethod args0 below0 = true := by decide +kernel
theorem w_running : about1.status = .running := rfl
set_option maxRecDepth 65536 in
theorem w_room : about1.hasRoom e0.platform room_1 = true :=
  launch0.hasRoom_least _ room_1 (by decide +kernel) (by decide +kernel) (by decide +kernel) (by decide +kernel) (by decide +kernel) (by decide +kernel)
theorem allAtoms_all (ts : List Jvm.Cond) (a : Array Jvm.Value) (st : Jvm.State) : (allAtoms ts).before a st = ts.all (fun c => c.before a st) := by
  induction ts with
  | nil => rfl
  | cons c t ih =>
    show (Jvm.Cond.and c (allAtoms t)).before a st = _
    rw [Jvm.Cond.before_and, ih, List.all_cons]
def words1 : List Jvm.Cond := Jvm.Cond.code x code maxLocals ret :: tables_1
/-- a 'code' word, met by the world's own term for the bytes: nothing is compared byte by byte -/
theorem code_word {y : MethodName} {bytes : ByteArray} {mx : Nat} {rt : Option FieldType} {a : Array Value} {s : State} {m : MethodId} {meth : Method} {c : Code} (h1 : s.methodNamed? y = some m) (h2 : s.vm.method? m = some meth) (h3 : meth.code = some c) (h4 : c.code = bytes)
    (h5 : (c.maxLocals == mx && c.exceptionTable.isEmpty && decide (c.maxStack ≤ mostOperands) && decide (meth.sig.returnType = rt) && !meth.locks && decide (parseMethodDescriptor y.desc = some meth.sig)) = true) : (Jvm.Cond.code y bytes mx rt).before a s = true := by
  simp only [Bool.and_eq_true, beq_iff_eq, Bool.not_eq_true', decide_eq_true_eq] at h5
  obtain ⟨⟨⟨⟨⟨g1, g2⟩, g3⟩, g4⟩, g5⟩, g6⟩ := h5
  simp [Cond.before, Cond.holds, Cond.value, h1, h2, h3, h4, g1, g2, g3, g4, g5, g6]
def isCode : Jvm.Cond → Bool
  | .code _ _ _ _ => true
  | _ => false
theorem all_split {L : List Jvm.Cond} {P : Jvm.Cond → Bool} (h1 : L.all (fun c => isCode c || P c) = true) (h2 : ∀ c ∈ L.filter isCode, P c = true) : L.all P = true := by
  refine List.all_eq_true.mpr fun c hc => ?_
  have h := List.all_eq_true.mp h1 c hc
  rcases Bool.eq_false_or_eq_true (isCode c) with hi | hi
  · exact h2 c (List.mem_filter.mpr ⟨hc, hi⟩)
  · simpa [hi] using h
set_option maxRecDepth 65536 in
theorem w_c0 : (Jvm.Cond.code x code maxLocals ret).before args0 about1 = true := code_word (m := ⟨1, 1⟩) (meth := k1m1) (c := k1c1) (by decide +kernel) rfl rfl rfl (by decide +kernel)
set_option maxRecDepth 65536 in
theorem w_c1 : (Jvm.Cond.code ({ cls := "java/lang/String", name := "<init>", desc := "([C)V" } : Jvm.MethodName) jdk_42_method_3_code (2 : Nat) (Option.none : Option Jvm.ClassFile.FieldType)).before args0 about1 = true := code_word (m := ⟨9, 1⟩) (meth := k9m1) (c := k9c1) (by decide +kernel) rfl rfl rfl (by decide +kernel)
set_option maxRecDepth 65536 in
theorem w_c2 : (Jvm.Cond.code ({ cls := "java/lang/String", name := "<init>", desc := "([CIILjava/lang/Void;)V" } : Jvm.MethodName) jdk_42_method_149_code (6 : Nat) (Option.none : Option Jvm.ClassFile.FieldType)).before args0 about1 = true := code_word (m := ⟨9, 2⟩) (meth := k9m2) (c := k9c2) (by decide +kernel) rfl rfl rfl (by decide +kernel)
set_option maxRecDepth 65536 in
theorem w_c3 : (Jvm.Cond.code ({ cls := "java/lang/Object", name := "<init>", desc := "()V" } : Jvm.MethodName) object_method_1_code (1 : Nat) (Option.none : Option Jvm.ClassFile.FieldType)).before args0 about1 = true := code_word (m := ⟨0, 0⟩) (meth := k0m0) (c := k0c0) (by decide +kernel) rfl rfl rfl (by decide +kernel)
set_option maxRecDepth 65536 in
theorem w_c4 : (Jvm.Cond.code ({ cls := "java/lang/StringUTF16", name := "compress", desc := "([CII)[B" } : Jvm.MethodName) jdk_52_method_16_code (6 : Nat) (Option.some (Jvm.ClassFile.FieldType.array Jvm.ClassFile.FieldType.byte))).before args0 about1 = true := code_word (m := ⟨10, 2⟩) (meth := k10m2) (c := k10c2) (by decide +kernel) rfl rfl rfl (by decide +kernel)
set_option maxRecDepth 65536 in
theorem w_c5 : (Jvm.Cond.code ({ cls := "java/lang/StringUTF16", name := "compress", desc := "([CI[BII)I" } : Jvm.MethodName) jdk_52_method_21_code (7 : Nat) (Option.some Jvm.ClassFile.FieldType.int)).before args0 about1 = true := code_word (m := ⟨10, 3⟩) (meth := k10m3) (c := k10c3) (by decide +kernel) rfl rfl rfl (by decide +kernel)
set_option maxRecDepth 65536 in
theorem w_c6 : (Jvm.Cond.code ({ cls := "java/lang/StringUTF16", name := "coderFromArrayLen", desc := "([BI)B" } : Jvm.MethodName) jdk_52_method_15_code (2 : Nat) (Option.some Jvm.ClassFile.FieldType.byte)).before args0 about1 = true := code_word (m := ⟨10, 1⟩) (meth := k10m1) (c := k10c1) (by decide +kernel) rfl rfl rfl (by decide +kernel)
set_option maxRecDepth 65536 in
theorem w_c7 : (Jvm.Cond.code ({ cls := "com/example/shardlift/shardlift/node/Records$Record", name := "<init>", desc := "(Ljava/lang/String;[BJJII)V" } : Jvm.MethodName) prog_192_method_1_code (9 : Nat) (Option.none : Option Jvm.ClassFile.FieldType)).before args0 about1 = true := code_word (m := ⟨3, 0⟩) (meth := k3m0) (c := k3c0) (by decide +kernel) rfl rfl rfl (by decide +kernel)
set_option maxRecDepth 65536 in
theorem w_c8 : (Jvm.Cond.code ({ cls := "java/lang/Record", name := "<init>", desc := "()V" } : Jvm.MethodName) jdk_30_method_1_code (1 : Nat) (Option.none : Option Jvm.ClassFile.FieldType)).before args0 about1 = true := code_word (m := ⟨2, 0⟩) (meth := k2m0) (c := k2c0) (by decide +kernel) rfl rfl rfl (by decide +kernel)
set_option maxRecDepth 65536 in
theorem w_c9 : (Jvm.Cond.code ({ cls := "com/example/shardlift/shardlift/node/Records$Record", name := "isDelete", desc := "()Z" } : Jvm.MethodName) prog_192_method_4_code (1 : Nat) (Option.some Jvm.ClassFile.FieldType.boolean)).before args0 about1 = true := code_word (m := ⟨3, 2⟩) (meth := k3m2) (c := k3c2) (by decide +kernel) rfl rfl rfl (by decide +kernel)
set_option maxRecDepth 65536 in
theorem w_c10 : (Jvm.Cond.code ({ cls := "com/example/shardlift/shardlift/node/Records$Record", name := "length", desc := "()I" } : Jvm.MethodName) prog_192_method_3_code (1 : Nat) (Option.some Jvm.ClassFile.FieldType.int)).before args0 about1 = true := code_word (m := ⟨3, 1⟩) (meth := k3m1) (c := k3c1) (by decide +kernel) rfl rfl rfl (by decide +kernel)
set_option maxRecDepth 65536 in
theorem w_c11 : (Jvm.Cond.code ({ cls := "java/lang/Math", name := "max", desc := "(II)I" } : Jvm.MethodName) jdk_29_method_65_code (2 : Nat) (Option.some Jvm.ClassFile.FieldType.int)).before args0 about1 = true := code_word (m := ⟨11, 1⟩) (meth := k11m1) (c := k11c1) (by decide +kernel) rfl rfl rfl (by decide +kernel)
def codes1 : List Jvm.Cond := [Jvm.Cond.code x code maxLocals ret, Jvm.Cond.code ({ cls := "java/lang/String", name := "<init>", desc := "([C)V" } : Jvm.MethodName) jdk_42_method_3_code (2 : Nat) (Option.none : Option Jvm.ClassFile.FieldType), Jvm.Cond.code ({ cls := "java/lang/String", name := "<init>", desc := "([CIILjava/lang/Void;)V" } : Jvm.MethodName) jdk_42_method_149_code (6 : Nat) (Option.none : Option Jvm.ClassFile.FieldType), Jvm.Cond.code ({ cls := "java/lang/Object", name := "<init>", desc := "()V" } : Jvm.MethodName) object_method_1_code (1 : Nat) (Option.none : Option Jvm.ClassFile.FieldType), Jvm.Cond.code ({ cls := "java/lang/StringUTF16", name := "compress", desc := "([CII)[B" } : Jvm.MethodName) jdk_52_method_16_code (6 : Nat) (Option.some (Jvm.ClassFile.FieldType.array Jvm.ClassFile.FieldType.byte)), Jvm.Cond.code ({ cls := "java/lang/StringUTF16", name := "compress", desc := "([CI[BII)I" } : Jvm.MethodName) jdk_52_method_21_code (7 : Nat) (Option.some Jvm.ClassFile.FieldType.int), Jvm.Cond.code ({ cls := "java/lang/StringUTF16", name := "coderFromArrayLen", desc := "([BI)B" } : Jvm.MethodName) jdk_52_method_15_code (2 : Nat) (Option.some Jvm.ClassFile.FieldType.byte), Jvm.Cond.code ({ cls := "com/example/shardlift/shardlift/node/Records$Record", name := "<init>", desc := "(Ljava/lang/String;[BJJII)V" } : Jvm.MethodName) prog_192_method_1_code (9 : Nat) (Option.none : Option Jvm.ClassFile.FieldType), Jvm.Cond.code ({ cls := "java/lang/Record", name := "<init>", desc := "()V" } : Jvm.MethodName) jdk_30_method_1_code (1 : Nat) (Option.none : Option Jvm.ClassFile.FieldType), Jvm.Cond.code ({ cls := "com/example/shardlift/shardlift/node/Records$Record", name := "isDelete", desc := "()Z" } : Jvm.MethodName) prog_192_method_4_code (1 : Nat) (Option.some Jvm.ClassFile.FieldType.boolean), Jvm.Cond.code ({ cls := "com/example/shardlift/shardlift/node/Records$Record", name := "length", desc := "()I" } : Jvm.MethodName) prog_192_method_3_code (1 : Nat) (Option.some Jvm.ClassFile.FieldType.int), Jvm.Cond.code ({ cls := "java/lang/Math", name := "max", desc := "(II)I" } : Jvm.MethodName) jdk_29_method_65_code (2 : Nat) (Option.some Jvm.ClassFile.FieldType.int)]
set_option maxRecDepth 65536 in
theorem codes_eq : words1.filter isCode = codes1 := rfl
theorem w_codes : ∀ c ∈ words1.filter isCode, c.before args0 about1 = true := by
  rw [codes_eq]
  intro c hc
  simp only [codes1, List.mem_cons, List.not_mem_nil, or_false] at hc
  rcases hc with rfl | rfl | rfl | rfl | rfl | rfl | rfl | rfl | rfl | rfl | rfl | rfl
  · exact w_c0
  · exact w_c1
  · exact w_c2
  · exact w_c3
  · exact w_c4
  · exact w_c5
  · exact w_c6
  · exact w_c7
  · exact w_c8
  · exact w_c9
  · exact w_c10
  · exact w_c11
set_option maxRecDepth 65536 in
theorem w_t1 : (words1.take 24).all (fun c => isCode c || c.before args0 about1) = true := by decide +kernel
set_option maxRecDepth 65536 in
theorem w_t2 : ((words1.drop 24).take 24).all (fun c => isCode c || c.before args0 about1) = true := by decide +kernel
set_option maxRecDepth 65536 in
theorem w_t3 : ((words1.drop 24).drop 24).all (fun c => isCode c || c.before args0 about1) = true := by decide +kernel
theorem w_tables : (allAtoms (Jvm.Cond.code x code maxLocals ret :: tables_1)).before args0 about1 = true := by
  rw [allAtoms_all]
  show words1.all (fun c => c.before args0 about1) = true
  refine all_split ?_ w_codes
  rw [← List.take_append_drop 24 words1, List.all_append, w_t1, ← List.take_append_drop 24 (words1.drop 24), List.all_append, w_t2, w_t3]
  rfl
set_option maxRecDepth 65536 in
theorem w_rest : rest_1_c.before args0 about1 = true := by decide +kernel
set_option maxRecDepth 65536 in
theorem w_case : (Jvm.Cond.and given_1 narrow_1).before args0 about1 = true := by decide +kernel
theorem w_applies : (headSpec (Jvm.Cond.code x code maxLocals ret :: tables_1) room_1).applies x e0.platform about1 = true :=
  (Spec.applies_iff w_frames).mpr ⟨w_running, w_runnable, w_alone, w_named, w_hears, w_ripe, w_room, w_tables⟩
theorem atStart : AtStart classFile x code maxLocals ret World_1 tables_1 room_1 Calls_1 rest_1 Pre_1 launch0 p0 e0 about1 theMethod args0 below0 :=
  ⟨lists_1, trivial, launch0.admits_env _ _ _, launch0.least_env, fairChoices_fair.cas, fairChoices_fair.clock, w_frames, w_args, w_heap, w_applies, trivial, w_rest, w_case⟩
end start1
theorem witness_1 : WitnessClaimed_1 := ⟨start1.p0, start1.e0, start1.about1, start1.theMethod, start1.args0, start1.below0, start1.atStart⟩
end Jvm.Pilot.@@N@@
