import JvmDerived
import JvmDerived.Pilot.@@N@@Statement
import JvmDerived.Pilot.@@N@@Code
set_option linter.unusedVariables false
set_option linter.unusedSimpArgs false
/- laws to paste: Road.backV, Road.lenW, Road.chN, Road.codOf (cut by pick.py; bodies as the Statement names them) -/
namespace Jvm.Pilot.@@N@@
namespace StrChars
open Jvm Sem ClassFile Op Lib Jvm.Stand Jvm.Free.XT Jvm.Free.ALB Jvm.Free.JM Jvm.Free
open Jvm.Lib.Cold (StaticIs)
/-- a char array whose places are chars -/
def Ch (a : Addr) (A : Cell) (U : State) : Prop := Arr .char a A U ∧ Typed .char A
theorem Ch.mv {a : Addr} {A : Cell} {U U' : State} (h : Ch a A U) (hal : U.vm.Alike U'.vm) (hh : U'.heap = U.heap) : Ch a A U' := ⟨h.1.mv hal hh, h.2⟩
theorem Ch.keep {a : Addr} {A : Cell} {U U' : State} (h : Ch a A U) (hal : U.vm.Alike U'.vm) (hk : U'.heap[a]? = some A) : Ch a A U' := ⟨h.1.keep hal hk, h.2⟩
/-- what place i of a char[]'s cell holds -/
def cv (A : Cell) (i : Nat) : Int32 := match A.slots[i]? with | some (.int x) => x | _ => 0
theorem Ch.get {a : Addr} {A : Cell} {U : State} (h : Ch a A U) {i : Nat} (hi : i < A.slots.size) : A.slots[i]? = some (.int (cv A i)) := by
  have e := Array.getElem?_eq_getElem hi
  have f := h.2 i _ e
  unfold cv; rw [e]
  generalize A.slots[i] = v at f
  cases v <;> simp [fits] at f ⊢
/-- the byte that i2b leaves of a char -/
def lo8 (x : Int32) : Int32 := x.toInt8.toInt32
theorem fits_lo8 (y : Int32) : fits .byte (.int (lo8 y)) = true := by
  have h1 := y.toInt8.le_toInt
  have h2 := y.toInt8.toInt_lt
  simp only [lo8, fits, Bool.and_eq_true, decide_eq_true_eq, Int32.le_iff_toInt_le, Int8.toInt_toInt32, show (-128 : Int32).toInt = -128 from by decide, show (127 : Int32).toInt = 127 from by decide]
  omega
/-- A' is A but that each place j of lo .. hi - 1 holds f j -/
def Laid (A A' : Cell) (lo hi : Nat) (f : Nat → Value) : Prop := A'.cls = A.cls ∧ A'.vm = A.vm ∧ A'.slots.size = A.slots.size ∧ ∀ i, A'.slots[i]? = if lo ≤ i ∧ i < hi then some (f i) else A.slots[i]?
theorem Laid.zero (A : Cell) (lo : Nat) (f : Nat → Value) : Laid A A lo (lo + 0) f := ⟨rfl, rfl, rfl, fun i => by rw [if_neg (by omega)]⟩
theorem Laid.step {A Ak : Cell} {lo k : Nat} {f : Nat → Value} {v : Value} (h : Laid A Ak lo k f) (hlo : lo ≤ k) (hk : k < Ak.slots.size) (hv : v = f k) : Laid A (Ak.setSlot k v) lo (k + 1) f := by
  refine ⟨h.1, h.2.1, by simpa [Cell.setSlot] using h.2.2.1, fun i => ?_⟩
  by_cases e : k = i
  · subst e; rw [Cell.slots_setSlot_self v hk, if_pos (by omega), hv]
  · rw [Cell.slots_setSlot_ne v e, h.2.2.2 i]
    by_cases q : lo ≤ i ∧ i < k
    · rw [if_pos q, if_pos (by omega)]
    · rw [if_neg q, if_neg (by omega)]
def U16 : String := "java/lang/StringUTF16"
namespace Cmp5
def yN : MethodName := ⟨"java/lang/StringUTF16", "compress", "([CI[BII)I"⟩
abbrev yB : ByteArray := jdk_52_method_21_code
theorem d0 : decode yB 0 = .ok (.iconst 0, 1) := by decide +kernel
theorem d1 : decode yB 1 = .ok (.istore 5, 2) := by decide +kernel
theorem d3 : decode yB 3 = .ok (.iload 5, 2) := by decide +kernel
theorem d5 : decode yB 5 = .ok (.iload 4, 2) := by decide +kernel
theorem d7 : decode yB 7 = .ok (.if_icmp (.ge) 37, 3) := by decide +kernel
theorem d10 : decode yB 10 = .ok (.aload_n 0, 1) := by decide +kernel
theorem d11 : decode yB 11 = .ok (.iload_n 1, 1) := by decide +kernel
theorem d12 : decode yB 12 = .ok (.caload, 1) := by decide +kernel
theorem d13 : decode yB 13 = .ok (.istore 6, 2) := by decide +kernel
theorem d15 : decode yB 15 = .ok (.iload 6, 2) := by decide +kernel
theorem d17 : decode yB 17 = .ok (.sipush 255, 3) := by decide +kernel
theorem d20 : decode yB 20 = .ok (.if_icmp (.le) 6, 3) := by decide +kernel
theorem d26 : decode yB 26 = .ok (.aload_n 2, 1) := by decide +kernel
theorem d27 : decode yB 27 = .ok (.iload_n 3, 1) := by decide +kernel
theorem d28 : decode yB 28 = .ok (.iload 6, 2) := by decide +kernel
theorem d30 : decode yB 30 = .ok (.i2b, 1) := by decide +kernel
theorem d31 : decode yB 31 = .ok (.bastore, 1) := by decide +kernel
theorem d32 : decode yB 32 = .ok (.iinc 1 1, 3) := by decide +kernel
theorem d35 : decode yB 35 = .ok (.iinc 3 1, 3) := by decide +kernel
theorem d38 : decode yB 38 = .ok (.iinc 5 1, 3) := by decide +kernel
theorem d41 : decode yB 41 = .ok (.goto (-38), 3) := by decide +kernel
theorem d44 : decode yB 44 = .ok (.iload 4, 2) := by decide +kernel
theorem d46 : decode yB 46 = .ok (.ireturn, 1) := by decide +kernel
def site : List Cond := []
def tab : Cond := tabOf yN yB 7 (some .int) site
def P (b : Addr) (A : Cell) (d : Addr) (B : Cell) (o q len : Nat) (args : Array Value) (s : State) : Prop := args = #[.ref b, .int (Int32.ofNat o), .ref d, .int (Int32.ofNat q), .int (Int32.ofNat len)] ∧ Ch b A s ∧ Arr .byte d B s ∧ b ≠ d ∧ o + len ≤ A.slots.size ∧ q + len ≤ B.slots.size ∧ ∀ i, i < len → ¬ 255 < cv A (o + i)
def E (b : Addr) (A : Cell) (d : Addr) (B : Cell) (o q len : Nat) (r : Option Value) (s u : State) : Prop := r = some (.int (Int32.ofNat len)) ∧ ∃ B', Put d B' s u ∧ Laid B B' q (q + len) (fun j => Value.int (lo8 (cv A (o + (j - q)))))
/-- no char of the range above 255: len; the places written hold each char's low byte -/
theorem law (l : Launch) (b : Addr) (A : Cell) (d : Addr) (B : Cell) (o q len : Nat) : Law l yN 5 5 0 0 yB 7 (some .int) site (P b A d B o q len) (E b A d B o q len) (copyLocs d q len) 0 0 := by
  refine Law.of_walk (plainFor_of_name (by decide +kernel)) (by decide +kernel) (by decide +kernel) (by decide) (fun _ _ h => by rw [h.1]; rfl) (fun _ U U' hal hh h => ⟨h.1, h.2.1.mv hal hh, h.2.2.1.mv hal hh, h.2.2.2⟩) (fun r U U' V V' h1 hal h2 h => ⟨h.1, h.2.elim fun B' q => ⟨B', q.1.mv h1 h2, q.2⟩⟩) ?_
  intro p e s m args below meth c s₁ X0 hexec hbytes hml hret hlk hnm hown hh0 W hP
  obtain ⟨rfl, hA, hB, hne, l1, l2, hp⟩ := hP
  have c1 : Steps p.tables e below (s₁.setTop (entryFrame m #[.ref b, .int (Int32.ofNat o), .ref d, .int (Int32.ofNat q), .int (Int32.ofNat len)] 7)) (s₁.setTop (mkF m 0 #[.val (.ref b), .val (.int (Int32.ofNat o)), .val (.ref d), .val (.int (Int32.ofNat q)), .val (.int (Int32.ofNat len)), .unset, .unset] [])) := entry rfl
  have hA0 := hA.1.mv X0.warmed.alike hh0
  have hB0 := hB.mv X0.warmed.alike hh0
  have a31 := hA.1.2.2.2
  have c2 : Steps p.tables e below (s₁.setTop (entryFrame m #[.ref b, .int (Int32.ofNat o), .ref d, .int (Int32.ofNat q), .int (Int32.ofNat len)] 7)) (s₁.setTop (mkF m 3 #[.val (.ref b), .val (.int (Int32.ofNat o)), .val (.ref d), .val (.int (Int32.ofNat q)), .val (.int (Int32.ofNat len)), .val (.int 0), .unset] [])) := c1.trans (by
    refine iconstV X0.here hexec rfl 0 (hb hbytes d0) (by decide) ?_
    refine XS.istore X0.here hexec rfl (hb hbytes d1) rfl rfl ?_
    exact Steps.refl _)
  have loop : ∀ (r i : Nat), i + r = len → ∀ (z : Slot), (z = .unset ∨ ∃ w, z = .val w ∧ w.category = 1) → ∀ (Tl : State) (Bk : Cell), Stand p l e { frames := 0, locals := 0, cells := 0, slots := 0 } s m #[.ref b, .int (Int32.ofNat o), .ref d, .int (Int32.ofNat q), .int (Int32.ofNat len)] below meth c Tl ([] ++ copyLocs d q i) 0 0 → Put d Bk s₁ Tl → Laid B Bk q (q + i) (fun j => Value.int (lo8 (cv A (o + (j - q))))) →
      Steps p.tables e below (s₁.setTop (entryFrame m #[.ref b, .int (Int32.ofNat o), .ref d, .int (Int32.ofNat q), .int (Int32.ofNat len)] 7)) (Tl.setTop (mkF m 3 #[.val (.ref b), .val (.int (Int32.ofNat (o + i))), .val (.ref d), .val (.int (Int32.ofNat (q + i))), .val (.int (Int32.ofNat len)), .val (.int (Int32.ofNat i)), z] [])) → ∃ (T' : State) (B' : Cell) (z' : Slot), Stand p l e { frames := 0, locals := 0, cells := 0, slots := 0 } s m #[.ref b, .int (Int32.ofNat o), .ref d, .int (Int32.ofNat q), .int (Int32.ofNat len)] below meth c T' ([] ++ copyLocs d q len) 0 0 ∧ Put d B' s₁ T' ∧ Laid B B' q (q + len) (fun j => Value.int (lo8 (cv A (o + (j - q))))) ∧
      Steps p.tables e below (s₁.setTop (entryFrame m #[.ref b, .int (Int32.ofNat o), .ref d, .int (Int32.ofNat q), .int (Int32.ofNat len)] 7)) (T'.setTop (mkF m 3 #[.val (.ref b), .val (.int (Int32.ofNat (o + len))), .val (.ref d), .val (.int (Int32.ofNat (q + len))), .val (.int (Int32.ofNat len)), .val (.int (Int32.ofNat len)), z'] [])) := by
    intro r
    induction r with
    | zero =>
      intro i hi z hz Tl Bk Xl pl fl cl
      have hil : i = len := by omega
      rw [hil] at Xl fl cl
      exact ⟨Tl, Bk, z, Xl, pl, fl, cl⟩
    | succ r ih =>
      intro i hi z hz Tl Bk Xl pl fl cl
      have all := X0.warmed.alike.symm.trans Xl.warmed.alike
      have hAl := hA0.keep all (pl.other hne hA0.1)
      have hBk := hB0.like all pl.1 fl.1 fl.2.1 fl.2.2.1
      have hlt : q + i < Bk.slots.size := by rw [fl.2.2.1]; omega
      have c3 : Steps p.tables e below (s₁.setTop (entryFrame m #[.ref b, .int (Int32.ofNat o), .ref d, .int (Int32.ofNat q), .int (Int32.ofNat len)] 7)) (Tl.setTop (mkF m 12 #[.val (.ref b), .val (.int (Int32.ofNat (o + i))), .val (.ref d), .val (.int (Int32.ofNat (q + i))), .val (.int (Int32.ofNat len)), .val (.int (Int32.ofNat i)), z] [.int (Int32.ofNat (o + i)), .ref b])) := cl.trans (by
        refine XS.iload Xl.here hexec rfl (hb hbytes d3) rfl ?_
        refine XS.iload Xl.here hexec rfl (hb hbytes d5) rfl ?_
        refine XS.icmpNo Xl.here hexec rfl (hb hbytes d7) rfl (ii_ge_f (lt32 (by omega) (by omega))) ?_
        refine XS.aloadN Xl.here hexec rfl (hb hbytes d10) rfl rfl ?_
        refine XS.iloadN Xl.here hexec rfl (hb hbytes d11) rfl ?_
        exact Steps.refl _)
      have c4 : Steps p.tables e below (s₁.setTop (entryFrame m #[.ref b, .int (Int32.ofNat o), .ref d, .int (Int32.ofNat q), .int (Int32.ofNat len)] 7)) (Tl.setTop (mkF m 13 #[.val (.ref b), .val (.int (Int32.ofNat (o + i))), .val (.ref d), .val (.int (Int32.ofNat (q + i))), .val (.int (Int32.ofNat len)), .val (.int (Int32.ofNat i)), z] [.int (cv A (o + i))])) := c3.trans (by
        refine Xl.aget hexec hAl rfl (hA.get (i := o + i) (by omega)) rfl rfl (hb hbytes d12) ?_
        exact Steps.refl _)
      have c5 : Steps p.tables e below (s₁.setTop (entryFrame m #[.ref b, .int (Int32.ofNat o), .ref d, .int (Int32.ofNat q), .int (Int32.ofNat len)] 7)) (Tl.setTop (mkF m 15 #[.val (.ref b), .val (.int (Int32.ofNat (o + i))), .val (.ref d), .val (.int (Int32.ofNat (q + i))), .val (.int (Int32.ofNat len)), .val (.int (Int32.ofNat i)), .val (.int (cv A (o + i)))] [])) := c4.trans (by
        refine XS.istoreS Xl.here hexec rfl (hb hbytes d13) rfl rfl hz ?_
        exact Steps.refl _)
      have c6 : Steps p.tables e below (s₁.setTop (entryFrame m #[.ref b, .int (Int32.ofNat o), .ref d, .int (Int32.ofNat q), .int (Int32.ofNat len)] 7)) (Tl.setTop (mkF m 31 #[.val (.ref b), .val (.int (Int32.ofNat (o + i))), .val (.ref d), .val (.int (Int32.ofNat (q + i))), .val (.int (Int32.ofNat len)), .val (.int (Int32.ofNat i)), .val (.int (cv A (o + i)))] [.int (lo8 (cv A (o + i))), .int (Int32.ofNat (q + i)), .ref d])) := c5.trans (by
        refine XS.iload Xl.here hexec rfl (hb hbytes d15) rfl ?_
        refine sipushV Xl.here hexec rfl 255 (hb hbytes d17) (by decide) ?_
        refine XS.icmpYes Xl.here hexec rfl (pc0 := 20) rfl (hb hbytes d20) rfl (ii_le_t (hp i (by omega))) (by decide) rfl ?_
        refine XS.aloadN Xl.here hexec rfl (hb hbytes d26) rfl rfl ?_
        refine XS.iloadN Xl.here hexec rfl (hb hbytes d27) rfl ?_
        refine XS.iload Xl.here hexec rfl (hb hbytes d28) rfl ?_
        refine i2b Xl.here hexec rfl (hb hbytes d30) rfl ?_
        exact Steps.refl _)
      obtain ⟨T7, X7, p7, st7⟩ := Xl.aput hexec hBk rfl hlt rfl (fits_lo8 (cv A (o + i))) (g := (mkF m 31 #[.val (.ref b), .val (.int (Int32.ofNat (o + i))), .val (.ref d), .val (.int (Int32.ofNat (q + i))), .val (.int (Int32.ofNat len)), .val (.int (Int32.ofNat i)), .val (.int (cv A (o + i)))] [.int (lo8 (cv A (o + i))), .int (Int32.ofNat (q + i)), .ref d])) rfl (rest := []) rfl (hb hbytes d31)
      have c8 : Steps p.tables e below (s₁.setTop (entryFrame m #[.ref b, .int (Int32.ofNat o), .ref d, .int (Int32.ofNat q), .int (Int32.ofNat len)] 7)) (T7.setTop (mkF m 32 #[.val (.ref b), .val (.int (Int32.ofNat (o + i))), .val (.ref d), .val (.int (Int32.ofNat (q + i))), .val (.int (Int32.ofNat len)), .val (.int (Int32.ofNat i)), .val (.int (cv A (o + i)))] [])) := c6.trans (st7 _ (Steps.refl _))
      have c9 : Steps p.tables e below (s₁.setTop (entryFrame m #[.ref b, .int (Int32.ofNat o), .ref d, .int (Int32.ofNat q), .int (Int32.ofNat len)] 7)) (T7.setTop (mkF m 3 #[.val (.ref b), .val (.int (Int32.ofNat (o + i) + 1)), .val (.ref d), .val (.int (Int32.ofNat (q + i) + 1)), .val (.int (Int32.ofNat len)), .val (.int (Int32.ofNat i + 1)), .val (.int (cv A (o + i)))] [])) := c8.trans (by
        refine iincV X7.here hexec rfl 1 (hb hbytes d32) (by decide) rfl rfl ?_
        refine iincV X7.here hexec rfl 1 (hb hbytes d35) (by decide) rfl rfl ?_
        refine iincV X7.here hexec rfl 1 (hb hbytes d38) (by decide) rfl rfl ?_
        refine XS.goto X7.here hexec rfl (pc0 := 41) rfl (hb hbytes d41) (by decide) rfl ?_
        exact Steps.refl _)
      have c10 : Steps p.tables e below (s₁.setTop (entryFrame m #[.ref b, .int (Int32.ofNat o), .ref d, .int (Int32.ofNat q), .int (Int32.ofNat len)] 7)) (T7.setTop (mkF m 3 #[.val (.ref b), .val (.int (Int32.ofNat (o + (i + 1)))), .val (.ref d), .val (.int (Int32.ofNat (q + (i + 1)))), .val (.int (Int32.ofNat len)), .val (.int (Int32.ofNat (i + 1))), .val (.int (cv A (o + i)))] [])) := by
        have := c9
        rw [succ32, succ32, succ32] at this
        exact this
      exact ih (i + 1) (by omega) _ (Or.inr ⟨_, rfl, rfl⟩) T7 _ (by rw [copyLocs_step, ← List.append_assoc]; exact X7) (pl.trans p7) (fl.step (by omega) hlt (by simp)) c10
  obtain ⟨T9, B9, z9, X9, p9, f9, g9⟩ := loop len 0 (by omega) .unset (Or.inl rfl) s₁ B (by simpa [copyLocs] using X0) ⟨hB0.1, fun _ _ => rfl, rfl⟩ (Laid.zero _ _ _) c2
  have c11 : Steps p.tables e below (s₁.setTop (entryFrame m #[.ref b, .int (Int32.ofNat o), .ref d, .int (Int32.ofNat q), .int (Int32.ofNat len)] 7)) (T9.setTop (mkF m 46 #[.val (.ref b), .val (.int (Int32.ofNat (o + len))), .val (.ref d), .val (.int (Int32.ofNat (q + len))), .val (.int (Int32.ofNat len)), .val (.int (Int32.ofNat len)), z9] [.int (Int32.ofNat len)])) := g9.trans (by
    refine XS.iload X9.here hexec rfl (hb hbytes d3) rfl ?_
    refine XS.iload X9.here hexec rfl (hb hbytes d5) rfl ?_
    refine XS.icmpYes X9.here hexec rfl (pc0 := 7) rfl (hb hbytes d7) rfl (ii_ge_t (nlt32 (by omega) (Nat.le_refl _))) (by decide) rfl ?_
    refine XS.iload X9.here hexec rfl (hb hbytes d44) rfl ?_
    exact Steps.refl _)
  exact ⟨T9, some (.int (Int32.ofNat len)), _, _, _, X9, by simp, rfl, rfl, (fun h => by cases h), ⟨rfl, B9, p9.from hh0, f9⟩, fun fs hl => c11.trans (X9.ireturnOut hexec hret rfl (Or.inl rfl) (hb hbytes d46) hl)⟩
end Cmp5
namespace Cmp3
def yN : MethodName := ⟨"java/lang/StringUTF16", "compress", "([CII)[B"⟩
abbrev yB : ByteArray := jdk_52_method_16_code
theorem d0 : decode yB 0 = .ok (.iload_n 2, 1) := by decide +kernel
theorem d1 : decode yB 1 = .ok (.newarray .byte, 2) := by decide +kernel
theorem d3 : decode yB 3 = .ok (.astore_n 3, 1) := by decide +kernel
theorem d4 : decode yB 4 = .ok (.aload_n 0, 1) := by decide +kernel
theorem d5 : decode yB 5 = .ok (.iload_n 1, 1) := by decide +kernel
theorem d6 : decode yB 6 = .ok (.aload_n 3, 1) := by decide +kernel
theorem d7 : decode yB 7 = .ok (.iconst 0, 1) := by decide +kernel
theorem d8 : decode yB 8 = .ok (.iload_n 2, 1) := by decide +kernel
theorem d9 : decode yB 9 = .ok (.invokestatic 115, 3) := by decide +kernel
theorem d12 : decode yB 12 = .ok (.istore 4, 2) := by decide +kernel
theorem d14 : decode yB 14 = .ok (.iload 4, 2) := by decide +kernel
theorem d16 : decode yB 16 = .ok (.iload_n 2, 1) := by decide +kernel
theorem d17 : decode yB 17 = .ok (.if_icmp (.eq) 40, 3) := by decide +kernel
theorem d57 : decode yB 57 = .ok (.aload_n 3, 1) := by decide +kernel
theorem d58 : decode yB 58 = .ok (.areturn, 1) := by decide +kernel
def site : List Cond := [.arrayClass .byte, Cmp5.tab] ++ staticW U16 115 Cmp5.yN
def tab : Cond := tabOf yN yB 6 (some (.array .byte)) site
def P (b : Addr) (A : Cell) (o len : Nat) (args : Array Value) (s : State) : Prop := args = #[.ref b, .int (Int32.ofNat o), .int (Int32.ofNat len)] ∧ Ch b A s ∧ o + len ≤ A.slots.size ∧ len ≤ 536870912 ∧ ∀ i, i < len → ¬ 255 < cv A (o + i)
def E (b : Addr) (A : Cell) (o len : Nat) (r : Option Value) (s u : State) : Prop := NewArr .byte "[B" len (fun j => .int (lo8 (cv A (o + j)))) r s u ∧ u.heap.size = s.heap.size + 1
/-- no char of the range above 255: a new byte[] of their low bytes -/
theorem law (l : Launch) (b : Addr) (A : Cell) (o len : Nat) : Law l yN 3 3 1 18 yB 6 (some (.array .byte)) site (P b A o len) (E b A o len) [] 1 len := by
  refine Law.of_walk (plainFor_of_name (by decide +kernel)) (by decide +kernel) (by decide +kernel) (by decide) (fun _ _ h => by rw [h.1]; rfl) (fun _ U U' hal hh h => ⟨h.1, h.2.1.mv hal hh, h.2.2⟩) (fun r U U' V V' h1 hal h2 h => ⟨NewArr.mv r U U' V V' h1 hal h2 h.1, by rw [h1, h2]; exact h.2⟩) ?_
  intro p e s m args below meth c s₁ X0 hexec hbytes hml hret hlk hnm hown hh0 W hP
  obtain ⟨rfl, hA, l1, l2, hp⟩ := hP
  have a31 := hA.1.2.2.2
  have c1 : Steps p.tables e below (s₁.setTop (entryFrame m #[.ref b, .int (Int32.ofNat o), .int (Int32.ofNat len)] 6)) (s₁.setTop (mkF m 0 #[.val (.ref b), .val (.int (Int32.ofNat o)), .val (.int (Int32.ofNat len)), .unset, .unset, .unset] [])) := entry rfl
  have c2 : Steps p.tables e below (s₁.setTop (entryFrame m #[.ref b, .int (Int32.ofNat o), .int (Int32.ofNat len)] 6)) (s₁.setTop (mkF m 1 #[.val (.ref b), .val (.int (Int32.ofNat o)), .val (.int (Int32.ofNat len)), .unset, .unset, .unset] [.int (Int32.ofNat len)])) := c1.trans (by
    refine XS.iloadN X0.here hexec rfl (hb hbytes d0) rfl ?_
    exact Steps.refl _)
  obtain ⟨T3, B3, X3, ba3, bs3, bv3, bh3, bf3, st3⟩ := X0.anew hexec (atype := .byte) (wk W (.arrayClass .byte)) rfl (by show len * 1 ≤ _; omega) (by omega) (g := (mkF m 1 #[.val (.ref b), .val (.int (Int32.ofNat o)), .val (.int (Int32.ofNat len)), .unset, .unset, .unset] [.int (Int32.ofNat len)])) rfl (hb hbytes d1) (rest := []) rfl (Nat.le_refl _) (by show 0 + len ≤ len; omega)
  rw [hh0] at ba3 st3
  have kp3 : XT.Kept s T3 := (XT.Kept.of_eq hh0).push bh3
  have hA3 := hA.keep X3.warmed.alike (kp3 _ _ hA.1.1)
  have hne : b ≠ s.heap.size := hA.1.ne
  have c4 : Steps p.tables e below (s₁.setTop (entryFrame m #[.ref b, .int (Int32.ofNat o), .int (Int32.ofNat len)] 6)) (T3.setTop (mkF m 3 #[.val (.ref b), .val (.int (Int32.ofNat o)), .val (.int (Int32.ofNat len)), .unset, .unset, .unset] [.ref s.heap.size])) := c2.trans (st3 _ (Steps.refl _))
  have c5 : Steps p.tables e below (s₁.setTop (entryFrame m #[.ref b, .int (Int32.ofNat o), .int (Int32.ofNat len)] 6)) (T3.setTop (mkF m 9 #[.val (.ref b), .val (.int (Int32.ofNat o)), .val (.int (Int32.ofNat len)), .val (.ref s.heap.size), .unset, .unset] [.int (Int32.ofNat len), .int 0, .ref s.heap.size, .int (Int32.ofNat o), .ref b])) := c4.trans (by
    refine XS.astoreN X3.here hexec rfl (hb hbytes d3) rfl rfl rfl ?_
    refine XS.aloadN X3.here hexec rfl (hb hbytes d4) rfl rfl ?_
    refine XS.iloadN X3.here hexec rfl (hb hbytes d5) rfl ?_
    refine XS.aloadN X3.here hexec rfl (hb hbytes d6) rfl rfl ?_
    refine iconstV X3.here hexec rfl 0 (hb hbytes d7) (by decide) ?_
    refine XS.iloadN X3.here hexec rfl (hb hbytes d8) rfl ?_
    exact Steps.refl _)
  obtain ⟨v6, T6, X6, E6, g6⟩ := X3.callS hexec (Cmp5.law l b A s.heap.size B3 o 0 len) hown (wks W (staticW U16 115 Cmp5.yN)) (wk W Cmp5.tab) (W := 0) (Nat.le_of_ble_eq_true rfl) (Nat.le_of_ble_eq_true rfl) (Nat.le_refl _) (by show 0 + len + 0 ≤ len; omega) (g := (mkF m 9 #[.val (.ref b), .val (.int (Int32.ofNat o)), .val (.int (Int32.ofNat len)), .val (.ref s.heap.size), .unset, .unset] [.int (Int32.ofNat len), .int (Int32.ofNat 0), .ref s.heap.size, .int (Int32.ofNat o), .ref b])) rfl (by rw [hml]; rfl) c5 (argsL := [.ref b, .int (Int32.ofNat o), .ref s.heap.size, .int (Int32.ofNat 0), .int (Int32.ofNat len)]) (rest := []) rfl rfl (by show 2 * 0 + 0 ≤ _; decide) (hb hbytes d9) (⟨rfl, hA3, ba3, hne, l1, by rw [bs3]; simp, hp⟩)
  obtain ⟨rfl, B6, p6, f6⟩ := E6
  have c7 : Steps p.tables e below (s₁.setTop (entryFrame m #[.ref b, .int (Int32.ofNat o), .int (Int32.ofNat len)] 6)) (T6.setTop (mkF m 12 #[.val (.ref b), .val (.int (Int32.ofNat o)), .val (.int (Int32.ofNat len)), .val (.ref s.heap.size), .unset, .unset] [.int (Int32.ofNat len)])) := g6
  have c8 : Steps p.tables e below (s₁.setTop (entryFrame m #[.ref b, .int (Int32.ofNat o), .int (Int32.ofNat len)] 6)) (T6.setTop (mkF m 58 #[.val (.ref b), .val (.int (Int32.ofNat o)), .val (.int (Int32.ofNat len)), .val (.ref s.heap.size), .val (.int (Int32.ofNat len)), .unset] [.ref s.heap.size])) := c7.trans (by
    refine XS.istore X6.here hexec rfl (hb hbytes d12) rfl rfl ?_
    refine XS.iload X6.here hexec rfl (hb hbytes d14) rfl ?_
    refine XS.iloadN X6.here hexec rfl (hb hbytes d16) rfl ?_
    refine XS.icmpYes X6.here hexec rfl (pc0 := 17) rfl (hb hbytes d17) rfl (ii_eq_t rfl) (by decide) rfl ?_
    refine XS.aloadN X6.here hexec rfl (hb hbytes d57) rfl rfl ?_
    exact Steps.refl _)
  have X8 := X6.wide (L' := []) (cells' := 1) (slots' := len) (fun x hx hlt => by
    simp only [List.nil_append, copyLocs, List.mem_map, List.mem_range] at hx
    obtain ⟨i, -, rfl⟩ := hx
    exact absurd hlt (Nat.lt_irrefl _)) (Nat.le_refl _) (by omega)
  exact ⟨T6, some (.ref s.heap.size), _, _, _, X8, rfl, rfl, rfl, (fun h => by cases h), ⟨⟨rfl, B6, ba3.like (X3.warmed.alike.symm.trans X6.warmed.alike) p6.1 f6.1 f6.2.1 f6.2.2.1, f6.2.1.trans bv3, by rw [X6.warmed.alike.findClass, f6.1]; exact bf3, by rw [f6.2.2.1, bs3]; simp, fun j hj => by rw [f6.2.2.2 j, if_pos (by omega)]; rfl, kp3.put p6 (Nat.le_refl _)⟩, by rw [p6.2.2, bh3, hh0]; simp⟩, fun fs hl => c8.trans (X8.areturnOut hexec rfl hret rfl (hb hbytes d58) hl)⟩
end Cmp3
namespace CodL
def yN : MethodName := ⟨"java/lang/StringUTF16", "coderFromArrayLen", "([BI)B"⟩
abbrev yB : ByteArray := jdk_52_method_15_code
theorem d0 : decode yB 0 = .ok (.iload_n 1, 1) := by decide +kernel
theorem d1 : decode yB 1 = .ok (.aload_n 0, 1) := by decide +kernel
theorem d2 : decode yB 2 = .ok (.arraylength, 1) := by decide +kernel
theorem d3 : decode yB 3 = .ok (.isub, 1) := by decide +kernel
theorem d4 : decode yB 4 = .ok (.bipush 31, 2) := by decide +kernel
theorem d6 : decode yB 6 = .ok (.iushr, 1) := by decide +kernel
theorem d7 : decode yB 7 = .ok (.i2b, 1) := by decide +kernel
theorem d8 : decode yB 8 = .ok (.ireturn, 1) := by decide +kernel
def site : List Cond := []
def tab : Cond := tabOf yN yB 2 (some .byte) site
def P (d : Addr) (B : Cell) (args : Array Value) (s : State) : Prop := args = #[.ref d, .int (Int32.ofNat B.slots.size)] ∧ Arr .byte d B s
def E (r : Option Value) (s u : State) : Prop := XT.PureE (some (.int 0)) r s u
/-- an array as long as the number of chars: LATIN1 -/
theorem law (l : Launch) (d : Addr) (B : Cell) : Law l yN 2 2 0 0 yB 2 (some .byte) site (P d B) E [] 0 0 := by
  refine Law.of_walk (plainFor_of_name (by decide +kernel)) (by decide +kernel) (by decide +kernel) (by decide) (fun _ _ h => by rw [h.1]; rfl) (fun _ U U' hal hh h => ⟨h.1, h.2.mv hal hh⟩) (fun r U U' V V' h1 hal h2 h => XT.PureE.mv r U U' V V' h1 hal h2 h) ?_
  intro p e s m args below meth c s₁ X0 hexec hbytes hml hret hlk hnm hown hh0 W hP
  obtain ⟨rfl, hB⟩ := hP
  have hB0 := hB.mv X0.warmed.alike hh0
  have c1 : Steps p.tables e below (s₁.setTop (entryFrame m #[.ref d, .int (Int32.ofNat B.slots.size)] 2)) (s₁.setTop (mkF m 0 #[.val (.ref d), .val (.int (Int32.ofNat B.slots.size))] [])) := entry rfl
  have c2 : Steps p.tables e below (s₁.setTop (entryFrame m #[.ref d, .int (Int32.ofNat B.slots.size)] 2)) (s₁.setTop (mkF m 2 #[.val (.ref d), .val (.int (Int32.ofNat B.slots.size))] [.ref d, .int (Int32.ofNat B.slots.size)])) := c1.trans (by
    refine XS.iloadN X0.here hexec rfl (hb hbytes d0) rfl ?_
    refine XS.aloadN X0.here hexec rfl (hb hbytes d1) rfl rfl ?_
    exact Steps.refl _)
  have c3 : Steps p.tables e below (s₁.setTop (entryFrame m #[.ref d, .int (Int32.ofNat B.slots.size)] 2)) (s₁.setTop (mkF m 8 #[.val (.ref d), .val (.int (Int32.ofNat B.slots.size))] [.int (lo8 (ushr (Int32.ofNat B.slots.size - Int32.ofNat B.slots.size) 31))])) := c2.trans (by
    refine X0.alen hexec hB0 rfl rfl (hb hbytes d2) ?_
    refine XS.isub X0.here hexec rfl (hb hbytes d3) rfl ?_
    refine bipushV X0.here hexec rfl 31 (hb hbytes d4) (by decide) ?_
    refine iushr X0.here hexec rfl (hb hbytes d6) rfl ?_
    refine i2b X0.here hexec rfl (hb hbytes d7) rfl ?_
    exact Steps.refl _)
  have e0 : lo8 (ushr (Int32.ofNat B.slots.size - Int32.ofNat B.slots.size) 31) = 0 := by rw [Int32.sub_self]; decide
  rw [e0] at c3
  exact ⟨s₁, some (.int 0), _, _, _, X0, rfl, rfl, rfl, (fun h => by cases h), ⟨rfl, hh0⟩, fun fs hl => c3.trans (X0.ireturnOut hexec hret rfl (Or.inr (Or.inr (Or.inl rfl))) (hb hbytes d8) hl)⟩
end CodL
/-- the String at a is Latin-1 over a new byte[] (the heap's one new cell): the low bytes of the len chars of A from o on; every cell but a is kept -/
def Got (a : Addr) (D : Cell) (fV fC : Field) (A : Cell) (o len : Nat) (r : Option Value) (s u : State) : Prop := r = none ∧ ∃ D' V : Cell, Blank "java/lang/String" a D' u ∧ Same D D' [fV.slot, fC.slot] ∧ D'.slots[fV.slot]? = some (.ref s.heap.size) ∧ D'.slots[fC.slot]? = some (.int 0) ∧ Arr .byte s.heap.size V u ∧ V.vm = .none ∧ u.vm.findClass "[B" = some V.cls ∧ V.slots.size = len ∧ (∀ j, j < len → V.slots[j]? = some (.int (lo8 (cv A (o + j))))) ∧ (∀ (y : Addr) (c : Cell), y ≠ a → s.heap[y]? = some c → u.heap[y]? = some c) ∧ u.heap.size = s.heap.size + 1
theorem Got.mv {a : Addr} {D A : Cell} {fV fC : Field} {o len : Nat} : ∀ r (U U' V V' : State), U'.heap = U.heap → V.vm.Alike V'.vm → V'.heap = V.heap → Got a D fV fC A o len r U V → Got a D fV fC A o len r U' V' :=
  fun r U U' V V' h1 hal h2 ⟨e0, D', X, a1, a2, a3, a4, a5, a6, a7, a8, a9, a10, a11⟩ => ⟨e0, D', X, a1.mv hal h2, a2, by rw [h1]; exact a3, a4, by rw [h1]; exact a5.mv hal h2, a6, by rw [hal.findClass]; exact a7, a8, a9, by rw [h1, h2]; exact a10, by rw [h1, h2]; exact a11⟩
namespace New4
def yN : MethodName := ⟨"java/lang/String", "<init>", "([CIILjava/lang/Void;)V"⟩
abbrev yB : ByteArray := jdk_42_method_149_code
theorem d0 : decode yB 0 = .ok (.aload_n 0, 1) := by decide +kernel
theorem d1 : decode yB 1 = .ok (.invokespecial 1, 3) := by decide +kernel
theorem d4 : decode yB 4 = .ok (.iload_n 3, 1) := by decide +kernel
theorem d5 : decode yB 5 = .ok (.ifCond (.ne) 22, 3) := by decide +kernel
theorem d27 : decode yB 27 = .ok (.getstatic 38, 3) := by decide +kernel
theorem d30 : decode yB 30 = .ok (.ifCond (.eq) 28, 3) := by decide +kernel
theorem d33 : decode yB 33 = .ok (.aload_n 1, 1) := by decide +kernel
theorem d34 : decode yB 34 = .ok (.iload_n 2, 1) := by decide +kernel
theorem d35 : decode yB 35 = .ok (.iload_n 3, 1) := by decide +kernel
theorem d36 : decode yB 36 = .ok (.invokestatic 177, 3) := by decide +kernel
theorem d39 : decode yB 39 = .ok (.astore 5, 2) := by decide +kernel
theorem d41 : decode yB 41 = .ok (.aload_n 0, 1) := by decide +kernel
theorem d42 : decode yB 42 = .ok (.aload 5, 2) := by decide +kernel
theorem d44 : decode yB 44 = .ok (.iload_n 3, 1) := by decide +kernel
theorem d45 : decode yB 45 = .ok (.invokestatic 47, 3) := by decide +kernel
theorem d48 : decode yB 48 = .ok (.putfield 15, 3) := by decide +kernel
theorem d51 : decode yB 51 = .ok (.aload_n 0, 1) := by decide +kernel
theorem d52 : decode yB 52 = .ok (.aload 5, 2) := by decide +kernel
theorem d54 : decode yB 54 = .ok (.putfield 9, 3) := by decide +kernel
theorem d57 : decode yB 57 = .ok (.return_, 1) := by decide +kernel
def site : List Cond := [.fieldLink "java/lang/String" 38 "java/lang/String" "COMPACT_STRINGS" "Z", Cmp3.tab, CodL.tab, .laysFinal "java/lang/String" "java/lang/String" "value" "[B", .fieldLink "java/lang/String" 9 "java/lang/String" "value" "[B", .laysFinal "java/lang/String" "java/lang/String" "coder" "B", .fieldLink "java/lang/String" 15 "java/lang/String" "coder" "B"] ++ objW "java/lang/String" 1 ++ staticW "java/lang/String" 177 Cmp3.yN ++ staticW "java/lang/String" 47 CodL.yN
def tab : Cond := tabOf yN yB 6 none site
def P (a : Addr) (D : Cell) (fV fC : Field) (b : Addr) (A : Cell) (z : Int32) (o len : Nat) (args : Array Value) (s : State) : Prop := args = #[.ref a, .ref b, .int (Int32.ofNat o), .int (Int32.ofNat len), .null] ∧ Blank "java/lang/String" a D s ∧ Found "java/lang/String" "value" "[B" fV s ∧ Found "java/lang/String" "coder" "B" fC s ∧ Ch b A s ∧ StaticIs s "java/lang/String" "COMPACT_STRINGS" "Z" (.int z) ∧ ¬ z = 0 ∧ 0 < len ∧ o + len ≤ A.slots.size ∧ len ≤ 536870912 ∧ ∀ i, i < len → ¬ 255 < cv A (o + i)
def E (a : Addr) (D : Cell) (fV fC : Field) (A : Cell) (o len : Nat) (r : Option Value) (s u : State) : Prop := Got a D fV fC A o len r s u
/-- len > 0, no char of the range above 255: a Latin-1 String of their low bytes -/
theorem law (l : Launch) (a : Addr) (D : Cell) (fV fC : Field) (b : Addr) (A : Cell) (z : Int32) (o len : Nat) : Law l yN 5 4 2 35 yB 6 none site (P a D fV fC b A z o len) (E a D fV fC A o len) [⟨a, fC.slot⟩, ⟨a, fV.slot⟩] 1 len := by
  refine Law.of_walk (plainFor_of_name (by decide +kernel)) (by decide +kernel) (by decide +kernel) (by decide) (fun _ _ h => by rw [h.1]; rfl) (fun _ U U' hal hh h => ⟨h.1, h.2.1.mv hal hh, h.2.2.1.al hal, h.2.2.2.1.al hal, h.2.2.2.2.1.mv hal hh, h.2.2.2.2.2.1.there hal hh, h.2.2.2.2.2.2⟩) (fun r U U' V V' h1 hal h2 h => Got.mv r U U' V V' h1 hal h2 h) ?_
  intro p e s m args below meth c s₁ X0 hexec hbytes hml hret hlk hnm hown hh0 W hP
  obtain ⟨rfl, hB, f1, f2, hA, s1, hz, l0, l1, l2, hp⟩ := hP
  have a31 := hA.1.2.2.2
  have c1 : Steps p.tables e below (s₁.setTop (entryFrame m #[.ref a, .ref b, .int (Int32.ofNat o), .int (Int32.ofNat len), .null] 6)) (s₁.setTop (mkF m 0 #[.val (.ref a), .val (.ref b), .val (.int (Int32.ofNat o)), .val (.int (Int32.ofNat len)), .val .null, .unset] [])) := entry rfl
  have c2 : Steps p.tables e below (s₁.setTop (entryFrame m #[.ref a, .ref b, .int (Int32.ofNat o), .int (Int32.ofNat len), .null] 6)) (s₁.setTop (mkF m 1 #[.val (.ref a), .val (.ref b), .val (.int (Int32.ofNat o)), .val (.int (Int32.ofNat len)), .val .null, .unset] [.ref a])) := c1.trans (by
    refine XS.aloadN X0.here hexec rfl (hb hbytes d0) rfl rfl ?_
    exact Steps.refl _)
  obtain ⟨T3, X3, q3, st3⟩ := X0.oinit hexec hown (wks W (objW "java/lang/String" 1)) (g := (mkF m 1 #[.val (.ref a), .val (.ref b), .val (.int (Int32.ofNat o)), .val (.int (Int32.ofNat len)), .val .null, .unset] [.ref a])) rfl (by rw [hml]; rfl) (rest := []) rfl (hb hbytes d1) (W := 0) (by show 2 * 0 + 0 ≤ _; decide) (Nat.le_of_ble_eq_true rfl) (Nat.le_of_ble_eq_true rfl)
  have hh3 := q3.trans hh0
  have c4 : Steps p.tables e below (s₁.setTop (entryFrame m #[.ref a, .ref b, .int (Int32.ofNat o), .int (Int32.ofNat len), .null] 6)) (T3.setTop (mkF m 27 #[.val (.ref a), .val (.ref b), .val (.int (Int32.ofNat o)), .val (.int (Int32.ofNat len)), .val .null, .unset] [])) := (c2.trans (st3 _ (Steps.refl _))).trans (by
    refine XS.iloadN X3.here hexec rfl (hb hbytes d4) rfl ?_
    refine XS.ifYes X3.here hexec rfl (pc0 := 5) rfl (hb hbytes d5) rfl (i0_ne_t (nz32 (by omega) l0)) (by decide) rfl ?_
    exact Steps.refl _)
  obtain ⟨T5, X5, q5, st5⟩ := X3.sget hexec hown (wk W (.fieldLink "java/lang/String" 38 "java/lang/String" "COMPACT_STRINGS" "Z")) s1 (fun _ _ h => by rw [hh3]; exact h) (g := (mkF m 27 #[.val (.ref a), .val (.ref b), .val (.int (Int32.ofNat o)), .val (.int (Int32.ofNat len)), .val .null, .unset] [])) rfl (hb hbytes d27)
  have hh5 := q5.trans hh3
  have c6 : Steps p.tables e below (s₁.setTop (entryFrame m #[.ref a, .ref b, .int (Int32.ofNat o), .int (Int32.ofNat len), .null] 6)) (T5.setTop (mkF m 30 #[.val (.ref a), .val (.ref b), .val (.int (Int32.ofNat o)), .val (.int (Int32.ofNat len)), .val .null, .unset] [.int z])) := c4.trans (st5 _ (Steps.refl _))
  have c7 : Steps p.tables e below (s₁.setTop (entryFrame m #[.ref a, .ref b, .int (Int32.ofNat o), .int (Int32.ofNat len), .null] 6)) (T5.setTop (mkF m 36 #[.val (.ref a), .val (.ref b), .val (.int (Int32.ofNat o)), .val (.int (Int32.ofNat len)), .val .null, .unset] [.int (Int32.ofNat len), .int (Int32.ofNat o), .ref b])) := c6.trans (by
    refine XS.ifNo X5.here hexec rfl (hb hbytes d30) rfl (i0_eq_f hz) ?_
    refine XS.aloadN X5.here hexec rfl (hb hbytes d33) rfl rfl ?_
    refine XS.iloadN X5.here hexec rfl (hb hbytes d34) rfl ?_
    refine XS.iloadN X5.here hexec rfl (hb hbytes d35) rfl ?_
    exact Steps.refl _)
  obtain ⟨v8, T8, X8, E8, g8⟩ := X5.callS hexec (Cmp3.law l b A o len) hown (wks W (staticW "java/lang/String" 177 Cmp3.yN)) (wk W Cmp3.tab) (W := 0) (Nat.le_of_ble_eq_true rfl) (Nat.le_of_ble_eq_true rfl) (Nat.le_refl _) (by show 0 + len ≤ len; omega) (g := (mkF m 36 #[.val (.ref a), .val (.ref b), .val (.int (Int32.ofNat o)), .val (.int (Int32.ofNat len)), .val .null, .unset] [.int (Int32.ofNat len), .int (Int32.ofNat o), .ref b])) rfl (by rw [hml]; rfl) c7 (argsL := [.ref b, .int (Int32.ofNat o), .int (Int32.ofNat len)]) (rest := []) rfl rfl (by show 2 * 0 + 0 ≤ _; decide) (hb hbytes d36) (⟨rfl, hA.mv X5.warmed.alike hh5, l1, l2, hp⟩)
  obtain ⟨e8, z8⟩ := E8
  obtain ⟨rfl, N, n1, n2, n3, n4, n5, n6⟩ := NewArr.mv _ T5 s _ _ hh5.symm (Vm.Alike.refl _) rfl e8
  rw [hh5] at z8
  have hB1 := hB.keep X8.warmed.alike (n6 _ _ hB.1)
  have hne : s.heap.size ≠ a := (Nat.ne_of_lt (Array.getElem?_eq_some_iff.mp hB.1).1).symm
  have c9 : Steps p.tables e below (s₁.setTop (entryFrame m #[.ref a, .ref b, .int (Int32.ofNat o), .int (Int32.ofNat len), .null] 6)) (T8.setTop (mkF m 39 #[.val (.ref a), .val (.ref b), .val (.int (Int32.ofNat o)), .val (.int (Int32.ofNat len)), .val .null, .unset] [.ref s.heap.size])) := g8
  have c10 : Steps p.tables e below (s₁.setTop (entryFrame m #[.ref a, .ref b, .int (Int32.ofNat o), .int (Int32.ofNat len), .null] 6)) (T8.setTop (mkF m 45 #[.val (.ref a), .val (.ref b), .val (.int (Int32.ofNat o)), .val (.int (Int32.ofNat len)), .val .null, .val (.ref s.heap.size)] [.int (Int32.ofNat N.slots.size), .ref s.heap.size, .ref a])) := by
    have hc : Steps p.tables e below (s₁.setTop (entryFrame m #[.ref a, .ref b, .int (Int32.ofNat o), .int (Int32.ofNat len), .null] 6)) (T8.setTop (mkF m 45 #[.val (.ref a), .val (.ref b), .val (.int (Int32.ofNat o)), .val (.int (Int32.ofNat len)), .val .null, .val (.ref s.heap.size)] [.int (Int32.ofNat len), .ref s.heap.size, .ref a])) := c9.trans (by
      refine XS.astore X8.here hexec rfl (hb hbytes d39) rfl rfl rfl ?_
      refine XS.aloadN X8.here hexec rfl (hb hbytes d41) rfl rfl ?_
      refine XS.aload X8.here hexec rfl (hb hbytes d42) rfl rfl ?_
      refine XS.iloadN X8.here hexec rfl (hb hbytes d44) rfl ?_
      exact Steps.refl _)
    rw [n4]; exact hc
  obtain ⟨v11, T11, X11, E11, g11⟩ := X8.callS hexec (CodL.law l s.heap.size N) hown (wks W (staticW "java/lang/String" 47 CodL.yN)) (wk W CodL.tab) (W := 1) (Nat.le_of_ble_eq_true rfl) (Nat.le_of_ble_eq_true rfl) (Nat.le_refl _) (by show 0 + len + 0 ≤ len; omega) (g := (mkF m 45 #[.val (.ref a), .val (.ref b), .val (.int (Int32.ofNat o)), .val (.int (Int32.ofNat len)), .val .null, .val (.ref s.heap.size)] [.int (Int32.ofNat N.slots.size), .ref s.heap.size, .ref a])) rfl (by rw [hml]; rfl) c10 (argsL := [.ref s.heap.size, .int (Int32.ofNat N.slots.size)]) (rest := [.ref a]) rfl rfl (by show 2 * 0 + (1 + 0) ≤ _; decide) (hb hbytes d45) (⟨rfl, n1⟩)
  obtain ⟨rfl, q11⟩ := E11
  have hB11 := hB1.mv (X8.warmed.alike.symm.trans X11.warmed.alike) q11
  have c12 : Steps p.tables e below (s₁.setTop (entryFrame m #[.ref a, .ref b, .int (Int32.ofNat o), .int (Int32.ofNat len), .null] 6)) (T11.setTop (mkF m 48 #[.val (.ref a), .val (.ref b), .val (.int (Int32.ofNat o)), .val (.int (Int32.ofNat len)), .val .null, .val (.ref s.heap.size)] [.int 0, .ref a])) := g11
  obtain ⟨T13, X13, p13, bl13, sl13, st13⟩ := X11.finit hexec hown (wk W (.fieldLink "java/lang/String" 15 "java/lang/String" "coder" "B")) (Or.inr ⟨_, (wk W (.laysFinal "java/lang/String" "java/lang/String" "coder" "B"))⟩) (Or.inl ⟨rfl, hnm⟩) f2 (Or.inl rfl) hB11 (t := .byte) (by decide +kernel) rfl (g := (mkF m 48 #[.val (.ref a), .val (.ref b), .val (.int (Int32.ofNat o)), .val (.int (Int32.ofNat len)), .val .null, .val (.ref s.heap.size)] [.int 0, .ref a])) rfl (rest := []) rfl (hb hbytes d48)
  have c14 : Steps p.tables e below (s₁.setTop (entryFrame m #[.ref a, .ref b, .int (Int32.ofNat o), .int (Int32.ofNat len), .null] 6)) (T13.setTop (mkF m 54 #[.val (.ref a), .val (.ref b), .val (.int (Int32.ofNat o)), .val (.int (Int32.ofNat len)), .val .null, .val (.ref s.heap.size)] [.ref s.heap.size, .ref a])) := (c12.trans (st13 _ (Steps.refl _))).trans (by
    refine XS.aloadN X13.here hexec rfl (hb hbytes d51) rfl rfl ?_
    refine XS.aload X13.here hexec rfl (hb hbytes d52) rfl rfl ?_
    exact Steps.refl _)
  obtain ⟨T15, X15, p15, bl15, sl15, st15⟩ := X13.finit hexec hown (wk W (.fieldLink "java/lang/String" 9 "java/lang/String" "value" "[B")) (Or.inr ⟨_, (wk W (.laysFinal "java/lang/String" "java/lang/String" "value" "[B"))⟩) (Or.inl ⟨rfl, hnm⟩) f1 (Or.inl rfl) bl13 (t := (.array .byte)) (by decide +kernel) rfl (g := (mkF m 54 #[.val (.ref a), .val (.ref b), .val (.int (Int32.ofNat o)), .val (.int (Int32.ofNat len)), .val .null, .val (.ref s.heap.size)] [.ref s.heap.size, .ref a])) rfl (rest := []) rfl (hb hbytes d54)
  have c16 : Steps p.tables e below (s₁.setTop (entryFrame m #[.ref a, .ref b, .int (Int32.ofNat o), .int (Int32.ofNat len), .null] 6)) (T15.setTop (mkF m 57 #[.val (.ref a), .val (.ref b), .val (.int (Int32.ofNat o)), .val (.int (Int32.ofNat len)), .val .null, .val (.ref s.heap.size)] [])) := c14.trans (st15 _ (Steps.refl _))
  have ap := apart (Or.inr ⟨_, (wk W (.laysFinal "java/lang/String" "java/lang/String" "value" "[B"))⟩) (Or.inr ⟨_, (wk W (.laysFinal "java/lang/String" "java/lang/String" "coder" "B"))⟩) f1 f2 (t₁ := .array .byte) (t₂ := .byte) (by decide +kernel) (by decide +kernel) (by decide)
  have al := X8.warmed.alike.symm.trans X15.warmed.alike
  have n7 : T11.heap[s.heap.size]? = some N := by rw [q11]; exact n1.1
  exact ⟨T15, none, _, _, _, X15, by simp, rfl, by omega, (fun _ => rfl), ⟨rfl, _, N, bl15, ((Same.refl D _).set _ (by simp)).set _ (by simp), sl15, (Cell.slots_setSlot_ne _ ap).trans sl13, n1.keep al (p15.other hne (p13.other hne n7)), n2, by rw [al.findClass]; exact n3, n4, n5, fun y c h1 h2 => p15.other h1 (p13.other h1 (by rw [q11]; exact n6 y c h2)), by rw [p15.2.2, p13.2.2, q11]; exact z8⟩, fun fs hl => c16.trans (X15.returnOut hexec hret (hb hbytes d57) hl)⟩
end New4
namespace New1
def yN : MethodName := ⟨"java/lang/String", "<init>", "([C)V"⟩
abbrev yB : ByteArray := jdk_42_method_3_code
theorem d0 : decode yB 0 = .ok (.aload_n 0, 1) := by decide +kernel
theorem d1 : decode yB 1 = .ok (.aload_n 1, 1) := by decide +kernel
theorem d2 : decode yB 2 = .ok (.iconst 0, 1) := by decide +kernel
theorem d3 : decode yB 3 = .ok (.aload_n 1, 1) := by decide +kernel
theorem d4 : decode yB 4 = .ok (.arraylength, 1) := by decide +kernel
theorem d5 : decode yB 5 = .ok (.aconst_null, 1) := by decide +kernel
theorem d6 : decode yB 6 = .ok (.invokespecial 27, 3) := by decide +kernel
theorem d9 : decode yB 9 = .ok (.return_, 1) := by decide +kernel
def site : List Cond := [New4.tab] ++ initW "java/lang/String" 27 New4.yN
def tab : Cond := tabOf yN yB 2 none site
def P (a : Addr) (D : Cell) (fV fC : Field) (b : Addr) (A : Cell) (z : Int32) (args : Array Value) (s : State) : Prop := args = #[.ref a, .ref b] ∧ Blank "java/lang/String" a D s ∧ Found "java/lang/String" "value" "[B" fV s ∧ Found "java/lang/String" "coder" "B" fC s ∧ Ch b A s ∧ StaticIs s "java/lang/String" "COMPACT_STRINGS" "Z" (.int z) ∧ ¬ z = 0 ∧ 0 < A.slots.size ∧ A.slots.size ≤ 536870912 ∧ ∀ i, i < A.slots.size → ¬ 255 < cv A i
def E (a : Addr) (D : Cell) (fV fC : Field) (A : Cell) (r : Option Value) (s u : State) : Prop := Got a D fV fC A 0 A.slots.size r s u
/-- new String(chars), not empty, no char above 255: a Latin-1 String of their low bytes -/
theorem law (l : Launch) (a : Addr) (D : Cell) (fV fC : Field) (b : Addr) (A : Cell) (z : Int32) : Law l yN 2 1 3 52 yB 2 none site (P a D fV fC b A z) (E a D fV fC A) [⟨a, fC.slot⟩, ⟨a, fV.slot⟩] 1 A.slots.size := by
  refine Law.of_walk (plainFor_of_name (by decide +kernel)) (by decide +kernel) (by decide +kernel) (by decide) (fun _ _ h => by rw [h.1]; rfl) (fun _ U U' hal hh h => ⟨h.1, h.2.1.mv hal hh, h.2.2.1.al hal, h.2.2.2.1.al hal, h.2.2.2.2.1.mv hal hh, h.2.2.2.2.2.1.there hal hh, h.2.2.2.2.2.2⟩) (fun r U U' V V' h1 hal h2 h => Got.mv r U U' V V' h1 hal h2 h) ?_
  intro p e s m args below meth c s₁ X0 hexec hbytes hml hret hlk hnm hown hh0 W hP
  obtain ⟨rfl, hB, f1, f2, hA, s1, hz, l0, l2, hp⟩ := hP
  have c1 : Steps p.tables e below (s₁.setTop (entryFrame m #[.ref a, .ref b] 2)) (s₁.setTop (mkF m 0 #[.val (.ref a), .val (.ref b)] [])) := entry rfl
  have c2 : Steps p.tables e below (s₁.setTop (entryFrame m #[.ref a, .ref b] 2)) (s₁.setTop (mkF m 6 #[.val (.ref a), .val (.ref b)] [.null, .int (Int32.ofNat A.slots.size), .int 0, .ref b, .ref a])) := c1.trans (by
    refine XS.aloadN X0.here hexec rfl (hb hbytes d0) rfl rfl ?_
    refine XS.aloadN X0.here hexec rfl (hb hbytes d1) rfl rfl ?_
    refine iconstV X0.here hexec rfl 0 (hb hbytes d2) (by decide) ?_
    refine XS.aloadN X0.here hexec rfl (hb hbytes d3) rfl rfl ?_
    refine X0.alen hexec (hA.1.mv X0.warmed.alike hh0) rfl rfl (hb hbytes d4) ?_
    refine XS.aconstNull X0.here hexec rfl (hb hbytes d5) ?_
    exact Steps.refl _)
  obtain ⟨v3, T3, X3, E3, g3⟩ := X0.callN hexec (New4.law l a D fV fC b A z 0 A.slots.size) rfl hown (wks W (initW "java/lang/String" 27 New4.yN)) (W New4.tab (by simp only [site, List.mem_cons, List.mem_append, true_or, or_true])) (W := 0) (Nat.le_of_ble_eq_true rfl) (Nat.le_of_ble_eq_true rfl) (Nat.le_refl _) (by show 0 + A.slots.size ≤ A.slots.size; omega) (g := (mkF m 6 #[.val (.ref a), .val (.ref b)] [.null, .int (Int32.ofNat A.slots.size), .int (Int32.ofNat 0), .ref b, .ref a])) rfl (by rw [hml]; rfl) c2 (argsL := [.ref b, .int (Int32.ofNat 0), .int (Int32.ofNat A.slots.size), .null]) (rest := []) rfl rfl (by show 2 * 0 + 0 ≤ _; decide) (hb hbytes d6) (⟨rfl, hB.mv X0.warmed.alike hh0, f1.al X0.warmed.alike, f2.al X0.warmed.alike, hA.mv X0.warmed.alike hh0, s1.there X0.warmed.alike hh0, hz, l0, by omega, l2, fun i hi => by rw [Nat.zero_add]; exact hp i hi⟩)
  have e0 := Got.mv _ s₁ s _ _ hh0.symm (Vm.Alike.refl _) rfl E3
  obtain rfl := e0.1
  have c4 : Steps p.tables e below (s₁.setTop (entryFrame m #[.ref a, .ref b] 2)) (T3.setTop (mkF m 9 #[.val (.ref a), .val (.ref b)] [])) := g3
  exact ⟨T3, none, _, _, _, X3, by simp, rfl, by omega, (fun _ => rfl), e0, fun fs hl => c4.trans (X3.returnOut hexec hret (hb hbytes d9) hl)⟩
theorem pays {l : Launch} {R : Room} {p : Program} {e : Env} {below : List Frame} {s : State} {sargs : Array Value} {len W : Nat} (a : Addr) (D : Cell) (fV fC : Field) (b : Addr) (A : Cell) (z : Int32) (htab : tab.before sargs s = true) (hfr : 4 ≤ R.frames) (hlo : W + 65 ≤ R.locals) :
    Back l R p e below s sargs yN len W (fun A₁ a₁ => A₁.cells + 1 ≤ R.cells ∧ A₁.slots + A.slots.size ≤ R.slots ∧ P a D fV fC b A z a₁ A₁.U) (fun A₁ _ v₁ B₁ => E a D fV fC A v₁ A₁.U B₁.U ∧ B₁.locs = A₁.locs ++ [⟨a, fC.slot⟩, ⟨a, fV.slot⟩] ∧ B₁.cells = A₁.cells + 1 ∧ B₁.slots = A₁.slots + A.slots.size) :=
  (law l a D fV fC b A z).pays htab hfr (by omega)
end New1
/-- the byte, read back as charAt reads it, is the char -/
theorem lo8_mask {x : Int32} (h0 : ¬ x < 0) (h1 : ¬ 255 < x) : lo8 x &&& 255 = x := by
  have t : ∀ k : Fin 256, lo8 (Int32.ofNat k.val) &&& 255 = Int32.ofNat k.val := by decide +kernel
  rw [Int32.lt_iff_toInt_lt] at h0 h1
  have e0 : (0 : Int32).toInt = 0 := rfl
  have e1 : (255 : Int32).toInt = 255 := rfl
  obtain ⟨k, hk⟩ : ∃ k : Nat, x.toInt = k := ⟨x.toInt.toNat, by omega⟩
  have hx : x = Int32.ofNat k := Int32.toInt_inj.mp (by rw [hk, Int32.toInt_ofNat_small (by omega)])
  rw [hx]
  exact t ⟨k, by omega⟩
end StrChars
namespace StrChars.Road
open Jvm Sem ClassFile Op Lib Jvm.Stand Jvm.Free Jvm.Free.XT
open Jvm.Lib.Cold (StaticIs)
abbrev ST : String := "java/lang/String"
/-- every table word that New1's law asks, flat -/
abbrev words : List Jvm.Cond := [.code New1.yN New1.yB 2 none, .initialized ST, .methodLink ST 27 New4.yN, .instanceMethod New4.yN,
  .code New4.yN New4.yB 6 none, .fieldLink ST 38 ST "COMPACT_STRINGS" "Z", .laysFinal ST ST "value" "[B", .fieldLink ST 9 ST "value" "[B", .laysFinal ST ST "coder" "B", .fieldLink ST 15 ST "coder" "B",
  .methodLink ST 1 Lib.objectInit, .instanceMethod Lib.objectInit, .code Lib.objectInit ⟨#[0xb1]⟩ 1 none, .methodLink ST 177 Cmp3.yN, .static Cmp3.yN, .methodLink ST 47 CodL.yN, .static CodL.yN,
  .code Cmp3.yN Cmp3.yB 6 (some (.array .byte)), .initialized U16, .arrayClass .byte, .methodLink U16 115 Cmp5.yN, .static Cmp5.yN, .code Cmp5.yN Cmp5.yB 7 (some .int), .code CodL.yN CodL.yB 2 (some .byte)]
theorem tab_of {a : Array Value} {s : State} (h : ∀ w ∈ words, w.before a s = true) : New1.tab.before a s = true := by
  have h5 : Cmp5.tab.before a s = true := unparts (wk h (.code Cmp5.yN Cmp5.yB 7 (some .int))) (wks h (.initialized Cmp5.yN.cls :: Cmp5.site))
  have hc : CodL.tab.before a s = true := unparts (wk h (.code CodL.yN CodL.yB 2 (some .byte))) (wks h (.initialized CodL.yN.cls :: CodL.site))
  have q5 : ∀ w ∈ Cmp5.tab :: words, w.before a s = true := fun w hw => (List.mem_cons.mp hw).elim (fun e => e ▸ h5) (h w)
  have h3 : Cmp3.tab.before a s = true := unparts (wk q5 (.code Cmp3.yN Cmp3.yB 6 (some (.array .byte)))) (wks q5 (.initialized Cmp3.yN.cls :: Cmp3.site))
  have q3 : ∀ w ∈ Cmp3.tab :: CodL.tab :: words, w.before a s = true := fun w hw => (List.mem_cons.mp hw).elim (fun e => e ▸ h3) fun hw => (List.mem_cons.mp hw).elim (fun e => e ▸ hc) (h w)
  have h4 : New4.tab.before a s = true := unparts (wk q3 (.code New4.yN New4.yB 6 none)) (wks q3 (.initialized New4.yN.cls :: New4.site))
  have q4 : ∀ w ∈ New4.tab :: words, w.before a s = true := fun w hw => (List.mem_cons.mp hw).elim (fun e => e ▸ h4) (h w)
  exact unparts (wk q4 (.code New1.yN New1.yB 2 none)) (wks q4 (.initialized New1.yN.cls :: New1.site))
/-- the words ride from the start Z to the walk's own state -/
theorem moved {Z s : State} {a0 args : Array Value} (hZ : Z.Warmed39 s.vm) (hw : ∀ d ∈ words, d.before a0 Z = true) : ∀ d ∈ words, d.before args s = true := fun d hd => by
  have q := hw d hd
  have t : ∀ d ∈ words, d = .arrayClass .byte ∨ (d.onTables && d.keepsFace) = true := by decide +kernel
  rcases t d hd with rfl | t
  · exact RoadKit.mvA hZ q
  · exact RoadKit.mv hZ q t
/-- WHAT COMES BACK, over the tables of the start Z: h the heap at the call, h' behind it -/
def Q (Z : State) (x : Addr) (A : Cell) (h : Heap) (v : Option Value) (h' : Heap) (L : List Loc) : Prop := v = none ∧ (∀ y ∈ L, y.base = x) ∧ RoadKit.Keep h h' [x] ∧ h'.size = h.size + 1 ∧ RoadKit.Exa Z h' x ST ∧ RoadKit.Fld Z h' x ST "value" "[B" (.ref h.size) ∧ RoadKit.Fld Z h' x ST "coder" "B" (.int 0) ∧
  (∃ V : Cell, RoadKit.Arr Z h' h.size V .byte ∧ V.vm = .none ∧ Z.vm.findClass "[B" = some V.cls ∧ V.slots.size = A.slots.size ∧ ∀ j, j < A.slots.size → V.slots[j]? = some (.int (lo8 (cv A j)))) ∧
  ∀ (O n d : String) (w : Value), RoadKit.Fld Z h x O n d w → RoadKit.slotOf Z O n d ≠ RoadKit.slotOf Z ST "value" "[B" → RoadKit.slotOf Z O n d ≠ RoadKit.slotOf Z ST "coder" "B" → RoadKit.Fld Z h' x O n d w
/-- **new String(chars) AT A CALL, IN THE ROAD'S FORM**: for specialBack behind newO: x the fresh String, b the char[] with the cell A -/
theorem back {p : Program} {l : Launch} {e : Env} {R : Room} {s : State} {args : Array Value} {below : List Frame} {len W : Nat} {Z : State} {a0 : Array Value} {h : Heap} (hZ : Z.Warmed39 s.vm) (hw : ∀ d ∈ words, d.before a0 Z = true) {kI : Nat} (wi : (Jvm.Cond.instantiable ST kI).before a0 Z = true)
    {x b : Addr} {A : Cell} {z : Int32} {v0 c0 : Value} (E : RoadKit.Exa Z h x ST) (V : RoadKit.Fld Z h x ST "value" "[B" v0) (C : RoadKit.Fld Z h x ST "coder" "B" c0) (K : RoadKit.Arr Z h b A .char) (hty : Typed .char A) (S : RoadKit.Sta Z h ST "COMPACT_STRINGS" "Z" (.int z)) (hz : ¬ z = 0)
    (l0 : 0 < A.slots.size) (l2 : A.slots.size ≤ 536870912) (hp : ∀ i, i < A.slots.size → ¬ 255 < cv A i) (hfr : 4 ≤ R.frames) (hlo : W + 65 ≤ R.locals) :
    Back l R p e below s args New1.yN len W (fun P a => a = #[.ref x, .ref b] ∧ P.U.heap = h ∧ P.cells + 1 ≤ R.cells ∧ P.slots + A.slots.size ≤ R.slots)
      (fun P _ v B => ∃ L, Q Z x A h v B.U.heap L ∧ B.locs = P.locs ++ L ∧ B.cells = P.cells + 1 ∧ B.slots = P.slots + A.slots.size) := by
  intro m meth c P g ig mk a X hg hsize hdg hW hn hp'
  obtain ⟨rfl, rfl, r1, r2⟩ := hp'
  have al : Z.vm.Alike P.U.vm := hZ.alike.trans X.warmed.alike
  obtain ⟨D, cfV, kV, iV, fV, hD, gV, stV, knV, obV, asV, slV⟩ := id V
  obtain ⟨D', cfC, kC, iC, fC, hD', gC, stC, -, -, asC, slC⟩ := id C
  cases hD.symm.trans hD'
  obtain ⟨D2, kD, e1, e2, e3, e4, e5⟩ := id E
  cases hD.symm.trans e1
  obtain ⟨c2, k2, i1, i2, i3, -⟩ := Cond.instantiable_spec wi
  cases e2.symm.trans i1
  cases e3.symm.trans i2
  obtain ⟨kU, u1, u2⟩ := al.2.2 _ _ e3
  have hB : Blank ST x D P.U := ⟨hD, ⟨knV, fun q hq => by rw [hq] at obV; cases obV⟩, by rw [al.findClass]; exact e2, kU, u1, by rw [u2]; exact i3, by rw [u2]; exact e5 i3⟩
  have F1 : Found ST "value" "[B" fV P.U := ⟨SBG.found_only al ⟨cfV, kV, iV, gV⟩, stV⟩
  have F2 : Found ST "coder" "B" fC P.U := ⟨SBG.found_only al ⟨cfC, kC, iC, gC⟩, stC⟩
  have hA : Ch b A P.U := ⟨⟨K.1, State.isArrayOf_alike al K.2.1, K.2.2, by omega⟩, hty⟩
  have hS : StaticIs P.U ST "COMPACT_STRINGS" "Z" (.int z) := by
    obtain ⟨cfS, iS, kS, fS, st, cS, t1, t2, t3, t4, t5, t6, t7⟩ := S
    exact StaticIs.there (s := { Z with heap := P.U.heap }) ⟨cfS, iS, kS, fS, st, cS, t1, t2, t3, t4, t5, (fun q => by rw [q] at t6; cases t6), t7⟩ al rfl
  obtain ⟨v, B, X', ⟨⟨hv, E', V', q1, q2, q3, q4, q5, q6, q7, q8, q9, q10, q11⟩, hl, hc, hs⟩, st⟩ := New1.pays x D fV fC b A z (tab_of (moved hZ hw)) hfr hlo m meth c P g ig mk _ X hg hsize hdg hW hn ⟨r1, r2, rfl, hB, F1, F2, hA, hS, hz, l0, l2, hp⟩
  have al' : Z.vm.Alike B.U.vm := hZ.alike.trans X'.warmed.alike
  have hsz : E'.slots.size = D.slots.size := by
    obtain ⟨-, -, -, kB, w1, w2, w3⟩ := q1
    obtain ⟨kB', y1, y2⟩ := al'.2.2 _ _ e3
    rw [q2.2.1] at w1
    cases w1.symm.trans y1
    rw [w3, e5 i3, y2]
  refine ⟨v, B, X', ⟨_, ⟨hv, ?_, ⟨by omega, fun y cy hy hn' => q10 y cy (by simpa using hn') hy, fun y cy hy => ?_⟩, q11, ⟨E', _, q1.1, by rw [q2.2.1]; exact e2, by rw [q2.2.1]; exact e3, by rw [q2.1]; exact obV, fun _ => by rw [hsz]; exact e5 i3⟩,
    ⟨E', cfV, kV, iV, fV, q1.1, gV, stV, by rw [q2.1]; exact knV, by rw [q2.1]; exact obV, by rw [q2.2.1]; exact asV, q3⟩, ⟨E', cfC, kC, iC, fC, q1.1, gC, stC, by rw [q2.1]; exact knV, by rw [q2.1]; exact obV, by rw [q2.2.1]; exact asC, q4⟩,
    ⟨V', ⟨q5.1, State.isArrayOf_alike al'.symm q5.2.1, q5.2.2.1⟩, q6, by rw [← al'.findClass]; exact q7, q8, fun j hj => by have := q9 j hj; rwa [Nat.zero_add] at this⟩, fun O n d w F n1 n2 => ?_⟩, hl, hc, hs⟩, st⟩
  · intro y hy
    simp only [List.mem_cons, List.not_mem_nil, or_false] at hy
    rcases hy with rfl | rfl <;> rfl
  · by_cases q : y = x
    · subst q
      cases hD.symm.trans hy
      exact ⟨E', q1.1, q2.2.1, q2.1, hsz⟩
    · exact ⟨cy, q10 y cy q hy, rfl, rfl, rfl⟩
  · obtain ⟨D3, cf, k, i, f, g1, g2, g3, g4, g5, g6, g7⟩ := F
    cases hD.symm.trans g1
    simp only [RoadKit.slotOf, g2, gV, gC, Option.map_some, Option.getD_some] at n1 n2
    exact ⟨E', cf, k, i, f, q1.1, g2, g3, by rw [q2.1]; exact g4, by rw [q2.1]; exact g5, by rw [q2.2.1]; exact g6, by rw [q2.2.2 f.slot (by simp [n1, n2])]; exact g7⟩
end StrChars.Road
namespace StrChars.Road
open Jvm Sem ClassFile Op Lib Jvm.Stand Jvm.Free Jvm.Free.XT
/-- WHAT COMES BACK, the byte[] as a list of values -/
def QA (Z : State) (x : Addr) (zn : Int32) (cs : List Int32) (h : Heap) (v : Option Value) (h' : Heap) (L : List Loc) : Prop := v = none ∧ (∀ y ∈ L, y.base = x) ∧ RoadKit.Keep h h' [x] ∧ h'.size = h.size + 1 ∧ RoadKit.Exa Z h' x ST ∧ RoadKit.Fld Z h' x ST "value" "[B" (.ref h.size) ∧ RoadKit.Fld Z h' x ST "coder" "B" (.int 0) ∧
  (∃ kb, Z.vm.findClass "[B" = some kb ∧ RoadKit.Arv Z h' h.size kb .byte zn (cs.map fun c => .int (lo8 c)) (.int 0)) ∧
  ∀ (O n d : String) (w : Value), RoadKit.Fld Z h x O n d w → RoadKit.slotOf Z O n d ≠ RoadKit.slotOf Z ST "value" "[B" → RoadKit.slotOf Z O n d ≠ RoadKit.slotOf Z ST "coder" "B" → RoadKit.Fld Z h' x O n d w
/-- **new String(chars) AT A CALL, THE ARRAYS AS LISTS**: the char[] at b holds cs, not empty, no char above 255 -/
theorem backArv {p : Program} {l : Launch} {e : Env} {R : Room} {s : State} {args : Array Value} {below : List Frame} {len W : Nat} {Z : State} {a0 : Array Value} {h : Heap} (hZ : Z.Warmed39 s.vm) (hw : ∀ d ∈ words, d.before a0 Z = true) {kI : Nat} (wi : (Jvm.Cond.instantiable ST kI).before a0 Z = true)
    {x b : Addr} {k : ClassId} {zn z : Int32} {cs : List Int32} {dv v0 c0 : Value} (E : RoadKit.Exa Z h x ST) (V : RoadKit.Fld Z h x ST "value" "[B" v0) (C : RoadKit.Fld Z h x ST "coder" "B" c0) (K : RoadKit.Arv Z h b k .char zn (cs.map Value.int) dv) (S : RoadKit.Sta Z h ST "COMPACT_STRINGS" "Z" (.int z)) (hz : ¬ z = 0)
    (hlen : zn.toNatClampNeg = cs.length) (h0 : 0 < cs.length) (hbig : cs.length ≤ 536870912) (hall : ∀ c ∈ cs, ¬ 255 < c) (hfr : 4 ≤ R.frames) (hlo : W + 65 ≤ R.locals) :
    Back l R p e below s args New1.yN len W (fun P a => a = #[.ref x, .ref b] ∧ P.U.heap = h ∧ P.cells + 1 ≤ R.cells ∧ P.slots + cs.length ≤ R.slots)
      (fun P _ v B => ∃ L, QA Z x zn cs h v B.U.heap L ∧ B.locs = P.locs ++ L ∧ B.cells = P.cells + 1 ∧ B.slots = P.slots + cs.length) := by
  obtain ⟨A, K1, K2, K3, K4, K5, K6⟩ := K
  have e : A.slots.size = cs.length := K3.trans hlen
  have hat : ∀ (i : Nat) (hi : i < cs.length), A.slots[i]? = some (.int cs[i]) := fun i hi => by rw [K5 i (by omega)]; simp [List.getD_eq_getElem?_getD, hi]
  have hcv : ∀ (i : Nat) (hi : i < cs.length), cv A i = cs[i] := fun i hi => by unfold cv; rw [hat i hi]
  have hty : Typed .char A := fun i v hv => by
    have hi : i < A.slots.size := (Array.getElem?_eq_some_iff.mp hv).1
    have q := K5 i hi
    rw [hv] at q
    rw [Option.some.inj q]
    exact K6 i hi
  refine Back.mono (back hZ hw wi E V C K1 hty S hz (by omega) (by omega) (fun i hi => by rw [hcv i (by omega)]; exact hall _ (List.getElem_mem _)) hfr hlo) (fun P a hp => ⟨hp.1, hp.2.1, hp.2.2.1, by rw [e]; exact hp.2.2.2⟩) (fun P a v B hp hq => ?_)
  obtain ⟨L, ⟨q1, q2, q3, q4, q5, q6, q7, ⟨V', v1, v2, v3, v4, v5⟩, q9⟩, hl, hc, hs⟩ := hq
  refine ⟨L, ⟨q1, q2, q3, q4, q5, q6, q7, ⟨V'.cls, v3, V', v1, rfl, by rw [v4, e, hlen], K4, fun i hi => ?_, fun i hi => ?_⟩, q9⟩, hl, hc, by rw [hs, e]⟩
  · have hi' : i < cs.length := by omega
    rw [v5 i (by omega), hcv i hi']; simp [List.getD_eq_getElem?_getD, hi']
  · have hi' : i < cs.length := by omega
    simp only [List.getD_eq_getElem?_getD, List.getElem?_map, List.getElem?_eq_getElem hi', Option.map_some, Option.getD_some]
    exact fits_lo8 _
end StrChars.Road
namespace StrChars.Road
open Jvm Sem ClassFile Op Lib Jvm.Stand Jvm.Free Jvm.Free.XT
/-- WHAT COMES BACK, in the writer's own shape -/
def QV (Z : State) (x : Addr) (N : Int32) (bs : List Int32) (h : Heap) (n0 : Nat) (v : Option Value) (h' : Heap) (L : List Loc) : Prop := v = none ∧ RoadKit.Fr n0 L ∧ RoadKit.Keep h h' [x] ∧ RoadKit.Exa Z h' x ST ∧ RoadKit.Fld Z h' x ST "coder" "B" (.int 0) ∧
  ∃ (t : Addr) (kb : ClassId), n0 ≤ t ∧ h.size ≤ t ∧ ¬ t = x ∧ RoadKit.Fld Z h' x ST "value" "[B" (.ref t) ∧ RoadKit.Arv Z h' t kb .byte N (bs.map Value.int) (.int 0)
/-- **new String(chars) AT A CALL, FOR THE WRITER**: a char[] of n known ints, each 0 to 255 -/
theorem backV {p : Program} {l : Launch} {e : Env} {R : Room} {s : State} {args : Array Value} {below : List Frame} {len W : Nat} {Z : State} {a0 : Array Value} {h : Heap} (hZ : Z.Warmed39 s.vm) (hw : ∀ d ∈ words, d.before a0 Z = true) {kI : Nat} (wi : (Jvm.Cond.instantiable ST kI).before a0 Z = true)
    {x b : Addr} {kC : ClassId} {cs bs : List Int32} {d v0 c0 : Value} {z N : Int32} {n n0 : Nat} (hx0 : n0 ≤ x) (hh0 : n0 ≤ h.size) (E : RoadKit.Exa Z h x ST) (V : RoadKit.Fld Z h x ST "value" "[B" v0) (C : RoadKit.Fld Z h x ST "coder" "B" c0) (K : RoadKit.Arv Z h b kC .char N (cs.map Value.int) d) (S : RoadKit.Sta Z h ST "COMPACT_STRINGS" "Z" (.int z)) (hz : ¬ z = 0)
    (hn : cs.length = n) (hN : N = Int32.ofNat n) (l0 : 0 < n) (l2 : n ≤ 4000) (hp : ∀ c ∈ cs, ¬ c < 0 ∧ ¬ (255 : Int32) < c) (hb : bs = cs.map (fun c => c.toInt8.toInt32)) (hfr : 4 ≤ R.frames) (hlo : W + 65 ≤ R.locals) :
    Back l R p e below s args (⟨"java/lang/String", "<init>", "([C)V"⟩ : MethodName) len W (fun P a => a = #[.ref x, .ref b] ∧ P.U.heap = h ∧ P.cells + 1 ≤ R.cells ∧ P.slots + n ≤ R.slots)
      (fun P _ v B => ∃ L, QV Z x N bs h n0 v B.U.heap L ∧ B.locs = P.locs ++ L ∧ B.cells = P.cells + 1 ∧ B.slots = P.slots + n) := by
  subst hn hN hb
  refine Back.mono (backArv hZ hw wi E V C K S hz (n32 (by omega)) l0 (by omega) (fun c hc => (hp c hc).2) hfr hlo) (fun P a hp => hp) (fun P a v B hp hq => ?_)
  obtain ⟨L, ⟨q1, q2, q3, q4, q5, q6, q7, ⟨kb, v1, v2⟩, q9⟩, hl, hc, hs⟩ := hq
  exact ⟨L, ⟨q1, fun y hy => by rw [q2 y hy]; exact hx0, q3, q5, q7, h.size, kb, hh0, Nat.le_refl _, Nat.ne_of_gt E.lt, q6, by rw [List.map_map]; exact v2⟩, hl, hc, hs⟩
end StrChars.Road
namespace StrChars
open Jvm Sem ClassFile Op Lib Jvm.Stand Jvm.Free.XT Jvm.Free.ALB Jvm.Free.JM Jvm.Free
open Jvm.Lib.Cold (StaticIs)
def hi8 (x : Int32) : Int32 := lo8 (x >>> ((8 : Int32) &&& 31))
/-- what StringUTF16.getChar makes of two bytes -/
def pairCh (u v : Int32) : Int32 := (((u &&& 255) <<< ((0 : Int32) &&& 31)) ||| ((v &&& 255) <<< ((8 : Int32) &&& 31))).toUInt32.toUInt16.toUInt32.toInt32
theorem shr0 (c : Int32) : c >>> ((0 : Int32) &&& 31) = c := by
  have e : ((0 : Int32) &&& 31) = 0 := by decide
  rw [e]
  apply Int32.toBitVec_inj.mp
  rw [Int32.toBitVec_shiftRight]
  have e1 : ((0 : Int32).toBitVec.smod 32) = 0#32 := by decide
  rw [e1, BitVec.sshiftRight_eq']
  exact BitVec.sshiftRight_zero
theorem lo8_and (x : Int32) : (lo8 x &&& 255).toBitVec.toNat = x.toBitVec.toNat % 256 := by
  have h : (lo8 x).toBitVec = (x.toBitVec.signExtend 8).signExtend 32 := by rw [lo8, Int8.toBitVec_toInt32, Int32.toBitVec_toInt8]
  rw [Int32.toBitVec_and, BitVec.toNat_and, h]
  have e : ((x.toBitVec.signExtend 8).signExtend 32).toNat % 256 = x.toBitVec.toNat % 256 := by
    rw [BitVec.toNat_signExtend]
    have hlt := x.toBitVec.isLt
    simp only [BitVec.toNat_setWidth, BitVec.toNat_signExtend]
    split <;> split <;> omega
  rw [← e]
  exact Nat.and_two_pow_sub_one_eq_mod _ 8
theorem pair_says {c : Int32} (h0 : ¬ c < 0) (h1 : ¬ 65535 < c) : pairCh (lo8 c) (hi8 c) = c := by
  rw [Int32.lt_iff_toInt_lt] at h0 h1
  have e0 : (0 : Int32).toInt = 0 := rfl
  have e1 : (65535 : Int32).toInt = 65535 := rfl
  have hc : c.toInt = c.toBitVec.toNat := by
    have := c.toBitVec.isLt
    have e : c.toInt = c.toBitVec.toInt := rfl
    rw [e] at h0 h1
    rw [e]
    rw [BitVec.toInt_eq_toNat_cond] at h0 h1 ⊢
    split at h0 <;> split <;> omega
  have hn : c.toBitVec.toNat < 65536 := by omega
  have a1 := lo8_and c
  have a2 : (hi8 c &&& 255).toBitVec.toNat = c.toBitVec.toNat / 256 := by
    rw [hi8, lo8_and]
    have e : ((8 : Int32) &&& 31) = 8 := by decide
    rw [e, Int32.toBitVec_shiftRight]
    have e2 : ((8 : Int32).toBitVec.smod 32) = 8#32 := by decide
    rw [e2, BitVec.sshiftRight_eq', BitVec.toNat_sshiftRight_of_msb_false (by rw [BitVec.msb_eq_false_iff_two_mul_lt]; omega)]
    show c.toBitVec.toNat >>> 8 % 256 = _
    rw [Nat.shiftRight_eq_div_pow]
    omega
  unfold pairCh
  apply Int32.toBitVec_inj.mp
  apply BitVec.eq_of_toNat_eq
  have f0 : ((0 : Int32) &&& 31) = 0 := by decide
  have f8 : ((8 : Int32) &&& 31) = 8 := by decide
  rw [f0, f8]
  have g : (((lo8 c &&& 255) <<< (0 : Int32)) ||| ((hi8 c &&& 255) <<< (8 : Int32))).toBitVec.toNat = c.toBitVec.toNat := by
    rw [Int32.toBitVec_or, Int32.toBitVec_shiftLeft, Int32.toBitVec_shiftLeft]
    have s0 : ((0 : Int32).toBitVec.smod 32) = 0#32 := by decide
    have s8 : ((8 : Int32).toBitVec.smod 32) = 8#32 := by decide
    rw [s0, s8, BitVec.toNat_or]
    simp only [BitVec.shiftLeft_eq', BitVec.toNat_shiftLeft, a1, a2]
    show (c.toBitVec.toNat % 256) <<< 0 % 2 ^ 32 ||| (c.toBitVec.toNat / 256) <<< 8 % 2 ^ 32 = _
    rw [Nat.shiftLeft_zero, Nat.mod_eq_of_lt (show c.toBitVec.toNat % 256 < 2 ^ 32 by omega), Nat.mod_eq_of_lt (show (c.toBitVec.toNat / 256) <<< 8 < 2 ^ 32 by rw [Nat.shiftLeft_eq]; omega), Nat.or_comm, ← Nat.shiftLeft_add_eq_or_of_lt (by omega), Nat.shiftLeft_eq]
    omega
  show BitVec.toNat (((((lo8 c &&& 255) <<< (0 : Int32)) ||| ((hi8 c &&& 255) <<< (8 : Int32))).toBitVec.setWidth 16).setWidth 32) = _
  rw [BitVec.toNat_setWidth, BitVec.toNat_setWidth, g]
  omega
end StrChars
namespace StrChars
open Jvm Sem ClassFile Op Lib Jvm.Stand Jvm.Free.XT Jvm.Free.ALB Jvm.Free.JM Jvm.Free
open Jvm.Lib.Cold (StaticIs)
theorem shr1 {n : Nat} (h : 2 * n < 2 ^ 31) : Int32.ofNat (2 * n) >>> ((1 : Int32) &&& 31) = Int32.ofNat n := by
  have e : ((1 : Int32) &&& 31) = 1 := by decide
  rw [e]
  apply Int32.toBitVec_inj.mp
  rw [Int32.toBitVec_shiftRight]
  have e1 : ((1 : Int32).toBitVec.smod 32) = 1#32 := by decide
  have hm : (BitVec.ofNat 32 (2 * n)).toNat = 2 * n := by rw [BitVec.toNat_ofNat, Nat.mod_eq_of_lt (by omega)]
  rw [e1, BitVec.sshiftRight_eq']
  apply BitVec.eq_of_toNat_eq
  show ((BitVec.ofNat 32 (2 * n)).sshiftRight 1).toNat = (BitVec.ofNat 32 n).toNat
  rw [BitVec.toNat_sshiftRight_of_msb_false (by rw [BitVec.msb_eq_false_iff_two_mul_lt, hm]; omega), hm, BitVec.toNat_ofNat, Nat.shiftRight_eq_div_pow]
  omega
/-- charAt's cast of a byte read back -/
def chr8 (u : Int32) : Int32 := (u &&& 255).toUInt32.toUInt16.toUInt32.toInt32
theorem chr8_lo8 {c : Int32} (h0 : ¬ c < 0) (h1 : ¬ 255 < c) : chr8 (lo8 c) = c := by
  have t : ∀ k : Fin 256, (Int32.ofNat k.val).toUInt32.toUInt16.toUInt32.toInt32 = Int32.ofNat k.val := by decide +kernel
  unfold chr8
  rw [lo8_mask h0 h1]
  rw [Int32.lt_iff_toInt_lt] at h0 h1
  have e0 : (0 : Int32).toInt = 0 := rfl
  have e1 : (255 : Int32).toInt = 255 := rfl
  obtain ⟨k, hk⟩ : ∃ k : Nat, c.toInt = k := ⟨c.toInt.toNat, by omega⟩
  have hx : c = Int32.ofNat k := Int32.toInt_inj.mp (by rw [hk, Int32.toInt_ofNat_small (by omega)])
  rw [hx]
  exact t ⟨k, by omega⟩
theorem narrow_ch {c : Int32} (h0 : ¬ c < 0) (h1 : ¬ 65535 < c) : narrow .char (.int c) = .int c := by
  have q : narrow .char (.int (pairCh (lo8 c) (hi8 c))) = .int (pairCh (lo8 c) (hi8 c)) := narrow_c _
  rwa [pair_says h0 h1] at q
/-- the array's cell V codes the n chars f 0 .. f (n - 1) by the coder cd, as the JDK does: coder 1 just where some char is above 255 -/
def Cod (cd : Int32) (n : Nat) (f : Nat → Int32) (V : Cell) : Prop := (cd = 0 ∧ V.slots.size = n ∧ ∀ j, j < n → V.slots[j]? = some (.int (lo8 (f j))) ∧ ¬ 255 < f j) ∨ (cd = 1 ∧ V.slots.size = 2 * n ∧ (∀ j, j < n → V.slots[2 * j]? = some (.int (lo8 (f j))) ∧ V.slots[2 * j + 1]? = some (.int (hi8 (f j)))) ∧ ∃ j, j < n ∧ 255 < f j)
theorem Cod.cd {cd : Int32} {n : Nat} {f : Nat → Int32} {V : Cell} (h : Cod cd n f V) : cd = 0 ∨ cd = 1 := h.imp (fun q => q.1) fun q => q.1
theorem Cod.len {cd : Int32} {n : Nat} {f : Nat → Int32} {V : Cell} (h : Cod cd n f V) (hs : V.slots.size < 2 ^ 31) : Int32.ofNat V.slots.size >>> (cd &&& 31) = Int32.ofNat n := by
  rcases h with ⟨rfl, h, -⟩ | ⟨rfl, h, -⟩
  · rw [shr0, h]
  · rw [h, shr1 (by omega)]
/-- **x is a String of the n chars f 0 .. f (n - 1)**, Latin-1 or UTF-16; its array at t has the cell V -/
def Txt (x t : Addr) (V : Cell) (cd : Int32) (n : Nat) (f : Nat → Int32) (U : State) : Prop := Exact "java/lang/String" x U ∧ Has x "java/lang/String" "value" "[B" (.ref t) U ∧ Has x "java/lang/String" "coder" "B" (.int cd) U ∧ XT.Arr .byte t V U ∧ Cod cd n f V ∧ ∀ j, j < n → ¬ f j < 0 ∧ ¬ 65535 < f j
theorem Txt.mv {x t : Addr} {V : Cell} {cd : Int32} {n : Nat} {f : Nat → Int32} {U U' : State} (h : Txt x t V cd n f U) (hal : U.vm.Alike U'.vm) (hh : U'.heap = U.heap) : Txt x t V cd n f U' := ⟨h.1.mv hal hh, h.2.1.mv hal hh, h.2.2.1.mv hal hh, h.2.2.2.1.mv hal hh, h.2.2.2.2⟩
namespace Cdr
def yN : MethodName := ⟨"java/lang/String", "coder", "()B"⟩
abbrev yB : ByteArray := jdk_42_method_152_code
theorem d0 : decode yB 0 = .ok (.getstatic 38, 3) := by decide +kernel
theorem d3 : decode yB 3 = .ok (.ifCond (.eq) 10, 3) := by decide +kernel
theorem d6 : decode yB 6 = .ok (.aload_n 0, 1) := by decide +kernel
theorem d7 : decode yB 7 = .ok (.getfield 15, 3) := by decide +kernel
theorem d10 : decode yB 10 = .ok (.goto 4, 3) := by decide +kernel
theorem d14 : decode yB 14 = .ok (.ireturn, 1) := by decide +kernel
def site : List Cond := [.fieldLink "java/lang/String" 38 "java/lang/String" "COMPACT_STRINGS" "Z", .fieldLink "java/lang/String" 15 "java/lang/String" "coder" "B"]
def tab : Cond := tabOf yN yB 1 (some .byte) site
def P (x : Addr) (cd z : Int32) (args : Array Value) (s : State) : Prop := args = #[.ref x] ∧ Has x "java/lang/String" "coder" "B" (.int cd) s ∧ (cd = 0 ∨ cd = 1) ∧ StaticIs s "java/lang/String" "COMPACT_STRINGS" "Z" (.int z) ∧ ¬ z = 0
def E (cd : Int32) (r : Option Value) (s u : State) : Prop := XT.PureE (some (.int cd)) r s u
theorem law (l : Launch) (x : Addr) (cd z : Int32) : Law l yN 1 0 0 0 yB 1 (some .byte) site (P x cd z) (E cd) [] 0 0 := by
  refine Law.of_walk (plainFor_of_name (by decide +kernel)) (by decide +kernel) (by decide +kernel) (by decide) (fun _ _ h => by rw [h.1]; rfl) (fun _ U U' hal hh h => ⟨h.1, h.2.1.mv hal hh, h.2.2.1, h.2.2.2.1.there hal hh, h.2.2.2.2⟩) (fun r U U' V V' h1 hal h2 h => XT.PureE.mv r U U' V V' h1 hal h2 h) ?_
  intro p e s m args below meth c s₁ X0 hexec hbytes hml hret hlk hnm hown hh0 W hP
  obtain ⟨rfl, hx, hc, s1, hz⟩ := hP
  have c1 : Steps p.tables e below (s₁.setTop (entryFrame m #[.ref x] 1)) (s₁.setTop (mkF m 0 #[.val (.ref x)] [])) := entry rfl
  obtain ⟨T2, X2, q2, st2⟩ := X0.sget hexec hown (wk W (.fieldLink "java/lang/String" 38 "java/lang/String" "COMPACT_STRINGS" "Z")) s1 (fun _ _ h => by rw [hh0]; exact h) (g := (mkF m 0 #[.val (.ref x)] [])) rfl (hb hbytes d0)
  have hh2 := q2.trans hh0
  have c3 : Steps p.tables e below (s₁.setTop (entryFrame m #[.ref x] 1)) (T2.setTop (mkF m 7 #[.val (.ref x)] [.ref x])) := (c1.trans (st2 _ (Steps.refl _))).trans (by
    refine XS.ifNo X2.here hexec rfl (hb hbytes d3) rfl (i0_eq_f hz) ?_
    refine XS.aloadN X2.here hexec rfl (hb hbytes d6) rfl rfl ?_
    exact Steps.refl _)
  obtain ⟨T4, X4, q4, st4⟩ := X2.hget hexec hown (wk W (.fieldLink "java/lang/String" 15 "java/lang/String" "coder" "B")) (hx.mv X2.warmed.alike hh2) (g := (mkF m 7 #[.val (.ref x)] [.ref x])) rfl (rest := []) rfl (hb hbytes d7)
  have c5 : Steps p.tables e below (s₁.setTop (entryFrame m #[.ref x] 1)) (T4.setTop (mkF m 14 #[.val (.ref x)] [.int cd])) := (c3.trans (st4 _ (Steps.refl _))).trans (by
    refine XS.goto X4.here hexec rfl (pc0 := 10) rfl (hb hbytes d10) (by decide) rfl ?_
    exact Steps.refl _)
  exact ⟨T4, some (.int cd), _, _, _, X4, rfl, rfl, rfl, (fun h => by cases h), ⟨rfl, q4.trans hh2⟩, fun fs hl => c5.trans (X4.ireturnOut hexec hret (by rcases hc with rfl | rfl <;> rfl) (Or.inr (Or.inr (Or.inl rfl))) (hb hbytes d14) hl)⟩
end Cdr
namespace Len
def yN : MethodName := ⟨"java/lang/String", "length", "()I"⟩
abbrev yB : ByteArray := jdk_42_method_54_code
theorem d0 : decode yB 0 = .ok (.aload_n 0, 1) := by decide +kernel
theorem d1 : decode yB 1 = .ok (.getfield 9, 3) := by decide +kernel
theorem d4 : decode yB 4 = .ok (.arraylength, 1) := by decide +kernel
theorem d5 : decode yB 5 = .ok (.aload_n 0, 1) := by decide +kernel
theorem d6 : decode yB 6 = .ok (.invokevirtual 335, 3) := by decide +kernel
theorem d9 : decode yB 9 = .ok (.ishr, 1) := by decide +kernel
theorem d10 : decode yB 10 = .ok (.ireturn, 1) := by decide +kernel
def site : List Cond := [.fieldLink "java/lang/String" 9 "java/lang/String" "value" "[B", Cdr.tab] ++ virtW "java/lang/String" 335 "java/lang/String" Cdr.yN Cdr.yN
def tab : Cond := tabOf yN yB 1 (some .int) site
def P (x t : Addr) (V : Cell) (cd : Int32) (n : Nat) (f : Nat → Int32) (z : Int32) (args : Array Value) (s : State) : Prop := args = #[.ref x] ∧ Txt x t V cd n f s ∧ StaticIs s "java/lang/String" "COMPACT_STRINGS" "Z" (.int z) ∧ ¬ z = 0
def E (n : Nat) (r : Option Value) (s u : State) : Prop := XT.PureE (some (.int (Int32.ofNat n))) r s u
/-- length() of a String of n chars, in either coding -/
theorem law (l : Launch) (x t : Addr) (V : Cell) (cd : Int32) (n : Nat) (f : Nat → Int32) (z : Int32) : Law l yN 1 0 1 13 yB 1 (some .int) site (P x t V cd n f z) (E n) [] 0 0 := by
  refine Law.of_walk (plainFor_of_name (by decide +kernel)) (by decide +kernel) (by decide +kernel) (by decide) (fun _ _ h => by rw [h.1]; rfl) (fun _ U U' hal hh h => ⟨h.1, h.2.1.mv hal hh, h.2.2.1.there hal hh, h.2.2.2⟩) (fun r U U' V V' h1 hal h2 h => XT.PureE.mv r U U' V V' h1 hal h2 h) ?_
  intro p e s m args below meth c s₁ X0 hexec hbytes hml hret hlk hnm hown hh0 W hP
  obtain ⟨rfl, hx, s1, hz⟩ := hP
  have v31 := hx.2.2.2.1.2.2.2
  have c1 : Steps p.tables e below (s₁.setTop (entryFrame m #[.ref x] 1)) (s₁.setTop (mkF m 1 #[.val (.ref x)] [.ref x])) := Steps.trans (entry rfl) (by
    show Steps p.tables e below (s₁.setTop (mkF m 0 #[.val (.ref x)] [])) _
    refine XS.aloadN X0.here hexec rfl (hb hbytes d0) rfl rfl ?_
    exact Steps.refl _)
  obtain ⟨T2, X2, q2, st2⟩ := X0.hget hexec hown (wk W (.fieldLink "java/lang/String" 9 "java/lang/String" "value" "[B")) (hx.mv X0.warmed.alike hh0).2.1 (g := (mkF m 1 #[.val (.ref x)] [.ref x])) rfl (rest := []) rfl (hb hbytes d1)
  have hh2 := q2.trans hh0
  have hx2 := hx.mv X2.warmed.alike hh2
  have c3 : Steps p.tables e below (s₁.setTop (entryFrame m #[.ref x] 1)) (T2.setTop (mkF m 6 #[.val (.ref x)] [.ref x, .int (Int32.ofNat V.slots.size)])) := (c1.trans (st2 _ (Steps.refl _))).trans (by
    refine X2.alen hexec hx2.2.2.2.1 rfl rfl (hb hbytes d4) ?_
    refine XS.aloadN X2.here hexec rfl (hb hbytes d5) rfl rfl ?_
    exact Steps.refl _)
  obtain ⟨v4, T4, X4, E4, g4⟩ := X2.callV hexec (Cdr.law l x cd z) hown (wks W (virtW "java/lang/String" 335 "java/lang/String" Cdr.yN Cdr.yN)) rfl (by decide) (wk W Cdr.tab) (W := 1) (Nat.le_of_ble_eq_true rfl) (Nat.le_of_ble_eq_true rfl) (Nat.le_refl _) (Nat.le_refl _) (hx2.1.fc X2.warmed.alike) hx2.1.is (g := (mkF m 6 #[.val (.ref x)] [.ref x, .int (Int32.ofNat V.slots.size)])) rfl (by rw [hml]; rfl) c3 (argsL := []) (rest := [.int (Int32.ofNat V.slots.size)]) rfl rfl (by show 2 * 0 + (1 + 0) ≤ _; decide) (hb hbytes d6) (⟨rfl, hx2.2.2.1, hx.2.2.2.2.1.cd, s1.there X2.warmed.alike hh2, hz⟩)
  obtain ⟨rfl, q4⟩ := E4
  have c5 : Steps p.tables e below (s₁.setTop (entryFrame m #[.ref x] 1)) (T4.setTop (mkF m 10 #[.val (.ref x)] [.int (Int32.ofNat V.slots.size >>> (cd &&& 31))])) := Steps.trans g4 (by
    refine ishr X4.here hexec rfl (hb hbytes d9) rfl ?_
    exact Steps.refl _)
  rw [hx.2.2.2.2.1.len v31] at c5
  exact ⟨T4, some (.int (Int32.ofNat n)), _, _, _, X4, rfl, rfl, rfl, (fun h => by cases h), ⟨rfl, q4.trans hh2⟩, fun fs hl => c5.trans (X4.ireturnOut hexec hret rfl (Or.inl rfl) (hb hbytes d10) hl)⟩
theorem pays {l : Launch} {R : Room} {p : Program} {e : Env} {below : List Frame} {s : State} {sargs : Array Value} {len W : Nat} (x t : Addr) (V : Cell) (cd : Int32) (n : Nat) (f : Nat → Int32) (z : Int32) (htab : tab.before sargs s = true) (hfr : 2 ≤ R.frames) (hlo : W + 25 ≤ R.locals) :
    Back l R p e below s sargs yN len W (fun A₁ a₁ => A₁.cells + 0 ≤ R.cells ∧ A₁.slots + 0 ≤ R.slots ∧ P x t V cd n f z a₁ A₁.U) (fun A₁ _ v₁ B₁ => E n v₁ A₁.U B₁.U ∧ B₁.locs = A₁.locs ++ [] ∧ B₁.cells = A₁.cells + 0 ∧ B₁.slots = A₁.slots + 0) :=
  (law l x t V cd n f z).pays htab hfr (by omega)
end Len
namespace IsL
def yN : MethodName := ⟨"java/lang/String", "isLatin1", "()Z"⟩
abbrev yB : ByteArray := jdk_42_method_154_code
theorem d0 : decode yB 0 = .ok (.getstatic 38, 3) := by decide +kernel
theorem d3 : decode yB 3 = .ok (.ifCond (.eq) 14, 3) := by decide +kernel
theorem d6 : decode yB 6 = .ok (.aload_n 0, 1) := by decide +kernel
theorem d7 : decode yB 7 = .ok (.getfield 15, 3) := by decide +kernel
theorem d10 : decode yB 10 = .ok (.ifCond (.ne) 7, 3) := by decide +kernel
theorem d13 : decode yB 13 = .ok (.iconst 1, 1) := by decide +kernel
theorem d14 : decode yB 14 = .ok (.goto 4, 3) := by decide +kernel
theorem d17 : decode yB 17 = .ok (.iconst 0, 1) := by decide +kernel
theorem d18 : decode yB 18 = .ok (.ireturn, 1) := by decide +kernel
def site : List Cond := [.fieldLink "java/lang/String" 38 "java/lang/String" "COMPACT_STRINGS" "Z", .fieldLink "java/lang/String" 15 "java/lang/String" "coder" "B"]
def tab : Cond := tabOf yN yB 1 (some .boolean) site
def P (x : Addr) (cd z : Int32) (args : Array Value) (s : State) : Prop := args = #[.ref x] ∧ Has x "java/lang/String" "coder" "B" (.int cd) s ∧ (cd = 0 ∨ cd = 1) ∧ StaticIs s "java/lang/String" "COMPACT_STRINGS" "Z" (.int z) ∧ ¬ z = 0
def E (cd : Int32) (r : Option Value) (s u : State) : Prop := XT.PureE (some (.int (1 - cd))) r s u
theorem law (l : Launch) (x : Addr) (cd z : Int32) : Law l yN 1 0 0 0 yB 1 (some .boolean) site (P x cd z) (E cd) [] 0 0 := by
  refine Law.of_walk (plainFor_of_name (by decide +kernel)) (by decide +kernel) (by decide +kernel) (by decide) (fun _ _ h => by rw [h.1]; rfl) (fun _ U U' hal hh h => ⟨h.1, h.2.1.mv hal hh, h.2.2.1, h.2.2.2.1.there hal hh, h.2.2.2.2⟩) (fun r U U' V V' h1 hal h2 h => XT.PureE.mv r U U' V V' h1 hal h2 h) ?_
  intro p e s m args below meth c s₁ X0 hexec hbytes hml hret hlk hnm hown hh0 W hP
  obtain ⟨rfl, hx, hc, s1, hz⟩ := hP
  have c1 : Steps p.tables e below (s₁.setTop (entryFrame m #[.ref x] 1)) (s₁.setTop (mkF m 0 #[.val (.ref x)] [])) := entry rfl
  obtain ⟨T2, X2, q2, st2⟩ := X0.sget hexec hown (wk W (.fieldLink "java/lang/String" 38 "java/lang/String" "COMPACT_STRINGS" "Z")) s1 (fun _ _ h => by rw [hh0]; exact h) (g := (mkF m 0 #[.val (.ref x)] [])) rfl (hb hbytes d0)
  have hh2 := q2.trans hh0
  have c3 : Steps p.tables e below (s₁.setTop (entryFrame m #[.ref x] 1)) (T2.setTop (mkF m 7 #[.val (.ref x)] [.ref x])) := (c1.trans (st2 _ (Steps.refl _))).trans (by
    refine XS.ifNo X2.here hexec rfl (hb hbytes d3) rfl (i0_eq_f hz) ?_
    refine XS.aloadN X2.here hexec rfl (hb hbytes d6) rfl rfl ?_
    exact Steps.refl _)
  obtain ⟨T4, X4, q4, st4⟩ := X2.hget hexec hown (wk W (.fieldLink "java/lang/String" 15 "java/lang/String" "coder" "B")) (hx.mv X2.warmed.alike hh2) (g := (mkF m 7 #[.val (.ref x)] [.ref x])) rfl (rest := []) rfl (hb hbytes d7)
  have c5 : Steps p.tables e below (s₁.setTop (entryFrame m #[.ref x] 1)) (T4.setTop (mkF m 10 #[.val (.ref x)] [.int cd])) := c3.trans (st4 _ (Steps.refl _))
  have c6 : Steps p.tables e below (s₁.setTop (entryFrame m #[.ref x] 1)) (T4.setTop (mkF m 18 #[.val (.ref x)] [.int (1 - cd)])) := by
    rcases hc with rfl | rfl
    · exact c5.trans (by
        refine XS.ifNo X4.here hexec rfl (hb hbytes d10) rfl (i0_ne_f rfl) ?_
        refine iconstV X4.here hexec rfl 1 (hb hbytes d13) (by decide) ?_
        refine XS.goto X4.here hexec rfl (pc0 := 14) rfl (hb hbytes d14) (by decide) rfl ?_
        exact Steps.refl _)
    · exact c5.trans (by
        refine XS.ifYes X4.here hexec rfl (pc0 := 10) rfl (hb hbytes d10) rfl (i0_ne_t (by decide)) (by decide) rfl ?_
        refine iconstV X4.here hexec rfl 0 (hb hbytes d17) (by decide) ?_
        exact Steps.refl _)
  exact ⟨T4, some (.int (1 - cd)), _, _, _, X4, rfl, rfl, rfl, (fun h => by cases h), ⟨rfl, q4.trans hh2⟩, fun fs hl => c6.trans (X4.ireturnOut hexec hret (by rcases hc with rfl | rfl <;> rfl) (Or.inr (Or.inl rfl)) (hb hbytes d18) hl)⟩
end IsL
namespace LChA
def yN : MethodName := ⟨"java/lang/StringLatin1", "charAt", "([BI)C"⟩
abbrev yB : ByteArray := jdk_43_method_2_code
theorem d0 : decode yB 0 = .ok (.iload_n 1, 1) := by decide +kernel
theorem d1 : decode yB 1 = .ok (.aload_n 0, 1) := by decide +kernel
theorem d2 : decode yB 2 = .ok (.arraylength, 1) := by decide +kernel
theorem d3 : decode yB 3 = .ok (.invokestatic 9, 3) := by decide +kernel
theorem d6 : decode yB 6 = .ok (.aload_n 0, 1) := by decide +kernel
theorem d7 : decode yB 7 = .ok (.iload_n 1, 1) := by decide +kernel
theorem d8 : decode yB 8 = .ok (.baload, 1) := by decide +kernel
theorem d9 : decode yB 9 = .ok (.sipush 255, 3) := by decide +kernel
theorem d12 : decode yB 12 = .ok (.iand, 1) := by decide +kernel
theorem d13 : decode yB 13 = .ok (.i2c, 1) := by decide +kernel
theorem d14 : decode yB 14 = .ok (.ireturn, 1) := by decide +kernel
def site : List Cond := [JO.Str_checkIndex.tab] ++ staticW "java/lang/StringLatin1" 9 JO.Str_checkIndex.yN
def tab : Cond := tabOf yN yB 2 (some .char) site
def P (t : Addr) (V : Cell) (i : Nat) (u : Int32) (fm : Value) (args : Array Value) (s : State) : Prop := args = #[.ref t, .int (Int32.ofNat i)] ∧ XT.Arr .byte t V s ∧ V.slots[i]? = some (.int u) ∧ (StaticIs s "jdk/internal/util/Preconditions" "SIOOBE_FORMATTER" "Ljava/util/function/BiFunction;" fm ∧ fm.isRef = true)
def E (u : Int32) (r : Option Value) (s w : State) : Prop := XT.PureE (some (.int (chr8 u))) r s w
theorem law (l : Launch) (t : Addr) (V : Cell) (i : Nat) (u : Int32) (fm : Value) : Law l yN 2 2 2 27 yB 2 (some .char) site (P t V i u fm) (E u) [] 0 0 := by
  refine Law.of_walk (plainFor_of_name (by decide +kernel)) (by decide +kernel) (by decide +kernel) (by decide) (fun _ _ h => by rw [h.1]; rfl) (fun _ U U' hal hh h => ⟨h.1, h.2.1.mv hal hh, h.2.2.1, h.2.2.2.1.there hal hh, h.2.2.2.2⟩) (fun r U U' V V' h1 hal h2 h => XT.PureE.mv r U U' V V' h1 hal h2 h) ?_
  intro p e s m args below meth c s₁ X0 hexec hbytes hml hret hlk hnm hown hh0 W hP
  obtain ⟨rfl, hV, hu, s1, rf⟩ := hP
  have v31 := hV.2.2.2
  have hi : i < V.slots.size := (Array.getElem?_eq_some_iff.mp hu).1
  have c1 : Steps p.tables e below (s₁.setTop (entryFrame m #[.ref t, .int (Int32.ofNat i)] 2)) (s₁.setTop (mkF m 0 #[.val (.ref t), .val (.int (Int32.ofNat i))] [])) := entry rfl
  have c2 : Steps p.tables e below (s₁.setTop (entryFrame m #[.ref t, .int (Int32.ofNat i)] 2)) (s₁.setTop (mkF m 3 #[.val (.ref t), .val (.int (Int32.ofNat i))] [.int (Int32.ofNat V.slots.size), .int (Int32.ofNat i)])) := c1.trans (by
    refine XS.iloadN X0.here hexec rfl (hb hbytes d0) rfl ?_
    refine XS.aloadN X0.here hexec rfl (hb hbytes d1) rfl rfl ?_
    refine X0.alen hexec (hV.mv X0.warmed.alike hh0) rfl rfl (hb hbytes d2) ?_
    exact Steps.refl _)
  obtain ⟨v3, T3, X3, E3, g3⟩ := X0.callS hexec (JO.Str_checkIndex.law l (Int32.ofNat i) (Int32.ofNat V.slots.size) fm) hown (wks W (staticW "java/lang/StringLatin1" 9 JO.Str_checkIndex.yN)) (wk W JO.Str_checkIndex.tab) (W := 0) (Nat.le_of_ble_eq_true rfl) (Nat.le_of_ble_eq_true rfl) (Nat.le_refl _) (Nat.le_refl _) (g := (mkF m 3 #[.val (.ref t), .val (.int (Int32.ofNat i))] [.int (Int32.ofNat V.slots.size), .int (Int32.ofNat i)])) rfl (by rw [hml]; rfl) c2 (argsL := [.int (Int32.ofNat i), .int (Int32.ofNat V.slots.size)]) (rest := []) rfl rfl (by show 2 * 0 + 0 ≤ _; decide) (hb hbytes d3) (⟨rfl, rf, s1.there X0.warmed.alike hh0, Int32.ofNat_not_neg (by omega), lt32 v31 hi⟩)
  obtain ⟨rfl, q3⟩ := E3
  have hh3 := q3.trans hh0
  have c4 : Steps p.tables e below (s₁.setTop (entryFrame m #[.ref t, .int (Int32.ofNat i)] 2)) (T3.setTop (mkF m 14 #[.val (.ref t), .val (.int (Int32.ofNat i))] [.int (chr8 u)])) := Steps.trans g3 (by
    refine XS.aloadN X3.here hexec rfl (hb hbytes d6) rfl rfl ?_
    refine XS.iloadN X3.here hexec rfl (hb hbytes d7) rfl ?_
    refine X3.aget hexec (hV.mv X3.warmed.alike hh3) rfl hu rfl rfl (hb hbytes d8) ?_
    refine sipushV X3.here hexec rfl 255 (hb hbytes d9) (by decide) ?_
    refine XS.iand X3.here hexec rfl (hb hbytes d12) rfl ?_
    refine i2c X3.here hexec rfl (hb hbytes d13) rfl ?_
    exact Steps.refl _)
  exact ⟨T3, some (.int (chr8 u)), _, _, _, X3, rfl, rfl, rfl, (fun h => by cases h), ⟨rfl, hh3⟩, fun fs hl => c4.trans (X3.ireturnOut hexec hret (narrow_c _) (Or.inr (Or.inr (Or.inr (Or.inl rfl)))) (hb hbytes d14) hl)⟩
end LChA
end StrChars
namespace StrChars.Road
open Jvm Sem ClassFile Op Lib Jvm.Stand Jvm.Free Jvm.Free.XT
open Jvm.Lib.Cold (StaticIs)
theorem consq {a : Array Value} {s : State} {c : Jvm.Cond} {L : List Jvm.Cond} (h0 : c.before a s = true) (h : ∀ w ∈ L, w.before a s = true) : ∀ w ∈ c :: L, w.before a s = true := fun w hw => (List.mem_cons.mp hw).elim (fun e => e ▸ h0) (h w)
/-- the words of String.length(), either coding -/
abbrev wordsLen : List Jvm.Cond := [.code Len.yN Len.yB 1 (some .int), .initialized ST, .fieldLink ST 9 ST "value" "[B", .fieldLink ST 38 ST "COMPACT_STRINGS" "Z", .fieldLink ST 15 ST "coder" "B", .code Cdr.yN Cdr.yB 1 (some .byte), .methodLink ST 335 Cdr.yN, .declares Cdr.yN, .selects ST Cdr.yN Cdr.yN, .instanceMethod Cdr.yN]
theorem tabLen_of {a : Array Value} {s : State} (h : ∀ w ∈ wordsLen, w.before a s = true) : Len.tab.before a s = true := by
  have hc : Cdr.tab.before a s = true := unparts (wk h (.code Cdr.yN Cdr.yB 1 (some .byte))) (wks h (.initialized Cdr.yN.cls :: Cdr.site))
  have q := consq hc h
  exact unparts (wk q (.code Len.yN Len.yB 1 (some .int))) (wks q (.initialized Len.yN.cls :: Len.site))
theorem movedLen {Z s : State} {a0 args : Array Value} (hZ : Z.Warmed39 s.vm) (hw : ∀ d ∈ wordsLen, d.before a0 Z = true) : ∀ d ∈ wordsLen, d.before args s = true := fun d hd => by
  have q := hw d hd
  have t : ∀ d ∈ wordsLen, d = .arrayClass .byte ∨ (d.onTables && d.keepsFace) = true := by decide +kernel
  rcases t d hd with rfl | t
  · exact RoadKit.mvA hZ q
  · exact RoadKit.mv hZ q t
/-- the bytes of the chars cs, low before high -/
def wideBytes : List Int32 → List Value
  | [] => []
  | c :: cs => .int (lo8 c) :: .int (hi8 c) :: wideBytes cs
theorem wide_lo (d : Value) : ∀ (cs : List Int32) (j : Nat), j < cs.length → (wideBytes cs).getD (2 * j) d = .int (lo8 (cs.getD j 0))
  | [], j, h => absurd h (Nat.not_lt_zero j)
  | c :: cs, 0, _ => rfl
  | c :: cs, j + 1, h => by
    have q := wide_lo d cs j (by simpa using h)
    rw [show 2 * (j + 1) = 2 * j + 1 + 1 from by omega]
    simpa [wideBytes] using q
theorem wide_hi (d : Value) : ∀ (cs : List Int32) (j : Nat), j < cs.length → (wideBytes cs).getD (2 * j + 1) d = .int (hi8 (cs.getD j 0))
  | [], j, h => absurd h (Nat.not_lt_zero j)
  | c :: cs, 0, _ => rfl
  | c :: cs, j + 1, h => by
    have q := wide_hi d cs j (by simpa using h)
    rw [show 2 * (j + 1) + 1 = 2 * j + 1 + 1 + 1 from by omega]
    simpa [wideBytes] using q
theorem low_at (d : Value) (cs : List Int32) (j : Nat) (h : j < cs.length) : (cs.map fun c => Value.int (lo8 c)).getD j d = .int (lo8 (cs.getD j 0)) := by
  simp [List.getD_eq_getElem?_getD, h]
/-- an array of N2 bytes vs codes the chars cs by the coder cd -/
def CodA (cs : List Int32) (cd N2 : Int32) (vs : List Value) : Prop := (cd = 0 ∧ N2 = Int32.ofNat cs.length ∧ vs = (cs.map fun c => Value.int (lo8 c)) ∧ ∀ c ∈ cs, ¬ 255 < c) ∨ (cd = 1 ∧ N2 = Int32.ofNat (2 * cs.length) ∧ vs = wideBytes cs ∧ ∃ c ∈ cs, 255 < c)
theorem CodA.cod {cs : List Int32} {cd N2 : Int32} {vs : List Value} {V : Cell} (h : CodA cs cd N2 vs) (hn : 2 * cs.length < 2 ^ 31) (hs : V.slots.size = N2.toNatClampNeg) (hv : RoadKit.Has V vs (.int 0)) : Cod cd cs.length (fun j => cs.getD j 0) V := by
  rcases h with ⟨rfl, rfl, rfl, h⟩ | ⟨rfl, rfl, rfl, c, hc, hw⟩
  · rw [n32 (by omega)] at hs
    exact Or.inl ⟨rfl, hs, fun j hj => ⟨by rw [hv j (by omega), low_at _ _ _ hj], by
      have e : cs.getD j 0 = cs[j] := by simp [List.getD_eq_getElem?_getD, hj]
      show ¬ 255 < cs.getD j 0
      rw [e]; exact h _ (List.getElem_mem _)⟩⟩
  · rw [n32 (by omega)] at hs
    obtain ⟨j, hj, rfl⟩ := List.getElem_of_mem hc
    exact Or.inr ⟨rfl, hs, fun j hj => ⟨by rw [hv _ (by omega), wide_lo _ _ _ hj], by rw [hv _ (by omega), wide_hi _ _ _ hj]⟩, j, hj, by
      have e : cs.getD j 0 = cs[j] := by simp [List.getD_eq_getElem?_getD, hj]
      show 255 < cs.getD j 0
      rw [e]; exact hw⟩
/-- an object of exactly java/lang/String, its two fields found: as the laws ask it -/
theorem strObj {Z U : State} {a0 : Array Value} {kI : Nat} (wi : (Jvm.Cond.instantiable ST kI).before a0 Z = true) (al : Z.vm.Alike U.vm) {x : Addr} {v0 c0 : Value} (E : RoadKit.Exa Z U.heap x ST) (V : RoadKit.Fld Z U.heap x ST "value" "[B" v0) (C : RoadKit.Fld Z U.heap x ST "coder" "B" c0) :
    ∃ (D : Cell) (fV fC : Field), Blank ST x D U ∧ Found ST "value" "[B" fV U ∧ Found ST "coder" "B" fC U ∧ D.slots[fV.slot]? = some v0 ∧ D.slots[fC.slot]? = some c0 ∧ RoadKit.slotOf Z ST "value" "[B" = fV.slot ∧ RoadKit.slotOf Z ST "coder" "B" = fC.slot := by
  obtain ⟨D, cfV, kV, iV, fV, hD, gV, stV, knV, obV, asV, slV⟩ := V
  obtain ⟨D', cfC, kC, iC, fC, hD', gC, stC, -, -, asC, slC⟩ := C
  cases hD.symm.trans hD'
  obtain ⟨D2, kD, e1, e2, e3, e4, e5⟩ := E
  cases hD.symm.trans e1
  obtain ⟨c2, k2, i1, i2, i3, -⟩ := Cond.instantiable_spec wi
  cases e2.symm.trans i1
  cases e3.symm.trans i2
  obtain ⟨kU, u1, u2⟩ := al.2.2 _ _ e3
  exact ⟨D, fV, fC, ⟨hD, ⟨knV, fun q hq => by rw [hq] at obV; cases obV⟩, by rw [al.findClass]; exact e2, kU, u1, by rw [u2]; exact i3, by rw [u2]; exact e5 i3⟩, ⟨SBG.found_only al ⟨cfV, kV, iV, gV⟩, stV⟩, ⟨SBG.found_only al ⟨cfC, kC, iC, gC⟩, stC⟩, slV, slC, by simp [RoadKit.slotOf, gV], by simp [RoadKit.slotOf, gC]⟩
theorem sta_is {Z U : State} (al : Z.vm.Alike U.vm) {C n d : String} {v : Value} (S : RoadKit.Sta Z U.heap C n d v) : StaticIs U C n d v := by
  obtain ⟨cfS, iS, kS, fS, st, cS, t1, t2, t3, t4, t5, t6, t7⟩ := S
  exact StaticIs.there (s := { Z with heap := U.heap }) ⟨cfS, iS, kS, fS, st, cS, t1, t2, t3, t4, t5, (fun q => by rw [q] at t6; cases t6), t7⟩ al rfl
/-- **length() OF SUCH A STRING** -/
theorem lenW {p : Program} {l : Launch} {e : Env} {R : Room} {s : State} {args : Array Value} {below : List Frame} {len W : Nat} {Z : State} {a0 : Array Value} {h : Heap} (hZ : Z.Warmed39 s.vm) (hw : ∀ d ∈ wordsLen, d.before a0 Z = true) {kI : Nat} (wi : (Jvm.Cond.instantiable ST kI).before a0 Z = true)
    {x t : Addr} {kb : ClassId} {cs : List Int32} {cd N2 z : Int32} {vs : List Value} (E : RoadKit.Exa Z h x ST) (V : RoadKit.Fld Z h x ST "value" "[B" (.ref t)) (C : RoadKit.Fld Z h x ST "coder" "B" (.int cd)) (K : RoadKit.Arv Z h t kb .byte N2 vs (.int 0)) (hc : CodA cs cd N2 vs) (hb : ∀ c ∈ cs, ¬ c < 0 ∧ ¬ (65535 : Int32) < c)
    (S : RoadKit.Sta Z h ST "COMPACT_STRINGS" "Z" (.int z)) (hz : ¬ z = 0) (l2 : cs.length ≤ 4000) (hfr : 2 ≤ R.frames) (hlo : W + 25 ≤ R.locals) :
    Back l R p e below s args (⟨"java/lang/String", "length", "()I"⟩ : MethodName) len W (fun P a => a = #[.ref x] ∧ P.U.heap = h ∧ P.cells + 0 ≤ R.cells ∧ P.slots + 0 ≤ R.slots)
      (fun P _ v B => ∃ L, (v = some (.int (Int32.ofNat cs.length)) ∧ L = [] ∧ B.U.heap = h) ∧ B.locs = P.locs ++ L ∧ B.cells = P.cells + 0 ∧ B.slots = P.slots + 0) := by
  obtain ⟨A, K1, K2, K3, K4, K5, K6⟩ := K
  have hcod := hc.cod (by omega) K3 K5
  intro m meth c P g ig mk a X hg hsize hdg hW hn hp'
  obtain ⟨rfl, rfl, r1, r2⟩ := hp'
  have al : Z.vm.Alike P.U.vm := hZ.alike.trans X.warmed.alike
  obtain ⟨D, fV, fC, hB, F1, F2, g1, g2, -, -⟩ := strObj wi al E V C
  have hx : Txt x t A cd cs.length (fun j => cs.getD j 0) P.U := ⟨⟨_, hB.2.2.1, D, hB.1, rfl, by cases q : D.vm <;> first | rfl | exact absurd q (hB.2.1.2 _)⟩, Has.of hB F1 g1, Has.of hB F2 g2, ⟨K1.1, State.isArrayOf_alike al K1.2.1, K1.2.2, by rcases hcod with ⟨-, q, -⟩ | ⟨-, q, -⟩ <;> omega⟩, hcod, fun j hj => by
    have e : cs.getD j 0 = cs[j] := by simp [List.getD_eq_getElem?_getD, hj]
    show ¬ cs.getD j 0 < 0 ∧ ¬ 65535 < cs.getD j 0
    rw [e]; exact hb _ (List.getElem_mem _)⟩
  obtain ⟨v, B, X', ⟨⟨hv, hh⟩, hl, hk, hs⟩, st⟩ := Len.pays x t A cd cs.length (fun j => cs.getD j 0) z (tabLen_of (movedLen hZ hw)) hfr hlo m meth c P g ig mk _ X hg hsize hdg hW hn ⟨r1, r2, rfl, hx, sta_is al S, hz⟩
  exact ⟨v, B, X', ⟨[], ⟨hv, rfl, hh⟩, hl, hk, hs⟩, st⟩
end StrChars.Road
namespace StrChars.Road
open Jvm Sem ClassFile Op Lib Jvm.Stand Jvm.Free Jvm.Free.XT
open Jvm.Lib.Cold (StaticIs)
/-- the road's facts of a String, as the laws ask it -/
theorem txt_of {Z U : State} {a0 : Array Value} {kI : Nat} (wi : (Jvm.Cond.instantiable ST kI).before a0 Z = true) (al : Z.vm.Alike U.vm) {x t : Addr} {kb : ClassId} {cs : List Int32} {cd N2 : Int32} {vs : List Value} (E : RoadKit.Exa Z U.heap x ST) (V : RoadKit.Fld Z U.heap x ST "value" "[B" (.ref t)) (C : RoadKit.Fld Z U.heap x ST "coder" "B" (.int cd)) (K : RoadKit.Arv Z U.heap t kb .byte N2 vs (.int 0)) (hc : CodA cs cd N2 vs) (hb : ∀ c ∈ cs, ¬ c < 0 ∧ ¬ (65535 : Int32) < c) (l2 : cs.length ≤ 4000) :
    ∃ A, Txt x t A cd cs.length (fun j => cs.getD j 0) U := by
  obtain ⟨A, K1, K2, K3, K4, K5, K6⟩ := K
  have hcod := hc.cod (by omega) K3 K5
  obtain ⟨D, fV, fC, hB, F1, F2, g1, g2, -, -⟩ := strObj wi al E V C
  exact ⟨A, ⟨_, hB.2.2.1, D, hB.1, rfl, by cases q : D.vm <;> first | rfl | exact absurd q (hB.2.1.2 _)⟩, Has.of hB F1 g1, Has.of hB F2 g2, ⟨K1.1, State.isArrayOf_alike al K1.2.1, K1.2.2, by rcases hcod with ⟨-, q, -⟩ | ⟨-, q, -⟩ <;> omega⟩, hcod, fun j hj => by
    have e : cs.getD j 0 = cs[j] := by simp [List.getD_eq_getElem?_getD, hj]
    show ¬ cs.getD j 0 < 0 ∧ ¬ 65535 < cs.getD j 0
    rw [e]; exact hb _ (List.getElem_mem _)⟩
end StrChars.Road
namespace StrChars
open Jvm Sem ClassFile Op Lib Jvm.Stand Jvm.Free.XT Jvm.Free.ALB Jvm.Free.JM Jvm.Free
open Jvm.Lib.Cold (StaticIs)
namespace ChN
def yN : MethodName := ⟨"java/lang/String", "charAt", "(I)C"⟩
abbrev yB : ByteArray := jdk_42_method_56_code
theorem d0 : decode yB 0 = .ok (.aload_n 0, 1) := by decide +kernel
theorem d1 : decode yB 1 = .ok (.invokevirtual 492, 3) := by decide +kernel
theorem d4 : decode yB 4 = .ok (.ifCond (.eq) 12, 3) := by decide +kernel
theorem d7 : decode yB 7 = .ok (.aload_n 0, 1) := by decide +kernel
theorem d8 : decode yB 8 = .ok (.getfield 9, 3) := by decide +kernel
theorem d11 : decode yB 11 = .ok (.iload_n 1, 1) := by decide +kernel
theorem d12 : decode yB 12 = .ok (.invokestatic 495, 3) := by decide +kernel
theorem d15 : decode yB 15 = .ok (.ireturn, 1) := by decide +kernel
def site : List Cond := [.fieldLink "java/lang/String" 9 "java/lang/String" "value" "[B", IsL.tab, LChA.tab] ++ virtW "java/lang/String" 492 "java/lang/String" IsL.yN IsL.yN ++ staticW "java/lang/String" 495 LChA.yN
def tab : Cond := tabOf yN yB 2 (some .char) site
def P (x t : Addr) (V : Cell) (n : Nat) (f : Nat → Int32) (z : Int32) (fm : Value) (i : Nat) (args : Array Value) (s : State) : Prop := args = #[.ref x, .int (Int32.ofNat i)] ∧ Txt x t V 0 n f s ∧ i < n ∧ StaticIs s "java/lang/String" "COMPACT_STRINGS" "Z" (.int z) ∧ ¬ z = 0 ∧ StaticIs s "jdk/internal/util/Preconditions" "SIOOBE_FORMATTER" "Ljava/util/function/BiFunction;" fm ∧ fm.isRef = true
def E (f : Nat → Int32) (i : Nat) (r : Option Value) (s u : State) : Prop := XT.PureE (some (.int (f i))) r s u
/-- charAt(i) of a Latin-1 String of n chars, i < n: f i -/
theorem law (l : Launch) (x t : Addr) (V : Cell) (n : Nat) (f : Nat → Int32) (z : Int32) (fm : Value) (i : Nat) : Law l yN 2 1 3 40 yB 2 (some .char) site (P x t V n f z fm i) (E f i) [] 0 0 := by
  refine Law.of_walk (plainFor_of_name (by decide +kernel)) (by decide +kernel) (by decide +kernel) (by decide) (fun _ _ h => by rw [h.1]; rfl) (fun _ U U' hal hh h => ⟨h.1, h.2.1.mv hal hh, h.2.2.1, h.2.2.2.1.there hal hh, h.2.2.2.2.1, h.2.2.2.2.2.1.there hal hh, h.2.2.2.2.2.2⟩) (fun r U U' V V' h1 hal h2 h => XT.PureE.mv r U U' V V' h1 hal h2 h) ?_
  intro p e s m args below meth c s₁ X0 hexec hbytes hml hret hlk hnm hown hh0 W hP
  obtain ⟨rfl, hx, hi, s1, hz, s3, rf⟩ := hP
  have v31 := hx.2.2.2.1.2.2.2
  have hr := hx.2.2.2.2.2 i hi
  have hx0 := hx.mv X0.warmed.alike hh0
  have c1 : Steps p.tables e below (s₁.setTop (entryFrame m #[.ref x, .int (Int32.ofNat i)] 2)) (s₁.setTop (mkF m 1 #[.val (.ref x), .val (.int (Int32.ofNat i))] [.ref x])) := Steps.trans (entry rfl) (by
    show Steps p.tables e below (s₁.setTop (mkF m 0 #[.val (.ref x), .val (.int (Int32.ofNat i))] [])) _
    refine XS.aloadN X0.here hexec rfl (hb hbytes d0) rfl rfl ?_
    exact Steps.refl _)
  obtain ⟨v2, T2, X2, E2, g2⟩ := X0.callV hexec (IsL.law l x 0 z) hown (wks W (virtW "java/lang/String" 492 "java/lang/String" IsL.yN IsL.yN)) rfl (by decide) (wk W IsL.tab) (W := 0) (Nat.le_of_ble_eq_true rfl) (Nat.le_of_ble_eq_true rfl) (Nat.le_refl _) (Nat.le_refl _) (hx0.1.fc X0.warmed.alike) hx0.1.is (g := (mkF m 1 #[.val (.ref x), .val (.int (Int32.ofNat i))] [.ref x])) rfl (by rw [hml]; rfl) c1 (argsL := []) (rest := []) rfl rfl (by show 2 * 0 + 0 ≤ _; decide) (hb hbytes d1) (⟨rfl, hx0.2.2.1, hx.2.2.2.2.1.cd, s1.there X0.warmed.alike hh0, hz⟩)
  obtain ⟨rfl, q2⟩ := E2
  have hh2 := q2.trans hh0
  have hx2 := hx.mv X2.warmed.alike hh2
  obtain ⟨-, k1, k2⟩ | ⟨k0, -⟩ := hx.2.2.2.2.1
  · have c3 : Steps p.tables e below (s₁.setTop (entryFrame m #[.ref x, .int (Int32.ofNat i)] 2)) (T2.setTop (mkF m 8 #[.val (.ref x), .val (.int (Int32.ofNat i))] [.ref x])) := Steps.trans g2 (by
      refine XS.ifNo X2.here hexec rfl (hb hbytes d4) rfl (i0_eq_f (by decide)) ?_
      refine XS.aloadN X2.here hexec rfl (hb hbytes d7) rfl rfl ?_
      exact Steps.refl _)
    obtain ⟨T4, X4, q4, st4⟩ := X2.hget hexec hown (wk W (.fieldLink "java/lang/String" 9 "java/lang/String" "value" "[B")) hx2.2.1 (g := (mkF m 8 #[.val (.ref x), .val (.int (Int32.ofNat i))] [.ref x])) rfl (rest := []) rfl (hb hbytes d8)
    have hh4 := q4.trans hh2
    have c5 : Steps p.tables e below (s₁.setTop (entryFrame m #[.ref x, .int (Int32.ofNat i)] 2)) (T4.setTop (mkF m 12 #[.val (.ref x), .val (.int (Int32.ofNat i))] [.int (Int32.ofNat i), .ref t])) := (c3.trans (st4 _ (Steps.refl _))).trans (by
      refine XS.iloadN X4.here hexec rfl (hb hbytes d11) rfl ?_
      exact Steps.refl _)
    obtain ⟨v6, T6, X6, E6, g6⟩ := X4.callS hexec (LChA.law l t V i (lo8 (f i)) fm) hown (wks W (staticW "java/lang/String" 495 LChA.yN)) (wk W LChA.tab) (W := 0) (Nat.le_of_ble_eq_true rfl) (Nat.le_of_ble_eq_true rfl) (Nat.le_refl _) (Nat.le_refl _) (g := (mkF m 12 #[.val (.ref x), .val (.int (Int32.ofNat i))] [.int (Int32.ofNat i), .ref t])) rfl (by rw [hml]; rfl) c5 (argsL := [.ref t, .int (Int32.ofNat i)]) (rest := []) rfl rfl (by show 2 * 0 + 0 ≤ _; decide) (hb hbytes d12) (⟨rfl, hx.2.2.2.1.mv X4.warmed.alike hh4, (k2 i hi).1, s3.there X4.warmed.alike hh4, rf⟩)
    obtain ⟨rfl, q6⟩ := E6
    rw [chr8_lo8 hr.1 (k2 i hi).2] at g6
    exact ⟨T6, some (.int (f i)), _, _, _, X6, rfl, rfl, rfl, (fun h => by cases h), ⟨rfl, q6.trans hh4⟩, fun fs hl => Steps.trans g6 (X6.ireturnOut hexec hret (narrow_ch hr.1 hr.2) (Or.inr (Or.inr (Or.inr (Or.inl rfl)))) (hb hbytes d15) hl)⟩
  · exact absurd k0 (by decide)
theorem pays {l : Launch} {R : Room} {p : Program} {e : Env} {below : List Frame} {s : State} {sargs : Array Value} {len W : Nat} (x t : Addr) (V : Cell) (n : Nat) (f : Nat → Int32) (z : Int32) (fm : Value) (i : Nat) (htab : tab.before sargs s = true) (hfr : 4 ≤ R.frames) (hlo : W + 53 ≤ R.locals) :
    Back l R p e below s sargs yN len W (fun A₁ a₁ => A₁.cells + 0 ≤ R.cells ∧ A₁.slots + 0 ≤ R.slots ∧ P x t V n f z fm i a₁ A₁.U) (fun A₁ _ v₁ B₁ => E f i v₁ A₁.U B₁.U ∧ B₁.locs = A₁.locs ++ [] ∧ B₁.cells = A₁.cells + 0 ∧ B₁.slots = A₁.slots + 0) :=
  (law l x t V n f z fm i).pays htab hfr (by omega)
end ChN
end StrChars
namespace StrChars.Road
open Jvm Sem ClassFile Op Lib Jvm.Stand Jvm.Free Jvm.Free.XT
open Jvm.Lib.Cold (StaticIs)
/-- the words of String.charAt(int), the Latin-1 road alone -/
abbrev wordsChN : List Jvm.Cond := [.code ChN.yN ChN.yB 2 (some .char), .initialized ST, .fieldLink ST 9 ST "value" "[B", .fieldLink ST 38 ST "COMPACT_STRINGS" "Z", .fieldLink ST 15 ST "coder" "B", .code IsL.yN IsL.yB 1 (some .boolean), .methodLink ST 492 IsL.yN, .declares IsL.yN, .selects ST IsL.yN IsL.yN, .instanceMethod IsL.yN,
  .methodLink ST 495 LChA.yN, .static LChA.yN, .code LChA.yN LChA.yB 2 (some .char), .initialized "java/lang/StringLatin1", .methodLink "java/lang/StringLatin1" 9 JO.Str_checkIndex.yN, .static JO.Str_checkIndex.yN, .code JO.Str_checkIndex.yN JO.Str_checkIndex.yB 2 none,
  .fieldLink ST 1053 "jdk/internal/util/Preconditions" "SIOOBE_FORMATTER" "Ljava/util/function/BiFunction;", .methodLink ST 1059 JC.PreCheck.yN, .static JC.PreCheck.yN, .code JC.PreCheck.yN JC.PreCheck.yB 3 (some .int), .initialized "jdk/internal/util/Preconditions"]
theorem tabChN_of {a : Array Value} {s : State} (h : ∀ w ∈ wordsChN, w.before a s = true) : ChN.tab.before a s = true := by
  have hp : JC.PreCheck.tab.before a s = true := unparts (wk h (.code JC.PreCheck.yN JC.PreCheck.yB 3 (some .int))) (wks h (.initialized JC.PreCheck.yN.cls :: JC.PreCheck.site))
  have qk := consq hp h
  have hk : JO.Str_checkIndex.tab.before a s = true := unparts (wk qk (.code JO.Str_checkIndex.yN JO.Str_checkIndex.yB 2 none)) (wks qk (.initialized JO.Str_checkIndex.yN.cls :: JO.Str_checkIndex.site))
  have ql := consq hk h
  have hl : LChA.tab.before a s = true := unparts (wk ql (.code LChA.yN LChA.yB 2 (some .char))) (wks ql (.initialized LChA.yN.cls :: LChA.site))
  have hi : IsL.tab.before a s = true := unparts (wk h (.code IsL.yN IsL.yB 1 (some .boolean))) (wks h (.initialized IsL.yN.cls :: IsL.site))
  have q := consq hi (consq hl h)
  exact unparts (wk q (.code ChN.yN ChN.yB 2 (some .char))) (wks q (.initialized ChN.yN.cls :: ChN.site))
theorem movedChN {Z s : State} {a0 args : Array Value} (hZ : Z.Warmed39 s.vm) (hw : ∀ d ∈ wordsChN, d.before a0 Z = true) : ∀ d ∈ wordsChN, d.before args s = true := fun d hd => by
  have t : ∀ d ∈ wordsChN, (d.onTables && d.keepsFace) = true := by decide +kernel
  exact RoadKit.mv hZ (hw d hd) (t d hd)
/-- **charAt(i) OF A LATIN-1 STRING**, i < n: the char -/
theorem chN {p : Program} {l : Launch} {e : Env} {R : Room} {s : State} {args : Array Value} {below : List Frame} {len W : Nat} {Z : State} {a0 : Array Value} {h : Heap} (hZ : Z.Warmed39 s.vm) (hw : ∀ d ∈ wordsChN, d.before a0 Z = true) {kI : Nat} (wi : (Jvm.Cond.instantiable ST kI).before a0 Z = true)
    {x t : Addr} {kb : ClassId} {cs : List Int32} {N2 z : Int32} {vs : List Value} {fm : Value} {i : Nat} {j : Int32} (E : RoadKit.Exa Z h x ST) (V : RoadKit.Fld Z h x ST "value" "[B" (.ref t)) (C : RoadKit.Fld Z h x ST "coder" "B" (.int 0)) (K : RoadKit.Arv Z h t kb .byte N2 vs (.int 0)) (hc : CodA cs 0 N2 vs) (hb : ∀ c ∈ cs, ¬ c < 0 ∧ ¬ (65535 : Int32) < c)
    (S : RoadKit.Sta Z h ST "COMPACT_STRINGS" "Z" (.int z)) (hz : ¬ z = 0) (F : RoadKit.Sta Z h "jdk/internal/util/Preconditions" "SIOOBE_FORMATTER" "Ljava/util/function/BiFunction;" fm) (rf : fm.isRef = true) (l2 : cs.length ≤ 4000) (hi : i < cs.length) (hj : j = Int32.ofNat i) (hfr : 4 ≤ R.frames) (hlo : W + 53 ≤ R.locals) :
    Back l R p e below s args (⟨"java/lang/String", "charAt", "(I)C"⟩ : MethodName) len W (fun P a => a = #[.ref x, .int j] ∧ P.U.heap = h ∧ P.cells + 0 ≤ R.cells ∧ P.slots + 0 ≤ R.slots)
      (fun P _ v B => ∃ L, (v = some (.int (cs.getD i 0)) ∧ L = [] ∧ B.U.heap = h) ∧ B.locs = P.locs ++ L ∧ B.cells = P.cells + 0 ∧ B.slots = P.slots + 0) := by
  subst hj
  intro m meth c P g ig mk a X hg hsize hdg hW hn hp'
  obtain ⟨rfl, rfl, r1, r2⟩ := hp'
  have al : Z.vm.Alike P.U.vm := hZ.alike.trans X.warmed.alike
  obtain ⟨A, hx⟩ := txt_of wi al E V C K hc hb l2
  obtain ⟨v, B, X', ⟨⟨hv, hh⟩, hl, hk, hs⟩, st⟩ := ChN.pays x t A cs.length (fun j => cs.getD j 0) z fm i (tabChN_of (movedChN hZ hw)) hfr hlo m meth c P g ig mk _ X hg hsize hdg hW hn ⟨r1, r2, rfl, hx, hi, sta_is al S, hz, sta_is al F, rf⟩
  exact ⟨v, B, X', ⟨[], ⟨hv, rfl, hh⟩, hl, hk, hs⟩, st⟩
/-- what backV says of its String, as the contracts of this text ask it: cs's low bytes, coder 0 -/
theorem codOf {cs : List Int32} {n : Nat} (hn : cs.length = n) (hb : ∀ c ∈ cs, ¬ 255 < c) : CodA cs 0 (Int32.ofNat n) ((cs.map lo8).map Value.int) := Or.inl ⟨rfl, by rw [hn], by simp [List.map_map, Function.comp_def], hb⟩
end StrChars.Road
end Jvm.Pilot.@@N@@
namespace Jvm.Pilot.@@N@@
open Jvm Jvm.ClassFile Sem Op Lib Jvm.Free Jvm.Stand Jvm.LawKit Jvm.RoadKit Bundle Jvm.Pilot.@@N@@.Jvm.D
theorem own_hw {Z : State} {a0 : Array Value} (hw : ∀ d ∈ tables_1, d.before a0 Z = true) (i : Nat) {d : Jvm.Cond} (h : tables_1[i]? = some d) : d.before a0 Z = true := hw d (List.mem_of_getElem? h)
section OwnKit
variable {p : Program} {l : Launch} {e : Env} {R : Room} {s : State} {m : MethodId} {args : Array Value} {below : List Frame} {meth : Method} {c : Code} {T : State} {locs : List Loc} {cells slots : Nat} {Z : State} {h : Heap} {a : Addr} {k : ClassId} {n : Int32} {vs : List Value} {dv : Value}
/-- from S on the body's run ends as Qx says -/
def own_Ok (p : Program) (e : Env) (below : List Frame) (Qx : Outcome → State → Prop) (S : State) : Prop := ∃ s₂ o, Steps p.tables e below S s₂ ∧ s₂.status = .running ∧ Ended s₂ below o ∧ Qx o s₂
theorem own_st {Qx : Outcome → State → Prop} {S S' : State} (h : ∀ t, Steps p.tables e below S' t → Steps p.tables e below S t) (k : own_Ok p e below Qx S') : own_Ok p e below Qx S := by
  obtain ⟨s₂, o, h1, h2⟩ := k
  exact ⟨s₂, o, h s₂ h1, h2⟩
def own_Qx (s : State) (Q : Option Value → Heap → List Loc → Prop) (kc ks : Nat) : Outcome → State → Prop := fun o s₂ => ∃ v L, o = .returned v ∧ Q v s₂.heap L ∧ FrameEnd s o s₂ L kc ks
theorem own_out (X : Stand p l e R s m args below meth c T locs cells slots) (hlk : meth.locks = false) {Q : Option Value → Heap → List Loc → Prop} {kc ks : Nat} {g : JFrame} (v : Option Value) (hv : meth.sig.returnType = none → v = none)
    (hst : ∀ fs, (∀ (f : JFrame) (acts : List Action), f.method = m → f.locked = none → f.entered = [] → (doReturn e (T.setTop f) acts v).1 = T.setFrames fs) → Steps p.tables e below (T.setTop g) (T.setFrames fs))
    (hq : Q v T.heap locs) (hk : cells ≤ kc) (hn : slots ≤ ks) : own_Ok p e below (own_Qx s Q kc ks) (T.setTop g) := by
  obtain ⟨fs, hr, hrun, hended, hW, hsame⟩ := X.leave (v := v) hv hlk
  exact ⟨_, _, hst fs hr, hrun, hended, v, locs, rfl, hq, ⟨_, rfl⟩, hW, hsame.mono hk hn⟩
theorem own_retV (X : Stand p l e R s m args below meth c T locs cells slots) (hx : p.tables.exec = Jvm.exec) (hlk : meth.locks = false) {Q : Option Value → Heap → List Loc → Prop} {kc ks : Nat} {pc : Nat} {Ls : Array Slot} (hret : meth.sig.returnType = none) (hd : decode c.code pc = .ok (.return_, 1))
    (hq : Q none T.heap locs) (hk : cells ≤ kc) (hn : slots ≤ ks) : own_Ok p e below (own_Qx s Q kc ks) (T.setTop (mkF m pc Ls [])) :=
  own_out X hlk none (fun _ => rfl) (fun fs hr => X.returnOut hx hret hd hr) hq hk hn
theorem own_retI (X : Stand p l e R s m args below meth c T locs cells slots) (hx : p.tables.exec = Jvm.exec) (hlk : meth.locks = false) {Q : Option Value → Heap → List Loc → Prop} {kc ks : Nat} {pc : Nat} {Ls : Array Slot} {z : Int32} {rest : List Value} (hret : meth.sig.returnType = some .int) (hd : decode c.code pc = .ok (.ireturn, 1))
    (hq : Q (some (.int z)) T.heap locs) (hk : cells ≤ kc) (hn : slots ≤ ks) : own_Ok p e below (own_Qx s Q kc ks) (T.setTop (mkF m pc Ls (.int z :: rest))) :=
  own_out X hlk _ (fun h => by rw [hret] at h; cases h) (fun fs hr => retOut X hx (i := .ireturn) hret rfl (Or.inl ⟨rfl, Or.inl rfl, _, rfl⟩) hd hr) hq hk hn
theorem own_retN (X : Stand p l e R s m args below meth c T locs cells slots) (hx : p.tables.exec = Jvm.exec) (hlk : meth.locks = false) {Q : Option Value → Heap → List Loc → Prop} {kc ks : Nat} {pc : Nat} {Ls : Array Slot} {z : Int32} {t : FieldType} {rest : List Value} (hret : meth.sig.returnType = some t) (ht : t = .boolean ∨ t = .byte ∨ t = .char ∨ t = .short) (hd : decode c.code pc = .ok (.ireturn, 1))
    (hq : Q (some (.int (nar t z))) T.heap locs) (hk : cells ≤ kc) (hn : slots ≤ ks) : own_Ok p e below (own_Qx s Q kc ks) (T.setTop (mkF m pc Ls (.int z :: rest))) :=
  own_out X hlk _ (fun h => by rw [hret] at h; cases h) (fun fs hr => retN X hx hret ht hd hr) hq hk hn
theorem own_retJ (X : Stand p l e R s m args below meth c T locs cells slots) (hx : p.tables.exec = Jvm.exec) (hlk : meth.locks = false) {Q : Option Value → Heap → List Loc → Prop} {kc ks : Nat} {pc : Nat} {Ls : Array Slot} {z : Int64} {rest : List Value} (hret : meth.sig.returnType = some .long) (hd : decode c.code pc = .ok (.lreturn, 1))
    (hq : Q (some (.long z)) T.heap locs) (hk : cells ≤ kc) (hn : slots ≤ ks) : own_Ok p e below (own_Qx s Q kc ks) (T.setTop (mkF m pc Ls (.long z :: rest))) :=
  own_out X hlk _ (fun h => by rw [hret] at h; cases h) (fun fs hr => retOut X hx (i := .lreturn) hret rfl (Or.inr (Or.inl ⟨rfl, rfl, _, rfl⟩)) hd hr) hq hk hn
theorem own_narR {v : Value} {t : FieldType} (hv : v.isRef = true) (ht : t.isReference = true) : narrow t v = v := by
  cases t <;> first | (cases ht; done) | (cases v <;> first | rfl | (cases hv; done))
theorem own_fitsR {v : Value} {t : FieldType} (hv : v.isRef = true) (ht : t.isReference = true) : fits t v = true := by
  cases t <;> first | (cases ht; done) | (cases v <;> first | rfl | (cases hv; done))
theorem own_retA (X : Stand p l e R s m args below meth c T locs cells slots) (hx : p.tables.exec = Jvm.exec) (hlk : meth.locks = false) {Q : Option Value → Heap → List Loc → Prop} {kc ks : Nat} {pc : Nat} {Ls : Array Slot} {w : Value} {t : FieldType} {rest : List Value} (hw : w.isRef = true) (hret : meth.sig.returnType = some t) (ht : t.isReference = true) (hd : decode c.code pc = .ok (.areturn, 1))
    (hq : Q (some w) T.heap locs) (hk : cells ≤ kc) (hn : slots ≤ ks) : own_Ok p e below (own_Qx s Q kc ks) (T.setTop (mkF m pc Ls (w :: rest))) :=
  own_out X hlk _ (fun h => by rw [hret] at h; cases h) (fun fs hr => retOut X hx (i := .areturn) hret (own_narR hw ht) (Or.inr (Or.inr (Or.inr (Or.inr ⟨rfl, ht, hw⟩)))) hd hr) hq hk hn
abbrev own_Met (l : Launch) (Z : State) (y : MethodName) (bytes : ByteArray) (maxl : Nat) (ret : Option FieldType) (ws : List Jvm.Cond) (rm : Room) (as' : Array Value) (h0 : Heap) (Q : Option Value → Heap → List Loc → Prop) : Prop :=
  MetFree l y (head1 (Jvm.Cond.code y bytes maxl ret :: ws) rm) (fun a U => a = as' ∧ Z.Warmed39 U.vm ∧ U.heap = h0) (fun _ _ _ _ _ => True) (fun _ U o U' => ∃ v L, o = .returned v ∧ Q v U'.heap L ∧ FrameEnd U o U' L rm.cells rm.slots)
theorem own_n0 {n0 : Nat} (O : Old Z n0 h) : n0 ≤ h.size := O.1 ▸ O.2.1
theorem own_len {ty : FieldType} (X : Stand p l e R s m args below meth c T locs cells slots) (hx : p.tables.exec = Jvm.exec) (hZ : Z.Warmed39 s.vm) (eT : T.heap = h) (A : Arv Z h a k ty n vs dv) {g : JFrame} (hg : g.method = m) {rest : List Value} (hs : g.stack = .ref a :: rest) (hd : decode c.code g.pc = .ok (.arraylength, 1)) (t : State)
    (hr : Steps p.tables e below (T.setTop { g with pc := g.pc + 1, stack := .int n :: rest }) t) : Steps p.tables e below (T.setTop g) t := by
  obtain ⟨cl, A1, -, S, h0, -⟩ := A
  exact X.arraylength hx (by rw [eT]; exact A1.1) (State.isArrayOf_alike hZ.alike A1.2.1) hg hs hd t (by rw [len_of S h0]; exact hr)
theorem own_ldC (X : Stand p l e R s m args below meth c T locs cells slots) (hx : p.tables.exec = Jvm.exec) (hZ : Z.Warmed39 s.vm) (eT : T.heap = h) (A : Arv Z h a k .char n vs dv) {j v : Int32} (h0 : ¬ j < 0) (h1 : j < n) (hv : vs.getD j.toNatClampNeg dv = .int v) {g : JFrame} (hg : g.method = m) {rest : List Value} (hs : g.stack = .int j :: .ref a :: rest) (hd : decode c.code g.pc = .ok (.caload, 1)) (t : State)
    (hr : Steps p.tables e below (T.setTop { g with pc := g.pc + 1, stack := .int v :: rest }) t) : Steps p.tables e below (T.setTop g) t := by
  obtain ⟨cl, A1, -, S, -, H, -⟩ := A
  exact X.caload hx (by rw [eT]; exact A1.1) (State.isArrayOf_alike hZ.alike A1.2.1) A1.2.2 (inb_of S ⟨h0, h1⟩) (H.at (inb_of S ⟨h0, h1⟩) hv) hg hs hd t hr
theorem own_ldB (X : Stand p l e R s m args below meth c T locs cells slots) (hx : p.tables.exec = Jvm.exec) (hZ : Z.Warmed39 s.vm) (eT : T.heap = h) (A : Arv Z h a k .byte n vs dv) {j v : Int32} (h0 : ¬ j < 0) (h1 : j < n) (hv : vs.getD j.toNatClampNeg dv = .int v) {g : JFrame} (hg : g.method = m) {rest : List Value} (hs : g.stack = .int j :: .ref a :: rest) (hd : decode c.code g.pc = .ok (.baload, 1)) (t : State)
    (hr : Steps p.tables e below (T.setTop { g with pc := g.pc + 1, stack := .int v :: rest }) t) : Steps p.tables e below (T.setTop g) t := by
  obtain ⟨cl, A1, -, S, -, H, -⟩ := A
  exact X.baloadBytes hx (by rw [eT]; exact A1.1) (State.isArrayOf_alike hZ.alike A1.2.1) A1.2.2 (inb_of S ⟨h0, h1⟩) (H.at (inb_of S ⟨h0, h1⟩) hv) hg hs hd t hr
theorem own_ldI (X : Stand p l e R s m args below meth c T locs cells slots) (hx : p.tables.exec = Jvm.exec) (hZ : Z.Warmed39 s.vm) (eT : T.heap = h) (A : Arv Z h a k .int n vs dv) {j v : Int32} (h0 : ¬ j < 0) (h1 : j < n) (hv : vs.getD j.toNatClampNeg dv = .int v) {g : JFrame} (hg : g.method = m) {rest : List Value} (hs : g.stack = .int j :: .ref a :: rest) (hd : decode c.code g.pc = .ok (.iaload, 1)) (t : State)
    (hr : Steps p.tables e below (T.setTop { g with pc := g.pc + 1, stack := .int v :: rest }) t) : Steps p.tables e below (T.setTop g) t := by
  obtain ⟨cl, A1, -, S, -, H, -⟩ := A
  exact X.iaload hx (by rw [eT]; exact A1.1) (State.isArrayOf_alike hZ.alike A1.2.1) A1.2.2 (inb_of S ⟨h0, h1⟩) (H.at (inb_of S ⟨h0, h1⟩) hv) hg hs hd t hr
theorem own_ldJ (X : Stand p l e R s m args below meth c T locs cells slots) (hx : p.tables.exec = Jvm.exec) (hZ : Z.Warmed39 s.vm) (eT : T.heap = h) (A : Arv Z h a k .long n vs dv) {j : Int32} {v : Int64} (h0 : ¬ j < 0) (h1 : j < n) (hv : vs.getD j.toNatClampNeg dv = .long v) {g : JFrame} (hg : g.method = m) {rest : List Value} (hs : g.stack = .int j :: .ref a :: rest) (hd : decode c.code g.pc = .ok (.laload, 1)) (t : State)
    (hr : Steps p.tables e below (T.setTop { g with pc := g.pc + 1, stack := .long v :: rest }) t) : Steps p.tables e below (T.setTop g) t := by
  obtain ⟨cl, A1, -, S, -, H, -⟩ := A
  exact X.laload hx (by rw [eT]; exact A1.1) (State.isArrayOf_alike hZ.alike A1.2.1) A1.2.2 (inb_of S ⟨h0, h1⟩) (H.at (inb_of S ⟨h0, h1⟩) hv) hg hs hd t hr
theorem own_ldR {ty : FieldType} (X : Stand p l e R s m args below meth c T locs cells slots) (hx : p.tables.exec = Jvm.exec) (hZ : Z.Warmed39 s.vm) (eT : T.heap = h) (A : Arv Z h a k ty n vs dv) {j : Int32} {v : Value} (h0 : ¬ j < 0) (h1 : j < n) (hv : vs.getD j.toNatClampNeg dv = v) (hty : ty.isReference = true) {g : JFrame} (hg : g.method = m) {rest : List Value} (hs : g.stack = .int j :: .ref a :: rest) (hd : decode c.code g.pc = .ok (.aaload, 1)) (t : State)
    (hr : Steps p.tables e below (T.setTop { g with pc := g.pc + 1, stack := v :: rest }) t) : Steps p.tables e below (T.setTop g) t := by
  obtain ⟨cl, A1, -, S, -, H, -⟩ := A
  exact X.aaload hx (by rw [eT]; exact A1.1) (State.isArrayOf_alike hZ.alike A1.2.1) hty A1.2.2 (inb_of S ⟨h0, h1⟩) (H.at (inb_of S ⟨h0, h1⟩) hv) hg hs hd t hr
theorem own_stC (X : Stand p l e R s m args below meth c T locs cells slots) (hx : p.tables.exec = Jvm.exec) (hZ : Z.Warmed39 s.vm) (eT : T.heap = h) (A : Arv Z h a k .char n vs dv) {j x : Int32} (i : Nat) (hi : j.toNatClampNeg = i) (h0 : ¬ j < 0) (h1 : j < n) (h2 : i < vs.length) {g : JFrame} (hg : g.method = m) {rest : List Value} (hs : g.stack = .int x :: .int j :: .ref a :: rest) (hd : decode c.code g.pc = .ok (.castore, 1)) :
    ∃ T' h', Stand p l e R s m args below meth c T' (locs ++ [⟨a, j.toNatClampNeg⟩]) cells slots ∧ T'.heap = h' ∧ Wr h h' a j.toNatClampNeg (.int (nar .char x)) ∧ Arv Z h' a k .char n (vs.set i (.int (nar .char x))) dv ∧ ∀ target, Steps p.tables e below (T'.setTop { g with pc := g.pc + 1, stack := rest }) target → Steps p.tables e below (T.setTop g) target := by
  obtain ⟨cl, A1, q, S, hn, H, G⟩ := A
  obtain ⟨T', h', X', e', W', st⟩ := stC X hx hZ eT A1 (inb_of S ⟨h0, h1⟩) hg hs hd
  exact ⟨T', h', X', e', W', Arv.set A1 q S hn H G (fits_nar_char _) W' i hi h2, st⟩
theorem own_stB (X : Stand p l e R s m args below meth c T locs cells slots) (hx : p.tables.exec = Jvm.exec) (hZ : Z.Warmed39 s.vm) (eT : T.heap = h) (A : Arv Z h a k .byte n vs dv) {j x : Int32} (i : Nat) (hi : j.toNatClampNeg = i) (h0 : ¬ j < 0) (h1 : j < n) (h2 : i < vs.length) {g : JFrame} (hg : g.method = m) {rest : List Value} (hs : g.stack = .int x :: .int j :: .ref a :: rest) (hd : decode c.code g.pc = .ok (.bastore, 1)) :
    ∃ T' h', Stand p l e R s m args below meth c T' (locs ++ [⟨a, j.toNatClampNeg⟩]) cells slots ∧ T'.heap = h' ∧ Wr h h' a j.toNatClampNeg (.int (nar .byte x)) ∧ Arv Z h' a k .byte n (vs.set i (.int (nar .byte x))) dv ∧ ∀ target, Steps p.tables e below (T'.setTop { g with pc := g.pc + 1, stack := rest }) target → Steps p.tables e below (T.setTop g) target := by
  obtain ⟨cl, A1, q, S, hn, H, G⟩ := A
  obtain ⟨T', h', X', e', W', st⟩ := stB X hx hZ eT A1 (inb_of S ⟨h0, h1⟩) hg hs hd
  exact ⟨T', h', X', e', W', Arv.set A1 q S hn H G (fits_nar_byte _) W' i hi h2, st⟩
theorem own_stI (X : Stand p l e R s m args below meth c T locs cells slots) (hx : p.tables.exec = Jvm.exec) (hZ : Z.Warmed39 s.vm) (eT : T.heap = h) (A : Arv Z h a k .int n vs dv) {j x : Int32} (i : Nat) (hi : j.toNatClampNeg = i) (h0 : ¬ j < 0) (h1 : j < n) (h2 : i < vs.length) {g : JFrame} (hg : g.method = m) {rest : List Value} (hs : g.stack = .int x :: .int j :: .ref a :: rest) (hd : decode c.code g.pc = .ok (.iastore, 1)) :
    ∃ T' h', Stand p l e R s m args below meth c T' (locs ++ [⟨a, j.toNatClampNeg⟩]) cells slots ∧ T'.heap = h' ∧ Wr h h' a j.toNatClampNeg (.int x) ∧ Arv Z h' a k .int n (vs.set i (.int x)) dv ∧ ∀ target, Steps p.tables e below (T'.setTop { g with pc := g.pc + 1, stack := rest }) target → Steps p.tables e below (T.setTop g) target := by
  obtain ⟨cl, A1, q, S, hn, H, G⟩ := A
  obtain ⟨T', h', X', e', W', st⟩ := stI X hx hZ eT A1 (inb_of S ⟨h0, h1⟩) hg hs hd
  exact ⟨T', h', X', e', W', Arv.set A1 q S hn H G rfl W' i hi h2, st⟩
theorem own_stJ (X : Stand p l e R s m args below meth c T locs cells slots) (hx : p.tables.exec = Jvm.exec) (hZ : Z.Warmed39 s.vm) (eT : T.heap = h) (A : Arv Z h a k .long n vs dv) {j : Int32} {x : Int64} (i : Nat) (hi : j.toNatClampNeg = i) (h0 : ¬ j < 0) (h1 : j < n) (h2 : i < vs.length) {g : JFrame} (hg : g.method = m) {rest : List Value} (hs : g.stack = .long x :: .int j :: .ref a :: rest) (hd : decode c.code g.pc = .ok (.lastore, 1)) :
    ∃ T' h', Stand p l e R s m args below meth c T' (locs ++ [⟨a, j.toNatClampNeg⟩]) cells slots ∧ T'.heap = h' ∧ Wr h h' a j.toNatClampNeg (.long x) ∧ Arv Z h' a k .long n (vs.set i (.long x)) dv ∧ ∀ target, Steps p.tables e below (T'.setTop { g with pc := g.pc + 1, stack := rest }) target → Steps p.tables e below (T.setTop g) target := by
  obtain ⟨cl, A1, q, S, hn, H, G⟩ := A
  obtain ⟨T', h', X', e', W', st⟩ := stJ X hx hZ eT A1 (inb_of S ⟨h0, h1⟩) hg hs hd
  exact ⟨T', h', X', e', W', Arv.set A1 q S hn H G rfl W' i hi h2, st⟩
theorem own_stR {ty : FieldType} (X : Stand p l e R s m args below meth c T locs cells slots) (hx : p.tables.exec = Jvm.exec) (hZ : Z.Warmed39 s.vm) (eT : T.heap = h) (A : Arv Z h a k ty n vs dv) {j : Int32} {x : Value} (i : Nat) (hi : j.toNatClampNeg = i) (h0 : ¬ j < 0) (h1 : j < n) (h2 : i < vs.length) (hty : ty.isReference = true) (hxr : x.isRef = true) (hsto : ∀ cl : Cell, Arr Z h a cl ty → cl.cls = k → Sto Z h a x) {g : JFrame} (hg : g.method = m) {rest : List Value} (hs : g.stack = x :: .int j :: .ref a :: rest) (hd : decode c.code g.pc = .ok (.aastore, 1)) :
    ∃ T' h', Stand p l e R s m args below meth c T' (locs ++ [⟨a, j.toNatClampNeg⟩]) cells slots ∧ T'.heap = h' ∧ Wr h h' a j.toNatClampNeg x ∧ Arv Z h' a k ty n (vs.set i x) dv ∧ ∀ target, Steps p.tables e below (T'.setTop { g with pc := g.pc + 1, stack := rest }) target → Steps p.tables e below (T.setTop g) target := by
  obtain ⟨cl, A1, q, S, hn, H, G⟩ := A
  obtain ⟨T', h', X', e', W', st⟩ := stR X hx hZ eT A1 (inb_of S ⟨h0, h1⟩) hty (hsto cl A1 q) hg hs hd
  exact ⟨T', h', X', e', W', Arv.set A1 q S hn H G (own_fitsR hxr hty) W' i hi h2, st⟩
end OwnKit
section OwnSteps
variable {p : Program} {l : Launch} {e : Env} {R : Room} {s : State} {m : MethodId} {args : Array Value} {below : List Frame} {meth : Method} {c : Code} {T : State} {locs : List Loc} {cells slots : Nat} {Qx : Outcome → State → Prop} {pc : Nat} {Ls : Array Slot} {st : List Value}
theorem s_iloadN (X : Stand p l e R s m args below meth c T locs cells slots) (hx : p.tables.exec = Jvm.exec) {k : Fin 4} {v : Int32} (hd : decode c.code pc = .ok ((.iload_n k), 1)) (hl : Ls[k.val]? = some (.val (.int v))) (K : own_Ok p e below Qx (T.setTop (mkF m (pc + 1) Ls (.int v :: st)))) : own_Ok p e below Qx (T.setTop (mkF m pc Ls (st))) := own_st (fun _ k => XS.iloadN X.here hx rfl hd hl k) K
theorem s_iload (X : Stand p l e R s m args below meth c T locs cells slots) (hx : p.tables.exec = Jvm.exec) {k : Nat} {v : Int32} (hd : decode c.code pc = .ok ((.iload k), 2)) (hl : Ls[k]? = some (.val (.int v))) (K : own_Ok p e below Qx (T.setTop (mkF m (pc + 2) Ls (.int v :: st)))) : own_Ok p e below Qx (T.setTop (mkF m pc Ls (st))) := own_st (fun _ k => XS.iload X.here hx rfl hd hl k) K
theorem s_lloadN (X : Stand p l e R s m args below meth c T locs cells slots) (hx : p.tables.exec = Jvm.exec) {k : Fin 4} {v : Int64} (hd : decode c.code pc = .ok ((.lload_n k), 1)) (hl : Ls[k.val]? = some (.val (.long v))) (K : own_Ok p e below Qx (T.setTop (mkF m (pc + 1) Ls (.long v :: st)))) : own_Ok p e below Qx (T.setTop (mkF m pc Ls (st))) := own_st (fun _ k => XS.lloadN X.here hx rfl hd hl k) K
theorem s_lload (X : Stand p l e R s m args below meth c T locs cells slots) (hx : p.tables.exec = Jvm.exec) {k : Nat} {v : Int64} (hd : decode c.code pc = .ok ((.lload k), 2)) (hl : Ls[k]? = some (.val (.long v))) (K : own_Ok p e below Qx (T.setTop (mkF m (pc + 2) Ls (.long v :: st)))) : own_Ok p e below Qx (T.setTop (mkF m pc Ls (st))) := own_st (fun _ k => XS.lload X.here hx rfl hd hl k) K
theorem s_aloadN (X : Stand p l e R s m args below meth c T locs cells slots) (hx : p.tables.exec = Jvm.exec) {k : Fin 4} {v : Value} (hd : decode c.code pc = .ok ((.aload_n k), 1)) (hl : Ls[k.val]? = some (.val v)) (hv : v.isRef = true) (K : own_Ok p e below Qx (T.setTop (mkF m (pc + 1) Ls (v :: st)))) : own_Ok p e below Qx (T.setTop (mkF m pc Ls (st))) := own_st (fun _ k => XS.aloadN X.here hx rfl hd hl hv k) K
theorem s_aload (X : Stand p l e R s m args below meth c T locs cells slots) (hx : p.tables.exec = Jvm.exec) {k : Nat} {v : Value} (hd : decode c.code pc = .ok ((.aload k), 2)) (hl : Ls[k]? = some (.val v)) (hv : v.isRef = true) (K : own_Ok p e below Qx (T.setTop (mkF m (pc + 2) Ls (v :: st)))) : own_Ok p e below Qx (T.setTop (mkF m pc Ls (st))) := own_st (fun _ k => XS.aload X.here hx rfl hd hl hv k) K
theorem s_istoreN (X : Stand p l e R s m args below meth c T locs cells slots) (hx : p.tables.exec = Jvm.exec) {k : Fin 4} {x : Int32} (hd : decode c.code pc = .ok ((.istore_n k), 1)) (l' : Array Slot) (hl : storeLocals Ls k.val (.int x) = some l') (K : own_Ok p e below Qx (T.setTop (mkF m (pc + 1) l' (st)))) : own_Ok p e below Qx (T.setTop (mkF m pc Ls (.int x :: st))) := own_st (fun _ k => XS.istoreN X.here hx rfl hd rfl hl k) K
theorem s_istore (X : Stand p l e R s m args below meth c T locs cells slots) (hx : p.tables.exec = Jvm.exec) {k : Nat} {x : Int32} (hd : decode c.code pc = .ok ((.istore k), 2)) (l' : Array Slot) (hl : storeLocals Ls k (.int x) = some l') (K : own_Ok p e below Qx (T.setTop (mkF m (pc + 2) l' (st)))) : own_Ok p e below Qx (T.setTop (mkF m pc Ls (.int x :: st))) := own_st (fun _ k => XS.istore X.here hx rfl hd rfl hl k) K
theorem s_lstoreN (X : Stand p l e R s m args below meth c T locs cells slots) (hx : p.tables.exec = Jvm.exec) {k : Fin 4} {x : Int64} (hd : decode c.code pc = .ok ((.lstore_n k), 1)) (l' : Array Slot) (hl : storeLocals Ls k.val (.long x) = some l') (K : own_Ok p e below Qx (T.setTop (mkF m (pc + 1) l' (st)))) : own_Ok p e below Qx (T.setTop (mkF m pc Ls (.long x :: st))) := own_st (fun _ k => XS.lstoreN X.here hx rfl hd rfl hl k) K
theorem s_lstore (X : Stand p l e R s m args below meth c T locs cells slots) (hx : p.tables.exec = Jvm.exec) {k : Nat} {x : Int64} (hd : decode c.code pc = .ok ((.lstore k), 2)) (l' : Array Slot) (hl : storeLocals Ls k (.long x) = some l') (K : own_Ok p e below Qx (T.setTop (mkF m (pc + 2) l' (st)))) : own_Ok p e below Qx (T.setTop (mkF m pc Ls (.long x :: st))) := own_st (fun _ k => XS.lstore X.here hx rfl hd rfl hl k) K
theorem s_astoreN (X : Stand p l e R s m args below meth c T locs cells slots) (hx : p.tables.exec = Jvm.exec) {k : Fin 4} {x : Value} (hd : decode c.code pc = .ok ((.astore_n k), 1)) (hv : x.isRef = true) (l' : Array Slot) (hl : storeLocals Ls k.val (x) = some l') (K : own_Ok p e below Qx (T.setTop (mkF m (pc + 1) l' (st)))) : own_Ok p e below Qx (T.setTop (mkF m pc Ls (x :: st))) := own_st (fun _ k => XS.astoreN X.here hx rfl hd rfl hv hl k) K
theorem s_astore (X : Stand p l e R s m args below meth c T locs cells slots) (hx : p.tables.exec = Jvm.exec) {k : Nat} {x : Value} (hd : decode c.code pc = .ok ((.astore k), 2)) (hv : x.isRef = true) (l' : Array Slot) (hl : storeLocals Ls k (x) = some l') (K : own_Ok p e below Qx (T.setTop (mkF m (pc + 2) l' (st)))) : own_Ok p e below Qx (T.setTop (mkF m pc Ls (x :: st))) := own_st (fun _ k => XS.astore X.here hx rfl hd rfl hv hl k) K
theorem s_iconst (X : Stand p l e R s m args below meth c T locs cells slots) (hx : p.tables.exec = Jvm.exec) {i : Int} (v : Int32) (hd : decode c.code pc = .ok ((.iconst i), 1)) (hv : Int32.ofInt i = v) (K : own_Ok p e below Qx (T.setTop (mkF m (pc + 1) Ls (.int v :: st)))) : own_Ok p e below Qx (T.setTop (mkF m pc Ls st)) := own_st (fun _ k => XT.iconstV X.here hx rfl v hd hv k) K
theorem s_bipush (X : Stand p l e R s m args below meth c T locs cells slots) (hx : p.tables.exec = Jvm.exec) {i : Int} (v : Int32) (hd : decode c.code pc = .ok ((.bipush i), 2)) (hv : (Int8.ofInt i).toInt32 = v) (K : own_Ok p e below Qx (T.setTop (mkF m (pc + 2) Ls (.int v :: st)))) : own_Ok p e below Qx (T.setTop (mkF m pc Ls st)) := own_st (fun _ k => XT.bipushV X.here hx rfl v hd hv k) K
theorem s_sipush (X : Stand p l e R s m args below meth c T locs cells slots) (hx : p.tables.exec = Jvm.exec) {i : Int} (v : Int32) (hd : decode c.code pc = .ok ((.sipush i), 3)) (hv : (Int16.ofInt i).toInt32 = v) (K : own_Ok p e below Qx (T.setTop (mkF m (pc + 3) Ls (.int v :: st)))) : own_Ok p e below Qx (T.setTop (mkF m pc Ls st)) := own_st (fun _ k => XT.sipushV X.here hx rfl v hd hv k) K
theorem s_lconst (X : Stand p l e R s m args below meth c T locs cells slots) (hx : p.tables.exec = Jvm.exec) {k : Fin 2} (v : Int64) (hd : decode c.code pc = .ok (.lconst k, 1)) (hv : Int64.ofNat k = v) (K : own_Ok p e below Qx (T.setTop (mkF m (pc + 1) Ls (.long v :: st)))) : own_Ok p e below Qx (T.setTop (mkF m pc Ls st)) := own_st (fun _ k => XT.lconstV X.here hx rfl v hd hv k) K
theorem s_aconstNull (X : Stand p l e R s m args below meth c T locs cells slots) (hx : p.tables.exec = Jvm.exec)  (hd : decode c.code pc = .ok (.aconst_null, 1))  (K : own_Ok p e below Qx (T.setTop (mkF m (pc + 1) Ls (.null :: st)))) : own_Ok p e below Qx (T.setTop (mkF m pc Ls (st))) := own_st (fun _ k => XS.aconstNull X.here hx rfl hd k) K
theorem s_iadd (X : Stand p l e R s m args below meth c T locs cells slots) (hx : p.tables.exec = Jvm.exec) {x y : Int32} (hd : decode c.code pc = .ok (.iadd, 1))  (K : own_Ok p e below Qx (T.setTop (mkF m (pc + 1) Ls (.int (x + y) :: st)))) : own_Ok p e below Qx (T.setTop (mkF m pc Ls (.int y :: .int x :: st))) := own_st (fun _ k => XS.iadd X.here hx rfl hd rfl k) K
theorem s_isub (X : Stand p l e R s m args below meth c T locs cells slots) (hx : p.tables.exec = Jvm.exec) {x y : Int32} (hd : decode c.code pc = .ok (.isub, 1))  (K : own_Ok p e below Qx (T.setTop (mkF m (pc + 1) Ls (.int (x - y) :: st)))) : own_Ok p e below Qx (T.setTop (mkF m pc Ls (.int y :: .int x :: st))) := own_st (fun _ k => XS.isub X.here hx rfl hd rfl k) K
theorem s_imul (X : Stand p l e R s m args below meth c T locs cells slots) (hx : p.tables.exec = Jvm.exec) {x y : Int32} (hd : decode c.code pc = .ok (.imul, 1))  (K : own_Ok p e below Qx (T.setTop (mkF m (pc + 1) Ls (.int (x * y) :: st)))) : own_Ok p e below Qx (T.setTop (mkF m pc Ls (.int y :: .int x :: st))) := own_st (fun _ k => XS.imul X.here hx rfl hd rfl k) K
theorem s_iand (X : Stand p l e R s m args below meth c T locs cells slots) (hx : p.tables.exec = Jvm.exec) {x y : Int32} (hd : decode c.code pc = .ok (.iand, 1))  (K : own_Ok p e below Qx (T.setTop (mkF m (pc + 1) Ls (.int (x &&& y) :: st)))) : own_Ok p e below Qx (T.setTop (mkF m pc Ls (.int y :: .int x :: st))) := own_st (fun _ k => XS.iand X.here hx rfl hd rfl k) K
theorem s_ior (X : Stand p l e R s m args below meth c T locs cells slots) (hx : p.tables.exec = Jvm.exec) {x y : Int32} (hd : decode c.code pc = .ok (.ior, 1))  (K : own_Ok p e below Qx (T.setTop (mkF m (pc + 1) Ls (.int (x ||| y) :: st)))) : own_Ok p e below Qx (T.setTop (mkF m pc Ls (.int y :: .int x :: st))) := own_st (fun _ k => XS.ior X.here hx rfl hd rfl k) K
theorem s_ixor (X : Stand p l e R s m args below meth c T locs cells slots) (hx : p.tables.exec = Jvm.exec) {x y : Int32} (hd : decode c.code pc = .ok (.ixor, 1))  (K : own_Ok p e below Qx (T.setTop (mkF m (pc + 1) Ls (.int (x ^^^ y) :: st)))) : own_Ok p e below Qx (T.setTop (mkF m pc Ls (.int y :: .int x :: st))) := own_st (fun _ k => XS.ixor X.here hx rfl hd rfl k) K
theorem s_ishl (X : Stand p l e R s m args below meth c T locs cells slots) (hx : p.tables.exec = Jvm.exec) {x y : Int32} (hd : decode c.code pc = .ok (.ishl, 1))  (K : own_Ok p e below Qx (T.setTop (mkF m (pc + 1) Ls (.int (x <<< (y &&& 31)) :: st)))) : own_Ok p e below Qx (T.setTop (mkF m pc Ls (.int y :: .int x :: st))) := own_st (fun _ k => XS.ishl X.here hx rfl hd rfl k) K
theorem s_ishr (X : Stand p l e R s m args below meth c T locs cells slots) (hx : p.tables.exec = Jvm.exec) {x y : Int32} (hd : decode c.code pc = .ok (.ishr, 1))  (K : own_Ok p e below Qx (T.setTop (mkF m (pc + 1) Ls (.int (x >>> (y &&& 31)) :: st)))) : own_Ok p e below Qx (T.setTop (mkF m pc Ls (.int y :: .int x :: st))) := own_st (fun _ k => XS.ishr X.here hx rfl hd rfl k) K
theorem s_iushr (X : Stand p l e R s m args below meth c T locs cells slots) (hx : p.tables.exec = Jvm.exec) {x y : Int32} (hd : decode c.code pc = .ok (.iushr, 1))  (K : own_Ok p e below Qx (T.setTop (mkF m (pc + 1) Ls (.int ((x.toUInt32 >>> (y &&& 31).toUInt32).toInt32) :: st)))) : own_Ok p e below Qx (T.setTop (mkF m pc Ls (.int y :: .int x :: st))) := own_st (fun _ k => XS.iushr X.here hx rfl hd rfl k) K
theorem s_ladd (X : Stand p l e R s m args below meth c T locs cells slots) (hx : p.tables.exec = Jvm.exec) {x y : Int64} (hd : decode c.code pc = .ok (.ladd, 1))  (K : own_Ok p e below Qx (T.setTop (mkF m (pc + 1) Ls (.long (x + y) :: st)))) : own_Ok p e below Qx (T.setTop (mkF m pc Ls (.long y :: .long x :: st))) := own_st (fun _ k => XS.ladd X.here hx rfl hd rfl k) K
theorem s_lsub (X : Stand p l e R s m args below meth c T locs cells slots) (hx : p.tables.exec = Jvm.exec) {x y : Int64} (hd : decode c.code pc = .ok (.lsub, 1))  (K : own_Ok p e below Qx (T.setTop (mkF m (pc + 1) Ls (.long (x - y) :: st)))) : own_Ok p e below Qx (T.setTop (mkF m pc Ls (.long y :: .long x :: st))) := own_st (fun _ k => XS.lsub X.here hx rfl hd rfl k) K
theorem s_lmul (X : Stand p l e R s m args below meth c T locs cells slots) (hx : p.tables.exec = Jvm.exec) {x y : Int64} (hd : decode c.code pc = .ok (.lmul, 1))  (K : own_Ok p e below Qx (T.setTop (mkF m (pc + 1) Ls (.long (x * y) :: st)))) : own_Ok p e below Qx (T.setTop (mkF m pc Ls (.long y :: .long x :: st))) := own_st (fun _ k => XS.lmul X.here hx rfl hd rfl k) K
theorem s_land (X : Stand p l e R s m args below meth c T locs cells slots) (hx : p.tables.exec = Jvm.exec) {x y : Int64} (hd : decode c.code pc = .ok (.land, 1))  (K : own_Ok p e below Qx (T.setTop (mkF m (pc + 1) Ls (.long (x &&& y) :: st)))) : own_Ok p e below Qx (T.setTop (mkF m pc Ls (.long y :: .long x :: st))) := own_st (fun _ k => XS.land X.here hx rfl hd rfl k) K
theorem s_lor (X : Stand p l e R s m args below meth c T locs cells slots) (hx : p.tables.exec = Jvm.exec) {x y : Int64} (hd : decode c.code pc = .ok (.lor, 1))  (K : own_Ok p e below Qx (T.setTop (mkF m (pc + 1) Ls (.long (x ||| y) :: st)))) : own_Ok p e below Qx (T.setTop (mkF m pc Ls (.long y :: .long x :: st))) := own_st (fun _ k => XS.lor X.here hx rfl hd rfl k) K
theorem s_lxor (X : Stand p l e R s m args below meth c T locs cells slots) (hx : p.tables.exec = Jvm.exec) {x y : Int64} (hd : decode c.code pc = .ok (.lxor, 1))  (K : own_Ok p e below Qx (T.setTop (mkF m (pc + 1) Ls (.long (x ^^^ y) :: st)))) : own_Ok p e below Qx (T.setTop (mkF m pc Ls (.long y :: .long x :: st))) := own_st (fun _ k => XS.lxor X.here hx rfl hd rfl k) K
theorem s_lshl (X : Stand p l e R s m args below meth c T locs cells slots) (hx : p.tables.exec = Jvm.exec) {x : Int64} {y : Int32} (hd : decode c.code pc = .ok (.lshl, 1))  (K : own_Ok p e below Qx (T.setTop (mkF m (pc + 1) Ls (.long (x <<< (y &&& 0x3f).toInt64) :: st)))) : own_Ok p e below Qx (T.setTop (mkF m pc Ls (.int y :: .long x :: st))) := own_st (fun _ k => XS.lshl X.here hx rfl hd rfl k) K
theorem s_lshr (X : Stand p l e R s m args below meth c T locs cells slots) (hx : p.tables.exec = Jvm.exec) {x : Int64} {y : Int32} (hd : decode c.code pc = .ok (.lshr, 1))  (K : own_Ok p e below Qx (T.setTop (mkF m (pc + 1) Ls (.long (x >>> (y &&& 0x3f).toInt64) :: st)))) : own_Ok p e below Qx (T.setTop (mkF m pc Ls (.int y :: .long x :: st))) := own_st (fun _ k => XS.lshr X.here hx rfl hd rfl k) K
theorem s_lushr (X : Stand p l e R s m args below meth c T locs cells slots) (hx : p.tables.exec = Jvm.exec) {x : Int64} {y : Int32} (hd : decode c.code pc = .ok (.lushr, 1))  (K : own_Ok p e below Qx (T.setTop (mkF m (pc + 1) Ls (.long ((x.toUInt64 >>> (y &&& 0x3f).toInt64.toUInt64).toInt64) :: st)))) : own_Ok p e below Qx (T.setTop (mkF m pc Ls (.int y :: .long x :: st))) := own_st (fun _ k => XS.lushr X.here hx rfl hd rfl k) K
theorem s_idiv (X : Stand p l e R s m args below meth c T locs cells slots) (hx : p.tables.exec = Jvm.exec) {x y : Int32} (hd : decode c.code pc = .ok (.idiv, 1)) (hy : y ≠ 0) (K : own_Ok p e below Qx (T.setTop (mkF m (pc + 1) Ls (.int (x / y) :: st)))) : own_Ok p e below Qx (T.setTop (mkF m pc Ls (.int y :: .int x :: st))) := own_st (fun _ k => XS.idiv X.here hx rfl hd rfl hy k) K
theorem s_ldiv (X : Stand p l e R s m args below meth c T locs cells slots) (hx : p.tables.exec = Jvm.exec) {x y : Int64} (hd : decode c.code pc = .ok (.ldiv, 1)) (hy : y ≠ 0) (K : own_Ok p e below Qx (T.setTop (mkF m (pc + 1) Ls (.long (x / y) :: st)))) : own_Ok p e below Qx (T.setTop (mkF m pc Ls (.long y :: .long x :: st))) := own_st (fun _ k => XS.ldiv X.here hx rfl hd rfl hy k) K
theorem s_lrem (X : Stand p l e R s m args below meth c T locs cells slots) (hx : p.tables.exec = Jvm.exec) {x y : Int64} (hd : decode c.code pc = .ok (.lrem, 1)) (hy : y ≠ 0) (K : own_Ok p e below Qx (T.setTop (mkF m (pc + 1) Ls (.long (x - (x / y) * y) :: st)))) : own_Ok p e below Qx (T.setTop (mkF m pc Ls (.long y :: .long x :: st))) := own_st (fun _ k => XS.lrem X.here hx rfl hd rfl hy k) K
theorem s_irem (X : Stand p l e R s m args below meth c T locs cells slots) (hx : p.tables.exec = Jvm.exec) {x y : Int32} (hd : decode c.code pc = .ok (.irem, 1)) (hy : y ≠ 0) (K : own_Ok p e below Qx (T.setTop (mkF m (pc + 1) Ls (.int (x % y) :: st)))) : own_Ok p e below Qx (T.setTop (mkF m pc Ls (.int y :: .int x :: st))) := own_st (fun _ k => iremM X hx rfl hd rfl hy k) K
theorem s_ineg (X : Stand p l e R s m args below meth c T locs cells slots) (hx : p.tables.exec = Jvm.exec) {v : Int32} (hd : decode c.code pc = .ok (.ineg, 1))  (K : own_Ok p e below Qx (T.setTop (mkF m (pc + 1) Ls (.int (-v) :: st)))) : own_Ok p e below Qx (T.setTop (mkF m pc Ls (.int v :: st))) := own_st (fun _ k => XS.ineg X.here hx rfl hd rfl k) K
theorem s_lneg (X : Stand p l e R s m args below meth c T locs cells slots) (hx : p.tables.exec = Jvm.exec) {v : Int64} (hd : decode c.code pc = .ok (.lneg, 1))  (K : own_Ok p e below Qx (T.setTop (mkF m (pc + 1) Ls (.long (-v) :: st)))) : own_Ok p e below Qx (T.setTop (mkF m pc Ls (.long v :: st))) := own_st (fun _ k => XS.lneg X.here hx rfl hd rfl k) K
theorem s_i2l (X : Stand p l e R s m args below meth c T locs cells slots) (hx : p.tables.exec = Jvm.exec) {v : Int32} (hd : decode c.code pc = .ok (.i2l, 1))  (K : own_Ok p e below Qx (T.setTop (mkF m (pc + 1) Ls (.long (v.toInt64) :: st)))) : own_Ok p e below Qx (T.setTop (mkF m pc Ls (.int v :: st))) := own_st (fun _ k => XS.i2l X.here hx rfl hd rfl k) K
theorem s_l2i (X : Stand p l e R s m args below meth c T locs cells slots) (hx : p.tables.exec = Jvm.exec) {v : Int64} (hd : decode c.code pc = .ok (.l2i, 1))  (K : own_Ok p e below Qx (T.setTop (mkF m (pc + 1) Ls (.int (v.toInt32) :: st)))) : own_Ok p e below Qx (T.setTop (mkF m pc Ls (.long v :: st))) := own_st (fun _ k => XS.l2i X.here hx rfl hd rfl k) K
theorem s_i2b (X : Stand p l e R s m args below meth c T locs cells slots) (hx : p.tables.exec = Jvm.exec) {v : Int32} (hd : decode c.code pc = .ok (.i2b, 1))  (K : own_Ok p e below Qx (T.setTop (mkF m (pc + 1) Ls (.int (v.toInt8.toInt32) :: st)))) : own_Ok p e below Qx (T.setTop (mkF m pc Ls (.int v :: st))) := own_st (fun _ k => XS.i2b X.here hx rfl hd rfl k) K
theorem s_i2s (X : Stand p l e R s m args below meth c T locs cells slots) (hx : p.tables.exec = Jvm.exec) {v : Int32} (hd : decode c.code pc = .ok (.i2s, 1))  (K : own_Ok p e below Qx (T.setTop (mkF m (pc + 1) Ls (.int (v.toInt16.toInt32) :: st)))) : own_Ok p e below Qx (T.setTop (mkF m pc Ls (.int v :: st))) := own_st (fun _ k => XS.i2s X.here hx rfl hd rfl k) K
theorem s_i2c (X : Stand p l e R s m args below meth c T locs cells slots) (hx : p.tables.exec = Jvm.exec) {v : Int32} (hd : decode c.code pc = .ok (.i2c, 1))  (K : own_Ok p e below Qx (T.setTop (mkF m (pc + 1) Ls (.int (v.toUInt32.toUInt16.toUInt32.toInt32) :: st)))) : own_Ok p e below Qx (T.setTop (mkF m pc Ls (.int v :: st))) := own_st (fun _ k => XS.i2c X.here hx rfl hd rfl k) K
theorem s_lcmp (X : Stand p l e R s m args below meth c T locs cells slots) (hx : p.tables.exec = Jvm.exec) {x y : Int64} (hd : decode c.code pc = .ok (.lcmp, 1))  (K : own_Ok p e below Qx (T.setTop (mkF m (pc + 1) Ls (.int (XT.cmpL x y) :: st)))) : own_Ok p e below Qx (T.setTop (mkF m pc Ls (.long y :: .long x :: st))) := own_st (fun _ k => XT.lcmp X.here hx rfl hd rfl k) K
theorem s_dup (X : Stand p l e R s m args below meth c T locs cells slots) (hx : p.tables.exec = Jvm.exec) {x : Value} (hd : decode c.code pc = .ok (.dup, 1)) (hc : x.category = 1) (K : own_Ok p e below Qx (T.setTop (mkF m (pc + 1) Ls (x :: x :: st)))) : own_Ok p e below Qx (T.setTop (mkF m pc Ls (x :: st))) := own_st (fun _ k => XS.dup X.here hx rfl hd rfl hc k) K
theorem s_pop (X : Stand p l e R s m args below meth c T locs cells slots) (hx : p.tables.exec = Jvm.exec) {x : Value} (hd : decode c.code pc = .ok (.pop, 1)) (hc : x.category = 1) (K : own_Ok p e below Qx (T.setTop (mkF m (pc + 1) Ls (st)))) : own_Ok p e below Qx (T.setTop (mkF m pc Ls (x :: st))) := own_st (fun _ k => XS.pop X.here hx rfl hd rfl hc k) K
theorem s_dupX1 (X : Stand p l e R s m args below meth c T locs cells slots) (hx : p.tables.exec = Jvm.exec) {x y : Value} (hd : decode c.code pc = .ok (.dup_x1, 1)) (hc : x.category = 1) (hc' : y.category = 1) (K : own_Ok p e below Qx (T.setTop (mkF m (pc + 1) Ls (x :: y :: x :: st)))) : own_Ok p e below Qx (T.setTop (mkF m pc Ls (x :: y :: st))) := own_st (fun _ k => XS.dupX1 X.here hx rfl hd rfl hc hc' k) K
theorem s_dup2 (X : Stand p l e R s m args below meth c T locs cells slots) (hx : p.tables.exec = Jvm.exec) {x y : Value} (hd : decode c.code pc = .ok (.dup2, 1)) (hc : x.category = 1) (hc' : y.category = 1) (K : own_Ok p e below Qx (T.setTop (mkF m (pc + 1) Ls (x :: y :: x :: y :: st)))) : own_Ok p e below Qx (T.setTop (mkF m pc Ls (x :: y :: st))) := own_st (fun _ k => XT.dup2 X.here hx rfl hd rfl hc hc' k) K
theorem s_dup2L (X : Stand p l e R s m args below meth c T locs cells slots) (hx : p.tables.exec = Jvm.exec) {x : Int64} (hd : decode c.code pc = .ok (.dup2, 1))  (K : own_Ok p e below Qx (T.setTop (mkF m (pc + 1) Ls (.long x :: .long x :: st)))) : own_Ok p e below Qx (T.setTop (mkF m pc Ls (.long x :: st))) := own_st (fun _ k => XT.dup2L X.here hx rfl hd rfl k) K
theorem s_iinc (X : Stand p l e R s m args below meth c T locs cells slots) (hx : p.tables.exec = Jvm.exec) {k : Nat} {cst : Int} {x : Int32} (v : Int32) (hd : decode c.code pc = .ok (.iinc k cst, 3)) (hv : Int32.ofInt cst = v) (hl : Ls[k]? = some (.val (.int x))) (l' : Array Slot) (hl' : storeLocals Ls k (.int (x + v)) = some l') (K : own_Ok p e below Qx (T.setTop (mkF m (pc + 3) l' st))) : own_Ok p e below Qx (T.setTop (mkF m pc Ls st)) := own_st (fun _ k => XS.iinc X.here hx rfl hd hl (by rw [hv]; exact hl') k) K
theorem s_goto (X : Stand p l e R s m args below meth c T locs cells slots) (hx : p.tables.exec = Jvm.exec) {o : Int} (pc' : Nat) (hd : decode c.code pc = .ok (.goto o, 3)) (ho : 0 ≤ (pc : Int) + o) (hp : ((pc : Int) + o).toNat = pc') (K : own_Ok p e below Qx (T.setTop (mkF m pc' Ls st))) : own_Ok p e below Qx (T.setTop (mkF m pc Ls st)) := own_st (fun _ k => XS.goto X.here hx rfl rfl hd ho hp k) K
theorem s_ifYes (X : Stand p l e R s m args below meth c T locs cells slots) (hx : p.tables.exec = Jvm.exec) {cd : ClassFile.Cond} {x : Int32} {o : Int} (pc' : Nat) (hd : decode c.code pc = .ok ((.ifCond cd o), 3)) (hc : ifCond.holds cd x = true) (ho : 0 ≤ (pc : Int) + o) (hp : ((pc : Int) + o).toNat = pc') (K : own_Ok p e below Qx (T.setTop (mkF m pc' Ls st))) : own_Ok p e below Qx (T.setTop (mkF m pc Ls (.int x :: st))) := own_st (fun _ k => XS.ifYes X.here hx rfl rfl hd rfl hc ho hp k) K
theorem s_ifNo (X : Stand p l e R s m args below meth c T locs cells slots) (hx : p.tables.exec = Jvm.exec) {cd : ClassFile.Cond} {x : Int32} {o : Int} (hd : decode c.code pc = .ok ((.ifCond cd o), 3)) (hc : ifCond.holds cd x = false) (K : own_Ok p e below Qx (T.setTop (mkF m (pc + 3) Ls st))) : own_Ok p e below Qx (T.setTop (mkF m pc Ls (.int x :: st))) := own_st (fun _ k => XS.ifNo X.here hx rfl hd rfl hc k) K
theorem s_icmpYes (X : Stand p l e R s m args below meth c T locs cells slots) (hx : p.tables.exec = Jvm.exec) {cd : ClassFile.Cond} {x y : Int32} {o : Int} (pc' : Nat) (hd : decode c.code pc = .ok ((.if_icmp cd o), 3)) (hc : if_icmp.holds cd x y = true) (ho : 0 ≤ (pc : Int) + o) (hp : ((pc : Int) + o).toNat = pc') (K : own_Ok p e below Qx (T.setTop (mkF m pc' Ls st))) : own_Ok p e below Qx (T.setTop (mkF m pc Ls (.int y :: .int x :: st))) := own_st (fun _ k => XS.icmpYes X.here hx rfl rfl hd rfl hc ho hp k) K
theorem s_icmpNo (X : Stand p l e R s m args below meth c T locs cells slots) (hx : p.tables.exec = Jvm.exec) {cd : ClassFile.Cond} {x y : Int32} {o : Int} (hd : decode c.code pc = .ok ((.if_icmp cd o), 3)) (hc : if_icmp.holds cd x y = false) (K : own_Ok p e below Qx (T.setTop (mkF m (pc + 3) Ls st))) : own_Ok p e below Qx (T.setTop (mkF m pc Ls (.int y :: .int x :: st))) := own_st (fun _ k => XS.icmpNo X.here hx rfl hd rfl hc k) K
end OwnSteps
section OwnCalls
variable {p : Program} {l : Launch} {e : Env} {R : Room} {s : State} {m : MethodId} {args : Array Value} {below : List Frame} {meth : Method} {c : Code} {T : State} {locs : List Loc} {cells slots : Nat} {Z : State} {a0 : Array Value} {h : Heap} {own : String} {index : Nat} {y z : MethodName} {bytes : ByteArray} {maxL : Nat} {ret : Option FieldType} {rm : Room} {as' : Array Value} {Q : Option Value → Heap → List Loc → Prop} {pc : Nat} {Ls : Array Slot} {C : String} {a : Addr} {kI : Nat}
theorem own_callS (X : Stand p l e R s m args below meth c T locs cells slots) (hx : p.tables.exec = Jvm.exec) (hZ : Z.Warmed39 s.vm) (hown : s.vm.findClass own = some m.cls) (w1 : (Jvm.Cond.methodLink own index y).before a0 Z = true) (w2 : (Jvm.Cond.static y).before a0 Z = true) (w3 : (Jvm.Cond.initialized y.cls).before a0 Z = true) (w4 : (Jvm.Cond.code y bytes maxL ret).before a0 Z = true)
    (hM : own_Met l Z y bytes maxL ret [] rm as' h Q) (hy : y.cls ≠ "java/lang/invoke/MethodHandle" ∧ y.cls ≠ "java/lang/invoke/VarHandle") (eT : T.heap = h) (argsL rest : List Value) (has : argsL.toArray = as') (hsz : Ls.size = c.maxLocals) (hlen : ∀ sig, parseMethodDescriptor y.desc = some sig → argsL.length = sig.parameters.length)
    (hd : decode c.code pc = .ok (.invokestatic index, 3)) (hf : rm.frames + 1 ≤ R.frames) (W : Nat) (hW : (rest.map fun v => v.category).sum = W) (hl : W + (maxL + 11) + rm.locals ≤ R.locals) (hc : cells + rm.cells ≤ R.cells) (hs : slots + rm.slots ≤ R.slots) :
    ∃ v T' L, Stand p l e R s m args below meth c T' (locs ++ L) (cells + rm.cells) (slots + rm.slots) ∧ Q v T'.heap L ∧ ∀ Qx, own_Ok p e below Qx (T'.setTop (mkF m (pc + 3) Ls (v.toList ++ rest))) → own_Ok p e below Qx (T.setTop (mkF m pc Ls (argsL.reverse ++ rest))) := by
  obtain ⟨v, _, ⟨T', L', k', n'⟩, -, X', ⟨L, hQ, e1, e2, e3⟩, st⟩ := Jvm.LawKit.callS X hx (y := y) hown (mvT hZ w1) (mvT hZ w2) (mvT hZ w3) (mvT hZ w4) hy (backOf (W := W) hM hZ w4 w3 hf hl) (g := mkF m pc Ls (argsL.reverse ++ rest)) rfl hsz (argsL := argsL) (rest := rest) hlen rfl (by show 2 * 0 + _ ≤ _; omega) hd (fun _ _ => ⟨has, eT, hc, hs⟩)
  dsimp only [Pt.U, Pt.locs, Pt.cells, Pt.slots] at X' e1 e2 e3 st hQ
  subst e1 e2 e3
  exact ⟨v, T', L, X', hQ, fun Qx k => own_st st k⟩
theorem own_callN (X : Stand p l e R s m args below meth c T locs cells slots) (hx : p.tables.exec = Jvm.exec) (hZ : Z.Warmed39 s.vm) (hown : s.vm.findClass own = some m.cls) (w1 : (Jvm.Cond.methodLink own index y).before a0 Z = true) (w2 : (Jvm.Cond.instanceMethod y).before a0 Z = true) (w3 : (Jvm.Cond.initialized y.cls).before a0 Z = true) (w4 : (Jvm.Cond.code y bytes maxL none).before a0 Z = true)
    (hM : own_Met l Z y bytes maxL none [] rm as' h Q) (hy1 : y.name = "<init>") (hy : y.cls ≠ "java/lang/invoke/MethodHandle" ∧ y.cls ≠ "java/lang/invoke/VarHandle") (eT : T.heap = h) (a : Addr) (argsL rest : List Value) (has : (.ref a :: argsL).toArray = as') (hsz : Ls.size = c.maxLocals) (hlen : ∀ sig, parseMethodDescriptor y.desc = some sig → argsL.length = sig.parameters.length)
    (hd : decode c.code pc = .ok (.invokespecial index, 3)) (hf : rm.frames + 1 ≤ R.frames) (W : Nat) (hW : (rest.map fun v => v.category).sum = W) (hl : W + (maxL + 11) + rm.locals ≤ R.locals) (hc : cells + rm.cells ≤ R.cells) (hs : slots + rm.slots ≤ R.slots) :
    ∃ v T' L, Stand p l e R s m args below meth c T' (locs ++ L) (cells + rm.cells) (slots + rm.slots) ∧ Q v T'.heap L ∧ ∀ Qx, own_Ok p e below Qx (T'.setTop (mkF m (pc + 3) Ls (v.toList ++ rest))) → own_Ok p e below Qx (T.setTop (mkF m pc Ls (argsL.reverse ++ .ref a :: rest))) := by
  obtain ⟨v, _, ⟨T', L', k', n'⟩, -, X', ⟨L, hQ, e1, e2, e3⟩, st⟩ := X.specialBack hx (y := y) hy1 hown (mvT hZ w1) (mvT hZ w2) (mvT hZ w4) hy (backOf (W := W) hM hZ w4 w3 hf hl) (g := mkF m pc Ls (argsL.reverse ++ .ref a :: rest)) rfl hsz (Steps.refl _) (a := a) (argsL := argsL) (rest := rest) hlen rfl (by show 2 * 0 + _ ≤ _; omega) hd (fun _ _ => ⟨has, eT, hc, hs⟩)
  dsimp only [Pt.U, Pt.locs, Pt.cells, Pt.slots] at X' e1 e2 e3 st hQ
  subst e1 e2 e3
  exact ⟨v, T', L, X', hQ, fun Qx k => own_st (fun _ k => st.trans k) k⟩
theorem own_callV (X : Stand p l e R s m args below meth c T locs cells slots) (hx : p.tables.exec = Jvm.exec) (hZ : Z.Warmed39 s.vm) (hown : s.vm.findClass own = some m.cls) (w1 : (Jvm.Cond.methodLink own index y).before a0 Z = true) (w2 : (Jvm.Cond.declares y).before a0 Z = true) {D : String} (wf : (Jvm.Cond.selects D y y).before a0 Z = true) (ws : (Jvm.Cond.selects C y z).before a0 Z = true) (w5 : (Jvm.Cond.instanceMethod z).before a0 Z = true) (w3 : (Jvm.Cond.initialized z.cls).before a0 Z = true) (w4 : (Jvm.Cond.code z bytes maxL ret).before a0 Z = true)
    (hM : own_Met l Z z bytes maxL ret [] rm as' h Q) (hy : y.cls ≠ "java/lang/invoke/MethodHandle" ∧ y.cls ≠ "java/lang/invoke/VarHandle") (eT : T.heap = h) (E : Exa Z h a C) (argsL rest : List Value) (has : (.ref a :: argsL).toArray = as') (hsz : Ls.size = c.maxLocals) (hlen : ∀ sig, parseMethodDescriptor y.desc = some sig → argsL.length = sig.parameters.length)
    (hd : decode c.code pc = .ok (.invokevirtual index, 3)) (hf : rm.frames + 1 ≤ R.frames) (W : Nat) (hW : (rest.map fun v => v.category).sum = W) (hl : W + (maxL + 11) + rm.locals ≤ R.locals) (hc : cells + rm.cells ≤ R.cells) (hs : slots + rm.slots ≤ R.slots) :
    ∃ v T' L, Stand p l e R s m args below meth c T' (locs ++ L) (cells + rm.cells) (slots + rm.slots) ∧ Q v T'.heap L ∧ ∀ Qx, own_Ok p e below Qx (T'.setTop (mkF m (pc + 3) Ls (v.toList ++ rest))) → own_Ok p e below Qx (T.setTop (mkF m pc Ls (argsL.reverse ++ .ref a :: rest))) := by
  obtain ⟨cq, kq, qa, qb, qc⟩ := isOf hZ eT E
  obtain ⟨v, _, ⟨T', L', k', n'⟩, -, X', ⟨L, hQ, e1, e2, e3⟩, st⟩ := X.virtualBack hx (y := y) (z := z) hown (mvT hZ w1) (mvT hZ w2) (notFace_of_selects (args := #[]) (mvT hZ wf)) (mvT hZ ws) (mvT hZ w5) hy (backOf (W := W) hM hZ w4 w3 hf hl) qa qc (g := mkF m pc Ls (argsL.reverse ++ .ref a :: rest)) rfl hsz (Steps.refl _) (argsL := argsL) (rest := rest) hlen rfl (by show 2 * 0 + _ ≤ _; omega) hd (fun _ _ => ⟨has, eT, hc, hs⟩)
  dsimp only [Pt.U, Pt.locs, Pt.cells, Pt.slots] at X' e1 e2 e3 st hQ
  subst e1 e2 e3
  exact ⟨v, T', L, X', hQ, fun Qx k => own_st (fun _ k => st.trans k) k⟩
end OwnCalls
section OwnKitW
variable {p : Program} {l : Launch} {e : Env} {R : Room} {s : State} {m : MethodId} {args : Array Value} {below : List Frame} {meth : Method} {c : Code} {T : State} {locs : List Loc} {cells slots : Nat} {vm0 : Vm} {k0 : Nat}
def own_QxW (s : State) (Q : Option Value → Heap → List Loc → Prop) (kc ks : Nat) : Outcome → State → Prop := fun o s₂ => ∃ v L, o = .returned v ∧ Q v s₂.heap L ∧ ReturnedEndW s o s₂ L kc ks
theorem own_outW (X : Stand p l e R (s.setVm vm0) m args below meth c T locs cells slots) (hS : s.Since vm0 k0) (hk0 : k0 ≤ T.heap.size) (hlk : meth.locks = false) {Q : Option Value → Heap → List Loc → Prop} {kc ks : Nat} {g : JFrame} (v : Option Value) (hv : meth.sig.returnType = none → v = none)
    (hst : ∀ fs, (∀ (f : JFrame) (acts : List Action), f.method = m → f.locked = none → f.entered = [] → (doReturn e (T.setTop f) acts v).1 = T.setFrames fs) → Steps p.tables e below (T.setTop g) (T.setFrames fs))
    (hq : Q v T.heap locs) (hk : cells ≤ kc) (hn : slots ≤ ks) : own_Ok p e below (own_QxW s Q kc ks) (T.setTop g) := by
  obtain ⟨fs, hr, hrun, hended, hW, hsame⟩ := X.leave (v := v) hv hlk
  obtain ⟨w1, w2, w3⟩ := hS.ended (U := T.setFrames fs) hW hk0 hsame
  exact ⟨_, _, hst fs hr, hrun, hended, v, locs, rfl, hq, ⟨_, rfl⟩, w1, w2, w3.mono hk hn⟩
theorem own_retVW (X : Stand p l e R (s.setVm vm0) m args below meth c T locs cells slots) (hS : s.Since vm0 k0) (hk0 : k0 ≤ T.heap.size) (hx : p.tables.exec = Jvm.exec) (hlk : meth.locks = false) {Q : Option Value → Heap → List Loc → Prop} {kc ks : Nat} {pc : Nat} {Ls : Array Slot} (hret : meth.sig.returnType = none) (hd : decode c.code pc = .ok (.return_, 1))
    (hq : Q none T.heap locs) (hk : cells ≤ kc) (hn : slots ≤ ks) : own_Ok p e below (own_QxW s Q kc ks) (T.setTop (mkF m pc Ls [])) :=
  own_outW X hS hk0 hlk none (fun _ => rfl) (fun fs hr => X.returnOut hx hret hd hr) hq hk hn
theorem own_retIW (X : Stand p l e R (s.setVm vm0) m args below meth c T locs cells slots) (hS : s.Since vm0 k0) (hk0 : k0 ≤ T.heap.size) (hx : p.tables.exec = Jvm.exec) (hlk : meth.locks = false) {Q : Option Value → Heap → List Loc → Prop} {kc ks : Nat} {pc : Nat} {Ls : Array Slot} {z : Int32} {rest : List Value} (hret : meth.sig.returnType = some .int) (hd : decode c.code pc = .ok (.ireturn, 1))
    (hq : Q (some (.int z)) T.heap locs) (hk : cells ≤ kc) (hn : slots ≤ ks) : own_Ok p e below (own_QxW s Q kc ks) (T.setTop (mkF m pc Ls (.int z :: rest))) :=
  own_outW X hS hk0 hlk _ (fun h => by rw [hret] at h; cases h) (fun fs hr => retOut X hx (i := .ireturn) hret rfl (Or.inl ⟨rfl, Or.inl rfl, _, rfl⟩) hd hr) hq hk hn
theorem own_retNW (X : Stand p l e R (s.setVm vm0) m args below meth c T locs cells slots) (hS : s.Since vm0 k0) (hk0 : k0 ≤ T.heap.size) (hx : p.tables.exec = Jvm.exec) (hlk : meth.locks = false) {Q : Option Value → Heap → List Loc → Prop} {kc ks : Nat} {pc : Nat} {Ls : Array Slot} {z : Int32} {t : FieldType} {rest : List Value} (hret : meth.sig.returnType = some t) (ht : t = .boolean ∨ t = .byte ∨ t = .char ∨ t = .short) (hd : decode c.code pc = .ok (.ireturn, 1))
    (hq : Q (some (.int (nar t z))) T.heap locs) (hk : cells ≤ kc) (hn : slots ≤ ks) : own_Ok p e below (own_QxW s Q kc ks) (T.setTop (mkF m pc Ls (.int z :: rest))) :=
  own_outW X hS hk0 hlk _ (fun h => by rw [hret] at h; cases h) (fun fs hr => retN X hx hret ht hd hr) hq hk hn
theorem own_retAW (X : Stand p l e R (s.setVm vm0) m args below meth c T locs cells slots) (hS : s.Since vm0 k0) (hk0 : k0 ≤ T.heap.size) (hx : p.tables.exec = Jvm.exec) (hlk : meth.locks = false) {Q : Option Value → Heap → List Loc → Prop} {kc ks : Nat} {pc : Nat} {Ls : Array Slot} {w : Value} {t : FieldType} {rest : List Value} (hw : w.isRef = true) (hret : meth.sig.returnType = some t) (ht : t.isReference = true) (hd : decode c.code pc = .ok (.areturn, 1))
    (hq : Q (some w) T.heap locs) (hk : cells ≤ kc) (hn : slots ≤ ks) : own_Ok p e below (own_QxW s Q kc ks) (T.setTop (mkF m pc Ls (w :: rest))) :=
  own_outW X hS hk0 hlk _ (fun h => by rw [hret] at h; cases h) (fun fs hr => retOut X hx (i := .areturn) hret (own_narR hw ht) (Or.inr (Or.inr (Or.inr (Or.inr ⟨rfl, ht, hw⟩)))) hd hr) hq hk hn
abbrev own_MetW (l : Launch) (Z : State) (y : MethodName) (bytes : ByteArray) (maxl : Nat) (ret : Option FieldType) (ws : List Jvm.Cond) (rm : Room) (as' : Array Value) (h0 : Heap) (Q : Option Value → Heap → List Loc → Prop) : Prop :=
  MetFree l y (head1 (Jvm.Cond.code y bytes maxl ret :: ws) rm) (fun a U => a = as' ∧ Z.Warmed39 U.vm ∧ U.heap = h0) (fun _ _ _ _ _ => True) (fun _ U o U' => ∃ v L, o = .returned v ∧ Q v U'.heap L ∧ ReturnedEndW U o U' L rm.cells rm.slots)
abbrev own_MetI (l : Launch) (Z : State) (y : MethodName) (bytes : ByteArray) (maxl : Nat) (ret : Option FieldType) (ws : List Jvm.Cond) (rm : Room) (as' : Array Value) (h0 : Heap) (Q : Option Value → Heap → List Loc → Prop) (Ts : List String) : Prop :=
  MetFree l y (head1 (Jvm.Cond.code y bytes maxl ret :: ws) rm) (fun a U => a = as' ∧ Z.Warmed39 U.vm ∧ U.heap = h0 ∧ IB Z U.vm Ts) (fun _ _ _ _ _ => True) (fun _ U o U' => ∃ v L, o = .returned v ∧ Q v U'.heap L ∧ ReturnedEndW U o U' L rm.cells rm.slots)
theorem own_IBeq {Z : State} {Ts : List String} {U : State} (I : IB Z s.vm Ts) (hW : s.WarmedH U.vm) : IB Z U.vm Ts := by
  obtain ⟨more, q1, q2⟩ := I
  exact ⟨more, by rw [hW.interned_eq]; exact q1, q2⟩
theorem own_backOfS {Z : State} {a0 : Array Value} {h : Heap} {y : MethodName} {bytes : ByteArray} {maxL : Nat} {ret : Option FieldType} {rm : Room} {len W : Nat} {as' : Array Value} {Ts : List String} {Q : Option Value → Heap → List Loc → Prop}
    (hM : MetFree l y (head1 [Jvm.Cond.code y bytes maxL ret] rm) (fun a U => a = as' ∧ Z.Warmed39 U.vm ∧ U.heap = h ∧ IB Z U.vm Ts) (fun _ _ _ _ _ => True) (fun _ U o U' => ∃ v L, o = .returned v ∧ Q v U'.heap L ∧ ReturnedEndW U o U' L rm.cells rm.slots)) (I : IB Z s.vm Ts)
    (hZ : Z.Warmed39 s.vm) (wc : (Jvm.Cond.code y bytes maxL ret).before a0 Z = true) (wz : (Jvm.Cond.initialized y.cls).before a0 Z = true) (hf : rm.frames + 1 ≤ R.frames) (hl : W + (maxL + 11) + rm.locals ≤ R.locals) :
    BackS l R p e below s args y len W (fun A a => a = as' ∧ A.U.heap = h ∧ A.cells + rm.cells ≤ R.cells ∧ A.slots + rm.slots ≤ R.slots)
      (fun A _ v B => ∃ L, Q v B.U.heap L ∧ B.locs = A.locs ++ L ∧ B.cells = A.cells + rm.cells ∧ B.slots = A.slots + rm.slots) :=
  BackS.of_freeW (bytes := bytes) (maxL := maxL) (ret := ret) (E := fun _ _ o t L k n => k = rm.cells ∧ n = rm.slots ∧ ∃ v, o = .returned v ∧ Q v t.heap L) hM hf hl
    (fun m meth c A a Y hp => have hU : Z.Warmed39 A.U.vm := wtrans hZ Y.warmed
      ⟨by show (Jvm.Cond.and _ .tt).before a A.U = true; rw [Cond.before_and, mv hU wc]; rfl, mv hU wc, mv hU wz, hp.2.2.1, hp.2.2.2⟩)
    (fun m meth c A a g mk Y hp => ⟨hp.1, wtrans hZ Y.warmed, hp.2.1, own_IBeq (U := A.U) I Y.warmed⟩) (fun _ _ _ _ _ _ _ _ _ => trivial)
    (fun _ _ _ _ ⟨v, L, h1, h2, h3⟩ => ⟨L, _, _, h3, rfl, rfl, v, h1, h2⟩)
    (fun m meth c A a g mk v t L k n Y hp _ _ ⟨e1, e2, v', e3, e4⟩ => by cases e3; subst e1 e2; exact ⟨L, e4, rfl, rfl, rfl⟩)
end OwnKitW
def own_St (Z : State) (G1 : Int32) (G3 : Value) : Prop := Sta Z Z.heap "java/lang/String" "COMPACT_STRINGS" "Z" (.int G1) ∧ ¬ (G1 = (0 : Int32)) ∧ Sta Z Z.heap "jdk/internal/util/Preconditions" "SIOOBE_FORMATTER" "Ljava/util/function/BiFunction;" G3 ∧ G3.isRef = true ∧ Sta Z Z.heap "java/lang/StringUTF16" "$assertionsDisabled" "Z" (.int (1 : Int32)) ∧ Sta Z Z.heap "java/lang/StringUTF16" "HI_BYTE_SHIFT" "I" (.int (0 : Int32)) ∧ Sta Z Z.heap "java/lang/StringUTF16" "LO_BYTE_SHIFT" "I" (.int (8 : Int32))
theorem own_len31 {s : State} {args : Array Value} {t : Term} {v : Value} {x : Addr} {cl : Cell} (ht : t.eval args s none [] s = some (.ref x)) (ha : s.arrayAt? x = some cl) (h : (Term.length t).eval args s none [] s = some v) : cl.slots.size < 2 ^ 31 := by
  by_cases hl : cl.slots.size < 2 ^ 31
  · exact hl
  · simp [Term.eval, ht, ha, hl] at h
/-- a comparison with an int that holds: the other side is that int -/
theorem own_eqInt {s : State} {args : Array Value} {t : Term} {b : Int32} (h : (Jvm.Cond.eq t (.int b)).value args s none s [] = some true) : t.eval args s none [] s = some (.int b) := by
  obtain ⟨x, y, ha, hb, hk, -⟩ := cmp_v (Or.inl h)
  have hy : y = .int b := by
    have q := Term.int_eval (args := args) (first := s) (o := none) (idx := []) (s := s) b
    rw [hb] at q; exact Option.some.inj q
  subst hy
  cases x <;> simp only [Kin] at hk
  · rename_i z
    have q := gotT (Cond.eq_ints ha hb) h
    rw [q] at ha
    exact ha
  all_goals (first | (obtain ⟨w, hw⟩ := hk; cases hw; done) | (obtain ⟨-, hw⟩ := hk; cases hw; done))
theorem own_eqRef {s : State} {args : Array Value} {t u : Term} {a : Addr} (h : (Jvm.Cond.eq t u).value args s none s [] = some true) (hu : u.eval args s none [] s = some (.ref a)) : t.eval args s none [] s = some (.ref a) := by
  obtain ⟨x, y, ha, hb, hk, -⟩ := cmp_v (Or.inl h)
  cases hu.symm.trans hb
  cases x <;> simp only [Kin] at hk
  all_goals (first | (obtain ⟨w, hw⟩ := hk; cases hw; done) | skip)
  all_goals (have q := gotT (eq_R ha hb (by first | rfl | exact hk.1) rfl) h; rw [ha, q])
theorem own_lenAt {s : State} {args : Array Value} {t : Term} {x : Addr} {cl : Cell} {n : Int32} (ht : t.eval args s none [] s = some (.ref x)) (ha : s.arrayAt? x = some cl) (h : (Jvm.Cond.eq (.length t) (.int n)).value args s none s [] = some true) : cl.slots.size < 2 ^ 31 ∧ cl.slots.size.toInt32 = n := by
  have hl : cl.slots.size < 2 ^ 31 := by
    obtain ⟨x, y, ha', -⟩ := cmp_v (Or.inl h)
    exact own_len31 ht ha ha'
  exact ⟨hl, gotT (Cond.eq_ints (len_f ht ha hl) (Term.int_eval n)) h⟩
theorem own_elemAt {s : State} {args : Array Value} {t : Term} {x : Addr} {cl : Cell} {j b : Int32} (ht : t.eval args s none [] s = some (.ref x)) (hc : s.heap[x]? = some cl) (h : (Jvm.Cond.eq (.elem t (.int j)) (.int b)).value args s none s [] = some true) : cl.slots[j.toNatClampNeg]? = some (.int b) :=
  (elem_in (own_eqInt h) ht (Term.int_eval j) hc).2
theorem own_elemRef {s : State} {args : Array Value} {t u : Term} {x a : Addr} {cl : Cell} {j : Int32} (ht : t.eval args s none [] s = some (.ref x)) (hc : s.heap[x]? = some cl) (h : (Jvm.Cond.eq (.elem t (.int j)) u).value args s none s [] = some true) (hu : u.eval args s none [] s = some (.ref a)) : cl.slots[j.toNatClampNeg]? = some (.ref a) :=
  (elem_in (own_eqRef h hu) ht (Term.int_eval j) hc).2
/-- a String of the start, by the words on its coder and its bytes' array: all but the bytes -/
theorem own_strStart {s : State} {args : Array Value} {t : Term} {a : Addr} {n : Int32} (ev : t.eval args s none [] s = some (.ref a)) (h1 : (Jvm.Cond.exactly t "java/lang/String").value args s none s [] = some true) (h2 : (Jvm.Cond.eq (.field t "java/lang/String" "coder" "B") (.int (0 : Int32))).value args s none s [] = some true)
    (h3 : (Jvm.Cond.arrayOf (.field t "java/lang/String" "value" "[B") .byte).value args s none s [] = some true) (h4 : (Jvm.Cond.eq (.length (.field t "java/lang/String" "value" "[B")) (.int n)).value args s none s [] = some true) :
    Exa s s.heap a "java/lang/String" ∧ Fld s s.heap a "java/lang/String" "coder" "B" (.int (0 : Int32)) ∧ ∃ (v : Addr) (cl : Cell), (Term.field t "java/lang/String" "value" "[B").eval args s none [] s = some (.ref v) ∧ Fld s s.heap a "java/lang/String" "value" "[B" (.ref v) ∧ Arr s s.heap v cl .byte ∧ cl.slots.size < 2 ^ 31 ∧ cl.slots.size.toInt32 = n := by
  have ec := own_eqInt h2
  rw [fld_at ev] at ec
  obtain ⟨v, e3⟩ := arr_v h3
  obtain ⟨cl, A⟩ := Arr.start e3 h3
  have e3' := e3
  rw [fld_at ev] at e3'
  obtain ⟨hl, hz⟩ := own_lenAt e3 (A.fin (Vm.Alike.refl _)) h4
  exact ⟨Exa.start ev h1, Fld.start ec, v, cl, e3, Fld.start e3', A, hl, hz⟩
def own_ok (c : Int32) : Int32 := if (¬ c < (32 : Int32) ∧ ¬ (126 : Int32) < c) ∨ (¬ c < (128 : Int32) ∧ ¬ (255 : Int32) < c) then 1 else 0
def own_all : List Int32 → Int32
  | [] => 1
  | c :: cs => if own_ok c = 1 then own_all cs else 0
theorem own_all_yes {c : Int32} {cs : List Int32} (h : own_ok c = 1) : own_all (c :: cs) = own_all cs := if_pos h
theorem own_all_no {c : Int32} {cs : List Int32} (h : own_ok c = 0) : own_all (c :: cs) = 0 := if_neg (by rw [h]; decide)
theorem own_all_nil : own_all [] = 1 := rfl
theorem own_ok_01 (c : Int32) : own_ok c = 0 ∨ own_ok c = 1 := by
  unfold own_ok
  split
  · exact Or.inr rfl
  · exact Or.inl rfl
theorem own_ok_ne {c : Int32} (h : ¬ own_ok c = 0) : own_ok c = 1 := (own_ok_01 c).elim (fun q => absurd q h) id
theorem own_all1 (c : Int32) : own_all [c] = own_ok c := by
  rcases own_ok_01 c with h | h
  · rw [own_all_no h, h]
  · rw [own_all_yes h, h]; rfl
theorem own_e32 : (32 : Int32).toInt = 32 ∧ (126 : Int32).toInt = 126 ∧ (127 : Int32).toInt = 127 ∧ (128 : Int32).toInt = 128 ∧ (255 : Int32).toInt = 255 ∧ (0 : Int32).toInt = 0 ∧ (65535 : Int32).toInt = 65535 := by decide
theorem own_ok_lt {c : Int32} (h : c < (32 : Int32)) : own_ok c = 0 := by
  obtain ⟨e1, e2, e3, e4, e5, -⟩ := own_e32
  unfold own_ok
  rw [if_neg]
  simp only [Int32.lt_iff_toInt_lt, e1, e2, e4, e5] at h ⊢
  omega
theorem own_ok_127 {c : Int32} (h : c = (127 : Int32)) : own_ok c = 0 := by rw [h]; decide
theorem own_ok_gt {c : Int32} (h : (255 : Int32) < c) : own_ok c = 0 := by
  obtain ⟨e1, e2, e3, e4, e5, -⟩ := own_e32
  unfold own_ok
  rw [if_neg]
  simp only [Int32.lt_iff_toInt_lt, e1, e2, e4, e5] at h ⊢
  omega
theorem own_ok_in {c : Int32} (h1 : ¬ c < (32 : Int32)) (h2 : ¬ c = (127 : Int32)) (h3 : ¬ (255 : Int32) < c) : own_ok c = 1 := by
  obtain ⟨e1, e2, e3, e4, e5, -⟩ := own_e32
  unfold own_ok
  rw [if_pos]
  have h2' : ¬ c.toInt = 127 := fun q => h2 (Int32.toInt_inj.mp (q.trans e3.symm))
  simp only [Int32.lt_iff_toInt_lt, e1, e2, e4, e5] at h1 h3 ⊢
  omega
theorem own_ok_a {c : Int32} (h1 : ¬ c < (32 : Int32)) (h2 : ¬ (126 : Int32) < c) : own_ok c = 1 := if_pos (Or.inl ⟨h1, h2⟩)
theorem own_ok_b {c : Int32} (h1 : ¬ c < (128 : Int32)) (h2 : ¬ (255 : Int32) < c) : own_ok c = 1 := if_pos (Or.inr ⟨h1, h2⟩)
theorem own_ok_c {c : Int32} (h1 : (126 : Int32) < c) (h2 : c < (128 : Int32)) : own_ok c = 0 := if_neg fun q => q.elim (fun r => r.2 h1) (fun r => r.1 h2)
theorem own_ncr (x : Int32) : ¬ nar .char x < 0 ∧ ¬ (65535 : Int32) < nar .char x := by
  obtain ⟨-, h2, h3⟩ := c_i2c x
  obtain ⟨-, -, -, -, -, e0, e6⟩ := own_e32
  simp only [Int32.lt_iff_toInt_lt, e0, e6]
  show ¬ (x.toUInt32.toUInt16.toUInt32.toInt32).toInt < 0 ∧ ¬ 65535 < (x.toUInt32.toUInt16.toUInt32.toInt32).toInt
  omega
theorem own_narc {x : Int32} (h0 : ¬ x < 0) (h1 : ¬ (65535 : Int32) < x) : nar .char x = x := by
  obtain ⟨q1, q2, q3⟩ := c_i2c x
  obtain ⟨-, -, -, -, -, e0, e6⟩ := own_e32
  apply Int32.toInt_inj.mp
  simp only [Int32.lt_iff_toInt_lt, e0, e6] at h0 h1
  show (x.toUInt32.toUInt16.toUInt32.toInt32).toInt = x.toInt
  omega
theorem own_sh0 (c : Int32) : c >>> ((0 : Int32) &&& 31) = c := by
  apply Int32.toInt_inj.mp
  rw [c_ishr c 0 0 rfl]
  simp
theorem own_plo (c : Int32) : nar .byte (c >>> ((0 : Int32) &&& 31)).toInt8.toInt32 = StrChars.lo8 c := by
  rw [own_sh0]
  show (c.toInt8.toInt32).toInt8.toInt32 = c.toInt8.toInt32
  simp
theorem own_phi (c : Int32) : nar .byte (c >>> ((8 : Int32) &&& 31)).toInt8.toInt32 = StrChars.hi8 c := by
  show ((c >>> ((8 : Int32) &&& 31)).toInt8.toInt32).toInt8.toInt32 = (c >>> ((8 : Int32) &&& 31)).toInt8.toInt32
  simp
theorem own_join {c : Int32} (h0 : ¬ c < 0) (h1 : ¬ (65535 : Int32) < c) : ((((StrChars.lo8 c) &&& (255 : Int32)) <<< ((0 : Int32) &&& 31)) ||| (((StrChars.hi8 c) &&& (255 : Int32)) <<< ((8 : Int32) &&& 31))).toUInt32.toUInt16.toUInt32.toInt32 = c := by
  obtain ⟨-, -, -, -, -, e0, e6⟩ := own_e32
  simp only [Int32.lt_iff_toInt_lt, e0, e6] at h0 h1
  have a1 : ((StrChars.lo8 c) &&& (255 : Int32)).toInt = (StrChars.lo8 c).toInt % 256 := c_mask (StrChars.lo8 c) 255 8 (by decide) rfl
  have a2 : ((StrChars.lo8 c).toInt - c.toInt) % 256 = 0 := (c_i2b c).1
  have b1 : ((StrChars.hi8 c) &&& (255 : Int32)).toInt = (StrChars.hi8 c).toInt % 256 := c_mask (StrChars.hi8 c) 255 8 (by decide) rfl
  have b2 : ((StrChars.hi8 c).toInt - (c >>> ((8 : Int32) &&& 31)).toInt) % 256 = 0 := (c_i2b (c >>> ((8 : Int32) &&& 31))).1
  have b3 : (c >>> ((8 : Int32) &&& 31)).toInt = c.toInt / 256 := c_ishr c 8 8 rfl
  generalize hA : (StrChars.lo8 c) &&& (255 : Int32) = A at *
  generalize hB : (StrChars.hi8 c) &&& (255 : Int32) = B at *
  have s1 : ((A <<< ((0 : Int32) &&& 31)).toInt - A.toInt * 1) % 4294967296 = 0 := c_ishl A 0 0 rfl
  have s2 : ((B <<< ((8 : Int32) &&& 31)).toInt - B.toInt * 256) % 4294967296 = 0 := c_ishl B 8 8 rfl
  have r1 := Int32.toInt_lt (A <<< ((0 : Int32) &&& 31))
  have r2 := Int32.le_toInt (A <<< ((0 : Int32) &&& 31))
  have r3 := Int32.toInt_lt (B <<< ((8 : Int32) &&& 31))
  have r4 := Int32.le_toInt (B <<< ((8 : Int32) &&& 31))
  generalize hA' : A <<< ((0 : Int32) &&& 31) = A' at *
  generalize hB' : B <<< ((8 : Int32) &&& 31) = B' at *
  have o := c_or' A' B' 8 (by decide) 256 rfl (by omega) (by omega) (by omega)
  have r5 := Int32.toInt_lt (A' ||| B')
  have r6 := Int32.le_toInt (A' ||| B')
  generalize hO : A' ||| B' = O at *
  obtain ⟨q1, q2, q3⟩ := c_i2c O
  apply Int32.toInt_inj.mp
  omega
theorem own_and3 (x : Int32) (h0 : ¬ (x &&& (3 : Int32)) = (0 : Int32)) (h1 : ¬ (x &&& (3 : Int32)) = (1 : Int32)) (h2 : ¬ (x &&& (3 : Int32)) = (2 : Int32)) : (x &&& (3 : Int32)) = (3 : Int32) := by
  have q : (x &&& (3 : Int32)).toInt = x.toInt % 4 := c_mask x 3 2 (by decide) rfl
  have n0 : ¬ (x &&& (3 : Int32)).toInt = 0 := fun r => h0 (Int32.toInt_inj.mp r)
  have n1 : ¬ (x &&& (3 : Int32)).toInt = 1 := fun r => h1 (Int32.toInt_inj.mp r)
  have n2 : ¬ (x &&& (3 : Int32)).toInt = 2 := fun r => h2 (Int32.toInt_inj.mp r)
  apply Int32.toInt_inj.mp
  show _ = (3 : Int)
  omega
theorem own_staEq {s : State} {args : Array Value} {C n d : String} {k : Int32} (h : (Jvm.Cond.eq (.static C n d) (.int k)).before args s = true) (hi : (Jvm.Cond.initializedFor C n d).before args s = true ∨ ((Jvm.Cond.initialized C).before args s = true ∧ (Jvm.Cond.laysStatic C n d).before args s = true)) : Sta s s.heap C n d (.int k) :=
  Sta.start (own_eqInt (Cond.before_iff.mp h)) hi
theorem own_up {cs : List Int32} (h : ∀ c ∈ cs, ¬ c < 0 ∧ ¬ (255 : Int32) < c) : ∀ c ∈ cs, ¬ c < 0 ∧ ¬ (65535 : Int32) < c := fun c hc => ⟨(h c hc).1, fun q => (h c hc).2 (by
  obtain ⟨-, -, -, -, e5, e0, e6⟩ := own_e32
  simp only [Int32.lt_iff_toInt_lt, e5, e6] at q ⊢
  omega)⟩
theorem own_d1_0 : decode method_2_code 0 = .ok (.iload_n 0, 1) := by decide +kernel
theorem own_d1_1 : decode method_2_code 1 = .ok (.bipush 16, 2) := by decide +kernel
theorem own_d1_3 : decode method_2_code 3 = .ok (.iushr, 1) := by decide +kernel
theorem own_d1_4 : decode method_2_code 4 = .ok (.iconst 1, 1) := by decide +kernel
theorem own_d1_5 : decode method_2_code 5 = .ok (.iand, 1) := by decide +kernel
theorem own_d1_6 : decode method_2_code 6 = .ok (.ifCond .eq 10, 3) := by decide +kernel
theorem own_d1_16 : decode method_2_code 16 = .ok (.iload_n 0, 1) := by decide +kernel
theorem own_d1_17 : decode method_2_code 17 = .ok (.ldc 7, 2) := by decide +kernel
theorem own_d1_19 : decode method_2_code 19 = .ok (.iand, 1) := by decide +kernel
theorem own_d1_20 : decode method_2_code 20 = .ok (.i2c, 1) := by decide +kernel
theorem own_d1_21 : decode method_2_code 21 = .ok (.ireturn, 1) := by decide +kernel
theorem own_d1_9 : decode method_2_code 9 = .ok (.iload_n 0, 1) := by decide +kernel
theorem own_d1_10 : decode method_2_code 10 = .ok (.sipush 511, 3) := by decide +kernel
theorem own_d1_13 : decode method_2_code 13 = .ok (.iand, 1) := by decide +kernel
theorem own_d1_14 : decode method_2_code 14 = .ok (.i2c, 1) := by decide +kernel
theorem own_d1_15 : decode method_2_code 15 = .ok (.ireturn, 1) := by decide +kernel
theorem own_ef_rm_draw (m : MethodId) (xd : Int32) : entryFrame m #[(.int xd)] 1 = mkF m 0 #[.val (.int xd)] [] := by first | (simp [entryFrame, mkF, argsToLocals, Value.category]; done) | rfl
def Q_rm_draw (Z : State) (xd : Int32) (h0 : Heap) (n0 : Nat) (v : Option Value) (h : Heap) (L : List Loc) : Prop := ∃ (cz : Int32), v = some (.int cz) ∧ Fr n0 L ∧ h = h0 ∧ ¬ cz < 0 ∧ ¬ (65535 : Int32) < cz
theorem own_pn0 : plainName "com/example/rolemesh/rolemesh/client/HttpMessagesIsFieldValuePinLaw" = true := by first | (simp [plainName, overriddenIn]; done) | decide +kernel
set_option maxRecDepth 65536 in
set_option maxHeartbeats 40000000 in
theorem rm_draw (l : Launch) (Z : State) (a0 : Array Value) (hw : ∀ d ∈ tables_1, d.before a0 Z = true) (ws : List Jvm.Cond) (xd : Int32) (h0 : Heap) (n0 : Nat) (O0 : Old Z n0 h0) :
    own_Met l Z (⟨"com/example/rolemesh/rolemesh/client/HttpMessagesIsFieldValuePinLaw", "draw", "(I)C"⟩ : MethodName) method_2_code 1 (some .char) ws ({ frames := 0, cells := 0, slots := 0, locals := 0 } : Room) #[(.int xd)] h0 (Q_rm_draw Z xd h0 n0) := by
  refine MetFree.of_bodySF (plainFor_of_name own_pn0) hisR ?_
  intro p e s m args below meth c s₁ Bd hml0 hP hK
  obtain ⟨rfl, hZ, hh⟩ := hP
  have hx := Bd.exec
  have hby := Bd.bytes
  have hml : c.maxLocals = 1 := hml0
  have hown : s.vm.findClass "com/example/rolemesh/rolemesh/client/HttpMessagesIsFieldValuePinLaw" = some m.cls := findClass_of_methodNamed Bd.named
  have hnm := (name_of_methodNamed Bd.named Bd.method).1
  have hlk : meth.locks = false := Bd.notSynchronized
  have X0 : Stand p l e ({ frames := 0, cells := 0, slots := 0, locals := 0 } : Room) s m #[(.int xd)] below meth c s₁ [] 0 0 := Stand.of_body Bd
  have e0 : s₁.heap = h0 := by rw [← hh, Bd.state]; rfl
  have N0 := Fr.nil n0
  suffices hgo : own_Ok p e below (own_Qx s (Q_rm_draw Z xd h0 n0) 0 0) (s₁.setTop (mkF m 0 #[.val (.int xd)] [])) from by
    obtain ⟨s₂, o, h1, h2⟩ := hgo
    exact ⟨s₂, o, castTop (own_ef_rm_draw m xd) h1, h2⟩
  show own_Ok p e below _ (s₁.setTop (mkF m 0 #[.val (.int xd)] []))
  refine s_iloadN X0 hx (hb hby own_d1_0) rfl ?_
  refine s_bipush X0 hx (16 : Int32) (hb hby own_d1_1) rfl ?_
  refine s_iushr X0 hx (hb hby own_d1_3) ?_
  refine s_iconst X0 hx (1 : Int32) (hb hby own_d1_4) rfl ?_
  refine s_iand X0 hx (hb hby own_d1_5) ?_
  by_cases c6_101 : (((xd.toUInt32 >>> ((16 : Int32) &&& 31).toUInt32).toInt32) &&& (1 : Int32)) = (0 : Int32)
  · skip
    refine s_ifYes X0 hx 16 (hb hby own_d1_6) (XT.i0_eq_t c6_101) (by decide) (by decide) ?_
    refine s_iloadN X0 hx (hb hby own_d1_16) rfl ?_
    refine own_st (fun _ k => Jvm.Stand.ldcI X0 hx hown (mvT hZ (own_hw hw 4 rfl)) rfl (hb hby own_d1_17) k) ?_
    show own_Ok p e below _ (s₁.setTop (mkF m 19 #[.val (.int xd)] [(.int (65535 : Int32)), (.int xd)]))
    refine s_iand X0 hx (hb hby own_d1_19) ?_
    refine s_i2c X0 hx (hb hby own_d1_20) ?_
    exact own_retN X0 hx hlk (t := .char) Bd.returns (by simp) (hb hby own_d1_21) (by rw [e0]; exact ⟨_, rfl, N0, rfl, (own_ncr _).1, (own_ncr _).2⟩) (by decide) (by decide)
  · skip
    refine s_ifNo X0 hx (hb hby own_d1_6) (XT.i0_eq_f c6_101) ?_
    refine s_iloadN X0 hx (hb hby own_d1_9) rfl ?_
    refine s_sipush X0 hx (511 : Int32) (hb hby own_d1_10) rfl ?_
    refine s_iand X0 hx (hb hby own_d1_13) ?_
    refine s_i2c X0 hx (hb hby own_d1_14) ?_
    exact own_retN X0 hx hlk (t := .char) Bd.returns (by simp) (hb hby own_d1_15) (by rw [e0]; exact ⟨_, rfl, N0, rfl, (own_ncr _).1, (own_ncr _).2⟩) (by decide) (by decide)
theorem own_d11_0 : decode method_3_code 0 = .ok (.iload_n 0, 1) := by decide +kernel
theorem own_d11_1 : decode method_3_code 1 = .ok (.bipush 32, 2) := by decide +kernel
theorem own_d11_3 : decode method_3_code 3 = .ok (.if_icmp .lt 11, 3) := by decide +kernel
theorem own_d11_14 : decode method_3_code 14 = .ok (.iload_n 0, 1) := by decide +kernel
theorem own_d11_15 : decode method_3_code 15 = .ok (.sipush 128, 3) := by decide +kernel
theorem own_d11_18 : decode method_3_code 18 = .ok (.if_icmp .lt 14, 3) := by decide +kernel
theorem own_d11_32 : decode method_3_code 32 = .ok (.iconst 0, 1) := by decide +kernel
theorem own_d11_33 : decode method_3_code 33 = .ok (.ireturn, 1) := by decide +kernel
theorem own_d11_21 : decode method_3_code 21 = .ok (.iload_n 0, 1) := by decide +kernel
theorem own_d11_22 : decode method_3_code 22 = .ok (.sipush 255, 3) := by decide +kernel
theorem own_d11_25 : decode method_3_code 25 = .ok (.if_icmp .gt 7, 3) := by decide +kernel
theorem own_d11_28 : decode method_3_code 28 = .ok (.iconst 1, 1) := by decide +kernel
theorem own_d11_29 : decode method_3_code 29 = .ok (.goto 4, 3) := by decide +kernel
theorem own_d11_6 : decode method_3_code 6 = .ok (.iload_n 0, 1) := by decide +kernel
theorem own_d11_7 : decode method_3_code 7 = .ok (.bipush 126, 2) := by decide +kernel
theorem own_d11_9 : decode method_3_code 9 = .ok (.if_icmp .gt 5, 3) := by decide +kernel
theorem own_d11_12 : decode method_3_code 12 = .ok (.iconst 1, 1) := by decide +kernel
theorem own_d11_13 : decode method_3_code 13 = .ok (.ireturn, 1) := by decide +kernel
theorem own_ef_rm_ok (m : MethodId) (cz : Int32) : entryFrame m #[(.int cz)] 1 = mkF m 0 #[.val (.int cz)] [] := by first | (simp [entryFrame, mkF, argsToLocals, Value.category]; done) | rfl
def Q_rm_ok (Z : State) (cz : Int32) (h0 : Heap) (n0 : Nat) (v : Option Value) (h : Heap) (L : List Loc) : Prop := v = some (.int (own_ok cz)) ∧ Fr n0 L ∧ h = h0
set_option maxRecDepth 65536 in
set_option maxHeartbeats 40000000 in
theorem rm_ok (l : Launch) (Z : State) (a0 : Array Value) (hw : ∀ d ∈ tables_1, d.before a0 Z = true) (ws : List Jvm.Cond) (cz : Int32) (h0 : Heap) (n0 : Nat) (O0 : Old Z n0 h0) :
    own_Met l Z (⟨"com/example/rolemesh/rolemesh/client/HttpMessagesIsFieldValuePinLaw", "ok", "(C)Z"⟩ : MethodName) method_3_code 1 (some .boolean) ws ({ frames := 0, cells := 0, slots := 0, locals := 0 } : Room) #[(.int cz)] h0 (Q_rm_ok Z cz h0 n0) := by
  refine MetFree.of_bodySF (plainFor_of_name own_pn0) hisR ?_
  intro p e s m args below meth c s₁ Bd hml0 hP hK
  obtain ⟨rfl, hZ, hh⟩ := hP
  have hx := Bd.exec
  have hby := Bd.bytes
  have hml : c.maxLocals = 1 := hml0
  have hown : s.vm.findClass "com/example/rolemesh/rolemesh/client/HttpMessagesIsFieldValuePinLaw" = some m.cls := findClass_of_methodNamed Bd.named
  have hnm := (name_of_methodNamed Bd.named Bd.method).1
  have hlk : meth.locks = false := Bd.notSynchronized
  have X0 : Stand p l e ({ frames := 0, cells := 0, slots := 0, locals := 0 } : Room) s m #[(.int cz)] below meth c s₁ [] 0 0 := Stand.of_body Bd
  have e0 : s₁.heap = h0 := by rw [← hh, Bd.state]; rfl
  have N0 := Fr.nil n0
  suffices hgo : own_Ok p e below (own_Qx s (Q_rm_ok Z cz h0 n0) 0 0) (s₁.setTop (mkF m 0 #[.val (.int cz)] [])) from by
    obtain ⟨s₂, o, h1, h2⟩ := hgo
    exact ⟨s₂, o, castTop (own_ef_rm_ok m cz) h1, h2⟩
  show own_Ok p e below _ (s₁.setTop (mkF m 0 #[.val (.int cz)] []))
  refine s_iloadN X0 hx (hb hby own_d11_0) rfl ?_
  refine s_bipush X0 hx (32 : Int32) (hb hby own_d11_1) rfl ?_
  by_cases c3_101 : cz < (32 : Int32)
  · skip
    refine s_icmpYes X0 hx 14 (hb hby own_d11_3) (XT.ii_lt_t c3_101) (by decide) (by decide) ?_
    refine s_iloadN X0 hx (hb hby own_d11_14) rfl ?_
    refine s_sipush X0 hx (128 : Int32) (hb hby own_d11_15) rfl ?_
    by_cases c18_102 : cz < (128 : Int32)
    · skip
      refine s_icmpYes X0 hx 32 (hb hby own_d11_18) (XT.ii_lt_t c18_102) (by decide) (by decide) ?_
      refine s_iconst X0 hx (0 : Int32) (hb hby own_d11_32) rfl ?_
      exact own_retN X0 hx hlk (t := .boolean) Bd.returns (by simp) (hb hby own_d11_33) (by rw [e0]; exact ⟨by rw [own_ok_lt c3_101]; rfl, N0, rfl⟩) (by decide) (by decide)
    · skip
      refine s_icmpNo X0 hx (hb hby own_d11_18) (XT.ii_lt_f c18_102) ?_
      refine s_iloadN X0 hx (hb hby own_d11_21) rfl ?_
      refine s_sipush X0 hx (255 : Int32) (hb hby own_d11_22) rfl ?_
      by_cases c25_103 : (255 : Int32) < cz
      · skip
        refine s_icmpYes X0 hx 32 (hb hby own_d11_25) (XT.ii_gt_t c25_103) (by decide) (by decide) ?_
        refine s_iconst X0 hx (0 : Int32) (hb hby own_d11_32) rfl ?_
        exact own_retN X0 hx hlk (t := .boolean) Bd.returns (by simp) (hb hby own_d11_33) (by rw [e0]; exact ⟨by rw [own_ok_gt c25_103]; rfl, N0, rfl⟩) (by decide) (by decide)
      · skip
        refine s_icmpNo X0 hx (hb hby own_d11_25) (XT.ii_gt_f c25_103) ?_
        refine s_iconst X0 hx (1 : Int32) (hb hby own_d11_28) rfl ?_
        refine s_goto X0 hx 33 (hb hby own_d11_29) (by decide) (by decide) ?_
        exact own_retN X0 hx hlk (t := .boolean) Bd.returns (by simp) (hb hby own_d11_33) (by rw [e0]; exact ⟨by rw [own_ok_b c18_102 c25_103]; rfl, N0, rfl⟩) (by decide) (by decide)
  · skip
    refine s_icmpNo X0 hx (hb hby own_d11_3) (XT.ii_lt_f c3_101) ?_
    refine s_iloadN X0 hx (hb hby own_d11_6) rfl ?_
    refine s_bipush X0 hx (126 : Int32) (hb hby own_d11_7) rfl ?_
    by_cases c9_104 : (126 : Int32) < cz
    · skip
      refine s_icmpYes X0 hx 14 (hb hby own_d11_9) (XT.ii_gt_t c9_104) (by decide) (by decide) ?_
      refine s_iloadN X0 hx (hb hby own_d11_14) rfl ?_
      refine s_sipush X0 hx (128 : Int32) (hb hby own_d11_15) rfl ?_
      by_cases c18_105 : cz < (128 : Int32)
      · skip
        refine s_icmpYes X0 hx 32 (hb hby own_d11_18) (XT.ii_lt_t c18_105) (by decide) (by decide) ?_
        refine s_iconst X0 hx (0 : Int32) (hb hby own_d11_32) rfl ?_
        exact own_retN X0 hx hlk (t := .boolean) Bd.returns (by simp) (hb hby own_d11_33) (by rw [e0]; exact ⟨by rw [own_ok_c c9_104 c18_105]; rfl, N0, rfl⟩) (by decide) (by decide)
      · skip
        refine s_icmpNo X0 hx (hb hby own_d11_18) (XT.ii_lt_f c18_105) ?_
        refine s_iloadN X0 hx (hb hby own_d11_21) rfl ?_
        refine s_sipush X0 hx (255 : Int32) (hb hby own_d11_22) rfl ?_
        by_cases c25_106 : (255 : Int32) < cz
        · skip
          refine s_icmpYes X0 hx 32 (hb hby own_d11_25) (XT.ii_gt_t c25_106) (by decide) (by decide) ?_
          refine s_iconst X0 hx (0 : Int32) (hb hby own_d11_32) rfl ?_
          exact own_retN X0 hx hlk (t := .boolean) Bd.returns (by simp) (hb hby own_d11_33) (by rw [e0]; exact ⟨by rw [own_ok_gt c25_106]; rfl, N0, rfl⟩) (by decide) (by decide)
        · skip
          refine s_icmpNo X0 hx (hb hby own_d11_25) (XT.ii_gt_f c25_106) ?_
          refine s_iconst X0 hx (1 : Int32) (hb hby own_d11_28) rfl ?_
          refine s_goto X0 hx 33 (hb hby own_d11_29) (by decide) (by decide) ?_
          exact own_retN X0 hx hlk (t := .boolean) Bd.returns (by simp) (hb hby own_d11_33) (by rw [e0]; exact ⟨by rw [own_ok_b c18_105 c25_106]; rfl, N0, rfl⟩) (by decide) (by decide)
    · skip
      refine s_icmpNo X0 hx (hb hby own_d11_9) (XT.ii_gt_f c9_104) ?_
      refine s_iconst X0 hx (1 : Int32) (hb hby own_d11_12) rfl ?_
      exact own_retN X0 hx hlk (t := .boolean) Bd.returns (by simp) (hb hby own_d11_13) (by rw [e0]; exact ⟨by rw [own_ok_a c3_101 c9_104]; rfl, N0, rfl⟩) (by decide) (by decide)
theorem own_d16_0 : decode jdk_41_method_11_code 0 = .ok (.iload_n 0, 1) := by decide +kernel
theorem own_d16_1 : decode jdk_41_method_11_code 1 = .ok (.ifCond .lt 8, 3) := by decide +kernel
theorem own_d16_4 : decode jdk_41_method_11_code 4 = .ok (.iload_n 0, 1) := by decide +kernel
theorem own_d16_5 : decode jdk_41_method_11_code 5 = .ok (.iload_n 1, 1) := by decide +kernel
theorem own_d16_6 : decode jdk_41_method_11_code 6 = .ok (.if_icmp .lt 10, 3) := by decide +kernel
theorem own_d16_16 : decode jdk_41_method_11_code 16 = .ok (.iload_n 0, 1) := by decide +kernel
theorem own_d16_17 : decode jdk_41_method_11_code 17 = .ok (.ireturn, 1) := by decide +kernel
theorem own_ef_rm_pck (m : MethodId) (i1 : Int32) (n1 : Int32) (u3 : Value) (hu3 : u3.isRef = true) : entryFrame m #[(.int i1), (.int n1), u3] 3 = mkF m 0 #[.val (.int i1), .val (.int n1), .val u3] [] := by
  rcases ref_cases hu3 with rfl | ⟨_, rfl⟩ <;>
  first | (simp [entryFrame, mkF, argsToLocals, Value.category]; done) | rfl
def Q_rm_pck (Z : State) (i1 : Int32) (n1 : Int32) (u3 : Value) (h0 : Heap) (n0 : Nat) (v : Option Value) (h : Heap) (L : List Loc) : Prop := v = some (.int i1) ∧ Fr n0 L ∧ h = h0
theorem own_pn1 : plainName "jdk/internal/util/Preconditions" = true := by first | (simp [plainName, overriddenIn]; done) | decide +kernel
set_option maxRecDepth 65536 in
set_option maxHeartbeats 40000000 in
theorem rm_pck (l : Launch) (Z : State) (a0 : Array Value) (hw : ∀ d ∈ tables_1, d.before a0 Z = true) (ws : List Jvm.Cond) (i1 : Int32) (n1 : Int32) (u3 : Value) (h0 : Heap) (n0 : Nat) (O0 : Old Z n0 h0) (hu3 : u3.isRef = true) (h1 : ¬ i1 < (0 : Int32)) (h2 : i1 < n1) :
    own_Met l Z (⟨"jdk/internal/util/Preconditions", "checkIndex", "(IILjava/util/function/BiFunction;)I"⟩ : MethodName) jdk_41_method_11_code 3 (some .int) ws ({ frames := 0, cells := 0, slots := 0, locals := 0 } : Room) #[(.int i1), (.int n1), u3] h0 (Q_rm_pck Z i1 n1 u3 h0 n0) := by
  refine MetFree.of_bodySF (plainFor_of_name own_pn1) hisR ?_
  intro p e s m args below meth c s₁ Bd hml0 hP hK
  obtain ⟨rfl, hZ, hh⟩ := hP
  have hx := Bd.exec
  have hby := Bd.bytes
  have hml : c.maxLocals = 3 := hml0
  have hown : s.vm.findClass "jdk/internal/util/Preconditions" = some m.cls := findClass_of_methodNamed Bd.named
  have hnm := (name_of_methodNamed Bd.named Bd.method).1
  have hlk : meth.locks = false := Bd.notSynchronized
  have X0 : Stand p l e ({ frames := 0, cells := 0, slots := 0, locals := 0 } : Room) s m #[(.int i1), (.int n1), u3] below meth c s₁ [] 0 0 := Stand.of_body Bd
  have e0 : s₁.heap = h0 := by rw [← hh, Bd.state]; rfl
  have N0 := Fr.nil n0
  suffices hgo : own_Ok p e below (own_Qx s (Q_rm_pck Z i1 n1 u3 h0 n0) 0 0) (s₁.setTop (mkF m 0 #[.val (.int i1), .val (.int n1), .val u3] [])) from by
    obtain ⟨s₂, o, h1, h2⟩ := hgo
    exact ⟨s₂, o, castTop (own_ef_rm_pck m i1 n1 u3 hu3) h1, h2⟩
  show own_Ok p e below _ (s₁.setTop (mkF m 0 #[.val (.int i1), .val (.int n1), .val u3] []))
  refine s_iloadN X0 hx (hb hby own_d16_0) rfl ?_
  refine s_ifNo X0 hx (hb hby own_d16_1) (XT.i0_lt_f h1) ?_
  refine s_iloadN X0 hx (hb hby own_d16_4) rfl ?_
  refine s_iloadN X0 hx (hb hby own_d16_5) rfl ?_
  refine s_icmpYes X0 hx 16 (hb hby own_d16_6) (XT.ii_lt_t h2) (by decide) (by decide) ?_
  refine s_iloadN X0 hx (hb hby own_d16_16) rfl ?_
  exact own_retI X0 hx hlk Bd.returns (hb hby own_d16_17) (by rw [e0]; exact ⟨rfl, N0, rfl⟩) (by decide) (by decide)
theorem own_d15_0 : decode jdk_42_method_155_code 0 = .ok (.iload_n 0, 1) := by decide +kernel
theorem own_d15_1 : decode jdk_42_method_155_code 1 = .ok (.iload_n 1, 1) := by decide +kernel
theorem own_d15_2 : decode jdk_42_method_155_code 2 = .ok (.getstatic 1053, 3) := by decide +kernel
theorem own_d15_5 : decode jdk_42_method_155_code 5 = .ok (.invokestatic 1059, 3) := by decide +kernel
theorem own_pd0 : parseMethodDescriptor "(IILjava/util/function/BiFunction;)I" = some ⟨[.int, .int, (.object "java/util/function/BiFunction")], some .int⟩ := by decide +kernel
theorem own_d15_8 : decode jdk_42_method_155_code 8 = .ok (.pop, 1) := by decide +kernel
theorem own_d15_9 : decode jdk_42_method_155_code 9 = .ok (.return_, 1) := by decide +kernel
theorem own_ef_rm_sck (m : MethodId) (i1 : Int32) (n1 : Int32) : entryFrame m #[(.int i1), (.int n1)] 2 = mkF m 0 #[.val (.int i1), .val (.int n1)] [] := by first | (simp [entryFrame, mkF, argsToLocals, Value.category]; done) | rfl
def Q_rm_sck (Z : State) (G1 : Int32) (G3 : Value) (i1 : Int32) (n1 : Int32) (h0 : Heap) (n0 : Nat) (v : Option Value) (h : Heap) (L : List Loc) : Prop := v = none ∧ Fr n0 L ∧ h = h0
theorem own_pn2 : plainName "java/lang/String" = true := by first | (simp [plainName, overriddenIn]; done) | decide +kernel
set_option maxRecDepth 65536 in
set_option maxHeartbeats 40000000 in
theorem rm_sck (l : Launch) (Z : State) (a0 : Array Value) (hw : ∀ d ∈ tables_1, d.before a0 Z = true) (ws : List Jvm.Cond) (G1 : Int32) (G3 : Value) (i1 : Int32) (n1 : Int32) (h0 : Heap) (n0 : Nat) (O0 : Old Z n0 h0) (hst : own_St Z G1 G3) (h1 : ¬ i1 < (0 : Int32)) (h2 : i1 < n1) :
    own_Met l Z (⟨"java/lang/String", "checkIndex", "(II)V"⟩ : MethodName) jdk_42_method_155_code 2 none ws ({ frames := 1, cells := 0, slots := 0, locals := 14 } : Room) #[(.int i1), (.int n1)] h0 (Q_rm_sck Z G1 G3 i1 n1 h0 n0) := by
  refine MetFree.of_bodySF (plainFor_of_name own_pn2) hisR ?_
  intro p e s m args below meth c s₁ Bd hml0 hP hK
  obtain ⟨rfl, hZ, hh⟩ := hP
  have hx := Bd.exec
  have hby := Bd.bytes
  have hml : c.maxLocals = 2 := hml0
  have hown : s.vm.findClass "java/lang/String" = some m.cls := findClass_of_methodNamed Bd.named
  have hnm := (name_of_methodNamed Bd.named Bd.method).1
  have hlk : meth.locks = false := Bd.notSynchronized
  have X0 : Stand p l e ({ frames := 1, cells := 0, slots := 0, locals := 14 } : Room) s m #[(.int i1), (.int n1)] below meth c s₁ [] 0 0 := Stand.of_body Bd
  have e0 : s₁.heap = h0 := by rw [← hh, Bd.state]; rfl
  have N0 := Fr.nil n0
  suffices hgo : own_Ok p e below (own_Qx s (Q_rm_sck Z G1 G3 i1 n1 h0 n0) 0 0) (s₁.setTop (mkF m 0 #[.val (.int i1), .val (.int n1)] [])) from by
    obtain ⟨s₂, o, h1, h2⟩ := hgo
    exact ⟨s₂, o, castTop (own_ef_rm_sck m i1 n1) h1, h2⟩
  have hst' := hst
  obtain ⟨SG1, PG1, SG3, rG3, SAD, SHI, SLO⟩ := hst'
  show own_Ok p e below _ (s₁.setTop (mkF m 0 #[.val (.int i1), .val (.int n1)] []))
  refine s_iloadN X0 hx (hb hby own_d15_0) rfl ?_
  refine s_iloadN X0 hx (hb hby own_d15_1) rfl ?_
  obtain ⟨T101, X101, e101, st101⟩ := getS2 X0 hx hZ hown (host := "") (Or.inl (own_hw hw 72 rfl)) Via.refl e0 (SG3.ext O0.2) (g := (mkF m 2 #[.val (.int i1), .val (.int n1)] [(.int n1), (.int i1)])) rfl (hb hby own_d15_2)
  refine own_st st101 ?_
  show own_Ok p e below _ (T101.setTop (mkF m 5 #[.val (.int i1), .val (.int n1)] [G3, (.int n1), (.int i1)]))
  obtain ⟨_, T102, Lc102, X102, hQ102, st102⟩ := own_callS X101 hx hZ hown (own_hw hw 74 rfl) (own_hw hw 75 rfl) (own_hw hw 73 rfl) (own_hw hw 76 rfl) (rm_pck l Z a0 hw [] i1 n1 G3 h0 n0 O0 rG3 h1 h2) (by decide) e101 (Ls := #[.val (.int i1), .val (.int n1)]) [(.int i1), (.int n1), G3] [] rfl (by rw [hml]; rfl) (lenOf own_pd0 rfl) (hb hby own_d15_5) (by decide) 0 rfl (by decide) (by decide) (by decide)
  obtain ⟨rfl, Nq102, e102⟩ := hQ102
  have N102 := Fr.app N0 Nq102
  refine st102 _ ?_
  show own_Ok p e below _ (T102.setTop (mkF m 8 #[.val (.int i1), .val (.int n1)] [(.int i1)]))
  refine s_pop X102 hx (hb hby own_d15_8) rfl ?_
  exact own_retV X102 hx hlk Bd.returns (hb hby own_d15_9) (by rw [e102]; exact ⟨rfl, N102, rfl⟩) (by decide) (by decide)
theorem own_d24_0 : decode jdk_52_method_6_code 0 = .ok (.aload_n 0, 1) := by decide +kernel
theorem own_d24_1 : decode jdk_52_method_6_code 1 = .ok (.arraylength, 1) := by decide +kernel
theorem own_d24_2 : decode jdk_52_method_6_code 2 = .ok (.iconst 1, 1) := by decide +kernel
theorem own_d24_3 : decode jdk_52_method_6_code 3 = .ok (.ishr, 1) := by decide +kernel
theorem own_d24_4 : decode jdk_52_method_6_code 4 = .ok (.ireturn, 1) := by decide +kernel
theorem own_ef_rm_ul (m : MethodId) (t1 : Addr) : entryFrame m #[(.ref t1)] 1 = mkF m 0 #[.val (.ref t1)] [] := by first | (simp [entryFrame, mkF, argsToLocals, Value.category]; done) | rfl
def Q_rm_ul (Z : State) (t1 : Addr) (k1 : ClassId) (nn : Int32) (vs : List Value) (h0 : Heap) (n0 : Nat) (v : Option Value) (h : Heap) (L : List Loc) : Prop := v = some (.int (nn >>> ((1 : Int32) &&& 31))) ∧ Fr n0 L ∧ h = h0
theorem own_pn3 : plainName "java/lang/StringUTF16" = true := by first | (simp [plainName, overriddenIn]; done) | decide +kernel
set_option maxRecDepth 65536 in
set_option maxHeartbeats 40000000 in
theorem rm_ul (l : Launch) (Z : State) (a0 : Array Value) (hw : ∀ d ∈ tables_1, d.before a0 Z = true) (ws : List Jvm.Cond) (t1 : Addr) (k1 : ClassId) (nn : Int32) (vs : List Value) (h0 : Heap) (n0 : Nat) (O0 : Old Z n0 h0) (V1 : Arv Z h0 t1 k1 .byte nn vs (.int (0 : Int32))) :
    own_Met l Z (⟨"java/lang/StringUTF16", "length", "([B)I"⟩ : MethodName) jdk_52_method_6_code 1 (some .int) ws ({ frames := 0, cells := 0, slots := 0, locals := 0 } : Room) #[(.ref t1)] h0 (Q_rm_ul Z t1 k1 nn vs h0 n0) := by
  refine MetFree.of_bodySF (plainFor_of_name own_pn3) hisR ?_
  intro p e s m args below meth c s₁ Bd hml0 hP hK
  obtain ⟨rfl, hZ, hh⟩ := hP
  have hx := Bd.exec
  have hby := Bd.bytes
  have hml : c.maxLocals = 1 := hml0
  have hown : s.vm.findClass "java/lang/StringUTF16" = some m.cls := findClass_of_methodNamed Bd.named
  have hnm := (name_of_methodNamed Bd.named Bd.method).1
  have hlk : meth.locks = false := Bd.notSynchronized
  have X0 : Stand p l e ({ frames := 0, cells := 0, slots := 0, locals := 0 } : Room) s m #[(.ref t1)] below meth c s₁ [] 0 0 := Stand.of_body Bd
  have e0 : s₁.heap = h0 := by rw [← hh, Bd.state]; rfl
  have N0 := Fr.nil n0
  suffices hgo : own_Ok p e below (own_Qx s (Q_rm_ul Z t1 k1 nn vs h0 n0) 0 0) (s₁.setTop (mkF m 0 #[.val (.ref t1)] [])) from by
    obtain ⟨s₂, o, h1, h2⟩ := hgo
    exact ⟨s₂, o, castTop (own_ef_rm_ul m t1) h1, h2⟩
  show own_Ok p e below _ (s₁.setTop (mkF m 0 #[.val (.ref t1)] []))
  refine s_aloadN X0 hx (hb hby own_d24_0) rfl rfl ?_
  refine own_st (own_len X0 hx hZ e0 V1 (g := (mkF m 1 #[.val (.ref t1)] [(.ref t1)])) rfl rfl (hb hby own_d24_1)) ?_
  show own_Ok p e below _ (s₁.setTop (mkF m 2 #[.val (.ref t1)] [(.int nn)]))
  refine s_iconst X0 hx (1 : Int32) (hb hby own_d24_2) rfl ?_
  refine s_ishr X0 hx (hb hby own_d24_3) ?_
  exact own_retI X0 hx hlk Bd.returns (hb hby own_d24_4) (by rw [e0]; exact ⟨rfl, N0, rfl⟩) (by decide) (by decide)
theorem own_d13_0 : decode jdk_42_method_154_code 0 = .ok (.getstatic 38, 3) := by decide +kernel
theorem own_d13_3 : decode jdk_42_method_154_code 3 = .ok (.ifCond .eq 14, 3) := by decide +kernel
theorem own_d13_6 : decode jdk_42_method_154_code 6 = .ok (.aload_n 0, 1) := by decide +kernel
theorem own_d13_7 : decode jdk_42_method_154_code 7 = .ok (.getfield 15, 3) := by decide +kernel
theorem own_d13_10 : decode jdk_42_method_154_code 10 = .ok (.ifCond .ne 7, 3) := by decide +kernel
theorem own_d13_17 : decode jdk_42_method_154_code 17 = .ok (.iconst 0, 1) := by decide +kernel
theorem own_d13_18 : decode jdk_42_method_154_code 18 = .ok (.ireturn, 1) := by decide +kernel
theorem own_ef_rm_isl (m : MethodId) (a1 : Addr) : entryFrame m #[(.ref a1)] 1 = mkF m 0 #[.val (.ref a1)] [] := by first | (simp [entryFrame, mkF, argsToLocals, Value.category]; done) | rfl
def Q_rm_isl (Z : State) (G1 : Int32) (G3 : Value) (a1 : Addr) (h0 : Heap) (n0 : Nat) (v : Option Value) (h : Heap) (L : List Loc) : Prop := v = some (.int (0 : Int32)) ∧ Fr n0 L ∧ h = h0
set_option maxRecDepth 65536 in
set_option maxHeartbeats 40000000 in
theorem rm_isl (l : Launch) (Z : State) (a0 : Array Value) (hw : ∀ d ∈ tables_1, d.before a0 Z = true) (ws : List Jvm.Cond) (G1 : Int32) (G3 : Value) (a1 : Addr) (h0 : Heap) (n0 : Nat) (O0 : Old Z n0 h0) (hst : own_St Z G1 G3) (F1 : Fld Z h0 a1 "java/lang/String" "coder" "B" (.int (1 : Int32))) :
    own_Met l Z (⟨"java/lang/String", "isLatin1", "()Z"⟩ : MethodName) jdk_42_method_154_code 1 (some .boolean) ws ({ frames := 0, cells := 0, slots := 0, locals := 0 } : Room) #[(.ref a1)] h0 (Q_rm_isl Z G1 G3 a1 h0 n0) := by
  refine MetFree.of_bodySF (plainFor_of_name own_pn2) hisR ?_
  intro p e s m args below meth c s₁ Bd hml0 hP hK
  obtain ⟨rfl, hZ, hh⟩ := hP
  have hx := Bd.exec
  have hby := Bd.bytes
  have hml : c.maxLocals = 1 := hml0
  have hown : s.vm.findClass "java/lang/String" = some m.cls := findClass_of_methodNamed Bd.named
  have hnm := (name_of_methodNamed Bd.named Bd.method).1
  have hlk : meth.locks = false := Bd.notSynchronized
  have X0 : Stand p l e ({ frames := 0, cells := 0, slots := 0, locals := 0 } : Room) s m #[(.ref a1)] below meth c s₁ [] 0 0 := Stand.of_body Bd
  have e0 : s₁.heap = h0 := by rw [← hh, Bd.state]; rfl
  have N0 := Fr.nil n0
  suffices hgo : own_Ok p e below (own_Qx s (Q_rm_isl Z G1 G3 a1 h0 n0) 0 0) (s₁.setTop (mkF m 0 #[.val (.ref a1)] [])) from by
    obtain ⟨s₂, o, h1, h2⟩ := hgo
    exact ⟨s₂, o, castTop (own_ef_rm_isl m a1) h1, h2⟩
  have hst' := hst
  obtain ⟨SG1, PG1, SG3, rG3, SAD, SHI, SLO⟩ := hst'
  show own_Ok p e below _ (s₁.setTop (mkF m 0 #[.val (.ref a1)] []))
  obtain ⟨T101, X101, e101, st101⟩ := getS2 X0 hx hZ hown (host := "") (Or.inl (own_hw hw 41 rfl)) Via.refl e0 (SG1.ext O0.2) (g := (mkF m 0 #[.val (.ref a1)] [])) rfl (hb hby own_d13_0)
  refine own_st st101 ?_
  show own_Ok p e below _ (T101.setTop (mkF m 3 #[.val (.ref a1)] [(.int G1)]))
  refine s_ifNo X101 hx (hb hby own_d13_3) (XT.i0_eq_f PG1) ?_
  refine s_aloadN X101 hx (hb hby own_d13_6) rfl rfl ?_
  obtain ⟨T102, X102, e102, st102⟩ := getF X101 hx hZ hown (host := "") (Or.inl (own_hw hw 26 rfl)) Via.refl e101 F1 (g := (mkF m 7 #[.val (.ref a1)] [(.ref a1)])) rfl rfl (hb hby own_d13_7)
  refine own_st st102 ?_
  show own_Ok p e below _ (T102.setTop (mkF m 10 #[.val (.ref a1)] [(.int (1 : Int32))]))
  refine s_ifYes X102 hx 17 (hb hby own_d13_10) (XT.i0_ne_t (by decide)) (by decide) (by decide) ?_
  refine s_iconst X102 hx (0 : Int32) (hb hby own_d13_17) rfl ?_
  exact own_retN X102 hx hlk (t := .boolean) Bd.returns (by simp) (hb hby own_d13_18) (by rw [e102]; exact ⟨rfl, N0, rfl⟩) (by decide) (by decide)
theorem own_d19_0 : decode jdk_52_method_3_code 0 = .ok (.iload_n 0, 1) := by decide +kernel
theorem own_d19_1 : decode jdk_52_method_3_code 1 = .ok (.ifCond .ge 11, 3) := by decide +kernel
theorem own_d19_12 : decode jdk_52_method_3_code 12 = .ok (.iload_n 0, 1) := by decide +kernel
theorem own_d19_13 : decode jdk_52_method_3_code 13 = .ok (.ldc 20, 2) := by decide +kernel
theorem own_d19_15 : decode jdk_52_method_3_code 15 = .ok (.if_icmp .lt 40, 3) := by decide +kernel
theorem own_d19_55 : decode jdk_52_method_3_code 55 = .ok (.iload_n 0, 1) := by decide +kernel
theorem own_d19_56 : decode jdk_52_method_3_code 56 = .ok (.iconst 1, 1) := by decide +kernel
theorem own_d19_57 : decode jdk_52_method_3_code 57 = .ok (.ishl, 1) := by decide +kernel
theorem own_d19_58 : decode jdk_52_method_3_code 58 = .ok (.ireturn, 1) := by decide +kernel
theorem own_ef_rm_nbl (m : MethodId) (nn : Int32) : entryFrame m #[(.int nn)] 1 = mkF m 0 #[.val (.int nn)] [] := by first | (simp [entryFrame, mkF, argsToLocals, Value.category]; done) | rfl
def Q_rm_nbl (Z : State) (nn : Int32) (h0 : Heap) (n0 : Nat) (v : Option Value) (h : Heap) (L : List Loc) : Prop := v = some (.int (nn <<< ((1 : Int32) &&& 31))) ∧ Fr n0 L ∧ h = h0
set_option maxRecDepth 65536 in
set_option maxHeartbeats 40000000 in
theorem rm_nbl (l : Launch) (Z : State) (a0 : Array Value) (hw : ∀ d ∈ tables_1, d.before a0 Z = true) (ws : List Jvm.Cond) (nn : Int32) (h0 : Heap) (n0 : Nat) (O0 : Old Z n0 h0) (h1 : ¬ nn < (0 : Int32)) (h2 : nn < (1073741823 : Int32)) :
    own_Met l Z (⟨"java/lang/StringUTF16", "newBytesLength", "(I)I"⟩ : MethodName) jdk_52_method_3_code 1 (some .int) ws ({ frames := 0, cells := 0, slots := 0, locals := 0 } : Room) #[(.int nn)] h0 (Q_rm_nbl Z nn h0 n0) := by
  refine MetFree.of_bodySF (plainFor_of_name own_pn3) hisR ?_
  intro p e s m args below meth c s₁ Bd hml0 hP hK
  obtain ⟨rfl, hZ, hh⟩ := hP
  have hx := Bd.exec
  have hby := Bd.bytes
  have hml : c.maxLocals = 1 := hml0
  have hown : s.vm.findClass "java/lang/StringUTF16" = some m.cls := findClass_of_methodNamed Bd.named
  have hnm := (name_of_methodNamed Bd.named Bd.method).1
  have hlk : meth.locks = false := Bd.notSynchronized
  have X0 : Stand p l e ({ frames := 0, cells := 0, slots := 0, locals := 0 } : Room) s m #[(.int nn)] below meth c s₁ [] 0 0 := Stand.of_body Bd
  have e0 : s₁.heap = h0 := by rw [← hh, Bd.state]; rfl
  have N0 := Fr.nil n0
  suffices hgo : own_Ok p e below (own_Qx s (Q_rm_nbl Z nn h0 n0) 0 0) (s₁.setTop (mkF m 0 #[.val (.int nn)] [])) from by
    obtain ⟨s₂, o, h1, h2⟩ := hgo
    exact ⟨s₂, o, castTop (own_ef_rm_nbl m nn) h1, h2⟩
  show own_Ok p e below _ (s₁.setTop (mkF m 0 #[.val (.int nn)] []))
  refine s_iloadN X0 hx (hb hby own_d19_0) rfl ?_
  refine s_ifYes X0 hx 12 (hb hby own_d19_1) (XT.i0_ge_t h1) (by decide) (by decide) ?_
  refine s_iloadN X0 hx (hb hby own_d19_12) rfl ?_
  refine own_st (fun _ k => Jvm.Stand.ldcI X0 hx hown (mvT hZ (own_hw hw 86 rfl)) rfl (hb hby own_d19_13) k) ?_
  show own_Ok p e below _ (s₁.setTop (mkF m 15 #[.val (.int nn)] [(.int (1073741823 : Int32)), (.int nn)]))
  refine s_icmpYes X0 hx 55 (hb hby own_d19_15) (XT.ii_lt_t h2) (by decide) (by decide) ?_
  refine s_iloadN X0 hx (hb hby own_d19_55) rfl ?_
  refine s_iconst X0 hx (1 : Int32) (hb hby own_d19_56) rfl ?_
  refine s_ishl X0 hx (hb hby own_d19_57) ?_
  exact own_retI X0 hx hlk Bd.returns (hb hby own_d19_58) (by rw [e0]; exact ⟨rfl, N0, rfl⟩) (by decide) (by decide)
theorem own_d23_0 : decode jdk_52_method_91_code 0 = .ok (.iload_n 0, 1) := by decide +kernel
theorem own_d23_1 : decode jdk_52_method_91_code 1 = .ok (.aload_n 1, 1) := by decide +kernel
theorem own_d23_2 : decode jdk_52_method_91_code 2 = .ok (.invokestatic 48, 3) := by decide +kernel
theorem own_pd1 : parseMethodDescriptor "([B)I" = some ⟨[(.array .byte)], some .int⟩ := by decide +kernel
theorem own_d23_5 : decode jdk_52_method_91_code 5 = .ok (.invokestatic 414, 3) := by decide +kernel
theorem own_pd2 : parseMethodDescriptor "(II)V" = some ⟨[.int, .int], none⟩ := by decide +kernel
theorem own_d23_8 : decode jdk_52_method_91_code 8 = .ok (.return_, 1) := by decide +kernel
theorem own_ef_rm_uck10 (m : MethodId) (t1 : Addr) : entryFrame m #[(.int (0 : Int32)), (.ref t1)] 2 = mkF m 0 #[.val (.int (0 : Int32)), .val (.ref t1)] [] := by first | (simp [entryFrame, mkF, argsToLocals, Value.category]; done) | rfl
def Q_rm_uck10 (Z : State) (G1 : Int32) (G3 : Value) (c0 : Int32) (t1 : Addr) (k1 : ClassId) (h0 : Heap) (n0 : Nat) (v : Option Value) (h : Heap) (L : List Loc) : Prop := v = none ∧ Fr n0 L ∧ h = h0
set_option maxRecDepth 65536 in
set_option maxHeartbeats 40000000 in
theorem rm_uck10 (l : Launch) (Z : State) (a0 : Array Value) (hw : ∀ d ∈ tables_1, d.before a0 Z = true) (ws : List Jvm.Cond) (G1 : Int32) (G3 : Value) (c0 : Int32) (t1 : Addr) (k1 : ClassId) (h0 : Heap) (n0 : Nat) (O0 : Old Z n0 h0) (hst : own_St Z G1 G3) (V1 : Arv Z h0 t1 k1 .byte (2 : Int32) [(.int (StrChars.lo8 c0)), (.int (StrChars.hi8 c0))] (.int (0 : Int32))) :
    own_Met l Z (⟨"java/lang/StringUTF16", "checkIndex", "(I[B)V"⟩ : MethodName) jdk_52_method_91_code 2 none ws ({ frames := 2, cells := 0, slots := 0, locals := 27 } : Room) #[(.int (0 : Int32)), (.ref t1)] h0 (Q_rm_uck10 Z G1 G3 c0 t1 k1 h0 n0) := by
  refine MetFree.of_bodySF (plainFor_of_name own_pn3) hisR ?_
  intro p e s m args below meth c s₁ Bd hml0 hP hK
  obtain ⟨rfl, hZ, hh⟩ := hP
  have hx := Bd.exec
  have hby := Bd.bytes
  have hml : c.maxLocals = 2 := hml0
  have hown : s.vm.findClass "java/lang/StringUTF16" = some m.cls := findClass_of_methodNamed Bd.named
  have hnm := (name_of_methodNamed Bd.named Bd.method).1
  have hlk : meth.locks = false := Bd.notSynchronized
  have X0 : Stand p l e ({ frames := 2, cells := 0, slots := 0, locals := 27 } : Room) s m #[(.int (0 : Int32)), (.ref t1)] below meth c s₁ [] 0 0 := Stand.of_body Bd
  have e0 : s₁.heap = h0 := by rw [← hh, Bd.state]; rfl
  have N0 := Fr.nil n0
  suffices hgo : own_Ok p e below (own_Qx s (Q_rm_uck10 Z G1 G3 c0 t1 k1 h0 n0) 0 0) (s₁.setTop (mkF m 0 #[.val (.int (0 : Int32)), .val (.ref t1)] [])) from by
    obtain ⟨s₂, o, h1, h2⟩ := hgo
    exact ⟨s₂, o, castTop (own_ef_rm_uck10 m t1) h1, h2⟩
  have hst' := hst
  obtain ⟨SG1, PG1, SG3, rG3, SAD, SHI, SLO⟩ := hst'
  show own_Ok p e below _ (s₁.setTop (mkF m 0 #[.val (.int (0 : Int32)), .val (.ref t1)] []))
  refine s_iloadN X0 hx (hb hby own_d23_0) rfl ?_
  refine s_aloadN X0 hx (hb hby own_d23_1) rfl rfl ?_
  obtain ⟨_, T101, Lc101, X101, hQ101, st101⟩ := own_callS X0 hx hZ hown (own_hw hw 102 rfl) (own_hw hw 103 rfl) (own_hw hw 44 rfl) (own_hw hw 104 rfl) (rm_ul l Z a0 hw [] t1 k1 ((2 : Int32)) (([(.int (StrChars.lo8 c0)), (.int (StrChars.hi8 c0))] : List Value)) h0 n0 O0 V1) (by decide) e0 (Ls := #[.val (.int (0 : Int32)), .val (.ref t1)]) [(.ref t1)] [(.int (0 : Int32))] rfl (by rw [hml]; rfl) (lenOf own_pd1 rfl) (hb hby own_d23_2) (by decide) 1 rfl (by decide) (by decide) (by decide)
  obtain ⟨rfl, Nq101, e101⟩ := hQ101
  have N101 := Fr.app N0 Nq101
  refine st101 _ ?_
  show own_Ok p e below _ (T101.setTop (mkF m 5 #[.val (.int (0 : Int32)), .val (.ref t1)] [(.int ((2 : Int32) >>> ((1 : Int32) &&& 31))), (.int (0 : Int32))]))
  rw [show ((2 : Int32) >>> ((1 : Int32) &&& 31)) = (1 : Int32) from by decide]
  show own_Ok p e below _ (T101.setTop (mkF m 5 #[.val (.int (0 : Int32)), .val (.ref t1)] [(.int (1 : Int32)), (.int (0 : Int32))]))
  show own_Ok p e below _ (T101.setTop (mkF m 5 #[.val (.int (0 : Int32)), .val (.ref t1)] [(.int (1 : Int32)), (.int (0 : Int32))]))
  obtain ⟨_, T102, Lc102, X102, hQ102, st102⟩ := own_callS X101 hx hZ hown (own_hw hw 105 rfl) (own_hw hw 70 rfl) (own_hw hw 7 rfl) (own_hw hw 71 rfl) (rm_sck l Z a0 hw [] G1 G3 ((0 : Int32)) ((1 : Int32)) h0 n0 O0 hst (by decide) (by decide)) (by decide) e101 (Ls := #[.val (.int (0 : Int32)), .val (.ref t1)]) [(.int (0 : Int32)), (.int (1 : Int32))] [] rfl (by rw [hml]; rfl) (lenOf own_pd2 rfl) (hb hby own_d23_5) (by decide) 0 rfl (by decide) (by decide) (by decide)
  obtain ⟨rfl, Nq102, e102⟩ := hQ102
  have N102 := Fr.app N101 Nq102
  refine st102 _ ?_
  show own_Ok p e below _ (T102.setTop (mkF m 8 #[.val (.int (0 : Int32)), .val (.ref t1)] []))
  exact own_retV X102 hx hlk Bd.returns (hb hby own_d23_8) (by rw [e102]; exact ⟨rfl, N102, rfl⟩) (by decide) (by decide)
theorem own_d21_0 : decode jdk_52_method_5_code 0 = .ok (.getstatic 44, 3) := by decide +kernel
theorem own_d21_3 : decode jdk_52_method_5_code 3 = .ok (.ifCond .ne 25, 3) := by decide +kernel
theorem own_d21_28 : decode jdk_52_method_5_code 28 = .ok (.iload_n 1, 1) := by decide +kernel
theorem own_d21_29 : decode jdk_52_method_5_code 29 = .ok (.iconst 1, 1) := by decide +kernel
theorem own_d21_30 : decode jdk_52_method_5_code 30 = .ok (.ishl, 1) := by decide +kernel
theorem own_d21_31 : decode jdk_52_method_5_code 31 = .ok (.istore_n 1, 1) := by decide +kernel
theorem own_d21_32 : decode jdk_52_method_5_code 32 = .ok (.aload_n 0, 1) := by decide +kernel
theorem own_d21_33 : decode jdk_52_method_5_code 33 = .ok (.iload_n 1, 1) := by decide +kernel
theorem own_d21_34 : decode jdk_52_method_5_code 34 = .ok (.iinc 1 1, 3) := by decide +kernel
theorem own_d21_37 : decode jdk_52_method_5_code 37 = .ok (.baload, 1) := by decide +kernel
theorem own_d21_38 : decode jdk_52_method_5_code 38 = .ok (.sipush 255, 3) := by decide +kernel
theorem own_d21_41 : decode jdk_52_method_5_code 41 = .ok (.iand, 1) := by decide +kernel
theorem own_d21_42 : decode jdk_52_method_5_code 42 = .ok (.getstatic 59, 3) := by decide +kernel
theorem own_d21_45 : decode jdk_52_method_5_code 45 = .ok (.ishl, 1) := by decide +kernel
theorem own_d21_46 : decode jdk_52_method_5_code 46 = .ok (.aload_n 0, 1) := by decide +kernel
theorem own_d21_47 : decode jdk_52_method_5_code 47 = .ok (.iload_n 1, 1) := by decide +kernel
theorem own_d21_48 : decode jdk_52_method_5_code 48 = .ok (.baload, 1) := by decide +kernel
theorem own_d21_49 : decode jdk_52_method_5_code 49 = .ok (.sipush 255, 3) := by decide +kernel
theorem own_d21_52 : decode jdk_52_method_5_code 52 = .ok (.iand, 1) := by decide +kernel
theorem own_d21_53 : decode jdk_52_method_5_code 53 = .ok (.getstatic 63, 3) := by decide +kernel
theorem own_d21_56 : decode jdk_52_method_5_code 56 = .ok (.ishl, 1) := by decide +kernel
theorem own_d21_57 : decode jdk_52_method_5_code 57 = .ok (.ior, 1) := by decide +kernel
theorem own_d21_58 : decode jdk_52_method_5_code 58 = .ok (.i2c, 1) := by decide +kernel
theorem own_d21_59 : decode jdk_52_method_5_code 59 = .ok (.ireturn, 1) := by decide +kernel
theorem own_ef_rm_gch10 (m : MethodId) (t1 : Addr) : entryFrame m #[(.ref t1), (.int (0 : Int32))] 2 = mkF m 0 #[.val (.ref t1), .val (.int (0 : Int32))] [] := by first | (simp [entryFrame, mkF, argsToLocals, Value.category]; done) | rfl
def Q_rm_gch10 (Z : State) (G1 : Int32) (G3 : Value) (c0 : Int32) (t1 : Addr) (k1 : ClassId) (h0 : Heap) (n0 : Nat) (v : Option Value) (h : Heap) (L : List Loc) : Prop := v = some (.int c0) ∧ Fr n0 L ∧ h = h0
set_option maxRecDepth 65536 in
set_option maxHeartbeats 40000000 in
theorem rm_gch10 (l : Launch) (Z : State) (a0 : Array Value) (hw : ∀ d ∈ tables_1, d.before a0 Z = true) (ws : List Jvm.Cond) (G1 : Int32) (G3 : Value) (c0 : Int32) (t1 : Addr) (k1 : ClassId) (h0 : Heap) (n0 : Nat) (O0 : Old Z n0 h0) (hst : own_St Z G1 G3) (r0 : ¬ c0 < 0 ∧ ¬ (65535 : Int32) < c0) (V1 : Arv Z h0 t1 k1 .byte (2 : Int32) [(.int (StrChars.lo8 c0)), (.int (StrChars.hi8 c0))] (.int (0 : Int32))) :
    own_Met l Z (⟨"java/lang/StringUTF16", "getChar", "([BI)C"⟩ : MethodName) jdk_52_method_5_code 2 (some .char) ws ({ frames := 0, cells := 0, slots := 0, locals := 0 } : Room) #[(.ref t1), (.int (0 : Int32))] h0 (Q_rm_gch10 Z G1 G3 c0 t1 k1 h0 n0) := by
  refine MetFree.of_bodySF (plainFor_of_name own_pn3) hisR ?_
  intro p e s m args below meth c s₁ Bd hml0 hP hK
  obtain ⟨rfl, hZ, hh⟩ := hP
  have hx := Bd.exec
  have hby := Bd.bytes
  have hml : c.maxLocals = 2 := hml0
  have hown : s.vm.findClass "java/lang/StringUTF16" = some m.cls := findClass_of_methodNamed Bd.named
  have hnm := (name_of_methodNamed Bd.named Bd.method).1
  have hlk : meth.locks = false := Bd.notSynchronized
  have X0 : Stand p l e ({ frames := 0, cells := 0, slots := 0, locals := 0 } : Room) s m #[(.ref t1), (.int (0 : Int32))] below meth c s₁ [] 0 0 := Stand.of_body Bd
  have e0 : s₁.heap = h0 := by rw [← hh, Bd.state]; rfl
  have N0 := Fr.nil n0
  suffices hgo : own_Ok p e below (own_Qx s (Q_rm_gch10 Z G1 G3 c0 t1 k1 h0 n0) 0 0) (s₁.setTop (mkF m 0 #[.val (.ref t1), .val (.int (0 : Int32))] [])) from by
    obtain ⟨s₂, o, h1, h2⟩ := hgo
    exact ⟨s₂, o, castTop (own_ef_rm_gch10 m t1) h1, h2⟩
  have hst' := hst
  obtain ⟨SG1, PG1, SG3, rG3, SAD, SHI, SLO⟩ := hst'
  show own_Ok p e below _ (s₁.setTop (mkF m 0 #[.val (.ref t1), .val (.int (0 : Int32))] []))
  obtain ⟨T101, X101, e101, st101⟩ := getS2 X0 hx hZ hown (host := "") (Or.inl (own_hw hw 90 rfl)) Via.refl e0 (SAD.ext O0.2) (g := (mkF m 0 #[.val (.ref t1), .val (.int (0 : Int32))] [])) rfl (hb hby own_d21_0)
  refine own_st st101 ?_
  show own_Ok p e below _ (T101.setTop (mkF m 3 #[.val (.ref t1), .val (.int (0 : Int32))] [(.int (1 : Int32))]))
  refine s_ifYes X101 hx 28 (hb hby own_d21_3) (XT.i0_ne_t (by decide)) (by decide) (by decide) ?_
  refine s_iloadN X101 hx (hb hby own_d21_28) rfl ?_
  refine s_iconst X101 hx (1 : Int32) (hb hby own_d21_29) rfl ?_
  refine s_ishl X101 hx (hb hby own_d21_30) ?_
  show own_Ok p e below _ (T101.setTop (mkF m 31 #[.val (.ref t1), .val (.int (0 : Int32))] [(.int (0 : Int32))]))
  refine s_istoreN X101 hx (hb hby own_d21_31) #[.val (.ref t1), .val (.int (0 : Int32))] rfl ?_
  refine s_aloadN X101 hx (hb hby own_d21_32) rfl rfl ?_
  refine s_iloadN X101 hx (hb hby own_d21_33) rfl ?_
  refine s_iinc X101 hx (1 : Int32) (hb hby own_d21_34) rfl rfl #[.val (.ref t1), .val (.int (1 : Int32))] rfl ?_
  show own_Ok p e below _ (T101.setTop (mkF m 37 #[.val (.ref t1), .val (.int (1 : Int32))] [(.int (0 : Int32)), (.ref t1)]))
  refine own_st (own_ldB X101 hx hZ e101 V1 (by decide) (by decide) (v := (StrChars.lo8 c0)) rfl (g := (mkF m 37 #[.val (.ref t1), .val (.int (1 : Int32))] [(.int (0 : Int32)), (.ref t1)])) rfl rfl (hb hby own_d21_37)) ?_
  show own_Ok p e below _ (T101.setTop (mkF m 38 #[.val (.ref t1), .val (.int (1 : Int32))] [(.int (StrChars.lo8 c0))]))
  refine s_sipush X101 hx (255 : Int32) (hb hby own_d21_38) rfl ?_
  refine s_iand X101 hx (hb hby own_d21_41) ?_
  obtain ⟨T102, X102, e102, st102⟩ := getS2 X101 hx hZ hown (host := "") (Or.inl (own_hw hw 91 rfl)) Via.refl e101 (SHI.ext O0.2) (g := (mkF m 42 #[.val (.ref t1), .val (.int (1 : Int32))] [(.int ((StrChars.lo8 c0) &&& (255 : Int32)))])) rfl (hb hby own_d21_42)
  refine own_st st102 ?_
  show own_Ok p e below _ (T102.setTop (mkF m 45 #[.val (.ref t1), .val (.int (1 : Int32))] [(.int (0 : Int32)), (.int ((StrChars.lo8 c0) &&& (255 : Int32)))]))
  refine s_ishl X102 hx (hb hby own_d21_45) ?_
  refine s_aloadN X102 hx (hb hby own_d21_46) rfl rfl ?_
  refine s_iloadN X102 hx (hb hby own_d21_47) rfl ?_
  refine own_st (own_ldB X102 hx hZ e102 V1 (by decide) (by decide) (v := (StrChars.hi8 c0)) rfl (g := (mkF m 48 #[.val (.ref t1), .val (.int (1 : Int32))] [(.int (1 : Int32)), (.ref t1), (.int (((StrChars.lo8 c0) &&& (255 : Int32)) <<< ((0 : Int32) &&& 31)))])) rfl rfl (hb hby own_d21_48)) ?_
  show own_Ok p e below _ (T102.setTop (mkF m 49 #[.val (.ref t1), .val (.int (1 : Int32))] [(.int (StrChars.hi8 c0)), (.int (((StrChars.lo8 c0) &&& (255 : Int32)) <<< ((0 : Int32) &&& 31)))]))
  refine s_sipush X102 hx (255 : Int32) (hb hby own_d21_49) rfl ?_
  refine s_iand X102 hx (hb hby own_d21_52) ?_
  obtain ⟨T103, X103, e103, st103⟩ := getS2 X102 hx hZ hown (host := "") (Or.inl (own_hw hw 92 rfl)) Via.refl e102 (SLO.ext O0.2) (g := (mkF m 53 #[.val (.ref t1), .val (.int (1 : Int32))] [(.int ((StrChars.hi8 c0) &&& (255 : Int32))), (.int (((StrChars.lo8 c0) &&& (255 : Int32)) <<< ((0 : Int32) &&& 31)))])) rfl (hb hby own_d21_53)
  refine own_st st103 ?_
  show own_Ok p e below _ (T103.setTop (mkF m 56 #[.val (.ref t1), .val (.int (1 : Int32))] [(.int (8 : Int32)), (.int ((StrChars.hi8 c0) &&& (255 : Int32))), (.int (((StrChars.lo8 c0) &&& (255 : Int32)) <<< ((0 : Int32) &&& 31)))]))
  refine s_ishl X103 hx (hb hby own_d21_56) ?_
  refine s_ior X103 hx (hb hby own_d21_57) ?_
  refine s_i2c X103 hx (hb hby own_d21_58) ?_
  exact own_retN X103 hx hlk (t := .char) Bd.returns (by simp) (hb hby own_d21_59) (by rw [e103]; exact ⟨by rw [own_join r0.1 r0.2, own_narc r0.1 r0.2], N0, rfl⟩) (by decide) (by decide)
theorem own_d22_0 : decode jdk_52_method_83_code 0 = .ok (.iload_n 1, 1) := by decide +kernel
theorem own_d22_1 : decode jdk_52_method_83_code 1 = .ok (.aload_n 0, 1) := by decide +kernel
theorem own_d22_2 : decode jdk_52_method_83_code 2 = .ok (.invokestatic 67, 3) := by decide +kernel
theorem own_pd3 : parseMethodDescriptor "(I[B)V" = some ⟨[.int, (.array .byte)], none⟩ := by decide +kernel
theorem own_d22_5 : decode jdk_52_method_83_code 5 = .ok (.aload_n 0, 1) := by decide +kernel
theorem own_d22_6 : decode jdk_52_method_83_code 6 = .ok (.iload_n 1, 1) := by decide +kernel
theorem own_d22_7 : decode jdk_52_method_83_code 7 = .ok (.invokestatic 71, 3) := by decide +kernel
theorem own_pd4 : parseMethodDescriptor "([BI)C" = some ⟨[(.array .byte), .int], some .char⟩ := by decide +kernel
theorem own_d22_10 : decode jdk_52_method_83_code 10 = .ok (.ireturn, 1) := by decide +kernel
theorem own_ef_rm_uch10 (m : MethodId) (t1 : Addr) : entryFrame m #[(.ref t1), (.int (0 : Int32))] 2 = mkF m 0 #[.val (.ref t1), .val (.int (0 : Int32))] [] := by first | (simp [entryFrame, mkF, argsToLocals, Value.category]; done) | rfl
def Q_rm_uch10 (Z : State) (G1 : Int32) (G3 : Value) (c0 : Int32) (t1 : Addr) (k1 : ClassId) (h0 : Heap) (n0 : Nat) (v : Option Value) (h : Heap) (L : List Loc) : Prop := v = some (.int c0) ∧ Fr n0 L ∧ h = h0
set_option maxRecDepth 65536 in
set_option maxHeartbeats 40000000 in
theorem rm_uch10 (l : Launch) (Z : State) (a0 : Array Value) (hw : ∀ d ∈ tables_1, d.before a0 Z = true) (ws : List Jvm.Cond) (G1 : Int32) (G3 : Value) (c0 : Int32) (t1 : Addr) (k1 : ClassId) (h0 : Heap) (n0 : Nat) (O0 : Old Z n0 h0) (hst : own_St Z G1 G3) (r0 : ¬ c0 < 0 ∧ ¬ (65535 : Int32) < c0) (V1 : Arv Z h0 t1 k1 .byte (2 : Int32) [(.int (StrChars.lo8 c0)), (.int (StrChars.hi8 c0))] (.int (0 : Int32))) :
    own_Met l Z (⟨"java/lang/StringUTF16", "charAt", "([BI)C"⟩ : MethodName) jdk_52_method_83_code 2 (some .char) ws ({ frames := 3, cells := 0, slots := 0, locals := 40 } : Room) #[(.ref t1), (.int (0 : Int32))] h0 (Q_rm_uch10 Z G1 G3 c0 t1 k1 h0 n0) := by
  refine MetFree.of_bodySF (plainFor_of_name own_pn3) hisR ?_
  intro p e s m args below meth c s₁ Bd hml0 hP hK
  obtain ⟨rfl, hZ, hh⟩ := hP
  have hx := Bd.exec
  have hby := Bd.bytes
  have hml : c.maxLocals = 2 := hml0
  have hown : s.vm.findClass "java/lang/StringUTF16" = some m.cls := findClass_of_methodNamed Bd.named
  have hnm := (name_of_methodNamed Bd.named Bd.method).1
  have hlk : meth.locks = false := Bd.notSynchronized
  have X0 : Stand p l e ({ frames := 3, cells := 0, slots := 0, locals := 40 } : Room) s m #[(.ref t1), (.int (0 : Int32))] below meth c s₁ [] 0 0 := Stand.of_body Bd
  have e0 : s₁.heap = h0 := by rw [← hh, Bd.state]; rfl
  have N0 := Fr.nil n0
  suffices hgo : own_Ok p e below (own_Qx s (Q_rm_uch10 Z G1 G3 c0 t1 k1 h0 n0) 0 0) (s₁.setTop (mkF m 0 #[.val (.ref t1), .val (.int (0 : Int32))] [])) from by
    obtain ⟨s₂, o, h1, h2⟩ := hgo
    exact ⟨s₂, o, castTop (own_ef_rm_uch10 m t1) h1, h2⟩
  have hst' := hst
  obtain ⟨SG1, PG1, SG3, rG3, SAD, SHI, SLO⟩ := hst'
  show own_Ok p e below _ (s₁.setTop (mkF m 0 #[.val (.ref t1), .val (.int (0 : Int32))] []))
  refine s_iloadN X0 hx (hb hby own_d22_0) rfl ?_
  refine s_aloadN X0 hx (hb hby own_d22_1) rfl rfl ?_
  obtain ⟨_, T101, Lc101, X101, hQ101, st101⟩ := own_callS X0 hx hZ hown (own_hw hw 99 rfl) (own_hw hw 100 rfl) (own_hw hw 44 rfl) (own_hw hw 101 rfl) (rm_uck10 l Z a0 hw [] G1 G3 c0 t1 k1 h0 n0 O0 hst V1) (by decide) e0 (Ls := #[.val (.ref t1), .val (.int (0 : Int32))]) [(.int (0 : Int32)), (.ref t1)] [] rfl (by rw [hml]; rfl) (lenOf own_pd3 rfl) (hb hby own_d22_2) (by decide) 0 rfl (by decide) (by decide) (by decide)
  obtain ⟨rfl, Nq101, e101⟩ := hQ101
  have N101 := Fr.app N0 Nq101
  refine st101 _ ?_
  show own_Ok p e below _ (T101.setTop (mkF m 5 #[.val (.ref t1), .val (.int (0 : Int32))] []))
  refine s_aloadN X101 hx (hb hby own_d22_5) rfl rfl ?_
  refine s_iloadN X101 hx (hb hby own_d22_6) rfl ?_
  obtain ⟨_, T102, Lc102, X102, hQ102, st102⟩ := own_callS X101 hx hZ hown (own_hw hw 93 rfl) (own_hw hw 94 rfl) (own_hw hw 44 rfl) (own_hw hw 95 rfl) (rm_gch10 l Z a0 hw [] G1 G3 c0 t1 k1 h0 n0 O0 hst r0 V1) (by decide) e101 (Ls := #[.val (.ref t1), .val (.int (0 : Int32))]) [(.ref t1), (.int (0 : Int32))] [] rfl (by rw [hml]; rfl) (lenOf own_pd4 rfl) (hb hby own_d22_7) (by decide) 0 rfl (by decide) (by decide) (by decide)
  obtain ⟨rfl, Nq102, e102⟩ := hQ102
  have N102 := Fr.app N101 Nq102
  refine st102 _ ?_
  show own_Ok p e below _ (T102.setTop (mkF m 10 #[.val (.ref t1), .val (.int (0 : Int32))] [(.int c0)]))
  exact own_retN X102 hx hlk (t := .char) Bd.returns (by simp) (hb hby own_d22_10) (by rw [e102]; exact ⟨by rw [own_narc r0.1 r0.2], N102, rfl⟩) (by decide) (by decide)
theorem own_d12_0 : decode jdk_42_method_56_code 0 = .ok (.aload_n 0, 1) := by decide +kernel
theorem own_d12_1 : decode jdk_42_method_56_code 1 = .ok (.invokevirtual 492, 3) := by decide +kernel
theorem own_pd5 : parseMethodDescriptor "()Z" = some ⟨[], some .boolean⟩ := by decide +kernel
theorem own_d12_4 : decode jdk_42_method_56_code 4 = .ok (.ifCond .eq 12, 3) := by decide +kernel
theorem own_d12_16 : decode jdk_42_method_56_code 16 = .ok (.aload_n 0, 1) := by decide +kernel
theorem own_d12_17 : decode jdk_42_method_56_code 17 = .ok (.getfield 9, 3) := by decide +kernel
theorem own_d12_20 : decode jdk_42_method_56_code 20 = .ok (.iload_n 1, 1) := by decide +kernel
theorem own_d12_21 : decode jdk_42_method_56_code 21 = .ok (.invokestatic 498, 3) := by decide +kernel
theorem own_d12_24 : decode jdk_42_method_56_code 24 = .ok (.ireturn, 1) := by decide +kernel
theorem own_ef_rm_sch10 (m : MethodId) (a1 : Addr) : entryFrame m #[(.ref a1), (.int (0 : Int32))] 2 = mkF m 0 #[.val (.ref a1), .val (.int (0 : Int32))] [] := by first | (simp [entryFrame, mkF, argsToLocals, Value.category]; done) | rfl
def Q_rm_sch10 (Z : State) (G1 : Int32) (G3 : Value) (c0 : Int32) (a1 : Addr) (t1 : Addr) (k1 : ClassId) (h0 : Heap) (n0 : Nat) (v : Option Value) (h : Heap) (L : List Loc) : Prop := v = some (.int c0) ∧ Fr n0 L ∧ h = h0
set_option maxRecDepth 65536 in
set_option maxHeartbeats 40000000 in
theorem rm_sch10 (l : Launch) (Z : State) (a0 : Array Value) (hw : ∀ d ∈ tables_1, d.before a0 Z = true) (ws : List Jvm.Cond) (G1 : Int32) (G3 : Value) (c0 : Int32) (a1 : Addr) (t1 : Addr) (k1 : ClassId) (h0 : Heap) (n0 : Nat) (O0 : Old Z n0 h0) (hst : own_St Z G1 G3) (r0 : ¬ c0 < 0 ∧ ¬ (65535 : Int32) < c0) (E1 : Exa Z h0 a1 "java/lang/String") (F1 : Fld Z h0 a1 "java/lang/String" "coder" "B" (.int (1 : Int32))) (F2 : Fld Z h0 a1 "java/lang/String" "value" "[B" (.ref t1)) (V1 : Arv Z h0 t1 k1 .byte (2 : Int32) [(.int (StrChars.lo8 c0)), (.int (StrChars.hi8 c0))] (.int (0 : Int32))) :
    own_Met l Z (⟨"java/lang/String", "charAt", "(I)C"⟩ : MethodName) jdk_42_method_56_code 2 (some .char) ws ({ frames := 4, cells := 0, slots := 0, locals := 53 } : Room) #[(.ref a1), (.int (0 : Int32))] h0 (Q_rm_sch10 Z G1 G3 c0 a1 t1 k1 h0 n0) := by
  refine MetFree.of_bodySF (plainFor_of_name own_pn2) hisR ?_
  intro p e s m args below meth c s₁ Bd hml0 hP hK
  obtain ⟨rfl, hZ, hh⟩ := hP
  have hx := Bd.exec
  have hby := Bd.bytes
  have hml : c.maxLocals = 2 := hml0
  have hown : s.vm.findClass "java/lang/String" = some m.cls := findClass_of_methodNamed Bd.named
  have hnm := (name_of_methodNamed Bd.named Bd.method).1
  have hlk : meth.locks = false := Bd.notSynchronized
  have X0 : Stand p l e ({ frames := 4, cells := 0, slots := 0, locals := 53 } : Room) s m #[(.ref a1), (.int (0 : Int32))] below meth c s₁ [] 0 0 := Stand.of_body Bd
  have e0 : s₁.heap = h0 := by rw [← hh, Bd.state]; rfl
  have N0 := Fr.nil n0
  suffices hgo : own_Ok p e below (own_Qx s (Q_rm_sch10 Z G1 G3 c0 a1 t1 k1 h0 n0) 0 0) (s₁.setTop (mkF m 0 #[.val (.ref a1), .val (.int (0 : Int32))] [])) from by
    obtain ⟨s₂, o, h1, h2⟩ := hgo
    exact ⟨s₂, o, castTop (own_ef_rm_sch10 m a1) h1, h2⟩
  have hst' := hst
  obtain ⟨SG1, PG1, SG3, rG3, SAD, SHI, SLO⟩ := hst'
  show own_Ok p e below _ (s₁.setTop (mkF m 0 #[.val (.ref a1), .val (.int (0 : Int32))] []))
  refine s_aloadN X0 hx (hb hby own_d12_0) rfl rfl ?_
  obtain ⟨_, T101, Lc101, X101, hQ101, st101⟩ := own_callV X0 hx hZ hown (own_hw hw 60 rfl) (own_hw hw 61 rfl) (own_hw hw 63 rfl) (own_hw hw 63 rfl) (own_hw hw 62 rfl) (own_hw hw 7 rfl) (own_hw hw 64 rfl) (rm_isl l Z a0 hw [] G1 G3 a1 h0 n0 O0 hst F1) (by decide) e0 E1 (Ls := #[.val (.ref a1), .val (.int (0 : Int32))]) [] [] rfl (by rw [hml]; rfl) (lenOf own_pd5 rfl) (hb hby own_d12_1) (by decide) 0 rfl (by decide) (by decide) (by decide)
  obtain ⟨rfl, Nq101, e101⟩ := hQ101
  have N101 := Fr.app N0 Nq101
  refine st101 _ ?_
  show own_Ok p e below _ (T101.setTop (mkF m 4 #[.val (.ref a1), .val (.int (0 : Int32))] [(.int (0 : Int32))]))
  refine s_ifYes X101 hx 16 (hb hby own_d12_4) (XT.i0_eq_t (by decide)) (by decide) (by decide) ?_
  refine s_aloadN X101 hx (hb hby own_d12_16) rfl rfl ?_
  obtain ⟨T102, X102, e102, st102⟩ := getF X101 hx hZ hown (host := "") (Or.inl (own_hw hw 25 rfl)) Via.refl e101 F2 (g := (mkF m 17 #[.val (.ref a1), .val (.int (0 : Int32))] [(.ref a1)])) rfl rfl (hb hby own_d12_17)
  refine own_st st102 ?_
  show own_Ok p e below _ (T102.setTop (mkF m 20 #[.val (.ref a1), .val (.int (0 : Int32))] [(.ref t1)]))
  refine s_iloadN X102 hx (hb hby own_d12_20) rfl ?_
  obtain ⟨_, T103, Lc103, X103, hQ103, st103⟩ := own_callS X102 hx hZ hown (own_hw hw 96 rfl) (own_hw hw 97 rfl) (own_hw hw 44 rfl) (own_hw hw 98 rfl) (rm_uch10 l Z a0 hw [] G1 G3 c0 t1 k1 h0 n0 O0 hst r0 V1) (by decide) e102 (Ls := #[.val (.ref a1), .val (.int (0 : Int32))]) [(.ref t1), (.int (0 : Int32))] [] rfl (by rw [hml]; rfl) (lenOf own_pd4 rfl) (hb hby own_d12_21) (by decide) 0 rfl (by decide) (by decide) (by decide)
  obtain ⟨rfl, Nq103, e103⟩ := hQ103
  have N103 := Fr.app N101 Nq103
  refine st103 _ ?_
  show own_Ok p e below _ (T103.setTop (mkF m 24 #[.val (.ref a1), .val (.int (0 : Int32))] [(.int c0)]))
  exact own_retN X103 hx hlk (t := .char) Bd.returns (by simp) (hb hby own_d12_24) (by rw [e103]; exact ⟨by rw [own_narc r0.1 r0.2], N103, rfl⟩) (by decide) (by decide)
theorem own_d20_0 : decode jdk_52_method_4_code 0 = .ok (.getstatic 44, 3) := by decide +kernel
theorem own_d20_3 : decode jdk_52_method_4_code 3 = .ok (.ifCond .ne 25, 3) := by decide +kernel
theorem own_d20_28 : decode jdk_52_method_4_code 28 = .ok (.iload_n 1, 1) := by decide +kernel
theorem own_d20_29 : decode jdk_52_method_4_code 29 = .ok (.iconst 1, 1) := by decide +kernel
theorem own_d20_30 : decode jdk_52_method_4_code 30 = .ok (.ishl, 1) := by decide +kernel
theorem own_d20_31 : decode jdk_52_method_4_code 31 = .ok (.istore_n 1, 1) := by decide +kernel
theorem own_d20_32 : decode jdk_52_method_4_code 32 = .ok (.aload_n 0, 1) := by decide +kernel
theorem own_d20_33 : decode jdk_52_method_4_code 33 = .ok (.iload_n 1, 1) := by decide +kernel
theorem own_d20_34 : decode jdk_52_method_4_code 34 = .ok (.iinc 1 1, 3) := by decide +kernel
theorem own_d20_37 : decode jdk_52_method_4_code 37 = .ok (.iload_n 2, 1) := by decide +kernel
theorem own_d20_38 : decode jdk_52_method_4_code 38 = .ok (.getstatic 59, 3) := by decide +kernel
theorem own_d20_41 : decode jdk_52_method_4_code 41 = .ok (.ishr, 1) := by decide +kernel
theorem own_d20_42 : decode jdk_52_method_4_code 42 = .ok (.i2b, 1) := by decide +kernel
theorem own_d20_43 : decode jdk_52_method_4_code 43 = .ok (.bastore, 1) := by decide +kernel
theorem own_d20_44 : decode jdk_52_method_4_code 44 = .ok (.aload_n 0, 1) := by decide +kernel
theorem own_d20_45 : decode jdk_52_method_4_code 45 = .ok (.iload_n 1, 1) := by decide +kernel
theorem own_d20_46 : decode jdk_52_method_4_code 46 = .ok (.iload_n 2, 1) := by decide +kernel
theorem own_d20_47 : decode jdk_52_method_4_code 47 = .ok (.getstatic 63, 3) := by decide +kernel
theorem own_d20_50 : decode jdk_52_method_4_code 50 = .ok (.ishr, 1) := by decide +kernel
theorem own_d20_51 : decode jdk_52_method_4_code 51 = .ok (.i2b, 1) := by decide +kernel
theorem own_d20_52 : decode jdk_52_method_4_code 52 = .ok (.bastore, 1) := by decide +kernel
theorem own_d20_53 : decode jdk_52_method_4_code 53 = .ok (.return_, 1) := by decide +kernel
theorem own_ef_rm_pch10 (m : MethodId) (t1 : Addr) (cz : Int32) : entryFrame m #[(.ref t1), (.int (0 : Int32)), (.int cz)] 3 = mkF m 0 #[.val (.ref t1), .val (.int (0 : Int32)), .val (.int cz)] [] := by first | (simp [entryFrame, mkF, argsToLocals, Value.category]; done) | rfl
def Q_rm_pch10 (Z : State) (G1 : Int32) (G3 : Value) (t1 : Addr) (k1 : ClassId) (cz : Int32) (v0 : Value) (v1 : Value) (h0 : Heap) (n0 : Nat) (v : Option Value) (h : Heap) (L : List Loc) : Prop := v = none ∧ Fr n0 L ∧ Keep h0 h [t1] ∧ Arv Z h t1 k1 .byte (2 : Int32) [(.int (StrChars.lo8 cz)), (.int (StrChars.hi8 cz))] (.int (0 : Int32))
set_option maxRecDepth 65536 in
set_option maxHeartbeats 40000000 in
theorem rm_pch10 (l : Launch) (Z : State) (a0 : Array Value) (hw : ∀ d ∈ tables_1, d.before a0 Z = true) (ws : List Jvm.Cond) (G1 : Int32) (G3 : Value) (t1 : Addr) (k1 : ClassId) (cz : Int32) (v0 : Value) (v1 : Value) (h0 : Heap) (n0 : Nat) (O0 : Old Z n0 h0) (hst : own_St Z G1 G3) (V1 : Arv Z h0 t1 k1 .byte (2 : Int32) [v0, v1] (.int (0 : Int32))) (g1 : n0 ≤ t1) :
    own_Met l Z (⟨"java/lang/StringUTF16", "putChar", "([BII)V"⟩ : MethodName) jdk_52_method_4_code 3 none ws ({ frames := 0, cells := 0, slots := 0, locals := 0 } : Room) #[(.ref t1), (.int (0 : Int32)), (.int cz)] h0 (Q_rm_pch10 Z G1 G3 t1 k1 cz v0 v1 h0 n0) := by
  refine MetFree.of_bodySF (plainFor_of_name own_pn3) hisR ?_
  intro p e s m args below meth c s₁ Bd hml0 hP hK
  obtain ⟨rfl, hZ, hh⟩ := hP
  have hx := Bd.exec
  have hby := Bd.bytes
  have hml : c.maxLocals = 3 := hml0
  have hown : s.vm.findClass "java/lang/StringUTF16" = some m.cls := findClass_of_methodNamed Bd.named
  have hnm := (name_of_methodNamed Bd.named Bd.method).1
  have hlk : meth.locks = false := Bd.notSynchronized
  have X0 : Stand p l e ({ frames := 0, cells := 0, slots := 0, locals := 0 } : Room) s m #[(.ref t1), (.int (0 : Int32)), (.int cz)] below meth c s₁ [] 0 0 := Stand.of_body Bd
  have e0 : s₁.heap = h0 := by rw [← hh, Bd.state]; rfl
  have N0 := Fr.nil n0
  suffices hgo : own_Ok p e below (own_Qx s (Q_rm_pch10 Z G1 G3 t1 k1 cz v0 v1 h0 n0) 0 0) (s₁.setTop (mkF m 0 #[.val (.ref t1), .val (.int (0 : Int32)), .val (.int cz)] [])) from by
    obtain ⟨s₂, o, h1, h2⟩ := hgo
    exact ⟨s₂, o, castTop (own_ef_rm_pch10 m t1 cz) h1, h2⟩
  have hst' := hst
  obtain ⟨SG1, PG1, SG3, rG3, SAD, SHI, SLO⟩ := hst'
  show own_Ok p e below _ (s₁.setTop (mkF m 0 #[.val (.ref t1), .val (.int (0 : Int32)), .val (.int cz)] []))
  obtain ⟨T101, X101, e101, st101⟩ := getS2 X0 hx hZ hown (host := "") (Or.inl (own_hw hw 90 rfl)) Via.refl e0 (SAD.ext O0.2) (g := (mkF m 0 #[.val (.ref t1), .val (.int (0 : Int32)), .val (.int cz)] [])) rfl (hb hby own_d20_0)
  refine own_st st101 ?_
  show own_Ok p e below _ (T101.setTop (mkF m 3 #[.val (.ref t1), .val (.int (0 : Int32)), .val (.int cz)] [(.int (1 : Int32))]))
  refine s_ifYes X101 hx 28 (hb hby own_d20_3) (XT.i0_ne_t (by decide)) (by decide) (by decide) ?_
  refine s_iloadN X101 hx (hb hby own_d20_28) rfl ?_
  refine s_iconst X101 hx (1 : Int32) (hb hby own_d20_29) rfl ?_
  refine s_ishl X101 hx (hb hby own_d20_30) ?_
  show own_Ok p e below _ (T101.setTop (mkF m 31 #[.val (.ref t1), .val (.int (0 : Int32)), .val (.int cz)] [(.int (0 : Int32))]))
  refine s_istoreN X101 hx (hb hby own_d20_31) #[.val (.ref t1), .val (.int (0 : Int32)), .val (.int cz)] rfl ?_
  refine s_aloadN X101 hx (hb hby own_d20_32) rfl rfl ?_
  refine s_iloadN X101 hx (hb hby own_d20_33) rfl ?_
  refine s_iinc X101 hx (1 : Int32) (hb hby own_d20_34) rfl rfl #[.val (.ref t1), .val (.int (1 : Int32)), .val (.int cz)] rfl ?_
  show own_Ok p e below _ (T101.setTop (mkF m 37 #[.val (.ref t1), .val (.int (1 : Int32)), .val (.int cz)] [(.int (0 : Int32)), (.ref t1)]))
  refine s_iloadN X101 hx (hb hby own_d20_37) rfl ?_
  obtain ⟨T102, X102, e102, st102⟩ := getS2 X101 hx hZ hown (host := "") (Or.inl (own_hw hw 91 rfl)) Via.refl e101 (SHI.ext O0.2) (g := (mkF m 38 #[.val (.ref t1), .val (.int (1 : Int32)), .val (.int cz)] [(.int cz), (.int (0 : Int32)), (.ref t1)])) rfl (hb hby own_d20_38)
  refine own_st st102 ?_
  show own_Ok p e below _ (T102.setTop (mkF m 41 #[.val (.ref t1), .val (.int (1 : Int32)), .val (.int cz)] [(.int (0 : Int32)), (.int cz), (.int (0 : Int32)), (.ref t1)]))
  refine s_ishr X102 hx (hb hby own_d20_41) ?_
  refine s_i2b X102 hx (hb hby own_d20_42) ?_
  obtain ⟨T103, h103, X103, e103, W103, V103, st103⟩ := own_stB X102 hx hZ e102 V1 0 rfl (by decide) (by decide) (Nat.le_of_ble_eq_true rfl) (g := (mkF m 43 #[.val (.ref t1), .val (.int (1 : Int32)), .val (.int cz)] [(.int ((cz >>> ((0 : Int32) &&& 31)).toInt8.toInt32)), (.int (0 : Int32)), (.ref t1)])) rfl rfl (hb hby own_d20_43)
  refine own_st st103 ?_
  have V103' : Arv Z h103 t1 k1 .byte (2 : Int32) [(.int (nar .byte ((cz >>> ((0 : Int32) &&& 31)).toInt8.toInt32))), v1] (.int (0 : Int32)) := V103
  have N103 := Fr.snoc X103 N0 g1
  show own_Ok p e below _ (T103.setTop (mkF m 44 #[.val (.ref t1), .val (.int (1 : Int32)), .val (.int cz)] []))
  refine s_aloadN X103 hx (hb hby own_d20_44) rfl rfl ?_
  refine s_iloadN X103 hx (hb hby own_d20_45) rfl ?_
  refine s_iloadN X103 hx (hb hby own_d20_46) rfl ?_
  have f105 := O0.wr W103 g1
  obtain ⟨T104, X104, e104, st104⟩ := getS2 X103 hx hZ hown (host := "") (Or.inl (own_hw hw 92 rfl)) Via.refl e103 (SLO.ext f105.2) (g := (mkF m 47 #[.val (.ref t1), .val (.int (1 : Int32)), .val (.int cz)] [(.int cz), (.int (1 : Int32)), (.ref t1)])) rfl (hb hby own_d20_47)
  refine own_st st104 ?_
  show own_Ok p e below _ (T104.setTop (mkF m 50 #[.val (.ref t1), .val (.int (1 : Int32)), .val (.int cz)] [(.int (8 : Int32)), (.int cz), (.int (1 : Int32)), (.ref t1)]))
  refine s_ishr X104 hx (hb hby own_d20_50) ?_
  refine s_i2b X104 hx (hb hby own_d20_51) ?_
  obtain ⟨T106, h106, X106, e106, W106, V106, st106⟩ := own_stB X104 hx hZ e104 V103' 1 rfl (by decide) (by decide) (Nat.le_of_ble_eq_true rfl) (g := (mkF m 52 #[.val (.ref t1), .val (.int (1 : Int32)), .val (.int cz)] [(.int ((cz >>> ((8 : Int32) &&& 31)).toInt8.toInt32)), (.int (1 : Int32)), (.ref t1)])) rfl rfl (hb hby own_d20_52)
  refine own_st st106 ?_
  have V106' : Arv Z h106 t1 k1 .byte (2 : Int32) [(.int (nar .byte ((cz >>> ((0 : Int32) &&& 31)).toInt8.toInt32))), (.int (nar .byte ((cz >>> ((8 : Int32) &&& 31)).toInt8.toInt32)))] (.int (0 : Int32)) := V106
  have N106 := Fr.snoc X106 N103 g1
  show own_Ok p e below _ (T106.setTop (mkF m 53 #[.val (.ref t1), .val (.int (1 : Int32)), .val (.int cz)] []))
  have Vn : Arv Z h106 t1 k1 .byte (2 : Int32) [(.int (StrChars.lo8 cz)), (.int (StrChars.hi8 cz))] (.int (0 : Int32)) := by rw [← own_plo cz, ← own_phi cz]; exact V106'
  have f107 := (Keep.refl h0 [t1]).wr W103 (Or.inl (by simp))
  have f108 := f107.wr W106 (Or.inl (by simp))
  exact own_retV X106 hx hlk Bd.returns (hb hby own_d20_53) (by rw [e106]; exact ⟨rfl, N106, f108, Vn⟩) (by decide) (by decide)
theorem own_d18_0 : decode jdk_52_method_2_code 0 = .ok (.iload_n 0, 1) := by decide +kernel
theorem own_d18_1 : decode jdk_52_method_2_code 1 = .ok (.invokestatic 11, 3) := by decide +kernel
theorem own_pd6 : parseMethodDescriptor "(I)I" = some ⟨[.int], some .int⟩ := by decide +kernel
theorem own_d18_4 : decode jdk_52_method_2_code 4 = .ok (.newarray .byte, 2) := by decide +kernel
theorem own_d18_6 : decode jdk_52_method_2_code 6 = .ok (.areturn, 1) := by decide +kernel
theorem own_ef_rm_nbf1 (m : MethodId) : entryFrame m #[(.int (1 : Int32))] 1 = mkF m 0 #[.val (.int (1 : Int32))] [] := by first | (simp [entryFrame, mkF, argsToLocals, Value.category]; done) | rfl
def Q_rm_nbf1 (Z : State) (h0 : Heap) (n0 : Nat) (v : Option Value) (h : Heap) (L : List Loc) : Prop := ∃ (tb : Addr), ∃ (kb : ClassId), v = some (.ref tb) ∧ Fr n0 L ∧ Keep h0 h [] ∧ Arv Z h tb kb .byte (2 : Int32) [(.int (0 : Int32)), (.int (0 : Int32))] (.int (0 : Int32)) ∧ h0.size ≤ tb
set_option maxRecDepth 65536 in
set_option maxHeartbeats 40000000 in
theorem rm_nbf1 (l : Launch) (Z : State) (a0 : Array Value) (hw : ∀ d ∈ tables_1, d.before a0 Z = true) (ws : List Jvm.Cond) (h0 : Heap) (n0 : Nat) (O0 : Old Z n0 h0) :
    own_Met l Z (⟨"java/lang/StringUTF16", "newBytesFor", "(I)[B"⟩ : MethodName) jdk_52_method_2_code 1 (some (.array .byte)) ws ({ frames := 1, cells := 1, slots := 2, locals := 12 } : Room) #[(.int (1 : Int32))] h0 (Q_rm_nbf1 Z h0 n0) := by
  refine MetFree.of_bodySF (plainFor_of_name own_pn3) hisR ?_
  intro p e s m args below meth c s₁ Bd hml0 hP hK
  obtain ⟨rfl, hZ, hh⟩ := hP
  have hx := Bd.exec
  have hby := Bd.bytes
  have hml : c.maxLocals = 1 := hml0
  have hown : s.vm.findClass "java/lang/StringUTF16" = some m.cls := findClass_of_methodNamed Bd.named
  have hnm := (name_of_methodNamed Bd.named Bd.method).1
  have hlk : meth.locks = false := Bd.notSynchronized
  have X0 : Stand p l e ({ frames := 1, cells := 1, slots := 2, locals := 12 } : Room) s m #[(.int (1 : Int32))] below meth c s₁ [] 0 0 := Stand.of_body Bd
  have e0 : s₁.heap = h0 := by rw [← hh, Bd.state]; rfl
  have N0 := Fr.nil n0
  suffices hgo : own_Ok p e below (own_Qx s (Q_rm_nbf1 Z h0 n0) 1 2) (s₁.setTop (mkF m 0 #[.val (.int (1 : Int32))] [])) from by
    obtain ⟨s₂, o, h1, h2⟩ := hgo
    exact ⟨s₂, o, castTop (own_ef_rm_nbf1 m) h1, h2⟩
  show own_Ok p e below _ (s₁.setTop (mkF m 0 #[.val (.int (1 : Int32))] []))
  refine s_iloadN X0 hx (hb hby own_d18_0) rfl ?_
  obtain ⟨_, T101, Lc101, X101, hQ101, st101⟩ := own_callS X0 hx hZ hown (own_hw hw 83 rfl) (own_hw hw 84 rfl) (own_hw hw 44 rfl) (own_hw hw 85 rfl) (rm_nbl l Z a0 hw [] ((1 : Int32)) h0 n0 O0 (by decide) (by decide)) (by decide) e0 (Ls := #[.val (.int (1 : Int32))]) [(.int (1 : Int32))] [] rfl (by rw [hml]; rfl) (lenOf own_pd6 rfl) (hb hby own_d18_1) (by decide) 0 rfl (by decide) (by decide) (by decide)
  obtain ⟨rfl, Nq101, e101⟩ := hQ101
  have N101 := Fr.app N0 Nq101
  refine st101 _ ?_
  show own_Ok p e below _ (T101.setTop (mkF m 4 #[.val (.int (1 : Int32))] [(.int ((1 : Int32) <<< ((1 : Int32) &&& 31)))]))
  rw [show ((1 : Int32) <<< ((1 : Int32) &&& 31)) = (2 : Int32) from by decide]
  show own_Ok p e below _ (T101.setTop (mkF m 4 #[.val (.int (1 : Int32))] [(.int (2 : Int32))]))
  show own_Ok p e below _ (T101.setTop (mkF m 4 #[.val (.int (1 : Int32))] [(.int (2 : Int32))]))
  obtain ⟨T102, h102, k102, X102, e102, E102, A102, st102⟩ := newP X101 hx hZ (own_hw hw 20 rfl) e101 (g := (mkF m 4 #[.val (.int (1 : Int32))] [(.int (2 : Int32))])) rfl (hb hby own_d18_4) rfl (by decide) (cap := 2) (by decide) (by decide) (by decide) (by decide)
  obtain ⟨b102, g102⟩ : ∃ z, z = h0.size := ⟨_, rfl⟩
  rw [← g102] at A102 st102
  refine own_st st102 ?_
  have gb_b102 : n0 ≤ b102 := Nat.le_trans (own_n0 O0) (Nat.le_of_eq g102.symm)
  have gz_b102 : h0.size ≤ b102 := Nat.le_trans (Keep.refl h0 []).1 (Nat.le_of_eq g102.symm)
  have V102 : Arv Z h102 b102 k102 .byte (2 : Int32) [(.int (0 : Int32)), (.int (0 : Int32))] (.int (0 : Int32)) := (Arv.new A102 (by decide)).pad (pad_rep [] (.int (0 : Int32)) 2)
  show own_Ok p e below _ (T102.setTop (mkF m 6 #[.val (.int (1 : Int32))] [(.ref b102)]))
  have f103 := (Keep.refl h0 []).ext E102
  exact own_retA X102 hx hlk (t := (.array .byte)) rfl Bd.returns rfl (hb hby own_d18_6) (by rw [e102]; exact ⟨b102, k102, rfl, N101, f103, V102, gz_b102⟩) (by decide) (by decide)
theorem own_d17_0 : decode jdk_52_method_14_code 0 = .ok (.iload_n 2, 1) := by decide +kernel
theorem own_d17_1 : decode jdk_52_method_14_code 1 = .ok (.invokestatic 107, 3) := by decide +kernel
theorem own_pd7 : parseMethodDescriptor "(I)[B" = some ⟨[.int], some (.array .byte)⟩ := by decide +kernel
theorem own_d17_4 : decode jdk_52_method_14_code 4 = .ok (.astore_n 3, 1) := by decide +kernel
theorem own_d17_5 : decode jdk_52_method_14_code 5 = .ok (.iconst 0, 1) := by decide +kernel
theorem own_d17_6 : decode jdk_52_method_14_code 6 = .ok (.istore 4, 2) := by decide +kernel
theorem own_d17_8 : decode jdk_52_method_14_code 8 = .ok (.iload 4, 2) := by decide +kernel
theorem own_d17_10 : decode jdk_52_method_14_code 10 = .ok (.iload_n 2, 1) := by decide +kernel
theorem own_d17_11 : decode jdk_52_method_14_code 11 = .ok (.if_icmp .ge 21, 3) := by decide +kernel
theorem own_d17_14 : decode jdk_52_method_14_code 14 = .ok (.aload_n 3, 1) := by decide +kernel
theorem own_d17_15 : decode jdk_52_method_14_code 15 = .ok (.iload 4, 2) := by decide +kernel
theorem own_d17_17 : decode jdk_52_method_14_code 17 = .ok (.aload_n 0, 1) := by decide +kernel
theorem own_d17_18 : decode jdk_52_method_14_code 18 = .ok (.iload_n 1, 1) := by decide +kernel
theorem own_d17_19 : decode jdk_52_method_14_code 19 = .ok (.caload, 1) := by decide +kernel
theorem own_d17_20 : decode jdk_52_method_14_code 20 = .ok (.invokestatic 111, 3) := by decide +kernel
theorem own_pd8 : parseMethodDescriptor "([BII)V" = some ⟨[(.array .byte), .int, .int], none⟩ := by decide +kernel
theorem own_d17_23 : decode jdk_52_method_14_code 23 = .ok (.iinc 1 1, 3) := by decide +kernel
theorem own_d17_26 : decode jdk_52_method_14_code 26 = .ok (.iinc 4 1, 3) := by decide +kernel
theorem own_d17_29 : decode jdk_52_method_14_code 29 = .ok (.goto (-21), 3) := by decide +kernel
theorem own_d17_32 : decode jdk_52_method_14_code 32 = .ok (.aload_n 3, 1) := by decide +kernel
theorem own_d17_33 : decode jdk_52_method_14_code 33 = .ok (.areturn, 1) := by decide +kernel
theorem own_ef_rm_tob1 (m : MethodId) (ch : Addr) : entryFrame m #[(.ref ch), (.int (0 : Int32)), (.int (1 : Int32))] 5 = mkF m 0 #[.val (.ref ch), .val (.int (0 : Int32)), .val (.int (1 : Int32)), .unset, .unset] [] := by first | (simp [entryFrame, mkF, argsToLocals, Value.category]; done) | rfl
def Q_rm_tob1 (Z : State) (G1 : Int32) (G3 : Value) (c0 : Int32) (ch : Addr) (kc : ClassId) (h0 : Heap) (n0 : Nat) (v : Option Value) (h : Heap) (L : List Loc) : Prop := ∃ (tb : Addr), ∃ (kb : ClassId), v = some (.ref tb) ∧ Fr n0 L ∧ Keep h0 h [] ∧ Arv Z h tb kb .byte (2 : Int32) [(.int (StrChars.lo8 c0)), (.int (StrChars.hi8 c0))] (.int (0 : Int32)) ∧ h0.size ≤ tb
set_option maxRecDepth 65536 in
set_option maxHeartbeats 40000000 in
theorem rm_tob1 (l : Launch) (Z : State) (a0 : Array Value) (hw : ∀ d ∈ tables_1, d.before a0 Z = true) (ws : List Jvm.Cond) (G1 : Int32) (G3 : Value) (c0 : Int32) (ch : Addr) (kc : ClassId) (h0 : Heap) (n0 : Nat) (O0 : Old Z n0 h0) (hst : own_St Z G1 G3) (VC : Arv Z h0 ch kc .char (1 : Int32) [(.int c0)] (.int (0 : Int32))) :
    own_Met l Z (⟨"java/lang/StringUTF16", "toBytes", "([CII)[B"⟩ : MethodName) jdk_52_method_14_code 5 (some (.array .byte)) ws ({ frames := 2, cells := 1, slots := 2, locals := 24 } : Room) #[(.ref ch), (.int (0 : Int32)), (.int (1 : Int32))] h0 (Q_rm_tob1 Z G1 G3 c0 ch kc h0 n0) := by
  refine MetFree.of_bodySF (plainFor_of_name own_pn3) hisR ?_
  intro p e s m args below meth c s₁ Bd hml0 hP hK
  obtain ⟨rfl, hZ, hh⟩ := hP
  have hx := Bd.exec
  have hby := Bd.bytes
  have hml : c.maxLocals = 5 := hml0
  have hown : s.vm.findClass "java/lang/StringUTF16" = some m.cls := findClass_of_methodNamed Bd.named
  have hnm := (name_of_methodNamed Bd.named Bd.method).1
  have hlk : meth.locks = false := Bd.notSynchronized
  have X0 : Stand p l e ({ frames := 2, cells := 1, slots := 2, locals := 24 } : Room) s m #[(.ref ch), (.int (0 : Int32)), (.int (1 : Int32))] below meth c s₁ [] 0 0 := Stand.of_body Bd
  have e0 : s₁.heap = h0 := by rw [← hh, Bd.state]; rfl
  have N0 := Fr.nil n0
  suffices hgo : own_Ok p e below (own_Qx s (Q_rm_tob1 Z G1 G3 c0 ch kc h0 n0) 1 2) (s₁.setTop (mkF m 0 #[.val (.ref ch), .val (.int (0 : Int32)), .val (.int (1 : Int32)), .unset, .unset] [])) from by
    obtain ⟨s₂, o, h1, h2⟩ := hgo
    exact ⟨s₂, o, castTop (own_ef_rm_tob1 m ch) h1, h2⟩
  have hst' := hst
  obtain ⟨SG1, PG1, SG3, rG3, SAD, SHI, SLO⟩ := hst'
  show own_Ok p e below _ (s₁.setTop (mkF m 0 #[.val (.ref ch), .val (.int (0 : Int32)), .val (.int (1 : Int32)), .unset, .unset] []))
  refine s_iloadN X0 hx (hb hby own_d17_0) rfl ?_
  obtain ⟨_, T101, Lc101, X101, hQ101, st101⟩ := own_callS X0 hx hZ hown (own_hw hw 80 rfl) (own_hw hw 81 rfl) (own_hw hw 44 rfl) (own_hw hw 82 rfl) (rm_nbf1 l Z a0 hw [] h0 n0 O0) (by decide) e0 (Ls := #[.val (.ref ch), .val (.int (0 : Int32)), .val (.int (1 : Int32)), .unset, .unset]) [(.int (1 : Int32))] [] rfl (by rw [hml]; rfl) (lenOf own_pd7 rfl) (hb hby own_d17_1) (by decide) 0 rfl (by decide) (by decide) (by decide)
  obtain ⟨tb_101, kb_101, rfl, Nq101, K101, g101_0, gs_tb_101⟩ := hQ101
  have N101 := Fr.app N0 Nq101
  refine st101 _ ?_
  have gb_tb_101 : n0 ≤ tb_101 := Nat.le_trans (own_n0 O0) gs_tb_101
  have gz_tb_101 : h0.size ≤ tb_101 := Nat.le_trans (Keep.refl h0 []).1 gs_tb_101
  have ne_ch_tb_101 : ch ≠ tb_101 := Nat.ne_of_lt (Nat.lt_of_lt_of_le VC.lt gs_tb_101)
  have e101 : T101.heap = T101.heap := rfl
  show own_Ok p e below _ (T101.setTop (mkF m 4 #[.val (.ref ch), .val (.int (0 : Int32)), .val (.int (1 : Int32)), .unset, .unset] [(.ref tb_101)]))
  refine s_astoreN X101 hx (hb hby own_d17_4) rfl #[.val (.ref ch), .val (.int (0 : Int32)), .val (.int (1 : Int32)), .val (.ref tb_101), .unset] rfl ?_
  refine s_iconst X101 hx (0 : Int32) (hb hby own_d17_5) rfl ?_
  refine s_istore X101 hx (hb hby own_d17_6) #[.val (.ref ch), .val (.int (0 : Int32)), .val (.int (1 : Int32)), .val (.ref tb_101), .val (.int (0 : Int32))] rfl ?_
  refine s_iload X101 hx (hb hby own_d17_8) rfl ?_
  refine s_iloadN X101 hx (hb hby own_d17_10) rfl ?_
  refine s_icmpNo X101 hx (hb hby own_d17_11) (XT.ii_ge_f (by decide)) ?_
  refine s_aloadN X101 hx (hb hby own_d17_14) rfl rfl ?_
  refine s_iload X101 hx (hb hby own_d17_15) rfl ?_
  refine s_aloadN X101 hx (hb hby own_d17_17) rfl rfl ?_
  refine s_iloadN X101 hx (hb hby own_d17_18) rfl ?_
  have f102 := VC.keep K101 nin0
  refine own_st (own_ldC X101 hx hZ e101 f102 (by decide) (by decide) (v := c0) rfl (g := (mkF m 19 #[.val (.ref ch), .val (.int (0 : Int32)), .val (.int (1 : Int32)), .val (.ref tb_101), .val (.int (0 : Int32))] [(.int (0 : Int32)), (.ref ch), (.int (0 : Int32)), (.ref tb_101)])) rfl rfl (hb hby own_d17_19)) ?_
  show own_Ok p e below _ (T101.setTop (mkF m 20 #[.val (.ref ch), .val (.int (0 : Int32)), .val (.int (1 : Int32)), .val (.ref tb_101), .val (.int (0 : Int32))] [(.int c0), (.int (0 : Int32)), (.ref tb_101)]))
  have f104 := O0.keep K101 all0
  obtain ⟨_, T103, Lc103, X103, hQ103, st103⟩ := own_callS X101 hx hZ hown (own_hw hw 87 rfl) (own_hw hw 88 rfl) (own_hw hw 44 rfl) (own_hw hw 89 rfl) (rm_pch10 l Z a0 hw [] G1 G3 tb_101 kb_101 c0 ((.int (0 : Int32))) ((.int (0 : Int32))) T101.heap n0 f104 hst g101_0 gb_tb_101) (by decide) e101 (Ls := #[.val (.ref ch), .val (.int (0 : Int32)), .val (.int (1 : Int32)), .val (.ref tb_101), .val (.int (0 : Int32))]) [(.ref tb_101), (.int (0 : Int32)), (.int c0)] [] rfl (by rw [hml]; rfl) (lenOf own_pd8 rfl) (hb hby own_d17_20) (by decide) 0 rfl (by decide) (by decide) (by decide)
  obtain ⟨rfl, Nq103, K103, g103_0⟩ := hQ103
  have N103 := Fr.app N101 Nq103
  refine st103 _ ?_
  have e103 : T103.heap = T103.heap := rfl
  show own_Ok p e below _ (T103.setTop (mkF m 23 #[.val (.ref ch), .val (.int (0 : Int32)), .val (.int (1 : Int32)), .val (.ref tb_101), .val (.int (0 : Int32))] []))
  refine s_iinc X103 hx (1 : Int32) (hb hby own_d17_23) rfl rfl #[.val (.ref ch), .val (.int (1 : Int32)), .val (.int (1 : Int32)), .val (.ref tb_101), .val (.int (0 : Int32))] rfl ?_
  refine s_iinc X103 hx (1 : Int32) (hb hby own_d17_26) rfl rfl #[.val (.ref ch), .val (.int (1 : Int32)), .val (.int (1 : Int32)), .val (.ref tb_101), .val (.int (1 : Int32))] rfl ?_
  refine s_goto X103 hx 8 (hb hby own_d17_29) (by decide) (by decide) ?_
  refine s_iload X103 hx (hb hby own_d17_8) rfl ?_
  refine s_iloadN X103 hx (hb hby own_d17_10) rfl ?_
  refine s_icmpYes X103 hx 32 (hb hby own_d17_11) (XT.ii_ge_t (by decide)) (by decide) (by decide) ?_
  refine s_aloadN X103 hx (hb hby own_d17_32) rfl rfl ?_
  have f105 := (Keep.refl h0 []).trans K101 all0
  have f106 := f105.trans K103 (allS (Or.inr gz_tb_101) all0)
  exact own_retA X103 hx hlk (t := (.array .byte)) rfl Bd.returns rfl (hb hby own_d17_33) (by rw [e103]; exact ⟨tb_101, kb_101, rfl, N103, f106, g103_0, gz_tb_101⟩) (by decide) (by decide)
theorem own_d10_0 : decode jdk_52_method_15_code 0 = .ok (.iload_n 1, 1) := by decide +kernel
theorem own_d10_1 : decode jdk_52_method_15_code 1 = .ok (.aload_n 0, 1) := by decide +kernel
theorem own_d10_2 : decode jdk_52_method_15_code 2 = .ok (.arraylength, 1) := by decide +kernel
theorem own_d10_3 : decode jdk_52_method_15_code 3 = .ok (.isub, 1) := by decide +kernel
theorem own_d10_4 : decode jdk_52_method_15_code 4 = .ok (.bipush 31, 2) := by decide +kernel
theorem own_d10_6 : decode jdk_52_method_15_code 6 = .ok (.iushr, 1) := by decide +kernel
theorem own_d10_7 : decode jdk_52_method_15_code 7 = .ok (.i2b, 1) := by decide +kernel
theorem own_d10_8 : decode jdk_52_method_15_code 8 = .ok (.ireturn, 1) := by decide +kernel
theorem own_ef_rm_cfl1 (m : MethodId) (t1 : Addr) : entryFrame m #[(.ref t1), (.int (1 : Int32))] 2 = mkF m 0 #[.val (.ref t1), .val (.int (1 : Int32))] [] := by first | (simp [entryFrame, mkF, argsToLocals, Value.category]; done) | rfl
def Q_rm_cfl1 (Z : State) (c0 : Int32) (t1 : Addr) (k1 : ClassId) (h0 : Heap) (n0 : Nat) (v : Option Value) (h : Heap) (L : List Loc) : Prop := v = some (.int (1 : Int32)) ∧ Fr n0 L ∧ h = h0
set_option maxRecDepth 65536 in
set_option maxHeartbeats 40000000 in
theorem rm_cfl1 (l : Launch) (Z : State) (a0 : Array Value) (hw : ∀ d ∈ tables_1, d.before a0 Z = true) (ws : List Jvm.Cond) (c0 : Int32) (t1 : Addr) (k1 : ClassId) (h0 : Heap) (n0 : Nat) (O0 : Old Z n0 h0) (V1 : Arv Z h0 t1 k1 .byte (2 : Int32) [(.int (StrChars.lo8 c0)), (.int (StrChars.hi8 c0))] (.int (0 : Int32))) :
    own_Met l Z (⟨"java/lang/StringUTF16", "coderFromArrayLen", "([BI)B"⟩ : MethodName) jdk_52_method_15_code 2 (some .byte) ws ({ frames := 0, cells := 0, slots := 0, locals := 0 } : Room) #[(.ref t1), (.int (1 : Int32))] h0 (Q_rm_cfl1 Z c0 t1 k1 h0 n0) := by
  refine MetFree.of_bodySF (plainFor_of_name own_pn3) hisR ?_
  intro p e s m args below meth c s₁ Bd hml0 hP hK
  obtain ⟨rfl, hZ, hh⟩ := hP
  have hx := Bd.exec
  have hby := Bd.bytes
  have hml : c.maxLocals = 2 := hml0
  have hown : s.vm.findClass "java/lang/StringUTF16" = some m.cls := findClass_of_methodNamed Bd.named
  have hnm := (name_of_methodNamed Bd.named Bd.method).1
  have hlk : meth.locks = false := Bd.notSynchronized
  have X0 : Stand p l e ({ frames := 0, cells := 0, slots := 0, locals := 0 } : Room) s m #[(.ref t1), (.int (1 : Int32))] below meth c s₁ [] 0 0 := Stand.of_body Bd
  have e0 : s₁.heap = h0 := by rw [← hh, Bd.state]; rfl
  have N0 := Fr.nil n0
  suffices hgo : own_Ok p e below (own_Qx s (Q_rm_cfl1 Z c0 t1 k1 h0 n0) 0 0) (s₁.setTop (mkF m 0 #[.val (.ref t1), .val (.int (1 : Int32))] [])) from by
    obtain ⟨s₂, o, h1, h2⟩ := hgo
    exact ⟨s₂, o, castTop (own_ef_rm_cfl1 m t1) h1, h2⟩
  show own_Ok p e below _ (s₁.setTop (mkF m 0 #[.val (.ref t1), .val (.int (1 : Int32))] []))
  refine s_iloadN X0 hx (hb hby own_d10_0) rfl ?_
  refine s_aloadN X0 hx (hb hby own_d10_1) rfl rfl ?_
  refine own_st (own_len X0 hx hZ e0 V1 (g := (mkF m 2 #[.val (.ref t1), .val (.int (1 : Int32))] [(.ref t1), (.int (1 : Int32))])) rfl rfl (hb hby own_d10_2)) ?_
  show own_Ok p e below _ (s₁.setTop (mkF m 3 #[.val (.ref t1), .val (.int (1 : Int32))] [(.int (2 : Int32)), (.int (1 : Int32))]))
  refine s_isub X0 hx (hb hby own_d10_3) ?_
  show own_Ok p e below _ (s₁.setTop (mkF m 4 #[.val (.ref t1), .val (.int (1 : Int32))] [(.int (-1 : Int32))]))
  refine s_bipush X0 hx (31 : Int32) (hb hby own_d10_4) rfl ?_
  refine s_iushr X0 hx (hb hby own_d10_6) ?_
  show own_Ok p e below _ (s₁.setTop (mkF m 7 #[.val (.ref t1), .val (.int (1 : Int32))] [(.int (1 : Int32))]))
  refine s_i2b X0 hx (hb hby own_d10_7) ?_
  show own_Ok p e below _ (s₁.setTop (mkF m 8 #[.val (.ref t1), .val (.int (1 : Int32))] [(.int (1 : Int32))]))
  exact own_retN X0 hx hlk (t := .byte) Bd.returns (by simp) (hb hby own_d10_8) (by rw [e0]; exact ⟨rfl, N0, rfl⟩) (by decide) (by decide)
theorem own_d9_0 : decode jdk_52_method_21_code 0 = .ok (.iconst 0, 1) := by decide +kernel
theorem own_d9_1 : decode jdk_52_method_21_code 1 = .ok (.istore 5, 2) := by decide +kernel
theorem own_d9_3 : decode jdk_52_method_21_code 3 = .ok (.iload 5, 2) := by decide +kernel
theorem own_d9_5 : decode jdk_52_method_21_code 5 = .ok (.iload 4, 2) := by decide +kernel
theorem own_d9_7 : decode jdk_52_method_21_code 7 = .ok (.if_icmp .ge 37, 3) := by decide +kernel
theorem own_d9_10 : decode jdk_52_method_21_code 10 = .ok (.aload_n 0, 1) := by decide +kernel
theorem own_d9_11 : decode jdk_52_method_21_code 11 = .ok (.iload_n 1, 1) := by decide +kernel
theorem own_d9_12 : decode jdk_52_method_21_code 12 = .ok (.caload, 1) := by decide +kernel
theorem own_d9_13 : decode jdk_52_method_21_code 13 = .ok (.istore 6, 2) := by decide +kernel
theorem own_d9_15 : decode jdk_52_method_21_code 15 = .ok (.iload 6, 2) := by decide +kernel
theorem own_d9_17 : decode jdk_52_method_21_code 17 = .ok (.sipush 255, 3) := by decide +kernel
theorem own_d9_20 : decode jdk_52_method_21_code 20 = .ok (.if_icmp .le 6, 3) := by decide +kernel
theorem own_d9_23 : decode jdk_52_method_21_code 23 = .ok (.iload 5, 2) := by decide +kernel
theorem own_d9_25 : decode jdk_52_method_21_code 25 = .ok (.ireturn, 1) := by decide +kernel
theorem own_ef_rm_cmpa10 (m : MethodId) (ch : Addr) (t1 : Addr) : entryFrame m #[(.ref ch), (.int (0 : Int32)), (.ref t1), (.int (0 : Int32)), (.int (1 : Int32))] 7 = mkF m 0 #[.val (.ref ch), .val (.int (0 : Int32)), .val (.ref t1), .val (.int (0 : Int32)), .val (.int (1 : Int32)), .unset, .unset] [] := by first | (simp [entryFrame, mkF, argsToLocals, Value.category]; done) | rfl
def Q_rm_cmpa10 (Z : State) (c0 : Int32) (ch : Addr) (kc : ClassId) (t1 : Addr) (k1 : ClassId) (h0 : Heap) (n0 : Nat) (v : Option Value) (h : Heap) (L : List Loc) : Prop := v = some (.int (0 : Int32)) ∧ Fr n0 L ∧ Keep h0 h [t1]
set_option maxRecDepth 65536 in
set_option maxHeartbeats 40000000 in
theorem rm_cmpa10 (l : Launch) (Z : State) (a0 : Array Value) (hw : ∀ d ∈ tables_1, d.before a0 Z = true) (ws : List Jvm.Cond) (c0 : Int32) (ch : Addr) (kc : ClassId) (t1 : Addr) (k1 : ClassId) (h0 : Heap) (n0 : Nat) (O0 : Old Z n0 h0) (qf : (255 : Int32) < c0) (VC : Arv Z h0 ch kc .char (1 : Int32) [(.int c0)] (.int (0 : Int32))) (V1 : Arv Z h0 t1 k1 .byte (1 : Int32) [(.int (0 : Int32))] (.int (0 : Int32))) (g1 : n0 ≤ t1) (ne1 : ch ≠ t1) :
    own_Met l Z (⟨"java/lang/StringUTF16", "compress", "([CI[BII)I"⟩ : MethodName) jdk_52_method_21_code 7 (some .int) ws ({ frames := 0, cells := 0, slots := 0, locals := 0 } : Room) #[(.ref ch), (.int (0 : Int32)), (.ref t1), (.int (0 : Int32)), (.int (1 : Int32))] h0 (Q_rm_cmpa10 Z c0 ch kc t1 k1 h0 n0) := by
  refine MetFree.of_bodySF (plainFor_of_name own_pn3) hisR ?_
  intro p e s m args below meth c s₁ Bd hml0 hP hK
  obtain ⟨rfl, hZ, hh⟩ := hP
  have hx := Bd.exec
  have hby := Bd.bytes
  have hml : c.maxLocals = 7 := hml0
  have hown : s.vm.findClass "java/lang/StringUTF16" = some m.cls := findClass_of_methodNamed Bd.named
  have hnm := (name_of_methodNamed Bd.named Bd.method).1
  have hlk : meth.locks = false := Bd.notSynchronized
  have X0 : Stand p l e ({ frames := 0, cells := 0, slots := 0, locals := 0 } : Room) s m #[(.ref ch), (.int (0 : Int32)), (.ref t1), (.int (0 : Int32)), (.int (1 : Int32))] below meth c s₁ [] 0 0 := Stand.of_body Bd
  have e0 : s₁.heap = h0 := by rw [← hh, Bd.state]; rfl
  have N0 := Fr.nil n0
  suffices hgo : own_Ok p e below (own_Qx s (Q_rm_cmpa10 Z c0 ch kc t1 k1 h0 n0) 0 0) (s₁.setTop (mkF m 0 #[.val (.ref ch), .val (.int (0 : Int32)), .val (.ref t1), .val (.int (0 : Int32)), .val (.int (1 : Int32)), .unset, .unset] [])) from by
    obtain ⟨s₂, o, h1, h2⟩ := hgo
    exact ⟨s₂, o, castTop (own_ef_rm_cmpa10 m ch t1) h1, h2⟩
  show own_Ok p e below _ (s₁.setTop (mkF m 0 #[.val (.ref ch), .val (.int (0 : Int32)), .val (.ref t1), .val (.int (0 : Int32)), .val (.int (1 : Int32)), .unset, .unset] []))
  refine s_iconst X0 hx (0 : Int32) (hb hby own_d9_0) rfl ?_
  refine s_istore X0 hx (hb hby own_d9_1) #[.val (.ref ch), .val (.int (0 : Int32)), .val (.ref t1), .val (.int (0 : Int32)), .val (.int (1 : Int32)), .val (.int (0 : Int32)), .unset] rfl ?_
  refine s_iload X0 hx (hb hby own_d9_3) rfl ?_
  refine s_iload X0 hx (hb hby own_d9_5) rfl ?_
  refine s_icmpNo X0 hx (hb hby own_d9_7) (XT.ii_ge_f (by decide)) ?_
  refine s_aloadN X0 hx (hb hby own_d9_10) rfl rfl ?_
  refine s_iloadN X0 hx (hb hby own_d9_11) rfl ?_
  refine own_st (own_ldC X0 hx hZ e0 VC (by decide) (by decide) (v := c0) rfl (g := (mkF m 12 #[.val (.ref ch), .val (.int (0 : Int32)), .val (.ref t1), .val (.int (0 : Int32)), .val (.int (1 : Int32)), .val (.int (0 : Int32)), .unset] [(.int (0 : Int32)), (.ref ch)])) rfl rfl (hb hby own_d9_12)) ?_
  show own_Ok p e below _ (s₁.setTop (mkF m 13 #[.val (.ref ch), .val (.int (0 : Int32)), .val (.ref t1), .val (.int (0 : Int32)), .val (.int (1 : Int32)), .val (.int (0 : Int32)), .unset] [(.int c0)]))
  refine s_istore X0 hx (hb hby own_d9_13) #[.val (.ref ch), .val (.int (0 : Int32)), .val (.ref t1), .val (.int (0 : Int32)), .val (.int (1 : Int32)), .val (.int (0 : Int32)), .val (.int c0)] rfl ?_
  refine s_iload X0 hx (hb hby own_d9_15) rfl ?_
  refine s_sipush X0 hx (255 : Int32) (hb hby own_d9_17) rfl ?_
  refine s_icmpNo X0 hx (hb hby own_d9_20) (XT.ii_le_f qf) ?_
  refine s_iload X0 hx (hb hby own_d9_23) rfl ?_
  exact own_retI X0 hx hlk Bd.returns (hb hby own_d9_25) (by rw [e0]; exact ⟨rfl, N0, (Keep.refl h0 [t1])⟩) (by decide) (by decide)
theorem own_d8_0 : decode jdk_52_method_16_code 0 = .ok (.iload_n 2, 1) := by decide +kernel
theorem own_d8_1 : decode jdk_52_method_16_code 1 = .ok (.newarray .byte, 2) := by decide +kernel
theorem own_d8_3 : decode jdk_52_method_16_code 3 = .ok (.astore_n 3, 1) := by decide +kernel
theorem own_d8_4 : decode jdk_52_method_16_code 4 = .ok (.aload_n 0, 1) := by decide +kernel
theorem own_d8_5 : decode jdk_52_method_16_code 5 = .ok (.iload_n 1, 1) := by decide +kernel
theorem own_d8_6 : decode jdk_52_method_16_code 6 = .ok (.aload_n 3, 1) := by decide +kernel
theorem own_d8_7 : decode jdk_52_method_16_code 7 = .ok (.iconst 0, 1) := by decide +kernel
theorem own_d8_8 : decode jdk_52_method_16_code 8 = .ok (.iload_n 2, 1) := by decide +kernel
theorem own_d8_9 : decode jdk_52_method_16_code 9 = .ok (.invokestatic 115, 3) := by decide +kernel
theorem own_pd9 : parseMethodDescriptor "([CI[BII)I" = some ⟨[(.array .char), .int, (.array .byte), .int, .int], some .int⟩ := by decide +kernel
theorem own_d8_12 : decode jdk_52_method_16_code 12 = .ok (.istore 4, 2) := by decide +kernel
theorem own_d8_14 : decode jdk_52_method_16_code 14 = .ok (.iload 4, 2) := by decide +kernel
theorem own_d8_16 : decode jdk_52_method_16_code 16 = .ok (.iload_n 2, 1) := by decide +kernel
theorem own_d8_17 : decode jdk_52_method_16_code 17 = .ok (.if_icmp .eq 40, 3) := by decide +kernel
theorem own_d8_20 : decode jdk_52_method_16_code 20 = .ok (.aload_n 0, 1) := by decide +kernel
theorem own_d8_21 : decode jdk_52_method_16_code 21 = .ok (.iload_n 1, 1) := by decide +kernel
theorem own_d8_22 : decode jdk_52_method_16_code 22 = .ok (.iload_n 2, 1) := by decide +kernel
theorem own_d8_23 : decode jdk_52_method_16_code 23 = .ok (.invokestatic 119, 3) := by decide +kernel
theorem own_pd10 : parseMethodDescriptor "([CII)[B" = some ⟨[(.array .char), .int, .int], some (.array .byte)⟩ := by decide +kernel
theorem own_d8_26 : decode jdk_52_method_16_code 26 = .ok (.astore 5, 2) := by decide +kernel
theorem own_d8_28 : decode jdk_52_method_16_code 28 = .ok (.aload 5, 2) := by decide +kernel
theorem own_d8_30 : decode jdk_52_method_16_code 30 = .ok (.iload 4, 2) := by decide +kernel
theorem own_d8_32 : decode jdk_52_method_16_code 32 = .ok (.invokestatic 71, 3) := by decide +kernel
theorem own_d8_35 : decode jdk_52_method_16_code 35 = .ok (.sipush 255, 3) := by decide +kernel
theorem own_d8_38 : decode jdk_52_method_16_code 38 = .ok (.if_icmp .gt 16, 3) := by decide +kernel
theorem own_d8_54 : decode jdk_52_method_16_code 54 = .ok (.aload 5, 2) := by decide +kernel
theorem own_d8_56 : decode jdk_52_method_16_code 56 = .ok (.areturn, 1) := by decide +kernel
theorem own_ef_rm_cmpb10 (m : MethodId) (ch : Addr) : entryFrame m #[(.ref ch), (.int (0 : Int32)), (.int (1 : Int32))] 6 = mkF m 0 #[.val (.ref ch), .val (.int (0 : Int32)), .val (.int (1 : Int32)), .unset, .unset, .unset] [] := by first | (simp [entryFrame, mkF, argsToLocals, Value.category]; done) | rfl
def Q_rm_cmpb10 (Z : State) (G1 : Int32) (G3 : Value) (c0 : Int32) (ch : Addr) (kc : ClassId) (h0 : Heap) (n0 : Nat) (v : Option Value) (h : Heap) (L : List Loc) : Prop := ∃ (tb : Addr), ∃ (kb : ClassId), v = some (.ref tb) ∧ Fr n0 L ∧ Keep h0 h [] ∧ Arv Z h tb kb .byte (2 : Int32) [(.int (StrChars.lo8 c0)), (.int (StrChars.hi8 c0))] (.int (0 : Int32)) ∧ h0.size ≤ tb
set_option maxRecDepth 65536 in
set_option maxHeartbeats 40000000 in
theorem rm_cmpb10 (l : Launch) (Z : State) (a0 : Array Value) (hw : ∀ d ∈ tables_1, d.before a0 Z = true) (ws : List Jvm.Cond) (G1 : Int32) (G3 : Value) (c0 : Int32) (ch : Addr) (kc : ClassId) (h0 : Heap) (n0 : Nat) (O0 : Old Z n0 h0) (hst : own_St Z G1 G3) (r0 : ¬ c0 < 0 ∧ ¬ (65535 : Int32) < c0) (qf : (255 : Int32) < c0) (VC : Arv Z h0 ch kc .char (1 : Int32) [(.int c0)] (.int (0 : Int32))) :
    own_Met l Z (⟨"java/lang/StringUTF16", "compress", "([CII)[B"⟩ : MethodName) jdk_52_method_16_code 6 (some (.array .byte)) ws ({ frames := 3, cells := 2, slots := 3, locals := 40 } : Room) #[(.ref ch), (.int (0 : Int32)), (.int (1 : Int32))] h0 (Q_rm_cmpb10 Z G1 G3 c0 ch kc h0 n0) := by
  refine MetFree.of_bodySF (plainFor_of_name own_pn3) hisR ?_
  intro p e s m args below meth c s₁ Bd hml0 hP hK
  obtain ⟨rfl, hZ, hh⟩ := hP
  have hx := Bd.exec
  have hby := Bd.bytes
  have hml : c.maxLocals = 6 := hml0
  have hown : s.vm.findClass "java/lang/StringUTF16" = some m.cls := findClass_of_methodNamed Bd.named
  have hnm := (name_of_methodNamed Bd.named Bd.method).1
  have hlk : meth.locks = false := Bd.notSynchronized
  have X0 : Stand p l e ({ frames := 3, cells := 2, slots := 3, locals := 40 } : Room) s m #[(.ref ch), (.int (0 : Int32)), (.int (1 : Int32))] below meth c s₁ [] 0 0 := Stand.of_body Bd
  have e0 : s₁.heap = h0 := by rw [← hh, Bd.state]; rfl
  have N0 := Fr.nil n0
  suffices hgo : own_Ok p e below (own_Qx s (Q_rm_cmpb10 Z G1 G3 c0 ch kc h0 n0) 2 3) (s₁.setTop (mkF m 0 #[.val (.ref ch), .val (.int (0 : Int32)), .val (.int (1 : Int32)), .unset, .unset, .unset] [])) from by
    obtain ⟨s₂, o, h1, h2⟩ := hgo
    exact ⟨s₂, o, castTop (own_ef_rm_cmpb10 m ch) h1, h2⟩
  have hst' := hst
  obtain ⟨SG1, PG1, SG3, rG3, SAD, SHI, SLO⟩ := hst'
  show own_Ok p e below _ (s₁.setTop (mkF m 0 #[.val (.ref ch), .val (.int (0 : Int32)), .val (.int (1 : Int32)), .unset, .unset, .unset] []))
  refine s_iloadN X0 hx (hb hby own_d8_0) rfl ?_
  obtain ⟨T101, h101, k101, X101, e101, E101, A101, st101⟩ := newP X0 hx hZ (own_hw hw 20 rfl) e0 (g := (mkF m 1 #[.val (.ref ch), .val (.int (0 : Int32)), .val (.int (1 : Int32)), .unset, .unset, .unset] [(.int (1 : Int32))])) rfl (hb hby own_d8_1) rfl (by decide) (cap := 1) (by decide) (by decide) (by decide) (by decide)
  obtain ⟨b101, g101⟩ : ∃ z, z = h0.size := ⟨_, rfl⟩
  rw [← g101] at A101 st101
  refine own_st st101 ?_
  have gb_b101 : n0 ≤ b101 := Nat.le_trans (own_n0 O0) (Nat.le_of_eq g101.symm)
  have gz_b101 : h0.size ≤ b101 := Nat.le_trans (Keep.refl h0 []).1 (Nat.le_of_eq g101.symm)
  have ne_ch_b101 : ch ≠ b101 := Nat.ne_of_lt (Nat.lt_of_lt_of_le VC.lt (Nat.le_of_eq g101.symm))
  have V101 : Arv Z h101 b101 k101 .byte (1 : Int32) [(.int (0 : Int32))] (.int (0 : Int32)) := (Arv.new A101 (by decide)).pad (pad_rep [] (.int (0 : Int32)) 1)
  show own_Ok p e below _ (T101.setTop (mkF m 3 #[.val (.ref ch), .val (.int (0 : Int32)), .val (.int (1 : Int32)), .unset, .unset, .unset] [(.ref b101)]))
  refine s_astoreN X101 hx (hb hby own_d8_3) rfl #[.val (.ref ch), .val (.int (0 : Int32)), .val (.int (1 : Int32)), .val (.ref b101), .unset, .unset] rfl ?_
  refine s_aloadN X101 hx (hb hby own_d8_4) rfl rfl ?_
  refine s_iloadN X101 hx (hb hby own_d8_5) rfl ?_
  refine s_aloadN X101 hx (hb hby own_d8_6) rfl rfl ?_
  refine s_iconst X101 hx (0 : Int32) (hb hby own_d8_7) rfl ?_
  refine s_iloadN X101 hx (hb hby own_d8_8) rfl ?_
  have f103 := VC.ext E101
  have f104 := O0.ext E101
  obtain ⟨_, T102, Lc102, X102, hQ102, st102⟩ := own_callS X101 hx hZ hown (own_hw hw 46 rfl) (own_hw hw 47 rfl) (own_hw hw 44 rfl) (own_hw hw 48 rfl) (rm_cmpa10 l Z a0 hw [] c0 ch kc b101 k101 h101 n0 f104 qf f103 V101 gb_b101 ne_ch_b101) (by decide) e101 (Ls := #[.val (.ref ch), .val (.int (0 : Int32)), .val (.int (1 : Int32)), .val (.ref b101), .unset, .unset]) [(.ref ch), (.int (0 : Int32)), (.ref b101), (.int (0 : Int32)), (.int (1 : Int32))] [] rfl (by rw [hml]; rfl) (lenOf own_pd9 rfl) (hb hby own_d8_9) (by decide) 0 rfl (by decide) (by decide) (by decide)
  obtain ⟨rfl, Nq102, K102⟩ := hQ102
  have N102 := Fr.app N0 Nq102
  refine st102 _ ?_
  have e102 : T102.heap = T102.heap := rfl
  show own_Ok p e below _ (T102.setTop (mkF m 12 #[.val (.ref ch), .val (.int (0 : Int32)), .val (.int (1 : Int32)), .val (.ref b101), .unset, .unset] [(.int (0 : Int32))]))
  refine s_istore X102 hx (hb hby own_d8_12) #[.val (.ref ch), .val (.int (0 : Int32)), .val (.int (1 : Int32)), .val (.ref b101), .val (.int (0 : Int32)), .unset] rfl ?_
  refine s_iload X102 hx (hb hby own_d8_14) rfl ?_
  refine s_iloadN X102 hx (hb hby own_d8_16) rfl ?_
  refine s_icmpNo X102 hx (hb hby own_d8_17) (XT.ii_eq_f (by decide)) ?_
  refine s_aloadN X102 hx (hb hby own_d8_20) rfl rfl ?_
  refine s_iloadN X102 hx (hb hby own_d8_21) rfl ?_
  refine s_iloadN X102 hx (hb hby own_d8_22) rfl ?_
  have f106 := f103.keep K102 (ninS ne_ch_b101 nin0)
  have f107 := f104.keep K102 (allS gb_b101 all0)
  obtain ⟨_, T105, Lc105, X105, hQ105, st105⟩ := own_callS X102 hx hZ hown (own_hw hw 77 rfl) (own_hw hw 78 rfl) (own_hw hw 44 rfl) (own_hw hw 79 rfl) (rm_tob1 l Z a0 hw [] G1 G3 c0 ch kc T102.heap n0 f107 hst f106) (by decide) e102 (Ls := #[.val (.ref ch), .val (.int (0 : Int32)), .val (.int (1 : Int32)), .val (.ref b101), .val (.int (0 : Int32)), .unset]) [(.ref ch), (.int (0 : Int32)), (.int (1 : Int32))] [] rfl (by rw [hml]; rfl) (lenOf own_pd10 rfl) (hb hby own_d8_23) (by decide) 0 rfl (by decide) (by decide) (by decide)
  obtain ⟨tb_105, kb_105, rfl, Nq105, K105, g105_0, gs_tb_105⟩ := hQ105
  have N105 := Fr.app N102 Nq105
  refine st105 _ ?_
  have gb_tb_105 : n0 ≤ tb_105 := Nat.le_trans (own_n0 f107) gs_tb_105
  have f108 := (Keep.refl h0 []).ext E101
  have f109 := f108.trans K102 (allS (Or.inr gz_b101) all0)
  have gz_tb_105 : h0.size ≤ tb_105 := Nat.le_trans f109.1 gs_tb_105
  have ne_ch_tb_105 : ch ≠ tb_105 := Nat.ne_of_lt (Nat.lt_of_lt_of_le f106.lt gs_tb_105)
  have e105 : T105.heap = T105.heap := rfl
  show own_Ok p e below _ (T105.setTop (mkF m 26 #[.val (.ref ch), .val (.int (0 : Int32)), .val (.int (1 : Int32)), .val (.ref b101), .val (.int (0 : Int32)), .unset] [(.ref tb_105)]))
  refine s_astore X105 hx (hb hby own_d8_26) rfl #[.val (.ref ch), .val (.int (0 : Int32)), .val (.int (1 : Int32)), .val (.ref b101), .val (.int (0 : Int32)), .val (.ref tb_105)] rfl ?_
  refine s_aload X105 hx (hb hby own_d8_28) rfl rfl ?_
  refine s_iload X105 hx (hb hby own_d8_30) rfl ?_
  have f111 := f107.keep K105 all0
  obtain ⟨_, T110, Lc110, X110, hQ110, st110⟩ := own_callS X105 hx hZ hown (own_hw hw 93 rfl) (own_hw hw 94 rfl) (own_hw hw 44 rfl) (own_hw hw 95 rfl) (rm_gch10 l Z a0 hw [] G1 G3 c0 tb_105 kb_105 T105.heap n0 f111 hst r0 g105_0) (by decide) e105 (Ls := #[.val (.ref ch), .val (.int (0 : Int32)), .val (.int (1 : Int32)), .val (.ref b101), .val (.int (0 : Int32)), .val (.ref tb_105)]) [(.ref tb_105), (.int (0 : Int32))] [] rfl (by rw [hml]; rfl) (lenOf own_pd4 rfl) (hb hby own_d8_32) (by decide) 0 rfl (by decide) (by decide) (by decide)
  obtain ⟨rfl, Nq110, e110⟩ := hQ110
  have N110 := Fr.app N105 Nq110
  refine st110 _ ?_
  show own_Ok p e below _ (T110.setTop (mkF m 35 #[.val (.ref ch), .val (.int (0 : Int32)), .val (.int (1 : Int32)), .val (.ref b101), .val (.int (0 : Int32)), .val (.ref tb_105)] [(.int c0)]))
  refine s_sipush X110 hx (255 : Int32) (hb hby own_d8_35) rfl ?_
  refine s_icmpYes X110 hx 54 (hb hby own_d8_38) (XT.ii_gt_t qf) (by decide) (by decide) ?_
  refine s_aload X110 hx (hb hby own_d8_54) rfl rfl ?_
  have f112 := f109.trans K105 all0
  exact own_retA X110 hx hlk (t := (.array .byte)) rfl Bd.returns rfl (hb hby own_d8_56) (by rw [e110]; exact ⟨tb_105, kb_105, rfl, N110, f112, g105_0, gz_tb_105⟩) (by decide) (by decide)
theorem own_d3_0 : decode jdk_42_method_149_code 0 = .ok (.aload_n 0, 1) := by decide +kernel
theorem own_d3_1 : decode jdk_42_method_149_code 1 = .ok (.invokespecial 1, 3) := by decide +kernel
theorem own_d3_4 : decode jdk_42_method_149_code 4 = .ok (.iload_n 3, 1) := by decide +kernel
theorem own_d3_5 : decode jdk_42_method_149_code 5 = .ok (.ifCond .ne 22, 3) := by decide +kernel
theorem own_d3_27 : decode jdk_42_method_149_code 27 = .ok (.getstatic 38, 3) := by decide +kernel
theorem own_d3_30 : decode jdk_42_method_149_code 30 = .ok (.ifCond .eq 28, 3) := by decide +kernel
theorem own_d3_33 : decode jdk_42_method_149_code 33 = .ok (.aload_n 1, 1) := by decide +kernel
theorem own_d3_34 : decode jdk_42_method_149_code 34 = .ok (.iload_n 2, 1) := by decide +kernel
theorem own_d3_35 : decode jdk_42_method_149_code 35 = .ok (.iload_n 3, 1) := by decide +kernel
theorem own_d3_36 : decode jdk_42_method_149_code 36 = .ok (.invokestatic 177, 3) := by decide +kernel
theorem own_d3_39 : decode jdk_42_method_149_code 39 = .ok (.astore 5, 2) := by decide +kernel
theorem own_d3_41 : decode jdk_42_method_149_code 41 = .ok (.aload_n 0, 1) := by decide +kernel
theorem own_d3_42 : decode jdk_42_method_149_code 42 = .ok (.aload 5, 2) := by decide +kernel
theorem own_d3_44 : decode jdk_42_method_149_code 44 = .ok (.iload_n 3, 1) := by decide +kernel
theorem own_d3_45 : decode jdk_42_method_149_code 45 = .ok (.invokestatic 47, 3) := by decide +kernel
theorem own_pd11 : parseMethodDescriptor "([BI)B" = some ⟨[(.array .byte), .int], some .byte⟩ := by decide +kernel
theorem own_d3_48 : decode jdk_42_method_149_code 48 = .ok (.putfield 15, 3) := by decide +kernel
theorem own_d3_51 : decode jdk_42_method_149_code 51 = .ok (.aload_n 0, 1) := by decide +kernel
theorem own_d3_52 : decode jdk_42_method_149_code 52 = .ok (.aload 5, 2) := by decide +kernel
theorem own_d3_54 : decode jdk_42_method_149_code 54 = .ok (.putfield 9, 3) := by decide +kernel
theorem own_d3_57 : decode jdk_42_method_149_code 57 = .ok (.return_, 1) := by decide +kernel
theorem own_ef_rm_ini4_10 (m : MethodId) (a1 : Addr) (ch : Addr) : entryFrame m #[(.ref a1), (.ref ch), (.int (0 : Int32)), (.int (1 : Int32)), .null] 6 = mkF m 0 #[.val (.ref a1), .val (.ref ch), .val (.int (0 : Int32)), .val (.int (1 : Int32)), .val .null, .unset] [] := by first | (simp [entryFrame, mkF, argsToLocals, Value.category]; done) | rfl
def Q_rm_ini4_10 (Z : State) (G1 : Int32) (G3 : Value) (c0 : Int32) (a1 : Addr) (ch : Addr) (kc : ClassId) (h0 : Heap) (n0 : Nat) (v : Option Value) (h : Heap) (L : List Loc) : Prop := ∃ (tb : Addr), ∃ (kb : ClassId), v = none ∧ Fr n0 L ∧ Keep h0 h [a1] ∧ Exa Z h a1 "java/lang/String" ∧ Fld Z h a1 "java/lang/String" "coder" "B" (.int (1 : Int32)) ∧ Fld Z h a1 "java/lang/String" "value" "[B" (.ref tb) ∧ Arv Z h tb kb .byte (2 : Int32) [(.int (StrChars.lo8 c0)), (.int (StrChars.hi8 c0))] (.int (0 : Int32)) ∧ h0.size ≤ tb
set_option maxRecDepth 65536 in
set_option maxHeartbeats 40000000 in
theorem rm_ini4_10 (l : Launch) (Z : State) (a0 : Array Value) (hw : ∀ d ∈ tables_1, d.before a0 Z = true) (ws : List Jvm.Cond) (G1 : Int32) (G3 : Value) (c0 : Int32) (a1 : Addr) (ch : Addr) (kc : ClassId) (h0 : Heap) (n0 : Nat) (O0 : Old Z n0 h0) (hst : own_St Z G1 G3) (r0 : ¬ c0 < 0 ∧ ¬ (65535 : Int32) < c0) (qf : (255 : Int32) < c0) (E1 : Exa Z h0 a1 "java/lang/String") (F1 : Fld Z h0 a1 "java/lang/String" "coder" "B" (.int (0 : Int32))) (F2 : Fld Z h0 a1 "java/lang/String" "value" "[B" .null) (g1 : n0 ≤ a1) (VC : Arv Z h0 ch kc .char (1 : Int32) [(.int c0)] (.int (0 : Int32))) :
    own_Met l Z (⟨"java/lang/String", "<init>", "([CIILjava/lang/Void;)V"⟩ : MethodName) jdk_42_method_149_code 6 none ws ({ frames := 4, cells := 2, slots := 3, locals := 57 } : Room) #[(.ref a1), (.ref ch), (.int (0 : Int32)), (.int (1 : Int32)), .null] h0 (Q_rm_ini4_10 Z G1 G3 c0 a1 ch kc h0 n0) := by
  refine MetFree.of_bodySF (plainFor_of_name own_pn2) hisR ?_
  intro p e s m args below meth c s₁ Bd hml0 hP hK
  obtain ⟨rfl, hZ, hh⟩ := hP
  have hx := Bd.exec
  have hby := Bd.bytes
  have hml : c.maxLocals = 6 := hml0
  have hown : s.vm.findClass "java/lang/String" = some m.cls := findClass_of_methodNamed Bd.named
  have hnm := (name_of_methodNamed Bd.named Bd.method).1
  have hlk : meth.locks = false := Bd.notSynchronized
  have X0 : Stand p l e ({ frames := 4, cells := 2, slots := 3, locals := 57 } : Room) s m #[(.ref a1), (.ref ch), (.int (0 : Int32)), (.int (1 : Int32)), .null] below meth c s₁ [] 0 0 := Stand.of_body Bd
  have e0 : s₁.heap = h0 := by rw [← hh, Bd.state]; rfl
  have N0 := Fr.nil n0
  suffices hgo : own_Ok p e below (own_Qx s (Q_rm_ini4_10 Z G1 G3 c0 a1 ch kc h0 n0) 2 3) (s₁.setTop (mkF m 0 #[.val (.ref a1), .val (.ref ch), .val (.int (0 : Int32)), .val (.int (1 : Int32)), .val .null, .unset] [])) from by
    obtain ⟨s₂, o, h1, h2⟩ := hgo
    exact ⟨s₂, o, castTop (own_ef_rm_ini4_10 m a1 ch) h1, h2⟩
  have hst' := hst
  obtain ⟨SG1, PG1, SG3, rG3, SAD, SHI, SLO⟩ := hst'
  show own_Ok p e below _ (s₁.setTop (mkF m 0 #[.val (.ref a1), .val (.ref ch), .val (.int (0 : Int32)), .val (.int (1 : Int32)), .val .null, .unset] []))
  refine s_aloadN X0 hx (hb hby own_d3_0) rfl rfl ?_
  obtain ⟨T101, X101, e101, st101⟩ := initO X0 hx hZ hown (own_hw hw 16 rfl) (own_hw hw 17 rfl) (own_hw hw 18 rfl) e0 (g := (mkF m 1 #[.val (.ref a1), .val (.ref ch), .val (.int (0 : Int32)), .val (.int (1 : Int32)), .val .null, .unset] [(.ref a1)])) rfl (by rw [hml]; rfl) rfl (hb hby own_d3_1) (by decide) (W := 0) (by show 2 * 0 + _ ≤ _; exact Nat.le_of_eq rfl) (by decide)
  refine own_st st101 ?_
  show own_Ok p e below _ (T101.setTop (mkF m 4 #[.val (.ref a1), .val (.ref ch), .val (.int (0 : Int32)), .val (.int (1 : Int32)), .val .null, .unset] []))
  refine s_iloadN X101 hx (hb hby own_d3_4) rfl ?_
  refine s_ifYes X101 hx 27 (hb hby own_d3_5) (XT.i0_ne_t (by decide)) (by decide) (by decide) ?_
  obtain ⟨T102, X102, e102, st102⟩ := getS2 X101 hx hZ hown (host := "") (Or.inl (own_hw hw 41 rfl)) Via.refl e101 (SG1.ext O0.2) (g := (mkF m 27 #[.val (.ref a1), .val (.ref ch), .val (.int (0 : Int32)), .val (.int (1 : Int32)), .val .null, .unset] [])) rfl (hb hby own_d3_27)
  refine own_st st102 ?_
  show own_Ok p e below _ (T102.setTop (mkF m 30 #[.val (.ref a1), .val (.ref ch), .val (.int (0 : Int32)), .val (.int (1 : Int32)), .val .null, .unset] [(.int G1)]))
  refine s_ifNo X102 hx (hb hby own_d3_30) (XT.i0_eq_f PG1) ?_
  refine s_aloadN X102 hx (hb hby own_d3_33) rfl rfl ?_
  refine s_iloadN X102 hx (hb hby own_d3_34) rfl ?_
  refine s_iloadN X102 hx (hb hby own_d3_35) rfl ?_
  obtain ⟨_, T103, Lc103, X103, hQ103, st103⟩ := own_callS X102 hx hZ hown (own_hw hw 42 rfl) (own_hw hw 43 rfl) (own_hw hw 44 rfl) (own_hw hw 45 rfl) (rm_cmpb10 l Z a0 hw [] G1 G3 c0 ch kc h0 n0 O0 hst r0 qf VC) (by decide) e102 (Ls := #[.val (.ref a1), .val (.ref ch), .val (.int (0 : Int32)), .val (.int (1 : Int32)), .val .null, .unset]) [(.ref ch), (.int (0 : Int32)), (.int (1 : Int32))] [] rfl (by rw [hml]; rfl) (lenOf own_pd10 rfl) (hb hby own_d3_36) (by decide) 0 rfl (by decide) (by decide) (by decide)
  obtain ⟨tb_103, kb_103, rfl, Nq103, K103, g103_0, gs_tb_103⟩ := hQ103
  have N103 := Fr.app N0 Nq103
  refine st103 _ ?_
  have gb_tb_103 : n0 ≤ tb_103 := Nat.le_trans (own_n0 O0) gs_tb_103
  have gz_tb_103 : h0.size ≤ tb_103 := Nat.le_trans (Keep.refl h0 [a1]).1 gs_tb_103
  have ne_a1_tb_103 : a1 ≠ tb_103 := Nat.ne_of_lt (Nat.lt_of_lt_of_le E1.lt gs_tb_103)
  have ne_ch_tb_103 : ch ≠ tb_103 := Nat.ne_of_lt (Nat.lt_of_lt_of_le VC.lt gs_tb_103)
  have e103 : T103.heap = T103.heap := rfl
  show own_Ok p e below _ (T103.setTop (mkF m 39 #[.val (.ref a1), .val (.ref ch), .val (.int (0 : Int32)), .val (.int (1 : Int32)), .val .null, .unset] [(.ref tb_103)]))
  refine s_astore X103 hx (hb hby own_d3_39) rfl #[.val (.ref a1), .val (.ref ch), .val (.int (0 : Int32)), .val (.int (1 : Int32)), .val .null, .val (.ref tb_103)] rfl ?_
  refine s_aloadN X103 hx (hb hby own_d3_41) rfl rfl ?_
  refine s_aload X103 hx (hb hby own_d3_42) rfl rfl ?_
  refine s_iloadN X103 hx (hb hby own_d3_44) rfl ?_
  have f105 := O0.keep K103 all0
  obtain ⟨_, T104, Lc104, X104, hQ104, st104⟩ := own_callS X103 hx hZ hown (own_hw hw 49 rfl) (own_hw hw 50 rfl) (own_hw hw 44 rfl) (own_hw hw 51 rfl) (rm_cfl1 l Z a0 hw [] c0 tb_103 kb_103 T103.heap n0 f105 g103_0) (by decide) e103 (Ls := #[.val (.ref a1), .val (.ref ch), .val (.int (0 : Int32)), .val (.int (1 : Int32)), .val .null, .val (.ref tb_103)]) [(.ref tb_103), (.int (1 : Int32))] [(.ref a1)] rfl (by rw [hml]; rfl) (lenOf own_pd11 rfl) (hb hby own_d3_45) (by decide) 1 rfl (by decide) (by decide) (by decide)
  obtain ⟨rfl, Nq104, e104⟩ := hQ104
  have N104 := Fr.app N103 Nq104
  refine st104 _ ?_
  show own_Ok p e below _ (T104.setTop (mkF m 48 #[.val (.ref a1), .val (.ref ch), .val (.int (0 : Int32)), .val (.int (1 : Int32)), .val .null, .val (.ref tb_103)] [(.int (1 : Int32)), (.ref a1)]))
  have f106 := E1.keep K103
  have f107 := F1.keep K103 nin0
  obtain ⟨T108, h108, X108, e108, W108, st108⟩ := putFN X104 hx hZ hown (own_hw hw 26 rfl) Via.refl e104 f107 f106 (Or.inr ⟨(own_hw hw 22 rfl), rfl, hnm⟩) (own_hw hw 6 rfl) (ty := .byte) (v' := (.int (1 : Int32))) (by decide) rfl (by decide) (g := (mkF m 48 #[.val (.ref a1), .val (.ref ch), .val (.int (0 : Int32)), .val (.int (1 : Int32)), .val .null, .val (.ref tb_103)] [(.int (1 : Int32)), (.ref a1)])) rfl rfl (hb hby own_d3_48)
  refine own_st st108 ?_
  have F108 := f107.same W108
  have N108 := Fr.snoc X108 N104 g1
  show own_Ok p e below _ (T108.setTop (mkF m 51 #[.val (.ref a1), .val (.ref ch), .val (.int (0 : Int32)), .val (.int (1 : Int32)), .val .null, .val (.ref tb_103)] []))
  refine s_aloadN X108 hx (hb hby own_d3_51) rfl rfl ?_
  refine s_aload X108 hx (hb hby own_d3_52) rfl rfl ?_
  have f109 := f106.wr W108
  have f110 := F2.keep K103 nin0
  have f111 := f110.other W108 (Or.inr (slot_ne (Or.inr (own_hw hw 21 rfl)) (Or.inr (own_hw hw 22 rfl)) (by decide) (t := (.array .byte)) (t' := .byte) (by decide) (by decide)))
  obtain ⟨T112, h112, X112, e112, W112, st112⟩ := putF X108 hx hZ hown (host := "") (Or.inl (own_hw hw 25 rfl)) Via.refl e108 f111 f109 (Or.inr ⟨(own_hw hw 21 rfl), rfl, hnm⟩) (own_hw hw 6 rfl) (ty := (.array .byte)) (by decide) rfl rfl (g := (mkF m 54 #[.val (.ref a1), .val (.ref ch), .val (.int (0 : Int32)), .val (.int (1 : Int32)), .val .null, .val (.ref tb_103)] [(.ref tb_103), (.ref a1)])) rfl rfl (hb hby own_d3_54)
  refine own_st st112 ?_
  have F112 := f111.same W112
  have N112 := Fr.snoc X112 N108 g1
  show own_Ok p e below _ (T112.setTop (mkF m 57 #[.val (.ref a1), .val (.ref ch), .val (.int (0 : Int32)), .val (.int (1 : Int32)), .val .null, .val (.ref tb_103)] []))
  have f113 := (Keep.refl h0 [a1]).trans K103 all0
  have f114 := f113.wr W108 (Or.inl (by simp))
  have f115 := f114.wr W112 (Or.inl (by simp))
  have f116 := f109.wr W112
  have f117 := F108.other W112 (Or.inr (slot_ne (Or.inr (own_hw hw 22 rfl)) (Or.inr (own_hw hw 21 rfl)) (by decide) (t := .byte) (t' := (.array .byte)) (by decide) (by decide)))
  have f118 := g103_0.other W108 (Ne.symm ne_a1_tb_103)
  have f119 := f118.other W112 (Ne.symm ne_a1_tb_103)
  exact own_retV X112 hx hlk Bd.returns (hb hby own_d3_57) (by rw [e112]; exact ⟨tb_103, kb_103, rfl, N112, f115, f116, f117, F112, f119, gz_tb_103⟩) (by decide) (by decide)
theorem own_d2_0 : decode jdk_42_method_3_code 0 = .ok (.aload_n 0, 1) := by decide +kernel
theorem own_d2_1 : decode jdk_42_method_3_code 1 = .ok (.aload_n 1, 1) := by decide +kernel
theorem own_d2_2 : decode jdk_42_method_3_code 2 = .ok (.iconst 0, 1) := by decide +kernel
theorem own_d2_3 : decode jdk_42_method_3_code 3 = .ok (.aload_n 1, 1) := by decide +kernel
theorem own_d2_4 : decode jdk_42_method_3_code 4 = .ok (.arraylength, 1) := by decide +kernel
theorem own_d2_5 : decode jdk_42_method_3_code 5 = .ok (.aconst_null, 1) := by decide +kernel
theorem own_d2_6 : decode jdk_42_method_3_code 6 = .ok (.invokespecial 27, 3) := by decide +kernel
theorem own_pd12 : parseMethodDescriptor "([CIILjava/lang/Void;)V" = some ⟨[(.array .char), .int, .int, (.object "java/lang/Void")], none⟩ := by decide +kernel
theorem own_d2_9 : decode jdk_42_method_3_code 9 = .ok (.return_, 1) := by decide +kernel
theorem own_ef_rm_ini1_10 (m : MethodId) (a1 : Addr) (ch : Addr) : entryFrame m #[(.ref a1), (.ref ch)] 2 = mkF m 0 #[.val (.ref a1), .val (.ref ch)] [] := by first | (simp [entryFrame, mkF, argsToLocals, Value.category]; done) | rfl
def Q_rm_ini1_10 (Z : State) (G1 : Int32) (G3 : Value) (c0 : Int32) (a1 : Addr) (ch : Addr) (kc : ClassId) (h0 : Heap) (n0 : Nat) (v : Option Value) (h : Heap) (L : List Loc) : Prop := ∃ (tb : Addr), ∃ (kb : ClassId), v = none ∧ Fr n0 L ∧ Keep h0 h [a1] ∧ Exa Z h a1 "java/lang/String" ∧ Fld Z h a1 "java/lang/String" "coder" "B" (.int (1 : Int32)) ∧ Fld Z h a1 "java/lang/String" "value" "[B" (.ref tb) ∧ Arv Z h tb kb .byte (2 : Int32) [(.int (StrChars.lo8 c0)), (.int (StrChars.hi8 c0))] (.int (0 : Int32)) ∧ h0.size ≤ tb
set_option maxRecDepth 65536 in
set_option maxHeartbeats 40000000 in
theorem rm_ini1_10 (l : Launch) (Z : State) (a0 : Array Value) (hw : ∀ d ∈ tables_1, d.before a0 Z = true) (ws : List Jvm.Cond) (G1 : Int32) (G3 : Value) (c0 : Int32) (a1 : Addr) (ch : Addr) (kc : ClassId) (h0 : Heap) (n0 : Nat) (O0 : Old Z n0 h0) (hst : own_St Z G1 G3) (r0 : ¬ c0 < 0 ∧ ¬ (65535 : Int32) < c0) (qf : (255 : Int32) < c0) (E1 : Exa Z h0 a1 "java/lang/String") (F1 : Fld Z h0 a1 "java/lang/String" "coder" "B" (.int (0 : Int32))) (F2 : Fld Z h0 a1 "java/lang/String" "value" "[B" .null) (g1 : n0 ≤ a1) (VC : Arv Z h0 ch kc .char (1 : Int32) [(.int c0)] (.int (0 : Int32))) :
    own_Met l Z (⟨"java/lang/String", "<init>", "([C)V"⟩ : MethodName) jdk_42_method_3_code 2 none ws ({ frames := 5, cells := 2, slots := 3, locals := 74 } : Room) #[(.ref a1), (.ref ch)] h0 (Q_rm_ini1_10 Z G1 G3 c0 a1 ch kc h0 n0) := by
  refine MetFree.of_bodySF (plainFor_of_name own_pn2) hisR ?_
  intro p e s m args below meth c s₁ Bd hml0 hP hK
  obtain ⟨rfl, hZ, hh⟩ := hP
  have hx := Bd.exec
  have hby := Bd.bytes
  have hml : c.maxLocals = 2 := hml0
  have hown : s.vm.findClass "java/lang/String" = some m.cls := findClass_of_methodNamed Bd.named
  have hnm := (name_of_methodNamed Bd.named Bd.method).1
  have hlk : meth.locks = false := Bd.notSynchronized
  have X0 : Stand p l e ({ frames := 5, cells := 2, slots := 3, locals := 74 } : Room) s m #[(.ref a1), (.ref ch)] below meth c s₁ [] 0 0 := Stand.of_body Bd
  have e0 : s₁.heap = h0 := by rw [← hh, Bd.state]; rfl
  have N0 := Fr.nil n0
  suffices hgo : own_Ok p e below (own_Qx s (Q_rm_ini1_10 Z G1 G3 c0 a1 ch kc h0 n0) 2 3) (s₁.setTop (mkF m 0 #[.val (.ref a1), .val (.ref ch)] [])) from by
    obtain ⟨s₂, o, h1, h2⟩ := hgo
    exact ⟨s₂, o, castTop (own_ef_rm_ini1_10 m a1 ch) h1, h2⟩
  have hst' := hst
  obtain ⟨SG1, PG1, SG3, rG3, SAD, SHI, SLO⟩ := hst'
  show own_Ok p e below _ (s₁.setTop (mkF m 0 #[.val (.ref a1), .val (.ref ch)] []))
  refine s_aloadN X0 hx (hb hby own_d2_0) rfl rfl ?_
  refine s_aloadN X0 hx (hb hby own_d2_1) rfl rfl ?_
  refine s_iconst X0 hx (0 : Int32) (hb hby own_d2_2) rfl ?_
  refine s_aloadN X0 hx (hb hby own_d2_3) rfl rfl ?_
  refine own_st (own_len X0 hx hZ e0 VC (g := (mkF m 4 #[.val (.ref a1), .val (.ref ch)] [(.ref ch), (.int (0 : Int32)), (.ref ch), (.ref a1)])) rfl rfl (hb hby own_d2_4)) ?_
  show own_Ok p e below _ (s₁.setTop (mkF m 5 #[.val (.ref a1), .val (.ref ch)] [(.int (1 : Int32)), (.int (0 : Int32)), (.ref ch), (.ref a1)]))
  refine s_aconstNull X0 hx (hb hby own_d2_5) ?_
  obtain ⟨_, T101, Lc101, X101, hQ101, st101⟩ := own_callN X0 hx hZ hown (own_hw hw 12 rfl) (own_hw hw 13 rfl) (own_hw hw 7 rfl) (own_hw hw 15 rfl) (rm_ini4_10 l Z a0 hw [] G1 G3 c0 a1 ch kc h0 n0 O0 hst r0 qf E1 F1 F2 g1 VC) rfl (by decide) e0 (Ls := #[.val (.ref a1), .val (.ref ch)]) a1 [(.ref ch), (.int (0 : Int32)), (.int (1 : Int32)), .null] [] rfl (by rw [hml]; rfl) (lenOf own_pd12 rfl) (hb hby own_d2_6) (by decide) 0 rfl (by decide) (by decide) (by decide)
  obtain ⟨tb_101, kb_101, rfl, Nq101, K101, g101_0, g101_1, g101_2, g101_3, gs_tb_101⟩ := hQ101
  have N101 := Fr.app N0 Nq101
  refine st101 _ ?_
  have gb_tb_101 : n0 ≤ tb_101 := Nat.le_trans (own_n0 O0) gs_tb_101
  have gz_tb_101 : h0.size ≤ tb_101 := Nat.le_trans (Keep.refl h0 [a1]).1 gs_tb_101
  have ne_a1_tb_101 : a1 ≠ tb_101 := Nat.ne_of_lt (Nat.lt_of_lt_of_le E1.lt gs_tb_101)
  have ne_ch_tb_101 : ch ≠ tb_101 := Nat.ne_of_lt (Nat.lt_of_lt_of_le VC.lt gs_tb_101)
  have e101 : T101.heap = T101.heap := rfl
  show own_Ok p e below _ (T101.setTop (mkF m 9 #[.val (.ref a1), .val (.ref ch)] []))
  have f102 := (Keep.refl h0 [a1]).trans K101 (allS (Or.inl (by simp)) all0)
  exact own_retV X101 hx hlk Bd.returns (hb hby own_d2_9) (by rw [e101]; exact ⟨tb_101, kb_101, rfl, N101, f102, g101_0, g101_1, g101_2, g101_3, gz_tb_101⟩) (by decide) (by decide)
theorem own_ef_rm_uck20 (m : MethodId) (t1 : Addr) : entryFrame m #[(.int (0 : Int32)), (.ref t1)] 2 = mkF m 0 #[.val (.int (0 : Int32)), .val (.ref t1)] [] := by first | (simp [entryFrame, mkF, argsToLocals, Value.category]; done) | rfl
def Q_rm_uck20 (Z : State) (G1 : Int32) (G3 : Value) (c0 : Int32) (c1 : Int32) (t1 : Addr) (k1 : ClassId) (h0 : Heap) (n0 : Nat) (v : Option Value) (h : Heap) (L : List Loc) : Prop := v = none ∧ Fr n0 L ∧ h = h0
set_option maxRecDepth 65536 in
set_option maxHeartbeats 40000000 in
theorem rm_uck20 (l : Launch) (Z : State) (a0 : Array Value) (hw : ∀ d ∈ tables_1, d.before a0 Z = true) (ws : List Jvm.Cond) (G1 : Int32) (G3 : Value) (c0 : Int32) (c1 : Int32) (t1 : Addr) (k1 : ClassId) (h0 : Heap) (n0 : Nat) (O0 : Old Z n0 h0) (hst : own_St Z G1 G3) (V1 : Arv Z h0 t1 k1 .byte (4 : Int32) [(.int (StrChars.lo8 c0)), (.int (StrChars.hi8 c0)), (.int (StrChars.lo8 c1)), (.int (StrChars.hi8 c1))] (.int (0 : Int32))) :
    own_Met l Z (⟨"java/lang/StringUTF16", "checkIndex", "(I[B)V"⟩ : MethodName) jdk_52_method_91_code 2 none ws ({ frames := 2, cells := 0, slots := 0, locals := 27 } : Room) #[(.int (0 : Int32)), (.ref t1)] h0 (Q_rm_uck20 Z G1 G3 c0 c1 t1 k1 h0 n0) := by
  refine MetFree.of_bodySF (plainFor_of_name own_pn3) hisR ?_
  intro p e s m args below meth c s₁ Bd hml0 hP hK
  obtain ⟨rfl, hZ, hh⟩ := hP
  have hx := Bd.exec
  have hby := Bd.bytes
  have hml : c.maxLocals = 2 := hml0
  have hown : s.vm.findClass "java/lang/StringUTF16" = some m.cls := findClass_of_methodNamed Bd.named
  have hnm := (name_of_methodNamed Bd.named Bd.method).1
  have hlk : meth.locks = false := Bd.notSynchronized
  have X0 : Stand p l e ({ frames := 2, cells := 0, slots := 0, locals := 27 } : Room) s m #[(.int (0 : Int32)), (.ref t1)] below meth c s₁ [] 0 0 := Stand.of_body Bd
  have e0 : s₁.heap = h0 := by rw [← hh, Bd.state]; rfl
  have N0 := Fr.nil n0
  suffices hgo : own_Ok p e below (own_Qx s (Q_rm_uck20 Z G1 G3 c0 c1 t1 k1 h0 n0) 0 0) (s₁.setTop (mkF m 0 #[.val (.int (0 : Int32)), .val (.ref t1)] [])) from by
    obtain ⟨s₂, o, h1, h2⟩ := hgo
    exact ⟨s₂, o, castTop (own_ef_rm_uck20 m t1) h1, h2⟩
  have hst' := hst
  obtain ⟨SG1, PG1, SG3, rG3, SAD, SHI, SLO⟩ := hst'
  show own_Ok p e below _ (s₁.setTop (mkF m 0 #[.val (.int (0 : Int32)), .val (.ref t1)] []))
  refine s_iloadN X0 hx (hb hby own_d23_0) rfl ?_
  refine s_aloadN X0 hx (hb hby own_d23_1) rfl rfl ?_
  obtain ⟨_, T101, Lc101, X101, hQ101, st101⟩ := own_callS X0 hx hZ hown (own_hw hw 102 rfl) (own_hw hw 103 rfl) (own_hw hw 44 rfl) (own_hw hw 104 rfl) (rm_ul l Z a0 hw [] t1 k1 ((4 : Int32)) (([(.int (StrChars.lo8 c0)), (.int (StrChars.hi8 c0)), (.int (StrChars.lo8 c1)), (.int (StrChars.hi8 c1))] : List Value)) h0 n0 O0 V1) (by decide) e0 (Ls := #[.val (.int (0 : Int32)), .val (.ref t1)]) [(.ref t1)] [(.int (0 : Int32))] rfl (by rw [hml]; rfl) (lenOf own_pd1 rfl) (hb hby own_d23_2) (by decide) 1 rfl (by decide) (by decide) (by decide)
  obtain ⟨rfl, Nq101, e101⟩ := hQ101
  have N101 := Fr.app N0 Nq101
  refine st101 _ ?_
  show own_Ok p e below _ (T101.setTop (mkF m 5 #[.val (.int (0 : Int32)), .val (.ref t1)] [(.int ((4 : Int32) >>> ((1 : Int32) &&& 31))), (.int (0 : Int32))]))
  rw [show ((4 : Int32) >>> ((1 : Int32) &&& 31)) = (2 : Int32) from by decide]
  show own_Ok p e below _ (T101.setTop (mkF m 5 #[.val (.int (0 : Int32)), .val (.ref t1)] [(.int (2 : Int32)), (.int (0 : Int32))]))
  show own_Ok p e below _ (T101.setTop (mkF m 5 #[.val (.int (0 : Int32)), .val (.ref t1)] [(.int (2 : Int32)), (.int (0 : Int32))]))
  obtain ⟨_, T102, Lc102, X102, hQ102, st102⟩ := own_callS X101 hx hZ hown (own_hw hw 105 rfl) (own_hw hw 70 rfl) (own_hw hw 7 rfl) (own_hw hw 71 rfl) (rm_sck l Z a0 hw [] G1 G3 ((0 : Int32)) ((2 : Int32)) h0 n0 O0 hst (by decide) (by decide)) (by decide) e101 (Ls := #[.val (.int (0 : Int32)), .val (.ref t1)]) [(.int (0 : Int32)), (.int (2 : Int32))] [] rfl (by rw [hml]; rfl) (lenOf own_pd2 rfl) (hb hby own_d23_5) (by decide) 0 rfl (by decide) (by decide) (by decide)
  obtain ⟨rfl, Nq102, e102⟩ := hQ102
  have N102 := Fr.app N101 Nq102
  refine st102 _ ?_
  show own_Ok p e below _ (T102.setTop (mkF m 8 #[.val (.int (0 : Int32)), .val (.ref t1)] []))
  exact own_retV X102 hx hlk Bd.returns (hb hby own_d23_8) (by rw [e102]; exact ⟨rfl, N102, rfl⟩) (by decide) (by decide)
theorem own_ef_rm_gch20 (m : MethodId) (t1 : Addr) : entryFrame m #[(.ref t1), (.int (0 : Int32))] 2 = mkF m 0 #[.val (.ref t1), .val (.int (0 : Int32))] [] := by first | (simp [entryFrame, mkF, argsToLocals, Value.category]; done) | rfl
def Q_rm_gch20 (Z : State) (G1 : Int32) (G3 : Value) (c0 : Int32) (c1 : Int32) (t1 : Addr) (k1 : ClassId) (h0 : Heap) (n0 : Nat) (v : Option Value) (h : Heap) (L : List Loc) : Prop := v = some (.int c0) ∧ Fr n0 L ∧ h = h0
set_option maxRecDepth 65536 in
set_option maxHeartbeats 40000000 in
theorem rm_gch20 (l : Launch) (Z : State) (a0 : Array Value) (hw : ∀ d ∈ tables_1, d.before a0 Z = true) (ws : List Jvm.Cond) (G1 : Int32) (G3 : Value) (c0 : Int32) (c1 : Int32) (t1 : Addr) (k1 : ClassId) (h0 : Heap) (n0 : Nat) (O0 : Old Z n0 h0) (hst : own_St Z G1 G3) (r0 : ¬ c0 < 0 ∧ ¬ (65535 : Int32) < c0) (r1 : ¬ c1 < 0 ∧ ¬ (65535 : Int32) < c1) (V1 : Arv Z h0 t1 k1 .byte (4 : Int32) [(.int (StrChars.lo8 c0)), (.int (StrChars.hi8 c0)), (.int (StrChars.lo8 c1)), (.int (StrChars.hi8 c1))] (.int (0 : Int32))) :
    own_Met l Z (⟨"java/lang/StringUTF16", "getChar", "([BI)C"⟩ : MethodName) jdk_52_method_5_code 2 (some .char) ws ({ frames := 0, cells := 0, slots := 0, locals := 0 } : Room) #[(.ref t1), (.int (0 : Int32))] h0 (Q_rm_gch20 Z G1 G3 c0 c1 t1 k1 h0 n0) := by
  refine MetFree.of_bodySF (plainFor_of_name own_pn3) hisR ?_
  intro p e s m args below meth c s₁ Bd hml0 hP hK
  obtain ⟨rfl, hZ, hh⟩ := hP
  have hx := Bd.exec
  have hby := Bd.bytes
  have hml : c.maxLocals = 2 := hml0
  have hown : s.vm.findClass "java/lang/StringUTF16" = some m.cls := findClass_of_methodNamed Bd.named
  have hnm := (name_of_methodNamed Bd.named Bd.method).1
  have hlk : meth.locks = false := Bd.notSynchronized
  have X0 : Stand p l e ({ frames := 0, cells := 0, slots := 0, locals := 0 } : Room) s m #[(.ref t1), (.int (0 : Int32))] below meth c s₁ [] 0 0 := Stand.of_body Bd
  have e0 : s₁.heap = h0 := by rw [← hh, Bd.state]; rfl
  have N0 := Fr.nil n0
  suffices hgo : own_Ok p e below (own_Qx s (Q_rm_gch20 Z G1 G3 c0 c1 t1 k1 h0 n0) 0 0) (s₁.setTop (mkF m 0 #[.val (.ref t1), .val (.int (0 : Int32))] [])) from by
    obtain ⟨s₂, o, h1, h2⟩ := hgo
    exact ⟨s₂, o, castTop (own_ef_rm_gch20 m t1) h1, h2⟩
  have hst' := hst
  obtain ⟨SG1, PG1, SG3, rG3, SAD, SHI, SLO⟩ := hst'
  show own_Ok p e below _ (s₁.setTop (mkF m 0 #[.val (.ref t1), .val (.int (0 : Int32))] []))
  obtain ⟨T101, X101, e101, st101⟩ := getS2 X0 hx hZ hown (host := "") (Or.inl (own_hw hw 90 rfl)) Via.refl e0 (SAD.ext O0.2) (g := (mkF m 0 #[.val (.ref t1), .val (.int (0 : Int32))] [])) rfl (hb hby own_d21_0)
  refine own_st st101 ?_
  show own_Ok p e below _ (T101.setTop (mkF m 3 #[.val (.ref t1), .val (.int (0 : Int32))] [(.int (1 : Int32))]))
  refine s_ifYes X101 hx 28 (hb hby own_d21_3) (XT.i0_ne_t (by decide)) (by decide) (by decide) ?_
  refine s_iloadN X101 hx (hb hby own_d21_28) rfl ?_
  refine s_iconst X101 hx (1 : Int32) (hb hby own_d21_29) rfl ?_
  refine s_ishl X101 hx (hb hby own_d21_30) ?_
  show own_Ok p e below _ (T101.setTop (mkF m 31 #[.val (.ref t1), .val (.int (0 : Int32))] [(.int (0 : Int32))]))
  refine s_istoreN X101 hx (hb hby own_d21_31) #[.val (.ref t1), .val (.int (0 : Int32))] rfl ?_
  refine s_aloadN X101 hx (hb hby own_d21_32) rfl rfl ?_
  refine s_iloadN X101 hx (hb hby own_d21_33) rfl ?_
  refine s_iinc X101 hx (1 : Int32) (hb hby own_d21_34) rfl rfl #[.val (.ref t1), .val (.int (1 : Int32))] rfl ?_
  show own_Ok p e below _ (T101.setTop (mkF m 37 #[.val (.ref t1), .val (.int (1 : Int32))] [(.int (0 : Int32)), (.ref t1)]))
  refine own_st (own_ldB X101 hx hZ e101 V1 (by decide) (by decide) (v := (StrChars.lo8 c0)) rfl (g := (mkF m 37 #[.val (.ref t1), .val (.int (1 : Int32))] [(.int (0 : Int32)), (.ref t1)])) rfl rfl (hb hby own_d21_37)) ?_
  show own_Ok p e below _ (T101.setTop (mkF m 38 #[.val (.ref t1), .val (.int (1 : Int32))] [(.int (StrChars.lo8 c0))]))
  refine s_sipush X101 hx (255 : Int32) (hb hby own_d21_38) rfl ?_
  refine s_iand X101 hx (hb hby own_d21_41) ?_
  obtain ⟨T102, X102, e102, st102⟩ := getS2 X101 hx hZ hown (host := "") (Or.inl (own_hw hw 91 rfl)) Via.refl e101 (SHI.ext O0.2) (g := (mkF m 42 #[.val (.ref t1), .val (.int (1 : Int32))] [(.int ((StrChars.lo8 c0) &&& (255 : Int32)))])) rfl (hb hby own_d21_42)
  refine own_st st102 ?_
  show own_Ok p e below _ (T102.setTop (mkF m 45 #[.val (.ref t1), .val (.int (1 : Int32))] [(.int (0 : Int32)), (.int ((StrChars.lo8 c0) &&& (255 : Int32)))]))
  refine s_ishl X102 hx (hb hby own_d21_45) ?_
  refine s_aloadN X102 hx (hb hby own_d21_46) rfl rfl ?_
  refine s_iloadN X102 hx (hb hby own_d21_47) rfl ?_
  refine own_st (own_ldB X102 hx hZ e102 V1 (by decide) (by decide) (v := (StrChars.hi8 c0)) rfl (g := (mkF m 48 #[.val (.ref t1), .val (.int (1 : Int32))] [(.int (1 : Int32)), (.ref t1), (.int (((StrChars.lo8 c0) &&& (255 : Int32)) <<< ((0 : Int32) &&& 31)))])) rfl rfl (hb hby own_d21_48)) ?_
  show own_Ok p e below _ (T102.setTop (mkF m 49 #[.val (.ref t1), .val (.int (1 : Int32))] [(.int (StrChars.hi8 c0)), (.int (((StrChars.lo8 c0) &&& (255 : Int32)) <<< ((0 : Int32) &&& 31)))]))
  refine s_sipush X102 hx (255 : Int32) (hb hby own_d21_49) rfl ?_
  refine s_iand X102 hx (hb hby own_d21_52) ?_
  obtain ⟨T103, X103, e103, st103⟩ := getS2 X102 hx hZ hown (host := "") (Or.inl (own_hw hw 92 rfl)) Via.refl e102 (SLO.ext O0.2) (g := (mkF m 53 #[.val (.ref t1), .val (.int (1 : Int32))] [(.int ((StrChars.hi8 c0) &&& (255 : Int32))), (.int (((StrChars.lo8 c0) &&& (255 : Int32)) <<< ((0 : Int32) &&& 31)))])) rfl (hb hby own_d21_53)
  refine own_st st103 ?_
  show own_Ok p e below _ (T103.setTop (mkF m 56 #[.val (.ref t1), .val (.int (1 : Int32))] [(.int (8 : Int32)), (.int ((StrChars.hi8 c0) &&& (255 : Int32))), (.int (((StrChars.lo8 c0) &&& (255 : Int32)) <<< ((0 : Int32) &&& 31)))]))
  refine s_ishl X103 hx (hb hby own_d21_56) ?_
  refine s_ior X103 hx (hb hby own_d21_57) ?_
  refine s_i2c X103 hx (hb hby own_d21_58) ?_
  exact own_retN X103 hx hlk (t := .char) Bd.returns (by simp) (hb hby own_d21_59) (by rw [e103]; exact ⟨by rw [own_join r0.1 r0.2, own_narc r0.1 r0.2], N0, rfl⟩) (by decide) (by decide)
theorem own_ef_rm_uch20 (m : MethodId) (t1 : Addr) : entryFrame m #[(.ref t1), (.int (0 : Int32))] 2 = mkF m 0 #[.val (.ref t1), .val (.int (0 : Int32))] [] := by first | (simp [entryFrame, mkF, argsToLocals, Value.category]; done) | rfl
def Q_rm_uch20 (Z : State) (G1 : Int32) (G3 : Value) (c0 : Int32) (c1 : Int32) (t1 : Addr) (k1 : ClassId) (h0 : Heap) (n0 : Nat) (v : Option Value) (h : Heap) (L : List Loc) : Prop := v = some (.int c0) ∧ Fr n0 L ∧ h = h0
set_option maxRecDepth 65536 in
set_option maxHeartbeats 40000000 in
theorem rm_uch20 (l : Launch) (Z : State) (a0 : Array Value) (hw : ∀ d ∈ tables_1, d.before a0 Z = true) (ws : List Jvm.Cond) (G1 : Int32) (G3 : Value) (c0 : Int32) (c1 : Int32) (t1 : Addr) (k1 : ClassId) (h0 : Heap) (n0 : Nat) (O0 : Old Z n0 h0) (hst : own_St Z G1 G3) (r0 : ¬ c0 < 0 ∧ ¬ (65535 : Int32) < c0) (r1 : ¬ c1 < 0 ∧ ¬ (65535 : Int32) < c1) (V1 : Arv Z h0 t1 k1 .byte (4 : Int32) [(.int (StrChars.lo8 c0)), (.int (StrChars.hi8 c0)), (.int (StrChars.lo8 c1)), (.int (StrChars.hi8 c1))] (.int (0 : Int32))) :
    own_Met l Z (⟨"java/lang/StringUTF16", "charAt", "([BI)C"⟩ : MethodName) jdk_52_method_83_code 2 (some .char) ws ({ frames := 3, cells := 0, slots := 0, locals := 40 } : Room) #[(.ref t1), (.int (0 : Int32))] h0 (Q_rm_uch20 Z G1 G3 c0 c1 t1 k1 h0 n0) := by
  refine MetFree.of_bodySF (plainFor_of_name own_pn3) hisR ?_
  intro p e s m args below meth c s₁ Bd hml0 hP hK
  obtain ⟨rfl, hZ, hh⟩ := hP
  have hx := Bd.exec
  have hby := Bd.bytes
  have hml : c.maxLocals = 2 := hml0
  have hown : s.vm.findClass "java/lang/StringUTF16" = some m.cls := findClass_of_methodNamed Bd.named
  have hnm := (name_of_methodNamed Bd.named Bd.method).1
  have hlk : meth.locks = false := Bd.notSynchronized
  have X0 : Stand p l e ({ frames := 3, cells := 0, slots := 0, locals := 40 } : Room) s m #[(.ref t1), (.int (0 : Int32))] below meth c s₁ [] 0 0 := Stand.of_body Bd
  have e0 : s₁.heap = h0 := by rw [← hh, Bd.state]; rfl
  have N0 := Fr.nil n0
  suffices hgo : own_Ok p e below (own_Qx s (Q_rm_uch20 Z G1 G3 c0 c1 t1 k1 h0 n0) 0 0) (s₁.setTop (mkF m 0 #[.val (.ref t1), .val (.int (0 : Int32))] [])) from by
    obtain ⟨s₂, o, h1, h2⟩ := hgo
    exact ⟨s₂, o, castTop (own_ef_rm_uch20 m t1) h1, h2⟩
  have hst' := hst
  obtain ⟨SG1, PG1, SG3, rG3, SAD, SHI, SLO⟩ := hst'
  show own_Ok p e below _ (s₁.setTop (mkF m 0 #[.val (.ref t1), .val (.int (0 : Int32))] []))
  refine s_iloadN X0 hx (hb hby own_d22_0) rfl ?_
  refine s_aloadN X0 hx (hb hby own_d22_1) rfl rfl ?_
  obtain ⟨_, T101, Lc101, X101, hQ101, st101⟩ := own_callS X0 hx hZ hown (own_hw hw 99 rfl) (own_hw hw 100 rfl) (own_hw hw 44 rfl) (own_hw hw 101 rfl) (rm_uck20 l Z a0 hw [] G1 G3 c0 c1 t1 k1 h0 n0 O0 hst V1) (by decide) e0 (Ls := #[.val (.ref t1), .val (.int (0 : Int32))]) [(.int (0 : Int32)), (.ref t1)] [] rfl (by rw [hml]; rfl) (lenOf own_pd3 rfl) (hb hby own_d22_2) (by decide) 0 rfl (by decide) (by decide) (by decide)
  obtain ⟨rfl, Nq101, e101⟩ := hQ101
  have N101 := Fr.app N0 Nq101
  refine st101 _ ?_
  show own_Ok p e below _ (T101.setTop (mkF m 5 #[.val (.ref t1), .val (.int (0 : Int32))] []))
  refine s_aloadN X101 hx (hb hby own_d22_5) rfl rfl ?_
  refine s_iloadN X101 hx (hb hby own_d22_6) rfl ?_
  obtain ⟨_, T102, Lc102, X102, hQ102, st102⟩ := own_callS X101 hx hZ hown (own_hw hw 93 rfl) (own_hw hw 94 rfl) (own_hw hw 44 rfl) (own_hw hw 95 rfl) (rm_gch20 l Z a0 hw [] G1 G3 c0 c1 t1 k1 h0 n0 O0 hst r0 r1 V1) (by decide) e101 (Ls := #[.val (.ref t1), .val (.int (0 : Int32))]) [(.ref t1), (.int (0 : Int32))] [] rfl (by rw [hml]; rfl) (lenOf own_pd4 rfl) (hb hby own_d22_7) (by decide) 0 rfl (by decide) (by decide) (by decide)
  obtain ⟨rfl, Nq102, e102⟩ := hQ102
  have N102 := Fr.app N101 Nq102
  refine st102 _ ?_
  show own_Ok p e below _ (T102.setTop (mkF m 10 #[.val (.ref t1), .val (.int (0 : Int32))] [(.int c0)]))
  exact own_retN X102 hx hlk (t := .char) Bd.returns (by simp) (hb hby own_d22_10) (by rw [e102]; exact ⟨by rw [own_narc r0.1 r0.2], N102, rfl⟩) (by decide) (by decide)
theorem own_ef_rm_sch20 (m : MethodId) (a1 : Addr) : entryFrame m #[(.ref a1), (.int (0 : Int32))] 2 = mkF m 0 #[.val (.ref a1), .val (.int (0 : Int32))] [] := by first | (simp [entryFrame, mkF, argsToLocals, Value.category]; done) | rfl
def Q_rm_sch20 (Z : State) (G1 : Int32) (G3 : Value) (c0 : Int32) (c1 : Int32) (a1 : Addr) (t1 : Addr) (k1 : ClassId) (h0 : Heap) (n0 : Nat) (v : Option Value) (h : Heap) (L : List Loc) : Prop := v = some (.int c0) ∧ Fr n0 L ∧ h = h0
set_option maxRecDepth 65536 in
set_option maxHeartbeats 40000000 in
theorem rm_sch20 (l : Launch) (Z : State) (a0 : Array Value) (hw : ∀ d ∈ tables_1, d.before a0 Z = true) (ws : List Jvm.Cond) (G1 : Int32) (G3 : Value) (c0 : Int32) (c1 : Int32) (a1 : Addr) (t1 : Addr) (k1 : ClassId) (h0 : Heap) (n0 : Nat) (O0 : Old Z n0 h0) (hst : own_St Z G1 G3) (r0 : ¬ c0 < 0 ∧ ¬ (65535 : Int32) < c0) (r1 : ¬ c1 < 0 ∧ ¬ (65535 : Int32) < c1) (E1 : Exa Z h0 a1 "java/lang/String") (F1 : Fld Z h0 a1 "java/lang/String" "coder" "B" (.int (1 : Int32))) (F2 : Fld Z h0 a1 "java/lang/String" "value" "[B" (.ref t1)) (V1 : Arv Z h0 t1 k1 .byte (4 : Int32) [(.int (StrChars.lo8 c0)), (.int (StrChars.hi8 c0)), (.int (StrChars.lo8 c1)), (.int (StrChars.hi8 c1))] (.int (0 : Int32))) :
    own_Met l Z (⟨"java/lang/String", "charAt", "(I)C"⟩ : MethodName) jdk_42_method_56_code 2 (some .char) ws ({ frames := 4, cells := 0, slots := 0, locals := 53 } : Room) #[(.ref a1), (.int (0 : Int32))] h0 (Q_rm_sch20 Z G1 G3 c0 c1 a1 t1 k1 h0 n0) := by
  refine MetFree.of_bodySF (plainFor_of_name own_pn2) hisR ?_
  intro p e s m args below meth c s₁ Bd hml0 hP hK
  obtain ⟨rfl, hZ, hh⟩ := hP
  have hx := Bd.exec
  have hby := Bd.bytes
  have hml : c.maxLocals = 2 := hml0
  have hown : s.vm.findClass "java/lang/String" = some m.cls := findClass_of_methodNamed Bd.named
  have hnm := (name_of_methodNamed Bd.named Bd.method).1
  have hlk : meth.locks = false := Bd.notSynchronized
  have X0 : Stand p l e ({ frames := 4, cells := 0, slots := 0, locals := 53 } : Room) s m #[(.ref a1), (.int (0 : Int32))] below meth c s₁ [] 0 0 := Stand.of_body Bd
  have e0 : s₁.heap = h0 := by rw [← hh, Bd.state]; rfl
  have N0 := Fr.nil n0
  suffices hgo : own_Ok p e below (own_Qx s (Q_rm_sch20 Z G1 G3 c0 c1 a1 t1 k1 h0 n0) 0 0) (s₁.setTop (mkF m 0 #[.val (.ref a1), .val (.int (0 : Int32))] [])) from by
    obtain ⟨s₂, o, h1, h2⟩ := hgo
    exact ⟨s₂, o, castTop (own_ef_rm_sch20 m a1) h1, h2⟩
  have hst' := hst
  obtain ⟨SG1, PG1, SG3, rG3, SAD, SHI, SLO⟩ := hst'
  show own_Ok p e below _ (s₁.setTop (mkF m 0 #[.val (.ref a1), .val (.int (0 : Int32))] []))
  refine s_aloadN X0 hx (hb hby own_d12_0) rfl rfl ?_
  obtain ⟨_, T101, Lc101, X101, hQ101, st101⟩ := own_callV X0 hx hZ hown (own_hw hw 60 rfl) (own_hw hw 61 rfl) (own_hw hw 63 rfl) (own_hw hw 63 rfl) (own_hw hw 62 rfl) (own_hw hw 7 rfl) (own_hw hw 64 rfl) (rm_isl l Z a0 hw [] G1 G3 a1 h0 n0 O0 hst F1) (by decide) e0 E1 (Ls := #[.val (.ref a1), .val (.int (0 : Int32))]) [] [] rfl (by rw [hml]; rfl) (lenOf own_pd5 rfl) (hb hby own_d12_1) (by decide) 0 rfl (by decide) (by decide) (by decide)
  obtain ⟨rfl, Nq101, e101⟩ := hQ101
  have N101 := Fr.app N0 Nq101
  refine st101 _ ?_
  show own_Ok p e below _ (T101.setTop (mkF m 4 #[.val (.ref a1), .val (.int (0 : Int32))] [(.int (0 : Int32))]))
  refine s_ifYes X101 hx 16 (hb hby own_d12_4) (XT.i0_eq_t (by decide)) (by decide) (by decide) ?_
  refine s_aloadN X101 hx (hb hby own_d12_16) rfl rfl ?_
  obtain ⟨T102, X102, e102, st102⟩ := getF X101 hx hZ hown (host := "") (Or.inl (own_hw hw 25 rfl)) Via.refl e101 F2 (g := (mkF m 17 #[.val (.ref a1), .val (.int (0 : Int32))] [(.ref a1)])) rfl rfl (hb hby own_d12_17)
  refine own_st st102 ?_
  show own_Ok p e below _ (T102.setTop (mkF m 20 #[.val (.ref a1), .val (.int (0 : Int32))] [(.ref t1)]))
  refine s_iloadN X102 hx (hb hby own_d12_20) rfl ?_
  obtain ⟨_, T103, Lc103, X103, hQ103, st103⟩ := own_callS X102 hx hZ hown (own_hw hw 96 rfl) (own_hw hw 97 rfl) (own_hw hw 44 rfl) (own_hw hw 98 rfl) (rm_uch20 l Z a0 hw [] G1 G3 c0 c1 t1 k1 h0 n0 O0 hst r0 r1 V1) (by decide) e102 (Ls := #[.val (.ref a1), .val (.int (0 : Int32))]) [(.ref t1), (.int (0 : Int32))] [] rfl (by rw [hml]; rfl) (lenOf own_pd4 rfl) (hb hby own_d12_21) (by decide) 0 rfl (by decide) (by decide) (by decide)
  obtain ⟨rfl, Nq103, e103⟩ := hQ103
  have N103 := Fr.app N101 Nq103
  refine st103 _ ?_
  show own_Ok p e below _ (T103.setTop (mkF m 24 #[.val (.ref a1), .val (.int (0 : Int32))] [(.int c0)]))
  exact own_retN X103 hx hlk (t := .char) Bd.returns (by simp) (hb hby own_d12_24) (by rw [e103]; exact ⟨by rw [own_narc r0.1 r0.2], N103, rfl⟩) (by decide) (by decide)
theorem own_ef_rm_pch20 (m : MethodId) (t1 : Addr) (cz : Int32) : entryFrame m #[(.ref t1), (.int (0 : Int32)), (.int cz)] 3 = mkF m 0 #[.val (.ref t1), .val (.int (0 : Int32)), .val (.int cz)] [] := by first | (simp [entryFrame, mkF, argsToLocals, Value.category]; done) | rfl
def Q_rm_pch20 (Z : State) (G1 : Int32) (G3 : Value) (t1 : Addr) (k1 : ClassId) (cz : Int32) (v0 : Value) (v1 : Value) (v2 : Value) (v3 : Value) (h0 : Heap) (n0 : Nat) (v : Option Value) (h : Heap) (L : List Loc) : Prop := v = none ∧ Fr n0 L ∧ Keep h0 h [t1] ∧ Arv Z h t1 k1 .byte (4 : Int32) [(.int (StrChars.lo8 cz)), (.int (StrChars.hi8 cz)), v2, v3] (.int (0 : Int32))
set_option maxRecDepth 65536 in
set_option maxHeartbeats 40000000 in
theorem rm_pch20 (l : Launch) (Z : State) (a0 : Array Value) (hw : ∀ d ∈ tables_1, d.before a0 Z = true) (ws : List Jvm.Cond) (G1 : Int32) (G3 : Value) (t1 : Addr) (k1 : ClassId) (cz : Int32) (v0 : Value) (v1 : Value) (v2 : Value) (v3 : Value) (h0 : Heap) (n0 : Nat) (O0 : Old Z n0 h0) (hst : own_St Z G1 G3) (V1 : Arv Z h0 t1 k1 .byte (4 : Int32) [v0, v1, v2, v3] (.int (0 : Int32))) (g1 : n0 ≤ t1) :
    own_Met l Z (⟨"java/lang/StringUTF16", "putChar", "([BII)V"⟩ : MethodName) jdk_52_method_4_code 3 none ws ({ frames := 0, cells := 0, slots := 0, locals := 0 } : Room) #[(.ref t1), (.int (0 : Int32)), (.int cz)] h0 (Q_rm_pch20 Z G1 G3 t1 k1 cz v0 v1 v2 v3 h0 n0) := by
  refine MetFree.of_bodySF (plainFor_of_name own_pn3) hisR ?_
  intro p e s m args below meth c s₁ Bd hml0 hP hK
  obtain ⟨rfl, hZ, hh⟩ := hP
  have hx := Bd.exec
  have hby := Bd.bytes
  have hml : c.maxLocals = 3 := hml0
  have hown : s.vm.findClass "java/lang/StringUTF16" = some m.cls := findClass_of_methodNamed Bd.named
  have hnm := (name_of_methodNamed Bd.named Bd.method).1
  have hlk : meth.locks = false := Bd.notSynchronized
  have X0 : Stand p l e ({ frames := 0, cells := 0, slots := 0, locals := 0 } : Room) s m #[(.ref t1), (.int (0 : Int32)), (.int cz)] below meth c s₁ [] 0 0 := Stand.of_body Bd
  have e0 : s₁.heap = h0 := by rw [← hh, Bd.state]; rfl
  have N0 := Fr.nil n0
  suffices hgo : own_Ok p e below (own_Qx s (Q_rm_pch20 Z G1 G3 t1 k1 cz v0 v1 v2 v3 h0 n0) 0 0) (s₁.setTop (mkF m 0 #[.val (.ref t1), .val (.int (0 : Int32)), .val (.int cz)] [])) from by
    obtain ⟨s₂, o, h1, h2⟩ := hgo
    exact ⟨s₂, o, castTop (own_ef_rm_pch20 m t1 cz) h1, h2⟩
  have hst' := hst
  obtain ⟨SG1, PG1, SG3, rG3, SAD, SHI, SLO⟩ := hst'
  show own_Ok p e below _ (s₁.setTop (mkF m 0 #[.val (.ref t1), .val (.int (0 : Int32)), .val (.int cz)] []))
  obtain ⟨T101, X101, e101, st101⟩ := getS2 X0 hx hZ hown (host := "") (Or.inl (own_hw hw 90 rfl)) Via.refl e0 (SAD.ext O0.2) (g := (mkF m 0 #[.val (.ref t1), .val (.int (0 : Int32)), .val (.int cz)] [])) rfl (hb hby own_d20_0)
  refine own_st st101 ?_
  show own_Ok p e below _ (T101.setTop (mkF m 3 #[.val (.ref t1), .val (.int (0 : Int32)), .val (.int cz)] [(.int (1 : Int32))]))
  refine s_ifYes X101 hx 28 (hb hby own_d20_3) (XT.i0_ne_t (by decide)) (by decide) (by decide) ?_
  refine s_iloadN X101 hx (hb hby own_d20_28) rfl ?_
  refine s_iconst X101 hx (1 : Int32) (hb hby own_d20_29) rfl ?_
  refine s_ishl X101 hx (hb hby own_d20_30) ?_
  show own_Ok p e below _ (T101.setTop (mkF m 31 #[.val (.ref t1), .val (.int (0 : Int32)), .val (.int cz)] [(.int (0 : Int32))]))
  refine s_istoreN X101 hx (hb hby own_d20_31) #[.val (.ref t1), .val (.int (0 : Int32)), .val (.int cz)] rfl ?_
  refine s_aloadN X101 hx (hb hby own_d20_32) rfl rfl ?_
  refine s_iloadN X101 hx (hb hby own_d20_33) rfl ?_
  refine s_iinc X101 hx (1 : Int32) (hb hby own_d20_34) rfl rfl #[.val (.ref t1), .val (.int (1 : Int32)), .val (.int cz)] rfl ?_
  show own_Ok p e below _ (T101.setTop (mkF m 37 #[.val (.ref t1), .val (.int (1 : Int32)), .val (.int cz)] [(.int (0 : Int32)), (.ref t1)]))
  refine s_iloadN X101 hx (hb hby own_d20_37) rfl ?_
  obtain ⟨T102, X102, e102, st102⟩ := getS2 X101 hx hZ hown (host := "") (Or.inl (own_hw hw 91 rfl)) Via.refl e101 (SHI.ext O0.2) (g := (mkF m 38 #[.val (.ref t1), .val (.int (1 : Int32)), .val (.int cz)] [(.int cz), (.int (0 : Int32)), (.ref t1)])) rfl (hb hby own_d20_38)
  refine own_st st102 ?_
  show own_Ok p e below _ (T102.setTop (mkF m 41 #[.val (.ref t1), .val (.int (1 : Int32)), .val (.int cz)] [(.int (0 : Int32)), (.int cz), (.int (0 : Int32)), (.ref t1)]))
  refine s_ishr X102 hx (hb hby own_d20_41) ?_
  refine s_i2b X102 hx (hb hby own_d20_42) ?_
  obtain ⟨T103, h103, X103, e103, W103, V103, st103⟩ := own_stB X102 hx hZ e102 V1 0 rfl (by decide) (by decide) (Nat.le_of_ble_eq_true rfl) (g := (mkF m 43 #[.val (.ref t1), .val (.int (1 : Int32)), .val (.int cz)] [(.int ((cz >>> ((0 : Int32) &&& 31)).toInt8.toInt32)), (.int (0 : Int32)), (.ref t1)])) rfl rfl (hb hby own_d20_43)
  refine own_st st103 ?_
  have V103' : Arv Z h103 t1 k1 .byte (4 : Int32) [(.int (nar .byte ((cz >>> ((0 : Int32) &&& 31)).toInt8.toInt32))), v1, v2, v3] (.int (0 : Int32)) := V103
  have N103 := Fr.snoc X103 N0 g1
  show own_Ok p e below _ (T103.setTop (mkF m 44 #[.val (.ref t1), .val (.int (1 : Int32)), .val (.int cz)] []))
  refine s_aloadN X103 hx (hb hby own_d20_44) rfl rfl ?_
  refine s_iloadN X103 hx (hb hby own_d20_45) rfl ?_
  refine s_iloadN X103 hx (hb hby own_d20_46) rfl ?_
  have f105 := O0.wr W103 g1
  obtain ⟨T104, X104, e104, st104⟩ := getS2 X103 hx hZ hown (host := "") (Or.inl (own_hw hw 92 rfl)) Via.refl e103 (SLO.ext f105.2) (g := (mkF m 47 #[.val (.ref t1), .val (.int (1 : Int32)), .val (.int cz)] [(.int cz), (.int (1 : Int32)), (.ref t1)])) rfl (hb hby own_d20_47)
  refine own_st st104 ?_
  show own_Ok p e below _ (T104.setTop (mkF m 50 #[.val (.ref t1), .val (.int (1 : Int32)), .val (.int cz)] [(.int (8 : Int32)), (.int cz), (.int (1 : Int32)), (.ref t1)]))
  refine s_ishr X104 hx (hb hby own_d20_50) ?_
  refine s_i2b X104 hx (hb hby own_d20_51) ?_
  obtain ⟨T106, h106, X106, e106, W106, V106, st106⟩ := own_stB X104 hx hZ e104 V103' 1 rfl (by decide) (by decide) (Nat.le_of_ble_eq_true rfl) (g := (mkF m 52 #[.val (.ref t1), .val (.int (1 : Int32)), .val (.int cz)] [(.int ((cz >>> ((8 : Int32) &&& 31)).toInt8.toInt32)), (.int (1 : Int32)), (.ref t1)])) rfl rfl (hb hby own_d20_52)
  refine own_st st106 ?_
  have V106' : Arv Z h106 t1 k1 .byte (4 : Int32) [(.int (nar .byte ((cz >>> ((0 : Int32) &&& 31)).toInt8.toInt32))), (.int (nar .byte ((cz >>> ((8 : Int32) &&& 31)).toInt8.toInt32))), v2, v3] (.int (0 : Int32)) := V106
  have N106 := Fr.snoc X106 N103 g1
  show own_Ok p e below _ (T106.setTop (mkF m 53 #[.val (.ref t1), .val (.int (1 : Int32)), .val (.int cz)] []))
  have Vn : Arv Z h106 t1 k1 .byte (4 : Int32) [(.int (StrChars.lo8 cz)), (.int (StrChars.hi8 cz)), v2, v3] (.int (0 : Int32)) := by rw [← own_plo cz, ← own_phi cz]; exact V106'
  have f107 := (Keep.refl h0 [t1]).wr W103 (Or.inl (by simp))
  have f108 := f107.wr W106 (Or.inl (by simp))
  exact own_retV X106 hx hlk Bd.returns (hb hby own_d20_53) (by rw [e106]; exact ⟨rfl, N106, f108, Vn⟩) (by decide) (by decide)
theorem own_ef_rm_uck21 (m : MethodId) (t1 : Addr) : entryFrame m #[(.int (1 : Int32)), (.ref t1)] 2 = mkF m 0 #[.val (.int (1 : Int32)), .val (.ref t1)] [] := by first | (simp [entryFrame, mkF, argsToLocals, Value.category]; done) | rfl
def Q_rm_uck21 (Z : State) (G1 : Int32) (G3 : Value) (c0 : Int32) (c1 : Int32) (t1 : Addr) (k1 : ClassId) (h0 : Heap) (n0 : Nat) (v : Option Value) (h : Heap) (L : List Loc) : Prop := v = none ∧ Fr n0 L ∧ h = h0
set_option maxRecDepth 65536 in
set_option maxHeartbeats 40000000 in
theorem rm_uck21 (l : Launch) (Z : State) (a0 : Array Value) (hw : ∀ d ∈ tables_1, d.before a0 Z = true) (ws : List Jvm.Cond) (G1 : Int32) (G3 : Value) (c0 : Int32) (c1 : Int32) (t1 : Addr) (k1 : ClassId) (h0 : Heap) (n0 : Nat) (O0 : Old Z n0 h0) (hst : own_St Z G1 G3) (V1 : Arv Z h0 t1 k1 .byte (4 : Int32) [(.int (StrChars.lo8 c0)), (.int (StrChars.hi8 c0)), (.int (StrChars.lo8 c1)), (.int (StrChars.hi8 c1))] (.int (0 : Int32))) :
    own_Met l Z (⟨"java/lang/StringUTF16", "checkIndex", "(I[B)V"⟩ : MethodName) jdk_52_method_91_code 2 none ws ({ frames := 2, cells := 0, slots := 0, locals := 27 } : Room) #[(.int (1 : Int32)), (.ref t1)] h0 (Q_rm_uck21 Z G1 G3 c0 c1 t1 k1 h0 n0) := by
  refine MetFree.of_bodySF (plainFor_of_name own_pn3) hisR ?_
  intro p e s m args below meth c s₁ Bd hml0 hP hK
  obtain ⟨rfl, hZ, hh⟩ := hP
  have hx := Bd.exec
  have hby := Bd.bytes
  have hml : c.maxLocals = 2 := hml0
  have hown : s.vm.findClass "java/lang/StringUTF16" = some m.cls := findClass_of_methodNamed Bd.named
  have hnm := (name_of_methodNamed Bd.named Bd.method).1
  have hlk : meth.locks = false := Bd.notSynchronized
  have X0 : Stand p l e ({ frames := 2, cells := 0, slots := 0, locals := 27 } : Room) s m #[(.int (1 : Int32)), (.ref t1)] below meth c s₁ [] 0 0 := Stand.of_body Bd
  have e0 : s₁.heap = h0 := by rw [← hh, Bd.state]; rfl
  have N0 := Fr.nil n0
  suffices hgo : own_Ok p e below (own_Qx s (Q_rm_uck21 Z G1 G3 c0 c1 t1 k1 h0 n0) 0 0) (s₁.setTop (mkF m 0 #[.val (.int (1 : Int32)), .val (.ref t1)] [])) from by
    obtain ⟨s₂, o, h1, h2⟩ := hgo
    exact ⟨s₂, o, castTop (own_ef_rm_uck21 m t1) h1, h2⟩
  have hst' := hst
  obtain ⟨SG1, PG1, SG3, rG3, SAD, SHI, SLO⟩ := hst'
  show own_Ok p e below _ (s₁.setTop (mkF m 0 #[.val (.int (1 : Int32)), .val (.ref t1)] []))
  refine s_iloadN X0 hx (hb hby own_d23_0) rfl ?_
  refine s_aloadN X0 hx (hb hby own_d23_1) rfl rfl ?_
  obtain ⟨_, T101, Lc101, X101, hQ101, st101⟩ := own_callS X0 hx hZ hown (own_hw hw 102 rfl) (own_hw hw 103 rfl) (own_hw hw 44 rfl) (own_hw hw 104 rfl) (rm_ul l Z a0 hw [] t1 k1 ((4 : Int32)) (([(.int (StrChars.lo8 c0)), (.int (StrChars.hi8 c0)), (.int (StrChars.lo8 c1)), (.int (StrChars.hi8 c1))] : List Value)) h0 n0 O0 V1) (by decide) e0 (Ls := #[.val (.int (1 : Int32)), .val (.ref t1)]) [(.ref t1)] [(.int (1 : Int32))] rfl (by rw [hml]; rfl) (lenOf own_pd1 rfl) (hb hby own_d23_2) (by decide) 1 rfl (by decide) (by decide) (by decide)
  obtain ⟨rfl, Nq101, e101⟩ := hQ101
  have N101 := Fr.app N0 Nq101
  refine st101 _ ?_
  show own_Ok p e below _ (T101.setTop (mkF m 5 #[.val (.int (1 : Int32)), .val (.ref t1)] [(.int ((4 : Int32) >>> ((1 : Int32) &&& 31))), (.int (1 : Int32))]))
  rw [show ((4 : Int32) >>> ((1 : Int32) &&& 31)) = (2 : Int32) from by decide]
  show own_Ok p e below _ (T101.setTop (mkF m 5 #[.val (.int (1 : Int32)), .val (.ref t1)] [(.int (2 : Int32)), (.int (1 : Int32))]))
  show own_Ok p e below _ (T101.setTop (mkF m 5 #[.val (.int (1 : Int32)), .val (.ref t1)] [(.int (2 : Int32)), (.int (1 : Int32))]))
  obtain ⟨_, T102, Lc102, X102, hQ102, st102⟩ := own_callS X101 hx hZ hown (own_hw hw 105 rfl) (own_hw hw 70 rfl) (own_hw hw 7 rfl) (own_hw hw 71 rfl) (rm_sck l Z a0 hw [] G1 G3 ((1 : Int32)) ((2 : Int32)) h0 n0 O0 hst (by decide) (by decide)) (by decide) e101 (Ls := #[.val (.int (1 : Int32)), .val (.ref t1)]) [(.int (1 : Int32)), (.int (2 : Int32))] [] rfl (by rw [hml]; rfl) (lenOf own_pd2 rfl) (hb hby own_d23_5) (by decide) 0 rfl (by decide) (by decide) (by decide)
  obtain ⟨rfl, Nq102, e102⟩ := hQ102
  have N102 := Fr.app N101 Nq102
  refine st102 _ ?_
  show own_Ok p e below _ (T102.setTop (mkF m 8 #[.val (.int (1 : Int32)), .val (.ref t1)] []))
  exact own_retV X102 hx hlk Bd.returns (hb hby own_d23_8) (by rw [e102]; exact ⟨rfl, N102, rfl⟩) (by decide) (by decide)
theorem own_ef_rm_gch21 (m : MethodId) (t1 : Addr) : entryFrame m #[(.ref t1), (.int (1 : Int32))] 2 = mkF m 0 #[.val (.ref t1), .val (.int (1 : Int32))] [] := by first | (simp [entryFrame, mkF, argsToLocals, Value.category]; done) | rfl
def Q_rm_gch21 (Z : State) (G1 : Int32) (G3 : Value) (c0 : Int32) (c1 : Int32) (t1 : Addr) (k1 : ClassId) (h0 : Heap) (n0 : Nat) (v : Option Value) (h : Heap) (L : List Loc) : Prop := v = some (.int c1) ∧ Fr n0 L ∧ h = h0
set_option maxRecDepth 65536 in
set_option maxHeartbeats 40000000 in
theorem rm_gch21 (l : Launch) (Z : State) (a0 : Array Value) (hw : ∀ d ∈ tables_1, d.before a0 Z = true) (ws : List Jvm.Cond) (G1 : Int32) (G3 : Value) (c0 : Int32) (c1 : Int32) (t1 : Addr) (k1 : ClassId) (h0 : Heap) (n0 : Nat) (O0 : Old Z n0 h0) (hst : own_St Z G1 G3) (r0 : ¬ c0 < 0 ∧ ¬ (65535 : Int32) < c0) (r1 : ¬ c1 < 0 ∧ ¬ (65535 : Int32) < c1) (V1 : Arv Z h0 t1 k1 .byte (4 : Int32) [(.int (StrChars.lo8 c0)), (.int (StrChars.hi8 c0)), (.int (StrChars.lo8 c1)), (.int (StrChars.hi8 c1))] (.int (0 : Int32))) :
    own_Met l Z (⟨"java/lang/StringUTF16", "getChar", "([BI)C"⟩ : MethodName) jdk_52_method_5_code 2 (some .char) ws ({ frames := 0, cells := 0, slots := 0, locals := 0 } : Room) #[(.ref t1), (.int (1 : Int32))] h0 (Q_rm_gch21 Z G1 G3 c0 c1 t1 k1 h0 n0) := by
  refine MetFree.of_bodySF (plainFor_of_name own_pn3) hisR ?_
  intro p e s m args below meth c s₁ Bd hml0 hP hK
  obtain ⟨rfl, hZ, hh⟩ := hP
  have hx := Bd.exec
  have hby := Bd.bytes
  have hml : c.maxLocals = 2 := hml0
  have hown : s.vm.findClass "java/lang/StringUTF16" = some m.cls := findClass_of_methodNamed Bd.named
  have hnm := (name_of_methodNamed Bd.named Bd.method).1
  have hlk : meth.locks = false := Bd.notSynchronized
  have X0 : Stand p l e ({ frames := 0, cells := 0, slots := 0, locals := 0 } : Room) s m #[(.ref t1), (.int (1 : Int32))] below meth c s₁ [] 0 0 := Stand.of_body Bd
  have e0 : s₁.heap = h0 := by rw [← hh, Bd.state]; rfl
  have N0 := Fr.nil n0
  suffices hgo : own_Ok p e below (own_Qx s (Q_rm_gch21 Z G1 G3 c0 c1 t1 k1 h0 n0) 0 0) (s₁.setTop (mkF m 0 #[.val (.ref t1), .val (.int (1 : Int32))] [])) from by
    obtain ⟨s₂, o, h1, h2⟩ := hgo
    exact ⟨s₂, o, castTop (own_ef_rm_gch21 m t1) h1, h2⟩
  have hst' := hst
  obtain ⟨SG1, PG1, SG3, rG3, SAD, SHI, SLO⟩ := hst'
  show own_Ok p e below _ (s₁.setTop (mkF m 0 #[.val (.ref t1), .val (.int (1 : Int32))] []))
  obtain ⟨T101, X101, e101, st101⟩ := getS2 X0 hx hZ hown (host := "") (Or.inl (own_hw hw 90 rfl)) Via.refl e0 (SAD.ext O0.2) (g := (mkF m 0 #[.val (.ref t1), .val (.int (1 : Int32))] [])) rfl (hb hby own_d21_0)
  refine own_st st101 ?_
  show own_Ok p e below _ (T101.setTop (mkF m 3 #[.val (.ref t1), .val (.int (1 : Int32))] [(.int (1 : Int32))]))
  refine s_ifYes X101 hx 28 (hb hby own_d21_3) (XT.i0_ne_t (by decide)) (by decide) (by decide) ?_
  refine s_iloadN X101 hx (hb hby own_d21_28) rfl ?_
  refine s_iconst X101 hx (1 : Int32) (hb hby own_d21_29) rfl ?_
  refine s_ishl X101 hx (hb hby own_d21_30) ?_
  show own_Ok p e below _ (T101.setTop (mkF m 31 #[.val (.ref t1), .val (.int (1 : Int32))] [(.int (2 : Int32))]))
  refine s_istoreN X101 hx (hb hby own_d21_31) #[.val (.ref t1), .val (.int (2 : Int32))] rfl ?_
  refine s_aloadN X101 hx (hb hby own_d21_32) rfl rfl ?_
  refine s_iloadN X101 hx (hb hby own_d21_33) rfl ?_
  refine s_iinc X101 hx (1 : Int32) (hb hby own_d21_34) rfl rfl #[.val (.ref t1), .val (.int (3 : Int32))] rfl ?_
  show own_Ok p e below _ (T101.setTop (mkF m 37 #[.val (.ref t1), .val (.int (3 : Int32))] [(.int (2 : Int32)), (.ref t1)]))
  refine own_st (own_ldB X101 hx hZ e101 V1 (by decide) (by decide) (v := (StrChars.lo8 c1)) rfl (g := (mkF m 37 #[.val (.ref t1), .val (.int (3 : Int32))] [(.int (2 : Int32)), (.ref t1)])) rfl rfl (hb hby own_d21_37)) ?_
  show own_Ok p e below _ (T101.setTop (mkF m 38 #[.val (.ref t1), .val (.int (3 : Int32))] [(.int (StrChars.lo8 c1))]))
  refine s_sipush X101 hx (255 : Int32) (hb hby own_d21_38) rfl ?_
  refine s_iand X101 hx (hb hby own_d21_41) ?_
  obtain ⟨T102, X102, e102, st102⟩ := getS2 X101 hx hZ hown (host := "") (Or.inl (own_hw hw 91 rfl)) Via.refl e101 (SHI.ext O0.2) (g := (mkF m 42 #[.val (.ref t1), .val (.int (3 : Int32))] [(.int ((StrChars.lo8 c1) &&& (255 : Int32)))])) rfl (hb hby own_d21_42)
  refine own_st st102 ?_
  show own_Ok p e below _ (T102.setTop (mkF m 45 #[.val (.ref t1), .val (.int (3 : Int32))] [(.int (0 : Int32)), (.int ((StrChars.lo8 c1) &&& (255 : Int32)))]))
  refine s_ishl X102 hx (hb hby own_d21_45) ?_
  refine s_aloadN X102 hx (hb hby own_d21_46) rfl rfl ?_
  refine s_iloadN X102 hx (hb hby own_d21_47) rfl ?_
  refine own_st (own_ldB X102 hx hZ e102 V1 (by decide) (by decide) (v := (StrChars.hi8 c1)) rfl (g := (mkF m 48 #[.val (.ref t1), .val (.int (3 : Int32))] [(.int (3 : Int32)), (.ref t1), (.int (((StrChars.lo8 c1) &&& (255 : Int32)) <<< ((0 : Int32) &&& 31)))])) rfl rfl (hb hby own_d21_48)) ?_
  show own_Ok p e below _ (T102.setTop (mkF m 49 #[.val (.ref t1), .val (.int (3 : Int32))] [(.int (StrChars.hi8 c1)), (.int (((StrChars.lo8 c1) &&& (255 : Int32)) <<< ((0 : Int32) &&& 31)))]))
  refine s_sipush X102 hx (255 : Int32) (hb hby own_d21_49) rfl ?_
  refine s_iand X102 hx (hb hby own_d21_52) ?_
  obtain ⟨T103, X103, e103, st103⟩ := getS2 X102 hx hZ hown (host := "") (Or.inl (own_hw hw 92 rfl)) Via.refl e102 (SLO.ext O0.2) (g := (mkF m 53 #[.val (.ref t1), .val (.int (3 : Int32))] [(.int ((StrChars.hi8 c1) &&& (255 : Int32))), (.int (((StrChars.lo8 c1) &&& (255 : Int32)) <<< ((0 : Int32) &&& 31)))])) rfl (hb hby own_d21_53)
  refine own_st st103 ?_
  show own_Ok p e below _ (T103.setTop (mkF m 56 #[.val (.ref t1), .val (.int (3 : Int32))] [(.int (8 : Int32)), (.int ((StrChars.hi8 c1) &&& (255 : Int32))), (.int (((StrChars.lo8 c1) &&& (255 : Int32)) <<< ((0 : Int32) &&& 31)))]))
  refine s_ishl X103 hx (hb hby own_d21_56) ?_
  refine s_ior X103 hx (hb hby own_d21_57) ?_
  refine s_i2c X103 hx (hb hby own_d21_58) ?_
  exact own_retN X103 hx hlk (t := .char) Bd.returns (by simp) (hb hby own_d21_59) (by rw [e103]; exact ⟨by rw [own_join r1.1 r1.2, own_narc r1.1 r1.2], N0, rfl⟩) (by decide) (by decide)
theorem own_ef_rm_uch21 (m : MethodId) (t1 : Addr) : entryFrame m #[(.ref t1), (.int (1 : Int32))] 2 = mkF m 0 #[.val (.ref t1), .val (.int (1 : Int32))] [] := by first | (simp [entryFrame, mkF, argsToLocals, Value.category]; done) | rfl
def Q_rm_uch21 (Z : State) (G1 : Int32) (G3 : Value) (c0 : Int32) (c1 : Int32) (t1 : Addr) (k1 : ClassId) (h0 : Heap) (n0 : Nat) (v : Option Value) (h : Heap) (L : List Loc) : Prop := v = some (.int c1) ∧ Fr n0 L ∧ h = h0
set_option maxRecDepth 65536 in
set_option maxHeartbeats 40000000 in
theorem rm_uch21 (l : Launch) (Z : State) (a0 : Array Value) (hw : ∀ d ∈ tables_1, d.before a0 Z = true) (ws : List Jvm.Cond) (G1 : Int32) (G3 : Value) (c0 : Int32) (c1 : Int32) (t1 : Addr) (k1 : ClassId) (h0 : Heap) (n0 : Nat) (O0 : Old Z n0 h0) (hst : own_St Z G1 G3) (r0 : ¬ c0 < 0 ∧ ¬ (65535 : Int32) < c0) (r1 : ¬ c1 < 0 ∧ ¬ (65535 : Int32) < c1) (V1 : Arv Z h0 t1 k1 .byte (4 : Int32) [(.int (StrChars.lo8 c0)), (.int (StrChars.hi8 c0)), (.int (StrChars.lo8 c1)), (.int (StrChars.hi8 c1))] (.int (0 : Int32))) :
    own_Met l Z (⟨"java/lang/StringUTF16", "charAt", "([BI)C"⟩ : MethodName) jdk_52_method_83_code 2 (some .char) ws ({ frames := 3, cells := 0, slots := 0, locals := 40 } : Room) #[(.ref t1), (.int (1 : Int32))] h0 (Q_rm_uch21 Z G1 G3 c0 c1 t1 k1 h0 n0) := by
  refine MetFree.of_bodySF (plainFor_of_name own_pn3) hisR ?_
  intro p e s m args below meth c s₁ Bd hml0 hP hK
  obtain ⟨rfl, hZ, hh⟩ := hP
  have hx := Bd.exec
  have hby := Bd.bytes
  have hml : c.maxLocals = 2 := hml0
  have hown : s.vm.findClass "java/lang/StringUTF16" = some m.cls := findClass_of_methodNamed Bd.named
  have hnm := (name_of_methodNamed Bd.named Bd.method).1
  have hlk : meth.locks = false := Bd.notSynchronized
  have X0 : Stand p l e ({ frames := 3, cells := 0, slots := 0, locals := 40 } : Room) s m #[(.ref t1), (.int (1 : Int32))] below meth c s₁ [] 0 0 := Stand.of_body Bd
  have e0 : s₁.heap = h0 := by rw [← hh, Bd.state]; rfl
  have N0 := Fr.nil n0
  suffices hgo : own_Ok p e below (own_Qx s (Q_rm_uch21 Z G1 G3 c0 c1 t1 k1 h0 n0) 0 0) (s₁.setTop (mkF m 0 #[.val (.ref t1), .val (.int (1 : Int32))] [])) from by
    obtain ⟨s₂, o, h1, h2⟩ := hgo
    exact ⟨s₂, o, castTop (own_ef_rm_uch21 m t1) h1, h2⟩
  have hst' := hst
  obtain ⟨SG1, PG1, SG3, rG3, SAD, SHI, SLO⟩ := hst'
  show own_Ok p e below _ (s₁.setTop (mkF m 0 #[.val (.ref t1), .val (.int (1 : Int32))] []))
  refine s_iloadN X0 hx (hb hby own_d22_0) rfl ?_
  refine s_aloadN X0 hx (hb hby own_d22_1) rfl rfl ?_
  obtain ⟨_, T101, Lc101, X101, hQ101, st101⟩ := own_callS X0 hx hZ hown (own_hw hw 99 rfl) (own_hw hw 100 rfl) (own_hw hw 44 rfl) (own_hw hw 101 rfl) (rm_uck21 l Z a0 hw [] G1 G3 c0 c1 t1 k1 h0 n0 O0 hst V1) (by decide) e0 (Ls := #[.val (.ref t1), .val (.int (1 : Int32))]) [(.int (1 : Int32)), (.ref t1)] [] rfl (by rw [hml]; rfl) (lenOf own_pd3 rfl) (hb hby own_d22_2) (by decide) 0 rfl (by decide) (by decide) (by decide)
  obtain ⟨rfl, Nq101, e101⟩ := hQ101
  have N101 := Fr.app N0 Nq101
  refine st101 _ ?_
  show own_Ok p e below _ (T101.setTop (mkF m 5 #[.val (.ref t1), .val (.int (1 : Int32))] []))
  refine s_aloadN X101 hx (hb hby own_d22_5) rfl rfl ?_
  refine s_iloadN X101 hx (hb hby own_d22_6) rfl ?_
  obtain ⟨_, T102, Lc102, X102, hQ102, st102⟩ := own_callS X101 hx hZ hown (own_hw hw 93 rfl) (own_hw hw 94 rfl) (own_hw hw 44 rfl) (own_hw hw 95 rfl) (rm_gch21 l Z a0 hw [] G1 G3 c0 c1 t1 k1 h0 n0 O0 hst r0 r1 V1) (by decide) e101 (Ls := #[.val (.ref t1), .val (.int (1 : Int32))]) [(.ref t1), (.int (1 : Int32))] [] rfl (by rw [hml]; rfl) (lenOf own_pd4 rfl) (hb hby own_d22_7) (by decide) 0 rfl (by decide) (by decide) (by decide)
  obtain ⟨rfl, Nq102, e102⟩ := hQ102
  have N102 := Fr.app N101 Nq102
  refine st102 _ ?_
  show own_Ok p e below _ (T102.setTop (mkF m 10 #[.val (.ref t1), .val (.int (1 : Int32))] [(.int c1)]))
  exact own_retN X102 hx hlk (t := .char) Bd.returns (by simp) (hb hby own_d22_10) (by rw [e102]; exact ⟨by rw [own_narc r1.1 r1.2], N102, rfl⟩) (by decide) (by decide)
theorem own_ef_rm_sch21 (m : MethodId) (a1 : Addr) : entryFrame m #[(.ref a1), (.int (1 : Int32))] 2 = mkF m 0 #[.val (.ref a1), .val (.int (1 : Int32))] [] := by first | (simp [entryFrame, mkF, argsToLocals, Value.category]; done) | rfl
def Q_rm_sch21 (Z : State) (G1 : Int32) (G3 : Value) (c0 : Int32) (c1 : Int32) (a1 : Addr) (t1 : Addr) (k1 : ClassId) (h0 : Heap) (n0 : Nat) (v : Option Value) (h : Heap) (L : List Loc) : Prop := v = some (.int c1) ∧ Fr n0 L ∧ h = h0
set_option maxRecDepth 65536 in
set_option maxHeartbeats 40000000 in
theorem rm_sch21 (l : Launch) (Z : State) (a0 : Array Value) (hw : ∀ d ∈ tables_1, d.before a0 Z = true) (ws : List Jvm.Cond) (G1 : Int32) (G3 : Value) (c0 : Int32) (c1 : Int32) (a1 : Addr) (t1 : Addr) (k1 : ClassId) (h0 : Heap) (n0 : Nat) (O0 : Old Z n0 h0) (hst : own_St Z G1 G3) (r0 : ¬ c0 < 0 ∧ ¬ (65535 : Int32) < c0) (r1 : ¬ c1 < 0 ∧ ¬ (65535 : Int32) < c1) (E1 : Exa Z h0 a1 "java/lang/String") (F1 : Fld Z h0 a1 "java/lang/String" "coder" "B" (.int (1 : Int32))) (F2 : Fld Z h0 a1 "java/lang/String" "value" "[B" (.ref t1)) (V1 : Arv Z h0 t1 k1 .byte (4 : Int32) [(.int (StrChars.lo8 c0)), (.int (StrChars.hi8 c0)), (.int (StrChars.lo8 c1)), (.int (StrChars.hi8 c1))] (.int (0 : Int32))) :
    own_Met l Z (⟨"java/lang/String", "charAt", "(I)C"⟩ : MethodName) jdk_42_method_56_code 2 (some .char) ws ({ frames := 4, cells := 0, slots := 0, locals := 53 } : Room) #[(.ref a1), (.int (1 : Int32))] h0 (Q_rm_sch21 Z G1 G3 c0 c1 a1 t1 k1 h0 n0) := by
  refine MetFree.of_bodySF (plainFor_of_name own_pn2) hisR ?_
  intro p e s m args below meth c s₁ Bd hml0 hP hK
  obtain ⟨rfl, hZ, hh⟩ := hP
  have hx := Bd.exec
  have hby := Bd.bytes
  have hml : c.maxLocals = 2 := hml0
  have hown : s.vm.findClass "java/lang/String" = some m.cls := findClass_of_methodNamed Bd.named
  have hnm := (name_of_methodNamed Bd.named Bd.method).1
  have hlk : meth.locks = false := Bd.notSynchronized
  have X0 : Stand p l e ({ frames := 4, cells := 0, slots := 0, locals := 53 } : Room) s m #[(.ref a1), (.int (1 : Int32))] below meth c s₁ [] 0 0 := Stand.of_body Bd
  have e0 : s₁.heap = h0 := by rw [← hh, Bd.state]; rfl
  have N0 := Fr.nil n0
  suffices hgo : own_Ok p e below (own_Qx s (Q_rm_sch21 Z G1 G3 c0 c1 a1 t1 k1 h0 n0) 0 0) (s₁.setTop (mkF m 0 #[.val (.ref a1), .val (.int (1 : Int32))] [])) from by
    obtain ⟨s₂, o, h1, h2⟩ := hgo
    exact ⟨s₂, o, castTop (own_ef_rm_sch21 m a1) h1, h2⟩
  have hst' := hst
  obtain ⟨SG1, PG1, SG3, rG3, SAD, SHI, SLO⟩ := hst'
  show own_Ok p e below _ (s₁.setTop (mkF m 0 #[.val (.ref a1), .val (.int (1 : Int32))] []))
  refine s_aloadN X0 hx (hb hby own_d12_0) rfl rfl ?_
  obtain ⟨_, T101, Lc101, X101, hQ101, st101⟩ := own_callV X0 hx hZ hown (own_hw hw 60 rfl) (own_hw hw 61 rfl) (own_hw hw 63 rfl) (own_hw hw 63 rfl) (own_hw hw 62 rfl) (own_hw hw 7 rfl) (own_hw hw 64 rfl) (rm_isl l Z a0 hw [] G1 G3 a1 h0 n0 O0 hst F1) (by decide) e0 E1 (Ls := #[.val (.ref a1), .val (.int (1 : Int32))]) [] [] rfl (by rw [hml]; rfl) (lenOf own_pd5 rfl) (hb hby own_d12_1) (by decide) 0 rfl (by decide) (by decide) (by decide)
  obtain ⟨rfl, Nq101, e101⟩ := hQ101
  have N101 := Fr.app N0 Nq101
  refine st101 _ ?_
  show own_Ok p e below _ (T101.setTop (mkF m 4 #[.val (.ref a1), .val (.int (1 : Int32))] [(.int (0 : Int32))]))
  refine s_ifYes X101 hx 16 (hb hby own_d12_4) (XT.i0_eq_t (by decide)) (by decide) (by decide) ?_
  refine s_aloadN X101 hx (hb hby own_d12_16) rfl rfl ?_
  obtain ⟨T102, X102, e102, st102⟩ := getF X101 hx hZ hown (host := "") (Or.inl (own_hw hw 25 rfl)) Via.refl e101 F2 (g := (mkF m 17 #[.val (.ref a1), .val (.int (1 : Int32))] [(.ref a1)])) rfl rfl (hb hby own_d12_17)
  refine own_st st102 ?_
  show own_Ok p e below _ (T102.setTop (mkF m 20 #[.val (.ref a1), .val (.int (1 : Int32))] [(.ref t1)]))
  refine s_iloadN X102 hx (hb hby own_d12_20) rfl ?_
  obtain ⟨_, T103, Lc103, X103, hQ103, st103⟩ := own_callS X102 hx hZ hown (own_hw hw 96 rfl) (own_hw hw 97 rfl) (own_hw hw 44 rfl) (own_hw hw 98 rfl) (rm_uch21 l Z a0 hw [] G1 G3 c0 c1 t1 k1 h0 n0 O0 hst r0 r1 V1) (by decide) e102 (Ls := #[.val (.ref a1), .val (.int (1 : Int32))]) [(.ref t1), (.int (1 : Int32))] [] rfl (by rw [hml]; rfl) (lenOf own_pd4 rfl) (hb hby own_d12_21) (by decide) 0 rfl (by decide) (by decide) (by decide)
  obtain ⟨rfl, Nq103, e103⟩ := hQ103
  have N103 := Fr.app N101 Nq103
  refine st103 _ ?_
  show own_Ok p e below _ (T103.setTop (mkF m 24 #[.val (.ref a1), .val (.int (1 : Int32))] [(.int c1)]))
  exact own_retN X103 hx hlk (t := .char) Bd.returns (by simp) (hb hby own_d12_24) (by rw [e103]; exact ⟨by rw [own_narc r1.1 r1.2], N103, rfl⟩) (by decide) (by decide)
theorem own_ef_rm_pch21 (m : MethodId) (t1 : Addr) (cz : Int32) : entryFrame m #[(.ref t1), (.int (1 : Int32)), (.int cz)] 3 = mkF m 0 #[.val (.ref t1), .val (.int (1 : Int32)), .val (.int cz)] [] := by first | (simp [entryFrame, mkF, argsToLocals, Value.category]; done) | rfl
def Q_rm_pch21 (Z : State) (G1 : Int32) (G3 : Value) (t1 : Addr) (k1 : ClassId) (cz : Int32) (v0 : Value) (v1 : Value) (v2 : Value) (v3 : Value) (h0 : Heap) (n0 : Nat) (v : Option Value) (h : Heap) (L : List Loc) : Prop := v = none ∧ Fr n0 L ∧ Keep h0 h [t1] ∧ Arv Z h t1 k1 .byte (4 : Int32) [v0, v1, (.int (StrChars.lo8 cz)), (.int (StrChars.hi8 cz))] (.int (0 : Int32))
set_option maxRecDepth 65536 in
set_option maxHeartbeats 40000000 in
theorem rm_pch21 (l : Launch) (Z : State) (a0 : Array Value) (hw : ∀ d ∈ tables_1, d.before a0 Z = true) (ws : List Jvm.Cond) (G1 : Int32) (G3 : Value) (t1 : Addr) (k1 : ClassId) (cz : Int32) (v0 : Value) (v1 : Value) (v2 : Value) (v3 : Value) (h0 : Heap) (n0 : Nat) (O0 : Old Z n0 h0) (hst : own_St Z G1 G3) (V1 : Arv Z h0 t1 k1 .byte (4 : Int32) [v0, v1, v2, v3] (.int (0 : Int32))) (g1 : n0 ≤ t1) :
    own_Met l Z (⟨"java/lang/StringUTF16", "putChar", "([BII)V"⟩ : MethodName) jdk_52_method_4_code 3 none ws ({ frames := 0, cells := 0, slots := 0, locals := 0 } : Room) #[(.ref t1), (.int (1 : Int32)), (.int cz)] h0 (Q_rm_pch21 Z G1 G3 t1 k1 cz v0 v1 v2 v3 h0 n0) := by
  refine MetFree.of_bodySF (plainFor_of_name own_pn3) hisR ?_
  intro p e s m args below meth c s₁ Bd hml0 hP hK
  obtain ⟨rfl, hZ, hh⟩ := hP
  have hx := Bd.exec
  have hby := Bd.bytes
  have hml : c.maxLocals = 3 := hml0
  have hown : s.vm.findClass "java/lang/StringUTF16" = some m.cls := findClass_of_methodNamed Bd.named
  have hnm := (name_of_methodNamed Bd.named Bd.method).1
  have hlk : meth.locks = false := Bd.notSynchronized
  have X0 : Stand p l e ({ frames := 0, cells := 0, slots := 0, locals := 0 } : Room) s m #[(.ref t1), (.int (1 : Int32)), (.int cz)] below meth c s₁ [] 0 0 := Stand.of_body Bd
  have e0 : s₁.heap = h0 := by rw [← hh, Bd.state]; rfl
  have N0 := Fr.nil n0
  suffices hgo : own_Ok p e below (own_Qx s (Q_rm_pch21 Z G1 G3 t1 k1 cz v0 v1 v2 v3 h0 n0) 0 0) (s₁.setTop (mkF m 0 #[.val (.ref t1), .val (.int (1 : Int32)), .val (.int cz)] [])) from by
    obtain ⟨s₂, o, h1, h2⟩ := hgo
    exact ⟨s₂, o, castTop (own_ef_rm_pch21 m t1 cz) h1, h2⟩
  have hst' := hst
  obtain ⟨SG1, PG1, SG3, rG3, SAD, SHI, SLO⟩ := hst'
  show own_Ok p e below _ (s₁.setTop (mkF m 0 #[.val (.ref t1), .val (.int (1 : Int32)), .val (.int cz)] []))
  obtain ⟨T101, X101, e101, st101⟩ := getS2 X0 hx hZ hown (host := "") (Or.inl (own_hw hw 90 rfl)) Via.refl e0 (SAD.ext O0.2) (g := (mkF m 0 #[.val (.ref t1), .val (.int (1 : Int32)), .val (.int cz)] [])) rfl (hb hby own_d20_0)
  refine own_st st101 ?_
  show own_Ok p e below _ (T101.setTop (mkF m 3 #[.val (.ref t1), .val (.int (1 : Int32)), .val (.int cz)] [(.int (1 : Int32))]))
  refine s_ifYes X101 hx 28 (hb hby own_d20_3) (XT.i0_ne_t (by decide)) (by decide) (by decide) ?_
  refine s_iloadN X101 hx (hb hby own_d20_28) rfl ?_
  refine s_iconst X101 hx (1 : Int32) (hb hby own_d20_29) rfl ?_
  refine s_ishl X101 hx (hb hby own_d20_30) ?_
  show own_Ok p e below _ (T101.setTop (mkF m 31 #[.val (.ref t1), .val (.int (1 : Int32)), .val (.int cz)] [(.int (2 : Int32))]))
  refine s_istoreN X101 hx (hb hby own_d20_31) #[.val (.ref t1), .val (.int (2 : Int32)), .val (.int cz)] rfl ?_
  refine s_aloadN X101 hx (hb hby own_d20_32) rfl rfl ?_
  refine s_iloadN X101 hx (hb hby own_d20_33) rfl ?_
  refine s_iinc X101 hx (1 : Int32) (hb hby own_d20_34) rfl rfl #[.val (.ref t1), .val (.int (3 : Int32)), .val (.int cz)] rfl ?_
  show own_Ok p e below _ (T101.setTop (mkF m 37 #[.val (.ref t1), .val (.int (3 : Int32)), .val (.int cz)] [(.int (2 : Int32)), (.ref t1)]))
  refine s_iloadN X101 hx (hb hby own_d20_37) rfl ?_
  obtain ⟨T102, X102, e102, st102⟩ := getS2 X101 hx hZ hown (host := "") (Or.inl (own_hw hw 91 rfl)) Via.refl e101 (SHI.ext O0.2) (g := (mkF m 38 #[.val (.ref t1), .val (.int (3 : Int32)), .val (.int cz)] [(.int cz), (.int (2 : Int32)), (.ref t1)])) rfl (hb hby own_d20_38)
  refine own_st st102 ?_
  show own_Ok p e below _ (T102.setTop (mkF m 41 #[.val (.ref t1), .val (.int (3 : Int32)), .val (.int cz)] [(.int (0 : Int32)), (.int cz), (.int (2 : Int32)), (.ref t1)]))
  refine s_ishr X102 hx (hb hby own_d20_41) ?_
  refine s_i2b X102 hx (hb hby own_d20_42) ?_
  obtain ⟨T103, h103, X103, e103, W103, V103, st103⟩ := own_stB X102 hx hZ e102 V1 2 rfl (by decide) (by decide) (Nat.le_of_ble_eq_true rfl) (g := (mkF m 43 #[.val (.ref t1), .val (.int (3 : Int32)), .val (.int cz)] [(.int ((cz >>> ((0 : Int32) &&& 31)).toInt8.toInt32)), (.int (2 : Int32)), (.ref t1)])) rfl rfl (hb hby own_d20_43)
  refine own_st st103 ?_
  have V103' : Arv Z h103 t1 k1 .byte (4 : Int32) [v0, v1, (.int (nar .byte ((cz >>> ((0 : Int32) &&& 31)).toInt8.toInt32))), v3] (.int (0 : Int32)) := V103
  have N103 := Fr.snoc X103 N0 g1
  show own_Ok p e below _ (T103.setTop (mkF m 44 #[.val (.ref t1), .val (.int (3 : Int32)), .val (.int cz)] []))
  refine s_aloadN X103 hx (hb hby own_d20_44) rfl rfl ?_
  refine s_iloadN X103 hx (hb hby own_d20_45) rfl ?_
  refine s_iloadN X103 hx (hb hby own_d20_46) rfl ?_
  have f105 := O0.wr W103 g1
  obtain ⟨T104, X104, e104, st104⟩ := getS2 X103 hx hZ hown (host := "") (Or.inl (own_hw hw 92 rfl)) Via.refl e103 (SLO.ext f105.2) (g := (mkF m 47 #[.val (.ref t1), .val (.int (3 : Int32)), .val (.int cz)] [(.int cz), (.int (3 : Int32)), (.ref t1)])) rfl (hb hby own_d20_47)
  refine own_st st104 ?_
  show own_Ok p e below _ (T104.setTop (mkF m 50 #[.val (.ref t1), .val (.int (3 : Int32)), .val (.int cz)] [(.int (8 : Int32)), (.int cz), (.int (3 : Int32)), (.ref t1)]))
  refine s_ishr X104 hx (hb hby own_d20_50) ?_
  refine s_i2b X104 hx (hb hby own_d20_51) ?_
  obtain ⟨T106, h106, X106, e106, W106, V106, st106⟩ := own_stB X104 hx hZ e104 V103' 3 rfl (by decide) (by decide) (Nat.le_of_ble_eq_true rfl) (g := (mkF m 52 #[.val (.ref t1), .val (.int (3 : Int32)), .val (.int cz)] [(.int ((cz >>> ((8 : Int32) &&& 31)).toInt8.toInt32)), (.int (3 : Int32)), (.ref t1)])) rfl rfl (hb hby own_d20_52)
  refine own_st st106 ?_
  have V106' : Arv Z h106 t1 k1 .byte (4 : Int32) [v0, v1, (.int (nar .byte ((cz >>> ((0 : Int32) &&& 31)).toInt8.toInt32))), (.int (nar .byte ((cz >>> ((8 : Int32) &&& 31)).toInt8.toInt32)))] (.int (0 : Int32)) := V106
  have N106 := Fr.snoc X106 N103 g1
  show own_Ok p e below _ (T106.setTop (mkF m 53 #[.val (.ref t1), .val (.int (3 : Int32)), .val (.int cz)] []))
  have Vn : Arv Z h106 t1 k1 .byte (4 : Int32) [v0, v1, (.int (StrChars.lo8 cz)), (.int (StrChars.hi8 cz))] (.int (0 : Int32)) := by rw [← own_plo cz, ← own_phi cz]; exact V106'
  have f107 := (Keep.refl h0 [t1]).wr W103 (Or.inl (by simp))
  have f108 := f107.wr W106 (Or.inl (by simp))
  exact own_retV X106 hx hlk Bd.returns (hb hby own_d20_53) (by rw [e106]; exact ⟨rfl, N106, f108, Vn⟩) (by decide) (by decide)
theorem own_ef_rm_nbf2 (m : MethodId) : entryFrame m #[(.int (2 : Int32))] 1 = mkF m 0 #[.val (.int (2 : Int32))] [] := by first | (simp [entryFrame, mkF, argsToLocals, Value.category]; done) | rfl
def Q_rm_nbf2 (Z : State) (h0 : Heap) (n0 : Nat) (v : Option Value) (h : Heap) (L : List Loc) : Prop := ∃ (tb : Addr), ∃ (kb : ClassId), v = some (.ref tb) ∧ Fr n0 L ∧ Keep h0 h [] ∧ Arv Z h tb kb .byte (4 : Int32) [(.int (0 : Int32)), (.int (0 : Int32)), (.int (0 : Int32)), (.int (0 : Int32))] (.int (0 : Int32)) ∧ h0.size ≤ tb
set_option maxRecDepth 65536 in
set_option maxHeartbeats 40000000 in
theorem rm_nbf2 (l : Launch) (Z : State) (a0 : Array Value) (hw : ∀ d ∈ tables_1, d.before a0 Z = true) (ws : List Jvm.Cond) (h0 : Heap) (n0 : Nat) (O0 : Old Z n0 h0) :
    own_Met l Z (⟨"java/lang/StringUTF16", "newBytesFor", "(I)[B"⟩ : MethodName) jdk_52_method_2_code 1 (some (.array .byte)) ws ({ frames := 1, cells := 1, slots := 4, locals := 12 } : Room) #[(.int (2 : Int32))] h0 (Q_rm_nbf2 Z h0 n0) := by
  refine MetFree.of_bodySF (plainFor_of_name own_pn3) hisR ?_
  intro p e s m args below meth c s₁ Bd hml0 hP hK
  obtain ⟨rfl, hZ, hh⟩ := hP
  have hx := Bd.exec
  have hby := Bd.bytes
  have hml : c.maxLocals = 1 := hml0
  have hown : s.vm.findClass "java/lang/StringUTF16" = some m.cls := findClass_of_methodNamed Bd.named
  have hnm := (name_of_methodNamed Bd.named Bd.method).1
  have hlk : meth.locks = false := Bd.notSynchronized
  have X0 : Stand p l e ({ frames := 1, cells := 1, slots := 4, locals := 12 } : Room) s m #[(.int (2 : Int32))] below meth c s₁ [] 0 0 := Stand.of_body Bd
  have e0 : s₁.heap = h0 := by rw [← hh, Bd.state]; rfl
  have N0 := Fr.nil n0
  suffices hgo : own_Ok p e below (own_Qx s (Q_rm_nbf2 Z h0 n0) 1 4) (s₁.setTop (mkF m 0 #[.val (.int (2 : Int32))] [])) from by
    obtain ⟨s₂, o, h1, h2⟩ := hgo
    exact ⟨s₂, o, castTop (own_ef_rm_nbf2 m) h1, h2⟩
  show own_Ok p e below _ (s₁.setTop (mkF m 0 #[.val (.int (2 : Int32))] []))
  refine s_iloadN X0 hx (hb hby own_d18_0) rfl ?_
  obtain ⟨_, T101, Lc101, X101, hQ101, st101⟩ := own_callS X0 hx hZ hown (own_hw hw 83 rfl) (own_hw hw 84 rfl) (own_hw hw 44 rfl) (own_hw hw 85 rfl) (rm_nbl l Z a0 hw [] ((2 : Int32)) h0 n0 O0 (by decide) (by decide)) (by decide) e0 (Ls := #[.val (.int (2 : Int32))]) [(.int (2 : Int32))] [] rfl (by rw [hml]; rfl) (lenOf own_pd6 rfl) (hb hby own_d18_1) (by decide) 0 rfl (by decide) (by decide) (by decide)
  obtain ⟨rfl, Nq101, e101⟩ := hQ101
  have N101 := Fr.app N0 Nq101
  refine st101 _ ?_
  show own_Ok p e below _ (T101.setTop (mkF m 4 #[.val (.int (2 : Int32))] [(.int ((2 : Int32) <<< ((1 : Int32) &&& 31)))]))
  rw [show ((2 : Int32) <<< ((1 : Int32) &&& 31)) = (4 : Int32) from by decide]
  show own_Ok p e below _ (T101.setTop (mkF m 4 #[.val (.int (2 : Int32))] [(.int (4 : Int32))]))
  show own_Ok p e below _ (T101.setTop (mkF m 4 #[.val (.int (2 : Int32))] [(.int (4 : Int32))]))
  obtain ⟨T102, h102, k102, X102, e102, E102, A102, st102⟩ := newP X101 hx hZ (own_hw hw 20 rfl) e101 (g := (mkF m 4 #[.val (.int (2 : Int32))] [(.int (4 : Int32))])) rfl (hb hby own_d18_4) rfl (by decide) (cap := 4) (by decide) (by decide) (by decide) (by decide)
  obtain ⟨b102, g102⟩ : ∃ z, z = h0.size := ⟨_, rfl⟩
  rw [← g102] at A102 st102
  refine own_st st102 ?_
  have gb_b102 : n0 ≤ b102 := Nat.le_trans (own_n0 O0) (Nat.le_of_eq g102.symm)
  have gz_b102 : h0.size ≤ b102 := Nat.le_trans (Keep.refl h0 []).1 (Nat.le_of_eq g102.symm)
  have V102 : Arv Z h102 b102 k102 .byte (4 : Int32) [(.int (0 : Int32)), (.int (0 : Int32)), (.int (0 : Int32)), (.int (0 : Int32))] (.int (0 : Int32)) := (Arv.new A102 (by decide)).pad (pad_rep [] (.int (0 : Int32)) 4)
  show own_Ok p e below _ (T102.setTop (mkF m 6 #[.val (.int (2 : Int32))] [(.ref b102)]))
  have f103 := (Keep.refl h0 []).ext E102
  exact own_retA X102 hx hlk (t := (.array .byte)) rfl Bd.returns rfl (hb hby own_d18_6) (by rw [e102]; exact ⟨b102, k102, rfl, N101, f103, V102, gz_b102⟩) (by decide) (by decide)
theorem own_ef_rm_tob2 (m : MethodId) (ch : Addr) : entryFrame m #[(.ref ch), (.int (0 : Int32)), (.int (2 : Int32))] 5 = mkF m 0 #[.val (.ref ch), .val (.int (0 : Int32)), .val (.int (2 : Int32)), .unset, .unset] [] := by first | (simp [entryFrame, mkF, argsToLocals, Value.category]; done) | rfl
def Q_rm_tob2 (Z : State) (G1 : Int32) (G3 : Value) (c0 : Int32) (c1 : Int32) (ch : Addr) (kc : ClassId) (h0 : Heap) (n0 : Nat) (v : Option Value) (h : Heap) (L : List Loc) : Prop := ∃ (tb : Addr), ∃ (kb : ClassId), v = some (.ref tb) ∧ Fr n0 L ∧ Keep h0 h [] ∧ Arv Z h tb kb .byte (4 : Int32) [(.int (StrChars.lo8 c0)), (.int (StrChars.hi8 c0)), (.int (StrChars.lo8 c1)), (.int (StrChars.hi8 c1))] (.int (0 : Int32)) ∧ h0.size ≤ tb
set_option maxRecDepth 65536 in
set_option maxHeartbeats 40000000 in
theorem rm_tob2 (l : Launch) (Z : State) (a0 : Array Value) (hw : ∀ d ∈ tables_1, d.before a0 Z = true) (ws : List Jvm.Cond) (G1 : Int32) (G3 : Value) (c0 : Int32) (c1 : Int32) (ch : Addr) (kc : ClassId) (h0 : Heap) (n0 : Nat) (O0 : Old Z n0 h0) (hst : own_St Z G1 G3) (VC : Arv Z h0 ch kc .char (2 : Int32) [(.int c0), (.int c1)] (.int (0 : Int32))) :
    own_Met l Z (⟨"java/lang/StringUTF16", "toBytes", "([CII)[B"⟩ : MethodName) jdk_52_method_14_code 5 (some (.array .byte)) ws ({ frames := 2, cells := 1, slots := 4, locals := 24 } : Room) #[(.ref ch), (.int (0 : Int32)), (.int (2 : Int32))] h0 (Q_rm_tob2 Z G1 G3 c0 c1 ch kc h0 n0) := by
  refine MetFree.of_bodySF (plainFor_of_name own_pn3) hisR ?_
  intro p e s m args below meth c s₁ Bd hml0 hP hK
  obtain ⟨rfl, hZ, hh⟩ := hP
  have hx := Bd.exec
  have hby := Bd.bytes
  have hml : c.maxLocals = 5 := hml0
  have hown : s.vm.findClass "java/lang/StringUTF16" = some m.cls := findClass_of_methodNamed Bd.named
  have hnm := (name_of_methodNamed Bd.named Bd.method).1
  have hlk : meth.locks = false := Bd.notSynchronized
  have X0 : Stand p l e ({ frames := 2, cells := 1, slots := 4, locals := 24 } : Room) s m #[(.ref ch), (.int (0 : Int32)), (.int (2 : Int32))] below meth c s₁ [] 0 0 := Stand.of_body Bd
  have e0 : s₁.heap = h0 := by rw [← hh, Bd.state]; rfl
  have N0 := Fr.nil n0
  suffices hgo : own_Ok p e below (own_Qx s (Q_rm_tob2 Z G1 G3 c0 c1 ch kc h0 n0) 1 4) (s₁.setTop (mkF m 0 #[.val (.ref ch), .val (.int (0 : Int32)), .val (.int (2 : Int32)), .unset, .unset] [])) from by
    obtain ⟨s₂, o, h1, h2⟩ := hgo
    exact ⟨s₂, o, castTop (own_ef_rm_tob2 m ch) h1, h2⟩
  have hst' := hst
  obtain ⟨SG1, PG1, SG3, rG3, SAD, SHI, SLO⟩ := hst'
  show own_Ok p e below _ (s₁.setTop (mkF m 0 #[.val (.ref ch), .val (.int (0 : Int32)), .val (.int (2 : Int32)), .unset, .unset] []))
  refine s_iloadN X0 hx (hb hby own_d17_0) rfl ?_
  obtain ⟨_, T101, Lc101, X101, hQ101, st101⟩ := own_callS X0 hx hZ hown (own_hw hw 80 rfl) (own_hw hw 81 rfl) (own_hw hw 44 rfl) (own_hw hw 82 rfl) (rm_nbf2 l Z a0 hw [] h0 n0 O0) (by decide) e0 (Ls := #[.val (.ref ch), .val (.int (0 : Int32)), .val (.int (2 : Int32)), .unset, .unset]) [(.int (2 : Int32))] [] rfl (by rw [hml]; rfl) (lenOf own_pd7 rfl) (hb hby own_d17_1) (by decide) 0 rfl (by decide) (by decide) (by decide)
  obtain ⟨tb_101, kb_101, rfl, Nq101, K101, g101_0, gs_tb_101⟩ := hQ101
  have N101 := Fr.app N0 Nq101
  refine st101 _ ?_
  have gb_tb_101 : n0 ≤ tb_101 := Nat.le_trans (own_n0 O0) gs_tb_101
  have gz_tb_101 : h0.size ≤ tb_101 := Nat.le_trans (Keep.refl h0 []).1 gs_tb_101
  have ne_ch_tb_101 : ch ≠ tb_101 := Nat.ne_of_lt (Nat.lt_of_lt_of_le VC.lt gs_tb_101)
  have e101 : T101.heap = T101.heap := rfl
  show own_Ok p e below _ (T101.setTop (mkF m 4 #[.val (.ref ch), .val (.int (0 : Int32)), .val (.int (2 : Int32)), .unset, .unset] [(.ref tb_101)]))
  refine s_astoreN X101 hx (hb hby own_d17_4) rfl #[.val (.ref ch), .val (.int (0 : Int32)), .val (.int (2 : Int32)), .val (.ref tb_101), .unset] rfl ?_
  refine s_iconst X101 hx (0 : Int32) (hb hby own_d17_5) rfl ?_
  refine s_istore X101 hx (hb hby own_d17_6) #[.val (.ref ch), .val (.int (0 : Int32)), .val (.int (2 : Int32)), .val (.ref tb_101), .val (.int (0 : Int32))] rfl ?_
  refine s_iload X101 hx (hb hby own_d17_8) rfl ?_
  refine s_iloadN X101 hx (hb hby own_d17_10) rfl ?_
  refine s_icmpNo X101 hx (hb hby own_d17_11) (XT.ii_ge_f (by decide)) ?_
  refine s_aloadN X101 hx (hb hby own_d17_14) rfl rfl ?_
  refine s_iload X101 hx (hb hby own_d17_15) rfl ?_
  refine s_aloadN X101 hx (hb hby own_d17_17) rfl rfl ?_
  refine s_iloadN X101 hx (hb hby own_d17_18) rfl ?_
  have f102 := VC.keep K101 nin0
  refine own_st (own_ldC X101 hx hZ e101 f102 (by decide) (by decide) (v := c0) rfl (g := (mkF m 19 #[.val (.ref ch), .val (.int (0 : Int32)), .val (.int (2 : Int32)), .val (.ref tb_101), .val (.int (0 : Int32))] [(.int (0 : Int32)), (.ref ch), (.int (0 : Int32)), (.ref tb_101)])) rfl rfl (hb hby own_d17_19)) ?_
  show own_Ok p e below _ (T101.setTop (mkF m 20 #[.val (.ref ch), .val (.int (0 : Int32)), .val (.int (2 : Int32)), .val (.ref tb_101), .val (.int (0 : Int32))] [(.int c0), (.int (0 : Int32)), (.ref tb_101)]))
  have f104 := O0.keep K101 all0
  obtain ⟨_, T103, Lc103, X103, hQ103, st103⟩ := own_callS X101 hx hZ hown (own_hw hw 87 rfl) (own_hw hw 88 rfl) (own_hw hw 44 rfl) (own_hw hw 89 rfl) (rm_pch20 l Z a0 hw [] G1 G3 tb_101 kb_101 c0 ((.int (0 : Int32))) ((.int (0 : Int32))) ((.int (0 : Int32))) ((.int (0 : Int32))) T101.heap n0 f104 hst g101_0 gb_tb_101) (by decide) e101 (Ls := #[.val (.ref ch), .val (.int (0 : Int32)), .val (.int (2 : Int32)), .val (.ref tb_101), .val (.int (0 : Int32))]) [(.ref tb_101), (.int (0 : Int32)), (.int c0)] [] rfl (by rw [hml]; rfl) (lenOf own_pd8 rfl) (hb hby own_d17_20) (by decide) 0 rfl (by decide) (by decide) (by decide)
  obtain ⟨rfl, Nq103, K103, g103_0⟩ := hQ103
  have N103 := Fr.app N101 Nq103
  refine st103 _ ?_
  have e103 : T103.heap = T103.heap := rfl
  show own_Ok p e below _ (T103.setTop (mkF m 23 #[.val (.ref ch), .val (.int (0 : Int32)), .val (.int (2 : Int32)), .val (.ref tb_101), .val (.int (0 : Int32))] []))
  refine s_iinc X103 hx (1 : Int32) (hb hby own_d17_23) rfl rfl #[.val (.ref ch), .val (.int (1 : Int32)), .val (.int (2 : Int32)), .val (.ref tb_101), .val (.int (0 : Int32))] rfl ?_
  refine s_iinc X103 hx (1 : Int32) (hb hby own_d17_26) rfl rfl #[.val (.ref ch), .val (.int (1 : Int32)), .val (.int (2 : Int32)), .val (.ref tb_101), .val (.int (1 : Int32))] rfl ?_
  refine s_goto X103 hx 8 (hb hby own_d17_29) (by decide) (by decide) ?_
  refine s_iload X103 hx (hb hby own_d17_8) rfl ?_
  refine s_iloadN X103 hx (hb hby own_d17_10) rfl ?_
  refine s_icmpNo X103 hx (hb hby own_d17_11) (XT.ii_ge_f (by decide)) ?_
  refine s_aloadN X103 hx (hb hby own_d17_14) rfl rfl ?_
  refine s_iload X103 hx (hb hby own_d17_15) rfl ?_
  refine s_aloadN X103 hx (hb hby own_d17_17) rfl rfl ?_
  refine s_iloadN X103 hx (hb hby own_d17_18) rfl ?_
  have f105 := f102.keep K103 (ninS ne_ch_tb_101 nin0)
  refine own_st (own_ldC X103 hx hZ e103 f105 (by decide) (by decide) (v := c1) rfl (g := (mkF m 19 #[.val (.ref ch), .val (.int (1 : Int32)), .val (.int (2 : Int32)), .val (.ref tb_101), .val (.int (1 : Int32))] [(.int (1 : Int32)), (.ref ch), (.int (1 : Int32)), (.ref tb_101)])) rfl rfl (hb hby own_d17_19)) ?_
  show own_Ok p e below _ (T103.setTop (mkF m 20 #[.val (.ref ch), .val (.int (1 : Int32)), .val (.int (2 : Int32)), .val (.ref tb_101), .val (.int (1 : Int32))] [(.int c1), (.int (1 : Int32)), (.ref tb_101)]))
  have f107 := f104.keep K103 (allS gb_tb_101 all0)
  obtain ⟨_, T106, Lc106, X106, hQ106, st106⟩ := own_callS X103 hx hZ hown (own_hw hw 87 rfl) (own_hw hw 88 rfl) (own_hw hw 44 rfl) (own_hw hw 89 rfl) (rm_pch21 l Z a0 hw [] G1 G3 tb_101 kb_101 c1 ((.int (StrChars.lo8 c0))) ((.int (StrChars.hi8 c0))) ((.int (0 : Int32))) ((.int (0 : Int32))) T103.heap n0 f107 hst g103_0 gb_tb_101) (by decide) e103 (Ls := #[.val (.ref ch), .val (.int (1 : Int32)), .val (.int (2 : Int32)), .val (.ref tb_101), .val (.int (1 : Int32))]) [(.ref tb_101), (.int (1 : Int32)), (.int c1)] [] rfl (by rw [hml]; rfl) (lenOf own_pd8 rfl) (hb hby own_d17_20) (by decide) 0 rfl (by decide) (by decide) (by decide)
  obtain ⟨rfl, Nq106, K106, g106_0⟩ := hQ106
  have N106 := Fr.app N103 Nq106
  refine st106 _ ?_
  have e106 : T106.heap = T106.heap := rfl
  show own_Ok p e below _ (T106.setTop (mkF m 23 #[.val (.ref ch), .val (.int (1 : Int32)), .val (.int (2 : Int32)), .val (.ref tb_101), .val (.int (1 : Int32))] []))
  refine s_iinc X106 hx (1 : Int32) (hb hby own_d17_23) rfl rfl #[.val (.ref ch), .val (.int (2 : Int32)), .val (.int (2 : Int32)), .val (.ref tb_101), .val (.int (1 : Int32))] rfl ?_
  refine s_iinc X106 hx (1 : Int32) (hb hby own_d17_26) rfl rfl #[.val (.ref ch), .val (.int (2 : Int32)), .val (.int (2 : Int32)), .val (.ref tb_101), .val (.int (2 : Int32))] rfl ?_
  refine s_goto X106 hx 8 (hb hby own_d17_29) (by decide) (by decide) ?_
  refine s_iload X106 hx (hb hby own_d17_8) rfl ?_
  refine s_iloadN X106 hx (hb hby own_d17_10) rfl ?_
  refine s_icmpYes X106 hx 32 (hb hby own_d17_11) (XT.ii_ge_t (by decide)) (by decide) (by decide) ?_
  refine s_aloadN X106 hx (hb hby own_d17_32) rfl rfl ?_
  have f108 := (Keep.refl h0 []).trans K101 all0
  have f109 := f108.trans K103 (allS (Or.inr gz_tb_101) all0)
  have f110 := f109.trans K106 (allS (Or.inr gz_tb_101) all0)
  exact own_retA X106 hx hlk (t := (.array .byte)) rfl Bd.returns rfl (hb hby own_d17_33) (by rw [e106]; exact ⟨tb_101, kb_101, rfl, N106, f110, g106_0, gz_tb_101⟩) (by decide) (by decide)
theorem own_ef_rm_cfl2 (m : MethodId) (t1 : Addr) : entryFrame m #[(.ref t1), (.int (2 : Int32))] 2 = mkF m 0 #[.val (.ref t1), .val (.int (2 : Int32))] [] := by first | (simp [entryFrame, mkF, argsToLocals, Value.category]; done) | rfl
def Q_rm_cfl2 (Z : State) (c0 : Int32) (c1 : Int32) (t1 : Addr) (k1 : ClassId) (h0 : Heap) (n0 : Nat) (v : Option Value) (h : Heap) (L : List Loc) : Prop := v = some (.int (1 : Int32)) ∧ Fr n0 L ∧ h = h0
set_option maxRecDepth 65536 in
set_option maxHeartbeats 40000000 in
theorem rm_cfl2 (l : Launch) (Z : State) (a0 : Array Value) (hw : ∀ d ∈ tables_1, d.before a0 Z = true) (ws : List Jvm.Cond) (c0 : Int32) (c1 : Int32) (t1 : Addr) (k1 : ClassId) (h0 : Heap) (n0 : Nat) (O0 : Old Z n0 h0) (V1 : Arv Z h0 t1 k1 .byte (4 : Int32) [(.int (StrChars.lo8 c0)), (.int (StrChars.hi8 c0)), (.int (StrChars.lo8 c1)), (.int (StrChars.hi8 c1))] (.int (0 : Int32))) :
    own_Met l Z (⟨"java/lang/StringUTF16", "coderFromArrayLen", "([BI)B"⟩ : MethodName) jdk_52_method_15_code 2 (some .byte) ws ({ frames := 0, cells := 0, slots := 0, locals := 0 } : Room) #[(.ref t1), (.int (2 : Int32))] h0 (Q_rm_cfl2 Z c0 c1 t1 k1 h0 n0) := by
  refine MetFree.of_bodySF (plainFor_of_name own_pn3) hisR ?_
  intro p e s m args below meth c s₁ Bd hml0 hP hK
  obtain ⟨rfl, hZ, hh⟩ := hP
  have hx := Bd.exec
  have hby := Bd.bytes
  have hml : c.maxLocals = 2 := hml0
  have hown : s.vm.findClass "java/lang/StringUTF16" = some m.cls := findClass_of_methodNamed Bd.named
  have hnm := (name_of_methodNamed Bd.named Bd.method).1
  have hlk : meth.locks = false := Bd.notSynchronized
  have X0 : Stand p l e ({ frames := 0, cells := 0, slots := 0, locals := 0 } : Room) s m #[(.ref t1), (.int (2 : Int32))] below meth c s₁ [] 0 0 := Stand.of_body Bd
  have e0 : s₁.heap = h0 := by rw [← hh, Bd.state]; rfl
  have N0 := Fr.nil n0
  suffices hgo : own_Ok p e below (own_Qx s (Q_rm_cfl2 Z c0 c1 t1 k1 h0 n0) 0 0) (s₁.setTop (mkF m 0 #[.val (.ref t1), .val (.int (2 : Int32))] [])) from by
    obtain ⟨s₂, o, h1, h2⟩ := hgo
    exact ⟨s₂, o, castTop (own_ef_rm_cfl2 m t1) h1, h2⟩
  show own_Ok p e below _ (s₁.setTop (mkF m 0 #[.val (.ref t1), .val (.int (2 : Int32))] []))
  refine s_iloadN X0 hx (hb hby own_d10_0) rfl ?_
  refine s_aloadN X0 hx (hb hby own_d10_1) rfl rfl ?_
  refine own_st (own_len X0 hx hZ e0 V1 (g := (mkF m 2 #[.val (.ref t1), .val (.int (2 : Int32))] [(.ref t1), (.int (2 : Int32))])) rfl rfl (hb hby own_d10_2)) ?_
  show own_Ok p e below _ (s₁.setTop (mkF m 3 #[.val (.ref t1), .val (.int (2 : Int32))] [(.int (4 : Int32)), (.int (2 : Int32))]))
  refine s_isub X0 hx (hb hby own_d10_3) ?_
  show own_Ok p e below _ (s₁.setTop (mkF m 4 #[.val (.ref t1), .val (.int (2 : Int32))] [(.int (-2 : Int32))]))
  refine s_bipush X0 hx (31 : Int32) (hb hby own_d10_4) rfl ?_
  refine s_iushr X0 hx (hb hby own_d10_6) ?_
  show own_Ok p e below _ (s₁.setTop (mkF m 7 #[.val (.ref t1), .val (.int (2 : Int32))] [(.int (1 : Int32))]))
  refine s_i2b X0 hx (hb hby own_d10_7) ?_
  show own_Ok p e below _ (s₁.setTop (mkF m 8 #[.val (.ref t1), .val (.int (2 : Int32))] [(.int (1 : Int32))]))
  exact own_retN X0 hx hlk (t := .byte) Bd.returns (by simp) (hb hby own_d10_8) (by rw [e0]; exact ⟨rfl, N0, rfl⟩) (by decide) (by decide)
theorem own_ef_rm_cmpa20 (m : MethodId) (ch : Addr) (t1 : Addr) : entryFrame m #[(.ref ch), (.int (0 : Int32)), (.ref t1), (.int (0 : Int32)), (.int (2 : Int32))] 7 = mkF m 0 #[.val (.ref ch), .val (.int (0 : Int32)), .val (.ref t1), .val (.int (0 : Int32)), .val (.int (2 : Int32)), .unset, .unset] [] := by first | (simp [entryFrame, mkF, argsToLocals, Value.category]; done) | rfl
def Q_rm_cmpa20 (Z : State) (c0 : Int32) (c1 : Int32) (ch : Addr) (kc : ClassId) (t1 : Addr) (k1 : ClassId) (h0 : Heap) (n0 : Nat) (v : Option Value) (h : Heap) (L : List Loc) : Prop := v = some (.int (0 : Int32)) ∧ Fr n0 L ∧ Keep h0 h [t1]
set_option maxRecDepth 65536 in
set_option maxHeartbeats 40000000 in
theorem rm_cmpa20 (l : Launch) (Z : State) (a0 : Array Value) (hw : ∀ d ∈ tables_1, d.before a0 Z = true) (ws : List Jvm.Cond) (c0 : Int32) (c1 : Int32) (ch : Addr) (kc : ClassId) (t1 : Addr) (k1 : ClassId) (h0 : Heap) (n0 : Nat) (O0 : Old Z n0 h0) (qf : (255 : Int32) < c0) (VC : Arv Z h0 ch kc .char (2 : Int32) [(.int c0), (.int c1)] (.int (0 : Int32))) (V1 : Arv Z h0 t1 k1 .byte (2 : Int32) [(.int (0 : Int32)), (.int (0 : Int32))] (.int (0 : Int32))) (g1 : n0 ≤ t1) (ne1 : ch ≠ t1) :
    own_Met l Z (⟨"java/lang/StringUTF16", "compress", "([CI[BII)I"⟩ : MethodName) jdk_52_method_21_code 7 (some .int) ws ({ frames := 0, cells := 0, slots := 0, locals := 0 } : Room) #[(.ref ch), (.int (0 : Int32)), (.ref t1), (.int (0 : Int32)), (.int (2 : Int32))] h0 (Q_rm_cmpa20 Z c0 c1 ch kc t1 k1 h0 n0) := by
  refine MetFree.of_bodySF (plainFor_of_name own_pn3) hisR ?_
  intro p e s m args below meth c s₁ Bd hml0 hP hK
  obtain ⟨rfl, hZ, hh⟩ := hP
  have hx := Bd.exec
  have hby := Bd.bytes
  have hml : c.maxLocals = 7 := hml0
  have hown : s.vm.findClass "java/lang/StringUTF16" = some m.cls := findClass_of_methodNamed Bd.named
  have hnm := (name_of_methodNamed Bd.named Bd.method).1
  have hlk : meth.locks = false := Bd.notSynchronized
  have X0 : Stand p l e ({ frames := 0, cells := 0, slots := 0, locals := 0 } : Room) s m #[(.ref ch), (.int (0 : Int32)), (.ref t1), (.int (0 : Int32)), (.int (2 : Int32))] below meth c s₁ [] 0 0 := Stand.of_body Bd
  have e0 : s₁.heap = h0 := by rw [← hh, Bd.state]; rfl
  have N0 := Fr.nil n0
  suffices hgo : own_Ok p e below (own_Qx s (Q_rm_cmpa20 Z c0 c1 ch kc t1 k1 h0 n0) 0 0) (s₁.setTop (mkF m 0 #[.val (.ref ch), .val (.int (0 : Int32)), .val (.ref t1), .val (.int (0 : Int32)), .val (.int (2 : Int32)), .unset, .unset] [])) from by
    obtain ⟨s₂, o, h1, h2⟩ := hgo
    exact ⟨s₂, o, castTop (own_ef_rm_cmpa20 m ch t1) h1, h2⟩
  show own_Ok p e below _ (s₁.setTop (mkF m 0 #[.val (.ref ch), .val (.int (0 : Int32)), .val (.ref t1), .val (.int (0 : Int32)), .val (.int (2 : Int32)), .unset, .unset] []))
  refine s_iconst X0 hx (0 : Int32) (hb hby own_d9_0) rfl ?_
  refine s_istore X0 hx (hb hby own_d9_1) #[.val (.ref ch), .val (.int (0 : Int32)), .val (.ref t1), .val (.int (0 : Int32)), .val (.int (2 : Int32)), .val (.int (0 : Int32)), .unset] rfl ?_
  refine s_iload X0 hx (hb hby own_d9_3) rfl ?_
  refine s_iload X0 hx (hb hby own_d9_5) rfl ?_
  refine s_icmpNo X0 hx (hb hby own_d9_7) (XT.ii_ge_f (by decide)) ?_
  refine s_aloadN X0 hx (hb hby own_d9_10) rfl rfl ?_
  refine s_iloadN X0 hx (hb hby own_d9_11) rfl ?_
  refine own_st (own_ldC X0 hx hZ e0 VC (by decide) (by decide) (v := c0) rfl (g := (mkF m 12 #[.val (.ref ch), .val (.int (0 : Int32)), .val (.ref t1), .val (.int (0 : Int32)), .val (.int (2 : Int32)), .val (.int (0 : Int32)), .unset] [(.int (0 : Int32)), (.ref ch)])) rfl rfl (hb hby own_d9_12)) ?_
  show own_Ok p e below _ (s₁.setTop (mkF m 13 #[.val (.ref ch), .val (.int (0 : Int32)), .val (.ref t1), .val (.int (0 : Int32)), .val (.int (2 : Int32)), .val (.int (0 : Int32)), .unset] [(.int c0)]))
  refine s_istore X0 hx (hb hby own_d9_13) #[.val (.ref ch), .val (.int (0 : Int32)), .val (.ref t1), .val (.int (0 : Int32)), .val (.int (2 : Int32)), .val (.int (0 : Int32)), .val (.int c0)] rfl ?_
  refine s_iload X0 hx (hb hby own_d9_15) rfl ?_
  refine s_sipush X0 hx (255 : Int32) (hb hby own_d9_17) rfl ?_
  refine s_icmpNo X0 hx (hb hby own_d9_20) (XT.ii_le_f qf) ?_
  refine s_iload X0 hx (hb hby own_d9_23) rfl ?_
  exact own_retI X0 hx hlk Bd.returns (hb hby own_d9_25) (by rw [e0]; exact ⟨rfl, N0, (Keep.refl h0 [t1])⟩) (by decide) (by decide)
theorem own_ef_rm_cmpb20 (m : MethodId) (ch : Addr) : entryFrame m #[(.ref ch), (.int (0 : Int32)), (.int (2 : Int32))] 6 = mkF m 0 #[.val (.ref ch), .val (.int (0 : Int32)), .val (.int (2 : Int32)), .unset, .unset, .unset] [] := by first | (simp [entryFrame, mkF, argsToLocals, Value.category]; done) | rfl
def Q_rm_cmpb20 (Z : State) (G1 : Int32) (G3 : Value) (c0 : Int32) (c1 : Int32) (ch : Addr) (kc : ClassId) (h0 : Heap) (n0 : Nat) (v : Option Value) (h : Heap) (L : List Loc) : Prop := ∃ (tb : Addr), ∃ (kb : ClassId), v = some (.ref tb) ∧ Fr n0 L ∧ Keep h0 h [] ∧ Arv Z h tb kb .byte (4 : Int32) [(.int (StrChars.lo8 c0)), (.int (StrChars.hi8 c0)), (.int (StrChars.lo8 c1)), (.int (StrChars.hi8 c1))] (.int (0 : Int32)) ∧ h0.size ≤ tb
set_option maxRecDepth 65536 in
set_option maxHeartbeats 40000000 in
theorem rm_cmpb20 (l : Launch) (Z : State) (a0 : Array Value) (hw : ∀ d ∈ tables_1, d.before a0 Z = true) (ws : List Jvm.Cond) (G1 : Int32) (G3 : Value) (c0 : Int32) (c1 : Int32) (ch : Addr) (kc : ClassId) (h0 : Heap) (n0 : Nat) (O0 : Old Z n0 h0) (hst : own_St Z G1 G3) (r0 : ¬ c0 < 0 ∧ ¬ (65535 : Int32) < c0) (r1 : ¬ c1 < 0 ∧ ¬ (65535 : Int32) < c1) (qf : (255 : Int32) < c0) (VC : Arv Z h0 ch kc .char (2 : Int32) [(.int c0), (.int c1)] (.int (0 : Int32))) :
    own_Met l Z (⟨"java/lang/StringUTF16", "compress", "([CII)[B"⟩ : MethodName) jdk_52_method_16_code 6 (some (.array .byte)) ws ({ frames := 3, cells := 2, slots := 6, locals := 40 } : Room) #[(.ref ch), (.int (0 : Int32)), (.int (2 : Int32))] h0 (Q_rm_cmpb20 Z G1 G3 c0 c1 ch kc h0 n0) := by
  refine MetFree.of_bodySF (plainFor_of_name own_pn3) hisR ?_
  intro p e s m args below meth c s₁ Bd hml0 hP hK
  obtain ⟨rfl, hZ, hh⟩ := hP
  have hx := Bd.exec
  have hby := Bd.bytes
  have hml : c.maxLocals = 6 := hml0
  have hown : s.vm.findClass "java/lang/StringUTF16" = some m.cls := findClass_of_methodNamed Bd.named
  have hnm := (name_of_methodNamed Bd.named Bd.method).1
  have hlk : meth.locks = false := Bd.notSynchronized
  have X0 : Stand p l e ({ frames := 3, cells := 2, slots := 6, locals := 40 } : Room) s m #[(.ref ch), (.int (0 : Int32)), (.int (2 : Int32))] below meth c s₁ [] 0 0 := Stand.of_body Bd
  have e0 : s₁.heap = h0 := by rw [← hh, Bd.state]; rfl
  have N0 := Fr.nil n0
  suffices hgo : own_Ok p e below (own_Qx s (Q_rm_cmpb20 Z G1 G3 c0 c1 ch kc h0 n0) 2 6) (s₁.setTop (mkF m 0 #[.val (.ref ch), .val (.int (0 : Int32)), .val (.int (2 : Int32)), .unset, .unset, .unset] [])) from by
    obtain ⟨s₂, o, h1, h2⟩ := hgo
    exact ⟨s₂, o, castTop (own_ef_rm_cmpb20 m ch) h1, h2⟩
  have hst' := hst
  obtain ⟨SG1, PG1, SG3, rG3, SAD, SHI, SLO⟩ := hst'
  show own_Ok p e below _ (s₁.setTop (mkF m 0 #[.val (.ref ch), .val (.int (0 : Int32)), .val (.int (2 : Int32)), .unset, .unset, .unset] []))
  refine s_iloadN X0 hx (hb hby own_d8_0) rfl ?_
  obtain ⟨T101, h101, k101, X101, e101, E101, A101, st101⟩ := newP X0 hx hZ (own_hw hw 20 rfl) e0 (g := (mkF m 1 #[.val (.ref ch), .val (.int (0 : Int32)), .val (.int (2 : Int32)), .unset, .unset, .unset] [(.int (2 : Int32))])) rfl (hb hby own_d8_1) rfl (by decide) (cap := 2) (by decide) (by decide) (by decide) (by decide)
  obtain ⟨b101, g101⟩ : ∃ z, z = h0.size := ⟨_, rfl⟩
  rw [← g101] at A101 st101
  refine own_st st101 ?_
  have gb_b101 : n0 ≤ b101 := Nat.le_trans (own_n0 O0) (Nat.le_of_eq g101.symm)
  have gz_b101 : h0.size ≤ b101 := Nat.le_trans (Keep.refl h0 []).1 (Nat.le_of_eq g101.symm)
  have ne_ch_b101 : ch ≠ b101 := Nat.ne_of_lt (Nat.lt_of_lt_of_le VC.lt (Nat.le_of_eq g101.symm))
  have V101 : Arv Z h101 b101 k101 .byte (2 : Int32) [(.int (0 : Int32)), (.int (0 : Int32))] (.int (0 : Int32)) := (Arv.new A101 (by decide)).pad (pad_rep [] (.int (0 : Int32)) 2)
  show own_Ok p e below _ (T101.setTop (mkF m 3 #[.val (.ref ch), .val (.int (0 : Int32)), .val (.int (2 : Int32)), .unset, .unset, .unset] [(.ref b101)]))
  refine s_astoreN X101 hx (hb hby own_d8_3) rfl #[.val (.ref ch), .val (.int (0 : Int32)), .val (.int (2 : Int32)), .val (.ref b101), .unset, .unset] rfl ?_
  refine s_aloadN X101 hx (hb hby own_d8_4) rfl rfl ?_
  refine s_iloadN X101 hx (hb hby own_d8_5) rfl ?_
  refine s_aloadN X101 hx (hb hby own_d8_6) rfl rfl ?_
  refine s_iconst X101 hx (0 : Int32) (hb hby own_d8_7) rfl ?_
  refine s_iloadN X101 hx (hb hby own_d8_8) rfl ?_
  have f103 := VC.ext E101
  have f104 := O0.ext E101
  obtain ⟨_, T102, Lc102, X102, hQ102, st102⟩ := own_callS X101 hx hZ hown (own_hw hw 46 rfl) (own_hw hw 47 rfl) (own_hw hw 44 rfl) (own_hw hw 48 rfl) (rm_cmpa20 l Z a0 hw [] c0 c1 ch kc b101 k101 h101 n0 f104 qf f103 V101 gb_b101 ne_ch_b101) (by decide) e101 (Ls := #[.val (.ref ch), .val (.int (0 : Int32)), .val (.int (2 : Int32)), .val (.ref b101), .unset, .unset]) [(.ref ch), (.int (0 : Int32)), (.ref b101), (.int (0 : Int32)), (.int (2 : Int32))] [] rfl (by rw [hml]; rfl) (lenOf own_pd9 rfl) (hb hby own_d8_9) (by decide) 0 rfl (by decide) (by decide) (by decide)
  obtain ⟨rfl, Nq102, K102⟩ := hQ102
  have N102 := Fr.app N0 Nq102
  refine st102 _ ?_
  have e102 : T102.heap = T102.heap := rfl
  show own_Ok p e below _ (T102.setTop (mkF m 12 #[.val (.ref ch), .val (.int (0 : Int32)), .val (.int (2 : Int32)), .val (.ref b101), .unset, .unset] [(.int (0 : Int32))]))
  refine s_istore X102 hx (hb hby own_d8_12) #[.val (.ref ch), .val (.int (0 : Int32)), .val (.int (2 : Int32)), .val (.ref b101), .val (.int (0 : Int32)), .unset] rfl ?_
  refine s_iload X102 hx (hb hby own_d8_14) rfl ?_
  refine s_iloadN X102 hx (hb hby own_d8_16) rfl ?_
  refine s_icmpNo X102 hx (hb hby own_d8_17) (XT.ii_eq_f (by decide)) ?_
  refine s_aloadN X102 hx (hb hby own_d8_20) rfl rfl ?_
  refine s_iloadN X102 hx (hb hby own_d8_21) rfl ?_
  refine s_iloadN X102 hx (hb hby own_d8_22) rfl ?_
  have f106 := f103.keep K102 (ninS ne_ch_b101 nin0)
  have f107 := f104.keep K102 (allS gb_b101 all0)
  obtain ⟨_, T105, Lc105, X105, hQ105, st105⟩ := own_callS X102 hx hZ hown (own_hw hw 77 rfl) (own_hw hw 78 rfl) (own_hw hw 44 rfl) (own_hw hw 79 rfl) (rm_tob2 l Z a0 hw [] G1 G3 c0 c1 ch kc T102.heap n0 f107 hst f106) (by decide) e102 (Ls := #[.val (.ref ch), .val (.int (0 : Int32)), .val (.int (2 : Int32)), .val (.ref b101), .val (.int (0 : Int32)), .unset]) [(.ref ch), (.int (0 : Int32)), (.int (2 : Int32))] [] rfl (by rw [hml]; rfl) (lenOf own_pd10 rfl) (hb hby own_d8_23) (by decide) 0 rfl (by decide) (by decide) (by decide)
  obtain ⟨tb_105, kb_105, rfl, Nq105, K105, g105_0, gs_tb_105⟩ := hQ105
  have N105 := Fr.app N102 Nq105
  refine st105 _ ?_
  have gb_tb_105 : n0 ≤ tb_105 := Nat.le_trans (own_n0 f107) gs_tb_105
  have f108 := (Keep.refl h0 []).ext E101
  have f109 := f108.trans K102 (allS (Or.inr gz_b101) all0)
  have gz_tb_105 : h0.size ≤ tb_105 := Nat.le_trans f109.1 gs_tb_105
  have ne_ch_tb_105 : ch ≠ tb_105 := Nat.ne_of_lt (Nat.lt_of_lt_of_le f106.lt gs_tb_105)
  have e105 : T105.heap = T105.heap := rfl
  show own_Ok p e below _ (T105.setTop (mkF m 26 #[.val (.ref ch), .val (.int (0 : Int32)), .val (.int (2 : Int32)), .val (.ref b101), .val (.int (0 : Int32)), .unset] [(.ref tb_105)]))
  refine s_astore X105 hx (hb hby own_d8_26) rfl #[.val (.ref ch), .val (.int (0 : Int32)), .val (.int (2 : Int32)), .val (.ref b101), .val (.int (0 : Int32)), .val (.ref tb_105)] rfl ?_
  refine s_aload X105 hx (hb hby own_d8_28) rfl rfl ?_
  refine s_iload X105 hx (hb hby own_d8_30) rfl ?_
  have f111 := f107.keep K105 all0
  obtain ⟨_, T110, Lc110, X110, hQ110, st110⟩ := own_callS X105 hx hZ hown (own_hw hw 93 rfl) (own_hw hw 94 rfl) (own_hw hw 44 rfl) (own_hw hw 95 rfl) (rm_gch20 l Z a0 hw [] G1 G3 c0 c1 tb_105 kb_105 T105.heap n0 f111 hst r0 r1 g105_0) (by decide) e105 (Ls := #[.val (.ref ch), .val (.int (0 : Int32)), .val (.int (2 : Int32)), .val (.ref b101), .val (.int (0 : Int32)), .val (.ref tb_105)]) [(.ref tb_105), (.int (0 : Int32))] [] rfl (by rw [hml]; rfl) (lenOf own_pd4 rfl) (hb hby own_d8_32) (by decide) 0 rfl (by decide) (by decide) (by decide)
  obtain ⟨rfl, Nq110, e110⟩ := hQ110
  have N110 := Fr.app N105 Nq110
  refine st110 _ ?_
  show own_Ok p e below _ (T110.setTop (mkF m 35 #[.val (.ref ch), .val (.int (0 : Int32)), .val (.int (2 : Int32)), .val (.ref b101), .val (.int (0 : Int32)), .val (.ref tb_105)] [(.int c0)]))
  refine s_sipush X110 hx (255 : Int32) (hb hby own_d8_35) rfl ?_
  refine s_icmpYes X110 hx 54 (hb hby own_d8_38) (XT.ii_gt_t qf) (by decide) (by decide) ?_
  refine s_aload X110 hx (hb hby own_d8_54) rfl rfl ?_
  have f112 := f109.trans K105 all0
  exact own_retA X110 hx hlk (t := (.array .byte)) rfl Bd.returns rfl (hb hby own_d8_56) (by rw [e110]; exact ⟨tb_105, kb_105, rfl, N110, f112, g105_0, gz_tb_105⟩) (by decide) (by decide)
theorem own_ef_rm_ini4_20 (m : MethodId) (a1 : Addr) (ch : Addr) : entryFrame m #[(.ref a1), (.ref ch), (.int (0 : Int32)), (.int (2 : Int32)), .null] 6 = mkF m 0 #[.val (.ref a1), .val (.ref ch), .val (.int (0 : Int32)), .val (.int (2 : Int32)), .val .null, .unset] [] := by first | (simp [entryFrame, mkF, argsToLocals, Value.category]; done) | rfl
def Q_rm_ini4_20 (Z : State) (G1 : Int32) (G3 : Value) (c0 : Int32) (c1 : Int32) (a1 : Addr) (ch : Addr) (kc : ClassId) (h0 : Heap) (n0 : Nat) (v : Option Value) (h : Heap) (L : List Loc) : Prop := ∃ (tb : Addr), ∃ (kb : ClassId), v = none ∧ Fr n0 L ∧ Keep h0 h [a1] ∧ Exa Z h a1 "java/lang/String" ∧ Fld Z h a1 "java/lang/String" "coder" "B" (.int (1 : Int32)) ∧ Fld Z h a1 "java/lang/String" "value" "[B" (.ref tb) ∧ Arv Z h tb kb .byte (4 : Int32) [(.int (StrChars.lo8 c0)), (.int (StrChars.hi8 c0)), (.int (StrChars.lo8 c1)), (.int (StrChars.hi8 c1))] (.int (0 : Int32)) ∧ h0.size ≤ tb
set_option maxRecDepth 65536 in
set_option maxHeartbeats 40000000 in
theorem rm_ini4_20 (l : Launch) (Z : State) (a0 : Array Value) (hw : ∀ d ∈ tables_1, d.before a0 Z = true) (ws : List Jvm.Cond) (G1 : Int32) (G3 : Value) (c0 : Int32) (c1 : Int32) (a1 : Addr) (ch : Addr) (kc : ClassId) (h0 : Heap) (n0 : Nat) (O0 : Old Z n0 h0) (hst : own_St Z G1 G3) (r0 : ¬ c0 < 0 ∧ ¬ (65535 : Int32) < c0) (r1 : ¬ c1 < 0 ∧ ¬ (65535 : Int32) < c1) (qf : (255 : Int32) < c0) (E1 : Exa Z h0 a1 "java/lang/String") (F1 : Fld Z h0 a1 "java/lang/String" "coder" "B" (.int (0 : Int32))) (F2 : Fld Z h0 a1 "java/lang/String" "value" "[B" .null) (g1 : n0 ≤ a1) (VC : Arv Z h0 ch kc .char (2 : Int32) [(.int c0), (.int c1)] (.int (0 : Int32))) :
    own_Met l Z (⟨"java/lang/String", "<init>", "([CIILjava/lang/Void;)V"⟩ : MethodName) jdk_42_method_149_code 6 none ws ({ frames := 4, cells := 2, slots := 6, locals := 57 } : Room) #[(.ref a1), (.ref ch), (.int (0 : Int32)), (.int (2 : Int32)), .null] h0 (Q_rm_ini4_20 Z G1 G3 c0 c1 a1 ch kc h0 n0) := by
  refine MetFree.of_bodySF (plainFor_of_name own_pn2) hisR ?_
  intro p e s m args below meth c s₁ Bd hml0 hP hK
  obtain ⟨rfl, hZ, hh⟩ := hP
  have hx := Bd.exec
  have hby := Bd.bytes
  have hml : c.maxLocals = 6 := hml0
  have hown : s.vm.findClass "java/lang/String" = some m.cls := findClass_of_methodNamed Bd.named
  have hnm := (name_of_methodNamed Bd.named Bd.method).1
  have hlk : meth.locks = false := Bd.notSynchronized
  have X0 : Stand p l e ({ frames := 4, cells := 2, slots := 6, locals := 57 } : Room) s m #[(.ref a1), (.ref ch), (.int (0 : Int32)), (.int (2 : Int32)), .null] below meth c s₁ [] 0 0 := Stand.of_body Bd
  have e0 : s₁.heap = h0 := by rw [← hh, Bd.state]; rfl
  have N0 := Fr.nil n0
  suffices hgo : own_Ok p e below (own_Qx s (Q_rm_ini4_20 Z G1 G3 c0 c1 a1 ch kc h0 n0) 2 6) (s₁.setTop (mkF m 0 #[.val (.ref a1), .val (.ref ch), .val (.int (0 : Int32)), .val (.int (2 : Int32)), .val .null, .unset] [])) from by
    obtain ⟨s₂, o, h1, h2⟩ := hgo
    exact ⟨s₂, o, castTop (own_ef_rm_ini4_20 m a1 ch) h1, h2⟩
  have hst' := hst
  obtain ⟨SG1, PG1, SG3, rG3, SAD, SHI, SLO⟩ := hst'
  show own_Ok p e below _ (s₁.setTop (mkF m 0 #[.val (.ref a1), .val (.ref ch), .val (.int (0 : Int32)), .val (.int (2 : Int32)), .val .null, .unset] []))
  refine s_aloadN X0 hx (hb hby own_d3_0) rfl rfl ?_
  obtain ⟨T101, X101, e101, st101⟩ := initO X0 hx hZ hown (own_hw hw 16 rfl) (own_hw hw 17 rfl) (own_hw hw 18 rfl) e0 (g := (mkF m 1 #[.val (.ref a1), .val (.ref ch), .val (.int (0 : Int32)), .val (.int (2 : Int32)), .val .null, .unset] [(.ref a1)])) rfl (by rw [hml]; rfl) rfl (hb hby own_d3_1) (by decide) (W := 0) (by show 2 * 0 + _ ≤ _; exact Nat.le_of_eq rfl) (by decide)
  refine own_st st101 ?_
  show own_Ok p e below _ (T101.setTop (mkF m 4 #[.val (.ref a1), .val (.ref ch), .val (.int (0 : Int32)), .val (.int (2 : Int32)), .val .null, .unset] []))
  refine s_iloadN X101 hx (hb hby own_d3_4) rfl ?_
  refine s_ifYes X101 hx 27 (hb hby own_d3_5) (XT.i0_ne_t (by decide)) (by decide) (by decide) ?_
  obtain ⟨T102, X102, e102, st102⟩ := getS2 X101 hx hZ hown (host := "") (Or.inl (own_hw hw 41 rfl)) Via.refl e101 (SG1.ext O0.2) (g := (mkF m 27 #[.val (.ref a1), .val (.ref ch), .val (.int (0 : Int32)), .val (.int (2 : Int32)), .val .null, .unset] [])) rfl (hb hby own_d3_27)
  refine own_st st102 ?_
  show own_Ok p e below _ (T102.setTop (mkF m 30 #[.val (.ref a1), .val (.ref ch), .val (.int (0 : Int32)), .val (.int (2 : Int32)), .val .null, .unset] [(.int G1)]))
  refine s_ifNo X102 hx (hb hby own_d3_30) (XT.i0_eq_f PG1) ?_
  refine s_aloadN X102 hx (hb hby own_d3_33) rfl rfl ?_
  refine s_iloadN X102 hx (hb hby own_d3_34) rfl ?_
  refine s_iloadN X102 hx (hb hby own_d3_35) rfl ?_
  obtain ⟨_, T103, Lc103, X103, hQ103, st103⟩ := own_callS X102 hx hZ hown (own_hw hw 42 rfl) (own_hw hw 43 rfl) (own_hw hw 44 rfl) (own_hw hw 45 rfl) (rm_cmpb20 l Z a0 hw [] G1 G3 c0 c1 ch kc h0 n0 O0 hst r0 r1 qf VC) (by decide) e102 (Ls := #[.val (.ref a1), .val (.ref ch), .val (.int (0 : Int32)), .val (.int (2 : Int32)), .val .null, .unset]) [(.ref ch), (.int (0 : Int32)), (.int (2 : Int32))] [] rfl (by rw [hml]; rfl) (lenOf own_pd10 rfl) (hb hby own_d3_36) (by decide) 0 rfl (by decide) (by decide) (by decide)
  obtain ⟨tb_103, kb_103, rfl, Nq103, K103, g103_0, gs_tb_103⟩ := hQ103
  have N103 := Fr.app N0 Nq103
  refine st103 _ ?_
  have gb_tb_103 : n0 ≤ tb_103 := Nat.le_trans (own_n0 O0) gs_tb_103
  have gz_tb_103 : h0.size ≤ tb_103 := Nat.le_trans (Keep.refl h0 [a1]).1 gs_tb_103
  have ne_a1_tb_103 : a1 ≠ tb_103 := Nat.ne_of_lt (Nat.lt_of_lt_of_le E1.lt gs_tb_103)
  have ne_ch_tb_103 : ch ≠ tb_103 := Nat.ne_of_lt (Nat.lt_of_lt_of_le VC.lt gs_tb_103)
  have e103 : T103.heap = T103.heap := rfl
  show own_Ok p e below _ (T103.setTop (mkF m 39 #[.val (.ref a1), .val (.ref ch), .val (.int (0 : Int32)), .val (.int (2 : Int32)), .val .null, .unset] [(.ref tb_103)]))
  refine s_astore X103 hx (hb hby own_d3_39) rfl #[.val (.ref a1), .val (.ref ch), .val (.int (0 : Int32)), .val (.int (2 : Int32)), .val .null, .val (.ref tb_103)] rfl ?_
  refine s_aloadN X103 hx (hb hby own_d3_41) rfl rfl ?_
  refine s_aload X103 hx (hb hby own_d3_42) rfl rfl ?_
  refine s_iloadN X103 hx (hb hby own_d3_44) rfl ?_
  have f105 := O0.keep K103 all0
  obtain ⟨_, T104, Lc104, X104, hQ104, st104⟩ := own_callS X103 hx hZ hown (own_hw hw 49 rfl) (own_hw hw 50 rfl) (own_hw hw 44 rfl) (own_hw hw 51 rfl) (rm_cfl2 l Z a0 hw [] c0 c1 tb_103 kb_103 T103.heap n0 f105 g103_0) (by decide) e103 (Ls := #[.val (.ref a1), .val (.ref ch), .val (.int (0 : Int32)), .val (.int (2 : Int32)), .val .null, .val (.ref tb_103)]) [(.ref tb_103), (.int (2 : Int32))] [(.ref a1)] rfl (by rw [hml]; rfl) (lenOf own_pd11 rfl) (hb hby own_d3_45) (by decide) 1 rfl (by decide) (by decide) (by decide)
  obtain ⟨rfl, Nq104, e104⟩ := hQ104
  have N104 := Fr.app N103 Nq104
  refine st104 _ ?_
  show own_Ok p e below _ (T104.setTop (mkF m 48 #[.val (.ref a1), .val (.ref ch), .val (.int (0 : Int32)), .val (.int (2 : Int32)), .val .null, .val (.ref tb_103)] [(.int (1 : Int32)), (.ref a1)]))
  have f106 := E1.keep K103
  have f107 := F1.keep K103 nin0
  obtain ⟨T108, h108, X108, e108, W108, st108⟩ := putFN X104 hx hZ hown (own_hw hw 26 rfl) Via.refl e104 f107 f106 (Or.inr ⟨(own_hw hw 22 rfl), rfl, hnm⟩) (own_hw hw 6 rfl) (ty := .byte) (v' := (.int (1 : Int32))) (by decide) rfl (by decide) (g := (mkF m 48 #[.val (.ref a1), .val (.ref ch), .val (.int (0 : Int32)), .val (.int (2 : Int32)), .val .null, .val (.ref tb_103)] [(.int (1 : Int32)), (.ref a1)])) rfl rfl (hb hby own_d3_48)
  refine own_st st108 ?_
  have F108 := f107.same W108
  have N108 := Fr.snoc X108 N104 g1
  show own_Ok p e below _ (T108.setTop (mkF m 51 #[.val (.ref a1), .val (.ref ch), .val (.int (0 : Int32)), .val (.int (2 : Int32)), .val .null, .val (.ref tb_103)] []))
  refine s_aloadN X108 hx (hb hby own_d3_51) rfl rfl ?_
  refine s_aload X108 hx (hb hby own_d3_52) rfl rfl ?_
  have f109 := f106.wr W108
  have f110 := F2.keep K103 nin0
  have f111 := f110.other W108 (Or.inr (slot_ne (Or.inr (own_hw hw 21 rfl)) (Or.inr (own_hw hw 22 rfl)) (by decide) (t := (.array .byte)) (t' := .byte) (by decide) (by decide)))
  obtain ⟨T112, h112, X112, e112, W112, st112⟩ := putF X108 hx hZ hown (host := "") (Or.inl (own_hw hw 25 rfl)) Via.refl e108 f111 f109 (Or.inr ⟨(own_hw hw 21 rfl), rfl, hnm⟩) (own_hw hw 6 rfl) (ty := (.array .byte)) (by decide) rfl rfl (g := (mkF m 54 #[.val (.ref a1), .val (.ref ch), .val (.int (0 : Int32)), .val (.int (2 : Int32)), .val .null, .val (.ref tb_103)] [(.ref tb_103), (.ref a1)])) rfl rfl (hb hby own_d3_54)
  refine own_st st112 ?_
  have F112 := f111.same W112
  have N112 := Fr.snoc X112 N108 g1
  show own_Ok p e below _ (T112.setTop (mkF m 57 #[.val (.ref a1), .val (.ref ch), .val (.int (0 : Int32)), .val (.int (2 : Int32)), .val .null, .val (.ref tb_103)] []))
  have f113 := (Keep.refl h0 [a1]).trans K103 all0
  have f114 := f113.wr W108 (Or.inl (by simp))
  have f115 := f114.wr W112 (Or.inl (by simp))
  have f116 := f109.wr W112
  have f117 := F108.other W112 (Or.inr (slot_ne (Or.inr (own_hw hw 22 rfl)) (Or.inr (own_hw hw 21 rfl)) (by decide) (t := .byte) (t' := (.array .byte)) (by decide) (by decide)))
  have f118 := g103_0.other W108 (Ne.symm ne_a1_tb_103)
  have f119 := f118.other W112 (Ne.symm ne_a1_tb_103)
  exact own_retV X112 hx hlk Bd.returns (hb hby own_d3_57) (by rw [e112]; exact ⟨tb_103, kb_103, rfl, N112, f115, f116, f117, F112, f119, gz_tb_103⟩) (by decide) (by decide)
theorem own_ef_rm_ini1_20 (m : MethodId) (a1 : Addr) (ch : Addr) : entryFrame m #[(.ref a1), (.ref ch)] 2 = mkF m 0 #[.val (.ref a1), .val (.ref ch)] [] := by first | (simp [entryFrame, mkF, argsToLocals, Value.category]; done) | rfl
def Q_rm_ini1_20 (Z : State) (G1 : Int32) (G3 : Value) (c0 : Int32) (c1 : Int32) (a1 : Addr) (ch : Addr) (kc : ClassId) (h0 : Heap) (n0 : Nat) (v : Option Value) (h : Heap) (L : List Loc) : Prop := ∃ (tb : Addr), ∃ (kb : ClassId), v = none ∧ Fr n0 L ∧ Keep h0 h [a1] ∧ Exa Z h a1 "java/lang/String" ∧ Fld Z h a1 "java/lang/String" "coder" "B" (.int (1 : Int32)) ∧ Fld Z h a1 "java/lang/String" "value" "[B" (.ref tb) ∧ Arv Z h tb kb .byte (4 : Int32) [(.int (StrChars.lo8 c0)), (.int (StrChars.hi8 c0)), (.int (StrChars.lo8 c1)), (.int (StrChars.hi8 c1))] (.int (0 : Int32)) ∧ h0.size ≤ tb
set_option maxRecDepth 65536 in
set_option maxHeartbeats 40000000 in
theorem rm_ini1_20 (l : Launch) (Z : State) (a0 : Array Value) (hw : ∀ d ∈ tables_1, d.before a0 Z = true) (ws : List Jvm.Cond) (G1 : Int32) (G3 : Value) (c0 : Int32) (c1 : Int32) (a1 : Addr) (ch : Addr) (kc : ClassId) (h0 : Heap) (n0 : Nat) (O0 : Old Z n0 h0) (hst : own_St Z G1 G3) (r0 : ¬ c0 < 0 ∧ ¬ (65535 : Int32) < c0) (r1 : ¬ c1 < 0 ∧ ¬ (65535 : Int32) < c1) (qf : (255 : Int32) < c0) (E1 : Exa Z h0 a1 "java/lang/String") (F1 : Fld Z h0 a1 "java/lang/String" "coder" "B" (.int (0 : Int32))) (F2 : Fld Z h0 a1 "java/lang/String" "value" "[B" .null) (g1 : n0 ≤ a1) (VC : Arv Z h0 ch kc .char (2 : Int32) [(.int c0), (.int c1)] (.int (0 : Int32))) :
    own_Met l Z (⟨"java/lang/String", "<init>", "([C)V"⟩ : MethodName) jdk_42_method_3_code 2 none ws ({ frames := 5, cells := 2, slots := 6, locals := 74 } : Room) #[(.ref a1), (.ref ch)] h0 (Q_rm_ini1_20 Z G1 G3 c0 c1 a1 ch kc h0 n0) := by
  refine MetFree.of_bodySF (plainFor_of_name own_pn2) hisR ?_
  intro p e s m args below meth c s₁ Bd hml0 hP hK
  obtain ⟨rfl, hZ, hh⟩ := hP
  have hx := Bd.exec
  have hby := Bd.bytes
  have hml : c.maxLocals = 2 := hml0
  have hown : s.vm.findClass "java/lang/String" = some m.cls := findClass_of_methodNamed Bd.named
  have hnm := (name_of_methodNamed Bd.named Bd.method).1
  have hlk : meth.locks = false := Bd.notSynchronized
  have X0 : Stand p l e ({ frames := 5, cells := 2, slots := 6, locals := 74 } : Room) s m #[(.ref a1), (.ref ch)] below meth c s₁ [] 0 0 := Stand.of_body Bd
  have e0 : s₁.heap = h0 := by rw [← hh, Bd.state]; rfl
  have N0 := Fr.nil n0
  suffices hgo : own_Ok p e below (own_Qx s (Q_rm_ini1_20 Z G1 G3 c0 c1 a1 ch kc h0 n0) 2 6) (s₁.setTop (mkF m 0 #[.val (.ref a1), .val (.ref ch)] [])) from by
    obtain ⟨s₂, o, h1, h2⟩ := hgo
    exact ⟨s₂, o, castTop (own_ef_rm_ini1_20 m a1 ch) h1, h2⟩
  have hst' := hst
  obtain ⟨SG1, PG1, SG3, rG3, SAD, SHI, SLO⟩ := hst'
  show own_Ok p e below _ (s₁.setTop (mkF m 0 #[.val (.ref a1), .val (.ref ch)] []))
  refine s_aloadN X0 hx (hb hby own_d2_0) rfl rfl ?_
  refine s_aloadN X0 hx (hb hby own_d2_1) rfl rfl ?_
  refine s_iconst X0 hx (0 : Int32) (hb hby own_d2_2) rfl ?_
  refine s_aloadN X0 hx (hb hby own_d2_3) rfl rfl ?_
  refine own_st (own_len X0 hx hZ e0 VC (g := (mkF m 4 #[.val (.ref a1), .val (.ref ch)] [(.ref ch), (.int (0 : Int32)), (.ref ch), (.ref a1)])) rfl rfl (hb hby own_d2_4)) ?_
  show own_Ok p e below _ (s₁.setTop (mkF m 5 #[.val (.ref a1), .val (.ref ch)] [(.int (2 : Int32)), (.int (0 : Int32)), (.ref ch), (.ref a1)]))
  refine s_aconstNull X0 hx (hb hby own_d2_5) ?_
  obtain ⟨_, T101, Lc101, X101, hQ101, st101⟩ := own_callN X0 hx hZ hown (own_hw hw 12 rfl) (own_hw hw 13 rfl) (own_hw hw 7 rfl) (own_hw hw 15 rfl) (rm_ini4_20 l Z a0 hw [] G1 G3 c0 c1 a1 ch kc h0 n0 O0 hst r0 r1 qf E1 F1 F2 g1 VC) rfl (by decide) e0 (Ls := #[.val (.ref a1), .val (.ref ch)]) a1 [(.ref ch), (.int (0 : Int32)), (.int (2 : Int32)), .null] [] rfl (by rw [hml]; rfl) (lenOf own_pd12 rfl) (hb hby own_d2_6) (by decide) 0 rfl (by decide) (by decide) (by decide)
  obtain ⟨tb_101, kb_101, rfl, Nq101, K101, g101_0, g101_1, g101_2, g101_3, gs_tb_101⟩ := hQ101
  have N101 := Fr.app N0 Nq101
  refine st101 _ ?_
  have gb_tb_101 : n0 ≤ tb_101 := Nat.le_trans (own_n0 O0) gs_tb_101
  have gz_tb_101 : h0.size ≤ tb_101 := Nat.le_trans (Keep.refl h0 [a1]).1 gs_tb_101
  have ne_a1_tb_101 : a1 ≠ tb_101 := Nat.ne_of_lt (Nat.lt_of_lt_of_le E1.lt gs_tb_101)
  have ne_ch_tb_101 : ch ≠ tb_101 := Nat.ne_of_lt (Nat.lt_of_lt_of_le VC.lt gs_tb_101)
  have e101 : T101.heap = T101.heap := rfl
  show own_Ok p e below _ (T101.setTop (mkF m 9 #[.val (.ref a1), .val (.ref ch)] []))
  have f102 := (Keep.refl h0 [a1]).trans K101 (allS (Or.inl (by simp)) all0)
  exact own_retV X101 hx hlk Bd.returns (hb hby own_d2_9) (by rw [e101]; exact ⟨tb_101, kb_101, rfl, N101, f102, g101_0, g101_1, g101_2, g101_3, gz_tb_101⟩) (by decide) (by decide)
theorem own_d9_26 : decode jdk_52_method_21_code 26 = .ok (.aload_n 2, 1) := by decide +kernel
theorem own_d9_27 : decode jdk_52_method_21_code 27 = .ok (.iload_n 3, 1) := by decide +kernel
theorem own_d9_28 : decode jdk_52_method_21_code 28 = .ok (.iload 6, 2) := by decide +kernel
theorem own_d9_30 : decode jdk_52_method_21_code 30 = .ok (.i2b, 1) := by decide +kernel
theorem own_d9_31 : decode jdk_52_method_21_code 31 = .ok (.bastore, 1) := by decide +kernel
theorem own_d9_32 : decode jdk_52_method_21_code 32 = .ok (.iinc 1 1, 3) := by decide +kernel
theorem own_d9_35 : decode jdk_52_method_21_code 35 = .ok (.iinc 3 1, 3) := by decide +kernel
theorem own_d9_38 : decode jdk_52_method_21_code 38 = .ok (.iinc 5 1, 3) := by decide +kernel
theorem own_d9_41 : decode jdk_52_method_21_code 41 = .ok (.goto (-38), 3) := by decide +kernel
theorem own_ef_rm_cmpa21 (m : MethodId) (ch : Addr) (t1 : Addr) : entryFrame m #[(.ref ch), (.int (0 : Int32)), (.ref t1), (.int (0 : Int32)), (.int (2 : Int32))] 7 = mkF m 0 #[.val (.ref ch), .val (.int (0 : Int32)), .val (.ref t1), .val (.int (0 : Int32)), .val (.int (2 : Int32)), .unset, .unset] [] := by first | (simp [entryFrame, mkF, argsToLocals, Value.category]; done) | rfl
def Q_rm_cmpa21 (Z : State) (c0 : Int32) (c1 : Int32) (ch : Addr) (kc : ClassId) (t1 : Addr) (k1 : ClassId) (h0 : Heap) (n0 : Nat) (v : Option Value) (h : Heap) (L : List Loc) : Prop := v = some (.int (1 : Int32)) ∧ Fr n0 L ∧ Keep h0 h [t1]
set_option maxRecDepth 65536 in
set_option maxHeartbeats 40000000 in
theorem rm_cmpa21 (l : Launch) (Z : State) (a0 : Array Value) (hw : ∀ d ∈ tables_1, d.before a0 Z = true) (ws : List Jvm.Cond) (c0 : Int32) (c1 : Int32) (ch : Addr) (kc : ClassId) (t1 : Addr) (k1 : ClassId) (h0 : Heap) (n0 : Nat) (O0 : Old Z n0 h0) (q0 : ¬ (255 : Int32) < c0) (qf : (255 : Int32) < c1) (VC : Arv Z h0 ch kc .char (2 : Int32) [(.int c0), (.int c1)] (.int (0 : Int32))) (V1 : Arv Z h0 t1 k1 .byte (2 : Int32) [(.int (0 : Int32)), (.int (0 : Int32))] (.int (0 : Int32))) (g1 : n0 ≤ t1) (ne1 : ch ≠ t1) :
    own_Met l Z (⟨"java/lang/StringUTF16", "compress", "([CI[BII)I"⟩ : MethodName) jdk_52_method_21_code 7 (some .int) ws ({ frames := 0, cells := 0, slots := 0, locals := 0 } : Room) #[(.ref ch), (.int (0 : Int32)), (.ref t1), (.int (0 : Int32)), (.int (2 : Int32))] h0 (Q_rm_cmpa21 Z c0 c1 ch kc t1 k1 h0 n0) := by
  refine MetFree.of_bodySF (plainFor_of_name own_pn3) hisR ?_
  intro p e s m args below meth c s₁ Bd hml0 hP hK
  obtain ⟨rfl, hZ, hh⟩ := hP
  have hx := Bd.exec
  have hby := Bd.bytes
  have hml : c.maxLocals = 7 := hml0
  have hown : s.vm.findClass "java/lang/StringUTF16" = some m.cls := findClass_of_methodNamed Bd.named
  have hnm := (name_of_methodNamed Bd.named Bd.method).1
  have hlk : meth.locks = false := Bd.notSynchronized
  have X0 : Stand p l e ({ frames := 0, cells := 0, slots := 0, locals := 0 } : Room) s m #[(.ref ch), (.int (0 : Int32)), (.ref t1), (.int (0 : Int32)), (.int (2 : Int32))] below meth c s₁ [] 0 0 := Stand.of_body Bd
  have e0 : s₁.heap = h0 := by rw [← hh, Bd.state]; rfl
  have N0 := Fr.nil n0
  suffices hgo : own_Ok p e below (own_Qx s (Q_rm_cmpa21 Z c0 c1 ch kc t1 k1 h0 n0) 0 0) (s₁.setTop (mkF m 0 #[.val (.ref ch), .val (.int (0 : Int32)), .val (.ref t1), .val (.int (0 : Int32)), .val (.int (2 : Int32)), .unset, .unset] [])) from by
    obtain ⟨s₂, o, h1, h2⟩ := hgo
    exact ⟨s₂, o, castTop (own_ef_rm_cmpa21 m ch t1) h1, h2⟩
  show own_Ok p e below _ (s₁.setTop (mkF m 0 #[.val (.ref ch), .val (.int (0 : Int32)), .val (.ref t1), .val (.int (0 : Int32)), .val (.int (2 : Int32)), .unset, .unset] []))
  refine s_iconst X0 hx (0 : Int32) (hb hby own_d9_0) rfl ?_
  refine s_istore X0 hx (hb hby own_d9_1) #[.val (.ref ch), .val (.int (0 : Int32)), .val (.ref t1), .val (.int (0 : Int32)), .val (.int (2 : Int32)), .val (.int (0 : Int32)), .unset] rfl ?_
  refine s_iload X0 hx (hb hby own_d9_3) rfl ?_
  refine s_iload X0 hx (hb hby own_d9_5) rfl ?_
  refine s_icmpNo X0 hx (hb hby own_d9_7) (XT.ii_ge_f (by decide)) ?_
  refine s_aloadN X0 hx (hb hby own_d9_10) rfl rfl ?_
  refine s_iloadN X0 hx (hb hby own_d9_11) rfl ?_
  refine own_st (own_ldC X0 hx hZ e0 VC (by decide) (by decide) (v := c0) rfl (g := (mkF m 12 #[.val (.ref ch), .val (.int (0 : Int32)), .val (.ref t1), .val (.int (0 : Int32)), .val (.int (2 : Int32)), .val (.int (0 : Int32)), .unset] [(.int (0 : Int32)), (.ref ch)])) rfl rfl (hb hby own_d9_12)) ?_
  show own_Ok p e below _ (s₁.setTop (mkF m 13 #[.val (.ref ch), .val (.int (0 : Int32)), .val (.ref t1), .val (.int (0 : Int32)), .val (.int (2 : Int32)), .val (.int (0 : Int32)), .unset] [(.int c0)]))
  refine s_istore X0 hx (hb hby own_d9_13) #[.val (.ref ch), .val (.int (0 : Int32)), .val (.ref t1), .val (.int (0 : Int32)), .val (.int (2 : Int32)), .val (.int (0 : Int32)), .val (.int c0)] rfl ?_
  refine s_iload X0 hx (hb hby own_d9_15) rfl ?_
  refine s_sipush X0 hx (255 : Int32) (hb hby own_d9_17) rfl ?_
  refine s_icmpYes X0 hx 26 (hb hby own_d9_20) (XT.ii_le_t q0) (by decide) (by decide) ?_
  refine s_aloadN X0 hx (hb hby own_d9_26) rfl rfl ?_
  refine s_iloadN X0 hx (hb hby own_d9_27) rfl ?_
  refine s_iload X0 hx (hb hby own_d9_28) rfl ?_
  refine s_i2b X0 hx (hb hby own_d9_30) ?_
  obtain ⟨T101, h101, X101, e101, W101, V101, st101⟩ := own_stB X0 hx hZ e0 V1 0 rfl (by decide) (by decide) (Nat.le_of_ble_eq_true rfl) (g := (mkF m 31 #[.val (.ref ch), .val (.int (0 : Int32)), .val (.ref t1), .val (.int (0 : Int32)), .val (.int (2 : Int32)), .val (.int (0 : Int32)), .val (.int c0)] [(.int (c0.toInt8.toInt32)), (.int (0 : Int32)), (.ref t1)])) rfl rfl (hb hby own_d9_31)
  refine own_st st101 ?_
  have V101' : Arv Z h101 t1 k1 .byte (2 : Int32) [(.int (nar .byte (c0.toInt8.toInt32))), (.int (0 : Int32))] (.int (0 : Int32)) := V101
  have N101 := Fr.snoc X101 N0 g1
  show own_Ok p e below _ (T101.setTop (mkF m 32 #[.val (.ref ch), .val (.int (0 : Int32)), .val (.ref t1), .val (.int (0 : Int32)), .val (.int (2 : Int32)), .val (.int (0 : Int32)), .val (.int c0)] []))
  refine s_iinc X101 hx (1 : Int32) (hb hby own_d9_32) rfl rfl #[.val (.ref ch), .val (.int (1 : Int32)), .val (.ref t1), .val (.int (0 : Int32)), .val (.int (2 : Int32)), .val (.int (0 : Int32)), .val (.int c0)] rfl ?_
  refine s_iinc X101 hx (1 : Int32) (hb hby own_d9_35) rfl rfl #[.val (.ref ch), .val (.int (1 : Int32)), .val (.ref t1), .val (.int (1 : Int32)), .val (.int (2 : Int32)), .val (.int (0 : Int32)), .val (.int c0)] rfl ?_
  refine s_iinc X101 hx (1 : Int32) (hb hby own_d9_38) rfl rfl #[.val (.ref ch), .val (.int (1 : Int32)), .val (.ref t1), .val (.int (1 : Int32)), .val (.int (2 : Int32)), .val (.int (1 : Int32)), .val (.int c0)] rfl ?_
  refine s_goto X101 hx 3 (hb hby own_d9_41) (by decide) (by decide) ?_
  refine s_iload X101 hx (hb hby own_d9_3) rfl ?_
  refine s_iload X101 hx (hb hby own_d9_5) rfl ?_
  refine s_icmpNo X101 hx (hb hby own_d9_7) (XT.ii_ge_f (by decide)) ?_
  refine s_aloadN X101 hx (hb hby own_d9_10) rfl rfl ?_
  refine s_iloadN X101 hx (hb hby own_d9_11) rfl ?_
  have f102 := VC.other W101 ne1
  refine own_st (own_ldC X101 hx hZ e101 f102 (by decide) (by decide) (v := c1) rfl (g := (mkF m 12 #[.val (.ref ch), .val (.int (1 : Int32)), .val (.ref t1), .val (.int (1 : Int32)), .val (.int (2 : Int32)), .val (.int (1 : Int32)), .val (.int c0)] [(.int (1 : Int32)), (.ref ch)])) rfl rfl (hb hby own_d9_12)) ?_
  show own_Ok p e below _ (T101.setTop (mkF m 13 #[.val (.ref ch), .val (.int (1 : Int32)), .val (.ref t1), .val (.int (1 : Int32)), .val (.int (2 : Int32)), .val (.int (1 : Int32)), .val (.int c0)] [(.int c1)]))
  refine s_istore X101 hx (hb hby own_d9_13) #[.val (.ref ch), .val (.int (1 : Int32)), .val (.ref t1), .val (.int (1 : Int32)), .val (.int (2 : Int32)), .val (.int (1 : Int32)), .val (.int c1)] rfl ?_
  refine s_iload X101 hx (hb hby own_d9_15) rfl ?_
  refine s_sipush X101 hx (255 : Int32) (hb hby own_d9_17) rfl ?_
  refine s_icmpNo X101 hx (hb hby own_d9_20) (XT.ii_le_f qf) ?_
  refine s_iload X101 hx (hb hby own_d9_23) rfl ?_
  have f103 := (Keep.refl h0 [t1]).wr W101 (Or.inl (by simp))
  exact own_retI X101 hx hlk Bd.returns (hb hby own_d9_25) (by rw [e101]; exact ⟨rfl, N101, f103⟩) (by decide) (by decide)
theorem own_ef_rm_cmpb21 (m : MethodId) (ch : Addr) : entryFrame m #[(.ref ch), (.int (0 : Int32)), (.int (2 : Int32))] 6 = mkF m 0 #[.val (.ref ch), .val (.int (0 : Int32)), .val (.int (2 : Int32)), .unset, .unset, .unset] [] := by first | (simp [entryFrame, mkF, argsToLocals, Value.category]; done) | rfl
def Q_rm_cmpb21 (Z : State) (G1 : Int32) (G3 : Value) (c0 : Int32) (c1 : Int32) (ch : Addr) (kc : ClassId) (h0 : Heap) (n0 : Nat) (v : Option Value) (h : Heap) (L : List Loc) : Prop := ∃ (tb : Addr), ∃ (kb : ClassId), v = some (.ref tb) ∧ Fr n0 L ∧ Keep h0 h [] ∧ Arv Z h tb kb .byte (4 : Int32) [(.int (StrChars.lo8 c0)), (.int (StrChars.hi8 c0)), (.int (StrChars.lo8 c1)), (.int (StrChars.hi8 c1))] (.int (0 : Int32)) ∧ h0.size ≤ tb
set_option maxRecDepth 65536 in
set_option maxHeartbeats 40000000 in
theorem rm_cmpb21 (l : Launch) (Z : State) (a0 : Array Value) (hw : ∀ d ∈ tables_1, d.before a0 Z = true) (ws : List Jvm.Cond) (G1 : Int32) (G3 : Value) (c0 : Int32) (c1 : Int32) (ch : Addr) (kc : ClassId) (h0 : Heap) (n0 : Nat) (O0 : Old Z n0 h0) (hst : own_St Z G1 G3) (r0 : ¬ c0 < 0 ∧ ¬ (65535 : Int32) < c0) (r1 : ¬ c1 < 0 ∧ ¬ (65535 : Int32) < c1) (q0 : ¬ (255 : Int32) < c0) (qf : (255 : Int32) < c1) (VC : Arv Z h0 ch kc .char (2 : Int32) [(.int c0), (.int c1)] (.int (0 : Int32))) :
    own_Met l Z (⟨"java/lang/StringUTF16", "compress", "([CII)[B"⟩ : MethodName) jdk_52_method_16_code 6 (some (.array .byte)) ws ({ frames := 3, cells := 2, slots := 6, locals := 40 } : Room) #[(.ref ch), (.int (0 : Int32)), (.int (2 : Int32))] h0 (Q_rm_cmpb21 Z G1 G3 c0 c1 ch kc h0 n0) := by
  refine MetFree.of_bodySF (plainFor_of_name own_pn3) hisR ?_
  intro p e s m args below meth c s₁ Bd hml0 hP hK
  obtain ⟨rfl, hZ, hh⟩ := hP
  have hx := Bd.exec
  have hby := Bd.bytes
  have hml : c.maxLocals = 6 := hml0
  have hown : s.vm.findClass "java/lang/StringUTF16" = some m.cls := findClass_of_methodNamed Bd.named
  have hnm := (name_of_methodNamed Bd.named Bd.method).1
  have hlk : meth.locks = false := Bd.notSynchronized
  have X0 : Stand p l e ({ frames := 3, cells := 2, slots := 6, locals := 40 } : Room) s m #[(.ref ch), (.int (0 : Int32)), (.int (2 : Int32))] below meth c s₁ [] 0 0 := Stand.of_body Bd
  have e0 : s₁.heap = h0 := by rw [← hh, Bd.state]; rfl
  have N0 := Fr.nil n0
  suffices hgo : own_Ok p e below (own_Qx s (Q_rm_cmpb21 Z G1 G3 c0 c1 ch kc h0 n0) 2 6) (s₁.setTop (mkF m 0 #[.val (.ref ch), .val (.int (0 : Int32)), .val (.int (2 : Int32)), .unset, .unset, .unset] [])) from by
    obtain ⟨s₂, o, h1, h2⟩ := hgo
    exact ⟨s₂, o, castTop (own_ef_rm_cmpb21 m ch) h1, h2⟩
  have hst' := hst
  obtain ⟨SG1, PG1, SG3, rG3, SAD, SHI, SLO⟩ := hst'
  show own_Ok p e below _ (s₁.setTop (mkF m 0 #[.val (.ref ch), .val (.int (0 : Int32)), .val (.int (2 : Int32)), .unset, .unset, .unset] []))
  refine s_iloadN X0 hx (hb hby own_d8_0) rfl ?_
  obtain ⟨T101, h101, k101, X101, e101, E101, A101, st101⟩ := newP X0 hx hZ (own_hw hw 20 rfl) e0 (g := (mkF m 1 #[.val (.ref ch), .val (.int (0 : Int32)), .val (.int (2 : Int32)), .unset, .unset, .unset] [(.int (2 : Int32))])) rfl (hb hby own_d8_1) rfl (by decide) (cap := 2) (by decide) (by decide) (by decide) (by decide)
  obtain ⟨b101, g101⟩ : ∃ z, z = h0.size := ⟨_, rfl⟩
  rw [← g101] at A101 st101
  refine own_st st101 ?_
  have gb_b101 : n0 ≤ b101 := Nat.le_trans (own_n0 O0) (Nat.le_of_eq g101.symm)
  have gz_b101 : h0.size ≤ b101 := Nat.le_trans (Keep.refl h0 []).1 (Nat.le_of_eq g101.symm)
  have ne_ch_b101 : ch ≠ b101 := Nat.ne_of_lt (Nat.lt_of_lt_of_le VC.lt (Nat.le_of_eq g101.symm))
  have V101 : Arv Z h101 b101 k101 .byte (2 : Int32) [(.int (0 : Int32)), (.int (0 : Int32))] (.int (0 : Int32)) := (Arv.new A101 (by decide)).pad (pad_rep [] (.int (0 : Int32)) 2)
  show own_Ok p e below _ (T101.setTop (mkF m 3 #[.val (.ref ch), .val (.int (0 : Int32)), .val (.int (2 : Int32)), .unset, .unset, .unset] [(.ref b101)]))
  refine s_astoreN X101 hx (hb hby own_d8_3) rfl #[.val (.ref ch), .val (.int (0 : Int32)), .val (.int (2 : Int32)), .val (.ref b101), .unset, .unset] rfl ?_
  refine s_aloadN X101 hx (hb hby own_d8_4) rfl rfl ?_
  refine s_iloadN X101 hx (hb hby own_d8_5) rfl ?_
  refine s_aloadN X101 hx (hb hby own_d8_6) rfl rfl ?_
  refine s_iconst X101 hx (0 : Int32) (hb hby own_d8_7) rfl ?_
  refine s_iloadN X101 hx (hb hby own_d8_8) rfl ?_
  have f103 := VC.ext E101
  have f104 := O0.ext E101
  obtain ⟨_, T102, Lc102, X102, hQ102, st102⟩ := own_callS X101 hx hZ hown (own_hw hw 46 rfl) (own_hw hw 47 rfl) (own_hw hw 44 rfl) (own_hw hw 48 rfl) (rm_cmpa21 l Z a0 hw [] c0 c1 ch kc b101 k101 h101 n0 f104 q0 qf f103 V101 gb_b101 ne_ch_b101) (by decide) e101 (Ls := #[.val (.ref ch), .val (.int (0 : Int32)), .val (.int (2 : Int32)), .val (.ref b101), .unset, .unset]) [(.ref ch), (.int (0 : Int32)), (.ref b101), (.int (0 : Int32)), (.int (2 : Int32))] [] rfl (by rw [hml]; rfl) (lenOf own_pd9 rfl) (hb hby own_d8_9) (by decide) 0 rfl (by decide) (by decide) (by decide)
  obtain ⟨rfl, Nq102, K102⟩ := hQ102
  have N102 := Fr.app N0 Nq102
  refine st102 _ ?_
  have e102 : T102.heap = T102.heap := rfl
  show own_Ok p e below _ (T102.setTop (mkF m 12 #[.val (.ref ch), .val (.int (0 : Int32)), .val (.int (2 : Int32)), .val (.ref b101), .unset, .unset] [(.int (1 : Int32))]))
  refine s_istore X102 hx (hb hby own_d8_12) #[.val (.ref ch), .val (.int (0 : Int32)), .val (.int (2 : Int32)), .val (.ref b101), .val (.int (1 : Int32)), .unset] rfl ?_
  refine s_iload X102 hx (hb hby own_d8_14) rfl ?_
  refine s_iloadN X102 hx (hb hby own_d8_16) rfl ?_
  refine s_icmpNo X102 hx (hb hby own_d8_17) (XT.ii_eq_f (by decide)) ?_
  refine s_aloadN X102 hx (hb hby own_d8_20) rfl rfl ?_
  refine s_iloadN X102 hx (hb hby own_d8_21) rfl ?_
  refine s_iloadN X102 hx (hb hby own_d8_22) rfl ?_
  have f106 := f103.keep K102 (ninS ne_ch_b101 nin0)
  have f107 := f104.keep K102 (allS gb_b101 all0)
  obtain ⟨_, T105, Lc105, X105, hQ105, st105⟩ := own_callS X102 hx hZ hown (own_hw hw 77 rfl) (own_hw hw 78 rfl) (own_hw hw 44 rfl) (own_hw hw 79 rfl) (rm_tob2 l Z a0 hw [] G1 G3 c0 c1 ch kc T102.heap n0 f107 hst f106) (by decide) e102 (Ls := #[.val (.ref ch), .val (.int (0 : Int32)), .val (.int (2 : Int32)), .val (.ref b101), .val (.int (1 : Int32)), .unset]) [(.ref ch), (.int (0 : Int32)), (.int (2 : Int32))] [] rfl (by rw [hml]; rfl) (lenOf own_pd10 rfl) (hb hby own_d8_23) (by decide) 0 rfl (by decide) (by decide) (by decide)
  obtain ⟨tb_105, kb_105, rfl, Nq105, K105, g105_0, gs_tb_105⟩ := hQ105
  have N105 := Fr.app N102 Nq105
  refine st105 _ ?_
  have gb_tb_105 : n0 ≤ tb_105 := Nat.le_trans (own_n0 f107) gs_tb_105
  have f108 := (Keep.refl h0 []).ext E101
  have f109 := f108.trans K102 (allS (Or.inr gz_b101) all0)
  have gz_tb_105 : h0.size ≤ tb_105 := Nat.le_trans f109.1 gs_tb_105
  have ne_ch_tb_105 : ch ≠ tb_105 := Nat.ne_of_lt (Nat.lt_of_lt_of_le f106.lt gs_tb_105)
  have e105 : T105.heap = T105.heap := rfl
  show own_Ok p e below _ (T105.setTop (mkF m 26 #[.val (.ref ch), .val (.int (0 : Int32)), .val (.int (2 : Int32)), .val (.ref b101), .val (.int (1 : Int32)), .unset] [(.ref tb_105)]))
  refine s_astore X105 hx (hb hby own_d8_26) rfl #[.val (.ref ch), .val (.int (0 : Int32)), .val (.int (2 : Int32)), .val (.ref b101), .val (.int (1 : Int32)), .val (.ref tb_105)] rfl ?_
  refine s_aload X105 hx (hb hby own_d8_28) rfl rfl ?_
  refine s_iload X105 hx (hb hby own_d8_30) rfl ?_
  have f111 := f107.keep K105 all0
  obtain ⟨_, T110, Lc110, X110, hQ110, st110⟩ := own_callS X105 hx hZ hown (own_hw hw 93 rfl) (own_hw hw 94 rfl) (own_hw hw 44 rfl) (own_hw hw 95 rfl) (rm_gch21 l Z a0 hw [] G1 G3 c0 c1 tb_105 kb_105 T105.heap n0 f111 hst r0 r1 g105_0) (by decide) e105 (Ls := #[.val (.ref ch), .val (.int (0 : Int32)), .val (.int (2 : Int32)), .val (.ref b101), .val (.int (1 : Int32)), .val (.ref tb_105)]) [(.ref tb_105), (.int (1 : Int32))] [] rfl (by rw [hml]; rfl) (lenOf own_pd4 rfl) (hb hby own_d8_32) (by decide) 0 rfl (by decide) (by decide) (by decide)
  obtain ⟨rfl, Nq110, e110⟩ := hQ110
  have N110 := Fr.app N105 Nq110
  refine st110 _ ?_
  show own_Ok p e below _ (T110.setTop (mkF m 35 #[.val (.ref ch), .val (.int (0 : Int32)), .val (.int (2 : Int32)), .val (.ref b101), .val (.int (1 : Int32)), .val (.ref tb_105)] [(.int c1)]))
  refine s_sipush X110 hx (255 : Int32) (hb hby own_d8_35) rfl ?_
  refine s_icmpYes X110 hx 54 (hb hby own_d8_38) (XT.ii_gt_t qf) (by decide) (by decide) ?_
  refine s_aload X110 hx (hb hby own_d8_54) rfl rfl ?_
  have f112 := f109.trans K105 all0
  exact own_retA X110 hx hlk (t := (.array .byte)) rfl Bd.returns rfl (hb hby own_d8_56) (by rw [e110]; exact ⟨tb_105, kb_105, rfl, N110, f112, g105_0, gz_tb_105⟩) (by decide) (by decide)
theorem own_ef_rm_ini4_21 (m : MethodId) (a1 : Addr) (ch : Addr) : entryFrame m #[(.ref a1), (.ref ch), (.int (0 : Int32)), (.int (2 : Int32)), .null] 6 = mkF m 0 #[.val (.ref a1), .val (.ref ch), .val (.int (0 : Int32)), .val (.int (2 : Int32)), .val .null, .unset] [] := by first | (simp [entryFrame, mkF, argsToLocals, Value.category]; done) | rfl
def Q_rm_ini4_21 (Z : State) (G1 : Int32) (G3 : Value) (c0 : Int32) (c1 : Int32) (a1 : Addr) (ch : Addr) (kc : ClassId) (h0 : Heap) (n0 : Nat) (v : Option Value) (h : Heap) (L : List Loc) : Prop := ∃ (tb : Addr), ∃ (kb : ClassId), v = none ∧ Fr n0 L ∧ Keep h0 h [a1] ∧ Exa Z h a1 "java/lang/String" ∧ Fld Z h a1 "java/lang/String" "coder" "B" (.int (1 : Int32)) ∧ Fld Z h a1 "java/lang/String" "value" "[B" (.ref tb) ∧ Arv Z h tb kb .byte (4 : Int32) [(.int (StrChars.lo8 c0)), (.int (StrChars.hi8 c0)), (.int (StrChars.lo8 c1)), (.int (StrChars.hi8 c1))] (.int (0 : Int32)) ∧ h0.size ≤ tb
set_option maxRecDepth 65536 in
set_option maxHeartbeats 40000000 in
theorem rm_ini4_21 (l : Launch) (Z : State) (a0 : Array Value) (hw : ∀ d ∈ tables_1, d.before a0 Z = true) (ws : List Jvm.Cond) (G1 : Int32) (G3 : Value) (c0 : Int32) (c1 : Int32) (a1 : Addr) (ch : Addr) (kc : ClassId) (h0 : Heap) (n0 : Nat) (O0 : Old Z n0 h0) (hst : own_St Z G1 G3) (r0 : ¬ c0 < 0 ∧ ¬ (65535 : Int32) < c0) (r1 : ¬ c1 < 0 ∧ ¬ (65535 : Int32) < c1) (q0 : ¬ (255 : Int32) < c0) (qf : (255 : Int32) < c1) (E1 : Exa Z h0 a1 "java/lang/String") (F1 : Fld Z h0 a1 "java/lang/String" "coder" "B" (.int (0 : Int32))) (F2 : Fld Z h0 a1 "java/lang/String" "value" "[B" .null) (g1 : n0 ≤ a1) (VC : Arv Z h0 ch kc .char (2 : Int32) [(.int c0), (.int c1)] (.int (0 : Int32))) :
    own_Met l Z (⟨"java/lang/String", "<init>", "([CIILjava/lang/Void;)V"⟩ : MethodName) jdk_42_method_149_code 6 none ws ({ frames := 4, cells := 2, slots := 6, locals := 57 } : Room) #[(.ref a1), (.ref ch), (.int (0 : Int32)), (.int (2 : Int32)), .null] h0 (Q_rm_ini4_21 Z G1 G3 c0 c1 a1 ch kc h0 n0) := by
  refine MetFree.of_bodySF (plainFor_of_name own_pn2) hisR ?_
  intro p e s m args below meth c s₁ Bd hml0 hP hK
  obtain ⟨rfl, hZ, hh⟩ := hP
  have hx := Bd.exec
  have hby := Bd.bytes
  have hml : c.maxLocals = 6 := hml0
  have hown : s.vm.findClass "java/lang/String" = some m.cls := findClass_of_methodNamed Bd.named
  have hnm := (name_of_methodNamed Bd.named Bd.method).1
  have hlk : meth.locks = false := Bd.notSynchronized
  have X0 : Stand p l e ({ frames := 4, cells := 2, slots := 6, locals := 57 } : Room) s m #[(.ref a1), (.ref ch), (.int (0 : Int32)), (.int (2 : Int32)), .null] below meth c s₁ [] 0 0 := Stand.of_body Bd
  have e0 : s₁.heap = h0 := by rw [← hh, Bd.state]; rfl
  have N0 := Fr.nil n0
  suffices hgo : own_Ok p e below (own_Qx s (Q_rm_ini4_21 Z G1 G3 c0 c1 a1 ch kc h0 n0) 2 6) (s₁.setTop (mkF m 0 #[.val (.ref a1), .val (.ref ch), .val (.int (0 : Int32)), .val (.int (2 : Int32)), .val .null, .unset] [])) from by
    obtain ⟨s₂, o, h1, h2⟩ := hgo
    exact ⟨s₂, o, castTop (own_ef_rm_ini4_21 m a1 ch) h1, h2⟩
  have hst' := hst
  obtain ⟨SG1, PG1, SG3, rG3, SAD, SHI, SLO⟩ := hst'
  show own_Ok p e below _ (s₁.setTop (mkF m 0 #[.val (.ref a1), .val (.ref ch), .val (.int (0 : Int32)), .val (.int (2 : Int32)), .val .null, .unset] []))
  refine s_aloadN X0 hx (hb hby own_d3_0) rfl rfl ?_
  obtain ⟨T101, X101, e101, st101⟩ := initO X0 hx hZ hown (own_hw hw 16 rfl) (own_hw hw 17 rfl) (own_hw hw 18 rfl) e0 (g := (mkF m 1 #[.val (.ref a1), .val (.ref ch), .val (.int (0 : Int32)), .val (.int (2 : Int32)), .val .null, .unset] [(.ref a1)])) rfl (by rw [hml]; rfl) rfl (hb hby own_d3_1) (by decide) (W := 0) (by show 2 * 0 + _ ≤ _; exact Nat.le_of_eq rfl) (by decide)
  refine own_st st101 ?_
  show own_Ok p e below _ (T101.setTop (mkF m 4 #[.val (.ref a1), .val (.ref ch), .val (.int (0 : Int32)), .val (.int (2 : Int32)), .val .null, .unset] []))
  refine s_iloadN X101 hx (hb hby own_d3_4) rfl ?_
  refine s_ifYes X101 hx 27 (hb hby own_d3_5) (XT.i0_ne_t (by decide)) (by decide) (by decide) ?_
  obtain ⟨T102, X102, e102, st102⟩ := getS2 X101 hx hZ hown (host := "") (Or.inl (own_hw hw 41 rfl)) Via.refl e101 (SG1.ext O0.2) (g := (mkF m 27 #[.val (.ref a1), .val (.ref ch), .val (.int (0 : Int32)), .val (.int (2 : Int32)), .val .null, .unset] [])) rfl (hb hby own_d3_27)
  refine own_st st102 ?_
  show own_Ok p e below _ (T102.setTop (mkF m 30 #[.val (.ref a1), .val (.ref ch), .val (.int (0 : Int32)), .val (.int (2 : Int32)), .val .null, .unset] [(.int G1)]))
  refine s_ifNo X102 hx (hb hby own_d3_30) (XT.i0_eq_f PG1) ?_
  refine s_aloadN X102 hx (hb hby own_d3_33) rfl rfl ?_
  refine s_iloadN X102 hx (hb hby own_d3_34) rfl ?_
  refine s_iloadN X102 hx (hb hby own_d3_35) rfl ?_
  obtain ⟨_, T103, Lc103, X103, hQ103, st103⟩ := own_callS X102 hx hZ hown (own_hw hw 42 rfl) (own_hw hw 43 rfl) (own_hw hw 44 rfl) (own_hw hw 45 rfl) (rm_cmpb21 l Z a0 hw [] G1 G3 c0 c1 ch kc h0 n0 O0 hst r0 r1 q0 qf VC) (by decide) e102 (Ls := #[.val (.ref a1), .val (.ref ch), .val (.int (0 : Int32)), .val (.int (2 : Int32)), .val .null, .unset]) [(.ref ch), (.int (0 : Int32)), (.int (2 : Int32))] [] rfl (by rw [hml]; rfl) (lenOf own_pd10 rfl) (hb hby own_d3_36) (by decide) 0 rfl (by decide) (by decide) (by decide)
  obtain ⟨tb_103, kb_103, rfl, Nq103, K103, g103_0, gs_tb_103⟩ := hQ103
  have N103 := Fr.app N0 Nq103
  refine st103 _ ?_
  have gb_tb_103 : n0 ≤ tb_103 := Nat.le_trans (own_n0 O0) gs_tb_103
  have gz_tb_103 : h0.size ≤ tb_103 := Nat.le_trans (Keep.refl h0 [a1]).1 gs_tb_103
  have ne_a1_tb_103 : a1 ≠ tb_103 := Nat.ne_of_lt (Nat.lt_of_lt_of_le E1.lt gs_tb_103)
  have ne_ch_tb_103 : ch ≠ tb_103 := Nat.ne_of_lt (Nat.lt_of_lt_of_le VC.lt gs_tb_103)
  have e103 : T103.heap = T103.heap := rfl
  show own_Ok p e below _ (T103.setTop (mkF m 39 #[.val (.ref a1), .val (.ref ch), .val (.int (0 : Int32)), .val (.int (2 : Int32)), .val .null, .unset] [(.ref tb_103)]))
  refine s_astore X103 hx (hb hby own_d3_39) rfl #[.val (.ref a1), .val (.ref ch), .val (.int (0 : Int32)), .val (.int (2 : Int32)), .val .null, .val (.ref tb_103)] rfl ?_
  refine s_aloadN X103 hx (hb hby own_d3_41) rfl rfl ?_
  refine s_aload X103 hx (hb hby own_d3_42) rfl rfl ?_
  refine s_iloadN X103 hx (hb hby own_d3_44) rfl ?_
  have f105 := O0.keep K103 all0
  obtain ⟨_, T104, Lc104, X104, hQ104, st104⟩ := own_callS X103 hx hZ hown (own_hw hw 49 rfl) (own_hw hw 50 rfl) (own_hw hw 44 rfl) (own_hw hw 51 rfl) (rm_cfl2 l Z a0 hw [] c0 c1 tb_103 kb_103 T103.heap n0 f105 g103_0) (by decide) e103 (Ls := #[.val (.ref a1), .val (.ref ch), .val (.int (0 : Int32)), .val (.int (2 : Int32)), .val .null, .val (.ref tb_103)]) [(.ref tb_103), (.int (2 : Int32))] [(.ref a1)] rfl (by rw [hml]; rfl) (lenOf own_pd11 rfl) (hb hby own_d3_45) (by decide) 1 rfl (by decide) (by decide) (by decide)
  obtain ⟨rfl, Nq104, e104⟩ := hQ104
  have N104 := Fr.app N103 Nq104
  refine st104 _ ?_
  show own_Ok p e below _ (T104.setTop (mkF m 48 #[.val (.ref a1), .val (.ref ch), .val (.int (0 : Int32)), .val (.int (2 : Int32)), .val .null, .val (.ref tb_103)] [(.int (1 : Int32)), (.ref a1)]))
  have f106 := E1.keep K103
  have f107 := F1.keep K103 nin0
  obtain ⟨T108, h108, X108, e108, W108, st108⟩ := putFN X104 hx hZ hown (own_hw hw 26 rfl) Via.refl e104 f107 f106 (Or.inr ⟨(own_hw hw 22 rfl), rfl, hnm⟩) (own_hw hw 6 rfl) (ty := .byte) (v' := (.int (1 : Int32))) (by decide) rfl (by decide) (g := (mkF m 48 #[.val (.ref a1), .val (.ref ch), .val (.int (0 : Int32)), .val (.int (2 : Int32)), .val .null, .val (.ref tb_103)] [(.int (1 : Int32)), (.ref a1)])) rfl rfl (hb hby own_d3_48)
  refine own_st st108 ?_
  have F108 := f107.same W108
  have N108 := Fr.snoc X108 N104 g1
  show own_Ok p e below _ (T108.setTop (mkF m 51 #[.val (.ref a1), .val (.ref ch), .val (.int (0 : Int32)), .val (.int (2 : Int32)), .val .null, .val (.ref tb_103)] []))
  refine s_aloadN X108 hx (hb hby own_d3_51) rfl rfl ?_
  refine s_aload X108 hx (hb hby own_d3_52) rfl rfl ?_
  have f109 := f106.wr W108
  have f110 := F2.keep K103 nin0
  have f111 := f110.other W108 (Or.inr (slot_ne (Or.inr (own_hw hw 21 rfl)) (Or.inr (own_hw hw 22 rfl)) (by decide) (t := (.array .byte)) (t' := .byte) (by decide) (by decide)))
  obtain ⟨T112, h112, X112, e112, W112, st112⟩ := putF X108 hx hZ hown (host := "") (Or.inl (own_hw hw 25 rfl)) Via.refl e108 f111 f109 (Or.inr ⟨(own_hw hw 21 rfl), rfl, hnm⟩) (own_hw hw 6 rfl) (ty := (.array .byte)) (by decide) rfl rfl (g := (mkF m 54 #[.val (.ref a1), .val (.ref ch), .val (.int (0 : Int32)), .val (.int (2 : Int32)), .val .null, .val (.ref tb_103)] [(.ref tb_103), (.ref a1)])) rfl rfl (hb hby own_d3_54)
  refine own_st st112 ?_
  have F112 := f111.same W112
  have N112 := Fr.snoc X112 N108 g1
  show own_Ok p e below _ (T112.setTop (mkF m 57 #[.val (.ref a1), .val (.ref ch), .val (.int (0 : Int32)), .val (.int (2 : Int32)), .val .null, .val (.ref tb_103)] []))
  have f113 := (Keep.refl h0 [a1]).trans K103 all0
  have f114 := f113.wr W108 (Or.inl (by simp))
  have f115 := f114.wr W112 (Or.inl (by simp))
  have f116 := f109.wr W112
  have f117 := F108.other W112 (Or.inr (slot_ne (Or.inr (own_hw hw 22 rfl)) (Or.inr (own_hw hw 21 rfl)) (by decide) (t := .byte) (t' := (.array .byte)) (by decide) (by decide)))
  have f118 := g103_0.other W108 (Ne.symm ne_a1_tb_103)
  have f119 := f118.other W112 (Ne.symm ne_a1_tb_103)
  exact own_retV X112 hx hlk Bd.returns (hb hby own_d3_57) (by rw [e112]; exact ⟨tb_103, kb_103, rfl, N112, f115, f116, f117, F112, f119, gz_tb_103⟩) (by decide) (by decide)
theorem own_ef_rm_ini1_21 (m : MethodId) (a1 : Addr) (ch : Addr) : entryFrame m #[(.ref a1), (.ref ch)] 2 = mkF m 0 #[.val (.ref a1), .val (.ref ch)] [] := by first | (simp [entryFrame, mkF, argsToLocals, Value.category]; done) | rfl
def Q_rm_ini1_21 (Z : State) (G1 : Int32) (G3 : Value) (c0 : Int32) (c1 : Int32) (a1 : Addr) (ch : Addr) (kc : ClassId) (h0 : Heap) (n0 : Nat) (v : Option Value) (h : Heap) (L : List Loc) : Prop := ∃ (tb : Addr), ∃ (kb : ClassId), v = none ∧ Fr n0 L ∧ Keep h0 h [a1] ∧ Exa Z h a1 "java/lang/String" ∧ Fld Z h a1 "java/lang/String" "coder" "B" (.int (1 : Int32)) ∧ Fld Z h a1 "java/lang/String" "value" "[B" (.ref tb) ∧ Arv Z h tb kb .byte (4 : Int32) [(.int (StrChars.lo8 c0)), (.int (StrChars.hi8 c0)), (.int (StrChars.lo8 c1)), (.int (StrChars.hi8 c1))] (.int (0 : Int32)) ∧ h0.size ≤ tb
set_option maxRecDepth 65536 in
set_option maxHeartbeats 40000000 in
theorem rm_ini1_21 (l : Launch) (Z : State) (a0 : Array Value) (hw : ∀ d ∈ tables_1, d.before a0 Z = true) (ws : List Jvm.Cond) (G1 : Int32) (G3 : Value) (c0 : Int32) (c1 : Int32) (a1 : Addr) (ch : Addr) (kc : ClassId) (h0 : Heap) (n0 : Nat) (O0 : Old Z n0 h0) (hst : own_St Z G1 G3) (r0 : ¬ c0 < 0 ∧ ¬ (65535 : Int32) < c0) (r1 : ¬ c1 < 0 ∧ ¬ (65535 : Int32) < c1) (q0 : ¬ (255 : Int32) < c0) (qf : (255 : Int32) < c1) (E1 : Exa Z h0 a1 "java/lang/String") (F1 : Fld Z h0 a1 "java/lang/String" "coder" "B" (.int (0 : Int32))) (F2 : Fld Z h0 a1 "java/lang/String" "value" "[B" .null) (g1 : n0 ≤ a1) (VC : Arv Z h0 ch kc .char (2 : Int32) [(.int c0), (.int c1)] (.int (0 : Int32))) :
    own_Met l Z (⟨"java/lang/String", "<init>", "([C)V"⟩ : MethodName) jdk_42_method_3_code 2 none ws ({ frames := 5, cells := 2, slots := 6, locals := 74 } : Room) #[(.ref a1), (.ref ch)] h0 (Q_rm_ini1_21 Z G1 G3 c0 c1 a1 ch kc h0 n0) := by
  refine MetFree.of_bodySF (plainFor_of_name own_pn2) hisR ?_
  intro p e s m args below meth c s₁ Bd hml0 hP hK
  obtain ⟨rfl, hZ, hh⟩ := hP
  have hx := Bd.exec
  have hby := Bd.bytes
  have hml : c.maxLocals = 2 := hml0
  have hown : s.vm.findClass "java/lang/String" = some m.cls := findClass_of_methodNamed Bd.named
  have hnm := (name_of_methodNamed Bd.named Bd.method).1
  have hlk : meth.locks = false := Bd.notSynchronized
  have X0 : Stand p l e ({ frames := 5, cells := 2, slots := 6, locals := 74 } : Room) s m #[(.ref a1), (.ref ch)] below meth c s₁ [] 0 0 := Stand.of_body Bd
  have e0 : s₁.heap = h0 := by rw [← hh, Bd.state]; rfl
  have N0 := Fr.nil n0
  suffices hgo : own_Ok p e below (own_Qx s (Q_rm_ini1_21 Z G1 G3 c0 c1 a1 ch kc h0 n0) 2 6) (s₁.setTop (mkF m 0 #[.val (.ref a1), .val (.ref ch)] [])) from by
    obtain ⟨s₂, o, h1, h2⟩ := hgo
    exact ⟨s₂, o, castTop (own_ef_rm_ini1_21 m a1 ch) h1, h2⟩
  have hst' := hst
  obtain ⟨SG1, PG1, SG3, rG3, SAD, SHI, SLO⟩ := hst'
  show own_Ok p e below _ (s₁.setTop (mkF m 0 #[.val (.ref a1), .val (.ref ch)] []))
  refine s_aloadN X0 hx (hb hby own_d2_0) rfl rfl ?_
  refine s_aloadN X0 hx (hb hby own_d2_1) rfl rfl ?_
  refine s_iconst X0 hx (0 : Int32) (hb hby own_d2_2) rfl ?_
  refine s_aloadN X0 hx (hb hby own_d2_3) rfl rfl ?_
  refine own_st (own_len X0 hx hZ e0 VC (g := (mkF m 4 #[.val (.ref a1), .val (.ref ch)] [(.ref ch), (.int (0 : Int32)), (.ref ch), (.ref a1)])) rfl rfl (hb hby own_d2_4)) ?_
  show own_Ok p e below _ (s₁.setTop (mkF m 5 #[.val (.ref a1), .val (.ref ch)] [(.int (2 : Int32)), (.int (0 : Int32)), (.ref ch), (.ref a1)]))
  refine s_aconstNull X0 hx (hb hby own_d2_5) ?_
  obtain ⟨_, T101, Lc101, X101, hQ101, st101⟩ := own_callN X0 hx hZ hown (own_hw hw 12 rfl) (own_hw hw 13 rfl) (own_hw hw 7 rfl) (own_hw hw 15 rfl) (rm_ini4_21 l Z a0 hw [] G1 G3 c0 c1 a1 ch kc h0 n0 O0 hst r0 r1 q0 qf E1 F1 F2 g1 VC) rfl (by decide) e0 (Ls := #[.val (.ref a1), .val (.ref ch)]) a1 [(.ref ch), (.int (0 : Int32)), (.int (2 : Int32)), .null] [] rfl (by rw [hml]; rfl) (lenOf own_pd12 rfl) (hb hby own_d2_6) (by decide) 0 rfl (by decide) (by decide) (by decide)
  obtain ⟨tb_101, kb_101, rfl, Nq101, K101, g101_0, g101_1, g101_2, g101_3, gs_tb_101⟩ := hQ101
  have N101 := Fr.app N0 Nq101
  refine st101 _ ?_
  have gb_tb_101 : n0 ≤ tb_101 := Nat.le_trans (own_n0 O0) gs_tb_101
  have gz_tb_101 : h0.size ≤ tb_101 := Nat.le_trans (Keep.refl h0 [a1]).1 gs_tb_101
  have ne_a1_tb_101 : a1 ≠ tb_101 := Nat.ne_of_lt (Nat.lt_of_lt_of_le E1.lt gs_tb_101)
  have ne_ch_tb_101 : ch ≠ tb_101 := Nat.ne_of_lt (Nat.lt_of_lt_of_le VC.lt gs_tb_101)
  have e101 : T101.heap = T101.heap := rfl
  show own_Ok p e below _ (T101.setTop (mkF m 9 #[.val (.ref a1), .val (.ref ch)] []))
  have f102 := (Keep.refl h0 [a1]).trans K101 (allS (Or.inl (by simp)) all0)
  exact own_retV X101 hx hlk Bd.returns (hb hby own_d2_9) (by rw [e101]; exact ⟨tb_101, kb_101, rfl, N101, f102, g101_0, g101_1, g101_2, g101_3, gz_tb_101⟩) (by decide) (by decide)
theorem own_ef_rm_uck30 (m : MethodId) (t1 : Addr) : entryFrame m #[(.int (0 : Int32)), (.ref t1)] 2 = mkF m 0 #[.val (.int (0 : Int32)), .val (.ref t1)] [] := by first | (simp [entryFrame, mkF, argsToLocals, Value.category]; done) | rfl
def Q_rm_uck30 (Z : State) (G1 : Int32) (G3 : Value) (c0 : Int32) (c1 : Int32) (c2 : Int32) (t1 : Addr) (k1 : ClassId) (h0 : Heap) (n0 : Nat) (v : Option Value) (h : Heap) (L : List Loc) : Prop := v = none ∧ Fr n0 L ∧ h = h0
set_option maxRecDepth 65536 in
set_option maxHeartbeats 40000000 in
theorem rm_uck30 (l : Launch) (Z : State) (a0 : Array Value) (hw : ∀ d ∈ tables_1, d.before a0 Z = true) (ws : List Jvm.Cond) (G1 : Int32) (G3 : Value) (c0 : Int32) (c1 : Int32) (c2 : Int32) (t1 : Addr) (k1 : ClassId) (h0 : Heap) (n0 : Nat) (O0 : Old Z n0 h0) (hst : own_St Z G1 G3) (V1 : Arv Z h0 t1 k1 .byte (6 : Int32) [(.int (StrChars.lo8 c0)), (.int (StrChars.hi8 c0)), (.int (StrChars.lo8 c1)), (.int (StrChars.hi8 c1)), (.int (StrChars.lo8 c2)), (.int (StrChars.hi8 c2))] (.int (0 : Int32))) :
    own_Met l Z (⟨"java/lang/StringUTF16", "checkIndex", "(I[B)V"⟩ : MethodName) jdk_52_method_91_code 2 none ws ({ frames := 2, cells := 0, slots := 0, locals := 27 } : Room) #[(.int (0 : Int32)), (.ref t1)] h0 (Q_rm_uck30 Z G1 G3 c0 c1 c2 t1 k1 h0 n0) := by
  refine MetFree.of_bodySF (plainFor_of_name own_pn3) hisR ?_
  intro p e s m args below meth c s₁ Bd hml0 hP hK
  obtain ⟨rfl, hZ, hh⟩ := hP
  have hx := Bd.exec
  have hby := Bd.bytes
  have hml : c.maxLocals = 2 := hml0
  have hown : s.vm.findClass "java/lang/StringUTF16" = some m.cls := findClass_of_methodNamed Bd.named
  have hnm := (name_of_methodNamed Bd.named Bd.method).1
  have hlk : meth.locks = false := Bd.notSynchronized
  have X0 : Stand p l e ({ frames := 2, cells := 0, slots := 0, locals := 27 } : Room) s m #[(.int (0 : Int32)), (.ref t1)] below meth c s₁ [] 0 0 := Stand.of_body Bd
  have e0 : s₁.heap = h0 := by rw [← hh, Bd.state]; rfl
  have N0 := Fr.nil n0
  suffices hgo : own_Ok p e below (own_Qx s (Q_rm_uck30 Z G1 G3 c0 c1 c2 t1 k1 h0 n0) 0 0) (s₁.setTop (mkF m 0 #[.val (.int (0 : Int32)), .val (.ref t1)] [])) from by
    obtain ⟨s₂, o, h1, h2⟩ := hgo
    exact ⟨s₂, o, castTop (own_ef_rm_uck30 m t1) h1, h2⟩
  have hst' := hst
  obtain ⟨SG1, PG1, SG3, rG3, SAD, SHI, SLO⟩ := hst'
  show own_Ok p e below _ (s₁.setTop (mkF m 0 #[.val (.int (0 : Int32)), .val (.ref t1)] []))
  refine s_iloadN X0 hx (hb hby own_d23_0) rfl ?_
  refine s_aloadN X0 hx (hb hby own_d23_1) rfl rfl ?_
  obtain ⟨_, T101, Lc101, X101, hQ101, st101⟩ := own_callS X0 hx hZ hown (own_hw hw 102 rfl) (own_hw hw 103 rfl) (own_hw hw 44 rfl) (own_hw hw 104 rfl) (rm_ul l Z a0 hw [] t1 k1 ((6 : Int32)) (([(.int (StrChars.lo8 c0)), (.int (StrChars.hi8 c0)), (.int (StrChars.lo8 c1)), (.int (StrChars.hi8 c1)), (.int (StrChars.lo8 c2)), (.int (StrChars.hi8 c2))] : List Value)) h0 n0 O0 V1) (by decide) e0 (Ls := #[.val (.int (0 : Int32)), .val (.ref t1)]) [(.ref t1)] [(.int (0 : Int32))] rfl (by rw [hml]; rfl) (lenOf own_pd1 rfl) (hb hby own_d23_2) (by decide) 1 rfl (by decide) (by decide) (by decide)
  obtain ⟨rfl, Nq101, e101⟩ := hQ101
  have N101 := Fr.app N0 Nq101
  refine st101 _ ?_
  show own_Ok p e below _ (T101.setTop (mkF m 5 #[.val (.int (0 : Int32)), .val (.ref t1)] [(.int ((6 : Int32) >>> ((1 : Int32) &&& 31))), (.int (0 : Int32))]))
  rw [show ((6 : Int32) >>> ((1 : Int32) &&& 31)) = (3 : Int32) from by decide]
  show own_Ok p e below _ (T101.setTop (mkF m 5 #[.val (.int (0 : Int32)), .val (.ref t1)] [(.int (3 : Int32)), (.int (0 : Int32))]))
  show own_Ok p e below _ (T101.setTop (mkF m 5 #[.val (.int (0 : Int32)), .val (.ref t1)] [(.int (3 : Int32)), (.int (0 : Int32))]))
  obtain ⟨_, T102, Lc102, X102, hQ102, st102⟩ := own_callS X101 hx hZ hown (own_hw hw 105 rfl) (own_hw hw 70 rfl) (own_hw hw 7 rfl) (own_hw hw 71 rfl) (rm_sck l Z a0 hw [] G1 G3 ((0 : Int32)) ((3 : Int32)) h0 n0 O0 hst (by decide) (by decide)) (by decide) e101 (Ls := #[.val (.int (0 : Int32)), .val (.ref t1)]) [(.int (0 : Int32)), (.int (3 : Int32))] [] rfl (by rw [hml]; rfl) (lenOf own_pd2 rfl) (hb hby own_d23_5) (by decide) 0 rfl (by decide) (by decide) (by decide)
  obtain ⟨rfl, Nq102, e102⟩ := hQ102
  have N102 := Fr.app N101 Nq102
  refine st102 _ ?_
  show own_Ok p e below _ (T102.setTop (mkF m 8 #[.val (.int (0 : Int32)), .val (.ref t1)] []))
  exact own_retV X102 hx hlk Bd.returns (hb hby own_d23_8) (by rw [e102]; exact ⟨rfl, N102, rfl⟩) (by decide) (by decide)
theorem own_ef_rm_gch30 (m : MethodId) (t1 : Addr) : entryFrame m #[(.ref t1), (.int (0 : Int32))] 2 = mkF m 0 #[.val (.ref t1), .val (.int (0 : Int32))] [] := by first | (simp [entryFrame, mkF, argsToLocals, Value.category]; done) | rfl
def Q_rm_gch30 (Z : State) (G1 : Int32) (G3 : Value) (c0 : Int32) (c1 : Int32) (c2 : Int32) (t1 : Addr) (k1 : ClassId) (h0 : Heap) (n0 : Nat) (v : Option Value) (h : Heap) (L : List Loc) : Prop := v = some (.int c0) ∧ Fr n0 L ∧ h = h0
set_option maxRecDepth 65536 in
set_option maxHeartbeats 40000000 in
theorem rm_gch30 (l : Launch) (Z : State) (a0 : Array Value) (hw : ∀ d ∈ tables_1, d.before a0 Z = true) (ws : List Jvm.Cond) (G1 : Int32) (G3 : Value) (c0 : Int32) (c1 : Int32) (c2 : Int32) (t1 : Addr) (k1 : ClassId) (h0 : Heap) (n0 : Nat) (O0 : Old Z n0 h0) (hst : own_St Z G1 G3) (r0 : ¬ c0 < 0 ∧ ¬ (65535 : Int32) < c0) (r1 : ¬ c1 < 0 ∧ ¬ (65535 : Int32) < c1) (r2 : ¬ c2 < 0 ∧ ¬ (65535 : Int32) < c2) (V1 : Arv Z h0 t1 k1 .byte (6 : Int32) [(.int (StrChars.lo8 c0)), (.int (StrChars.hi8 c0)), (.int (StrChars.lo8 c1)), (.int (StrChars.hi8 c1)), (.int (StrChars.lo8 c2)), (.int (StrChars.hi8 c2))] (.int (0 : Int32))) :
    own_Met l Z (⟨"java/lang/StringUTF16", "getChar", "([BI)C"⟩ : MethodName) jdk_52_method_5_code 2 (some .char) ws ({ frames := 0, cells := 0, slots := 0, locals := 0 } : Room) #[(.ref t1), (.int (0 : Int32))] h0 (Q_rm_gch30 Z G1 G3 c0 c1 c2 t1 k1 h0 n0) := by
  refine MetFree.of_bodySF (plainFor_of_name own_pn3) hisR ?_
  intro p e s m args below meth c s₁ Bd hml0 hP hK
  obtain ⟨rfl, hZ, hh⟩ := hP
  have hx := Bd.exec
  have hby := Bd.bytes
  have hml : c.maxLocals = 2 := hml0
  have hown : s.vm.findClass "java/lang/StringUTF16" = some m.cls := findClass_of_methodNamed Bd.named
  have hnm := (name_of_methodNamed Bd.named Bd.method).1
  have hlk : meth.locks = false := Bd.notSynchronized
  have X0 : Stand p l e ({ frames := 0, cells := 0, slots := 0, locals := 0 } : Room) s m #[(.ref t1), (.int (0 : Int32))] below meth c s₁ [] 0 0 := Stand.of_body Bd
  have e0 : s₁.heap = h0 := by rw [← hh, Bd.state]; rfl
  have N0 := Fr.nil n0
  suffices hgo : own_Ok p e below (own_Qx s (Q_rm_gch30 Z G1 G3 c0 c1 c2 t1 k1 h0 n0) 0 0) (s₁.setTop (mkF m 0 #[.val (.ref t1), .val (.int (0 : Int32))] [])) from by
    obtain ⟨s₂, o, h1, h2⟩ := hgo
    exact ⟨s₂, o, castTop (own_ef_rm_gch30 m t1) h1, h2⟩
  have hst' := hst
  obtain ⟨SG1, PG1, SG3, rG3, SAD, SHI, SLO⟩ := hst'
  show own_Ok p e below _ (s₁.setTop (mkF m 0 #[.val (.ref t1), .val (.int (0 : Int32))] []))
  obtain ⟨T101, X101, e101, st101⟩ := getS2 X0 hx hZ hown (host := "") (Or.inl (own_hw hw 90 rfl)) Via.refl e0 (SAD.ext O0.2) (g := (mkF m 0 #[.val (.ref t1), .val (.int (0 : Int32))] [])) rfl (hb hby own_d21_0)
  refine own_st st101 ?_
  show own_Ok p e below _ (T101.setTop (mkF m 3 #[.val (.ref t1), .val (.int (0 : Int32))] [(.int (1 : Int32))]))
  refine s_ifYes X101 hx 28 (hb hby own_d21_3) (XT.i0_ne_t (by decide)) (by decide) (by decide) ?_
  refine s_iloadN X101 hx (hb hby own_d21_28) rfl ?_
  refine s_iconst X101 hx (1 : Int32) (hb hby own_d21_29) rfl ?_
  refine s_ishl X101 hx (hb hby own_d21_30) ?_
  show own_Ok p e below _ (T101.setTop (mkF m 31 #[.val (.ref t1), .val (.int (0 : Int32))] [(.int (0 : Int32))]))
  refine s_istoreN X101 hx (hb hby own_d21_31) #[.val (.ref t1), .val (.int (0 : Int32))] rfl ?_
  refine s_aloadN X101 hx (hb hby own_d21_32) rfl rfl ?_
  refine s_iloadN X101 hx (hb hby own_d21_33) rfl ?_
  refine s_iinc X101 hx (1 : Int32) (hb hby own_d21_34) rfl rfl #[.val (.ref t1), .val (.int (1 : Int32))] rfl ?_
  show own_Ok p e below _ (T101.setTop (mkF m 37 #[.val (.ref t1), .val (.int (1 : Int32))] [(.int (0 : Int32)), (.ref t1)]))
  refine own_st (own_ldB X101 hx hZ e101 V1 (by decide) (by decide) (v := (StrChars.lo8 c0)) rfl (g := (mkF m 37 #[.val (.ref t1), .val (.int (1 : Int32))] [(.int (0 : Int32)), (.ref t1)])) rfl rfl (hb hby own_d21_37)) ?_
  show own_Ok p e below _ (T101.setTop (mkF m 38 #[.val (.ref t1), .val (.int (1 : Int32))] [(.int (StrChars.lo8 c0))]))
  refine s_sipush X101 hx (255 : Int32) (hb hby own_d21_38) rfl ?_
  refine s_iand X101 hx (hb hby own_d21_41) ?_
  obtain ⟨T102, X102, e102, st102⟩ := getS2 X101 hx hZ hown (host := "") (Or.inl (own_hw hw 91 rfl)) Via.refl e101 (SHI.ext O0.2) (g := (mkF m 42 #[.val (.ref t1), .val (.int (1 : Int32))] [(.int ((StrChars.lo8 c0) &&& (255 : Int32)))])) rfl (hb hby own_d21_42)
  refine own_st st102 ?_
  show own_Ok p e below _ (T102.setTop (mkF m 45 #[.val (.ref t1), .val (.int (1 : Int32))] [(.int (0 : Int32)), (.int ((StrChars.lo8 c0) &&& (255 : Int32)))]))
  refine s_ishl X102 hx (hb hby own_d21_45) ?_
  refine s_aloadN X102 hx (hb hby own_d21_46) rfl rfl ?_
  refine s_iloadN X102 hx (hb hby own_d21_47) rfl ?_
  refine own_st (own_ldB X102 hx hZ e102 V1 (by decide) (by decide) (v := (StrChars.hi8 c0)) rfl (g := (mkF m 48 #[.val (.ref t1), .val (.int (1 : Int32))] [(.int (1 : Int32)), (.ref t1), (.int (((StrChars.lo8 c0) &&& (255 : Int32)) <<< ((0 : Int32) &&& 31)))])) rfl rfl (hb hby own_d21_48)) ?_
  show own_Ok p e below _ (T102.setTop (mkF m 49 #[.val (.ref t1), .val (.int (1 : Int32))] [(.int (StrChars.hi8 c0)), (.int (((StrChars.lo8 c0) &&& (255 : Int32)) <<< ((0 : Int32) &&& 31)))]))
  refine s_sipush X102 hx (255 : Int32) (hb hby own_d21_49) rfl ?_
  refine s_iand X102 hx (hb hby own_d21_52) ?_
  obtain ⟨T103, X103, e103, st103⟩ := getS2 X102 hx hZ hown (host := "") (Or.inl (own_hw hw 92 rfl)) Via.refl e102 (SLO.ext O0.2) (g := (mkF m 53 #[.val (.ref t1), .val (.int (1 : Int32))] [(.int ((StrChars.hi8 c0) &&& (255 : Int32))), (.int (((StrChars.lo8 c0) &&& (255 : Int32)) <<< ((0 : Int32) &&& 31)))])) rfl (hb hby own_d21_53)
  refine own_st st103 ?_
  show own_Ok p e below _ (T103.setTop (mkF m 56 #[.val (.ref t1), .val (.int (1 : Int32))] [(.int (8 : Int32)), (.int ((StrChars.hi8 c0) &&& (255 : Int32))), (.int (((StrChars.lo8 c0) &&& (255 : Int32)) <<< ((0 : Int32) &&& 31)))]))
  refine s_ishl X103 hx (hb hby own_d21_56) ?_
  refine s_ior X103 hx (hb hby own_d21_57) ?_
  refine s_i2c X103 hx (hb hby own_d21_58) ?_
  exact own_retN X103 hx hlk (t := .char) Bd.returns (by simp) (hb hby own_d21_59) (by rw [e103]; exact ⟨by rw [own_join r0.1 r0.2, own_narc r0.1 r0.2], N0, rfl⟩) (by decide) (by decide)
theorem own_ef_rm_uch30 (m : MethodId) (t1 : Addr) : entryFrame m #[(.ref t1), (.int (0 : Int32))] 2 = mkF m 0 #[.val (.ref t1), .val (.int (0 : Int32))] [] := by first | (simp [entryFrame, mkF, argsToLocals, Value.category]; done) | rfl
def Q_rm_uch30 (Z : State) (G1 : Int32) (G3 : Value) (c0 : Int32) (c1 : Int32) (c2 : Int32) (t1 : Addr) (k1 : ClassId) (h0 : Heap) (n0 : Nat) (v : Option Value) (h : Heap) (L : List Loc) : Prop := v = some (.int c0) ∧ Fr n0 L ∧ h = h0
set_option maxRecDepth 65536 in
set_option maxHeartbeats 40000000 in
theorem rm_uch30 (l : Launch) (Z : State) (a0 : Array Value) (hw : ∀ d ∈ tables_1, d.before a0 Z = true) (ws : List Jvm.Cond) (G1 : Int32) (G3 : Value) (c0 : Int32) (c1 : Int32) (c2 : Int32) (t1 : Addr) (k1 : ClassId) (h0 : Heap) (n0 : Nat) (O0 : Old Z n0 h0) (hst : own_St Z G1 G3) (r0 : ¬ c0 < 0 ∧ ¬ (65535 : Int32) < c0) (r1 : ¬ c1 < 0 ∧ ¬ (65535 : Int32) < c1) (r2 : ¬ c2 < 0 ∧ ¬ (65535 : Int32) < c2) (V1 : Arv Z h0 t1 k1 .byte (6 : Int32) [(.int (StrChars.lo8 c0)), (.int (StrChars.hi8 c0)), (.int (StrChars.lo8 c1)), (.int (StrChars.hi8 c1)), (.int (StrChars.lo8 c2)), (.int (StrChars.hi8 c2))] (.int (0 : Int32))) :
    own_Met l Z (⟨"java/lang/StringUTF16", "charAt", "([BI)C"⟩ : MethodName) jdk_52_method_83_code 2 (some .char) ws ({ frames := 3, cells := 0, slots := 0, locals := 40 } : Room) #[(.ref t1), (.int (0 : Int32))] h0 (Q_rm_uch30 Z G1 G3 c0 c1 c2 t1 k1 h0 n0) := by
  refine MetFree.of_bodySF (plainFor_of_name own_pn3) hisR ?_
  intro p e s m args below meth c s₁ Bd hml0 hP hK
  obtain ⟨rfl, hZ, hh⟩ := hP
  have hx := Bd.exec
  have hby := Bd.bytes
  have hml : c.maxLocals = 2 := hml0
  have hown : s.vm.findClass "java/lang/StringUTF16" = some m.cls := findClass_of_methodNamed Bd.named
  have hnm := (name_of_methodNamed Bd.named Bd.method).1
  have hlk : meth.locks = false := Bd.notSynchronized
  have X0 : Stand p l e ({ frames := 3, cells := 0, slots := 0, locals := 40 } : Room) s m #[(.ref t1), (.int (0 : Int32))] below meth c s₁ [] 0 0 := Stand.of_body Bd
  have e0 : s₁.heap = h0 := by rw [← hh, Bd.state]; rfl
  have N0 := Fr.nil n0
  suffices hgo : own_Ok p e below (own_Qx s (Q_rm_uch30 Z G1 G3 c0 c1 c2 t1 k1 h0 n0) 0 0) (s₁.setTop (mkF m 0 #[.val (.ref t1), .val (.int (0 : Int32))] [])) from by
    obtain ⟨s₂, o, h1, h2⟩ := hgo
    exact ⟨s₂, o, castTop (own_ef_rm_uch30 m t1) h1, h2⟩
  have hst' := hst
  obtain ⟨SG1, PG1, SG3, rG3, SAD, SHI, SLO⟩ := hst'
  show own_Ok p e below _ (s₁.setTop (mkF m 0 #[.val (.ref t1), .val (.int (0 : Int32))] []))
  refine s_iloadN X0 hx (hb hby own_d22_0) rfl ?_
  refine s_aloadN X0 hx (hb hby own_d22_1) rfl rfl ?_
  obtain ⟨_, T101, Lc101, X101, hQ101, st101⟩ := own_callS X0 hx hZ hown (own_hw hw 99 rfl) (own_hw hw 100 rfl) (own_hw hw 44 rfl) (own_hw hw 101 rfl) (rm_uck30 l Z a0 hw [] G1 G3 c0 c1 c2 t1 k1 h0 n0 O0 hst V1) (by decide) e0 (Ls := #[.val (.ref t1), .val (.int (0 : Int32))]) [(.int (0 : Int32)), (.ref t1)] [] rfl (by rw [hml]; rfl) (lenOf own_pd3 rfl) (hb hby own_d22_2) (by decide) 0 rfl (by decide) (by decide) (by decide)
  obtain ⟨rfl, Nq101, e101⟩ := hQ101
  have N101 := Fr.app N0 Nq101
  refine st101 _ ?_
  show own_Ok p e below _ (T101.setTop (mkF m 5 #[.val (.ref t1), .val (.int (0 : Int32))] []))
  refine s_aloadN X101 hx (hb hby own_d22_5) rfl rfl ?_
  refine s_iloadN X101 hx (hb hby own_d22_6) rfl ?_
  obtain ⟨_, T102, Lc102, X102, hQ102, st102⟩ := own_callS X101 hx hZ hown (own_hw hw 93 rfl) (own_hw hw 94 rfl) (own_hw hw 44 rfl) (own_hw hw 95 rfl) (rm_gch30 l Z a0 hw [] G1 G3 c0 c1 c2 t1 k1 h0 n0 O0 hst r0 r1 r2 V1) (by decide) e101 (Ls := #[.val (.ref t1), .val (.int (0 : Int32))]) [(.ref t1), (.int (0 : Int32))] [] rfl (by rw [hml]; rfl) (lenOf own_pd4 rfl) (hb hby own_d22_7) (by decide) 0 rfl (by decide) (by decide) (by decide)
  obtain ⟨rfl, Nq102, e102⟩ := hQ102
  have N102 := Fr.app N101 Nq102
  refine st102 _ ?_
  show own_Ok p e below _ (T102.setTop (mkF m 10 #[.val (.ref t1), .val (.int (0 : Int32))] [(.int c0)]))
  exact own_retN X102 hx hlk (t := .char) Bd.returns (by simp) (hb hby own_d22_10) (by rw [e102]; exact ⟨by rw [own_narc r0.1 r0.2], N102, rfl⟩) (by decide) (by decide)
theorem own_ef_rm_sch30 (m : MethodId) (a1 : Addr) : entryFrame m #[(.ref a1), (.int (0 : Int32))] 2 = mkF m 0 #[.val (.ref a1), .val (.int (0 : Int32))] [] := by first | (simp [entryFrame, mkF, argsToLocals, Value.category]; done) | rfl
def Q_rm_sch30 (Z : State) (G1 : Int32) (G3 : Value) (c0 : Int32) (c1 : Int32) (c2 : Int32) (a1 : Addr) (t1 : Addr) (k1 : ClassId) (h0 : Heap) (n0 : Nat) (v : Option Value) (h : Heap) (L : List Loc) : Prop := v = some (.int c0) ∧ Fr n0 L ∧ h = h0
set_option maxRecDepth 65536 in
set_option maxHeartbeats 40000000 in
theorem rm_sch30 (l : Launch) (Z : State) (a0 : Array Value) (hw : ∀ d ∈ tables_1, d.before a0 Z = true) (ws : List Jvm.Cond) (G1 : Int32) (G3 : Value) (c0 : Int32) (c1 : Int32) (c2 : Int32) (a1 : Addr) (t1 : Addr) (k1 : ClassId) (h0 : Heap) (n0 : Nat) (O0 : Old Z n0 h0) (hst : own_St Z G1 G3) (r0 : ¬ c0 < 0 ∧ ¬ (65535 : Int32) < c0) (r1 : ¬ c1 < 0 ∧ ¬ (65535 : Int32) < c1) (r2 : ¬ c2 < 0 ∧ ¬ (65535 : Int32) < c2) (E1 : Exa Z h0 a1 "java/lang/String") (F1 : Fld Z h0 a1 "java/lang/String" "coder" "B" (.int (1 : Int32))) (F2 : Fld Z h0 a1 "java/lang/String" "value" "[B" (.ref t1)) (V1 : Arv Z h0 t1 k1 .byte (6 : Int32) [(.int (StrChars.lo8 c0)), (.int (StrChars.hi8 c0)), (.int (StrChars.lo8 c1)), (.int (StrChars.hi8 c1)), (.int (StrChars.lo8 c2)), (.int (StrChars.hi8 c2))] (.int (0 : Int32))) :
    own_Met l Z (⟨"java/lang/String", "charAt", "(I)C"⟩ : MethodName) jdk_42_method_56_code 2 (some .char) ws ({ frames := 4, cells := 0, slots := 0, locals := 53 } : Room) #[(.ref a1), (.int (0 : Int32))] h0 (Q_rm_sch30 Z G1 G3 c0 c1 c2 a1 t1 k1 h0 n0) := by
  refine MetFree.of_bodySF (plainFor_of_name own_pn2) hisR ?_
  intro p e s m args below meth c s₁ Bd hml0 hP hK
  obtain ⟨rfl, hZ, hh⟩ := hP
  have hx := Bd.exec
  have hby := Bd.bytes
  have hml : c.maxLocals = 2 := hml0
  have hown : s.vm.findClass "java/lang/String" = some m.cls := findClass_of_methodNamed Bd.named
  have hnm := (name_of_methodNamed Bd.named Bd.method).1
  have hlk : meth.locks = false := Bd.notSynchronized
  have X0 : Stand p l e ({ frames := 4, cells := 0, slots := 0, locals := 53 } : Room) s m #[(.ref a1), (.int (0 : Int32))] below meth c s₁ [] 0 0 := Stand.of_body Bd
  have e0 : s₁.heap = h0 := by rw [← hh, Bd.state]; rfl
  have N0 := Fr.nil n0
  suffices hgo : own_Ok p e below (own_Qx s (Q_rm_sch30 Z G1 G3 c0 c1 c2 a1 t1 k1 h0 n0) 0 0) (s₁.setTop (mkF m 0 #[.val (.ref a1), .val (.int (0 : Int32))] [])) from by
    obtain ⟨s₂, o, h1, h2⟩ := hgo
    exact ⟨s₂, o, castTop (own_ef_rm_sch30 m a1) h1, h2⟩
  have hst' := hst
  obtain ⟨SG1, PG1, SG3, rG3, SAD, SHI, SLO⟩ := hst'
  show own_Ok p e below _ (s₁.setTop (mkF m 0 #[.val (.ref a1), .val (.int (0 : Int32))] []))
  refine s_aloadN X0 hx (hb hby own_d12_0) rfl rfl ?_
  obtain ⟨_, T101, Lc101, X101, hQ101, st101⟩ := own_callV X0 hx hZ hown (own_hw hw 60 rfl) (own_hw hw 61 rfl) (own_hw hw 63 rfl) (own_hw hw 63 rfl) (own_hw hw 62 rfl) (own_hw hw 7 rfl) (own_hw hw 64 rfl) (rm_isl l Z a0 hw [] G1 G3 a1 h0 n0 O0 hst F1) (by decide) e0 E1 (Ls := #[.val (.ref a1), .val (.int (0 : Int32))]) [] [] rfl (by rw [hml]; rfl) (lenOf own_pd5 rfl) (hb hby own_d12_1) (by decide) 0 rfl (by decide) (by decide) (by decide)
  obtain ⟨rfl, Nq101, e101⟩ := hQ101
  have N101 := Fr.app N0 Nq101
  refine st101 _ ?_
  show own_Ok p e below _ (T101.setTop (mkF m 4 #[.val (.ref a1), .val (.int (0 : Int32))] [(.int (0 : Int32))]))
  refine s_ifYes X101 hx 16 (hb hby own_d12_4) (XT.i0_eq_t (by decide)) (by decide) (by decide) ?_
  refine s_aloadN X101 hx (hb hby own_d12_16) rfl rfl ?_
  obtain ⟨T102, X102, e102, st102⟩ := getF X101 hx hZ hown (host := "") (Or.inl (own_hw hw 25 rfl)) Via.refl e101 F2 (g := (mkF m 17 #[.val (.ref a1), .val (.int (0 : Int32))] [(.ref a1)])) rfl rfl (hb hby own_d12_17)
  refine own_st st102 ?_
  show own_Ok p e below _ (T102.setTop (mkF m 20 #[.val (.ref a1), .val (.int (0 : Int32))] [(.ref t1)]))
  refine s_iloadN X102 hx (hb hby own_d12_20) rfl ?_
  obtain ⟨_, T103, Lc103, X103, hQ103, st103⟩ := own_callS X102 hx hZ hown (own_hw hw 96 rfl) (own_hw hw 97 rfl) (own_hw hw 44 rfl) (own_hw hw 98 rfl) (rm_uch30 l Z a0 hw [] G1 G3 c0 c1 c2 t1 k1 h0 n0 O0 hst r0 r1 r2 V1) (by decide) e102 (Ls := #[.val (.ref a1), .val (.int (0 : Int32))]) [(.ref t1), (.int (0 : Int32))] [] rfl (by rw [hml]; rfl) (lenOf own_pd4 rfl) (hb hby own_d12_21) (by decide) 0 rfl (by decide) (by decide) (by decide)
  obtain ⟨rfl, Nq103, e103⟩ := hQ103
  have N103 := Fr.app N101 Nq103
  refine st103 _ ?_
  show own_Ok p e below _ (T103.setTop (mkF m 24 #[.val (.ref a1), .val (.int (0 : Int32))] [(.int c0)]))
  exact own_retN X103 hx hlk (t := .char) Bd.returns (by simp) (hb hby own_d12_24) (by rw [e103]; exact ⟨by rw [own_narc r0.1 r0.2], N103, rfl⟩) (by decide) (by decide)
theorem own_ef_rm_pch30 (m : MethodId) (t1 : Addr) (cz : Int32) : entryFrame m #[(.ref t1), (.int (0 : Int32)), (.int cz)] 3 = mkF m 0 #[.val (.ref t1), .val (.int (0 : Int32)), .val (.int cz)] [] := by first | (simp [entryFrame, mkF, argsToLocals, Value.category]; done) | rfl
def Q_rm_pch30 (Z : State) (G1 : Int32) (G3 : Value) (t1 : Addr) (k1 : ClassId) (cz : Int32) (v0 : Value) (v1 : Value) (v2 : Value) (v3 : Value) (v4 : Value) (v5 : Value) (h0 : Heap) (n0 : Nat) (v : Option Value) (h : Heap) (L : List Loc) : Prop := v = none ∧ Fr n0 L ∧ Keep h0 h [t1] ∧ Arv Z h t1 k1 .byte (6 : Int32) [(.int (StrChars.lo8 cz)), (.int (StrChars.hi8 cz)), v2, v3, v4, v5] (.int (0 : Int32))
set_option maxRecDepth 65536 in
set_option maxHeartbeats 40000000 in
theorem rm_pch30 (l : Launch) (Z : State) (a0 : Array Value) (hw : ∀ d ∈ tables_1, d.before a0 Z = true) (ws : List Jvm.Cond) (G1 : Int32) (G3 : Value) (t1 : Addr) (k1 : ClassId) (cz : Int32) (v0 : Value) (v1 : Value) (v2 : Value) (v3 : Value) (v4 : Value) (v5 : Value) (h0 : Heap) (n0 : Nat) (O0 : Old Z n0 h0) (hst : own_St Z G1 G3) (V1 : Arv Z h0 t1 k1 .byte (6 : Int32) [v0, v1, v2, v3, v4, v5] (.int (0 : Int32))) (g1 : n0 ≤ t1) :
    own_Met l Z (⟨"java/lang/StringUTF16", "putChar", "([BII)V"⟩ : MethodName) jdk_52_method_4_code 3 none ws ({ frames := 0, cells := 0, slots := 0, locals := 0 } : Room) #[(.ref t1), (.int (0 : Int32)), (.int cz)] h0 (Q_rm_pch30 Z G1 G3 t1 k1 cz v0 v1 v2 v3 v4 v5 h0 n0) := by
  refine MetFree.of_bodySF (plainFor_of_name own_pn3) hisR ?_
  intro p e s m args below meth c s₁ Bd hml0 hP hK
  obtain ⟨rfl, hZ, hh⟩ := hP
  have hx := Bd.exec
  have hby := Bd.bytes
  have hml : c.maxLocals = 3 := hml0
  have hown : s.vm.findClass "java/lang/StringUTF16" = some m.cls := findClass_of_methodNamed Bd.named
  have hnm := (name_of_methodNamed Bd.named Bd.method).1
  have hlk : meth.locks = false := Bd.notSynchronized
  have X0 : Stand p l e ({ frames := 0, cells := 0, slots := 0, locals := 0 } : Room) s m #[(.ref t1), (.int (0 : Int32)), (.int cz)] below meth c s₁ [] 0 0 := Stand.of_body Bd
  have e0 : s₁.heap = h0 := by rw [← hh, Bd.state]; rfl
  have N0 := Fr.nil n0
  suffices hgo : own_Ok p e below (own_Qx s (Q_rm_pch30 Z G1 G3 t1 k1 cz v0 v1 v2 v3 v4 v5 h0 n0) 0 0) (s₁.setTop (mkF m 0 #[.val (.ref t1), .val (.int (0 : Int32)), .val (.int cz)] [])) from by
    obtain ⟨s₂, o, h1, h2⟩ := hgo
    exact ⟨s₂, o, castTop (own_ef_rm_pch30 m t1 cz) h1, h2⟩
  have hst' := hst
  obtain ⟨SG1, PG1, SG3, rG3, SAD, SHI, SLO⟩ := hst'
  show own_Ok p e below _ (s₁.setTop (mkF m 0 #[.val (.ref t1), .val (.int (0 : Int32)), .val (.int cz)] []))
  obtain ⟨T101, X101, e101, st101⟩ := getS2 X0 hx hZ hown (host := "") (Or.inl (own_hw hw 90 rfl)) Via.refl e0 (SAD.ext O0.2) (g := (mkF m 0 #[.val (.ref t1), .val (.int (0 : Int32)), .val (.int cz)] [])) rfl (hb hby own_d20_0)
  refine own_st st101 ?_
  show own_Ok p e below _ (T101.setTop (mkF m 3 #[.val (.ref t1), .val (.int (0 : Int32)), .val (.int cz)] [(.int (1 : Int32))]))
  refine s_ifYes X101 hx 28 (hb hby own_d20_3) (XT.i0_ne_t (by decide)) (by decide) (by decide) ?_
  refine s_iloadN X101 hx (hb hby own_d20_28) rfl ?_
  refine s_iconst X101 hx (1 : Int32) (hb hby own_d20_29) rfl ?_
  refine s_ishl X101 hx (hb hby own_d20_30) ?_
  show own_Ok p e below _ (T101.setTop (mkF m 31 #[.val (.ref t1), .val (.int (0 : Int32)), .val (.int cz)] [(.int (0 : Int32))]))
  refine s_istoreN X101 hx (hb hby own_d20_31) #[.val (.ref t1), .val (.int (0 : Int32)), .val (.int cz)] rfl ?_
  refine s_aloadN X101 hx (hb hby own_d20_32) rfl rfl ?_
  refine s_iloadN X101 hx (hb hby own_d20_33) rfl ?_
  refine s_iinc X101 hx (1 : Int32) (hb hby own_d20_34) rfl rfl #[.val (.ref t1), .val (.int (1 : Int32)), .val (.int cz)] rfl ?_
  show own_Ok p e below _ (T101.setTop (mkF m 37 #[.val (.ref t1), .val (.int (1 : Int32)), .val (.int cz)] [(.int (0 : Int32)), (.ref t1)]))
  refine s_iloadN X101 hx (hb hby own_d20_37) rfl ?_
  obtain ⟨T102, X102, e102, st102⟩ := getS2 X101 hx hZ hown (host := "") (Or.inl (own_hw hw 91 rfl)) Via.refl e101 (SHI.ext O0.2) (g := (mkF m 38 #[.val (.ref t1), .val (.int (1 : Int32)), .val (.int cz)] [(.int cz), (.int (0 : Int32)), (.ref t1)])) rfl (hb hby own_d20_38)
  refine own_st st102 ?_
  show own_Ok p e below _ (T102.setTop (mkF m 41 #[.val (.ref t1), .val (.int (1 : Int32)), .val (.int cz)] [(.int (0 : Int32)), (.int cz), (.int (0 : Int32)), (.ref t1)]))
  refine s_ishr X102 hx (hb hby own_d20_41) ?_
  refine s_i2b X102 hx (hb hby own_d20_42) ?_
  obtain ⟨T103, h103, X103, e103, W103, V103, st103⟩ := own_stB X102 hx hZ e102 V1 0 rfl (by decide) (by decide) (Nat.le_of_ble_eq_true rfl) (g := (mkF m 43 #[.val (.ref t1), .val (.int (1 : Int32)), .val (.int cz)] [(.int ((cz >>> ((0 : Int32) &&& 31)).toInt8.toInt32)), (.int (0 : Int32)), (.ref t1)])) rfl rfl (hb hby own_d20_43)
  refine own_st st103 ?_
  have V103' : Arv Z h103 t1 k1 .byte (6 : Int32) [(.int (nar .byte ((cz >>> ((0 : Int32) &&& 31)).toInt8.toInt32))), v1, v2, v3, v4, v5] (.int (0 : Int32)) := V103
  have N103 := Fr.snoc X103 N0 g1
  show own_Ok p e below _ (T103.setTop (mkF m 44 #[.val (.ref t1), .val (.int (1 : Int32)), .val (.int cz)] []))
  refine s_aloadN X103 hx (hb hby own_d20_44) rfl rfl ?_
  refine s_iloadN X103 hx (hb hby own_d20_45) rfl ?_
  refine s_iloadN X103 hx (hb hby own_d20_46) rfl ?_
  have f105 := O0.wr W103 g1
  obtain ⟨T104, X104, e104, st104⟩ := getS2 X103 hx hZ hown (host := "") (Or.inl (own_hw hw 92 rfl)) Via.refl e103 (SLO.ext f105.2) (g := (mkF m 47 #[.val (.ref t1), .val (.int (1 : Int32)), .val (.int cz)] [(.int cz), (.int (1 : Int32)), (.ref t1)])) rfl (hb hby own_d20_47)
  refine own_st st104 ?_
  show own_Ok p e below _ (T104.setTop (mkF m 50 #[.val (.ref t1), .val (.int (1 : Int32)), .val (.int cz)] [(.int (8 : Int32)), (.int cz), (.int (1 : Int32)), (.ref t1)]))
  refine s_ishr X104 hx (hb hby own_d20_50) ?_
  refine s_i2b X104 hx (hb hby own_d20_51) ?_
  obtain ⟨T106, h106, X106, e106, W106, V106, st106⟩ := own_stB X104 hx hZ e104 V103' 1 rfl (by decide) (by decide) (Nat.le_of_ble_eq_true rfl) (g := (mkF m 52 #[.val (.ref t1), .val (.int (1 : Int32)), .val (.int cz)] [(.int ((cz >>> ((8 : Int32) &&& 31)).toInt8.toInt32)), (.int (1 : Int32)), (.ref t1)])) rfl rfl (hb hby own_d20_52)
  refine own_st st106 ?_
  have V106' : Arv Z h106 t1 k1 .byte (6 : Int32) [(.int (nar .byte ((cz >>> ((0 : Int32) &&& 31)).toInt8.toInt32))), (.int (nar .byte ((cz >>> ((8 : Int32) &&& 31)).toInt8.toInt32))), v2, v3, v4, v5] (.int (0 : Int32)) := V106
  have N106 := Fr.snoc X106 N103 g1
  show own_Ok p e below _ (T106.setTop (mkF m 53 #[.val (.ref t1), .val (.int (1 : Int32)), .val (.int cz)] []))
  have Vn : Arv Z h106 t1 k1 .byte (6 : Int32) [(.int (StrChars.lo8 cz)), (.int (StrChars.hi8 cz)), v2, v3, v4, v5] (.int (0 : Int32)) := by rw [← own_plo cz, ← own_phi cz]; exact V106'
  have f107 := (Keep.refl h0 [t1]).wr W103 (Or.inl (by simp))
  have f108 := f107.wr W106 (Or.inl (by simp))
  exact own_retV X106 hx hlk Bd.returns (hb hby own_d20_53) (by rw [e106]; exact ⟨rfl, N106, f108, Vn⟩) (by decide) (by decide)
theorem own_ef_rm_uck31 (m : MethodId) (t1 : Addr) : entryFrame m #[(.int (1 : Int32)), (.ref t1)] 2 = mkF m 0 #[.val (.int (1 : Int32)), .val (.ref t1)] [] := by first | (simp [entryFrame, mkF, argsToLocals, Value.category]; done) | rfl
def Q_rm_uck31 (Z : State) (G1 : Int32) (G3 : Value) (c0 : Int32) (c1 : Int32) (c2 : Int32) (t1 : Addr) (k1 : ClassId) (h0 : Heap) (n0 : Nat) (v : Option Value) (h : Heap) (L : List Loc) : Prop := v = none ∧ Fr n0 L ∧ h = h0
set_option maxRecDepth 65536 in
set_option maxHeartbeats 40000000 in
theorem rm_uck31 (l : Launch) (Z : State) (a0 : Array Value) (hw : ∀ d ∈ tables_1, d.before a0 Z = true) (ws : List Jvm.Cond) (G1 : Int32) (G3 : Value) (c0 : Int32) (c1 : Int32) (c2 : Int32) (t1 : Addr) (k1 : ClassId) (h0 : Heap) (n0 : Nat) (O0 : Old Z n0 h0) (hst : own_St Z G1 G3) (V1 : Arv Z h0 t1 k1 .byte (6 : Int32) [(.int (StrChars.lo8 c0)), (.int (StrChars.hi8 c0)), (.int (StrChars.lo8 c1)), (.int (StrChars.hi8 c1)), (.int (StrChars.lo8 c2)), (.int (StrChars.hi8 c2))] (.int (0 : Int32))) :
    own_Met l Z (⟨"java/lang/StringUTF16", "checkIndex", "(I[B)V"⟩ : MethodName) jdk_52_method_91_code 2 none ws ({ frames := 2, cells := 0, slots := 0, locals := 27 } : Room) #[(.int (1 : Int32)), (.ref t1)] h0 (Q_rm_uck31 Z G1 G3 c0 c1 c2 t1 k1 h0 n0) := by
  refine MetFree.of_bodySF (plainFor_of_name own_pn3) hisR ?_
  intro p e s m args below meth c s₁ Bd hml0 hP hK
  obtain ⟨rfl, hZ, hh⟩ := hP
  have hx := Bd.exec
  have hby := Bd.bytes
  have hml : c.maxLocals = 2 := hml0
  have hown : s.vm.findClass "java/lang/StringUTF16" = some m.cls := findClass_of_methodNamed Bd.named
  have hnm := (name_of_methodNamed Bd.named Bd.method).1
  have hlk : meth.locks = false := Bd.notSynchronized
  have X0 : Stand p l e ({ frames := 2, cells := 0, slots := 0, locals := 27 } : Room) s m #[(.int (1 : Int32)), (.ref t1)] below meth c s₁ [] 0 0 := Stand.of_body Bd
  have e0 : s₁.heap = h0 := by rw [← hh, Bd.state]; rfl
  have N0 := Fr.nil n0
  suffices hgo : own_Ok p e below (own_Qx s (Q_rm_uck31 Z G1 G3 c0 c1 c2 t1 k1 h0 n0) 0 0) (s₁.setTop (mkF m 0 #[.val (.int (1 : Int32)), .val (.ref t1)] [])) from by
    obtain ⟨s₂, o, h1, h2⟩ := hgo
    exact ⟨s₂, o, castTop (own_ef_rm_uck31 m t1) h1, h2⟩
  have hst' := hst
  obtain ⟨SG1, PG1, SG3, rG3, SAD, SHI, SLO⟩ := hst'
  show own_Ok p e below _ (s₁.setTop (mkF m 0 #[.val (.int (1 : Int32)), .val (.ref t1)] []))
  refine s_iloadN X0 hx (hb hby own_d23_0) rfl ?_
  refine s_aloadN X0 hx (hb hby own_d23_1) rfl rfl ?_
  obtain ⟨_, T101, Lc101, X101, hQ101, st101⟩ := own_callS X0 hx hZ hown (own_hw hw 102 rfl) (own_hw hw 103 rfl) (own_hw hw 44 rfl) (own_hw hw 104 rfl) (rm_ul l Z a0 hw [] t1 k1 ((6 : Int32)) (([(.int (StrChars.lo8 c0)), (.int (StrChars.hi8 c0)), (.int (StrChars.lo8 c1)), (.int (StrChars.hi8 c1)), (.int (StrChars.lo8 c2)), (.int (StrChars.hi8 c2))] : List Value)) h0 n0 O0 V1) (by decide) e0 (Ls := #[.val (.int (1 : Int32)), .val (.ref t1)]) [(.ref t1)] [(.int (1 : Int32))] rfl (by rw [hml]; rfl) (lenOf own_pd1 rfl) (hb hby own_d23_2) (by decide) 1 rfl (by decide) (by decide) (by decide)
  obtain ⟨rfl, Nq101, e101⟩ := hQ101
  have N101 := Fr.app N0 Nq101
  refine st101 _ ?_
  show own_Ok p e below _ (T101.setTop (mkF m 5 #[.val (.int (1 : Int32)), .val (.ref t1)] [(.int ((6 : Int32) >>> ((1 : Int32) &&& 31))), (.int (1 : Int32))]))
  rw [show ((6 : Int32) >>> ((1 : Int32) &&& 31)) = (3 : Int32) from by decide]
  show own_Ok p e below _ (T101.setTop (mkF m 5 #[.val (.int (1 : Int32)), .val (.ref t1)] [(.int (3 : Int32)), (.int (1 : Int32))]))
  show own_Ok p e below _ (T101.setTop (mkF m 5 #[.val (.int (1 : Int32)), .val (.ref t1)] [(.int (3 : Int32)), (.int (1 : Int32))]))
  obtain ⟨_, T102, Lc102, X102, hQ102, st102⟩ := own_callS X101 hx hZ hown (own_hw hw 105 rfl) (own_hw hw 70 rfl) (own_hw hw 7 rfl) (own_hw hw 71 rfl) (rm_sck l Z a0 hw [] G1 G3 ((1 : Int32)) ((3 : Int32)) h0 n0 O0 hst (by decide) (by decide)) (by decide) e101 (Ls := #[.val (.int (1 : Int32)), .val (.ref t1)]) [(.int (1 : Int32)), (.int (3 : Int32))] [] rfl (by rw [hml]; rfl) (lenOf own_pd2 rfl) (hb hby own_d23_5) (by decide) 0 rfl (by decide) (by decide) (by decide)
  obtain ⟨rfl, Nq102, e102⟩ := hQ102
  have N102 := Fr.app N101 Nq102
  refine st102 _ ?_
  show own_Ok p e below _ (T102.setTop (mkF m 8 #[.val (.int (1 : Int32)), .val (.ref t1)] []))
  exact own_retV X102 hx hlk Bd.returns (hb hby own_d23_8) (by rw [e102]; exact ⟨rfl, N102, rfl⟩) (by decide) (by decide)
theorem own_ef_rm_gch31 (m : MethodId) (t1 : Addr) : entryFrame m #[(.ref t1), (.int (1 : Int32))] 2 = mkF m 0 #[.val (.ref t1), .val (.int (1 : Int32))] [] := by first | (simp [entryFrame, mkF, argsToLocals, Value.category]; done) | rfl
def Q_rm_gch31 (Z : State) (G1 : Int32) (G3 : Value) (c0 : Int32) (c1 : Int32) (c2 : Int32) (t1 : Addr) (k1 : ClassId) (h0 : Heap) (n0 : Nat) (v : Option Value) (h : Heap) (L : List Loc) : Prop := v = some (.int c1) ∧ Fr n0 L ∧ h = h0
set_option maxRecDepth 65536 in
set_option maxHeartbeats 40000000 in
theorem rm_gch31 (l : Launch) (Z : State) (a0 : Array Value) (hw : ∀ d ∈ tables_1, d.before a0 Z = true) (ws : List Jvm.Cond) (G1 : Int32) (G3 : Value) (c0 : Int32) (c1 : Int32) (c2 : Int32) (t1 : Addr) (k1 : ClassId) (h0 : Heap) (n0 : Nat) (O0 : Old Z n0 h0) (hst : own_St Z G1 G3) (r0 : ¬ c0 < 0 ∧ ¬ (65535 : Int32) < c0) (r1 : ¬ c1 < 0 ∧ ¬ (65535 : Int32) < c1) (r2 : ¬ c2 < 0 ∧ ¬ (65535 : Int32) < c2) (V1 : Arv Z h0 t1 k1 .byte (6 : Int32) [(.int (StrChars.lo8 c0)), (.int (StrChars.hi8 c0)), (.int (StrChars.lo8 c1)), (.int (StrChars.hi8 c1)), (.int (StrChars.lo8 c2)), (.int (StrChars.hi8 c2))] (.int (0 : Int32))) :
    own_Met l Z (⟨"java/lang/StringUTF16", "getChar", "([BI)C"⟩ : MethodName) jdk_52_method_5_code 2 (some .char) ws ({ frames := 0, cells := 0, slots := 0, locals := 0 } : Room) #[(.ref t1), (.int (1 : Int32))] h0 (Q_rm_gch31 Z G1 G3 c0 c1 c2 t1 k1 h0 n0) := by
  refine MetFree.of_bodySF (plainFor_of_name own_pn3) hisR ?_
  intro p e s m args below meth c s₁ Bd hml0 hP hK
  obtain ⟨rfl, hZ, hh⟩ := hP
  have hx := Bd.exec
  have hby := Bd.bytes
  have hml : c.maxLocals = 2 := hml0
  have hown : s.vm.findClass "java/lang/StringUTF16" = some m.cls := findClass_of_methodNamed Bd.named
  have hnm := (name_of_methodNamed Bd.named Bd.method).1
  have hlk : meth.locks = false := Bd.notSynchronized
  have X0 : Stand p l e ({ frames := 0, cells := 0, slots := 0, locals := 0 } : Room) s m #[(.ref t1), (.int (1 : Int32))] below meth c s₁ [] 0 0 := Stand.of_body Bd
  have e0 : s₁.heap = h0 := by rw [← hh, Bd.state]; rfl
  have N0 := Fr.nil n0
  suffices hgo : own_Ok p e below (own_Qx s (Q_rm_gch31 Z G1 G3 c0 c1 c2 t1 k1 h0 n0) 0 0) (s₁.setTop (mkF m 0 #[.val (.ref t1), .val (.int (1 : Int32))] [])) from by
    obtain ⟨s₂, o, h1, h2⟩ := hgo
    exact ⟨s₂, o, castTop (own_ef_rm_gch31 m t1) h1, h2⟩
  have hst' := hst
  obtain ⟨SG1, PG1, SG3, rG3, SAD, SHI, SLO⟩ := hst'
  show own_Ok p e below _ (s₁.setTop (mkF m 0 #[.val (.ref t1), .val (.int (1 : Int32))] []))
  obtain ⟨T101, X101, e101, st101⟩ := getS2 X0 hx hZ hown (host := "") (Or.inl (own_hw hw 90 rfl)) Via.refl e0 (SAD.ext O0.2) (g := (mkF m 0 #[.val (.ref t1), .val (.int (1 : Int32))] [])) rfl (hb hby own_d21_0)
  refine own_st st101 ?_
  show own_Ok p e below _ (T101.setTop (mkF m 3 #[.val (.ref t1), .val (.int (1 : Int32))] [(.int (1 : Int32))]))
  refine s_ifYes X101 hx 28 (hb hby own_d21_3) (XT.i0_ne_t (by decide)) (by decide) (by decide) ?_
  refine s_iloadN X101 hx (hb hby own_d21_28) rfl ?_
  refine s_iconst X101 hx (1 : Int32) (hb hby own_d21_29) rfl ?_
  refine s_ishl X101 hx (hb hby own_d21_30) ?_
  show own_Ok p e below _ (T101.setTop (mkF m 31 #[.val (.ref t1), .val (.int (1 : Int32))] [(.int (2 : Int32))]))
  refine s_istoreN X101 hx (hb hby own_d21_31) #[.val (.ref t1), .val (.int (2 : Int32))] rfl ?_
  refine s_aloadN X101 hx (hb hby own_d21_32) rfl rfl ?_
  refine s_iloadN X101 hx (hb hby own_d21_33) rfl ?_
  refine s_iinc X101 hx (1 : Int32) (hb hby own_d21_34) rfl rfl #[.val (.ref t1), .val (.int (3 : Int32))] rfl ?_
  show own_Ok p e below _ (T101.setTop (mkF m 37 #[.val (.ref t1), .val (.int (3 : Int32))] [(.int (2 : Int32)), (.ref t1)]))
  refine own_st (own_ldB X101 hx hZ e101 V1 (by decide) (by decide) (v := (StrChars.lo8 c1)) rfl (g := (mkF m 37 #[.val (.ref t1), .val (.int (3 : Int32))] [(.int (2 : Int32)), (.ref t1)])) rfl rfl (hb hby own_d21_37)) ?_
  show own_Ok p e below _ (T101.setTop (mkF m 38 #[.val (.ref t1), .val (.int (3 : Int32))] [(.int (StrChars.lo8 c1))]))
  refine s_sipush X101 hx (255 : Int32) (hb hby own_d21_38) rfl ?_
  refine s_iand X101 hx (hb hby own_d21_41) ?_
  obtain ⟨T102, X102, e102, st102⟩ := getS2 X101 hx hZ hown (host := "") (Or.inl (own_hw hw 91 rfl)) Via.refl e101 (SHI.ext O0.2) (g := (mkF m 42 #[.val (.ref t1), .val (.int (3 : Int32))] [(.int ((StrChars.lo8 c1) &&& (255 : Int32)))])) rfl (hb hby own_d21_42)
  refine own_st st102 ?_
  show own_Ok p e below _ (T102.setTop (mkF m 45 #[.val (.ref t1), .val (.int (3 : Int32))] [(.int (0 : Int32)), (.int ((StrChars.lo8 c1) &&& (255 : Int32)))]))
  refine s_ishl X102 hx (hb hby own_d21_45) ?_
  refine s_aloadN X102 hx (hb hby own_d21_46) rfl rfl ?_
  refine s_iloadN X102 hx (hb hby own_d21_47) rfl ?_
  refine own_st (own_ldB X102 hx hZ e102 V1 (by decide) (by decide) (v := (StrChars.hi8 c1)) rfl (g := (mkF m 48 #[.val (.ref t1), .val (.int (3 : Int32))] [(.int (3 : Int32)), (.ref t1), (.int (((StrChars.lo8 c1) &&& (255 : Int32)) <<< ((0 : Int32) &&& 31)))])) rfl rfl (hb hby own_d21_48)) ?_
  show own_Ok p e below _ (T102.setTop (mkF m 49 #[.val (.ref t1), .val (.int (3 : Int32))] [(.int (StrChars.hi8 c1)), (.int (((StrChars.lo8 c1) &&& (255 : Int32)) <<< ((0 : Int32) &&& 31)))]))
  refine s_sipush X102 hx (255 : Int32) (hb hby own_d21_49) rfl ?_
  refine s_iand X102 hx (hb hby own_d21_52) ?_
  obtain ⟨T103, X103, e103, st103⟩ := getS2 X102 hx hZ hown (host := "") (Or.inl (own_hw hw 92 rfl)) Via.refl e102 (SLO.ext O0.2) (g := (mkF m 53 #[.val (.ref t1), .val (.int (3 : Int32))] [(.int ((StrChars.hi8 c1) &&& (255 : Int32))), (.int (((StrChars.lo8 c1) &&& (255 : Int32)) <<< ((0 : Int32) &&& 31)))])) rfl (hb hby own_d21_53)
  refine own_st st103 ?_
  show own_Ok p e below _ (T103.setTop (mkF m 56 #[.val (.ref t1), .val (.int (3 : Int32))] [(.int (8 : Int32)), (.int ((StrChars.hi8 c1) &&& (255 : Int32))), (.int (((StrChars.lo8 c1) &&& (255 : Int32)) <<< ((0 : Int32) &&& 31)))]))
  refine s_ishl X103 hx (hb hby own_d21_56) ?_
  refine s_ior X103 hx (hb hby own_d21_57) ?_
  refine s_i2c X103 hx (hb hby own_d21_58) ?_
  exact own_retN X103 hx hlk (t := .char) Bd.returns (by simp) (hb hby own_d21_59) (by rw [e103]; exact ⟨by rw [own_join r1.1 r1.2, own_narc r1.1 r1.2], N0, rfl⟩) (by decide) (by decide)
theorem own_ef_rm_uch31 (m : MethodId) (t1 : Addr) : entryFrame m #[(.ref t1), (.int (1 : Int32))] 2 = mkF m 0 #[.val (.ref t1), .val (.int (1 : Int32))] [] := by first | (simp [entryFrame, mkF, argsToLocals, Value.category]; done) | rfl
def Q_rm_uch31 (Z : State) (G1 : Int32) (G3 : Value) (c0 : Int32) (c1 : Int32) (c2 : Int32) (t1 : Addr) (k1 : ClassId) (h0 : Heap) (n0 : Nat) (v : Option Value) (h : Heap) (L : List Loc) : Prop := v = some (.int c1) ∧ Fr n0 L ∧ h = h0
set_option maxRecDepth 65536 in
set_option maxHeartbeats 40000000 in
theorem rm_uch31 (l : Launch) (Z : State) (a0 : Array Value) (hw : ∀ d ∈ tables_1, d.before a0 Z = true) (ws : List Jvm.Cond) (G1 : Int32) (G3 : Value) (c0 : Int32) (c1 : Int32) (c2 : Int32) (t1 : Addr) (k1 : ClassId) (h0 : Heap) (n0 : Nat) (O0 : Old Z n0 h0) (hst : own_St Z G1 G3) (r0 : ¬ c0 < 0 ∧ ¬ (65535 : Int32) < c0) (r1 : ¬ c1 < 0 ∧ ¬ (65535 : Int32) < c1) (r2 : ¬ c2 < 0 ∧ ¬ (65535 : Int32) < c2) (V1 : Arv Z h0 t1 k1 .byte (6 : Int32) [(.int (StrChars.lo8 c0)), (.int (StrChars.hi8 c0)), (.int (StrChars.lo8 c1)), (.int (StrChars.hi8 c1)), (.int (StrChars.lo8 c2)), (.int (StrChars.hi8 c2))] (.int (0 : Int32))) :
    own_Met l Z (⟨"java/lang/StringUTF16", "charAt", "([BI)C"⟩ : MethodName) jdk_52_method_83_code 2 (some .char) ws ({ frames := 3, cells := 0, slots := 0, locals := 40 } : Room) #[(.ref t1), (.int (1 : Int32))] h0 (Q_rm_uch31 Z G1 G3 c0 c1 c2 t1 k1 h0 n0) := by
  refine MetFree.of_bodySF (plainFor_of_name own_pn3) hisR ?_
  intro p e s m args below meth c s₁ Bd hml0 hP hK
  obtain ⟨rfl, hZ, hh⟩ := hP
  have hx := Bd.exec
  have hby := Bd.bytes
  have hml : c.maxLocals = 2 := hml0
  have hown : s.vm.findClass "java/lang/StringUTF16" = some m.cls := findClass_of_methodNamed Bd.named
  have hnm := (name_of_methodNamed Bd.named Bd.method).1
  have hlk : meth.locks = false := Bd.notSynchronized
  have X0 : Stand p l e ({ frames := 3, cells := 0, slots := 0, locals := 40 } : Room) s m #[(.ref t1), (.int (1 : Int32))] below meth c s₁ [] 0 0 := Stand.of_body Bd
  have e0 : s₁.heap = h0 := by rw [← hh, Bd.state]; rfl
  have N0 := Fr.nil n0
  suffices hgo : own_Ok p e below (own_Qx s (Q_rm_uch31 Z G1 G3 c0 c1 c2 t1 k1 h0 n0) 0 0) (s₁.setTop (mkF m 0 #[.val (.ref t1), .val (.int (1 : Int32))] [])) from by
    obtain ⟨s₂, o, h1, h2⟩ := hgo
    exact ⟨s₂, o, castTop (own_ef_rm_uch31 m t1) h1, h2⟩
  have hst' := hst
  obtain ⟨SG1, PG1, SG3, rG3, SAD, SHI, SLO⟩ := hst'
  show own_Ok p e below _ (s₁.setTop (mkF m 0 #[.val (.ref t1), .val (.int (1 : Int32))] []))
  refine s_iloadN X0 hx (hb hby own_d22_0) rfl ?_
  refine s_aloadN X0 hx (hb hby own_d22_1) rfl rfl ?_
  obtain ⟨_, T101, Lc101, X101, hQ101, st101⟩ := own_callS X0 hx hZ hown (own_hw hw 99 rfl) (own_hw hw 100 rfl) (own_hw hw 44 rfl) (own_hw hw 101 rfl) (rm_uck31 l Z a0 hw [] G1 G3 c0 c1 c2 t1 k1 h0 n0 O0 hst V1) (by decide) e0 (Ls := #[.val (.ref t1), .val (.int (1 : Int32))]) [(.int (1 : Int32)), (.ref t1)] [] rfl (by rw [hml]; rfl) (lenOf own_pd3 rfl) (hb hby own_d22_2) (by decide) 0 rfl (by decide) (by decide) (by decide)
  obtain ⟨rfl, Nq101, e101⟩ := hQ101
  have N101 := Fr.app N0 Nq101
  refine st101 _ ?_
  show own_Ok p e below _ (T101.setTop (mkF m 5 #[.val (.ref t1), .val (.int (1 : Int32))] []))
  refine s_aloadN X101 hx (hb hby own_d22_5) rfl rfl ?_
  refine s_iloadN X101 hx (hb hby own_d22_6) rfl ?_
  obtain ⟨_, T102, Lc102, X102, hQ102, st102⟩ := own_callS X101 hx hZ hown (own_hw hw 93 rfl) (own_hw hw 94 rfl) (own_hw hw 44 rfl) (own_hw hw 95 rfl) (rm_gch31 l Z a0 hw [] G1 G3 c0 c1 c2 t1 k1 h0 n0 O0 hst r0 r1 r2 V1) (by decide) e101 (Ls := #[.val (.ref t1), .val (.int (1 : Int32))]) [(.ref t1), (.int (1 : Int32))] [] rfl (by rw [hml]; rfl) (lenOf own_pd4 rfl) (hb hby own_d22_7) (by decide) 0 rfl (by decide) (by decide) (by decide)
  obtain ⟨rfl, Nq102, e102⟩ := hQ102
  have N102 := Fr.app N101 Nq102
  refine st102 _ ?_
  show own_Ok p e below _ (T102.setTop (mkF m 10 #[.val (.ref t1), .val (.int (1 : Int32))] [(.int c1)]))
  exact own_retN X102 hx hlk (t := .char) Bd.returns (by simp) (hb hby own_d22_10) (by rw [e102]; exact ⟨by rw [own_narc r1.1 r1.2], N102, rfl⟩) (by decide) (by decide)
theorem own_ef_rm_sch31 (m : MethodId) (a1 : Addr) : entryFrame m #[(.ref a1), (.int (1 : Int32))] 2 = mkF m 0 #[.val (.ref a1), .val (.int (1 : Int32))] [] := by first | (simp [entryFrame, mkF, argsToLocals, Value.category]; done) | rfl
def Q_rm_sch31 (Z : State) (G1 : Int32) (G3 : Value) (c0 : Int32) (c1 : Int32) (c2 : Int32) (a1 : Addr) (t1 : Addr) (k1 : ClassId) (h0 : Heap) (n0 : Nat) (v : Option Value) (h : Heap) (L : List Loc) : Prop := v = some (.int c1) ∧ Fr n0 L ∧ h = h0
set_option maxRecDepth 65536 in
set_option maxHeartbeats 40000000 in
theorem rm_sch31 (l : Launch) (Z : State) (a0 : Array Value) (hw : ∀ d ∈ tables_1, d.before a0 Z = true) (ws : List Jvm.Cond) (G1 : Int32) (G3 : Value) (c0 : Int32) (c1 : Int32) (c2 : Int32) (a1 : Addr) (t1 : Addr) (k1 : ClassId) (h0 : Heap) (n0 : Nat) (O0 : Old Z n0 h0) (hst : own_St Z G1 G3) (r0 : ¬ c0 < 0 ∧ ¬ (65535 : Int32) < c0) (r1 : ¬ c1 < 0 ∧ ¬ (65535 : Int32) < c1) (r2 : ¬ c2 < 0 ∧ ¬ (65535 : Int32) < c2) (E1 : Exa Z h0 a1 "java/lang/String") (F1 : Fld Z h0 a1 "java/lang/String" "coder" "B" (.int (1 : Int32))) (F2 : Fld Z h0 a1 "java/lang/String" "value" "[B" (.ref t1)) (V1 : Arv Z h0 t1 k1 .byte (6 : Int32) [(.int (StrChars.lo8 c0)), (.int (StrChars.hi8 c0)), (.int (StrChars.lo8 c1)), (.int (StrChars.hi8 c1)), (.int (StrChars.lo8 c2)), (.int (StrChars.hi8 c2))] (.int (0 : Int32))) :
    own_Met l Z (⟨"java/lang/String", "charAt", "(I)C"⟩ : MethodName) jdk_42_method_56_code 2 (some .char) ws ({ frames := 4, cells := 0, slots := 0, locals := 53 } : Room) #[(.ref a1), (.int (1 : Int32))] h0 (Q_rm_sch31 Z G1 G3 c0 c1 c2 a1 t1 k1 h0 n0) := by
  refine MetFree.of_bodySF (plainFor_of_name own_pn2) hisR ?_
  intro p e s m args below meth c s₁ Bd hml0 hP hK
  obtain ⟨rfl, hZ, hh⟩ := hP
  have hx := Bd.exec
  have hby := Bd.bytes
  have hml : c.maxLocals = 2 := hml0
  have hown : s.vm.findClass "java/lang/String" = some m.cls := findClass_of_methodNamed Bd.named
  have hnm := (name_of_methodNamed Bd.named Bd.method).1
  have hlk : meth.locks = false := Bd.notSynchronized
  have X0 : Stand p l e ({ frames := 4, cells := 0, slots := 0, locals := 53 } : Room) s m #[(.ref a1), (.int (1 : Int32))] below meth c s₁ [] 0 0 := Stand.of_body Bd
  have e0 : s₁.heap = h0 := by rw [← hh, Bd.state]; rfl
  have N0 := Fr.nil n0
  suffices hgo : own_Ok p e below (own_Qx s (Q_rm_sch31 Z G1 G3 c0 c1 c2 a1 t1 k1 h0 n0) 0 0) (s₁.setTop (mkF m 0 #[.val (.ref a1), .val (.int (1 : Int32))] [])) from by
    obtain ⟨s₂, o, h1, h2⟩ := hgo
    exact ⟨s₂, o, castTop (own_ef_rm_sch31 m a1) h1, h2⟩
  have hst' := hst
  obtain ⟨SG1, PG1, SG3, rG3, SAD, SHI, SLO⟩ := hst'
  show own_Ok p e below _ (s₁.setTop (mkF m 0 #[.val (.ref a1), .val (.int (1 : Int32))] []))
  refine s_aloadN X0 hx (hb hby own_d12_0) rfl rfl ?_
  obtain ⟨_, T101, Lc101, X101, hQ101, st101⟩ := own_callV X0 hx hZ hown (own_hw hw 60 rfl) (own_hw hw 61 rfl) (own_hw hw 63 rfl) (own_hw hw 63 rfl) (own_hw hw 62 rfl) (own_hw hw 7 rfl) (own_hw hw 64 rfl) (rm_isl l Z a0 hw [] G1 G3 a1 h0 n0 O0 hst F1) (by decide) e0 E1 (Ls := #[.val (.ref a1), .val (.int (1 : Int32))]) [] [] rfl (by rw [hml]; rfl) (lenOf own_pd5 rfl) (hb hby own_d12_1) (by decide) 0 rfl (by decide) (by decide) (by decide)
  obtain ⟨rfl, Nq101, e101⟩ := hQ101
  have N101 := Fr.app N0 Nq101
  refine st101 _ ?_
  show own_Ok p e below _ (T101.setTop (mkF m 4 #[.val (.ref a1), .val (.int (1 : Int32))] [(.int (0 : Int32))]))
  refine s_ifYes X101 hx 16 (hb hby own_d12_4) (XT.i0_eq_t (by decide)) (by decide) (by decide) ?_
  refine s_aloadN X101 hx (hb hby own_d12_16) rfl rfl ?_
  obtain ⟨T102, X102, e102, st102⟩ := getF X101 hx hZ hown (host := "") (Or.inl (own_hw hw 25 rfl)) Via.refl e101 F2 (g := (mkF m 17 #[.val (.ref a1), .val (.int (1 : Int32))] [(.ref a1)])) rfl rfl (hb hby own_d12_17)
  refine own_st st102 ?_
  show own_Ok p e below _ (T102.setTop (mkF m 20 #[.val (.ref a1), .val (.int (1 : Int32))] [(.ref t1)]))
  refine s_iloadN X102 hx (hb hby own_d12_20) rfl ?_
  obtain ⟨_, T103, Lc103, X103, hQ103, st103⟩ := own_callS X102 hx hZ hown (own_hw hw 96 rfl) (own_hw hw 97 rfl) (own_hw hw 44 rfl) (own_hw hw 98 rfl) (rm_uch31 l Z a0 hw [] G1 G3 c0 c1 c2 t1 k1 h0 n0 O0 hst r0 r1 r2 V1) (by decide) e102 (Ls := #[.val (.ref a1), .val (.int (1 : Int32))]) [(.ref t1), (.int (1 : Int32))] [] rfl (by rw [hml]; rfl) (lenOf own_pd4 rfl) (hb hby own_d12_21) (by decide) 0 rfl (by decide) (by decide) (by decide)
  obtain ⟨rfl, Nq103, e103⟩ := hQ103
  have N103 := Fr.app N101 Nq103
  refine st103 _ ?_
  show own_Ok p e below _ (T103.setTop (mkF m 24 #[.val (.ref a1), .val (.int (1 : Int32))] [(.int c1)]))
  exact own_retN X103 hx hlk (t := .char) Bd.returns (by simp) (hb hby own_d12_24) (by rw [e103]; exact ⟨by rw [own_narc r1.1 r1.2], N103, rfl⟩) (by decide) (by decide)
theorem own_ef_rm_pch31 (m : MethodId) (t1 : Addr) (cz : Int32) : entryFrame m #[(.ref t1), (.int (1 : Int32)), (.int cz)] 3 = mkF m 0 #[.val (.ref t1), .val (.int (1 : Int32)), .val (.int cz)] [] := by first | (simp [entryFrame, mkF, argsToLocals, Value.category]; done) | rfl
def Q_rm_pch31 (Z : State) (G1 : Int32) (G3 : Value) (t1 : Addr) (k1 : ClassId) (cz : Int32) (v0 : Value) (v1 : Value) (v2 : Value) (v3 : Value) (v4 : Value) (v5 : Value) (h0 : Heap) (n0 : Nat) (v : Option Value) (h : Heap) (L : List Loc) : Prop := v = none ∧ Fr n0 L ∧ Keep h0 h [t1] ∧ Arv Z h t1 k1 .byte (6 : Int32) [v0, v1, (.int (StrChars.lo8 cz)), (.int (StrChars.hi8 cz)), v4, v5] (.int (0 : Int32))
set_option maxRecDepth 65536 in
set_option maxHeartbeats 40000000 in
theorem rm_pch31 (l : Launch) (Z : State) (a0 : Array Value) (hw : ∀ d ∈ tables_1, d.before a0 Z = true) (ws : List Jvm.Cond) (G1 : Int32) (G3 : Value) (t1 : Addr) (k1 : ClassId) (cz : Int32) (v0 : Value) (v1 : Value) (v2 : Value) (v3 : Value) (v4 : Value) (v5 : Value) (h0 : Heap) (n0 : Nat) (O0 : Old Z n0 h0) (hst : own_St Z G1 G3) (V1 : Arv Z h0 t1 k1 .byte (6 : Int32) [v0, v1, v2, v3, v4, v5] (.int (0 : Int32))) (g1 : n0 ≤ t1) :
    own_Met l Z (⟨"java/lang/StringUTF16", "putChar", "([BII)V"⟩ : MethodName) jdk_52_method_4_code 3 none ws ({ frames := 0, cells := 0, slots := 0, locals := 0 } : Room) #[(.ref t1), (.int (1 : Int32)), (.int cz)] h0 (Q_rm_pch31 Z G1 G3 t1 k1 cz v0 v1 v2 v3 v4 v5 h0 n0) := by
  refine MetFree.of_bodySF (plainFor_of_name own_pn3) hisR ?_
  intro p e s m args below meth c s₁ Bd hml0 hP hK
  obtain ⟨rfl, hZ, hh⟩ := hP
  have hx := Bd.exec
  have hby := Bd.bytes
  have hml : c.maxLocals = 3 := hml0
  have hown : s.vm.findClass "java/lang/StringUTF16" = some m.cls := findClass_of_methodNamed Bd.named
  have hnm := (name_of_methodNamed Bd.named Bd.method).1
  have hlk : meth.locks = false := Bd.notSynchronized
  have X0 : Stand p l e ({ frames := 0, cells := 0, slots := 0, locals := 0 } : Room) s m #[(.ref t1), (.int (1 : Int32)), (.int cz)] below meth c s₁ [] 0 0 := Stand.of_body Bd
  have e0 : s₁.heap = h0 := by rw [← hh, Bd.state]; rfl
  have N0 := Fr.nil n0
  suffices hgo : own_Ok p e below (own_Qx s (Q_rm_pch31 Z G1 G3 t1 k1 cz v0 v1 v2 v3 v4 v5 h0 n0) 0 0) (s₁.setTop (mkF m 0 #[.val (.ref t1), .val (.int (1 : Int32)), .val (.int cz)] [])) from by
    obtain ⟨s₂, o, h1, h2⟩ := hgo
    exact ⟨s₂, o, castTop (own_ef_rm_pch31 m t1 cz) h1, h2⟩
  have hst' := hst
  obtain ⟨SG1, PG1, SG3, rG3, SAD, SHI, SLO⟩ := hst'
  show own_Ok p e below _ (s₁.setTop (mkF m 0 #[.val (.ref t1), .val (.int (1 : Int32)), .val (.int cz)] []))
  obtain ⟨T101, X101, e101, st101⟩ := getS2 X0 hx hZ hown (host := "") (Or.inl (own_hw hw 90 rfl)) Via.refl e0 (SAD.ext O0.2) (g := (mkF m 0 #[.val (.ref t1), .val (.int (1 : Int32)), .val (.int cz)] [])) rfl (hb hby own_d20_0)
  refine own_st st101 ?_
  show own_Ok p e below _ (T101.setTop (mkF m 3 #[.val (.ref t1), .val (.int (1 : Int32)), .val (.int cz)] [(.int (1 : Int32))]))
  refine s_ifYes X101 hx 28 (hb hby own_d20_3) (XT.i0_ne_t (by decide)) (by decide) (by decide) ?_
  refine s_iloadN X101 hx (hb hby own_d20_28) rfl ?_
  refine s_iconst X101 hx (1 : Int32) (hb hby own_d20_29) rfl ?_
  refine s_ishl X101 hx (hb hby own_d20_30) ?_
  show own_Ok p e below _ (T101.setTop (mkF m 31 #[.val (.ref t1), .val (.int (1 : Int32)), .val (.int cz)] [(.int (2 : Int32))]))
  refine s_istoreN X101 hx (hb hby own_d20_31) #[.val (.ref t1), .val (.int (2 : Int32)), .val (.int cz)] rfl ?_
  refine s_aloadN X101 hx (hb hby own_d20_32) rfl rfl ?_
  refine s_iloadN X101 hx (hb hby own_d20_33) rfl ?_
  refine s_iinc X101 hx (1 : Int32) (hb hby own_d20_34) rfl rfl #[.val (.ref t1), .val (.int (3 : Int32)), .val (.int cz)] rfl ?_
  show own_Ok p e below _ (T101.setTop (mkF m 37 #[.val (.ref t1), .val (.int (3 : Int32)), .val (.int cz)] [(.int (2 : Int32)), (.ref t1)]))
  refine s_iloadN X101 hx (hb hby own_d20_37) rfl ?_
  obtain ⟨T102, X102, e102, st102⟩ := getS2 X101 hx hZ hown (host := "") (Or.inl (own_hw hw 91 rfl)) Via.refl e101 (SHI.ext O0.2) (g := (mkF m 38 #[.val (.ref t1), .val (.int (3 : Int32)), .val (.int cz)] [(.int cz), (.int (2 : Int32)), (.ref t1)])) rfl (hb hby own_d20_38)
  refine own_st st102 ?_
  show own_Ok p e below _ (T102.setTop (mkF m 41 #[.val (.ref t1), .val (.int (3 : Int32)), .val (.int cz)] [(.int (0 : Int32)), (.int cz), (.int (2 : Int32)), (.ref t1)]))
  refine s_ishr X102 hx (hb hby own_d20_41) ?_
  refine s_i2b X102 hx (hb hby own_d20_42) ?_
  obtain ⟨T103, h103, X103, e103, W103, V103, st103⟩ := own_stB X102 hx hZ e102 V1 2 rfl (by decide) (by decide) (Nat.le_of_ble_eq_true rfl) (g := (mkF m 43 #[.val (.ref t1), .val (.int (3 : Int32)), .val (.int cz)] [(.int ((cz >>> ((0 : Int32) &&& 31)).toInt8.toInt32)), (.int (2 : Int32)), (.ref t1)])) rfl rfl (hb hby own_d20_43)
  refine own_st st103 ?_
  have V103' : Arv Z h103 t1 k1 .byte (6 : Int32) [v0, v1, (.int (nar .byte ((cz >>> ((0 : Int32) &&& 31)).toInt8.toInt32))), v3, v4, v5] (.int (0 : Int32)) := V103
  have N103 := Fr.snoc X103 N0 g1
  show own_Ok p e below _ (T103.setTop (mkF m 44 #[.val (.ref t1), .val (.int (3 : Int32)), .val (.int cz)] []))
  refine s_aloadN X103 hx (hb hby own_d20_44) rfl rfl ?_
  refine s_iloadN X103 hx (hb hby own_d20_45) rfl ?_
  refine s_iloadN X103 hx (hb hby own_d20_46) rfl ?_
  have f105 := O0.wr W103 g1
  obtain ⟨T104, X104, e104, st104⟩ := getS2 X103 hx hZ hown (host := "") (Or.inl (own_hw hw 92 rfl)) Via.refl e103 (SLO.ext f105.2) (g := (mkF m 47 #[.val (.ref t1), .val (.int (3 : Int32)), .val (.int cz)] [(.int cz), (.int (3 : Int32)), (.ref t1)])) rfl (hb hby own_d20_47)
  refine own_st st104 ?_
  show own_Ok p e below _ (T104.setTop (mkF m 50 #[.val (.ref t1), .val (.int (3 : Int32)), .val (.int cz)] [(.int (8 : Int32)), (.int cz), (.int (3 : Int32)), (.ref t1)]))
  refine s_ishr X104 hx (hb hby own_d20_50) ?_
  refine s_i2b X104 hx (hb hby own_d20_51) ?_
  obtain ⟨T106, h106, X106, e106, W106, V106, st106⟩ := own_stB X104 hx hZ e104 V103' 3 rfl (by decide) (by decide) (Nat.le_of_ble_eq_true rfl) (g := (mkF m 52 #[.val (.ref t1), .val (.int (3 : Int32)), .val (.int cz)] [(.int ((cz >>> ((8 : Int32) &&& 31)).toInt8.toInt32)), (.int (3 : Int32)), (.ref t1)])) rfl rfl (hb hby own_d20_52)
  refine own_st st106 ?_
  have V106' : Arv Z h106 t1 k1 .byte (6 : Int32) [v0, v1, (.int (nar .byte ((cz >>> ((0 : Int32) &&& 31)).toInt8.toInt32))), (.int (nar .byte ((cz >>> ((8 : Int32) &&& 31)).toInt8.toInt32))), v4, v5] (.int (0 : Int32)) := V106
  have N106 := Fr.snoc X106 N103 g1
  show own_Ok p e below _ (T106.setTop (mkF m 53 #[.val (.ref t1), .val (.int (3 : Int32)), .val (.int cz)] []))
  have Vn : Arv Z h106 t1 k1 .byte (6 : Int32) [v0, v1, (.int (StrChars.lo8 cz)), (.int (StrChars.hi8 cz)), v4, v5] (.int (0 : Int32)) := by rw [← own_plo cz, ← own_phi cz]; exact V106'
  have f107 := (Keep.refl h0 [t1]).wr W103 (Or.inl (by simp))
  have f108 := f107.wr W106 (Or.inl (by simp))
  exact own_retV X106 hx hlk Bd.returns (hb hby own_d20_53) (by rw [e106]; exact ⟨rfl, N106, f108, Vn⟩) (by decide) (by decide)
theorem own_ef_rm_uck32 (m : MethodId) (t1 : Addr) : entryFrame m #[(.int (2 : Int32)), (.ref t1)] 2 = mkF m 0 #[.val (.int (2 : Int32)), .val (.ref t1)] [] := by first | (simp [entryFrame, mkF, argsToLocals, Value.category]; done) | rfl
def Q_rm_uck32 (Z : State) (G1 : Int32) (G3 : Value) (c0 : Int32) (c1 : Int32) (c2 : Int32) (t1 : Addr) (k1 : ClassId) (h0 : Heap) (n0 : Nat) (v : Option Value) (h : Heap) (L : List Loc) : Prop := v = none ∧ Fr n0 L ∧ h = h0
set_option maxRecDepth 65536 in
set_option maxHeartbeats 40000000 in
theorem rm_uck32 (l : Launch) (Z : State) (a0 : Array Value) (hw : ∀ d ∈ tables_1, d.before a0 Z = true) (ws : List Jvm.Cond) (G1 : Int32) (G3 : Value) (c0 : Int32) (c1 : Int32) (c2 : Int32) (t1 : Addr) (k1 : ClassId) (h0 : Heap) (n0 : Nat) (O0 : Old Z n0 h0) (hst : own_St Z G1 G3) (V1 : Arv Z h0 t1 k1 .byte (6 : Int32) [(.int (StrChars.lo8 c0)), (.int (StrChars.hi8 c0)), (.int (StrChars.lo8 c1)), (.int (StrChars.hi8 c1)), (.int (StrChars.lo8 c2)), (.int (StrChars.hi8 c2))] (.int (0 : Int32))) :
    own_Met l Z (⟨"java/lang/StringUTF16", "checkIndex", "(I[B)V"⟩ : MethodName) jdk_52_method_91_code 2 none ws ({ frames := 2, cells := 0, slots := 0, locals := 27 } : Room) #[(.int (2 : Int32)), (.ref t1)] h0 (Q_rm_uck32 Z G1 G3 c0 c1 c2 t1 k1 h0 n0) := by
  refine MetFree.of_bodySF (plainFor_of_name own_pn3) hisR ?_
  intro p e s m args below meth c s₁ Bd hml0 hP hK
  obtain ⟨rfl, hZ, hh⟩ := hP
  have hx := Bd.exec
  have hby := Bd.bytes
  have hml : c.maxLocals = 2 := hml0
  have hown : s.vm.findClass "java/lang/StringUTF16" = some m.cls := findClass_of_methodNamed Bd.named
  have hnm := (name_of_methodNamed Bd.named Bd.method).1
  have hlk : meth.locks = false := Bd.notSynchronized
  have X0 : Stand p l e ({ frames := 2, cells := 0, slots := 0, locals := 27 } : Room) s m #[(.int (2 : Int32)), (.ref t1)] below meth c s₁ [] 0 0 := Stand.of_body Bd
  have e0 : s₁.heap = h0 := by rw [← hh, Bd.state]; rfl
  have N0 := Fr.nil n0
  suffices hgo : own_Ok p e below (own_Qx s (Q_rm_uck32 Z G1 G3 c0 c1 c2 t1 k1 h0 n0) 0 0) (s₁.setTop (mkF m 0 #[.val (.int (2 : Int32)), .val (.ref t1)] [])) from by
    obtain ⟨s₂, o, h1, h2⟩ := hgo
    exact ⟨s₂, o, castTop (own_ef_rm_uck32 m t1) h1, h2⟩
  have hst' := hst
  obtain ⟨SG1, PG1, SG3, rG3, SAD, SHI, SLO⟩ := hst'
  show own_Ok p e below _ (s₁.setTop (mkF m 0 #[.val (.int (2 : Int32)), .val (.ref t1)] []))
  refine s_iloadN X0 hx (hb hby own_d23_0) rfl ?_
  refine s_aloadN X0 hx (hb hby own_d23_1) rfl rfl ?_
  obtain ⟨_, T101, Lc101, X101, hQ101, st101⟩ := own_callS X0 hx hZ hown (own_hw hw 102 rfl) (own_hw hw 103 rfl) (own_hw hw 44 rfl) (own_hw hw 104 rfl) (rm_ul l Z a0 hw [] t1 k1 ((6 : Int32)) (([(.int (StrChars.lo8 c0)), (.int (StrChars.hi8 c0)), (.int (StrChars.lo8 c1)), (.int (StrChars.hi8 c1)), (.int (StrChars.lo8 c2)), (.int (StrChars.hi8 c2))] : List Value)) h0 n0 O0 V1) (by decide) e0 (Ls := #[.val (.int (2 : Int32)), .val (.ref t1)]) [(.ref t1)] [(.int (2 : Int32))] rfl (by rw [hml]; rfl) (lenOf own_pd1 rfl) (hb hby own_d23_2) (by decide) 1 rfl (by decide) (by decide) (by decide)
  obtain ⟨rfl, Nq101, e101⟩ := hQ101
  have N101 := Fr.app N0 Nq101
  refine st101 _ ?_
  show own_Ok p e below _ (T101.setTop (mkF m 5 #[.val (.int (2 : Int32)), .val (.ref t1)] [(.int ((6 : Int32) >>> ((1 : Int32) &&& 31))), (.int (2 : Int32))]))
  rw [show ((6 : Int32) >>> ((1 : Int32) &&& 31)) = (3 : Int32) from by decide]
  show own_Ok p e below _ (T101.setTop (mkF m 5 #[.val (.int (2 : Int32)), .val (.ref t1)] [(.int (3 : Int32)), (.int (2 : Int32))]))
  show own_Ok p e below _ (T101.setTop (mkF m 5 #[.val (.int (2 : Int32)), .val (.ref t1)] [(.int (3 : Int32)), (.int (2 : Int32))]))
  obtain ⟨_, T102, Lc102, X102, hQ102, st102⟩ := own_callS X101 hx hZ hown (own_hw hw 105 rfl) (own_hw hw 70 rfl) (own_hw hw 7 rfl) (own_hw hw 71 rfl) (rm_sck l Z a0 hw [] G1 G3 ((2 : Int32)) ((3 : Int32)) h0 n0 O0 hst (by decide) (by decide)) (by decide) e101 (Ls := #[.val (.int (2 : Int32)), .val (.ref t1)]) [(.int (2 : Int32)), (.int (3 : Int32))] [] rfl (by rw [hml]; rfl) (lenOf own_pd2 rfl) (hb hby own_d23_5) (by decide) 0 rfl (by decide) (by decide) (by decide)
  obtain ⟨rfl, Nq102, e102⟩ := hQ102
  have N102 := Fr.app N101 Nq102
  refine st102 _ ?_
  show own_Ok p e below _ (T102.setTop (mkF m 8 #[.val (.int (2 : Int32)), .val (.ref t1)] []))
  exact own_retV X102 hx hlk Bd.returns (hb hby own_d23_8) (by rw [e102]; exact ⟨rfl, N102, rfl⟩) (by decide) (by decide)
theorem own_ef_rm_gch32 (m : MethodId) (t1 : Addr) : entryFrame m #[(.ref t1), (.int (2 : Int32))] 2 = mkF m 0 #[.val (.ref t1), .val (.int (2 : Int32))] [] := by first | (simp [entryFrame, mkF, argsToLocals, Value.category]; done) | rfl
def Q_rm_gch32 (Z : State) (G1 : Int32) (G3 : Value) (c0 : Int32) (c1 : Int32) (c2 : Int32) (t1 : Addr) (k1 : ClassId) (h0 : Heap) (n0 : Nat) (v : Option Value) (h : Heap) (L : List Loc) : Prop := v = some (.int c2) ∧ Fr n0 L ∧ h = h0
set_option maxRecDepth 65536 in
set_option maxHeartbeats 40000000 in
theorem rm_gch32 (l : Launch) (Z : State) (a0 : Array Value) (hw : ∀ d ∈ tables_1, d.before a0 Z = true) (ws : List Jvm.Cond) (G1 : Int32) (G3 : Value) (c0 : Int32) (c1 : Int32) (c2 : Int32) (t1 : Addr) (k1 : ClassId) (h0 : Heap) (n0 : Nat) (O0 : Old Z n0 h0) (hst : own_St Z G1 G3) (r0 : ¬ c0 < 0 ∧ ¬ (65535 : Int32) < c0) (r1 : ¬ c1 < 0 ∧ ¬ (65535 : Int32) < c1) (r2 : ¬ c2 < 0 ∧ ¬ (65535 : Int32) < c2) (V1 : Arv Z h0 t1 k1 .byte (6 : Int32) [(.int (StrChars.lo8 c0)), (.int (StrChars.hi8 c0)), (.int (StrChars.lo8 c1)), (.int (StrChars.hi8 c1)), (.int (StrChars.lo8 c2)), (.int (StrChars.hi8 c2))] (.int (0 : Int32))) :
    own_Met l Z (⟨"java/lang/StringUTF16", "getChar", "([BI)C"⟩ : MethodName) jdk_52_method_5_code 2 (some .char) ws ({ frames := 0, cells := 0, slots := 0, locals := 0 } : Room) #[(.ref t1), (.int (2 : Int32))] h0 (Q_rm_gch32 Z G1 G3 c0 c1 c2 t1 k1 h0 n0) := by
  refine MetFree.of_bodySF (plainFor_of_name own_pn3) hisR ?_
  intro p e s m args below meth c s₁ Bd hml0 hP hK
  obtain ⟨rfl, hZ, hh⟩ := hP
  have hx := Bd.exec
  have hby := Bd.bytes
  have hml : c.maxLocals = 2 := hml0
  have hown : s.vm.findClass "java/lang/StringUTF16" = some m.cls := findClass_of_methodNamed Bd.named
  have hnm := (name_of_methodNamed Bd.named Bd.method).1
  have hlk : meth.locks = false := Bd.notSynchronized
  have X0 : Stand p l e ({ frames := 0, cells := 0, slots := 0, locals := 0 } : Room) s m #[(.ref t1), (.int (2 : Int32))] below meth c s₁ [] 0 0 := Stand.of_body Bd
  have e0 : s₁.heap = h0 := by rw [← hh, Bd.state]; rfl
  have N0 := Fr.nil n0
  suffices hgo : own_Ok p e below (own_Qx s (Q_rm_gch32 Z G1 G3 c0 c1 c2 t1 k1 h0 n0) 0 0) (s₁.setTop (mkF m 0 #[.val (.ref t1), .val (.int (2 : Int32))] [])) from by
    obtain ⟨s₂, o, h1, h2⟩ := hgo
    exact ⟨s₂, o, castTop (own_ef_rm_gch32 m t1) h1, h2⟩
  have hst' := hst
  obtain ⟨SG1, PG1, SG3, rG3, SAD, SHI, SLO⟩ := hst'
  show own_Ok p e below _ (s₁.setTop (mkF m 0 #[.val (.ref t1), .val (.int (2 : Int32))] []))
  obtain ⟨T101, X101, e101, st101⟩ := getS2 X0 hx hZ hown (host := "") (Or.inl (own_hw hw 90 rfl)) Via.refl e0 (SAD.ext O0.2) (g := (mkF m 0 #[.val (.ref t1), .val (.int (2 : Int32))] [])) rfl (hb hby own_d21_0)
  refine own_st st101 ?_
  show own_Ok p e below _ (T101.setTop (mkF m 3 #[.val (.ref t1), .val (.int (2 : Int32))] [(.int (1 : Int32))]))
  refine s_ifYes X101 hx 28 (hb hby own_d21_3) (XT.i0_ne_t (by decide)) (by decide) (by decide) ?_
  refine s_iloadN X101 hx (hb hby own_d21_28) rfl ?_
  refine s_iconst X101 hx (1 : Int32) (hb hby own_d21_29) rfl ?_
  refine s_ishl X101 hx (hb hby own_d21_30) ?_
  show own_Ok p e below _ (T101.setTop (mkF m 31 #[.val (.ref t1), .val (.int (2 : Int32))] [(.int (4 : Int32))]))
  refine s_istoreN X101 hx (hb hby own_d21_31) #[.val (.ref t1), .val (.int (4 : Int32))] rfl ?_
  refine s_aloadN X101 hx (hb hby own_d21_32) rfl rfl ?_
  refine s_iloadN X101 hx (hb hby own_d21_33) rfl ?_
  refine s_iinc X101 hx (1 : Int32) (hb hby own_d21_34) rfl rfl #[.val (.ref t1), .val (.int (5 : Int32))] rfl ?_
  show own_Ok p e below _ (T101.setTop (mkF m 37 #[.val (.ref t1), .val (.int (5 : Int32))] [(.int (4 : Int32)), (.ref t1)]))
  refine own_st (own_ldB X101 hx hZ e101 V1 (by decide) (by decide) (v := (StrChars.lo8 c2)) rfl (g := (mkF m 37 #[.val (.ref t1), .val (.int (5 : Int32))] [(.int (4 : Int32)), (.ref t1)])) rfl rfl (hb hby own_d21_37)) ?_
  show own_Ok p e below _ (T101.setTop (mkF m 38 #[.val (.ref t1), .val (.int (5 : Int32))] [(.int (StrChars.lo8 c2))]))
  refine s_sipush X101 hx (255 : Int32) (hb hby own_d21_38) rfl ?_
  refine s_iand X101 hx (hb hby own_d21_41) ?_
  obtain ⟨T102, X102, e102, st102⟩ := getS2 X101 hx hZ hown (host := "") (Or.inl (own_hw hw 91 rfl)) Via.refl e101 (SHI.ext O0.2) (g := (mkF m 42 #[.val (.ref t1), .val (.int (5 : Int32))] [(.int ((StrChars.lo8 c2) &&& (255 : Int32)))])) rfl (hb hby own_d21_42)
  refine own_st st102 ?_
  show own_Ok p e below _ (T102.setTop (mkF m 45 #[.val (.ref t1), .val (.int (5 : Int32))] [(.int (0 : Int32)), (.int ((StrChars.lo8 c2) &&& (255 : Int32)))]))
  refine s_ishl X102 hx (hb hby own_d21_45) ?_
  refine s_aloadN X102 hx (hb hby own_d21_46) rfl rfl ?_
  refine s_iloadN X102 hx (hb hby own_d21_47) rfl ?_
  refine own_st (own_ldB X102 hx hZ e102 V1 (by decide) (by decide) (v := (StrChars.hi8 c2)) rfl (g := (mkF m 48 #[.val (.ref t1), .val (.int (5 : Int32))] [(.int (5 : Int32)), (.ref t1), (.int (((StrChars.lo8 c2) &&& (255 : Int32)) <<< ((0 : Int32) &&& 31)))])) rfl rfl (hb hby own_d21_48)) ?_
  show own_Ok p e below _ (T102.setTop (mkF m 49 #[.val (.ref t1), .val (.int (5 : Int32))] [(.int (StrChars.hi8 c2)), (.int (((StrChars.lo8 c2) &&& (255 : Int32)) <<< ((0 : Int32) &&& 31)))]))
  refine s_sipush X102 hx (255 : Int32) (hb hby own_d21_49) rfl ?_
  refine s_iand X102 hx (hb hby own_d21_52) ?_
  obtain ⟨T103, X103, e103, st103⟩ := getS2 X102 hx hZ hown (host := "") (Or.inl (own_hw hw 92 rfl)) Via.refl e102 (SLO.ext O0.2) (g := (mkF m 53 #[.val (.ref t1), .val (.int (5 : Int32))] [(.int ((StrChars.hi8 c2) &&& (255 : Int32))), (.int (((StrChars.lo8 c2) &&& (255 : Int32)) <<< ((0 : Int32) &&& 31)))])) rfl (hb hby own_d21_53)
  refine own_st st103 ?_
  show own_Ok p e below _ (T103.setTop (mkF m 56 #[.val (.ref t1), .val (.int (5 : Int32))] [(.int (8 : Int32)), (.int ((StrChars.hi8 c2) &&& (255 : Int32))), (.int (((StrChars.lo8 c2) &&& (255 : Int32)) <<< ((0 : Int32) &&& 31)))]))
  refine s_ishl X103 hx (hb hby own_d21_56) ?_
  refine s_ior X103 hx (hb hby own_d21_57) ?_
  refine s_i2c X103 hx (hb hby own_d21_58) ?_
  exact own_retN X103 hx hlk (t := .char) Bd.returns (by simp) (hb hby own_d21_59) (by rw [e103]; exact ⟨by rw [own_join r2.1 r2.2, own_narc r2.1 r2.2], N0, rfl⟩) (by decide) (by decide)
theorem own_ef_rm_uch32 (m : MethodId) (t1 : Addr) : entryFrame m #[(.ref t1), (.int (2 : Int32))] 2 = mkF m 0 #[.val (.ref t1), .val (.int (2 : Int32))] [] := by first | (simp [entryFrame, mkF, argsToLocals, Value.category]; done) | rfl
def Q_rm_uch32 (Z : State) (G1 : Int32) (G3 : Value) (c0 : Int32) (c1 : Int32) (c2 : Int32) (t1 : Addr) (k1 : ClassId) (h0 : Heap) (n0 : Nat) (v : Option Value) (h : Heap) (L : List Loc) : Prop := v = some (.int c2) ∧ Fr n0 L ∧ h = h0
set_option maxRecDepth 65536 in
set_option maxHeartbeats 40000000 in
theorem rm_uch32 (l : Launch) (Z : State) (a0 : Array Value) (hw : ∀ d ∈ tables_1, d.before a0 Z = true) (ws : List Jvm.Cond) (G1 : Int32) (G3 : Value) (c0 : Int32) (c1 : Int32) (c2 : Int32) (t1 : Addr) (k1 : ClassId) (h0 : Heap) (n0 : Nat) (O0 : Old Z n0 h0) (hst : own_St Z G1 G3) (r0 : ¬ c0 < 0 ∧ ¬ (65535 : Int32) < c0) (r1 : ¬ c1 < 0 ∧ ¬ (65535 : Int32) < c1) (r2 : ¬ c2 < 0 ∧ ¬ (65535 : Int32) < c2) (V1 : Arv Z h0 t1 k1 .byte (6 : Int32) [(.int (StrChars.lo8 c0)), (.int (StrChars.hi8 c0)), (.int (StrChars.lo8 c1)), (.int (StrChars.hi8 c1)), (.int (StrChars.lo8 c2)), (.int (StrChars.hi8 c2))] (.int (0 : Int32))) :
    own_Met l Z (⟨"java/lang/StringUTF16", "charAt", "([BI)C"⟩ : MethodName) jdk_52_method_83_code 2 (some .char) ws ({ frames := 3, cells := 0, slots := 0, locals := 40 } : Room) #[(.ref t1), (.int (2 : Int32))] h0 (Q_rm_uch32 Z G1 G3 c0 c1 c2 t1 k1 h0 n0) := by
  refine MetFree.of_bodySF (plainFor_of_name own_pn3) hisR ?_
  intro p e s m args below meth c s₁ Bd hml0 hP hK
  obtain ⟨rfl, hZ, hh⟩ := hP
  have hx := Bd.exec
  have hby := Bd.bytes
  have hml : c.maxLocals = 2 := hml0
  have hown : s.vm.findClass "java/lang/StringUTF16" = some m.cls := findClass_of_methodNamed Bd.named
  have hnm := (name_of_methodNamed Bd.named Bd.method).1
  have hlk : meth.locks = false := Bd.notSynchronized
  have X0 : Stand p l e ({ frames := 3, cells := 0, slots := 0, locals := 40 } : Room) s m #[(.ref t1), (.int (2 : Int32))] below meth c s₁ [] 0 0 := Stand.of_body Bd
  have e0 : s₁.heap = h0 := by rw [← hh, Bd.state]; rfl
  have N0 := Fr.nil n0
  suffices hgo : own_Ok p e below (own_Qx s (Q_rm_uch32 Z G1 G3 c0 c1 c2 t1 k1 h0 n0) 0 0) (s₁.setTop (mkF m 0 #[.val (.ref t1), .val (.int (2 : Int32))] [])) from by
    obtain ⟨s₂, o, h1, h2⟩ := hgo
    exact ⟨s₂, o, castTop (own_ef_rm_uch32 m t1) h1, h2⟩
  have hst' := hst
  obtain ⟨SG1, PG1, SG3, rG3, SAD, SHI, SLO⟩ := hst'
  show own_Ok p e below _ (s₁.setTop (mkF m 0 #[.val (.ref t1), .val (.int (2 : Int32))] []))
  refine s_iloadN X0 hx (hb hby own_d22_0) rfl ?_
  refine s_aloadN X0 hx (hb hby own_d22_1) rfl rfl ?_
  obtain ⟨_, T101, Lc101, X101, hQ101, st101⟩ := own_callS X0 hx hZ hown (own_hw hw 99 rfl) (own_hw hw 100 rfl) (own_hw hw 44 rfl) (own_hw hw 101 rfl) (rm_uck32 l Z a0 hw [] G1 G3 c0 c1 c2 t1 k1 h0 n0 O0 hst V1) (by decide) e0 (Ls := #[.val (.ref t1), .val (.int (2 : Int32))]) [(.int (2 : Int32)), (.ref t1)] [] rfl (by rw [hml]; rfl) (lenOf own_pd3 rfl) (hb hby own_d22_2) (by decide) 0 rfl (by decide) (by decide) (by decide)
  obtain ⟨rfl, Nq101, e101⟩ := hQ101
  have N101 := Fr.app N0 Nq101
  refine st101 _ ?_
  show own_Ok p e below _ (T101.setTop (mkF m 5 #[.val (.ref t1), .val (.int (2 : Int32))] []))
  refine s_aloadN X101 hx (hb hby own_d22_5) rfl rfl ?_
  refine s_iloadN X101 hx (hb hby own_d22_6) rfl ?_
  obtain ⟨_, T102, Lc102, X102, hQ102, st102⟩ := own_callS X101 hx hZ hown (own_hw hw 93 rfl) (own_hw hw 94 rfl) (own_hw hw 44 rfl) (own_hw hw 95 rfl) (rm_gch32 l Z a0 hw [] G1 G3 c0 c1 c2 t1 k1 h0 n0 O0 hst r0 r1 r2 V1) (by decide) e101 (Ls := #[.val (.ref t1), .val (.int (2 : Int32))]) [(.ref t1), (.int (2 : Int32))] [] rfl (by rw [hml]; rfl) (lenOf own_pd4 rfl) (hb hby own_d22_7) (by decide) 0 rfl (by decide) (by decide) (by decide)
  obtain ⟨rfl, Nq102, e102⟩ := hQ102
  have N102 := Fr.app N101 Nq102
  refine st102 _ ?_
  show own_Ok p e below _ (T102.setTop (mkF m 10 #[.val (.ref t1), .val (.int (2 : Int32))] [(.int c2)]))
  exact own_retN X102 hx hlk (t := .char) Bd.returns (by simp) (hb hby own_d22_10) (by rw [e102]; exact ⟨by rw [own_narc r2.1 r2.2], N102, rfl⟩) (by decide) (by decide)
theorem own_ef_rm_sch32 (m : MethodId) (a1 : Addr) : entryFrame m #[(.ref a1), (.int (2 : Int32))] 2 = mkF m 0 #[.val (.ref a1), .val (.int (2 : Int32))] [] := by first | (simp [entryFrame, mkF, argsToLocals, Value.category]; done) | rfl
def Q_rm_sch32 (Z : State) (G1 : Int32) (G3 : Value) (c0 : Int32) (c1 : Int32) (c2 : Int32) (a1 : Addr) (t1 : Addr) (k1 : ClassId) (h0 : Heap) (n0 : Nat) (v : Option Value) (h : Heap) (L : List Loc) : Prop := v = some (.int c2) ∧ Fr n0 L ∧ h = h0
set_option maxRecDepth 65536 in
set_option maxHeartbeats 40000000 in
theorem rm_sch32 (l : Launch) (Z : State) (a0 : Array Value) (hw : ∀ d ∈ tables_1, d.before a0 Z = true) (ws : List Jvm.Cond) (G1 : Int32) (G3 : Value) (c0 : Int32) (c1 : Int32) (c2 : Int32) (a1 : Addr) (t1 : Addr) (k1 : ClassId) (h0 : Heap) (n0 : Nat) (O0 : Old Z n0 h0) (hst : own_St Z G1 G3) (r0 : ¬ c0 < 0 ∧ ¬ (65535 : Int32) < c0) (r1 : ¬ c1 < 0 ∧ ¬ (65535 : Int32) < c1) (r2 : ¬ c2 < 0 ∧ ¬ (65535 : Int32) < c2) (E1 : Exa Z h0 a1 "java/lang/String") (F1 : Fld Z h0 a1 "java/lang/String" "coder" "B" (.int (1 : Int32))) (F2 : Fld Z h0 a1 "java/lang/String" "value" "[B" (.ref t1)) (V1 : Arv Z h0 t1 k1 .byte (6 : Int32) [(.int (StrChars.lo8 c0)), (.int (StrChars.hi8 c0)), (.int (StrChars.lo8 c1)), (.int (StrChars.hi8 c1)), (.int (StrChars.lo8 c2)), (.int (StrChars.hi8 c2))] (.int (0 : Int32))) :
    own_Met l Z (⟨"java/lang/String", "charAt", "(I)C"⟩ : MethodName) jdk_42_method_56_code 2 (some .char) ws ({ frames := 4, cells := 0, slots := 0, locals := 53 } : Room) #[(.ref a1), (.int (2 : Int32))] h0 (Q_rm_sch32 Z G1 G3 c0 c1 c2 a1 t1 k1 h0 n0) := by
  refine MetFree.of_bodySF (plainFor_of_name own_pn2) hisR ?_
  intro p e s m args below meth c s₁ Bd hml0 hP hK
  obtain ⟨rfl, hZ, hh⟩ := hP
  have hx := Bd.exec
  have hby := Bd.bytes
  have hml : c.maxLocals = 2 := hml0
  have hown : s.vm.findClass "java/lang/String" = some m.cls := findClass_of_methodNamed Bd.named
  have hnm := (name_of_methodNamed Bd.named Bd.method).1
  have hlk : meth.locks = false := Bd.notSynchronized
  have X0 : Stand p l e ({ frames := 4, cells := 0, slots := 0, locals := 53 } : Room) s m #[(.ref a1), (.int (2 : Int32))] below meth c s₁ [] 0 0 := Stand.of_body Bd
  have e0 : s₁.heap = h0 := by rw [← hh, Bd.state]; rfl
  have N0 := Fr.nil n0
  suffices hgo : own_Ok p e below (own_Qx s (Q_rm_sch32 Z G1 G3 c0 c1 c2 a1 t1 k1 h0 n0) 0 0) (s₁.setTop (mkF m 0 #[.val (.ref a1), .val (.int (2 : Int32))] [])) from by
    obtain ⟨s₂, o, h1, h2⟩ := hgo
    exact ⟨s₂, o, castTop (own_ef_rm_sch32 m a1) h1, h2⟩
  have hst' := hst
  obtain ⟨SG1, PG1, SG3, rG3, SAD, SHI, SLO⟩ := hst'
  show own_Ok p e below _ (s₁.setTop (mkF m 0 #[.val (.ref a1), .val (.int (2 : Int32))] []))
  refine s_aloadN X0 hx (hb hby own_d12_0) rfl rfl ?_
  obtain ⟨_, T101, Lc101, X101, hQ101, st101⟩ := own_callV X0 hx hZ hown (own_hw hw 60 rfl) (own_hw hw 61 rfl) (own_hw hw 63 rfl) (own_hw hw 63 rfl) (own_hw hw 62 rfl) (own_hw hw 7 rfl) (own_hw hw 64 rfl) (rm_isl l Z a0 hw [] G1 G3 a1 h0 n0 O0 hst F1) (by decide) e0 E1 (Ls := #[.val (.ref a1), .val (.int (2 : Int32))]) [] [] rfl (by rw [hml]; rfl) (lenOf own_pd5 rfl) (hb hby own_d12_1) (by decide) 0 rfl (by decide) (by decide) (by decide)
  obtain ⟨rfl, Nq101, e101⟩ := hQ101
  have N101 := Fr.app N0 Nq101
  refine st101 _ ?_
  show own_Ok p e below _ (T101.setTop (mkF m 4 #[.val (.ref a1), .val (.int (2 : Int32))] [(.int (0 : Int32))]))
  refine s_ifYes X101 hx 16 (hb hby own_d12_4) (XT.i0_eq_t (by decide)) (by decide) (by decide) ?_
  refine s_aloadN X101 hx (hb hby own_d12_16) rfl rfl ?_
  obtain ⟨T102, X102, e102, st102⟩ := getF X101 hx hZ hown (host := "") (Or.inl (own_hw hw 25 rfl)) Via.refl e101 F2 (g := (mkF m 17 #[.val (.ref a1), .val (.int (2 : Int32))] [(.ref a1)])) rfl rfl (hb hby own_d12_17)
  refine own_st st102 ?_
  show own_Ok p e below _ (T102.setTop (mkF m 20 #[.val (.ref a1), .val (.int (2 : Int32))] [(.ref t1)]))
  refine s_iloadN X102 hx (hb hby own_d12_20) rfl ?_
  obtain ⟨_, T103, Lc103, X103, hQ103, st103⟩ := own_callS X102 hx hZ hown (own_hw hw 96 rfl) (own_hw hw 97 rfl) (own_hw hw 44 rfl) (own_hw hw 98 rfl) (rm_uch32 l Z a0 hw [] G1 G3 c0 c1 c2 t1 k1 h0 n0 O0 hst r0 r1 r2 V1) (by decide) e102 (Ls := #[.val (.ref a1), .val (.int (2 : Int32))]) [(.ref t1), (.int (2 : Int32))] [] rfl (by rw [hml]; rfl) (lenOf own_pd4 rfl) (hb hby own_d12_21) (by decide) 0 rfl (by decide) (by decide) (by decide)
  obtain ⟨rfl, Nq103, e103⟩ := hQ103
  have N103 := Fr.app N101 Nq103
  refine st103 _ ?_
  show own_Ok p e below _ (T103.setTop (mkF m 24 #[.val (.ref a1), .val (.int (2 : Int32))] [(.int c2)]))
  exact own_retN X103 hx hlk (t := .char) Bd.returns (by simp) (hb hby own_d12_24) (by rw [e103]; exact ⟨by rw [own_narc r2.1 r2.2], N103, rfl⟩) (by decide) (by decide)
theorem own_ef_rm_pch32 (m : MethodId) (t1 : Addr) (cz : Int32) : entryFrame m #[(.ref t1), (.int (2 : Int32)), (.int cz)] 3 = mkF m 0 #[.val (.ref t1), .val (.int (2 : Int32)), .val (.int cz)] [] := by first | (simp [entryFrame, mkF, argsToLocals, Value.category]; done) | rfl
def Q_rm_pch32 (Z : State) (G1 : Int32) (G3 : Value) (t1 : Addr) (k1 : ClassId) (cz : Int32) (v0 : Value) (v1 : Value) (v2 : Value) (v3 : Value) (v4 : Value) (v5 : Value) (h0 : Heap) (n0 : Nat) (v : Option Value) (h : Heap) (L : List Loc) : Prop := v = none ∧ Fr n0 L ∧ Keep h0 h [t1] ∧ Arv Z h t1 k1 .byte (6 : Int32) [v0, v1, v2, v3, (.int (StrChars.lo8 cz)), (.int (StrChars.hi8 cz))] (.int (0 : Int32))
set_option maxRecDepth 65536 in
set_option maxHeartbeats 40000000 in
theorem rm_pch32 (l : Launch) (Z : State) (a0 : Array Value) (hw : ∀ d ∈ tables_1, d.before a0 Z = true) (ws : List Jvm.Cond) (G1 : Int32) (G3 : Value) (t1 : Addr) (k1 : ClassId) (cz : Int32) (v0 : Value) (v1 : Value) (v2 : Value) (v3 : Value) (v4 : Value) (v5 : Value) (h0 : Heap) (n0 : Nat) (O0 : Old Z n0 h0) (hst : own_St Z G1 G3) (V1 : Arv Z h0 t1 k1 .byte (6 : Int32) [v0, v1, v2, v3, v4, v5] (.int (0 : Int32))) (g1 : n0 ≤ t1) :
    own_Met l Z (⟨"java/lang/StringUTF16", "putChar", "([BII)V"⟩ : MethodName) jdk_52_method_4_code 3 none ws ({ frames := 0, cells := 0, slots := 0, locals := 0 } : Room) #[(.ref t1), (.int (2 : Int32)), (.int cz)] h0 (Q_rm_pch32 Z G1 G3 t1 k1 cz v0 v1 v2 v3 v4 v5 h0 n0) := by
  refine MetFree.of_bodySF (plainFor_of_name own_pn3) hisR ?_
  intro p e s m args below meth c s₁ Bd hml0 hP hK
  obtain ⟨rfl, hZ, hh⟩ := hP
  have hx := Bd.exec
  have hby := Bd.bytes
  have hml : c.maxLocals = 3 := hml0
  have hown : s.vm.findClass "java/lang/StringUTF16" = some m.cls := findClass_of_methodNamed Bd.named
  have hnm := (name_of_methodNamed Bd.named Bd.method).1
  have hlk : meth.locks = false := Bd.notSynchronized
  have X0 : Stand p l e ({ frames := 0, cells := 0, slots := 0, locals := 0 } : Room) s m #[(.ref t1), (.int (2 : Int32)), (.int cz)] below meth c s₁ [] 0 0 := Stand.of_body Bd
  have e0 : s₁.heap = h0 := by rw [← hh, Bd.state]; rfl
  have N0 := Fr.nil n0
  suffices hgo : own_Ok p e below (own_Qx s (Q_rm_pch32 Z G1 G3 t1 k1 cz v0 v1 v2 v3 v4 v5 h0 n0) 0 0) (s₁.setTop (mkF m 0 #[.val (.ref t1), .val (.int (2 : Int32)), .val (.int cz)] [])) from by
    obtain ⟨s₂, o, h1, h2⟩ := hgo
    exact ⟨s₂, o, castTop (own_ef_rm_pch32 m t1 cz) h1, h2⟩
  have hst' := hst
  obtain ⟨SG1, PG1, SG3, rG3, SAD, SHI, SLO⟩ := hst'
  show own_Ok p e below _ (s₁.setTop (mkF m 0 #[.val (.ref t1), .val (.int (2 : Int32)), .val (.int cz)] []))
  obtain ⟨T101, X101, e101, st101⟩ := getS2 X0 hx hZ hown (host := "") (Or.inl (own_hw hw 90 rfl)) Via.refl e0 (SAD.ext O0.2) (g := (mkF m 0 #[.val (.ref t1), .val (.int (2 : Int32)), .val (.int cz)] [])) rfl (hb hby own_d20_0)
  refine own_st st101 ?_
  show own_Ok p e below _ (T101.setTop (mkF m 3 #[.val (.ref t1), .val (.int (2 : Int32)), .val (.int cz)] [(.int (1 : Int32))]))
  refine s_ifYes X101 hx 28 (hb hby own_d20_3) (XT.i0_ne_t (by decide)) (by decide) (by decide) ?_
  refine s_iloadN X101 hx (hb hby own_d20_28) rfl ?_
  refine s_iconst X101 hx (1 : Int32) (hb hby own_d20_29) rfl ?_
  refine s_ishl X101 hx (hb hby own_d20_30) ?_
  show own_Ok p e below _ (T101.setTop (mkF m 31 #[.val (.ref t1), .val (.int (2 : Int32)), .val (.int cz)] [(.int (4 : Int32))]))
  refine s_istoreN X101 hx (hb hby own_d20_31) #[.val (.ref t1), .val (.int (4 : Int32)), .val (.int cz)] rfl ?_
  refine s_aloadN X101 hx (hb hby own_d20_32) rfl rfl ?_
  refine s_iloadN X101 hx (hb hby own_d20_33) rfl ?_
  refine s_iinc X101 hx (1 : Int32) (hb hby own_d20_34) rfl rfl #[.val (.ref t1), .val (.int (5 : Int32)), .val (.int cz)] rfl ?_
  show own_Ok p e below _ (T101.setTop (mkF m 37 #[.val (.ref t1), .val (.int (5 : Int32)), .val (.int cz)] [(.int (4 : Int32)), (.ref t1)]))
  refine s_iloadN X101 hx (hb hby own_d20_37) rfl ?_
  obtain ⟨T102, X102, e102, st102⟩ := getS2 X101 hx hZ hown (host := "") (Or.inl (own_hw hw 91 rfl)) Via.refl e101 (SHI.ext O0.2) (g := (mkF m 38 #[.val (.ref t1), .val (.int (5 : Int32)), .val (.int cz)] [(.int cz), (.int (4 : Int32)), (.ref t1)])) rfl (hb hby own_d20_38)
  refine own_st st102 ?_
  show own_Ok p e below _ (T102.setTop (mkF m 41 #[.val (.ref t1), .val (.int (5 : Int32)), .val (.int cz)] [(.int (0 : Int32)), (.int cz), (.int (4 : Int32)), (.ref t1)]))
  refine s_ishr X102 hx (hb hby own_d20_41) ?_
  refine s_i2b X102 hx (hb hby own_d20_42) ?_
  obtain ⟨T103, h103, X103, e103, W103, V103, st103⟩ := own_stB X102 hx hZ e102 V1 4 rfl (by decide) (by decide) (Nat.le_of_ble_eq_true rfl) (g := (mkF m 43 #[.val (.ref t1), .val (.int (5 : Int32)), .val (.int cz)] [(.int ((cz >>> ((0 : Int32) &&& 31)).toInt8.toInt32)), (.int (4 : Int32)), (.ref t1)])) rfl rfl (hb hby own_d20_43)
  refine own_st st103 ?_
  have V103' : Arv Z h103 t1 k1 .byte (6 : Int32) [v0, v1, v2, v3, (.int (nar .byte ((cz >>> ((0 : Int32) &&& 31)).toInt8.toInt32))), v5] (.int (0 : Int32)) := V103
  have N103 := Fr.snoc X103 N0 g1
  show own_Ok p e below _ (T103.setTop (mkF m 44 #[.val (.ref t1), .val (.int (5 : Int32)), .val (.int cz)] []))
  refine s_aloadN X103 hx (hb hby own_d20_44) rfl rfl ?_
  refine s_iloadN X103 hx (hb hby own_d20_45) rfl ?_
  refine s_iloadN X103 hx (hb hby own_d20_46) rfl ?_
  have f105 := O0.wr W103 g1
  obtain ⟨T104, X104, e104, st104⟩ := getS2 X103 hx hZ hown (host := "") (Or.inl (own_hw hw 92 rfl)) Via.refl e103 (SLO.ext f105.2) (g := (mkF m 47 #[.val (.ref t1), .val (.int (5 : Int32)), .val (.int cz)] [(.int cz), (.int (5 : Int32)), (.ref t1)])) rfl (hb hby own_d20_47)
  refine own_st st104 ?_
  show own_Ok p e below _ (T104.setTop (mkF m 50 #[.val (.ref t1), .val (.int (5 : Int32)), .val (.int cz)] [(.int (8 : Int32)), (.int cz), (.int (5 : Int32)), (.ref t1)]))
  refine s_ishr X104 hx (hb hby own_d20_50) ?_
  refine s_i2b X104 hx (hb hby own_d20_51) ?_
  obtain ⟨T106, h106, X106, e106, W106, V106, st106⟩ := own_stB X104 hx hZ e104 V103' 5 rfl (by decide) (by decide) (Nat.le_of_ble_eq_true rfl) (g := (mkF m 52 #[.val (.ref t1), .val (.int (5 : Int32)), .val (.int cz)] [(.int ((cz >>> ((8 : Int32) &&& 31)).toInt8.toInt32)), (.int (5 : Int32)), (.ref t1)])) rfl rfl (hb hby own_d20_52)
  refine own_st st106 ?_
  have V106' : Arv Z h106 t1 k1 .byte (6 : Int32) [v0, v1, v2, v3, (.int (nar .byte ((cz >>> ((0 : Int32) &&& 31)).toInt8.toInt32))), (.int (nar .byte ((cz >>> ((8 : Int32) &&& 31)).toInt8.toInt32)))] (.int (0 : Int32)) := V106
  have N106 := Fr.snoc X106 N103 g1
  show own_Ok p e below _ (T106.setTop (mkF m 53 #[.val (.ref t1), .val (.int (5 : Int32)), .val (.int cz)] []))
  have Vn : Arv Z h106 t1 k1 .byte (6 : Int32) [v0, v1, v2, v3, (.int (StrChars.lo8 cz)), (.int (StrChars.hi8 cz))] (.int (0 : Int32)) := by rw [← own_plo cz, ← own_phi cz]; exact V106'
  have f107 := (Keep.refl h0 [t1]).wr W103 (Or.inl (by simp))
  have f108 := f107.wr W106 (Or.inl (by simp))
  exact own_retV X106 hx hlk Bd.returns (hb hby own_d20_53) (by rw [e106]; exact ⟨rfl, N106, f108, Vn⟩) (by decide) (by decide)
theorem own_ef_rm_nbf3 (m : MethodId) : entryFrame m #[(.int (3 : Int32))] 1 = mkF m 0 #[.val (.int (3 : Int32))] [] := by first | (simp [entryFrame, mkF, argsToLocals, Value.category]; done) | rfl
def Q_rm_nbf3 (Z : State) (h0 : Heap) (n0 : Nat) (v : Option Value) (h : Heap) (L : List Loc) : Prop := ∃ (tb : Addr), ∃ (kb : ClassId), v = some (.ref tb) ∧ Fr n0 L ∧ Keep h0 h [] ∧ Arv Z h tb kb .byte (6 : Int32) [(.int (0 : Int32)), (.int (0 : Int32)), (.int (0 : Int32)), (.int (0 : Int32)), (.int (0 : Int32)), (.int (0 : Int32))] (.int (0 : Int32)) ∧ h0.size ≤ tb
set_option maxRecDepth 65536 in
set_option maxHeartbeats 40000000 in
theorem rm_nbf3 (l : Launch) (Z : State) (a0 : Array Value) (hw : ∀ d ∈ tables_1, d.before a0 Z = true) (ws : List Jvm.Cond) (h0 : Heap) (n0 : Nat) (O0 : Old Z n0 h0) :
    own_Met l Z (⟨"java/lang/StringUTF16", "newBytesFor", "(I)[B"⟩ : MethodName) jdk_52_method_2_code 1 (some (.array .byte)) ws ({ frames := 1, cells := 1, slots := 6, locals := 12 } : Room) #[(.int (3 : Int32))] h0 (Q_rm_nbf3 Z h0 n0) := by
  refine MetFree.of_bodySF (plainFor_of_name own_pn3) hisR ?_
  intro p e s m args below meth c s₁ Bd hml0 hP hK
  obtain ⟨rfl, hZ, hh⟩ := hP
  have hx := Bd.exec
  have hby := Bd.bytes
  have hml : c.maxLocals = 1 := hml0
  have hown : s.vm.findClass "java/lang/StringUTF16" = some m.cls := findClass_of_methodNamed Bd.named
  have hnm := (name_of_methodNamed Bd.named Bd.method).1
  have hlk : meth.locks = false := Bd.notSynchronized
  have X0 : Stand p l e ({ frames := 1, cells := 1, slots := 6, locals := 12 } : Room) s m #[(.int (3 : Int32))] below meth c s₁ [] 0 0 := Stand.of_body Bd
  have e0 : s₁.heap = h0 := by rw [← hh, Bd.state]; rfl
  have N0 := Fr.nil n0
  suffices hgo : own_Ok p e below (own_Qx s (Q_rm_nbf3 Z h0 n0) 1 6) (s₁.setTop (mkF m 0 #[.val (.int (3 : Int32))] [])) from by
    obtain ⟨s₂, o, h1, h2⟩ := hgo
    exact ⟨s₂, o, castTop (own_ef_rm_nbf3 m) h1, h2⟩
  show own_Ok p e below _ (s₁.setTop (mkF m 0 #[.val (.int (3 : Int32))] []))
  refine s_iloadN X0 hx (hb hby own_d18_0) rfl ?_
  obtain ⟨_, T101, Lc101, X101, hQ101, st101⟩ := own_callS X0 hx hZ hown (own_hw hw 83 rfl) (own_hw hw 84 rfl) (own_hw hw 44 rfl) (own_hw hw 85 rfl) (rm_nbl l Z a0 hw [] ((3 : Int32)) h0 n0 O0 (by decide) (by decide)) (by decide) e0 (Ls := #[.val (.int (3 : Int32))]) [(.int (3 : Int32))] [] rfl (by rw [hml]; rfl) (lenOf own_pd6 rfl) (hb hby own_d18_1) (by decide) 0 rfl (by decide) (by decide) (by decide)
  obtain ⟨rfl, Nq101, e101⟩ := hQ101
  have N101 := Fr.app N0 Nq101
  refine st101 _ ?_
  show own_Ok p e below _ (T101.setTop (mkF m 4 #[.val (.int (3 : Int32))] [(.int ((3 : Int32) <<< ((1 : Int32) &&& 31)))]))
  rw [show ((3 : Int32) <<< ((1 : Int32) &&& 31)) = (6 : Int32) from by decide]
  show own_Ok p e below _ (T101.setTop (mkF m 4 #[.val (.int (3 : Int32))] [(.int (6 : Int32))]))
  show own_Ok p e below _ (T101.setTop (mkF m 4 #[.val (.int (3 : Int32))] [(.int (6 : Int32))]))
  obtain ⟨T102, h102, k102, X102, e102, E102, A102, st102⟩ := newP X101 hx hZ (own_hw hw 20 rfl) e101 (g := (mkF m 4 #[.val (.int (3 : Int32))] [(.int (6 : Int32))])) rfl (hb hby own_d18_4) rfl (by decide) (cap := 6) (by decide) (by decide) (by decide) (by decide)
  obtain ⟨b102, g102⟩ : ∃ z, z = h0.size := ⟨_, rfl⟩
  rw [← g102] at A102 st102
  refine own_st st102 ?_
  have gb_b102 : n0 ≤ b102 := Nat.le_trans (own_n0 O0) (Nat.le_of_eq g102.symm)
  have gz_b102 : h0.size ≤ b102 := Nat.le_trans (Keep.refl h0 []).1 (Nat.le_of_eq g102.symm)
  have V102 : Arv Z h102 b102 k102 .byte (6 : Int32) [(.int (0 : Int32)), (.int (0 : Int32)), (.int (0 : Int32)), (.int (0 : Int32)), (.int (0 : Int32)), (.int (0 : Int32))] (.int (0 : Int32)) := (Arv.new A102 (by decide)).pad (pad_rep [] (.int (0 : Int32)) 6)
  show own_Ok p e below _ (T102.setTop (mkF m 6 #[.val (.int (3 : Int32))] [(.ref b102)]))
  have f103 := (Keep.refl h0 []).ext E102
  exact own_retA X102 hx hlk (t := (.array .byte)) rfl Bd.returns rfl (hb hby own_d18_6) (by rw [e102]; exact ⟨b102, k102, rfl, N101, f103, V102, gz_b102⟩) (by decide) (by decide)
theorem own_ef_rm_tob3 (m : MethodId) (ch : Addr) : entryFrame m #[(.ref ch), (.int (0 : Int32)), (.int (3 : Int32))] 5 = mkF m 0 #[.val (.ref ch), .val (.int (0 : Int32)), .val (.int (3 : Int32)), .unset, .unset] [] := by first | (simp [entryFrame, mkF, argsToLocals, Value.category]; done) | rfl
def Q_rm_tob3 (Z : State) (G1 : Int32) (G3 : Value) (c0 : Int32) (c1 : Int32) (c2 : Int32) (ch : Addr) (kc : ClassId) (h0 : Heap) (n0 : Nat) (v : Option Value) (h : Heap) (L : List Loc) : Prop := ∃ (tb : Addr), ∃ (kb : ClassId), v = some (.ref tb) ∧ Fr n0 L ∧ Keep h0 h [] ∧ Arv Z h tb kb .byte (6 : Int32) [(.int (StrChars.lo8 c0)), (.int (StrChars.hi8 c0)), (.int (StrChars.lo8 c1)), (.int (StrChars.hi8 c1)), (.int (StrChars.lo8 c2)), (.int (StrChars.hi8 c2))] (.int (0 : Int32)) ∧ h0.size ≤ tb
set_option maxRecDepth 65536 in
set_option maxHeartbeats 40000000 in
theorem rm_tob3 (l : Launch) (Z : State) (a0 : Array Value) (hw : ∀ d ∈ tables_1, d.before a0 Z = true) (ws : List Jvm.Cond) (G1 : Int32) (G3 : Value) (c0 : Int32) (c1 : Int32) (c2 : Int32) (ch : Addr) (kc : ClassId) (h0 : Heap) (n0 : Nat) (O0 : Old Z n0 h0) (hst : own_St Z G1 G3) (VC : Arv Z h0 ch kc .char (3 : Int32) [(.int c0), (.int c1), (.int c2)] (.int (0 : Int32))) :
    own_Met l Z (⟨"java/lang/StringUTF16", "toBytes", "([CII)[B"⟩ : MethodName) jdk_52_method_14_code 5 (some (.array .byte)) ws ({ frames := 2, cells := 1, slots := 6, locals := 24 } : Room) #[(.ref ch), (.int (0 : Int32)), (.int (3 : Int32))] h0 (Q_rm_tob3 Z G1 G3 c0 c1 c2 ch kc h0 n0) := by
  refine MetFree.of_bodySF (plainFor_of_name own_pn3) hisR ?_
  intro p e s m args below meth c s₁ Bd hml0 hP hK
  obtain ⟨rfl, hZ, hh⟩ := hP
  have hx := Bd.exec
  have hby := Bd.bytes
  have hml : c.maxLocals = 5 := hml0
  have hown : s.vm.findClass "java/lang/StringUTF16" = some m.cls := findClass_of_methodNamed Bd.named
  have hnm := (name_of_methodNamed Bd.named Bd.method).1
  have hlk : meth.locks = false := Bd.notSynchronized
  have X0 : Stand p l e ({ frames := 2, cells := 1, slots := 6, locals := 24 } : Room) s m #[(.ref ch), (.int (0 : Int32)), (.int (3 : Int32))] below meth c s₁ [] 0 0 := Stand.of_body Bd
  have e0 : s₁.heap = h0 := by rw [← hh, Bd.state]; rfl
  have N0 := Fr.nil n0
  suffices hgo : own_Ok p e below (own_Qx s (Q_rm_tob3 Z G1 G3 c0 c1 c2 ch kc h0 n0) 1 6) (s₁.setTop (mkF m 0 #[.val (.ref ch), .val (.int (0 : Int32)), .val (.int (3 : Int32)), .unset, .unset] [])) from by
    obtain ⟨s₂, o, h1, h2⟩ := hgo
    exact ⟨s₂, o, castTop (own_ef_rm_tob3 m ch) h1, h2⟩
  have hst' := hst
  obtain ⟨SG1, PG1, SG3, rG3, SAD, SHI, SLO⟩ := hst'
  show own_Ok p e below _ (s₁.setTop (mkF m 0 #[.val (.ref ch), .val (.int (0 : Int32)), .val (.int (3 : Int32)), .unset, .unset] []))
  refine s_iloadN X0 hx (hb hby own_d17_0) rfl ?_
  obtain ⟨_, T101, Lc101, X101, hQ101, st101⟩ := own_callS X0 hx hZ hown (own_hw hw 80 rfl) (own_hw hw 81 rfl) (own_hw hw 44 rfl) (own_hw hw 82 rfl) (rm_nbf3 l Z a0 hw [] h0 n0 O0) (by decide) e0 (Ls := #[.val (.ref ch), .val (.int (0 : Int32)), .val (.int (3 : Int32)), .unset, .unset]) [(.int (3 : Int32))] [] rfl (by rw [hml]; rfl) (lenOf own_pd7 rfl) (hb hby own_d17_1) (by decide) 0 rfl (by decide) (by decide) (by decide)
  obtain ⟨tb_101, kb_101, rfl, Nq101, K101, g101_0, gs_tb_101⟩ := hQ101
  have N101 := Fr.app N0 Nq101
  refine st101 _ ?_
  have gb_tb_101 : n0 ≤ tb_101 := Nat.le_trans (own_n0 O0) gs_tb_101
  have gz_tb_101 : h0.size ≤ tb_101 := Nat.le_trans (Keep.refl h0 []).1 gs_tb_101
  have ne_ch_tb_101 : ch ≠ tb_101 := Nat.ne_of_lt (Nat.lt_of_lt_of_le VC.lt gs_tb_101)
  have e101 : T101.heap = T101.heap := rfl
  show own_Ok p e below _ (T101.setTop (mkF m 4 #[.val (.ref ch), .val (.int (0 : Int32)), .val (.int (3 : Int32)), .unset, .unset] [(.ref tb_101)]))
  refine s_astoreN X101 hx (hb hby own_d17_4) rfl #[.val (.ref ch), .val (.int (0 : Int32)), .val (.int (3 : Int32)), .val (.ref tb_101), .unset] rfl ?_
  refine s_iconst X101 hx (0 : Int32) (hb hby own_d17_5) rfl ?_
  refine s_istore X101 hx (hb hby own_d17_6) #[.val (.ref ch), .val (.int (0 : Int32)), .val (.int (3 : Int32)), .val (.ref tb_101), .val (.int (0 : Int32))] rfl ?_
  refine s_iload X101 hx (hb hby own_d17_8) rfl ?_
  refine s_iloadN X101 hx (hb hby own_d17_10) rfl ?_
  refine s_icmpNo X101 hx (hb hby own_d17_11) (XT.ii_ge_f (by decide)) ?_
  refine s_aloadN X101 hx (hb hby own_d17_14) rfl rfl ?_
  refine s_iload X101 hx (hb hby own_d17_15) rfl ?_
  refine s_aloadN X101 hx (hb hby own_d17_17) rfl rfl ?_
  refine s_iloadN X101 hx (hb hby own_d17_18) rfl ?_
  have f102 := VC.keep K101 nin0
  refine own_st (own_ldC X101 hx hZ e101 f102 (by decide) (by decide) (v := c0) rfl (g := (mkF m 19 #[.val (.ref ch), .val (.int (0 : Int32)), .val (.int (3 : Int32)), .val (.ref tb_101), .val (.int (0 : Int32))] [(.int (0 : Int32)), (.ref ch), (.int (0 : Int32)), (.ref tb_101)])) rfl rfl (hb hby own_d17_19)) ?_
  show own_Ok p e below _ (T101.setTop (mkF m 20 #[.val (.ref ch), .val (.int (0 : Int32)), .val (.int (3 : Int32)), .val (.ref tb_101), .val (.int (0 : Int32))] [(.int c0), (.int (0 : Int32)), (.ref tb_101)]))
  have f104 := O0.keep K101 all0
  obtain ⟨_, T103, Lc103, X103, hQ103, st103⟩ := own_callS X101 hx hZ hown (own_hw hw 87 rfl) (own_hw hw 88 rfl) (own_hw hw 44 rfl) (own_hw hw 89 rfl) (rm_pch30 l Z a0 hw [] G1 G3 tb_101 kb_101 c0 ((.int (0 : Int32))) ((.int (0 : Int32))) ((.int (0 : Int32))) ((.int (0 : Int32))) ((.int (0 : Int32))) ((.int (0 : Int32))) T101.heap n0 f104 hst g101_0 gb_tb_101) (by decide) e101 (Ls := #[.val (.ref ch), .val (.int (0 : Int32)), .val (.int (3 : Int32)), .val (.ref tb_101), .val (.int (0 : Int32))]) [(.ref tb_101), (.int (0 : Int32)), (.int c0)] [] rfl (by rw [hml]; rfl) (lenOf own_pd8 rfl) (hb hby own_d17_20) (by decide) 0 rfl (by decide) (by decide) (by decide)
  obtain ⟨rfl, Nq103, K103, g103_0⟩ := hQ103
  have N103 := Fr.app N101 Nq103
  refine st103 _ ?_
  have e103 : T103.heap = T103.heap := rfl
  show own_Ok p e below _ (T103.setTop (mkF m 23 #[.val (.ref ch), .val (.int (0 : Int32)), .val (.int (3 : Int32)), .val (.ref tb_101), .val (.int (0 : Int32))] []))
  refine s_iinc X103 hx (1 : Int32) (hb hby own_d17_23) rfl rfl #[.val (.ref ch), .val (.int (1 : Int32)), .val (.int (3 : Int32)), .val (.ref tb_101), .val (.int (0 : Int32))] rfl ?_
  refine s_iinc X103 hx (1 : Int32) (hb hby own_d17_26) rfl rfl #[.val (.ref ch), .val (.int (1 : Int32)), .val (.int (3 : Int32)), .val (.ref tb_101), .val (.int (1 : Int32))] rfl ?_
  refine s_goto X103 hx 8 (hb hby own_d17_29) (by decide) (by decide) ?_
  refine s_iload X103 hx (hb hby own_d17_8) rfl ?_
  refine s_iloadN X103 hx (hb hby own_d17_10) rfl ?_
  refine s_icmpNo X103 hx (hb hby own_d17_11) (XT.ii_ge_f (by decide)) ?_
  refine s_aloadN X103 hx (hb hby own_d17_14) rfl rfl ?_
  refine s_iload X103 hx (hb hby own_d17_15) rfl ?_
  refine s_aloadN X103 hx (hb hby own_d17_17) rfl rfl ?_
  refine s_iloadN X103 hx (hb hby own_d17_18) rfl ?_
  have f105 := f102.keep K103 (ninS ne_ch_tb_101 nin0)
  refine own_st (own_ldC X103 hx hZ e103 f105 (by decide) (by decide) (v := c1) rfl (g := (mkF m 19 #[.val (.ref ch), .val (.int (1 : Int32)), .val (.int (3 : Int32)), .val (.ref tb_101), .val (.int (1 : Int32))] [(.int (1 : Int32)), (.ref ch), (.int (1 : Int32)), (.ref tb_101)])) rfl rfl (hb hby own_d17_19)) ?_
  show own_Ok p e below _ (T103.setTop (mkF m 20 #[.val (.ref ch), .val (.int (1 : Int32)), .val (.int (3 : Int32)), .val (.ref tb_101), .val (.int (1 : Int32))] [(.int c1), (.int (1 : Int32)), (.ref tb_101)]))
  have f107 := f104.keep K103 (allS gb_tb_101 all0)
  obtain ⟨_, T106, Lc106, X106, hQ106, st106⟩ := own_callS X103 hx hZ hown (own_hw hw 87 rfl) (own_hw hw 88 rfl) (own_hw hw 44 rfl) (own_hw hw 89 rfl) (rm_pch31 l Z a0 hw [] G1 G3 tb_101 kb_101 c1 ((.int (StrChars.lo8 c0))) ((.int (StrChars.hi8 c0))) ((.int (0 : Int32))) ((.int (0 : Int32))) ((.int (0 : Int32))) ((.int (0 : Int32))) T103.heap n0 f107 hst g103_0 gb_tb_101) (by decide) e103 (Ls := #[.val (.ref ch), .val (.int (1 : Int32)), .val (.int (3 : Int32)), .val (.ref tb_101), .val (.int (1 : Int32))]) [(.ref tb_101), (.int (1 : Int32)), (.int c1)] [] rfl (by rw [hml]; rfl) (lenOf own_pd8 rfl) (hb hby own_d17_20) (by decide) 0 rfl (by decide) (by decide) (by decide)
  obtain ⟨rfl, Nq106, K106, g106_0⟩ := hQ106
  have N106 := Fr.app N103 Nq106
  refine st106 _ ?_
  have e106 : T106.heap = T106.heap := rfl
  show own_Ok p e below _ (T106.setTop (mkF m 23 #[.val (.ref ch), .val (.int (1 : Int32)), .val (.int (3 : Int32)), .val (.ref tb_101), .val (.int (1 : Int32))] []))
  refine s_iinc X106 hx (1 : Int32) (hb hby own_d17_23) rfl rfl #[.val (.ref ch), .val (.int (2 : Int32)), .val (.int (3 : Int32)), .val (.ref tb_101), .val (.int (1 : Int32))] rfl ?_
  refine s_iinc X106 hx (1 : Int32) (hb hby own_d17_26) rfl rfl #[.val (.ref ch), .val (.int (2 : Int32)), .val (.int (3 : Int32)), .val (.ref tb_101), .val (.int (2 : Int32))] rfl ?_
  refine s_goto X106 hx 8 (hb hby own_d17_29) (by decide) (by decide) ?_
  refine s_iload X106 hx (hb hby own_d17_8) rfl ?_
  refine s_iloadN X106 hx (hb hby own_d17_10) rfl ?_
  refine s_icmpNo X106 hx (hb hby own_d17_11) (XT.ii_ge_f (by decide)) ?_
  refine s_aloadN X106 hx (hb hby own_d17_14) rfl rfl ?_
  refine s_iload X106 hx (hb hby own_d17_15) rfl ?_
  refine s_aloadN X106 hx (hb hby own_d17_17) rfl rfl ?_
  refine s_iloadN X106 hx (hb hby own_d17_18) rfl ?_
  have f108 := f105.keep K106 (ninS ne_ch_tb_101 nin0)
  refine own_st (own_ldC X106 hx hZ e106 f108 (by decide) (by decide) (v := c2) rfl (g := (mkF m 19 #[.val (.ref ch), .val (.int (2 : Int32)), .val (.int (3 : Int32)), .val (.ref tb_101), .val (.int (2 : Int32))] [(.int (2 : Int32)), (.ref ch), (.int (2 : Int32)), (.ref tb_101)])) rfl rfl (hb hby own_d17_19)) ?_
  show own_Ok p e below _ (T106.setTop (mkF m 20 #[.val (.ref ch), .val (.int (2 : Int32)), .val (.int (3 : Int32)), .val (.ref tb_101), .val (.int (2 : Int32))] [(.int c2), (.int (2 : Int32)), (.ref tb_101)]))
  have f110 := f107.keep K106 (allS gb_tb_101 all0)
  obtain ⟨_, T109, Lc109, X109, hQ109, st109⟩ := own_callS X106 hx hZ hown (own_hw hw 87 rfl) (own_hw hw 88 rfl) (own_hw hw 44 rfl) (own_hw hw 89 rfl) (rm_pch32 l Z a0 hw [] G1 G3 tb_101 kb_101 c2 ((.int (StrChars.lo8 c0))) ((.int (StrChars.hi8 c0))) ((.int (StrChars.lo8 c1))) ((.int (StrChars.hi8 c1))) ((.int (0 : Int32))) ((.int (0 : Int32))) T106.heap n0 f110 hst g106_0 gb_tb_101) (by decide) e106 (Ls := #[.val (.ref ch), .val (.int (2 : Int32)), .val (.int (3 : Int32)), .val (.ref tb_101), .val (.int (2 : Int32))]) [(.ref tb_101), (.int (2 : Int32)), (.int c2)] [] rfl (by rw [hml]; rfl) (lenOf own_pd8 rfl) (hb hby own_d17_20) (by decide) 0 rfl (by decide) (by decide) (by decide)
  obtain ⟨rfl, Nq109, K109, g109_0⟩ := hQ109
  have N109 := Fr.app N106 Nq109
  refine st109 _ ?_
  have e109 : T109.heap = T109.heap := rfl
  show own_Ok p e below _ (T109.setTop (mkF m 23 #[.val (.ref ch), .val (.int (2 : Int32)), .val (.int (3 : Int32)), .val (.ref tb_101), .val (.int (2 : Int32))] []))
  refine s_iinc X109 hx (1 : Int32) (hb hby own_d17_23) rfl rfl #[.val (.ref ch), .val (.int (3 : Int32)), .val (.int (3 : Int32)), .val (.ref tb_101), .val (.int (2 : Int32))] rfl ?_
  refine s_iinc X109 hx (1 : Int32) (hb hby own_d17_26) rfl rfl #[.val (.ref ch), .val (.int (3 : Int32)), .val (.int (3 : Int32)), .val (.ref tb_101), .val (.int (3 : Int32))] rfl ?_
  refine s_goto X109 hx 8 (hb hby own_d17_29) (by decide) (by decide) ?_
  refine s_iload X109 hx (hb hby own_d17_8) rfl ?_
  refine s_iloadN X109 hx (hb hby own_d17_10) rfl ?_
  refine s_icmpYes X109 hx 32 (hb hby own_d17_11) (XT.ii_ge_t (by decide)) (by decide) (by decide) ?_
  refine s_aloadN X109 hx (hb hby own_d17_32) rfl rfl ?_
  have f111 := (Keep.refl h0 []).trans K101 all0
  have f112 := f111.trans K103 (allS (Or.inr gz_tb_101) all0)
  have f113 := f112.trans K106 (allS (Or.inr gz_tb_101) all0)
  have f114 := f113.trans K109 (allS (Or.inr gz_tb_101) all0)
  exact own_retA X109 hx hlk (t := (.array .byte)) rfl Bd.returns rfl (hb hby own_d17_33) (by rw [e109]; exact ⟨tb_101, kb_101, rfl, N109, f114, g109_0, gz_tb_101⟩) (by decide) (by decide)
theorem own_ef_rm_cfl3 (m : MethodId) (t1 : Addr) : entryFrame m #[(.ref t1), (.int (3 : Int32))] 2 = mkF m 0 #[.val (.ref t1), .val (.int (3 : Int32))] [] := by first | (simp [entryFrame, mkF, argsToLocals, Value.category]; done) | rfl
def Q_rm_cfl3 (Z : State) (c0 : Int32) (c1 : Int32) (c2 : Int32) (t1 : Addr) (k1 : ClassId) (h0 : Heap) (n0 : Nat) (v : Option Value) (h : Heap) (L : List Loc) : Prop := v = some (.int (1 : Int32)) ∧ Fr n0 L ∧ h = h0
set_option maxRecDepth 65536 in
set_option maxHeartbeats 40000000 in
theorem rm_cfl3 (l : Launch) (Z : State) (a0 : Array Value) (hw : ∀ d ∈ tables_1, d.before a0 Z = true) (ws : List Jvm.Cond) (c0 : Int32) (c1 : Int32) (c2 : Int32) (t1 : Addr) (k1 : ClassId) (h0 : Heap) (n0 : Nat) (O0 : Old Z n0 h0) (V1 : Arv Z h0 t1 k1 .byte (6 : Int32) [(.int (StrChars.lo8 c0)), (.int (StrChars.hi8 c0)), (.int (StrChars.lo8 c1)), (.int (StrChars.hi8 c1)), (.int (StrChars.lo8 c2)), (.int (StrChars.hi8 c2))] (.int (0 : Int32))) :
    own_Met l Z (⟨"java/lang/StringUTF16", "coderFromArrayLen", "([BI)B"⟩ : MethodName) jdk_52_method_15_code 2 (some .byte) ws ({ frames := 0, cells := 0, slots := 0, locals := 0 } : Room) #[(.ref t1), (.int (3 : Int32))] h0 (Q_rm_cfl3 Z c0 c1 c2 t1 k1 h0 n0) := by
  refine MetFree.of_bodySF (plainFor_of_name own_pn3) hisR ?_
  intro p e s m args below meth c s₁ Bd hml0 hP hK
  obtain ⟨rfl, hZ, hh⟩ := hP
  have hx := Bd.exec
  have hby := Bd.bytes
  have hml : c.maxLocals = 2 := hml0
  have hown : s.vm.findClass "java/lang/StringUTF16" = some m.cls := findClass_of_methodNamed Bd.named
  have hnm := (name_of_methodNamed Bd.named Bd.method).1
  have hlk : meth.locks = false := Bd.notSynchronized
  have X0 : Stand p l e ({ frames := 0, cells := 0, slots := 0, locals := 0 } : Room) s m #[(.ref t1), (.int (3 : Int32))] below meth c s₁ [] 0 0 := Stand.of_body Bd
  have e0 : s₁.heap = h0 := by rw [← hh, Bd.state]; rfl
  have N0 := Fr.nil n0
  suffices hgo : own_Ok p e below (own_Qx s (Q_rm_cfl3 Z c0 c1 c2 t1 k1 h0 n0) 0 0) (s₁.setTop (mkF m 0 #[.val (.ref t1), .val (.int (3 : Int32))] [])) from by
    obtain ⟨s₂, o, h1, h2⟩ := hgo
    exact ⟨s₂, o, castTop (own_ef_rm_cfl3 m t1) h1, h2⟩
  show own_Ok p e below _ (s₁.setTop (mkF m 0 #[.val (.ref t1), .val (.int (3 : Int32))] []))
  refine s_iloadN X0 hx (hb hby own_d10_0) rfl ?_
  refine s_aloadN X0 hx (hb hby own_d10_1) rfl rfl ?_
  refine own_st (own_len X0 hx hZ e0 V1 (g := (mkF m 2 #[.val (.ref t1), .val (.int (3 : Int32))] [(.ref t1), (.int (3 : Int32))])) rfl rfl (hb hby own_d10_2)) ?_
  show own_Ok p e below _ (s₁.setTop (mkF m 3 #[.val (.ref t1), .val (.int (3 : Int32))] [(.int (6 : Int32)), (.int (3 : Int32))]))
  refine s_isub X0 hx (hb hby own_d10_3) ?_
  show own_Ok p e below _ (s₁.setTop (mkF m 4 #[.val (.ref t1), .val (.int (3 : Int32))] [(.int (-3 : Int32))]))
  refine s_bipush X0 hx (31 : Int32) (hb hby own_d10_4) rfl ?_
  refine s_iushr X0 hx (hb hby own_d10_6) ?_
  show own_Ok p e below _ (s₁.setTop (mkF m 7 #[.val (.ref t1), .val (.int (3 : Int32))] [(.int (1 : Int32))]))
  refine s_i2b X0 hx (hb hby own_d10_7) ?_
  show own_Ok p e below _ (s₁.setTop (mkF m 8 #[.val (.ref t1), .val (.int (3 : Int32))] [(.int (1 : Int32))]))
  exact own_retN X0 hx hlk (t := .byte) Bd.returns (by simp) (hb hby own_d10_8) (by rw [e0]; exact ⟨rfl, N0, rfl⟩) (by decide) (by decide)
theorem own_ef_rm_cmpa30 (m : MethodId) (ch : Addr) (t1 : Addr) : entryFrame m #[(.ref ch), (.int (0 : Int32)), (.ref t1), (.int (0 : Int32)), (.int (3 : Int32))] 7 = mkF m 0 #[.val (.ref ch), .val (.int (0 : Int32)), .val (.ref t1), .val (.int (0 : Int32)), .val (.int (3 : Int32)), .unset, .unset] [] := by first | (simp [entryFrame, mkF, argsToLocals, Value.category]; done) | rfl
def Q_rm_cmpa30 (Z : State) (c0 : Int32) (c1 : Int32) (c2 : Int32) (ch : Addr) (kc : ClassId) (t1 : Addr) (k1 : ClassId) (h0 : Heap) (n0 : Nat) (v : Option Value) (h : Heap) (L : List Loc) : Prop := v = some (.int (0 : Int32)) ∧ Fr n0 L ∧ Keep h0 h [t1]
set_option maxRecDepth 65536 in
set_option maxHeartbeats 40000000 in
theorem rm_cmpa30 (l : Launch) (Z : State) (a0 : Array Value) (hw : ∀ d ∈ tables_1, d.before a0 Z = true) (ws : List Jvm.Cond) (c0 : Int32) (c1 : Int32) (c2 : Int32) (ch : Addr) (kc : ClassId) (t1 : Addr) (k1 : ClassId) (h0 : Heap) (n0 : Nat) (O0 : Old Z n0 h0) (qf : (255 : Int32) < c0) (VC : Arv Z h0 ch kc .char (3 : Int32) [(.int c0), (.int c1), (.int c2)] (.int (0 : Int32))) (V1 : Arv Z h0 t1 k1 .byte (3 : Int32) [(.int (0 : Int32)), (.int (0 : Int32)), (.int (0 : Int32))] (.int (0 : Int32))) (g1 : n0 ≤ t1) (ne1 : ch ≠ t1) :
    own_Met l Z (⟨"java/lang/StringUTF16", "compress", "([CI[BII)I"⟩ : MethodName) jdk_52_method_21_code 7 (some .int) ws ({ frames := 0, cells := 0, slots := 0, locals := 0 } : Room) #[(.ref ch), (.int (0 : Int32)), (.ref t1), (.int (0 : Int32)), (.int (3 : Int32))] h0 (Q_rm_cmpa30 Z c0 c1 c2 ch kc t1 k1 h0 n0) := by
  refine MetFree.of_bodySF (plainFor_of_name own_pn3) hisR ?_
  intro p e s m args below meth c s₁ Bd hml0 hP hK
  obtain ⟨rfl, hZ, hh⟩ := hP
  have hx := Bd.exec
  have hby := Bd.bytes
  have hml : c.maxLocals = 7 := hml0
  have hown : s.vm.findClass "java/lang/StringUTF16" = some m.cls := findClass_of_methodNamed Bd.named
  have hnm := (name_of_methodNamed Bd.named Bd.method).1
  have hlk : meth.locks = false := Bd.notSynchronized
  have X0 : Stand p l e ({ frames := 0, cells := 0, slots := 0, locals := 0 } : Room) s m #[(.ref ch), (.int (0 : Int32)), (.ref t1), (.int (0 : Int32)), (.int (3 : Int32))] below meth c s₁ [] 0 0 := Stand.of_body Bd
  have e0 : s₁.heap = h0 := by rw [← hh, Bd.state]; rfl
  have N0 := Fr.nil n0
  suffices hgo : own_Ok p e below (own_Qx s (Q_rm_cmpa30 Z c0 c1 c2 ch kc t1 k1 h0 n0) 0 0) (s₁.setTop (mkF m 0 #[.val (.ref ch), .val (.int (0 : Int32)), .val (.ref t1), .val (.int (0 : Int32)), .val (.int (3 : Int32)), .unset, .unset] [])) from by
    obtain ⟨s₂, o, h1, h2⟩ := hgo
    exact ⟨s₂, o, castTop (own_ef_rm_cmpa30 m ch t1) h1, h2⟩
  show own_Ok p e below _ (s₁.setTop (mkF m 0 #[.val (.ref ch), .val (.int (0 : Int32)), .val (.ref t1), .val (.int (0 : Int32)), .val (.int (3 : Int32)), .unset, .unset] []))
  refine s_iconst X0 hx (0 : Int32) (hb hby own_d9_0) rfl ?_
  refine s_istore X0 hx (hb hby own_d9_1) #[.val (.ref ch), .val (.int (0 : Int32)), .val (.ref t1), .val (.int (0 : Int32)), .val (.int (3 : Int32)), .val (.int (0 : Int32)), .unset] rfl ?_
  refine s_iload X0 hx (hb hby own_d9_3) rfl ?_
  refine s_iload X0 hx (hb hby own_d9_5) rfl ?_
  refine s_icmpNo X0 hx (hb hby own_d9_7) (XT.ii_ge_f (by decide)) ?_
  refine s_aloadN X0 hx (hb hby own_d9_10) rfl rfl ?_
  refine s_iloadN X0 hx (hb hby own_d9_11) rfl ?_
  refine own_st (own_ldC X0 hx hZ e0 VC (by decide) (by decide) (v := c0) rfl (g := (mkF m 12 #[.val (.ref ch), .val (.int (0 : Int32)), .val (.ref t1), .val (.int (0 : Int32)), .val (.int (3 : Int32)), .val (.int (0 : Int32)), .unset] [(.int (0 : Int32)), (.ref ch)])) rfl rfl (hb hby own_d9_12)) ?_
  show own_Ok p e below _ (s₁.setTop (mkF m 13 #[.val (.ref ch), .val (.int (0 : Int32)), .val (.ref t1), .val (.int (0 : Int32)), .val (.int (3 : Int32)), .val (.int (0 : Int32)), .unset] [(.int c0)]))
  refine s_istore X0 hx (hb hby own_d9_13) #[.val (.ref ch), .val (.int (0 : Int32)), .val (.ref t1), .val (.int (0 : Int32)), .val (.int (3 : Int32)), .val (.int (0 : Int32)), .val (.int c0)] rfl ?_
  refine s_iload X0 hx (hb hby own_d9_15) rfl ?_
  refine s_sipush X0 hx (255 : Int32) (hb hby own_d9_17) rfl ?_
  refine s_icmpNo X0 hx (hb hby own_d9_20) (XT.ii_le_f qf) ?_
  refine s_iload X0 hx (hb hby own_d9_23) rfl ?_
  exact own_retI X0 hx hlk Bd.returns (hb hby own_d9_25) (by rw [e0]; exact ⟨rfl, N0, (Keep.refl h0 [t1])⟩) (by decide) (by decide)
theorem own_ef_rm_cmpb30 (m : MethodId) (ch : Addr) : entryFrame m #[(.ref ch), (.int (0 : Int32)), (.int (3 : Int32))] 6 = mkF m 0 #[.val (.ref ch), .val (.int (0 : Int32)), .val (.int (3 : Int32)), .unset, .unset, .unset] [] := by first | (simp [entryFrame, mkF, argsToLocals, Value.category]; done) | rfl
def Q_rm_cmpb30 (Z : State) (G1 : Int32) (G3 : Value) (c0 : Int32) (c1 : Int32) (c2 : Int32) (ch : Addr) (kc : ClassId) (h0 : Heap) (n0 : Nat) (v : Option Value) (h : Heap) (L : List Loc) : Prop := ∃ (tb : Addr), ∃ (kb : ClassId), v = some (.ref tb) ∧ Fr n0 L ∧ Keep h0 h [] ∧ Arv Z h tb kb .byte (6 : Int32) [(.int (StrChars.lo8 c0)), (.int (StrChars.hi8 c0)), (.int (StrChars.lo8 c1)), (.int (StrChars.hi8 c1)), (.int (StrChars.lo8 c2)), (.int (StrChars.hi8 c2))] (.int (0 : Int32)) ∧ h0.size ≤ tb
set_option maxRecDepth 65536 in
set_option maxHeartbeats 40000000 in
theorem rm_cmpb30 (l : Launch) (Z : State) (a0 : Array Value) (hw : ∀ d ∈ tables_1, d.before a0 Z = true) (ws : List Jvm.Cond) (G1 : Int32) (G3 : Value) (c0 : Int32) (c1 : Int32) (c2 : Int32) (ch : Addr) (kc : ClassId) (h0 : Heap) (n0 : Nat) (O0 : Old Z n0 h0) (hst : own_St Z G1 G3) (r0 : ¬ c0 < 0 ∧ ¬ (65535 : Int32) < c0) (r1 : ¬ c1 < 0 ∧ ¬ (65535 : Int32) < c1) (r2 : ¬ c2 < 0 ∧ ¬ (65535 : Int32) < c2) (qf : (255 : Int32) < c0) (VC : Arv Z h0 ch kc .char (3 : Int32) [(.int c0), (.int c1), (.int c2)] (.int (0 : Int32))) :
    own_Met l Z (⟨"java/lang/StringUTF16", "compress", "([CII)[B"⟩ : MethodName) jdk_52_method_16_code 6 (some (.array .byte)) ws ({ frames := 3, cells := 2, slots := 9, locals := 40 } : Room) #[(.ref ch), (.int (0 : Int32)), (.int (3 : Int32))] h0 (Q_rm_cmpb30 Z G1 G3 c0 c1 c2 ch kc h0 n0) := by
  refine MetFree.of_bodySF (plainFor_of_name own_pn3) hisR ?_
  intro p e s m args below meth c s₁ Bd hml0 hP hK
  obtain ⟨rfl, hZ, hh⟩ := hP
  have hx := Bd.exec
  have hby := Bd.bytes
  have hml : c.maxLocals = 6 := hml0
  have hown : s.vm.findClass "java/lang/StringUTF16" = some m.cls := findClass_of_methodNamed Bd.named
  have hnm := (name_of_methodNamed Bd.named Bd.method).1
  have hlk : meth.locks = false := Bd.notSynchronized
  have X0 : Stand p l e ({ frames := 3, cells := 2, slots := 9, locals := 40 } : Room) s m #[(.ref ch), (.int (0 : Int32)), (.int (3 : Int32))] below meth c s₁ [] 0 0 := Stand.of_body Bd
  have e0 : s₁.heap = h0 := by rw [← hh, Bd.state]; rfl
  have N0 := Fr.nil n0
  suffices hgo : own_Ok p e below (own_Qx s (Q_rm_cmpb30 Z G1 G3 c0 c1 c2 ch kc h0 n0) 2 9) (s₁.setTop (mkF m 0 #[.val (.ref ch), .val (.int (0 : Int32)), .val (.int (3 : Int32)), .unset, .unset, .unset] [])) from by
    obtain ⟨s₂, o, h1, h2⟩ := hgo
    exact ⟨s₂, o, castTop (own_ef_rm_cmpb30 m ch) h1, h2⟩
  have hst' := hst
  obtain ⟨SG1, PG1, SG3, rG3, SAD, SHI, SLO⟩ := hst'
  show own_Ok p e below _ (s₁.setTop (mkF m 0 #[.val (.ref ch), .val (.int (0 : Int32)), .val (.int (3 : Int32)), .unset, .unset, .unset] []))
  refine s_iloadN X0 hx (hb hby own_d8_0) rfl ?_
  obtain ⟨T101, h101, k101, X101, e101, E101, A101, st101⟩ := newP X0 hx hZ (own_hw hw 20 rfl) e0 (g := (mkF m 1 #[.val (.ref ch), .val (.int (0 : Int32)), .val (.int (3 : Int32)), .unset, .unset, .unset] [(.int (3 : Int32))])) rfl (hb hby own_d8_1) rfl (by decide) (cap := 3) (by decide) (by decide) (by decide) (by decide)
  obtain ⟨b101, g101⟩ : ∃ z, z = h0.size := ⟨_, rfl⟩
  rw [← g101] at A101 st101
  refine own_st st101 ?_
  have gb_b101 : n0 ≤ b101 := Nat.le_trans (own_n0 O0) (Nat.le_of_eq g101.symm)
  have gz_b101 : h0.size ≤ b101 := Nat.le_trans (Keep.refl h0 []).1 (Nat.le_of_eq g101.symm)
  have ne_ch_b101 : ch ≠ b101 := Nat.ne_of_lt (Nat.lt_of_lt_of_le VC.lt (Nat.le_of_eq g101.symm))
  have V101 : Arv Z h101 b101 k101 .byte (3 : Int32) [(.int (0 : Int32)), (.int (0 : Int32)), (.int (0 : Int32))] (.int (0 : Int32)) := (Arv.new A101 (by decide)).pad (pad_rep [] (.int (0 : Int32)) 3)
  show own_Ok p e below _ (T101.setTop (mkF m 3 #[.val (.ref ch), .val (.int (0 : Int32)), .val (.int (3 : Int32)), .unset, .unset, .unset] [(.ref b101)]))
  refine s_astoreN X101 hx (hb hby own_d8_3) rfl #[.val (.ref ch), .val (.int (0 : Int32)), .val (.int (3 : Int32)), .val (.ref b101), .unset, .unset] rfl ?_
  refine s_aloadN X101 hx (hb hby own_d8_4) rfl rfl ?_
  refine s_iloadN X101 hx (hb hby own_d8_5) rfl ?_
  refine s_aloadN X101 hx (hb hby own_d8_6) rfl rfl ?_
  refine s_iconst X101 hx (0 : Int32) (hb hby own_d8_7) rfl ?_
  refine s_iloadN X101 hx (hb hby own_d8_8) rfl ?_
  have f103 := VC.ext E101
  have f104 := O0.ext E101
  obtain ⟨_, T102, Lc102, X102, hQ102, st102⟩ := own_callS X101 hx hZ hown (own_hw hw 46 rfl) (own_hw hw 47 rfl) (own_hw hw 44 rfl) (own_hw hw 48 rfl) (rm_cmpa30 l Z a0 hw [] c0 c1 c2 ch kc b101 k101 h101 n0 f104 qf f103 V101 gb_b101 ne_ch_b101) (by decide) e101 (Ls := #[.val (.ref ch), .val (.int (0 : Int32)), .val (.int (3 : Int32)), .val (.ref b101), .unset, .unset]) [(.ref ch), (.int (0 : Int32)), (.ref b101), (.int (0 : Int32)), (.int (3 : Int32))] [] rfl (by rw [hml]; rfl) (lenOf own_pd9 rfl) (hb hby own_d8_9) (by decide) 0 rfl (by decide) (by decide) (by decide)
  obtain ⟨rfl, Nq102, K102⟩ := hQ102
  have N102 := Fr.app N0 Nq102
  refine st102 _ ?_
  have e102 : T102.heap = T102.heap := rfl
  show own_Ok p e below _ (T102.setTop (mkF m 12 #[.val (.ref ch), .val (.int (0 : Int32)), .val (.int (3 : Int32)), .val (.ref b101), .unset, .unset] [(.int (0 : Int32))]))
  refine s_istore X102 hx (hb hby own_d8_12) #[.val (.ref ch), .val (.int (0 : Int32)), .val (.int (3 : Int32)), .val (.ref b101), .val (.int (0 : Int32)), .unset] rfl ?_
  refine s_iload X102 hx (hb hby own_d8_14) rfl ?_
  refine s_iloadN X102 hx (hb hby own_d8_16) rfl ?_
  refine s_icmpNo X102 hx (hb hby own_d8_17) (XT.ii_eq_f (by decide)) ?_
  refine s_aloadN X102 hx (hb hby own_d8_20) rfl rfl ?_
  refine s_iloadN X102 hx (hb hby own_d8_21) rfl ?_
  refine s_iloadN X102 hx (hb hby own_d8_22) rfl ?_
  have f106 := f103.keep K102 (ninS ne_ch_b101 nin0)
  have f107 := f104.keep K102 (allS gb_b101 all0)
  obtain ⟨_, T105, Lc105, X105, hQ105, st105⟩ := own_callS X102 hx hZ hown (own_hw hw 77 rfl) (own_hw hw 78 rfl) (own_hw hw 44 rfl) (own_hw hw 79 rfl) (rm_tob3 l Z a0 hw [] G1 G3 c0 c1 c2 ch kc T102.heap n0 f107 hst f106) (by decide) e102 (Ls := #[.val (.ref ch), .val (.int (0 : Int32)), .val (.int (3 : Int32)), .val (.ref b101), .val (.int (0 : Int32)), .unset]) [(.ref ch), (.int (0 : Int32)), (.int (3 : Int32))] [] rfl (by rw [hml]; rfl) (lenOf own_pd10 rfl) (hb hby own_d8_23) (by decide) 0 rfl (by decide) (by decide) (by decide)
  obtain ⟨tb_105, kb_105, rfl, Nq105, K105, g105_0, gs_tb_105⟩ := hQ105
  have N105 := Fr.app N102 Nq105
  refine st105 _ ?_
  have gb_tb_105 : n0 ≤ tb_105 := Nat.le_trans (own_n0 f107) gs_tb_105
  have f108 := (Keep.refl h0 []).ext E101
  have f109 := f108.trans K102 (allS (Or.inr gz_b101) all0)
  have gz_tb_105 : h0.size ≤ tb_105 := Nat.le_trans f109.1 gs_tb_105
  have ne_ch_tb_105 : ch ≠ tb_105 := Nat.ne_of_lt (Nat.lt_of_lt_of_le f106.lt gs_tb_105)
  have e105 : T105.heap = T105.heap := rfl
  show own_Ok p e below _ (T105.setTop (mkF m 26 #[.val (.ref ch), .val (.int (0 : Int32)), .val (.int (3 : Int32)), .val (.ref b101), .val (.int (0 : Int32)), .unset] [(.ref tb_105)]))
  refine s_astore X105 hx (hb hby own_d8_26) rfl #[.val (.ref ch), .val (.int (0 : Int32)), .val (.int (3 : Int32)), .val (.ref b101), .val (.int (0 : Int32)), .val (.ref tb_105)] rfl ?_
  refine s_aload X105 hx (hb hby own_d8_28) rfl rfl ?_
  refine s_iload X105 hx (hb hby own_d8_30) rfl ?_
  have f111 := f107.keep K105 all0
  obtain ⟨_, T110, Lc110, X110, hQ110, st110⟩ := own_callS X105 hx hZ hown (own_hw hw 93 rfl) (own_hw hw 94 rfl) (own_hw hw 44 rfl) (own_hw hw 95 rfl) (rm_gch30 l Z a0 hw [] G1 G3 c0 c1 c2 tb_105 kb_105 T105.heap n0 f111 hst r0 r1 r2 g105_0) (by decide) e105 (Ls := #[.val (.ref ch), .val (.int (0 : Int32)), .val (.int (3 : Int32)), .val (.ref b101), .val (.int (0 : Int32)), .val (.ref tb_105)]) [(.ref tb_105), (.int (0 : Int32))] [] rfl (by rw [hml]; rfl) (lenOf own_pd4 rfl) (hb hby own_d8_32) (by decide) 0 rfl (by decide) (by decide) (by decide)
  obtain ⟨rfl, Nq110, e110⟩ := hQ110
  have N110 := Fr.app N105 Nq110
  refine st110 _ ?_
  show own_Ok p e below _ (T110.setTop (mkF m 35 #[.val (.ref ch), .val (.int (0 : Int32)), .val (.int (3 : Int32)), .val (.ref b101), .val (.int (0 : Int32)), .val (.ref tb_105)] [(.int c0)]))
  refine s_sipush X110 hx (255 : Int32) (hb hby own_d8_35) rfl ?_
  refine s_icmpYes X110 hx 54 (hb hby own_d8_38) (XT.ii_gt_t qf) (by decide) (by decide) ?_
  refine s_aload X110 hx (hb hby own_d8_54) rfl rfl ?_
  have f112 := f109.trans K105 all0
  exact own_retA X110 hx hlk (t := (.array .byte)) rfl Bd.returns rfl (hb hby own_d8_56) (by rw [e110]; exact ⟨tb_105, kb_105, rfl, N110, f112, g105_0, gz_tb_105⟩) (by decide) (by decide)
theorem own_ef_rm_ini4_30 (m : MethodId) (a1 : Addr) (ch : Addr) : entryFrame m #[(.ref a1), (.ref ch), (.int (0 : Int32)), (.int (3 : Int32)), .null] 6 = mkF m 0 #[.val (.ref a1), .val (.ref ch), .val (.int (0 : Int32)), .val (.int (3 : Int32)), .val .null, .unset] [] := by first | (simp [entryFrame, mkF, argsToLocals, Value.category]; done) | rfl
def Q_rm_ini4_30 (Z : State) (G1 : Int32) (G3 : Value) (c0 : Int32) (c1 : Int32) (c2 : Int32) (a1 : Addr) (ch : Addr) (kc : ClassId) (h0 : Heap) (n0 : Nat) (v : Option Value) (h : Heap) (L : List Loc) : Prop := ∃ (tb : Addr), ∃ (kb : ClassId), v = none ∧ Fr n0 L ∧ Keep h0 h [a1] ∧ Exa Z h a1 "java/lang/String" ∧ Fld Z h a1 "java/lang/String" "coder" "B" (.int (1 : Int32)) ∧ Fld Z h a1 "java/lang/String" "value" "[B" (.ref tb) ∧ Arv Z h tb kb .byte (6 : Int32) [(.int (StrChars.lo8 c0)), (.int (StrChars.hi8 c0)), (.int (StrChars.lo8 c1)), (.int (StrChars.hi8 c1)), (.int (StrChars.lo8 c2)), (.int (StrChars.hi8 c2))] (.int (0 : Int32)) ∧ h0.size ≤ tb
set_option maxRecDepth 65536 in
set_option maxHeartbeats 40000000 in
theorem rm_ini4_30 (l : Launch) (Z : State) (a0 : Array Value) (hw : ∀ d ∈ tables_1, d.before a0 Z = true) (ws : List Jvm.Cond) (G1 : Int32) (G3 : Value) (c0 : Int32) (c1 : Int32) (c2 : Int32) (a1 : Addr) (ch : Addr) (kc : ClassId) (h0 : Heap) (n0 : Nat) (O0 : Old Z n0 h0) (hst : own_St Z G1 G3) (r0 : ¬ c0 < 0 ∧ ¬ (65535 : Int32) < c0) (r1 : ¬ c1 < 0 ∧ ¬ (65535 : Int32) < c1) (r2 : ¬ c2 < 0 ∧ ¬ (65535 : Int32) < c2) (qf : (255 : Int32) < c0) (E1 : Exa Z h0 a1 "java/lang/String") (F1 : Fld Z h0 a1 "java/lang/String" "coder" "B" (.int (0 : Int32))) (F2 : Fld Z h0 a1 "java/lang/String" "value" "[B" .null) (g1 : n0 ≤ a1) (VC : Arv Z h0 ch kc .char (3 : Int32) [(.int c0), (.int c1), (.int c2)] (.int (0 : Int32))) :
    own_Met l Z (⟨"java/lang/String", "<init>", "([CIILjava/lang/Void;)V"⟩ : MethodName) jdk_42_method_149_code 6 none ws ({ frames := 4, cells := 2, slots := 9, locals := 57 } : Room) #[(.ref a1), (.ref ch), (.int (0 : Int32)), (.int (3 : Int32)), .null] h0 (Q_rm_ini4_30 Z G1 G3 c0 c1 c2 a1 ch kc h0 n0) := by
  refine MetFree.of_bodySF (plainFor_of_name own_pn2) hisR ?_
  intro p e s m args below meth c s₁ Bd hml0 hP hK
  obtain ⟨rfl, hZ, hh⟩ := hP
  have hx := Bd.exec
  have hby := Bd.bytes
  have hml : c.maxLocals = 6 := hml0
  have hown : s.vm.findClass "java/lang/String" = some m.cls := findClass_of_methodNamed Bd.named
  have hnm := (name_of_methodNamed Bd.named Bd.method).1
  have hlk : meth.locks = false := Bd.notSynchronized
  have X0 : Stand p l e ({ frames := 4, cells := 2, slots := 9, locals := 57 } : Room) s m #[(.ref a1), (.ref ch), (.int (0 : Int32)), (.int (3 : Int32)), .null] below meth c s₁ [] 0 0 := Stand.of_body Bd
  have e0 : s₁.heap = h0 := by rw [← hh, Bd.state]; rfl
  have N0 := Fr.nil n0
  suffices hgo : own_Ok p e below (own_Qx s (Q_rm_ini4_30 Z G1 G3 c0 c1 c2 a1 ch kc h0 n0) 2 9) (s₁.setTop (mkF m 0 #[.val (.ref a1), .val (.ref ch), .val (.int (0 : Int32)), .val (.int (3 : Int32)), .val .null, .unset] [])) from by
    obtain ⟨s₂, o, h1, h2⟩ := hgo
    exact ⟨s₂, o, castTop (own_ef_rm_ini4_30 m a1 ch) h1, h2⟩
  have hst' := hst
  obtain ⟨SG1, PG1, SG3, rG3, SAD, SHI, SLO⟩ := hst'
  show own_Ok p e below _ (s₁.setTop (mkF m 0 #[.val (.ref a1), .val (.ref ch), .val (.int (0 : Int32)), .val (.int (3 : Int32)), .val .null, .unset] []))
  refine s_aloadN X0 hx (hb hby own_d3_0) rfl rfl ?_
  obtain ⟨T101, X101, e101, st101⟩ := initO X0 hx hZ hown (own_hw hw 16 rfl) (own_hw hw 17 rfl) (own_hw hw 18 rfl) e0 (g := (mkF m 1 #[.val (.ref a1), .val (.ref ch), .val (.int (0 : Int32)), .val (.int (3 : Int32)), .val .null, .unset] [(.ref a1)])) rfl (by rw [hml]; rfl) rfl (hb hby own_d3_1) (by decide) (W := 0) (by show 2 * 0 + _ ≤ _; exact Nat.le_of_eq rfl) (by decide)
  refine own_st st101 ?_
  show own_Ok p e below _ (T101.setTop (mkF m 4 #[.val (.ref a1), .val (.ref ch), .val (.int (0 : Int32)), .val (.int (3 : Int32)), .val .null, .unset] []))
  refine s_iloadN X101 hx (hb hby own_d3_4) rfl ?_
  refine s_ifYes X101 hx 27 (hb hby own_d3_5) (XT.i0_ne_t (by decide)) (by decide) (by decide) ?_
  obtain ⟨T102, X102, e102, st102⟩ := getS2 X101 hx hZ hown (host := "") (Or.inl (own_hw hw 41 rfl)) Via.refl e101 (SG1.ext O0.2) (g := (mkF m 27 #[.val (.ref a1), .val (.ref ch), .val (.int (0 : Int32)), .val (.int (3 : Int32)), .val .null, .unset] [])) rfl (hb hby own_d3_27)
  refine own_st st102 ?_
  show own_Ok p e below _ (T102.setTop (mkF m 30 #[.val (.ref a1), .val (.ref ch), .val (.int (0 : Int32)), .val (.int (3 : Int32)), .val .null, .unset] [(.int G1)]))
  refine s_ifNo X102 hx (hb hby own_d3_30) (XT.i0_eq_f PG1) ?_
  refine s_aloadN X102 hx (hb hby own_d3_33) rfl rfl ?_
  refine s_iloadN X102 hx (hb hby own_d3_34) rfl ?_
  refine s_iloadN X102 hx (hb hby own_d3_35) rfl ?_
  obtain ⟨_, T103, Lc103, X103, hQ103, st103⟩ := own_callS X102 hx hZ hown (own_hw hw 42 rfl) (own_hw hw 43 rfl) (own_hw hw 44 rfl) (own_hw hw 45 rfl) (rm_cmpb30 l Z a0 hw [] G1 G3 c0 c1 c2 ch kc h0 n0 O0 hst r0 r1 r2 qf VC) (by decide) e102 (Ls := #[.val (.ref a1), .val (.ref ch), .val (.int (0 : Int32)), .val (.int (3 : Int32)), .val .null, .unset]) [(.ref ch), (.int (0 : Int32)), (.int (3 : Int32))] [] rfl (by rw [hml]; rfl) (lenOf own_pd10 rfl) (hb hby own_d3_36) (by decide) 0 rfl (by decide) (by decide) (by decide)
  obtain ⟨tb_103, kb_103, rfl, Nq103, K103, g103_0, gs_tb_103⟩ := hQ103
  have N103 := Fr.app N0 Nq103
  refine st103 _ ?_
  have gb_tb_103 : n0 ≤ tb_103 := Nat.le_trans (own_n0 O0) gs_tb_103
  have gz_tb_103 : h0.size ≤ tb_103 := Nat.le_trans (Keep.refl h0 [a1]).1 gs_tb_103
  have ne_a1_tb_103 : a1 ≠ tb_103 := Nat.ne_of_lt (Nat.lt_of_lt_of_le E1.lt gs_tb_103)
  have ne_ch_tb_103 : ch ≠ tb_103 := Nat.ne_of_lt (Nat.lt_of_lt_of_le VC.lt gs_tb_103)
  have e103 : T103.heap = T103.heap := rfl
  show own_Ok p e below _ (T103.setTop (mkF m 39 #[.val (.ref a1), .val (.ref ch), .val (.int (0 : Int32)), .val (.int (3 : Int32)), .val .null, .unset] [(.ref tb_103)]))
  refine s_astore X103 hx (hb hby own_d3_39) rfl #[.val (.ref a1), .val (.ref ch), .val (.int (0 : Int32)), .val (.int (3 : Int32)), .val .null, .val (.ref tb_103)] rfl ?_
  refine s_aloadN X103 hx (hb hby own_d3_41) rfl rfl ?_
  refine s_aload X103 hx (hb hby own_d3_42) rfl rfl ?_
  refine s_iloadN X103 hx (hb hby own_d3_44) rfl ?_
  have f105 := O0.keep K103 all0
  obtain ⟨_, T104, Lc104, X104, hQ104, st104⟩ := own_callS X103 hx hZ hown (own_hw hw 49 rfl) (own_hw hw 50 rfl) (own_hw hw 44 rfl) (own_hw hw 51 rfl) (rm_cfl3 l Z a0 hw [] c0 c1 c2 tb_103 kb_103 T103.heap n0 f105 g103_0) (by decide) e103 (Ls := #[.val (.ref a1), .val (.ref ch), .val (.int (0 : Int32)), .val (.int (3 : Int32)), .val .null, .val (.ref tb_103)]) [(.ref tb_103), (.int (3 : Int32))] [(.ref a1)] rfl (by rw [hml]; rfl) (lenOf own_pd11 rfl) (hb hby own_d3_45) (by decide) 1 rfl (by decide) (by decide) (by decide)
  obtain ⟨rfl, Nq104, e104⟩ := hQ104
  have N104 := Fr.app N103 Nq104
  refine st104 _ ?_
  show own_Ok p e below _ (T104.setTop (mkF m 48 #[.val (.ref a1), .val (.ref ch), .val (.int (0 : Int32)), .val (.int (3 : Int32)), .val .null, .val (.ref tb_103)] [(.int (1 : Int32)), (.ref a1)]))
  have f106 := E1.keep K103
  have f107 := F1.keep K103 nin0
  obtain ⟨T108, h108, X108, e108, W108, st108⟩ := putFN X104 hx hZ hown (own_hw hw 26 rfl) Via.refl e104 f107 f106 (Or.inr ⟨(own_hw hw 22 rfl), rfl, hnm⟩) (own_hw hw 6 rfl) (ty := .byte) (v' := (.int (1 : Int32))) (by decide) rfl (by decide) (g := (mkF m 48 #[.val (.ref a1), .val (.ref ch), .val (.int (0 : Int32)), .val (.int (3 : Int32)), .val .null, .val (.ref tb_103)] [(.int (1 : Int32)), (.ref a1)])) rfl rfl (hb hby own_d3_48)
  refine own_st st108 ?_
  have F108 := f107.same W108
  have N108 := Fr.snoc X108 N104 g1
  show own_Ok p e below _ (T108.setTop (mkF m 51 #[.val (.ref a1), .val (.ref ch), .val (.int (0 : Int32)), .val (.int (3 : Int32)), .val .null, .val (.ref tb_103)] []))
  refine s_aloadN X108 hx (hb hby own_d3_51) rfl rfl ?_
  refine s_aload X108 hx (hb hby own_d3_52) rfl rfl ?_
  have f109 := f106.wr W108
  have f110 := F2.keep K103 nin0
  have f111 := f110.other W108 (Or.inr (slot_ne (Or.inr (own_hw hw 21 rfl)) (Or.inr (own_hw hw 22 rfl)) (by decide) (t := (.array .byte)) (t' := .byte) (by decide) (by decide)))
  obtain ⟨T112, h112, X112, e112, W112, st112⟩ := putF X108 hx hZ hown (host := "") (Or.inl (own_hw hw 25 rfl)) Via.refl e108 f111 f109 (Or.inr ⟨(own_hw hw 21 rfl), rfl, hnm⟩) (own_hw hw 6 rfl) (ty := (.array .byte)) (by decide) rfl rfl (g := (mkF m 54 #[.val (.ref a1), .val (.ref ch), .val (.int (0 : Int32)), .val (.int (3 : Int32)), .val .null, .val (.ref tb_103)] [(.ref tb_103), (.ref a1)])) rfl rfl (hb hby own_d3_54)
  refine own_st st112 ?_
  have F112 := f111.same W112
  have N112 := Fr.snoc X112 N108 g1
  show own_Ok p e below _ (T112.setTop (mkF m 57 #[.val (.ref a1), .val (.ref ch), .val (.int (0 : Int32)), .val (.int (3 : Int32)), .val .null, .val (.ref tb_103)] []))
  have f113 := (Keep.refl h0 [a1]).trans K103 all0
  have f114 := f113.wr W108 (Or.inl (by simp))
  have f115 := f114.wr W112 (Or.inl (by simp))
  have f116 := f109.wr W112
  have f117 := F108.other W112 (Or.inr (slot_ne (Or.inr (own_hw hw 22 rfl)) (Or.inr (own_hw hw 21 rfl)) (by decide) (t := .byte) (t' := (.array .byte)) (by decide) (by decide)))
  have f118 := g103_0.other W108 (Ne.symm ne_a1_tb_103)
  have f119 := f118.other W112 (Ne.symm ne_a1_tb_103)
  exact own_retV X112 hx hlk Bd.returns (hb hby own_d3_57) (by rw [e112]; exact ⟨tb_103, kb_103, rfl, N112, f115, f116, f117, F112, f119, gz_tb_103⟩) (by decide) (by decide)
theorem own_ef_rm_ini1_30 (m : MethodId) (a1 : Addr) (ch : Addr) : entryFrame m #[(.ref a1), (.ref ch)] 2 = mkF m 0 #[.val (.ref a1), .val (.ref ch)] [] := by first | (simp [entryFrame, mkF, argsToLocals, Value.category]; done) | rfl
def Q_rm_ini1_30 (Z : State) (G1 : Int32) (G3 : Value) (c0 : Int32) (c1 : Int32) (c2 : Int32) (a1 : Addr) (ch : Addr) (kc : ClassId) (h0 : Heap) (n0 : Nat) (v : Option Value) (h : Heap) (L : List Loc) : Prop := ∃ (tb : Addr), ∃ (kb : ClassId), v = none ∧ Fr n0 L ∧ Keep h0 h [a1] ∧ Exa Z h a1 "java/lang/String" ∧ Fld Z h a1 "java/lang/String" "coder" "B" (.int (1 : Int32)) ∧ Fld Z h a1 "java/lang/String" "value" "[B" (.ref tb) ∧ Arv Z h tb kb .byte (6 : Int32) [(.int (StrChars.lo8 c0)), (.int (StrChars.hi8 c0)), (.int (StrChars.lo8 c1)), (.int (StrChars.hi8 c1)), (.int (StrChars.lo8 c2)), (.int (StrChars.hi8 c2))] (.int (0 : Int32)) ∧ h0.size ≤ tb
set_option maxRecDepth 65536 in
set_option maxHeartbeats 40000000 in
theorem rm_ini1_30 (l : Launch) (Z : State) (a0 : Array Value) (hw : ∀ d ∈ tables_1, d.before a0 Z = true) (ws : List Jvm.Cond) (G1 : Int32) (G3 : Value) (c0 : Int32) (c1 : Int32) (c2 : Int32) (a1 : Addr) (ch : Addr) (kc : ClassId) (h0 : Heap) (n0 : Nat) (O0 : Old Z n0 h0) (hst : own_St Z G1 G3) (r0 : ¬ c0 < 0 ∧ ¬ (65535 : Int32) < c0) (r1 : ¬ c1 < 0 ∧ ¬ (65535 : Int32) < c1) (r2 : ¬ c2 < 0 ∧ ¬ (65535 : Int32) < c2) (qf : (255 : Int32) < c0) (E1 : Exa Z h0 a1 "java/lang/String") (F1 : Fld Z h0 a1 "java/lang/String" "coder" "B" (.int (0 : Int32))) (F2 : Fld Z h0 a1 "java/lang/String" "value" "[B" .null) (g1 : n0 ≤ a1) (VC : Arv Z h0 ch kc .char (3 : Int32) [(.int c0), (.int c1), (.int c2)] (.int (0 : Int32))) :
    own_Met l Z (⟨"java/lang/String", "<init>", "([C)V"⟩ : MethodName) jdk_42_method_3_code 2 none ws ({ frames := 5, cells := 2, slots := 9, locals := 74 } : Room) #[(.ref a1), (.ref ch)] h0 (Q_rm_ini1_30 Z G1 G3 c0 c1 c2 a1 ch kc h0 n0) := by
  refine MetFree.of_bodySF (plainFor_of_name own_pn2) hisR ?_
  intro p e s m args below meth c s₁ Bd hml0 hP hK
  obtain ⟨rfl, hZ, hh⟩ := hP
  have hx := Bd.exec
  have hby := Bd.bytes
  have hml : c.maxLocals = 2 := hml0
  have hown : s.vm.findClass "java/lang/String" = some m.cls := findClass_of_methodNamed Bd.named
  have hnm := (name_of_methodNamed Bd.named Bd.method).1
  have hlk : meth.locks = false := Bd.notSynchronized
  have X0 : Stand p l e ({ frames := 5, cells := 2, slots := 9, locals := 74 } : Room) s m #[(.ref a1), (.ref ch)] below meth c s₁ [] 0 0 := Stand.of_body Bd
  have e0 : s₁.heap = h0 := by rw [← hh, Bd.state]; rfl
  have N0 := Fr.nil n0
  suffices hgo : own_Ok p e below (own_Qx s (Q_rm_ini1_30 Z G1 G3 c0 c1 c2 a1 ch kc h0 n0) 2 9) (s₁.setTop (mkF m 0 #[.val (.ref a1), .val (.ref ch)] [])) from by
    obtain ⟨s₂, o, h1, h2⟩ := hgo
    exact ⟨s₂, o, castTop (own_ef_rm_ini1_30 m a1 ch) h1, h2⟩
  have hst' := hst
  obtain ⟨SG1, PG1, SG3, rG3, SAD, SHI, SLO⟩ := hst'
  show own_Ok p e below _ (s₁.setTop (mkF m 0 #[.val (.ref a1), .val (.ref ch)] []))
  refine s_aloadN X0 hx (hb hby own_d2_0) rfl rfl ?_
  refine s_aloadN X0 hx (hb hby own_d2_1) rfl rfl ?_
  refine s_iconst X0 hx (0 : Int32) (hb hby own_d2_2) rfl ?_
  refine s_aloadN X0 hx (hb hby own_d2_3) rfl rfl ?_
  refine own_st (own_len X0 hx hZ e0 VC (g := (mkF m 4 #[.val (.ref a1), .val (.ref ch)] [(.ref ch), (.int (0 : Int32)), (.ref ch), (.ref a1)])) rfl rfl (hb hby own_d2_4)) ?_
  show own_Ok p e below _ (s₁.setTop (mkF m 5 #[.val (.ref a1), .val (.ref ch)] [(.int (3 : Int32)), (.int (0 : Int32)), (.ref ch), (.ref a1)]))
  refine s_aconstNull X0 hx (hb hby own_d2_5) ?_
  obtain ⟨_, T101, Lc101, X101, hQ101, st101⟩ := own_callN X0 hx hZ hown (own_hw hw 12 rfl) (own_hw hw 13 rfl) (own_hw hw 7 rfl) (own_hw hw 15 rfl) (rm_ini4_30 l Z a0 hw [] G1 G3 c0 c1 c2 a1 ch kc h0 n0 O0 hst r0 r1 r2 qf E1 F1 F2 g1 VC) rfl (by decide) e0 (Ls := #[.val (.ref a1), .val (.ref ch)]) a1 [(.ref ch), (.int (0 : Int32)), (.int (3 : Int32)), .null] [] rfl (by rw [hml]; rfl) (lenOf own_pd12 rfl) (hb hby own_d2_6) (by decide) 0 rfl (by decide) (by decide) (by decide)
  obtain ⟨tb_101, kb_101, rfl, Nq101, K101, g101_0, g101_1, g101_2, g101_3, gs_tb_101⟩ := hQ101
  have N101 := Fr.app N0 Nq101
  refine st101 _ ?_
  have gb_tb_101 : n0 ≤ tb_101 := Nat.le_trans (own_n0 O0) gs_tb_101
  have gz_tb_101 : h0.size ≤ tb_101 := Nat.le_trans (Keep.refl h0 [a1]).1 gs_tb_101
  have ne_a1_tb_101 : a1 ≠ tb_101 := Nat.ne_of_lt (Nat.lt_of_lt_of_le E1.lt gs_tb_101)
  have ne_ch_tb_101 : ch ≠ tb_101 := Nat.ne_of_lt (Nat.lt_of_lt_of_le VC.lt gs_tb_101)
  have e101 : T101.heap = T101.heap := rfl
  show own_Ok p e below _ (T101.setTop (mkF m 9 #[.val (.ref a1), .val (.ref ch)] []))
  have f102 := (Keep.refl h0 [a1]).trans K101 (allS (Or.inl (by simp)) all0)
  exact own_retV X101 hx hlk Bd.returns (hb hby own_d2_9) (by rw [e101]; exact ⟨tb_101, kb_101, rfl, N101, f102, g101_0, g101_1, g101_2, g101_3, gz_tb_101⟩) (by decide) (by decide)
theorem own_ef_rm_cmpa31 (m : MethodId) (ch : Addr) (t1 : Addr) : entryFrame m #[(.ref ch), (.int (0 : Int32)), (.ref t1), (.int (0 : Int32)), (.int (3 : Int32))] 7 = mkF m 0 #[.val (.ref ch), .val (.int (0 : Int32)), .val (.ref t1), .val (.int (0 : Int32)), .val (.int (3 : Int32)), .unset, .unset] [] := by first | (simp [entryFrame, mkF, argsToLocals, Value.category]; done) | rfl
def Q_rm_cmpa31 (Z : State) (c0 : Int32) (c1 : Int32) (c2 : Int32) (ch : Addr) (kc : ClassId) (t1 : Addr) (k1 : ClassId) (h0 : Heap) (n0 : Nat) (v : Option Value) (h : Heap) (L : List Loc) : Prop := v = some (.int (1 : Int32)) ∧ Fr n0 L ∧ Keep h0 h [t1]
set_option maxRecDepth 65536 in
set_option maxHeartbeats 40000000 in
theorem rm_cmpa31 (l : Launch) (Z : State) (a0 : Array Value) (hw : ∀ d ∈ tables_1, d.before a0 Z = true) (ws : List Jvm.Cond) (c0 : Int32) (c1 : Int32) (c2 : Int32) (ch : Addr) (kc : ClassId) (t1 : Addr) (k1 : ClassId) (h0 : Heap) (n0 : Nat) (O0 : Old Z n0 h0) (q0 : ¬ (255 : Int32) < c0) (qf : (255 : Int32) < c1) (VC : Arv Z h0 ch kc .char (3 : Int32) [(.int c0), (.int c1), (.int c2)] (.int (0 : Int32))) (V1 : Arv Z h0 t1 k1 .byte (3 : Int32) [(.int (0 : Int32)), (.int (0 : Int32)), (.int (0 : Int32))] (.int (0 : Int32))) (g1 : n0 ≤ t1) (ne1 : ch ≠ t1) :
    own_Met l Z (⟨"java/lang/StringUTF16", "compress", "([CI[BII)I"⟩ : MethodName) jdk_52_method_21_code 7 (some .int) ws ({ frames := 0, cells := 0, slots := 0, locals := 0 } : Room) #[(.ref ch), (.int (0 : Int32)), (.ref t1), (.int (0 : Int32)), (.int (3 : Int32))] h0 (Q_rm_cmpa31 Z c0 c1 c2 ch kc t1 k1 h0 n0) := by
  refine MetFree.of_bodySF (plainFor_of_name own_pn3) hisR ?_
  intro p e s m args below meth c s₁ Bd hml0 hP hK
  obtain ⟨rfl, hZ, hh⟩ := hP
  have hx := Bd.exec
  have hby := Bd.bytes
  have hml : c.maxLocals = 7 := hml0
  have hown : s.vm.findClass "java/lang/StringUTF16" = some m.cls := findClass_of_methodNamed Bd.named
  have hnm := (name_of_methodNamed Bd.named Bd.method).1
  have hlk : meth.locks = false := Bd.notSynchronized
  have X0 : Stand p l e ({ frames := 0, cells := 0, slots := 0, locals := 0 } : Room) s m #[(.ref ch), (.int (0 : Int32)), (.ref t1), (.int (0 : Int32)), (.int (3 : Int32))] below meth c s₁ [] 0 0 := Stand.of_body Bd
  have e0 : s₁.heap = h0 := by rw [← hh, Bd.state]; rfl
  have N0 := Fr.nil n0
  suffices hgo : own_Ok p e below (own_Qx s (Q_rm_cmpa31 Z c0 c1 c2 ch kc t1 k1 h0 n0) 0 0) (s₁.setTop (mkF m 0 #[.val (.ref ch), .val (.int (0 : Int32)), .val (.ref t1), .val (.int (0 : Int32)), .val (.int (3 : Int32)), .unset, .unset] [])) from by
    obtain ⟨s₂, o, h1, h2⟩ := hgo
    exact ⟨s₂, o, castTop (own_ef_rm_cmpa31 m ch t1) h1, h2⟩
  show own_Ok p e below _ (s₁.setTop (mkF m 0 #[.val (.ref ch), .val (.int (0 : Int32)), .val (.ref t1), .val (.int (0 : Int32)), .val (.int (3 : Int32)), .unset, .unset] []))
  refine s_iconst X0 hx (0 : Int32) (hb hby own_d9_0) rfl ?_
  refine s_istore X0 hx (hb hby own_d9_1) #[.val (.ref ch), .val (.int (0 : Int32)), .val (.ref t1), .val (.int (0 : Int32)), .val (.int (3 : Int32)), .val (.int (0 : Int32)), .unset] rfl ?_
  refine s_iload X0 hx (hb hby own_d9_3) rfl ?_
  refine s_iload X0 hx (hb hby own_d9_5) rfl ?_
  refine s_icmpNo X0 hx (hb hby own_d9_7) (XT.ii_ge_f (by decide)) ?_
  refine s_aloadN X0 hx (hb hby own_d9_10) rfl rfl ?_
  refine s_iloadN X0 hx (hb hby own_d9_11) rfl ?_
  refine own_st (own_ldC X0 hx hZ e0 VC (by decide) (by decide) (v := c0) rfl (g := (mkF m 12 #[.val (.ref ch), .val (.int (0 : Int32)), .val (.ref t1), .val (.int (0 : Int32)), .val (.int (3 : Int32)), .val (.int (0 : Int32)), .unset] [(.int (0 : Int32)), (.ref ch)])) rfl rfl (hb hby own_d9_12)) ?_
  show own_Ok p e below _ (s₁.setTop (mkF m 13 #[.val (.ref ch), .val (.int (0 : Int32)), .val (.ref t1), .val (.int (0 : Int32)), .val (.int (3 : Int32)), .val (.int (0 : Int32)), .unset] [(.int c0)]))
  refine s_istore X0 hx (hb hby own_d9_13) #[.val (.ref ch), .val (.int (0 : Int32)), .val (.ref t1), .val (.int (0 : Int32)), .val (.int (3 : Int32)), .val (.int (0 : Int32)), .val (.int c0)] rfl ?_
  refine s_iload X0 hx (hb hby own_d9_15) rfl ?_
  refine s_sipush X0 hx (255 : Int32) (hb hby own_d9_17) rfl ?_
  refine s_icmpYes X0 hx 26 (hb hby own_d9_20) (XT.ii_le_t q0) (by decide) (by decide) ?_
  refine s_aloadN X0 hx (hb hby own_d9_26) rfl rfl ?_
  refine s_iloadN X0 hx (hb hby own_d9_27) rfl ?_
  refine s_iload X0 hx (hb hby own_d9_28) rfl ?_
  refine s_i2b X0 hx (hb hby own_d9_30) ?_
  obtain ⟨T101, h101, X101, e101, W101, V101, st101⟩ := own_stB X0 hx hZ e0 V1 0 rfl (by decide) (by decide) (Nat.le_of_ble_eq_true rfl) (g := (mkF m 31 #[.val (.ref ch), .val (.int (0 : Int32)), .val (.ref t1), .val (.int (0 : Int32)), .val (.int (3 : Int32)), .val (.int (0 : Int32)), .val (.int c0)] [(.int (c0.toInt8.toInt32)), (.int (0 : Int32)), (.ref t1)])) rfl rfl (hb hby own_d9_31)
  refine own_st st101 ?_
  have V101' : Arv Z h101 t1 k1 .byte (3 : Int32) [(.int (nar .byte (c0.toInt8.toInt32))), (.int (0 : Int32)), (.int (0 : Int32))] (.int (0 : Int32)) := V101
  have N101 := Fr.snoc X101 N0 g1
  show own_Ok p e below _ (T101.setTop (mkF m 32 #[.val (.ref ch), .val (.int (0 : Int32)), .val (.ref t1), .val (.int (0 : Int32)), .val (.int (3 : Int32)), .val (.int (0 : Int32)), .val (.int c0)] []))
  refine s_iinc X101 hx (1 : Int32) (hb hby own_d9_32) rfl rfl #[.val (.ref ch), .val (.int (1 : Int32)), .val (.ref t1), .val (.int (0 : Int32)), .val (.int (3 : Int32)), .val (.int (0 : Int32)), .val (.int c0)] rfl ?_
  refine s_iinc X101 hx (1 : Int32) (hb hby own_d9_35) rfl rfl #[.val (.ref ch), .val (.int (1 : Int32)), .val (.ref t1), .val (.int (1 : Int32)), .val (.int (3 : Int32)), .val (.int (0 : Int32)), .val (.int c0)] rfl ?_
  refine s_iinc X101 hx (1 : Int32) (hb hby own_d9_38) rfl rfl #[.val (.ref ch), .val (.int (1 : Int32)), .val (.ref t1), .val (.int (1 : Int32)), .val (.int (3 : Int32)), .val (.int (1 : Int32)), .val (.int c0)] rfl ?_
  refine s_goto X101 hx 3 (hb hby own_d9_41) (by decide) (by decide) ?_
  refine s_iload X101 hx (hb hby own_d9_3) rfl ?_
  refine s_iload X101 hx (hb hby own_d9_5) rfl ?_
  refine s_icmpNo X101 hx (hb hby own_d9_7) (XT.ii_ge_f (by decide)) ?_
  refine s_aloadN X101 hx (hb hby own_d9_10) rfl rfl ?_
  refine s_iloadN X101 hx (hb hby own_d9_11) rfl ?_
  have f102 := VC.other W101 ne1
  refine own_st (own_ldC X101 hx hZ e101 f102 (by decide) (by decide) (v := c1) rfl (g := (mkF m 12 #[.val (.ref ch), .val (.int (1 : Int32)), .val (.ref t1), .val (.int (1 : Int32)), .val (.int (3 : Int32)), .val (.int (1 : Int32)), .val (.int c0)] [(.int (1 : Int32)), (.ref ch)])) rfl rfl (hb hby own_d9_12)) ?_
  show own_Ok p e below _ (T101.setTop (mkF m 13 #[.val (.ref ch), .val (.int (1 : Int32)), .val (.ref t1), .val (.int (1 : Int32)), .val (.int (3 : Int32)), .val (.int (1 : Int32)), .val (.int c0)] [(.int c1)]))
  refine s_istore X101 hx (hb hby own_d9_13) #[.val (.ref ch), .val (.int (1 : Int32)), .val (.ref t1), .val (.int (1 : Int32)), .val (.int (3 : Int32)), .val (.int (1 : Int32)), .val (.int c1)] rfl ?_
  refine s_iload X101 hx (hb hby own_d9_15) rfl ?_
  refine s_sipush X101 hx (255 : Int32) (hb hby own_d9_17) rfl ?_
  refine s_icmpNo X101 hx (hb hby own_d9_20) (XT.ii_le_f qf) ?_
  refine s_iload X101 hx (hb hby own_d9_23) rfl ?_
  have f103 := (Keep.refl h0 [t1]).wr W101 (Or.inl (by simp))
  exact own_retI X101 hx hlk Bd.returns (hb hby own_d9_25) (by rw [e101]; exact ⟨rfl, N101, f103⟩) (by decide) (by decide)
theorem own_ef_rm_cmpb31 (m : MethodId) (ch : Addr) : entryFrame m #[(.ref ch), (.int (0 : Int32)), (.int (3 : Int32))] 6 = mkF m 0 #[.val (.ref ch), .val (.int (0 : Int32)), .val (.int (3 : Int32)), .unset, .unset, .unset] [] := by first | (simp [entryFrame, mkF, argsToLocals, Value.category]; done) | rfl
def Q_rm_cmpb31 (Z : State) (G1 : Int32) (G3 : Value) (c0 : Int32) (c1 : Int32) (c2 : Int32) (ch : Addr) (kc : ClassId) (h0 : Heap) (n0 : Nat) (v : Option Value) (h : Heap) (L : List Loc) : Prop := ∃ (tb : Addr), ∃ (kb : ClassId), v = some (.ref tb) ∧ Fr n0 L ∧ Keep h0 h [] ∧ Arv Z h tb kb .byte (6 : Int32) [(.int (StrChars.lo8 c0)), (.int (StrChars.hi8 c0)), (.int (StrChars.lo8 c1)), (.int (StrChars.hi8 c1)), (.int (StrChars.lo8 c2)), (.int (StrChars.hi8 c2))] (.int (0 : Int32)) ∧ h0.size ≤ tb
set_option maxRecDepth 65536 in
set_option maxHeartbeats 40000000 in
theorem rm_cmpb31 (l : Launch) (Z : State) (a0 : Array Value) (hw : ∀ d ∈ tables_1, d.before a0 Z = true) (ws : List Jvm.Cond) (G1 : Int32) (G3 : Value) (c0 : Int32) (c1 : Int32) (c2 : Int32) (ch : Addr) (kc : ClassId) (h0 : Heap) (n0 : Nat) (O0 : Old Z n0 h0) (hst : own_St Z G1 G3) (r0 : ¬ c0 < 0 ∧ ¬ (65535 : Int32) < c0) (r1 : ¬ c1 < 0 ∧ ¬ (65535 : Int32) < c1) (r2 : ¬ c2 < 0 ∧ ¬ (65535 : Int32) < c2) (q0 : ¬ (255 : Int32) < c0) (qf : (255 : Int32) < c1) (VC : Arv Z h0 ch kc .char (3 : Int32) [(.int c0), (.int c1), (.int c2)] (.int (0 : Int32))) :
    own_Met l Z (⟨"java/lang/StringUTF16", "compress", "([CII)[B"⟩ : MethodName) jdk_52_method_16_code 6 (some (.array .byte)) ws ({ frames := 3, cells := 2, slots := 9, locals := 40 } : Room) #[(.ref ch), (.int (0 : Int32)), (.int (3 : Int32))] h0 (Q_rm_cmpb31 Z G1 G3 c0 c1 c2 ch kc h0 n0) := by
  refine MetFree.of_bodySF (plainFor_of_name own_pn3) hisR ?_
  intro p e s m args below meth c s₁ Bd hml0 hP hK
  obtain ⟨rfl, hZ, hh⟩ := hP
  have hx := Bd.exec
  have hby := Bd.bytes
  have hml : c.maxLocals = 6 := hml0
  have hown : s.vm.findClass "java/lang/StringUTF16" = some m.cls := findClass_of_methodNamed Bd.named
  have hnm := (name_of_methodNamed Bd.named Bd.method).1
  have hlk : meth.locks = false := Bd.notSynchronized
  have X0 : Stand p l e ({ frames := 3, cells := 2, slots := 9, locals := 40 } : Room) s m #[(.ref ch), (.int (0 : Int32)), (.int (3 : Int32))] below meth c s₁ [] 0 0 := Stand.of_body Bd
  have e0 : s₁.heap = h0 := by rw [← hh, Bd.state]; rfl
  have N0 := Fr.nil n0
  suffices hgo : own_Ok p e below (own_Qx s (Q_rm_cmpb31 Z G1 G3 c0 c1 c2 ch kc h0 n0) 2 9) (s₁.setTop (mkF m 0 #[.val (.ref ch), .val (.int (0 : Int32)), .val (.int (3 : Int32)), .unset, .unset, .unset] [])) from by
    obtain ⟨s₂, o, h1, h2⟩ := hgo
    exact ⟨s₂, o, castTop (own_ef_rm_cmpb31 m ch) h1, h2⟩
  have hst' := hst
  obtain ⟨SG1, PG1, SG3, rG3, SAD, SHI, SLO⟩ := hst'
  show own_Ok p e below _ (s₁.setTop (mkF m 0 #[.val (.ref ch), .val (.int (0 : Int32)), .val (.int (3 : Int32)), .unset, .unset, .unset] []))
  refine s_iloadN X0 hx (hb hby own_d8_0) rfl ?_
  obtain ⟨T101, h101, k101, X101, e101, E101, A101, st101⟩ := newP X0 hx hZ (own_hw hw 20 rfl) e0 (g := (mkF m 1 #[.val (.ref ch), .val (.int (0 : Int32)), .val (.int (3 : Int32)), .unset, .unset, .unset] [(.int (3 : Int32))])) rfl (hb hby own_d8_1) rfl (by decide) (cap := 3) (by decide) (by decide) (by decide) (by decide)
  obtain ⟨b101, g101⟩ : ∃ z, z = h0.size := ⟨_, rfl⟩
  rw [← g101] at A101 st101
  refine own_st st101 ?_
  have gb_b101 : n0 ≤ b101 := Nat.le_trans (own_n0 O0) (Nat.le_of_eq g101.symm)
  have gz_b101 : h0.size ≤ b101 := Nat.le_trans (Keep.refl h0 []).1 (Nat.le_of_eq g101.symm)
  have ne_ch_b101 : ch ≠ b101 := Nat.ne_of_lt (Nat.lt_of_lt_of_le VC.lt (Nat.le_of_eq g101.symm))
  have V101 : Arv Z h101 b101 k101 .byte (3 : Int32) [(.int (0 : Int32)), (.int (0 : Int32)), (.int (0 : Int32))] (.int (0 : Int32)) := (Arv.new A101 (by decide)).pad (pad_rep [] (.int (0 : Int32)) 3)
  show own_Ok p e below _ (T101.setTop (mkF m 3 #[.val (.ref ch), .val (.int (0 : Int32)), .val (.int (3 : Int32)), .unset, .unset, .unset] [(.ref b101)]))
  refine s_astoreN X101 hx (hb hby own_d8_3) rfl #[.val (.ref ch), .val (.int (0 : Int32)), .val (.int (3 : Int32)), .val (.ref b101), .unset, .unset] rfl ?_
  refine s_aloadN X101 hx (hb hby own_d8_4) rfl rfl ?_
  refine s_iloadN X101 hx (hb hby own_d8_5) rfl ?_
  refine s_aloadN X101 hx (hb hby own_d8_6) rfl rfl ?_
  refine s_iconst X101 hx (0 : Int32) (hb hby own_d8_7) rfl ?_
  refine s_iloadN X101 hx (hb hby own_d8_8) rfl ?_
  have f103 := VC.ext E101
  have f104 := O0.ext E101
  obtain ⟨_, T102, Lc102, X102, hQ102, st102⟩ := own_callS X101 hx hZ hown (own_hw hw 46 rfl) (own_hw hw 47 rfl) (own_hw hw 44 rfl) (own_hw hw 48 rfl) (rm_cmpa31 l Z a0 hw [] c0 c1 c2 ch kc b101 k101 h101 n0 f104 q0 qf f103 V101 gb_b101 ne_ch_b101) (by decide) e101 (Ls := #[.val (.ref ch), .val (.int (0 : Int32)), .val (.int (3 : Int32)), .val (.ref b101), .unset, .unset]) [(.ref ch), (.int (0 : Int32)), (.ref b101), (.int (0 : Int32)), (.int (3 : Int32))] [] rfl (by rw [hml]; rfl) (lenOf own_pd9 rfl) (hb hby own_d8_9) (by decide) 0 rfl (by decide) (by decide) (by decide)
  obtain ⟨rfl, Nq102, K102⟩ := hQ102
  have N102 := Fr.app N0 Nq102
  refine st102 _ ?_
  have e102 : T102.heap = T102.heap := rfl
  show own_Ok p e below _ (T102.setTop (mkF m 12 #[.val (.ref ch), .val (.int (0 : Int32)), .val (.int (3 : Int32)), .val (.ref b101), .unset, .unset] [(.int (1 : Int32))]))
  refine s_istore X102 hx (hb hby own_d8_12) #[.val (.ref ch), .val (.int (0 : Int32)), .val (.int (3 : Int32)), .val (.ref b101), .val (.int (1 : Int32)), .unset] rfl ?_
  refine s_iload X102 hx (hb hby own_d8_14) rfl ?_
  refine s_iloadN X102 hx (hb hby own_d8_16) rfl ?_
  refine s_icmpNo X102 hx (hb hby own_d8_17) (XT.ii_eq_f (by decide)) ?_
  refine s_aloadN X102 hx (hb hby own_d8_20) rfl rfl ?_
  refine s_iloadN X102 hx (hb hby own_d8_21) rfl ?_
  refine s_iloadN X102 hx (hb hby own_d8_22) rfl ?_
  have f106 := f103.keep K102 (ninS ne_ch_b101 nin0)
  have f107 := f104.keep K102 (allS gb_b101 all0)
  obtain ⟨_, T105, Lc105, X105, hQ105, st105⟩ := own_callS X102 hx hZ hown (own_hw hw 77 rfl) (own_hw hw 78 rfl) (own_hw hw 44 rfl) (own_hw hw 79 rfl) (rm_tob3 l Z a0 hw [] G1 G3 c0 c1 c2 ch kc T102.heap n0 f107 hst f106) (by decide) e102 (Ls := #[.val (.ref ch), .val (.int (0 : Int32)), .val (.int (3 : Int32)), .val (.ref b101), .val (.int (1 : Int32)), .unset]) [(.ref ch), (.int (0 : Int32)), (.int (3 : Int32))] [] rfl (by rw [hml]; rfl) (lenOf own_pd10 rfl) (hb hby own_d8_23) (by decide) 0 rfl (by decide) (by decide) (by decide)
  obtain ⟨tb_105, kb_105, rfl, Nq105, K105, g105_0, gs_tb_105⟩ := hQ105
  have N105 := Fr.app N102 Nq105
  refine st105 _ ?_
  have gb_tb_105 : n0 ≤ tb_105 := Nat.le_trans (own_n0 f107) gs_tb_105
  have f108 := (Keep.refl h0 []).ext E101
  have f109 := f108.trans K102 (allS (Or.inr gz_b101) all0)
  have gz_tb_105 : h0.size ≤ tb_105 := Nat.le_trans f109.1 gs_tb_105
  have ne_ch_tb_105 : ch ≠ tb_105 := Nat.ne_of_lt (Nat.lt_of_lt_of_le f106.lt gs_tb_105)
  have e105 : T105.heap = T105.heap := rfl
  show own_Ok p e below _ (T105.setTop (mkF m 26 #[.val (.ref ch), .val (.int (0 : Int32)), .val (.int (3 : Int32)), .val (.ref b101), .val (.int (1 : Int32)), .unset] [(.ref tb_105)]))
  refine s_astore X105 hx (hb hby own_d8_26) rfl #[.val (.ref ch), .val (.int (0 : Int32)), .val (.int (3 : Int32)), .val (.ref b101), .val (.int (1 : Int32)), .val (.ref tb_105)] rfl ?_
  refine s_aload X105 hx (hb hby own_d8_28) rfl rfl ?_
  refine s_iload X105 hx (hb hby own_d8_30) rfl ?_
  have f111 := f107.keep K105 all0
  obtain ⟨_, T110, Lc110, X110, hQ110, st110⟩ := own_callS X105 hx hZ hown (own_hw hw 93 rfl) (own_hw hw 94 rfl) (own_hw hw 44 rfl) (own_hw hw 95 rfl) (rm_gch31 l Z a0 hw [] G1 G3 c0 c1 c2 tb_105 kb_105 T105.heap n0 f111 hst r0 r1 r2 g105_0) (by decide) e105 (Ls := #[.val (.ref ch), .val (.int (0 : Int32)), .val (.int (3 : Int32)), .val (.ref b101), .val (.int (1 : Int32)), .val (.ref tb_105)]) [(.ref tb_105), (.int (1 : Int32))] [] rfl (by rw [hml]; rfl) (lenOf own_pd4 rfl) (hb hby own_d8_32) (by decide) 0 rfl (by decide) (by decide) (by decide)
  obtain ⟨rfl, Nq110, e110⟩ := hQ110
  have N110 := Fr.app N105 Nq110
  refine st110 _ ?_
  show own_Ok p e below _ (T110.setTop (mkF m 35 #[.val (.ref ch), .val (.int (0 : Int32)), .val (.int (3 : Int32)), .val (.ref b101), .val (.int (1 : Int32)), .val (.ref tb_105)] [(.int c1)]))
  refine s_sipush X110 hx (255 : Int32) (hb hby own_d8_35) rfl ?_
  refine s_icmpYes X110 hx 54 (hb hby own_d8_38) (XT.ii_gt_t qf) (by decide) (by decide) ?_
  refine s_aload X110 hx (hb hby own_d8_54) rfl rfl ?_
  have f112 := f109.trans K105 all0
  exact own_retA X110 hx hlk (t := (.array .byte)) rfl Bd.returns rfl (hb hby own_d8_56) (by rw [e110]; exact ⟨tb_105, kb_105, rfl, N110, f112, g105_0, gz_tb_105⟩) (by decide) (by decide)
theorem own_ef_rm_ini4_31 (m : MethodId) (a1 : Addr) (ch : Addr) : entryFrame m #[(.ref a1), (.ref ch), (.int (0 : Int32)), (.int (3 : Int32)), .null] 6 = mkF m 0 #[.val (.ref a1), .val (.ref ch), .val (.int (0 : Int32)), .val (.int (3 : Int32)), .val .null, .unset] [] := by first | (simp [entryFrame, mkF, argsToLocals, Value.category]; done) | rfl
def Q_rm_ini4_31 (Z : State) (G1 : Int32) (G3 : Value) (c0 : Int32) (c1 : Int32) (c2 : Int32) (a1 : Addr) (ch : Addr) (kc : ClassId) (h0 : Heap) (n0 : Nat) (v : Option Value) (h : Heap) (L : List Loc) : Prop := ∃ (tb : Addr), ∃ (kb : ClassId), v = none ∧ Fr n0 L ∧ Keep h0 h [a1] ∧ Exa Z h a1 "java/lang/String" ∧ Fld Z h a1 "java/lang/String" "coder" "B" (.int (1 : Int32)) ∧ Fld Z h a1 "java/lang/String" "value" "[B" (.ref tb) ∧ Arv Z h tb kb .byte (6 : Int32) [(.int (StrChars.lo8 c0)), (.int (StrChars.hi8 c0)), (.int (StrChars.lo8 c1)), (.int (StrChars.hi8 c1)), (.int (StrChars.lo8 c2)), (.int (StrChars.hi8 c2))] (.int (0 : Int32)) ∧ h0.size ≤ tb
set_option maxRecDepth 65536 in
set_option maxHeartbeats 40000000 in
theorem rm_ini4_31 (l : Launch) (Z : State) (a0 : Array Value) (hw : ∀ d ∈ tables_1, d.before a0 Z = true) (ws : List Jvm.Cond) (G1 : Int32) (G3 : Value) (c0 : Int32) (c1 : Int32) (c2 : Int32) (a1 : Addr) (ch : Addr) (kc : ClassId) (h0 : Heap) (n0 : Nat) (O0 : Old Z n0 h0) (hst : own_St Z G1 G3) (r0 : ¬ c0 < 0 ∧ ¬ (65535 : Int32) < c0) (r1 : ¬ c1 < 0 ∧ ¬ (65535 : Int32) < c1) (r2 : ¬ c2 < 0 ∧ ¬ (65535 : Int32) < c2) (q0 : ¬ (255 : Int32) < c0) (qf : (255 : Int32) < c1) (E1 : Exa Z h0 a1 "java/lang/String") (F1 : Fld Z h0 a1 "java/lang/String" "coder" "B" (.int (0 : Int32))) (F2 : Fld Z h0 a1 "java/lang/String" "value" "[B" .null) (g1 : n0 ≤ a1) (VC : Arv Z h0 ch kc .char (3 : Int32) [(.int c0), (.int c1), (.int c2)] (.int (0 : Int32))) :
    own_Met l Z (⟨"java/lang/String", "<init>", "([CIILjava/lang/Void;)V"⟩ : MethodName) jdk_42_method_149_code 6 none ws ({ frames := 4, cells := 2, slots := 9, locals := 57 } : Room) #[(.ref a1), (.ref ch), (.int (0 : Int32)), (.int (3 : Int32)), .null] h0 (Q_rm_ini4_31 Z G1 G3 c0 c1 c2 a1 ch kc h0 n0) := by
  refine MetFree.of_bodySF (plainFor_of_name own_pn2) hisR ?_
  intro p e s m args below meth c s₁ Bd hml0 hP hK
  obtain ⟨rfl, hZ, hh⟩ := hP
  have hx := Bd.exec
  have hby := Bd.bytes
  have hml : c.maxLocals = 6 := hml0
  have hown : s.vm.findClass "java/lang/String" = some m.cls := findClass_of_methodNamed Bd.named
  have hnm := (name_of_methodNamed Bd.named Bd.method).1
  have hlk : meth.locks = false := Bd.notSynchronized
  have X0 : Stand p l e ({ frames := 4, cells := 2, slots := 9, locals := 57 } : Room) s m #[(.ref a1), (.ref ch), (.int (0 : Int32)), (.int (3 : Int32)), .null] below meth c s₁ [] 0 0 := Stand.of_body Bd
  have e0 : s₁.heap = h0 := by rw [← hh, Bd.state]; rfl
  have N0 := Fr.nil n0
  suffices hgo : own_Ok p e below (own_Qx s (Q_rm_ini4_31 Z G1 G3 c0 c1 c2 a1 ch kc h0 n0) 2 9) (s₁.setTop (mkF m 0 #[.val (.ref a1), .val (.ref ch), .val (.int (0 : Int32)), .val (.int (3 : Int32)), .val .null, .unset] [])) from by
    obtain ⟨s₂, o, h1, h2⟩ := hgo
    exact ⟨s₂, o, castTop (own_ef_rm_ini4_31 m a1 ch) h1, h2⟩
  have hst' := hst
  obtain ⟨SG1, PG1, SG3, rG3, SAD, SHI, SLO⟩ := hst'
  show own_Ok p e below _ (s₁.setTop (mkF m 0 #[.val (.ref a1), .val (.ref ch), .val (.int (0 : Int32)), .val (.int (3 : Int32)), .val .null, .unset] []))
  refine s_aloadN X0 hx (hb hby own_d3_0) rfl rfl ?_
  obtain ⟨T101, X101, e101, st101⟩ := initO X0 hx hZ hown (own_hw hw 16 rfl) (own_hw hw 17 rfl) (own_hw hw 18 rfl) e0 (g := (mkF m 1 #[.val (.ref a1), .val (.ref ch), .val (.int (0 : Int32)), .val (.int (3 : Int32)), .val .null, .unset] [(.ref a1)])) rfl (by rw [hml]; rfl) rfl (hb hby own_d3_1) (by decide) (W := 0) (by show 2 * 0 + _ ≤ _; exact Nat.le_of_eq rfl) (by decide)
  refine own_st st101 ?_
  show own_Ok p e below _ (T101.setTop (mkF m 4 #[.val (.ref a1), .val (.ref ch), .val (.int (0 : Int32)), .val (.int (3 : Int32)), .val .null, .unset] []))
  refine s_iloadN X101 hx (hb hby own_d3_4) rfl ?_
  refine s_ifYes X101 hx 27 (hb hby own_d3_5) (XT.i0_ne_t (by decide)) (by decide) (by decide) ?_
  obtain ⟨T102, X102, e102, st102⟩ := getS2 X101 hx hZ hown (host := "") (Or.inl (own_hw hw 41 rfl)) Via.refl e101 (SG1.ext O0.2) (g := (mkF m 27 #[.val (.ref a1), .val (.ref ch), .val (.int (0 : Int32)), .val (.int (3 : Int32)), .val .null, .unset] [])) rfl (hb hby own_d3_27)
  refine own_st st102 ?_
  show own_Ok p e below _ (T102.setTop (mkF m 30 #[.val (.ref a1), .val (.ref ch), .val (.int (0 : Int32)), .val (.int (3 : Int32)), .val .null, .unset] [(.int G1)]))
  refine s_ifNo X102 hx (hb hby own_d3_30) (XT.i0_eq_f PG1) ?_
  refine s_aloadN X102 hx (hb hby own_d3_33) rfl rfl ?_
  refine s_iloadN X102 hx (hb hby own_d3_34) rfl ?_
  refine s_iloadN X102 hx (hb hby own_d3_35) rfl ?_
  obtain ⟨_, T103, Lc103, X103, hQ103, st103⟩ := own_callS X102 hx hZ hown (own_hw hw 42 rfl) (own_hw hw 43 rfl) (own_hw hw 44 rfl) (own_hw hw 45 rfl) (rm_cmpb31 l Z a0 hw [] G1 G3 c0 c1 c2 ch kc h0 n0 O0 hst r0 r1 r2 q0 qf VC) (by decide) e102 (Ls := #[.val (.ref a1), .val (.ref ch), .val (.int (0 : Int32)), .val (.int (3 : Int32)), .val .null, .unset]) [(.ref ch), (.int (0 : Int32)), (.int (3 : Int32))] [] rfl (by rw [hml]; rfl) (lenOf own_pd10 rfl) (hb hby own_d3_36) (by decide) 0 rfl (by decide) (by decide) (by decide)
  obtain ⟨tb_103, kb_103, rfl, Nq103, K103, g103_0, gs_tb_103⟩ := hQ103
  have N103 := Fr.app N0 Nq103
  refine st103 _ ?_
  have gb_tb_103 : n0 ≤ tb_103 := Nat.le_trans (own_n0 O0) gs_tb_103
  have gz_tb_103 : h0.size ≤ tb_103 := Nat.le_trans (Keep.refl h0 [a1]).1 gs_tb_103
  have ne_a1_tb_103 : a1 ≠ tb_103 := Nat.ne_of_lt (Nat.lt_of_lt_of_le E1.lt gs_tb_103)
  have ne_ch_tb_103 : ch ≠ tb_103 := Nat.ne_of_lt (Nat.lt_of_lt_of_le VC.lt gs_tb_103)
  have e103 : T103.heap = T103.heap := rfl
  show own_Ok p e below _ (T103.setTop (mkF m 39 #[.val (.ref a1), .val (.ref ch), .val (.int (0 : Int32)), .val (.int (3 : Int32)), .val .null, .unset] [(.ref tb_103)]))
  refine s_astore X103 hx (hb hby own_d3_39) rfl #[.val (.ref a1), .val (.ref ch), .val (.int (0 : Int32)), .val (.int (3 : Int32)), .val .null, .val (.ref tb_103)] rfl ?_
  refine s_aloadN X103 hx (hb hby own_d3_41) rfl rfl ?_
  refine s_aload X103 hx (hb hby own_d3_42) rfl rfl ?_
  refine s_iloadN X103 hx (hb hby own_d3_44) rfl ?_
  have f105 := O0.keep K103 all0
  obtain ⟨_, T104, Lc104, X104, hQ104, st104⟩ := own_callS X103 hx hZ hown (own_hw hw 49 rfl) (own_hw hw 50 rfl) (own_hw hw 44 rfl) (own_hw hw 51 rfl) (rm_cfl3 l Z a0 hw [] c0 c1 c2 tb_103 kb_103 T103.heap n0 f105 g103_0) (by decide) e103 (Ls := #[.val (.ref a1), .val (.ref ch), .val (.int (0 : Int32)), .val (.int (3 : Int32)), .val .null, .val (.ref tb_103)]) [(.ref tb_103), (.int (3 : Int32))] [(.ref a1)] rfl (by rw [hml]; rfl) (lenOf own_pd11 rfl) (hb hby own_d3_45) (by decide) 1 rfl (by decide) (by decide) (by decide)
  obtain ⟨rfl, Nq104, e104⟩ := hQ104
  have N104 := Fr.app N103 Nq104
  refine st104 _ ?_
  show own_Ok p e below _ (T104.setTop (mkF m 48 #[.val (.ref a1), .val (.ref ch), .val (.int (0 : Int32)), .val (.int (3 : Int32)), .val .null, .val (.ref tb_103)] [(.int (1 : Int32)), (.ref a1)]))
  have f106 := E1.keep K103
  have f107 := F1.keep K103 nin0
  obtain ⟨T108, h108, X108, e108, W108, st108⟩ := putFN X104 hx hZ hown (own_hw hw 26 rfl) Via.refl e104 f107 f106 (Or.inr ⟨(own_hw hw 22 rfl), rfl, hnm⟩) (own_hw hw 6 rfl) (ty := .byte) (v' := (.int (1 : Int32))) (by decide) rfl (by decide) (g := (mkF m 48 #[.val (.ref a1), .val (.ref ch), .val (.int (0 : Int32)), .val (.int (3 : Int32)), .val .null, .val (.ref tb_103)] [(.int (1 : Int32)), (.ref a1)])) rfl rfl (hb hby own_d3_48)
  refine own_st st108 ?_
  have F108 := f107.same W108
  have N108 := Fr.snoc X108 N104 g1
  show own_Ok p e below _ (T108.setTop (mkF m 51 #[.val (.ref a1), .val (.ref ch), .val (.int (0 : Int32)), .val (.int (3 : Int32)), .val .null, .val (.ref tb_103)] []))
  refine s_aloadN X108 hx (hb hby own_d3_51) rfl rfl ?_
  refine s_aload X108 hx (hb hby own_d3_52) rfl rfl ?_
  have f109 := f106.wr W108
  have f110 := F2.keep K103 nin0
  have f111 := f110.other W108 (Or.inr (slot_ne (Or.inr (own_hw hw 21 rfl)) (Or.inr (own_hw hw 22 rfl)) (by decide) (t := (.array .byte)) (t' := .byte) (by decide) (by decide)))
  obtain ⟨T112, h112, X112, e112, W112, st112⟩ := putF X108 hx hZ hown (host := "") (Or.inl (own_hw hw 25 rfl)) Via.refl e108 f111 f109 (Or.inr ⟨(own_hw hw 21 rfl), rfl, hnm⟩) (own_hw hw 6 rfl) (ty := (.array .byte)) (by decide) rfl rfl (g := (mkF m 54 #[.val (.ref a1), .val (.ref ch), .val (.int (0 : Int32)), .val (.int (3 : Int32)), .val .null, .val (.ref tb_103)] [(.ref tb_103), (.ref a1)])) rfl rfl (hb hby own_d3_54)
  refine own_st st112 ?_
  have F112 := f111.same W112
  have N112 := Fr.snoc X112 N108 g1
  show own_Ok p e below _ (T112.setTop (mkF m 57 #[.val (.ref a1), .val (.ref ch), .val (.int (0 : Int32)), .val (.int (3 : Int32)), .val .null, .val (.ref tb_103)] []))
  have f113 := (Keep.refl h0 [a1]).trans K103 all0
  have f114 := f113.wr W108 (Or.inl (by simp))
  have f115 := f114.wr W112 (Or.inl (by simp))
  have f116 := f109.wr W112
  have f117 := F108.other W112 (Or.inr (slot_ne (Or.inr (own_hw hw 22 rfl)) (Or.inr (own_hw hw 21 rfl)) (by decide) (t := .byte) (t' := (.array .byte)) (by decide) (by decide)))
  have f118 := g103_0.other W108 (Ne.symm ne_a1_tb_103)
  have f119 := f118.other W112 (Ne.symm ne_a1_tb_103)
  exact own_retV X112 hx hlk Bd.returns (hb hby own_d3_57) (by rw [e112]; exact ⟨tb_103, kb_103, rfl, N112, f115, f116, f117, F112, f119, gz_tb_103⟩) (by decide) (by decide)
theorem own_ef_rm_ini1_31 (m : MethodId) (a1 : Addr) (ch : Addr) : entryFrame m #[(.ref a1), (.ref ch)] 2 = mkF m 0 #[.val (.ref a1), .val (.ref ch)] [] := by first | (simp [entryFrame, mkF, argsToLocals, Value.category]; done) | rfl
def Q_rm_ini1_31 (Z : State) (G1 : Int32) (G3 : Value) (c0 : Int32) (c1 : Int32) (c2 : Int32) (a1 : Addr) (ch : Addr) (kc : ClassId) (h0 : Heap) (n0 : Nat) (v : Option Value) (h : Heap) (L : List Loc) : Prop := ∃ (tb : Addr), ∃ (kb : ClassId), v = none ∧ Fr n0 L ∧ Keep h0 h [a1] ∧ Exa Z h a1 "java/lang/String" ∧ Fld Z h a1 "java/lang/String" "coder" "B" (.int (1 : Int32)) ∧ Fld Z h a1 "java/lang/String" "value" "[B" (.ref tb) ∧ Arv Z h tb kb .byte (6 : Int32) [(.int (StrChars.lo8 c0)), (.int (StrChars.hi8 c0)), (.int (StrChars.lo8 c1)), (.int (StrChars.hi8 c1)), (.int (StrChars.lo8 c2)), (.int (StrChars.hi8 c2))] (.int (0 : Int32)) ∧ h0.size ≤ tb
set_option maxRecDepth 65536 in
set_option maxHeartbeats 40000000 in
theorem rm_ini1_31 (l : Launch) (Z : State) (a0 : Array Value) (hw : ∀ d ∈ tables_1, d.before a0 Z = true) (ws : List Jvm.Cond) (G1 : Int32) (G3 : Value) (c0 : Int32) (c1 : Int32) (c2 : Int32) (a1 : Addr) (ch : Addr) (kc : ClassId) (h0 : Heap) (n0 : Nat) (O0 : Old Z n0 h0) (hst : own_St Z G1 G3) (r0 : ¬ c0 < 0 ∧ ¬ (65535 : Int32) < c0) (r1 : ¬ c1 < 0 ∧ ¬ (65535 : Int32) < c1) (r2 : ¬ c2 < 0 ∧ ¬ (65535 : Int32) < c2) (q0 : ¬ (255 : Int32) < c0) (qf : (255 : Int32) < c1) (E1 : Exa Z h0 a1 "java/lang/String") (F1 : Fld Z h0 a1 "java/lang/String" "coder" "B" (.int (0 : Int32))) (F2 : Fld Z h0 a1 "java/lang/String" "value" "[B" .null) (g1 : n0 ≤ a1) (VC : Arv Z h0 ch kc .char (3 : Int32) [(.int c0), (.int c1), (.int c2)] (.int (0 : Int32))) :
    own_Met l Z (⟨"java/lang/String", "<init>", "([C)V"⟩ : MethodName) jdk_42_method_3_code 2 none ws ({ frames := 5, cells := 2, slots := 9, locals := 74 } : Room) #[(.ref a1), (.ref ch)] h0 (Q_rm_ini1_31 Z G1 G3 c0 c1 c2 a1 ch kc h0 n0) := by
  refine MetFree.of_bodySF (plainFor_of_name own_pn2) hisR ?_
  intro p e s m args below meth c s₁ Bd hml0 hP hK
  obtain ⟨rfl, hZ, hh⟩ := hP
  have hx := Bd.exec
  have hby := Bd.bytes
  have hml : c.maxLocals = 2 := hml0
  have hown : s.vm.findClass "java/lang/String" = some m.cls := findClass_of_methodNamed Bd.named
  have hnm := (name_of_methodNamed Bd.named Bd.method).1
  have hlk : meth.locks = false := Bd.notSynchronized
  have X0 : Stand p l e ({ frames := 5, cells := 2, slots := 9, locals := 74 } : Room) s m #[(.ref a1), (.ref ch)] below meth c s₁ [] 0 0 := Stand.of_body Bd
  have e0 : s₁.heap = h0 := by rw [← hh, Bd.state]; rfl
  have N0 := Fr.nil n0
  suffices hgo : own_Ok p e below (own_Qx s (Q_rm_ini1_31 Z G1 G3 c0 c1 c2 a1 ch kc h0 n0) 2 9) (s₁.setTop (mkF m 0 #[.val (.ref a1), .val (.ref ch)] [])) from by
    obtain ⟨s₂, o, h1, h2⟩ := hgo
    exact ⟨s₂, o, castTop (own_ef_rm_ini1_31 m a1 ch) h1, h2⟩
  have hst' := hst
  obtain ⟨SG1, PG1, SG3, rG3, SAD, SHI, SLO⟩ := hst'
  show own_Ok p e below _ (s₁.setTop (mkF m 0 #[.val (.ref a1), .val (.ref ch)] []))
  refine s_aloadN X0 hx (hb hby own_d2_0) rfl rfl ?_
  refine s_aloadN X0 hx (hb hby own_d2_1) rfl rfl ?_
  refine s_iconst X0 hx (0 : Int32) (hb hby own_d2_2) rfl ?_
  refine s_aloadN X0 hx (hb hby own_d2_3) rfl rfl ?_
  refine own_st (own_len X0 hx hZ e0 VC (g := (mkF m 4 #[.val (.ref a1), .val (.ref ch)] [(.ref ch), (.int (0 : Int32)), (.ref ch), (.ref a1)])) rfl rfl (hb hby own_d2_4)) ?_
  show own_Ok p e below _ (s₁.setTop (mkF m 5 #[.val (.ref a1), .val (.ref ch)] [(.int (3 : Int32)), (.int (0 : Int32)), (.ref ch), (.ref a1)]))
  refine s_aconstNull X0 hx (hb hby own_d2_5) ?_
  obtain ⟨_, T101, Lc101, X101, hQ101, st101⟩ := own_callN X0 hx hZ hown (own_hw hw 12 rfl) (own_hw hw 13 rfl) (own_hw hw 7 rfl) (own_hw hw 15 rfl) (rm_ini4_31 l Z a0 hw [] G1 G3 c0 c1 c2 a1 ch kc h0 n0 O0 hst r0 r1 r2 q0 qf E1 F1 F2 g1 VC) rfl (by decide) e0 (Ls := #[.val (.ref a1), .val (.ref ch)]) a1 [(.ref ch), (.int (0 : Int32)), (.int (3 : Int32)), .null] [] rfl (by rw [hml]; rfl) (lenOf own_pd12 rfl) (hb hby own_d2_6) (by decide) 0 rfl (by decide) (by decide) (by decide)
  obtain ⟨tb_101, kb_101, rfl, Nq101, K101, g101_0, g101_1, g101_2, g101_3, gs_tb_101⟩ := hQ101
  have N101 := Fr.app N0 Nq101
  refine st101 _ ?_
  have gb_tb_101 : n0 ≤ tb_101 := Nat.le_trans (own_n0 O0) gs_tb_101
  have gz_tb_101 : h0.size ≤ tb_101 := Nat.le_trans (Keep.refl h0 [a1]).1 gs_tb_101
  have ne_a1_tb_101 : a1 ≠ tb_101 := Nat.ne_of_lt (Nat.lt_of_lt_of_le E1.lt gs_tb_101)
  have ne_ch_tb_101 : ch ≠ tb_101 := Nat.ne_of_lt (Nat.lt_of_lt_of_le VC.lt gs_tb_101)
  have e101 : T101.heap = T101.heap := rfl
  show own_Ok p e below _ (T101.setTop (mkF m 9 #[.val (.ref a1), .val (.ref ch)] []))
  have f102 := (Keep.refl h0 [a1]).trans K101 (allS (Or.inl (by simp)) all0)
  exact own_retV X101 hx hlk Bd.returns (hb hby own_d2_9) (by rw [e101]; exact ⟨tb_101, kb_101, rfl, N101, f102, g101_0, g101_1, g101_2, g101_3, gz_tb_101⟩) (by decide) (by decide)
theorem own_ef_rm_cmpa32 (m : MethodId) (ch : Addr) (t1 : Addr) : entryFrame m #[(.ref ch), (.int (0 : Int32)), (.ref t1), (.int (0 : Int32)), (.int (3 : Int32))] 7 = mkF m 0 #[.val (.ref ch), .val (.int (0 : Int32)), .val (.ref t1), .val (.int (0 : Int32)), .val (.int (3 : Int32)), .unset, .unset] [] := by first | (simp [entryFrame, mkF, argsToLocals, Value.category]; done) | rfl
def Q_rm_cmpa32 (Z : State) (c0 : Int32) (c1 : Int32) (c2 : Int32) (ch : Addr) (kc : ClassId) (t1 : Addr) (k1 : ClassId) (h0 : Heap) (n0 : Nat) (v : Option Value) (h : Heap) (L : List Loc) : Prop := v = some (.int (2 : Int32)) ∧ Fr n0 L ∧ Keep h0 h [t1]
set_option maxRecDepth 65536 in
set_option maxHeartbeats 40000000 in
theorem rm_cmpa32 (l : Launch) (Z : State) (a0 : Array Value) (hw : ∀ d ∈ tables_1, d.before a0 Z = true) (ws : List Jvm.Cond) (c0 : Int32) (c1 : Int32) (c2 : Int32) (ch : Addr) (kc : ClassId) (t1 : Addr) (k1 : ClassId) (h0 : Heap) (n0 : Nat) (O0 : Old Z n0 h0) (q0 : ¬ (255 : Int32) < c0) (q1 : ¬ (255 : Int32) < c1) (qf : (255 : Int32) < c2) (VC : Arv Z h0 ch kc .char (3 : Int32) [(.int c0), (.int c1), (.int c2)] (.int (0 : Int32))) (V1 : Arv Z h0 t1 k1 .byte (3 : Int32) [(.int (0 : Int32)), (.int (0 : Int32)), (.int (0 : Int32))] (.int (0 : Int32))) (g1 : n0 ≤ t1) (ne1 : ch ≠ t1) :
    own_Met l Z (⟨"java/lang/StringUTF16", "compress", "([CI[BII)I"⟩ : MethodName) jdk_52_method_21_code 7 (some .int) ws ({ frames := 0, cells := 0, slots := 0, locals := 0 } : Room) #[(.ref ch), (.int (0 : Int32)), (.ref t1), (.int (0 : Int32)), (.int (3 : Int32))] h0 (Q_rm_cmpa32 Z c0 c1 c2 ch kc t1 k1 h0 n0) := by
  refine MetFree.of_bodySF (plainFor_of_name own_pn3) hisR ?_
  intro p e s m args below meth c s₁ Bd hml0 hP hK
  obtain ⟨rfl, hZ, hh⟩ := hP
  have hx := Bd.exec
  have hby := Bd.bytes
  have hml : c.maxLocals = 7 := hml0
  have hown : s.vm.findClass "java/lang/StringUTF16" = some m.cls := findClass_of_methodNamed Bd.named
  have hnm := (name_of_methodNamed Bd.named Bd.method).1
  have hlk : meth.locks = false := Bd.notSynchronized
  have X0 : Stand p l e ({ frames := 0, cells := 0, slots := 0, locals := 0 } : Room) s m #[(.ref ch), (.int (0 : Int32)), (.ref t1), (.int (0 : Int32)), (.int (3 : Int32))] below meth c s₁ [] 0 0 := Stand.of_body Bd
  have e0 : s₁.heap = h0 := by rw [← hh, Bd.state]; rfl
  have N0 := Fr.nil n0
  suffices hgo : own_Ok p e below (own_Qx s (Q_rm_cmpa32 Z c0 c1 c2 ch kc t1 k1 h0 n0) 0 0) (s₁.setTop (mkF m 0 #[.val (.ref ch), .val (.int (0 : Int32)), .val (.ref t1), .val (.int (0 : Int32)), .val (.int (3 : Int32)), .unset, .unset] [])) from by
    obtain ⟨s₂, o, h1, h2⟩ := hgo
    exact ⟨s₂, o, castTop (own_ef_rm_cmpa32 m ch t1) h1, h2⟩
  show own_Ok p e below _ (s₁.setTop (mkF m 0 #[.val (.ref ch), .val (.int (0 : Int32)), .val (.ref t1), .val (.int (0 : Int32)), .val (.int (3 : Int32)), .unset, .unset] []))
  refine s_iconst X0 hx (0 : Int32) (hb hby own_d9_0) rfl ?_
  refine s_istore X0 hx (hb hby own_d9_1) #[.val (.ref ch), .val (.int (0 : Int32)), .val (.ref t1), .val (.int (0 : Int32)), .val (.int (3 : Int32)), .val (.int (0 : Int32)), .unset] rfl ?_
  refine s_iload X0 hx (hb hby own_d9_3) rfl ?_
  refine s_iload X0 hx (hb hby own_d9_5) rfl ?_
  refine s_icmpNo X0 hx (hb hby own_d9_7) (XT.ii_ge_f (by decide)) ?_
  refine s_aloadN X0 hx (hb hby own_d9_10) rfl rfl ?_
  refine s_iloadN X0 hx (hb hby own_d9_11) rfl ?_
  refine own_st (own_ldC X0 hx hZ e0 VC (by decide) (by decide) (v := c0) rfl (g := (mkF m 12 #[.val (.ref ch), .val (.int (0 : Int32)), .val (.ref t1), .val (.int (0 : Int32)), .val (.int (3 : Int32)), .val (.int (0 : Int32)), .unset] [(.int (0 : Int32)), (.ref ch)])) rfl rfl (hb hby own_d9_12)) ?_
  show own_Ok p e below _ (s₁.setTop (mkF m 13 #[.val (.ref ch), .val (.int (0 : Int32)), .val (.ref t1), .val (.int (0 : Int32)), .val (.int (3 : Int32)), .val (.int (0 : Int32)), .unset] [(.int c0)]))
  refine s_istore X0 hx (hb hby own_d9_13) #[.val (.ref ch), .val (.int (0 : Int32)), .val (.ref t1), .val (.int (0 : Int32)), .val (.int (3 : Int32)), .val (.int (0 : Int32)), .val (.int c0)] rfl ?_
  refine s_iload X0 hx (hb hby own_d9_15) rfl ?_
  refine s_sipush X0 hx (255 : Int32) (hb hby own_d9_17) rfl ?_
  refine s_icmpYes X0 hx 26 (hb hby own_d9_20) (XT.ii_le_t q0) (by decide) (by decide) ?_
  refine s_aloadN X0 hx (hb hby own_d9_26) rfl rfl ?_
  refine s_iloadN X0 hx (hb hby own_d9_27) rfl ?_
  refine s_iload X0 hx (hb hby own_d9_28) rfl ?_
  refine s_i2b X0 hx (hb hby own_d9_30) ?_
  obtain ⟨T101, h101, X101, e101, W101, V101, st101⟩ := own_stB X0 hx hZ e0 V1 0 rfl (by decide) (by decide) (Nat.le_of_ble_eq_true rfl) (g := (mkF m 31 #[.val (.ref ch), .val (.int (0 : Int32)), .val (.ref t1), .val (.int (0 : Int32)), .val (.int (3 : Int32)), .val (.int (0 : Int32)), .val (.int c0)] [(.int (c0.toInt8.toInt32)), (.int (0 : Int32)), (.ref t1)])) rfl rfl (hb hby own_d9_31)
  refine own_st st101 ?_
  have V101' : Arv Z h101 t1 k1 .byte (3 : Int32) [(.int (nar .byte (c0.toInt8.toInt32))), (.int (0 : Int32)), (.int (0 : Int32))] (.int (0 : Int32)) := V101
  have N101 := Fr.snoc X101 N0 g1
  show own_Ok p e below _ (T101.setTop (mkF m 32 #[.val (.ref ch), .val (.int (0 : Int32)), .val (.ref t1), .val (.int (0 : Int32)), .val (.int (3 : Int32)), .val (.int (0 : Int32)), .val (.int c0)] []))
  refine s_iinc X101 hx (1 : Int32) (hb hby own_d9_32) rfl rfl #[.val (.ref ch), .val (.int (1 : Int32)), .val (.ref t1), .val (.int (0 : Int32)), .val (.int (3 : Int32)), .val (.int (0 : Int32)), .val (.int c0)] rfl ?_
  refine s_iinc X101 hx (1 : Int32) (hb hby own_d9_35) rfl rfl #[.val (.ref ch), .val (.int (1 : Int32)), .val (.ref t1), .val (.int (1 : Int32)), .val (.int (3 : Int32)), .val (.int (0 : Int32)), .val (.int c0)] rfl ?_
  refine s_iinc X101 hx (1 : Int32) (hb hby own_d9_38) rfl rfl #[.val (.ref ch), .val (.int (1 : Int32)), .val (.ref t1), .val (.int (1 : Int32)), .val (.int (3 : Int32)), .val (.int (1 : Int32)), .val (.int c0)] rfl ?_
  refine s_goto X101 hx 3 (hb hby own_d9_41) (by decide) (by decide) ?_
  refine s_iload X101 hx (hb hby own_d9_3) rfl ?_
  refine s_iload X101 hx (hb hby own_d9_5) rfl ?_
  refine s_icmpNo X101 hx (hb hby own_d9_7) (XT.ii_ge_f (by decide)) ?_
  refine s_aloadN X101 hx (hb hby own_d9_10) rfl rfl ?_
  refine s_iloadN X101 hx (hb hby own_d9_11) rfl ?_
  have f102 := VC.other W101 ne1
  refine own_st (own_ldC X101 hx hZ e101 f102 (by decide) (by decide) (v := c1) rfl (g := (mkF m 12 #[.val (.ref ch), .val (.int (1 : Int32)), .val (.ref t1), .val (.int (1 : Int32)), .val (.int (3 : Int32)), .val (.int (1 : Int32)), .val (.int c0)] [(.int (1 : Int32)), (.ref ch)])) rfl rfl (hb hby own_d9_12)) ?_
  show own_Ok p e below _ (T101.setTop (mkF m 13 #[.val (.ref ch), .val (.int (1 : Int32)), .val (.ref t1), .val (.int (1 : Int32)), .val (.int (3 : Int32)), .val (.int (1 : Int32)), .val (.int c0)] [(.int c1)]))
  refine s_istore X101 hx (hb hby own_d9_13) #[.val (.ref ch), .val (.int (1 : Int32)), .val (.ref t1), .val (.int (1 : Int32)), .val (.int (3 : Int32)), .val (.int (1 : Int32)), .val (.int c1)] rfl ?_
  refine s_iload X101 hx (hb hby own_d9_15) rfl ?_
  refine s_sipush X101 hx (255 : Int32) (hb hby own_d9_17) rfl ?_
  refine s_icmpYes X101 hx 26 (hb hby own_d9_20) (XT.ii_le_t q1) (by decide) (by decide) ?_
  refine s_aloadN X101 hx (hb hby own_d9_26) rfl rfl ?_
  refine s_iloadN X101 hx (hb hby own_d9_27) rfl ?_
  refine s_iload X101 hx (hb hby own_d9_28) rfl ?_
  refine s_i2b X101 hx (hb hby own_d9_30) ?_
  obtain ⟨T103, h103, X103, e103, W103, V103, st103⟩ := own_stB X101 hx hZ e101 V101' 1 rfl (by decide) (by decide) (Nat.le_of_ble_eq_true rfl) (g := (mkF m 31 #[.val (.ref ch), .val (.int (1 : Int32)), .val (.ref t1), .val (.int (1 : Int32)), .val (.int (3 : Int32)), .val (.int (1 : Int32)), .val (.int c1)] [(.int (c1.toInt8.toInt32)), (.int (1 : Int32)), (.ref t1)])) rfl rfl (hb hby own_d9_31)
  refine own_st st103 ?_
  have V103' : Arv Z h103 t1 k1 .byte (3 : Int32) [(.int (nar .byte (c0.toInt8.toInt32))), (.int (nar .byte (c1.toInt8.toInt32))), (.int (0 : Int32))] (.int (0 : Int32)) := V103
  have N103 := Fr.snoc X103 N101 g1
  show own_Ok p e below _ (T103.setTop (mkF m 32 #[.val (.ref ch), .val (.int (1 : Int32)), .val (.ref t1), .val (.int (1 : Int32)), .val (.int (3 : Int32)), .val (.int (1 : Int32)), .val (.int c1)] []))
  refine s_iinc X103 hx (1 : Int32) (hb hby own_d9_32) rfl rfl #[.val (.ref ch), .val (.int (2 : Int32)), .val (.ref t1), .val (.int (1 : Int32)), .val (.int (3 : Int32)), .val (.int (1 : Int32)), .val (.int c1)] rfl ?_
  refine s_iinc X103 hx (1 : Int32) (hb hby own_d9_35) rfl rfl #[.val (.ref ch), .val (.int (2 : Int32)), .val (.ref t1), .val (.int (2 : Int32)), .val (.int (3 : Int32)), .val (.int (1 : Int32)), .val (.int c1)] rfl ?_
  refine s_iinc X103 hx (1 : Int32) (hb hby own_d9_38) rfl rfl #[.val (.ref ch), .val (.int (2 : Int32)), .val (.ref t1), .val (.int (2 : Int32)), .val (.int (3 : Int32)), .val (.int (2 : Int32)), .val (.int c1)] rfl ?_
  refine s_goto X103 hx 3 (hb hby own_d9_41) (by decide) (by decide) ?_
  refine s_iload X103 hx (hb hby own_d9_3) rfl ?_
  refine s_iload X103 hx (hb hby own_d9_5) rfl ?_
  refine s_icmpNo X103 hx (hb hby own_d9_7) (XT.ii_ge_f (by decide)) ?_
  refine s_aloadN X103 hx (hb hby own_d9_10) rfl rfl ?_
  refine s_iloadN X103 hx (hb hby own_d9_11) rfl ?_
  have f104 := f102.other W103 ne1
  refine own_st (own_ldC X103 hx hZ e103 f104 (by decide) (by decide) (v := c2) rfl (g := (mkF m 12 #[.val (.ref ch), .val (.int (2 : Int32)), .val (.ref t1), .val (.int (2 : Int32)), .val (.int (3 : Int32)), .val (.int (2 : Int32)), .val (.int c1)] [(.int (2 : Int32)), (.ref ch)])) rfl rfl (hb hby own_d9_12)) ?_
  show own_Ok p e below _ (T103.setTop (mkF m 13 #[.val (.ref ch), .val (.int (2 : Int32)), .val (.ref t1), .val (.int (2 : Int32)), .val (.int (3 : Int32)), .val (.int (2 : Int32)), .val (.int c1)] [(.int c2)]))
  refine s_istore X103 hx (hb hby own_d9_13) #[.val (.ref ch), .val (.int (2 : Int32)), .val (.ref t1), .val (.int (2 : Int32)), .val (.int (3 : Int32)), .val (.int (2 : Int32)), .val (.int c2)] rfl ?_
  refine s_iload X103 hx (hb hby own_d9_15) rfl ?_
  refine s_sipush X103 hx (255 : Int32) (hb hby own_d9_17) rfl ?_
  refine s_icmpNo X103 hx (hb hby own_d9_20) (XT.ii_le_f qf) ?_
  refine s_iload X103 hx (hb hby own_d9_23) rfl ?_
  have f105 := (Keep.refl h0 [t1]).wr W101 (Or.inl (by simp))
  have f106 := f105.wr W103 (Or.inl (by simp))
  exact own_retI X103 hx hlk Bd.returns (hb hby own_d9_25) (by rw [e103]; exact ⟨rfl, N103, f106⟩) (by decide) (by decide)
theorem own_ef_rm_cmpb32 (m : MethodId) (ch : Addr) : entryFrame m #[(.ref ch), (.int (0 : Int32)), (.int (3 : Int32))] 6 = mkF m 0 #[.val (.ref ch), .val (.int (0 : Int32)), .val (.int (3 : Int32)), .unset, .unset, .unset] [] := by first | (simp [entryFrame, mkF, argsToLocals, Value.category]; done) | rfl
def Q_rm_cmpb32 (Z : State) (G1 : Int32) (G3 : Value) (c0 : Int32) (c1 : Int32) (c2 : Int32) (ch : Addr) (kc : ClassId) (h0 : Heap) (n0 : Nat) (v : Option Value) (h : Heap) (L : List Loc) : Prop := ∃ (tb : Addr), ∃ (kb : ClassId), v = some (.ref tb) ∧ Fr n0 L ∧ Keep h0 h [] ∧ Arv Z h tb kb .byte (6 : Int32) [(.int (StrChars.lo8 c0)), (.int (StrChars.hi8 c0)), (.int (StrChars.lo8 c1)), (.int (StrChars.hi8 c1)), (.int (StrChars.lo8 c2)), (.int (StrChars.hi8 c2))] (.int (0 : Int32)) ∧ h0.size ≤ tb
set_option maxRecDepth 65536 in
set_option maxHeartbeats 40000000 in
theorem rm_cmpb32 (l : Launch) (Z : State) (a0 : Array Value) (hw : ∀ d ∈ tables_1, d.before a0 Z = true) (ws : List Jvm.Cond) (G1 : Int32) (G3 : Value) (c0 : Int32) (c1 : Int32) (c2 : Int32) (ch : Addr) (kc : ClassId) (h0 : Heap) (n0 : Nat) (O0 : Old Z n0 h0) (hst : own_St Z G1 G3) (r0 : ¬ c0 < 0 ∧ ¬ (65535 : Int32) < c0) (r1 : ¬ c1 < 0 ∧ ¬ (65535 : Int32) < c1) (r2 : ¬ c2 < 0 ∧ ¬ (65535 : Int32) < c2) (q0 : ¬ (255 : Int32) < c0) (q1 : ¬ (255 : Int32) < c1) (qf : (255 : Int32) < c2) (VC : Arv Z h0 ch kc .char (3 : Int32) [(.int c0), (.int c1), (.int c2)] (.int (0 : Int32))) :
    own_Met l Z (⟨"java/lang/StringUTF16", "compress", "([CII)[B"⟩ : MethodName) jdk_52_method_16_code 6 (some (.array .byte)) ws ({ frames := 3, cells := 2, slots := 9, locals := 40 } : Room) #[(.ref ch), (.int (0 : Int32)), (.int (3 : Int32))] h0 (Q_rm_cmpb32 Z G1 G3 c0 c1 c2 ch kc h0 n0) := by
  refine MetFree.of_bodySF (plainFor_of_name own_pn3) hisR ?_
  intro p e s m args below meth c s₁ Bd hml0 hP hK
  obtain ⟨rfl, hZ, hh⟩ := hP
  have hx := Bd.exec
  have hby := Bd.bytes
  have hml : c.maxLocals = 6 := hml0
  have hown : s.vm.findClass "java/lang/StringUTF16" = some m.cls := findClass_of_methodNamed Bd.named
  have hnm := (name_of_methodNamed Bd.named Bd.method).1
  have hlk : meth.locks = false := Bd.notSynchronized
  have X0 : Stand p l e ({ frames := 3, cells := 2, slots := 9, locals := 40 } : Room) s m #[(.ref ch), (.int (0 : Int32)), (.int (3 : Int32))] below meth c s₁ [] 0 0 := Stand.of_body Bd
  have e0 : s₁.heap = h0 := by rw [← hh, Bd.state]; rfl
  have N0 := Fr.nil n0
  suffices hgo : own_Ok p e below (own_Qx s (Q_rm_cmpb32 Z G1 G3 c0 c1 c2 ch kc h0 n0) 2 9) (s₁.setTop (mkF m 0 #[.val (.ref ch), .val (.int (0 : Int32)), .val (.int (3 : Int32)), .unset, .unset, .unset] [])) from by
    obtain ⟨s₂, o, h1, h2⟩ := hgo
    exact ⟨s₂, o, castTop (own_ef_rm_cmpb32 m ch) h1, h2⟩
  have hst' := hst
  obtain ⟨SG1, PG1, SG3, rG3, SAD, SHI, SLO⟩ := hst'
  show own_Ok p e below _ (s₁.setTop (mkF m 0 #[.val (.ref ch), .val (.int (0 : Int32)), .val (.int (3 : Int32)), .unset, .unset, .unset] []))
  refine s_iloadN X0 hx (hb hby own_d8_0) rfl ?_
  obtain ⟨T101, h101, k101, X101, e101, E101, A101, st101⟩ := newP X0 hx hZ (own_hw hw 20 rfl) e0 (g := (mkF m 1 #[.val (.ref ch), .val (.int (0 : Int32)), .val (.int (3 : Int32)), .unset, .unset, .unset] [(.int (3 : Int32))])) rfl (hb hby own_d8_1) rfl (by decide) (cap := 3) (by decide) (by decide) (by decide) (by decide)
  obtain ⟨b101, g101⟩ : ∃ z, z = h0.size := ⟨_, rfl⟩
  rw [← g101] at A101 st101
  refine own_st st101 ?_
  have gb_b101 : n0 ≤ b101 := Nat.le_trans (own_n0 O0) (Nat.le_of_eq g101.symm)
  have gz_b101 : h0.size ≤ b101 := Nat.le_trans (Keep.refl h0 []).1 (Nat.le_of_eq g101.symm)
  have ne_ch_b101 : ch ≠ b101 := Nat.ne_of_lt (Nat.lt_of_lt_of_le VC.lt (Nat.le_of_eq g101.symm))
  have V101 : Arv Z h101 b101 k101 .byte (3 : Int32) [(.int (0 : Int32)), (.int (0 : Int32)), (.int (0 : Int32))] (.int (0 : Int32)) := (Arv.new A101 (by decide)).pad (pad_rep [] (.int (0 : Int32)) 3)
  show own_Ok p e below _ (T101.setTop (mkF m 3 #[.val (.ref ch), .val (.int (0 : Int32)), .val (.int (3 : Int32)), .unset, .unset, .unset] [(.ref b101)]))
  refine s_astoreN X101 hx (hb hby own_d8_3) rfl #[.val (.ref ch), .val (.int (0 : Int32)), .val (.int (3 : Int32)), .val (.ref b101), .unset, .unset] rfl ?_
  refine s_aloadN X101 hx (hb hby own_d8_4) rfl rfl ?_
  refine s_iloadN X101 hx (hb hby own_d8_5) rfl ?_
  refine s_aloadN X101 hx (hb hby own_d8_6) rfl rfl ?_
  refine s_iconst X101 hx (0 : Int32) (hb hby own_d8_7) rfl ?_
  refine s_iloadN X101 hx (hb hby own_d8_8) rfl ?_
  have f103 := VC.ext E101
  have f104 := O0.ext E101
  obtain ⟨_, T102, Lc102, X102, hQ102, st102⟩ := own_callS X101 hx hZ hown (own_hw hw 46 rfl) (own_hw hw 47 rfl) (own_hw hw 44 rfl) (own_hw hw 48 rfl) (rm_cmpa32 l Z a0 hw [] c0 c1 c2 ch kc b101 k101 h101 n0 f104 q0 q1 qf f103 V101 gb_b101 ne_ch_b101) (by decide) e101 (Ls := #[.val (.ref ch), .val (.int (0 : Int32)), .val (.int (3 : Int32)), .val (.ref b101), .unset, .unset]) [(.ref ch), (.int (0 : Int32)), (.ref b101), (.int (0 : Int32)), (.int (3 : Int32))] [] rfl (by rw [hml]; rfl) (lenOf own_pd9 rfl) (hb hby own_d8_9) (by decide) 0 rfl (by decide) (by decide) (by decide)
  obtain ⟨rfl, Nq102, K102⟩ := hQ102
  have N102 := Fr.app N0 Nq102
  refine st102 _ ?_
  have e102 : T102.heap = T102.heap := rfl
  show own_Ok p e below _ (T102.setTop (mkF m 12 #[.val (.ref ch), .val (.int (0 : Int32)), .val (.int (3 : Int32)), .val (.ref b101), .unset, .unset] [(.int (2 : Int32))]))
  refine s_istore X102 hx (hb hby own_d8_12) #[.val (.ref ch), .val (.int (0 : Int32)), .val (.int (3 : Int32)), .val (.ref b101), .val (.int (2 : Int32)), .unset] rfl ?_
  refine s_iload X102 hx (hb hby own_d8_14) rfl ?_
  refine s_iloadN X102 hx (hb hby own_d8_16) rfl ?_
  refine s_icmpNo X102 hx (hb hby own_d8_17) (XT.ii_eq_f (by decide)) ?_
  refine s_aloadN X102 hx (hb hby own_d8_20) rfl rfl ?_
  refine s_iloadN X102 hx (hb hby own_d8_21) rfl ?_
  refine s_iloadN X102 hx (hb hby own_d8_22) rfl ?_
  have f106 := f103.keep K102 (ninS ne_ch_b101 nin0)
  have f107 := f104.keep K102 (allS gb_b101 all0)
  obtain ⟨_, T105, Lc105, X105, hQ105, st105⟩ := own_callS X102 hx hZ hown (own_hw hw 77 rfl) (own_hw hw 78 rfl) (own_hw hw 44 rfl) (own_hw hw 79 rfl) (rm_tob3 l Z a0 hw [] G1 G3 c0 c1 c2 ch kc T102.heap n0 f107 hst f106) (by decide) e102 (Ls := #[.val (.ref ch), .val (.int (0 : Int32)), .val (.int (3 : Int32)), .val (.ref b101), .val (.int (2 : Int32)), .unset]) [(.ref ch), (.int (0 : Int32)), (.int (3 : Int32))] [] rfl (by rw [hml]; rfl) (lenOf own_pd10 rfl) (hb hby own_d8_23) (by decide) 0 rfl (by decide) (by decide) (by decide)
  obtain ⟨tb_105, kb_105, rfl, Nq105, K105, g105_0, gs_tb_105⟩ := hQ105
  have N105 := Fr.app N102 Nq105
  refine st105 _ ?_
  have gb_tb_105 : n0 ≤ tb_105 := Nat.le_trans (own_n0 f107) gs_tb_105
  have f108 := (Keep.refl h0 []).ext E101
  have f109 := f108.trans K102 (allS (Or.inr gz_b101) all0)
  have gz_tb_105 : h0.size ≤ tb_105 := Nat.le_trans f109.1 gs_tb_105
  have ne_ch_tb_105 : ch ≠ tb_105 := Nat.ne_of_lt (Nat.lt_of_lt_of_le f106.lt gs_tb_105)
  have e105 : T105.heap = T105.heap := rfl
  show own_Ok p e below _ (T105.setTop (mkF m 26 #[.val (.ref ch), .val (.int (0 : Int32)), .val (.int (3 : Int32)), .val (.ref b101), .val (.int (2 : Int32)), .unset] [(.ref tb_105)]))
  refine s_astore X105 hx (hb hby own_d8_26) rfl #[.val (.ref ch), .val (.int (0 : Int32)), .val (.int (3 : Int32)), .val (.ref b101), .val (.int (2 : Int32)), .val (.ref tb_105)] rfl ?_
  refine s_aload X105 hx (hb hby own_d8_28) rfl rfl ?_
  refine s_iload X105 hx (hb hby own_d8_30) rfl ?_
  have f111 := f107.keep K105 all0
  obtain ⟨_, T110, Lc110, X110, hQ110, st110⟩ := own_callS X105 hx hZ hown (own_hw hw 93 rfl) (own_hw hw 94 rfl) (own_hw hw 44 rfl) (own_hw hw 95 rfl) (rm_gch32 l Z a0 hw [] G1 G3 c0 c1 c2 tb_105 kb_105 T105.heap n0 f111 hst r0 r1 r2 g105_0) (by decide) e105 (Ls := #[.val (.ref ch), .val (.int (0 : Int32)), .val (.int (3 : Int32)), .val (.ref b101), .val (.int (2 : Int32)), .val (.ref tb_105)]) [(.ref tb_105), (.int (2 : Int32))] [] rfl (by rw [hml]; rfl) (lenOf own_pd4 rfl) (hb hby own_d8_32) (by decide) 0 rfl (by decide) (by decide) (by decide)
  obtain ⟨rfl, Nq110, e110⟩ := hQ110
  have N110 := Fr.app N105 Nq110
  refine st110 _ ?_
  show own_Ok p e below _ (T110.setTop (mkF m 35 #[.val (.ref ch), .val (.int (0 : Int32)), .val (.int (3 : Int32)), .val (.ref b101), .val (.int (2 : Int32)), .val (.ref tb_105)] [(.int c2)]))
  refine s_sipush X110 hx (255 : Int32) (hb hby own_d8_35) rfl ?_
  refine s_icmpYes X110 hx 54 (hb hby own_d8_38) (XT.ii_gt_t qf) (by decide) (by decide) ?_
  refine s_aload X110 hx (hb hby own_d8_54) rfl rfl ?_
  have f112 := f109.trans K105 all0
  exact own_retA X110 hx hlk (t := (.array .byte)) rfl Bd.returns rfl (hb hby own_d8_56) (by rw [e110]; exact ⟨tb_105, kb_105, rfl, N110, f112, g105_0, gz_tb_105⟩) (by decide) (by decide)
theorem own_ef_rm_ini4_32 (m : MethodId) (a1 : Addr) (ch : Addr) : entryFrame m #[(.ref a1), (.ref ch), (.int (0 : Int32)), (.int (3 : Int32)), .null] 6 = mkF m 0 #[.val (.ref a1), .val (.ref ch), .val (.int (0 : Int32)), .val (.int (3 : Int32)), .val .null, .unset] [] := by first | (simp [entryFrame, mkF, argsToLocals, Value.category]; done) | rfl
def Q_rm_ini4_32 (Z : State) (G1 : Int32) (G3 : Value) (c0 : Int32) (c1 : Int32) (c2 : Int32) (a1 : Addr) (ch : Addr) (kc : ClassId) (h0 : Heap) (n0 : Nat) (v : Option Value) (h : Heap) (L : List Loc) : Prop := ∃ (tb : Addr), ∃ (kb : ClassId), v = none ∧ Fr n0 L ∧ Keep h0 h [a1] ∧ Exa Z h a1 "java/lang/String" ∧ Fld Z h a1 "java/lang/String" "coder" "B" (.int (1 : Int32)) ∧ Fld Z h a1 "java/lang/String" "value" "[B" (.ref tb) ∧ Arv Z h tb kb .byte (6 : Int32) [(.int (StrChars.lo8 c0)), (.int (StrChars.hi8 c0)), (.int (StrChars.lo8 c1)), (.int (StrChars.hi8 c1)), (.int (StrChars.lo8 c2)), (.int (StrChars.hi8 c2))] (.int (0 : Int32)) ∧ h0.size ≤ tb
set_option maxRecDepth 65536 in
set_option maxHeartbeats 40000000 in
theorem rm_ini4_32 (l : Launch) (Z : State) (a0 : Array Value) (hw : ∀ d ∈ tables_1, d.before a0 Z = true) (ws : List Jvm.Cond) (G1 : Int32) (G3 : Value) (c0 : Int32) (c1 : Int32) (c2 : Int32) (a1 : Addr) (ch : Addr) (kc : ClassId) (h0 : Heap) (n0 : Nat) (O0 : Old Z n0 h0) (hst : own_St Z G1 G3) (r0 : ¬ c0 < 0 ∧ ¬ (65535 : Int32) < c0) (r1 : ¬ c1 < 0 ∧ ¬ (65535 : Int32) < c1) (r2 : ¬ c2 < 0 ∧ ¬ (65535 : Int32) < c2) (q0 : ¬ (255 : Int32) < c0) (q1 : ¬ (255 : Int32) < c1) (qf : (255 : Int32) < c2) (E1 : Exa Z h0 a1 "java/lang/String") (F1 : Fld Z h0 a1 "java/lang/String" "coder" "B" (.int (0 : Int32))) (F2 : Fld Z h0 a1 "java/lang/String" "value" "[B" .null) (g1 : n0 ≤ a1) (VC : Arv Z h0 ch kc .char (3 : Int32) [(.int c0), (.int c1), (.int c2)] (.int (0 : Int32))) :
    own_Met l Z (⟨"java/lang/String", "<init>", "([CIILjava/lang/Void;)V"⟩ : MethodName) jdk_42_method_149_code 6 none ws ({ frames := 4, cells := 2, slots := 9, locals := 57 } : Room) #[(.ref a1), (.ref ch), (.int (0 : Int32)), (.int (3 : Int32)), .null] h0 (Q_rm_ini4_32 Z G1 G3 c0 c1 c2 a1 ch kc h0 n0) := by
  refine MetFree.of_bodySF (plainFor_of_name own_pn2) hisR ?_
  intro p e s m args below meth c s₁ Bd hml0 hP hK
  obtain ⟨rfl, hZ, hh⟩ := hP
  have hx := Bd.exec
  have hby := Bd.bytes
  have hml : c.maxLocals = 6 := hml0
  have hown : s.vm.findClass "java/lang/String" = some m.cls := findClass_of_methodNamed Bd.named
  have hnm := (name_of_methodNamed Bd.named Bd.method).1
  have hlk : meth.locks = false := Bd.notSynchronized
  have X0 : Stand p l e ({ frames := 4, cells := 2, slots := 9, locals := 57 } : Room) s m #[(.ref a1), (.ref ch), (.int (0 : Int32)), (.int (3 : Int32)), .null] below meth c s₁ [] 0 0 := Stand.of_body Bd
  have e0 : s₁.heap = h0 := by rw [← hh, Bd.state]; rfl
  have N0 := Fr.nil n0
  suffices hgo : own_Ok p e below (own_Qx s (Q_rm_ini4_32 Z G1 G3 c0 c1 c2 a1 ch kc h0 n0) 2 9) (s₁.setTop (mkF m 0 #[.val (.ref a1), .val (.ref ch), .val (.int (0 : Int32)), .val (.int (3 : Int32)), .val .null, .unset] [])) from by
    obtain ⟨s₂, o, h1, h2⟩ := hgo
    exact ⟨s₂, o, castTop (own_ef_rm_ini4_32 m a1 ch) h1, h2⟩
  have hst' := hst
  obtain ⟨SG1, PG1, SG3, rG3, SAD, SHI, SLO⟩ := hst'
  show own_Ok p e below _ (s₁.setTop (mkF m 0 #[.val (.ref a1), .val (.ref ch), .val (.int (0 : Int32)), .val (.int (3 : Int32)), .val .null, .unset] []))
  refine s_aloadN X0 hx (hb hby own_d3_0) rfl rfl ?_
  obtain ⟨T101, X101, e101, st101⟩ := initO X0 hx hZ hown (own_hw hw 16 rfl) (own_hw hw 17 rfl) (own_hw hw 18 rfl) e0 (g := (mkF m 1 #[.val (.ref a1), .val (.ref ch), .val (.int (0 : Int32)), .val (.int (3 : Int32)), .val .null, .unset] [(.ref a1)])) rfl (by rw [hml]; rfl) rfl (hb hby own_d3_1) (by decide) (W := 0) (by show 2 * 0 + _ ≤ _; exact Nat.le_of_eq rfl) (by decide)
  refine own_st st101 ?_
  show own_Ok p e below _ (T101.setTop (mkF m 4 #[.val (.ref a1), .val (.ref ch), .val (.int (0 : Int32)), .val (.int (3 : Int32)), .val .null, .unset] []))
  refine s_iloadN X101 hx (hb hby own_d3_4) rfl ?_
  refine s_ifYes X101 hx 27 (hb hby own_d3_5) (XT.i0_ne_t (by decide)) (by decide) (by decide) ?_
  obtain ⟨T102, X102, e102, st102⟩ := getS2 X101 hx hZ hown (host := "") (Or.inl (own_hw hw 41 rfl)) Via.refl e101 (SG1.ext O0.2) (g := (mkF m 27 #[.val (.ref a1), .val (.ref ch), .val (.int (0 : Int32)), .val (.int (3 : Int32)), .val .null, .unset] [])) rfl (hb hby own_d3_27)
  refine own_st st102 ?_
  show own_Ok p e below _ (T102.setTop (mkF m 30 #[.val (.ref a1), .val (.ref ch), .val (.int (0 : Int32)), .val (.int (3 : Int32)), .val .null, .unset] [(.int G1)]))
  refine s_ifNo X102 hx (hb hby own_d3_30) (XT.i0_eq_f PG1) ?_
  refine s_aloadN X102 hx (hb hby own_d3_33) rfl rfl ?_
  refine s_iloadN X102 hx (hb hby own_d3_34) rfl ?_
  refine s_iloadN X102 hx (hb hby own_d3_35) rfl ?_
  obtain ⟨_, T103, Lc103, X103, hQ103, st103⟩ := own_callS X102 hx hZ hown (own_hw hw 42 rfl) (own_hw hw 43 rfl) (own_hw hw 44 rfl) (own_hw hw 45 rfl) (rm_cmpb32 l Z a0 hw [] G1 G3 c0 c1 c2 ch kc h0 n0 O0 hst r0 r1 r2 q0 q1 qf VC) (by decide) e102 (Ls := #[.val (.ref a1), .val (.ref ch), .val (.int (0 : Int32)), .val (.int (3 : Int32)), .val .null, .unset]) [(.ref ch), (.int (0 : Int32)), (.int (3 : Int32))] [] rfl (by rw [hml]; rfl) (lenOf own_pd10 rfl) (hb hby own_d3_36) (by decide) 0 rfl (by decide) (by decide) (by decide)
  obtain ⟨tb_103, kb_103, rfl, Nq103, K103, g103_0, gs_tb_103⟩ := hQ103
  have N103 := Fr.app N0 Nq103
  refine st103 _ ?_
  have gb_tb_103 : n0 ≤ tb_103 := Nat.le_trans (own_n0 O0) gs_tb_103
  have gz_tb_103 : h0.size ≤ tb_103 := Nat.le_trans (Keep.refl h0 [a1]).1 gs_tb_103
  have ne_a1_tb_103 : a1 ≠ tb_103 := Nat.ne_of_lt (Nat.lt_of_lt_of_le E1.lt gs_tb_103)
  have ne_ch_tb_103 : ch ≠ tb_103 := Nat.ne_of_lt (Nat.lt_of_lt_of_le VC.lt gs_tb_103)
  have e103 : T103.heap = T103.heap := rfl
  show own_Ok p e below _ (T103.setTop (mkF m 39 #[.val (.ref a1), .val (.ref ch), .val (.int (0 : Int32)), .val (.int (3 : Int32)), .val .null, .unset] [(.ref tb_103)]))
  refine s_astore X103 hx (hb hby own_d3_39) rfl #[.val (.ref a1), .val (.ref ch), .val (.int (0 : Int32)), .val (.int (3 : Int32)), .val .null, .val (.ref tb_103)] rfl ?_
  refine s_aloadN X103 hx (hb hby own_d3_41) rfl rfl ?_
  refine s_aload X103 hx (hb hby own_d3_42) rfl rfl ?_
  refine s_iloadN X103 hx (hb hby own_d3_44) rfl ?_
  have f105 := O0.keep K103 all0
  obtain ⟨_, T104, Lc104, X104, hQ104, st104⟩ := own_callS X103 hx hZ hown (own_hw hw 49 rfl) (own_hw hw 50 rfl) (own_hw hw 44 rfl) (own_hw hw 51 rfl) (rm_cfl3 l Z a0 hw [] c0 c1 c2 tb_103 kb_103 T103.heap n0 f105 g103_0) (by decide) e103 (Ls := #[.val (.ref a1), .val (.ref ch), .val (.int (0 : Int32)), .val (.int (3 : Int32)), .val .null, .val (.ref tb_103)]) [(.ref tb_103), (.int (3 : Int32))] [(.ref a1)] rfl (by rw [hml]; rfl) (lenOf own_pd11 rfl) (hb hby own_d3_45) (by decide) 1 rfl (by decide) (by decide) (by decide)
  obtain ⟨rfl, Nq104, e104⟩ := hQ104
  have N104 := Fr.app N103 Nq104
  refine st104 _ ?_
  show own_Ok p e below _ (T104.setTop (mkF m 48 #[.val (.ref a1), .val (.ref ch), .val (.int (0 : Int32)), .val (.int (3 : Int32)), .val .null, .val (.ref tb_103)] [(.int (1 : Int32)), (.ref a1)]))
  have f106 := E1.keep K103
  have f107 := F1.keep K103 nin0
  obtain ⟨T108, h108, X108, e108, W108, st108⟩ := putFN X104 hx hZ hown (own_hw hw 26 rfl) Via.refl e104 f107 f106 (Or.inr ⟨(own_hw hw 22 rfl), rfl, hnm⟩) (own_hw hw 6 rfl) (ty := .byte) (v' := (.int (1 : Int32))) (by decide) rfl (by decide) (g := (mkF m 48 #[.val (.ref a1), .val (.ref ch), .val (.int (0 : Int32)), .val (.int (3 : Int32)), .val .null, .val (.ref tb_103)] [(.int (1 : Int32)), (.ref a1)])) rfl rfl (hb hby own_d3_48)
  refine own_st st108 ?_
  have F108 := f107.same W108
  have N108 := Fr.snoc X108 N104 g1
  show own_Ok p e below _ (T108.setTop (mkF m 51 #[.val (.ref a1), .val (.ref ch), .val (.int (0 : Int32)), .val (.int (3 : Int32)), .val .null, .val (.ref tb_103)] []))
  refine s_aloadN X108 hx (hb hby own_d3_51) rfl rfl ?_
  refine s_aload X108 hx (hb hby own_d3_52) rfl rfl ?_
  have f109 := f106.wr W108
  have f110 := F2.keep K103 nin0
  have f111 := f110.other W108 (Or.inr (slot_ne (Or.inr (own_hw hw 21 rfl)) (Or.inr (own_hw hw 22 rfl)) (by decide) (t := (.array .byte)) (t' := .byte) (by decide) (by decide)))
  obtain ⟨T112, h112, X112, e112, W112, st112⟩ := putF X108 hx hZ hown (host := "") (Or.inl (own_hw hw 25 rfl)) Via.refl e108 f111 f109 (Or.inr ⟨(own_hw hw 21 rfl), rfl, hnm⟩) (own_hw hw 6 rfl) (ty := (.array .byte)) (by decide) rfl rfl (g := (mkF m 54 #[.val (.ref a1), .val (.ref ch), .val (.int (0 : Int32)), .val (.int (3 : Int32)), .val .null, .val (.ref tb_103)] [(.ref tb_103), (.ref a1)])) rfl rfl (hb hby own_d3_54)
  refine own_st st112 ?_
  have F112 := f111.same W112
  have N112 := Fr.snoc X112 N108 g1
  show own_Ok p e below _ (T112.setTop (mkF m 57 #[.val (.ref a1), .val (.ref ch), .val (.int (0 : Int32)), .val (.int (3 : Int32)), .val .null, .val (.ref tb_103)] []))
  have f113 := (Keep.refl h0 [a1]).trans K103 all0
  have f114 := f113.wr W108 (Or.inl (by simp))
  have f115 := f114.wr W112 (Or.inl (by simp))
  have f116 := f109.wr W112
  have f117 := F108.other W112 (Or.inr (slot_ne (Or.inr (own_hw hw 22 rfl)) (Or.inr (own_hw hw 21 rfl)) (by decide) (t := .byte) (t' := (.array .byte)) (by decide) (by decide)))
  have f118 := g103_0.other W108 (Ne.symm ne_a1_tb_103)
  have f119 := f118.other W112 (Ne.symm ne_a1_tb_103)
  exact own_retV X112 hx hlk Bd.returns (hb hby own_d3_57) (by rw [e112]; exact ⟨tb_103, kb_103, rfl, N112, f115, f116, f117, F112, f119, gz_tb_103⟩) (by decide) (by decide)
theorem own_ef_rm_ini1_32 (m : MethodId) (a1 : Addr) (ch : Addr) : entryFrame m #[(.ref a1), (.ref ch)] 2 = mkF m 0 #[.val (.ref a1), .val (.ref ch)] [] := by first | (simp [entryFrame, mkF, argsToLocals, Value.category]; done) | rfl
def Q_rm_ini1_32 (Z : State) (G1 : Int32) (G3 : Value) (c0 : Int32) (c1 : Int32) (c2 : Int32) (a1 : Addr) (ch : Addr) (kc : ClassId) (h0 : Heap) (n0 : Nat) (v : Option Value) (h : Heap) (L : List Loc) : Prop := ∃ (tb : Addr), ∃ (kb : ClassId), v = none ∧ Fr n0 L ∧ Keep h0 h [a1] ∧ Exa Z h a1 "java/lang/String" ∧ Fld Z h a1 "java/lang/String" "coder" "B" (.int (1 : Int32)) ∧ Fld Z h a1 "java/lang/String" "value" "[B" (.ref tb) ∧ Arv Z h tb kb .byte (6 : Int32) [(.int (StrChars.lo8 c0)), (.int (StrChars.hi8 c0)), (.int (StrChars.lo8 c1)), (.int (StrChars.hi8 c1)), (.int (StrChars.lo8 c2)), (.int (StrChars.hi8 c2))] (.int (0 : Int32)) ∧ h0.size ≤ tb
set_option maxRecDepth 65536 in
set_option maxHeartbeats 40000000 in
theorem rm_ini1_32 (l : Launch) (Z : State) (a0 : Array Value) (hw : ∀ d ∈ tables_1, d.before a0 Z = true) (ws : List Jvm.Cond) (G1 : Int32) (G3 : Value) (c0 : Int32) (c1 : Int32) (c2 : Int32) (a1 : Addr) (ch : Addr) (kc : ClassId) (h0 : Heap) (n0 : Nat) (O0 : Old Z n0 h0) (hst : own_St Z G1 G3) (r0 : ¬ c0 < 0 ∧ ¬ (65535 : Int32) < c0) (r1 : ¬ c1 < 0 ∧ ¬ (65535 : Int32) < c1) (r2 : ¬ c2 < 0 ∧ ¬ (65535 : Int32) < c2) (q0 : ¬ (255 : Int32) < c0) (q1 : ¬ (255 : Int32) < c1) (qf : (255 : Int32) < c2) (E1 : Exa Z h0 a1 "java/lang/String") (F1 : Fld Z h0 a1 "java/lang/String" "coder" "B" (.int (0 : Int32))) (F2 : Fld Z h0 a1 "java/lang/String" "value" "[B" .null) (g1 : n0 ≤ a1) (VC : Arv Z h0 ch kc .char (3 : Int32) [(.int c0), (.int c1), (.int c2)] (.int (0 : Int32))) :
    own_Met l Z (⟨"java/lang/String", "<init>", "([C)V"⟩ : MethodName) jdk_42_method_3_code 2 none ws ({ frames := 5, cells := 2, slots := 9, locals := 74 } : Room) #[(.ref a1), (.ref ch)] h0 (Q_rm_ini1_32 Z G1 G3 c0 c1 c2 a1 ch kc h0 n0) := by
  refine MetFree.of_bodySF (plainFor_of_name own_pn2) hisR ?_
  intro p e s m args below meth c s₁ Bd hml0 hP hK
  obtain ⟨rfl, hZ, hh⟩ := hP
  have hx := Bd.exec
  have hby := Bd.bytes
  have hml : c.maxLocals = 2 := hml0
  have hown : s.vm.findClass "java/lang/String" = some m.cls := findClass_of_methodNamed Bd.named
  have hnm := (name_of_methodNamed Bd.named Bd.method).1
  have hlk : meth.locks = false := Bd.notSynchronized
  have X0 : Stand p l e ({ frames := 5, cells := 2, slots := 9, locals := 74 } : Room) s m #[(.ref a1), (.ref ch)] below meth c s₁ [] 0 0 := Stand.of_body Bd
  have e0 : s₁.heap = h0 := by rw [← hh, Bd.state]; rfl
  have N0 := Fr.nil n0
  suffices hgo : own_Ok p e below (own_Qx s (Q_rm_ini1_32 Z G1 G3 c0 c1 c2 a1 ch kc h0 n0) 2 9) (s₁.setTop (mkF m 0 #[.val (.ref a1), .val (.ref ch)] [])) from by
    obtain ⟨s₂, o, h1, h2⟩ := hgo
    exact ⟨s₂, o, castTop (own_ef_rm_ini1_32 m a1 ch) h1, h2⟩
  have hst' := hst
  obtain ⟨SG1, PG1, SG3, rG3, SAD, SHI, SLO⟩ := hst'
  show own_Ok p e below _ (s₁.setTop (mkF m 0 #[.val (.ref a1), .val (.ref ch)] []))
  refine s_aloadN X0 hx (hb hby own_d2_0) rfl rfl ?_
  refine s_aloadN X0 hx (hb hby own_d2_1) rfl rfl ?_
  refine s_iconst X0 hx (0 : Int32) (hb hby own_d2_2) rfl ?_
  refine s_aloadN X0 hx (hb hby own_d2_3) rfl rfl ?_
  refine own_st (own_len X0 hx hZ e0 VC (g := (mkF m 4 #[.val (.ref a1), .val (.ref ch)] [(.ref ch), (.int (0 : Int32)), (.ref ch), (.ref a1)])) rfl rfl (hb hby own_d2_4)) ?_
  show own_Ok p e below _ (s₁.setTop (mkF m 5 #[.val (.ref a1), .val (.ref ch)] [(.int (3 : Int32)), (.int (0 : Int32)), (.ref ch), (.ref a1)]))
  refine s_aconstNull X0 hx (hb hby own_d2_5) ?_
  obtain ⟨_, T101, Lc101, X101, hQ101, st101⟩ := own_callN X0 hx hZ hown (own_hw hw 12 rfl) (own_hw hw 13 rfl) (own_hw hw 7 rfl) (own_hw hw 15 rfl) (rm_ini4_32 l Z a0 hw [] G1 G3 c0 c1 c2 a1 ch kc h0 n0 O0 hst r0 r1 r2 q0 q1 qf E1 F1 F2 g1 VC) rfl (by decide) e0 (Ls := #[.val (.ref a1), .val (.ref ch)]) a1 [(.ref ch), (.int (0 : Int32)), (.int (3 : Int32)), .null] [] rfl (by rw [hml]; rfl) (lenOf own_pd12 rfl) (hb hby own_d2_6) (by decide) 0 rfl (by decide) (by decide) (by decide)
  obtain ⟨tb_101, kb_101, rfl, Nq101, K101, g101_0, g101_1, g101_2, g101_3, gs_tb_101⟩ := hQ101
  have N101 := Fr.app N0 Nq101
  refine st101 _ ?_
  have gb_tb_101 : n0 ≤ tb_101 := Nat.le_trans (own_n0 O0) gs_tb_101
  have gz_tb_101 : h0.size ≤ tb_101 := Nat.le_trans (Keep.refl h0 [a1]).1 gs_tb_101
  have ne_a1_tb_101 : a1 ≠ tb_101 := Nat.ne_of_lt (Nat.lt_of_lt_of_le E1.lt gs_tb_101)
  have ne_ch_tb_101 : ch ≠ tb_101 := Nat.ne_of_lt (Nat.lt_of_lt_of_le VC.lt gs_tb_101)
  have e101 : T101.heap = T101.heap := rfl
  show own_Ok p e below _ (T101.setTop (mkF m 9 #[.val (.ref a1), .val (.ref ch)] []))
  have f102 := (Keep.refl h0 [a1]).trans K101 (allS (Or.inl (by simp)) all0)
  exact own_retV X101 hx hlk Bd.returns (hb hby own_d2_9) (by rw [e101]; exact ⟨tb_101, kb_101, rfl, N101, f102, g101_0, g101_1, g101_2, g101_3, gz_tb_101⟩) (by decide) (by decide)
theorem own_d3_8 : decode jdk_42_method_149_code 8 = .ok (.aload_n 0, 1) := by decide +kernel
theorem own_d3_9 : decode jdk_42_method_149_code 9 = .ok (.ldc 7, 2) := by decide +kernel
theorem own_d3_11 : decode jdk_42_method_149_code 11 = .ok (.getfield 9, 3) := by decide +kernel
theorem own_d3_14 : decode jdk_42_method_149_code 14 = .ok (.putfield 9, 3) := by decide +kernel
theorem own_d3_17 : decode jdk_42_method_149_code 17 = .ok (.aload_n 0, 1) := by decide +kernel
theorem own_d3_18 : decode jdk_42_method_149_code 18 = .ok (.ldc 7, 2) := by decide +kernel
theorem own_d3_20 : decode jdk_42_method_149_code 20 = .ok (.getfield 15, 3) := by decide +kernel
theorem own_d3_23 : decode jdk_42_method_149_code 23 = .ok (.putfield 15, 3) := by decide +kernel
theorem own_d3_26 : decode jdk_42_method_149_code 26 = .ok (.return_, 1) := by decide +kernel
theorem own_ef_rm_ini4_0 (m : MethodId) (a1 : Addr) (ch : Addr) : entryFrame m #[(.ref a1), (.ref ch), (.int (0 : Int32)), (.int (0 : Int32)), .null] 6 = mkF m 0 #[.val (.ref a1), .val (.ref ch), .val (.int (0 : Int32)), .val (.int (0 : Int32)), .val .null, .unset] [] := by first | (simp [entryFrame, mkF, argsToLocals, Value.category]; done) | rfl
def Q_rm_ini4_0 (Z : State) (a1 : Addr) (ch : Addr) (h0 : Heap) (n0 : Nat) (v : Option Value) (h : Heap) (L : List Loc) : Prop := ∃ (tb : Addr), ∃ (kb : ClassId), v = none ∧ Fr n0 L ∧ Keep h0 h [a1] ∧ Exa Z h a1 "java/lang/String" ∧ Fld Z h a1 "java/lang/String" "coder" "B" (.int (0 : Int32)) ∧ Fld Z h a1 "java/lang/String" "value" "[B" (.ref tb) ∧ Arv Z h tb kb .byte (0 : Int32) [] (.int (0 : Int32))
set_option maxRecDepth 65536 in
set_option maxHeartbeats 40000000 in
theorem rm_ini4_0 (l : Launch) (Z : State) (a0 : Array Value) (hw : ∀ d ∈ tables_1, d.before a0 Z = true) (ws : List Jvm.Cond) (a1 : Addr) (ch : Addr) (h0 : Heap) (n0 : Nat) (O0 : Old Z n0 h0) (hcst : Jvm.Lit.constHeld Z "java/lang/String" 7) (hcw : Jvm.Lit.compactW.before a0 Z = true) (E1 : Exa Z h0 a1 "java/lang/String") (F1 : Fld Z h0 a1 "java/lang/String" "coder" "B" (.int (0 : Int32))) (F2 : Fld Z h0 a1 "java/lang/String" "value" "[B" .null) (g1 : n0 ≤ a1) :
    own_MetI l Z (⟨"java/lang/String", "<init>", "([CIILjava/lang/Void;)V"⟩ : MethodName) jdk_42_method_149_code 6 none ws ({ frames := 1, cells := 2, slots := 4, locals := 12 } : Room) #[(.ref a1), (.ref ch), (.int (0 : Int32)), (.int (0 : Int32)), .null] h0 (Q_rm_ini4_0 Z a1 ch h0 n0) ([] : List String) := by
  refine MetFree.of_bodySF (plainFor_of_name own_pn2) hisR ?_
  intro p e s m args below meth c s₁ Bd hml0 hP hK
  obtain ⟨rfl, hZ, hh, hIB⟩ := hP
  have hx := Bd.exec
  have hby := Bd.bytes
  have hml : c.maxLocals = 6 := hml0
  have hown : s.vm.findClass "java/lang/String" = some m.cls := findClass_of_methodNamed Bd.named
  have hnm := (name_of_methodNamed Bd.named Bd.method).1
  have hlk : meth.locks = false := Bd.notSynchronized
  have X0 : Stand p l e ({ frames := 1, cells := 2, slots := 4, locals := 12 } : Room) (s.setVm s.vm) m #[(.ref a1), (.ref ch), (.int (0 : Int32)), (.int (0 : Int32)), .null] below meth c s₁ [] 0 0 := Stand.of_body Bd
  have hS : s.Since s.vm 0 := (State.WarmedH.refl s).since 0
  have hk0 : 0 ≤ h0.size := Nat.zero_le _
  have e0 : s₁.heap = h0 := by rw [← hh, Bd.state]; rfl
  have N0 := Fr.nil n0
  suffices hgo : own_Ok p e below (own_QxW s (Q_rm_ini4_0 Z a1 ch h0 n0) 2 4) (s₁.setTop (mkF m 0 #[.val (.ref a1), .val (.ref ch), .val (.int (0 : Int32)), .val (.int (0 : Int32)), .val .null, .unset] [])) from by
    obtain ⟨s₂, o, h1, h2⟩ := hgo
    exact ⟨s₂, o, castTop (own_ef_rm_ini4_0 m a1 ch) h1, h2⟩
  have hwS : ∀ d ∈ Bundle.stringAtoms, d.before a0 Z = true := fun d hd => hw d ((by decide +kernel : ∀ d ∈ Bundle.stringAtoms, d ∈ tables_1) d hd)
  show own_Ok p e below _ (s₁.setTop (mkF m 0 #[.val (.ref a1), .val (.ref ch), .val (.int (0 : Int32)), .val (.int (0 : Int32)), .val .null, .unset] []))
  refine s_aloadN X0 hx (hb hby own_d3_0) rfl rfl ?_
  obtain ⟨T101, X101, e101, st101⟩ := initO X0 hx hZ hown (own_hw hw 16 rfl) (own_hw hw 17 rfl) (own_hw hw 18 rfl) e0 (g := (mkF m 1 #[.val (.ref a1), .val (.ref ch), .val (.int (0 : Int32)), .val (.int (0 : Int32)), .val .null, .unset] [(.ref a1)])) rfl (by rw [hml]; rfl) rfl (hb hby own_d3_1) (by decide) (W := 0) (by show 2 * 0 + _ ≤ _; exact Nat.le_of_eq rfl) (by decide)
  refine own_st st101 ?_
  show own_Ok p e below _ (T101.setTop (mkF m 4 #[.val (.ref a1), .val (.ref ch), .val (.int (0 : Int32)), .val (.int (0 : Int32)), .val .null, .unset] []))
  refine s_iloadN X101 hx (hb hby own_d3_4) rfl ?_
  refine s_ifNo X101 hx (hb hby own_d3_5) (XT.i0_ne_f (by decide)) ?_
  refine s_aloadN X101 hx (hb hby own_d3_8) rfl rfl ?_
  obtain ⟨aS102, T102, h102, kk102, bS102, kS102, X102, e102, E102, hS102, hk102, hZ102, hown102, gE102, gC102, gV102, gA102, ga102, gb102, IB102, LT102, st102⟩ := ldcSVL X101 hx hZ hown (own_hw hw 19 rfl) hwS e101 hS hk0 (Fr.nil _) (fun b cl q => by rw [hh]; exact O0.2.2 b cl q) hIB (by decide) hcst hcw (vs := []) (z := (0 : Int32)) ⟨by decide, rfl⟩ (by decide) rfl (g := (mkF m 9 #[.val (.ref a1), .val (.ref ch), .val (.int (0 : Int32)), .val (.int (0 : Int32)), .val .null, .unset] [(.ref a1)])) rfl (hb hby own_d3_9) (n := 0) (by decide) (by decide) (by decide) (by decide)
  refine own_st st102 ?_
  show own_Ok p e below _ (T102.setTop (mkF m 11 #[.val (.ref a1), .val (.ref ch), .val (.int (0 : Int32)), .val (.int (0 : Int32)), .val .null, .unset] [(.ref aS102), (.ref a1)]))
  have f103 := F2.ext E102
  have ne_lit : a1 ≠ aS102 := Fld.ne f103 gV102 (by simp)
  have f104 := E1.ext E102
  have ne_litb : a1 ≠ bS102 := Exa.neArv f104 gA102 (own_hw hw 6 rfl)
  obtain ⟨T105, X105, e105, st105⟩ := getF X102 hx hZ102 hown102 (host := "") (Or.inl (own_hw hw 25 rfl)) Via.refl e102 gV102 (g := (mkF m 11 #[.val (.ref a1), .val (.ref ch), .val (.int (0 : Int32)), .val (.int (0 : Int32)), .val .null, .unset] [(.ref aS102), (.ref a1)])) rfl rfl (hb hby own_d3_11)
  refine own_st st105 ?_
  show own_Ok p e below _ (T105.setTop (mkF m 14 #[.val (.ref a1), .val (.ref ch), .val (.int (0 : Int32)), .val (.int (0 : Int32)), .val .null, .unset] [(.ref bS102), (.ref a1)]))
  obtain ⟨T106, h106, X106, e106, W106, st106⟩ := putF X105 hx hZ102 hown102 (host := "") (Or.inl (own_hw hw 25 rfl)) Via.refl e105 f103 f104 (Or.inr ⟨(own_hw hw 21 rfl), rfl, hnm⟩) (own_hw hw 6 rfl) (ty := (.array .byte)) (by decide) rfl rfl (g := (mkF m 14 #[.val (.ref a1), .val (.ref ch), .val (.int (0 : Int32)), .val (.int (0 : Int32)), .val .null, .unset] [(.ref bS102), (.ref a1)])) rfl rfl (hb hby own_d3_14)
  refine own_st st106 ?_
  have F106 := f103.same W106
  have N106 := Fr.snoc X106 N0 g1
  show own_Ok p e below _ (T106.setTop (mkF m 17 #[.val (.ref a1), .val (.ref ch), .val (.int (0 : Int32)), .val (.int (0 : Int32)), .val .null, .unset] []))
  refine s_aloadN X106 hx (hb hby own_d3_17) rfl rfl ?_
  refine own_st (ldcAgain X106 hx hZ102 hown102 (own_hw hw 19 rfl) LT102 (g := (mkF m 18 #[.val (.ref a1), .val (.ref ch), .val (.int (0 : Int32)), .val (.int (0 : Int32)), .val .null, .unset] [(.ref a1)])) rfl (hb hby own_d3_18)) ?_
  show own_Ok p e below _ (T106.setTop (mkF m 20 #[.val (.ref a1), .val (.ref ch), .val (.int (0 : Int32)), .val (.int (0 : Int32)), .val .null, .unset] [(.ref aS102), (.ref a1)]))
  have f108 := gC102.other W106 (Or.inl (Ne.symm ne_lit))
  obtain ⟨T107, X107, e107, st107⟩ := getF X106 hx hZ102 hown102 (host := "") (Or.inl (own_hw hw 26 rfl)) Via.refl e106 f108 (g := (mkF m 20 #[.val (.ref a1), .val (.ref ch), .val (.int (0 : Int32)), .val (.int (0 : Int32)), .val .null, .unset] [(.ref aS102), (.ref a1)])) rfl rfl (hb hby own_d3_20)
  refine own_st st107 ?_
  show own_Ok p e below _ (T107.setTop (mkF m 23 #[.val (.ref a1), .val (.ref ch), .val (.int (0 : Int32)), .val (.int (0 : Int32)), .val .null, .unset] [(.int (0 : Int32)), (.ref a1)]))
  have f109 := f104.wr W106
  have f110 := F1.ext E102
  have f111 := f110.other W106 (Or.inr (slot_ne (Or.inr (own_hw hw 22 rfl)) (Or.inr (own_hw hw 21 rfl)) (by decide) (t := .byte) (t' := (.array .byte)) (by decide) (by decide)))
  obtain ⟨T112, h112, X112, e112, W112, st112⟩ := putFN X107 hx hZ102 hown102 (own_hw hw 26 rfl) Via.refl e107 f111 f109 (Or.inr ⟨(own_hw hw 22 rfl), rfl, hnm⟩) (own_hw hw 6 rfl) (ty := .byte) (v' := (.int (0 : Int32))) (by decide) rfl (by decide) (g := (mkF m 23 #[.val (.ref a1), .val (.ref ch), .val (.int (0 : Int32)), .val (.int (0 : Int32)), .val .null, .unset] [(.int (0 : Int32)), (.ref a1)])) rfl rfl (hb hby own_d3_23)
  refine own_st st112 ?_
  have F112 := f111.same W112
  have N112 := Fr.snoc X112 N106 g1
  show own_Ok p e below _ (T112.setTop (mkF m 26 #[.val (.ref a1), .val (.ref ch), .val (.int (0 : Int32)), .val (.int (0 : Int32)), .val .null, .unset] []))
  have f113 := (Keep.refl h0 [a1]).ext E102
  have f114 := f113.wr W106 (Or.inl (by simp))
  have f115 := f114.wr W112 (Or.inl (by simp))
  have f116 := f109.wr W112
  have f117 := F106.other W112 (Or.inr (slot_ne (Or.inr (own_hw hw 21 rfl)) (Or.inr (own_hw hw 22 rfl)) (by decide) (t := (.array .byte)) (t' := .byte) (by decide) (by decide)))
  have f118 := gA102.other W106 (Ne.symm ne_litb)
  have f119 := f118.other W112 (Ne.symm ne_litb)
  have f120 := Nat.le_trans hk102 (Keep.of_wr W106).1
  have f121 := Nat.le_trans f120 (Keep.of_wr W112).1
  exact own_retVW X112 hS102 (by rw [e112]; exact f121) hx hlk Bd.returns (hb hby own_d3_26) (by rw [e112]; exact ⟨bS102, kS102, rfl, N112, f115, f116, F112, f117, f119⟩) (by decide) (by decide)
theorem own_ef_rm_ini1_0 (m : MethodId) (a1 : Addr) (ch : Addr) : entryFrame m #[(.ref a1), (.ref ch)] 2 = mkF m 0 #[.val (.ref a1), .val (.ref ch)] [] := by first | (simp [entryFrame, mkF, argsToLocals, Value.category]; done) | rfl
def Q_rm_ini1_0 (Z : State) (a1 : Addr) (ch : Addr) (kc : ClassId) (h0 : Heap) (n0 : Nat) (v : Option Value) (h : Heap) (L : List Loc) : Prop := ∃ (tb : Addr), ∃ (kb : ClassId), v = none ∧ Fr n0 L ∧ Keep h0 h [a1] ∧ Exa Z h a1 "java/lang/String" ∧ Fld Z h a1 "java/lang/String" "coder" "B" (.int (0 : Int32)) ∧ Fld Z h a1 "java/lang/String" "value" "[B" (.ref tb) ∧ Arv Z h tb kb .byte (0 : Int32) [] (.int (0 : Int32))
set_option maxRecDepth 65536 in
set_option maxHeartbeats 40000000 in
theorem rm_ini1_0 (l : Launch) (Z : State) (a0 : Array Value) (hw : ∀ d ∈ tables_1, d.before a0 Z = true) (ws : List Jvm.Cond) (a1 : Addr) (ch : Addr) (kc : ClassId) (h0 : Heap) (n0 : Nat) (O0 : Old Z n0 h0) (hcst : Jvm.Lit.constHeld Z "java/lang/String" 7) (hcw : Jvm.Lit.compactW.before a0 Z = true) (E1 : Exa Z h0 a1 "java/lang/String") (F1 : Fld Z h0 a1 "java/lang/String" "coder" "B" (.int (0 : Int32))) (F2 : Fld Z h0 a1 "java/lang/String" "value" "[B" .null) (g1 : n0 ≤ a1) (VC : Arv Z h0 ch kc .char (0 : Int32) [] (.int (0 : Int32))) :
    own_MetI l Z (⟨"java/lang/String", "<init>", "([C)V"⟩ : MethodName) jdk_42_method_3_code 2 none ws ({ frames := 2, cells := 2, slots := 4, locals := 29 } : Room) #[(.ref a1), (.ref ch)] h0 (Q_rm_ini1_0 Z a1 ch kc h0 n0) ([] : List String) := by
  refine MetFree.of_bodySF (plainFor_of_name own_pn2) hisR ?_
  intro p e s m args below meth c s₁ Bd hml0 hP hK
  obtain ⟨rfl, hZ, hh, hIB⟩ := hP
  have hx := Bd.exec
  have hby := Bd.bytes
  have hml : c.maxLocals = 2 := hml0
  have hown : s.vm.findClass "java/lang/String" = some m.cls := findClass_of_methodNamed Bd.named
  have hnm := (name_of_methodNamed Bd.named Bd.method).1
  have hlk : meth.locks = false := Bd.notSynchronized
  have X0 : Stand p l e ({ frames := 2, cells := 2, slots := 4, locals := 29 } : Room) (s.setVm s.vm) m #[(.ref a1), (.ref ch)] below meth c s₁ [] 0 0 := Stand.of_body Bd
  have hS : s.Since s.vm 0 := (State.WarmedH.refl s).since 0
  have hk0 : 0 ≤ h0.size := Nat.zero_le _
  have e0 : s₁.heap = h0 := by rw [← hh, Bd.state]; rfl
  have N0 := Fr.nil n0
  suffices hgo : own_Ok p e below (own_QxW s (Q_rm_ini1_0 Z a1 ch kc h0 n0) 2 4) (s₁.setTop (mkF m 0 #[.val (.ref a1), .val (.ref ch)] [])) from by
    obtain ⟨s₂, o, h1, h2⟩ := hgo
    exact ⟨s₂, o, castTop (own_ef_rm_ini1_0 m a1 ch) h1, h2⟩
  show own_Ok p e below _ (s₁.setTop (mkF m 0 #[.val (.ref a1), .val (.ref ch)] []))
  refine s_aloadN X0 hx (hb hby own_d2_0) rfl rfl ?_
  refine s_aloadN X0 hx (hb hby own_d2_1) rfl rfl ?_
  refine s_iconst X0 hx (0 : Int32) (hb hby own_d2_2) rfl ?_
  refine s_aloadN X0 hx (hb hby own_d2_3) rfl rfl ?_
  refine own_st (own_len X0 hx hZ e0 VC (g := (mkF m 4 #[.val (.ref a1), .val (.ref ch)] [(.ref ch), (.int (0 : Int32)), (.ref ch), (.ref a1)])) rfl rfl (hb hby own_d2_4)) ?_
  show own_Ok p e below _ (s₁.setTop (mkF m 5 #[.val (.ref a1), .val (.ref ch)] [(.int (0 : Int32)), (.int (0 : Int32)), (.ref ch), (.ref a1)]))
  refine s_aconstNull X0 hx (hb hby own_d2_5) ?_
  obtain ⟨_, _, ⟨T101, L101, k101, n101⟩, -, X101, S101, gg101, ⟨Lc101, hQ101, l101, y101, z101⟩, st101⟩ := X0.specialBackS hx (y := (⟨"java/lang/String", "<init>", "([CIILjava/lang/Void;)V"⟩ : MethodName)) rfl hown (mvT hZ (own_hw hw 12 rfl)) (mvT hZ (own_hw hw 13 rfl)) (mvT hZ (own_hw hw 15 rfl)) (by decide) (own_backOfS (W := 0) (rm_ini4_0 l Z a0 hw [] a1 ch h0 n0 O0 hcst hcw E1 F1 F2 g1) hIB hZ (own_hw hw 15 rfl) (own_hw hw 7 rfl) (by decide) (by decide)) (g := (mkF m 6 #[.val (.ref a1), .val (.ref ch)] [.null, (.int (0 : Int32)), (.int (0 : Int32)), (.ref ch), (.ref a1)])) rfl (by rw [hml]; rfl) (Steps.refl _) (a := a1) (argsL := [(.ref ch), (.int (0 : Int32)), (.int (0 : Int32)), .null]) (rest := []) (lenOf own_pd12 rfl) rfl (by show 2 * 0 + _ ≤ _; exact Nat.le_of_eq rfl) (hb hby own_d2_6) (fun _ _ => ⟨rfl, e0, (by decide : 0 + 2 ≤ _), (by decide : 0 + 4 ≤ _)⟩)
  dsimp only [Pt.U, Pt.locs, Pt.cells, Pt.slots] at X101 l101 y101 z101 st101 hQ101 S101 gg101
  subst l101 y101 z101
  obtain ⟨X101, hS101, hZ101, hown101⟩ := rebS hS (by rw [e0]; exact hk0) X101 S101 gg101 hZ hown
  obtain ⟨tb_101, kb_101, rfl, Nq101, K101, g101_0, g101_1, g101_2, g101_3⟩ := hQ101
  have N101 := Fr.app N0 Nq101
  refine own_st (fun _ k => st101.trans k) ?_
  have e101 : T101.heap = T101.heap := rfl
  show own_Ok p e below _ (T101.setTop (mkF m 9 #[.val (.ref a1), .val (.ref ch)] []))
  have f102 := (Keep.refl h0 [a1]).trans K101 (allS (Or.inl (by simp)) all0)
  exact own_retVW X101 hS101 (by rw [e101]; exact (Nat.le_refl T101.heap.size)) hx hlk Bd.returns (hb hby own_d2_9) (by rw [e101]; exact ⟨tb_101, kb_101, rfl, N101, f102, g101_0, g101_1, g101_2, g101_3⟩) (by decide) (by decide)
theorem own_d5_0 : decode prog_53_method_2_code 0 = .ok (.iconst 0, 1) := by decide +kernel
theorem own_d5_1 : decode prog_53_method_2_code 1 = .ok (.istore_n 1, 1) := by decide +kernel
theorem own_d5_2 : decode prog_53_method_2_code 2 = .ok (.iload_n 1, 1) := by decide +kernel
theorem own_d5_3 : decode prog_53_method_2_code 3 = .ok (.aload_n 0, 1) := by decide +kernel
theorem own_d5_4 : decode prog_53_method_2_code 4 = .ok (.invokevirtual 7, 3) := by decide +kernel
theorem own_pd13 : parseMethodDescriptor "()I" = some ⟨[], some .int⟩ := by decide +kernel
theorem own_d5_7 : decode prog_53_method_2_code 7 = .ok (.if_icmp .ge 36, 3) := by decide +kernel
theorem own_d5_43 : decode prog_53_method_2_code 43 = .ok (.iconst 1, 1) := by decide +kernel
theorem own_d5_44 : decode prog_53_method_2_code 44 = .ok (.ireturn, 1) := by decide +kernel
theorem own_ef_rm_isf0 (m : MethodId) (a1 : Addr) : entryFrame m #[(.ref a1)] 3 = mkF m 0 #[.val (.ref a1), .unset, .unset] [] := by first | (simp [entryFrame, mkF, argsToLocals, Value.category]; done) | rfl
def Q_rm_isf0 (Z : State) (G1 : Int32) (G3 : Value) (a1 : Addr) (t1 : Addr) (k1 : ClassId) (h0 : Heap) (n0 : Nat) (v : Option Value) (h : Heap) (L : List Loc) : Prop := v = some (.int (own_all ([] : List Int32))) ∧ Fr n0 L ∧ h = h0
theorem own_pn4 : plainName "com/example/rolemesh/rolemesh/client/HttpMessages" = true := by first | (simp [plainName, overriddenIn]; done) | decide +kernel
set_option maxRecDepth 65536 in
set_option maxHeartbeats 40000000 in
theorem rm_isf0 (l : Launch) (Z : State) (a0 : Array Value) (hw : ∀ d ∈ tables_1, d.before a0 Z = true) (ws : List Jvm.Cond) (G1 : Int32) (G3 : Value) (a1 : Addr) (t1 : Addr) (k1 : ClassId) (h0 : Heap) (n0 : Nat) (O0 : Old Z n0 h0) (hst : own_St Z G1 G3) (E1 : Exa Z h0 a1 "java/lang/String") (F1 : Fld Z h0 a1 "java/lang/String" "coder" "B" (.int (0 : Int32))) (F2 : Fld Z h0 a1 "java/lang/String" "value" "[B" (.ref t1)) (V1 : Arv Z h0 t1 k1 .byte (0 : Int32) [] (.int (0 : Int32))) :
    own_Met l Z (⟨"com/example/rolemesh/rolemesh/client/HttpMessages", "isFieldValue", "(Ljava/lang/String;)Z"⟩ : MethodName) prog_53_method_2_code 3 (some .boolean) ws ({ frames := 2, cells := 0, slots := 0, locals := 26 } : Room) #[(.ref a1)] h0 (Q_rm_isf0 Z G1 G3 a1 t1 k1 h0 n0) := by
  refine MetFree.of_bodySF (plainFor_of_name own_pn4) hisR ?_
  intro p e s m args below meth c s₁ Bd hml0 hP hK
  obtain ⟨rfl, hZ, hh⟩ := hP
  have hx := Bd.exec
  have hby := Bd.bytes
  have hml : c.maxLocals = 3 := hml0
  have hown : s.vm.findClass "com/example/rolemesh/rolemesh/client/HttpMessages" = some m.cls := findClass_of_methodNamed Bd.named
  have hnm := (name_of_methodNamed Bd.named Bd.method).1
  have hlk : meth.locks = false := Bd.notSynchronized
  have X0 : Stand p l e ({ frames := 2, cells := 0, slots := 0, locals := 26 } : Room) s m #[(.ref a1)] below meth c s₁ [] 0 0 := Stand.of_body Bd
  have e0 : s₁.heap = h0 := by rw [← hh, Bd.state]; rfl
  have N0 := Fr.nil n0
  suffices hgo : own_Ok p e below (own_Qx s (Q_rm_isf0 Z G1 G3 a1 t1 k1 h0 n0) 0 0) (s₁.setTop (mkF m 0 #[.val (.ref a1), .unset, .unset] [])) from by
    obtain ⟨s₂, o, h1, h2⟩ := hgo
    exact ⟨s₂, o, castTop (own_ef_rm_isf0 m a1) h1, h2⟩
  have hst' := hst
  obtain ⟨SG1, PG1, SG3, rG3, SAD, SHI, SLO⟩ := hst'
  have hln : ∀ d ∈ StrChars.Road.wordsLen, d.before a0 Z = true := fun d hd => hw d ((by decide +kernel : ∀ d ∈ StrChars.Road.wordsLen, d ∈ tables_1) d hd)
  have hcd : StrChars.Road.CodA ([] : List Int32) 0 (0 : Int32) [] := Or.inl ⟨rfl, rfl, rfl, by simp⟩
  have hbd : ∀ x ∈ ([] : List Int32), ¬ x < 0 ∧ ¬ (65535 : Int32) < x := by simp
  show own_Ok p e below _ (s₁.setTop (mkF m 0 #[.val (.ref a1), .unset, .unset] []))
  refine s_iconst X0 hx (0 : Int32) (hb hby own_d5_0) rfl ?_
  refine s_istoreN X0 hx (hb hby own_d5_1) #[.val (.ref a1), .val (.int (0 : Int32)), .unset] rfl ?_
  refine s_iloadN X0 hx (hb hby own_d5_2) rfl ?_
  refine s_aloadN X0 hx (hb hby own_d5_3) rfl rfl ?_
  obtain ⟨cq101, kq101, q101a, q101b, q101c⟩ := isOf hZ e0 E1
  obtain ⟨_, _, ⟨T101, L101, k101, n101⟩, -, X101, ⟨Lc101, hQ101, l101, y101, z101⟩, st101⟩ := X0.virtualBack hx (y := (⟨"java/lang/String", "length", "()I"⟩ : MethodName)) (z := (⟨"java/lang/String", "length", "()I"⟩ : MethodName)) hown (mvT hZ (own_hw hw 31 rfl)) (mvT hZ (own_hw hw 32 rfl)) (notFace_of_selects (args := #[]) (mvT hZ (own_hw hw 34 rfl))) (mvT hZ (own_hw hw 34 rfl)) (mvT hZ (own_hw hw 33 rfl)) (by decide) (StrChars.Road.lenW (W := 1) hZ hln (kI := 4) (own_hw hw 6 rfl) E1 F2 F1 V1 hcd hbd (SG1.ext O0.2) PG1 (Nat.le_of_ble_eq_true rfl) (by decide) (by decide)) q101a q101c (g := (mkF m 4 #[.val (.ref a1), .val (.int (0 : Int32)), .unset] [(.ref a1), (.int (0 : Int32))])) rfl (by rw [hml]; rfl) (Steps.refl _) (argsL := []) (rest := [(.int (0 : Int32))]) (lenOf own_pd13 rfl) rfl (by show 2 * 0 + _ ≤ _; exact Nat.le_of_eq rfl) (hb hby own_d5_4) (fun _ _ => ⟨rfl, e0, (by decide : 0 + 0 ≤ _), (by decide : 0 + 0 ≤ _)⟩)
  dsimp only [Pt.U, Pt.locs, Pt.cells, Pt.slots] at X101 l101 y101 z101 st101 hQ101
  subst l101 y101 z101
  obtain ⟨rfl, rfl, e101⟩ := hQ101
  have Nq101 : Fr n0 ([] : List Loc) := Fr.nil n0
  have N101 := Fr.app N0 Nq101
  refine own_st (fun _ k => st101.trans k) ?_
  show own_Ok p e below _ (T101.setTop (mkF m 7 #[.val (.ref a1), .val (.int (0 : Int32)), .unset] [(.int (0 : Int32)), (.int (0 : Int32))]))
  refine s_icmpYes X101 hx 43 (hb hby own_d5_7) (XT.ii_ge_t (by decide)) (by decide) (by decide) ?_
  refine s_iconst X101 hx (1 : Int32) (hb hby own_d5_43) rfl ?_
  exact own_retN X101 hx hlk (t := .boolean) Bd.returns (by simp) (hb hby own_d5_44) (by rw [e101]; exact ⟨by rw [(own_all_nil)]; rfl, N101, rfl⟩) (by decide) (by decide)
theorem own_d5_10 : decode prog_53_method_2_code 10 = .ok (.aload_n 0, 1) := by decide +kernel
theorem own_d5_11 : decode prog_53_method_2_code 11 = .ok (.iload_n 1, 1) := by decide +kernel
theorem own_d5_12 : decode prog_53_method_2_code 12 = .ok (.invokevirtual 13, 3) := by decide +kernel
theorem own_pd14 : parseMethodDescriptor "(I)C" = some ⟨[.int], some .char⟩ := by decide +kernel
theorem own_d5_15 : decode prog_53_method_2_code 15 = .ok (.istore_n 2, 1) := by decide +kernel
theorem own_d5_16 : decode prog_53_method_2_code 16 = .ok (.iload_n 2, 1) := by decide +kernel
theorem own_d5_17 : decode prog_53_method_2_code 17 = .ok (.bipush 32, 2) := by decide +kernel
theorem own_d5_19 : decode prog_53_method_2_code 19 = .ok (.if_icmp .lt 16, 3) := by decide +kernel
theorem own_d5_35 : decode prog_53_method_2_code 35 = .ok (.iconst 0, 1) := by decide +kernel
theorem own_d5_36 : decode prog_53_method_2_code 36 = .ok (.ireturn, 1) := by decide +kernel
theorem own_d5_22 : decode prog_53_method_2_code 22 = .ok (.iload_n 2, 1) := by decide +kernel
theorem own_d5_23 : decode prog_53_method_2_code 23 = .ok (.bipush 127, 2) := by decide +kernel
theorem own_d5_25 : decode prog_53_method_2_code 25 = .ok (.if_icmp .eq 10, 3) := by decide +kernel
theorem own_d5_28 : decode prog_53_method_2_code 28 = .ok (.iload_n 2, 1) := by decide +kernel
theorem own_d5_29 : decode prog_53_method_2_code 29 = .ok (.sipush 255, 3) := by decide +kernel
theorem own_d5_32 : decode prog_53_method_2_code 32 = .ok (.if_icmp .le 5, 3) := by decide +kernel
theorem own_d5_37 : decode prog_53_method_2_code 37 = .ok (.iinc 1 1, 3) := by decide +kernel
theorem own_d5_40 : decode prog_53_method_2_code 40 = .ok (.goto (-38), 3) := by decide +kernel
theorem own_ef_rm_isf1 (m : MethodId) (a1 : Addr) : entryFrame m #[(.ref a1)] 3 = mkF m 0 #[.val (.ref a1), .unset, .unset] [] := by first | (simp [entryFrame, mkF, argsToLocals, Value.category]; done) | rfl
def Q_rm_isf1 (Z : State) (G1 : Int32) (G3 : Value) (c0 : Int32) (a1 : Addr) (t1 : Addr) (k1 : ClassId) (h0 : Heap) (n0 : Nat) (v : Option Value) (h : Heap) (L : List Loc) : Prop := v = some (.int (own_all ([c0] : List Int32))) ∧ Fr n0 L ∧ h = h0
set_option maxRecDepth 65536 in
set_option maxHeartbeats 40000000 in
theorem rm_isf1 (l : Launch) (Z : State) (a0 : Array Value) (hw : ∀ d ∈ tables_1, d.before a0 Z = true) (ws : List Jvm.Cond) (G1 : Int32) (G3 : Value) (c0 : Int32) (a1 : Addr) (t1 : Addr) (k1 : ClassId) (h0 : Heap) (n0 : Nat) (O0 : Old Z n0 h0) (hst : own_St Z G1 G3) (E1 : Exa Z h0 a1 "java/lang/String") (F1 : Fld Z h0 a1 "java/lang/String" "coder" "B" (.int (0 : Int32))) (F2 : Fld Z h0 a1 "java/lang/String" "value" "[B" (.ref t1)) (V1 : Arv Z h0 t1 k1 .byte (1 : Int32) ((([c0] : List Int32).map (fun c => c.toInt8.toInt32)).map Value.int) (.int (0 : Int32))) (r0 : ¬ c0 < 0 ∧ ¬ (65535 : Int32) < c0) (p0 : ¬ (255 : Int32) < c0) :
    own_Met l Z (⟨"com/example/rolemesh/rolemesh/client/HttpMessages", "isFieldValue", "(Ljava/lang/String;)Z"⟩ : MethodName) prog_53_method_2_code 3 (some .boolean) ws ({ frames := 4, cells := 0, slots := 0, locals := 53 } : Room) #[(.ref a1)] h0 (Q_rm_isf1 Z G1 G3 c0 a1 t1 k1 h0 n0) := by
  refine MetFree.of_bodySF (plainFor_of_name own_pn4) hisR ?_
  intro p e s m args below meth c s₁ Bd hml0 hP hK
  obtain ⟨rfl, hZ, hh⟩ := hP
  have hx := Bd.exec
  have hby := Bd.bytes
  have hml : c.maxLocals = 3 := hml0
  have hown : s.vm.findClass "com/example/rolemesh/rolemesh/client/HttpMessages" = some m.cls := findClass_of_methodNamed Bd.named
  have hnm := (name_of_methodNamed Bd.named Bd.method).1
  have hlk : meth.locks = false := Bd.notSynchronized
  have X0 : Stand p l e ({ frames := 4, cells := 0, slots := 0, locals := 53 } : Room) s m #[(.ref a1)] below meth c s₁ [] 0 0 := Stand.of_body Bd
  have e0 : s₁.heap = h0 := by rw [← hh, Bd.state]; rfl
  have N0 := Fr.nil n0
  suffices hgo : own_Ok p e below (own_Qx s (Q_rm_isf1 Z G1 G3 c0 a1 t1 k1 h0 n0) 0 0) (s₁.setTop (mkF m 0 #[.val (.ref a1), .unset, .unset] [])) from by
    obtain ⟨s₂, o, h1, h2⟩ := hgo
    exact ⟨s₂, o, castTop (own_ef_rm_isf1 m a1) h1, h2⟩
  have hst' := hst
  obtain ⟨SG1, PG1, SG3, rG3, SAD, SHI, SLO⟩ := hst'
  have hln : ∀ d ∈ StrChars.Road.wordsLen, d.before a0 Z = true := fun d hd => hw d ((by decide +kernel : ∀ d ∈ StrChars.Road.wordsLen, d ∈ tables_1) d hd)
  have hch : ∀ d ∈ StrChars.Road.wordsChN, d.before a0 Z = true := fun d hd => hw d ((by decide +kernel : ∀ d ∈ StrChars.Road.wordsChN, d ∈ tables_1) d hd)
  have hp : ∀ x ∈ ([c0] : List Int32), ¬ x < 0 ∧ ¬ (255 : Int32) < x := by
    intro x hx
    simp only [List.mem_cons, List.not_mem_nil, or_false] at hx
    rcases hx with rfl
    exact ⟨r0.1, p0⟩
  have hcd : StrChars.Road.CodA ([c0] : List Int32) 0 (1 : Int32) ((([c0] : List Int32).map (fun c => c.toInt8.toInt32)).map Value.int) := StrChars.Road.codOf (n := 1) rfl (fun x hx => (hp x hx).2)
  have hbd := own_up hp
  show own_Ok p e below _ (s₁.setTop (mkF m 0 #[.val (.ref a1), .unset, .unset] []))
  refine s_iconst X0 hx (0 : Int32) (hb hby own_d5_0) rfl ?_
  refine s_istoreN X0 hx (hb hby own_d5_1) #[.val (.ref a1), .val (.int (0 : Int32)), .unset] rfl ?_
  refine s_iloadN X0 hx (hb hby own_d5_2) rfl ?_
  refine s_aloadN X0 hx (hb hby own_d5_3) rfl rfl ?_
  obtain ⟨cq101, kq101, q101a, q101b, q101c⟩ := isOf hZ e0 E1
  obtain ⟨_, _, ⟨T101, L101, k101, n101⟩, -, X101, ⟨Lc101, hQ101, l101, y101, z101⟩, st101⟩ := X0.virtualBack hx (y := (⟨"java/lang/String", "length", "()I"⟩ : MethodName)) (z := (⟨"java/lang/String", "length", "()I"⟩ : MethodName)) hown (mvT hZ (own_hw hw 31 rfl)) (mvT hZ (own_hw hw 32 rfl)) (notFace_of_selects (args := #[]) (mvT hZ (own_hw hw 34 rfl))) (mvT hZ (own_hw hw 34 rfl)) (mvT hZ (own_hw hw 33 rfl)) (by decide) (StrChars.Road.lenW (W := 1) hZ hln (kI := 4) (own_hw hw 6 rfl) E1 F2 F1 V1 hcd hbd (SG1.ext O0.2) PG1 (Nat.le_of_ble_eq_true rfl) (by decide) (by decide)) q101a q101c (g := (mkF m 4 #[.val (.ref a1), .val (.int (0 : Int32)), .unset] [(.ref a1), (.int (0 : Int32))])) rfl (by rw [hml]; rfl) (Steps.refl _) (argsL := []) (rest := [(.int (0 : Int32))]) (lenOf own_pd13 rfl) rfl (by show 2 * 0 + _ ≤ _; exact Nat.le_of_eq rfl) (hb hby own_d5_4) (fun _ _ => ⟨rfl, e0, (by decide : 0 + 0 ≤ _), (by decide : 0 + 0 ≤ _)⟩)
  dsimp only [Pt.U, Pt.locs, Pt.cells, Pt.slots] at X101 l101 y101 z101 st101 hQ101
  subst l101 y101 z101
  obtain ⟨rfl, rfl, e101⟩ := hQ101
  have Nq101 : Fr n0 ([] : List Loc) := Fr.nil n0
  have N101 := Fr.app N0 Nq101
  refine own_st (fun _ k => st101.trans k) ?_
  show own_Ok p e below _ (T101.setTop (mkF m 7 #[.val (.ref a1), .val (.int (0 : Int32)), .unset] [(.int (1 : Int32)), (.int (0 : Int32))]))
  refine s_icmpNo X101 hx (hb hby own_d5_7) (XT.ii_ge_f (by decide)) ?_
  refine s_aloadN X101 hx (hb hby own_d5_10) rfl rfl ?_
  refine s_iloadN X101 hx (hb hby own_d5_11) rfl ?_
  obtain ⟨cq102, kq102, q102a, q102b, q102c⟩ := isOf hZ e101 E1
  obtain ⟨_, _, ⟨T102, L102, k102, n102⟩, -, X102, ⟨Lc102, hQ102, l102, y102, z102⟩, st102⟩ := X101.virtualBack hx (y := (⟨"java/lang/String", "charAt", "(I)C"⟩ : MethodName)) (z := (⟨"java/lang/String", "charAt", "(I)C"⟩ : MethodName)) hown (mvT hZ (own_hw hw 55 rfl)) (mvT hZ (own_hw hw 56 rfl)) (notFace_of_selects (args := #[]) (mvT hZ (own_hw hw 58 rfl))) (mvT hZ (own_hw hw 58 rfl)) (mvT hZ (own_hw hw 57 rfl)) (by decide) (StrChars.Road.chN (W := 0) hZ hch (kI := 4) (own_hw hw 6 rfl) E1 F2 F1 V1 hcd hbd (SG1.ext O0.2) PG1 (SG3.ext O0.2) rG3 (Nat.le_of_ble_eq_true rfl) (i := 0) (Nat.le_of_ble_eq_true rfl) (j := (0 : Int32)) rfl (by decide) (by decide)) q102a q102c (g := (mkF m 12 #[.val (.ref a1), .val (.int (0 : Int32)), .unset] [(.int (0 : Int32)), (.ref a1)])) rfl (by rw [hml]; rfl) (Steps.refl _) (argsL := [(.int (0 : Int32))]) (rest := []) (lenOf own_pd14 rfl) rfl (by show 2 * 0 + _ ≤ _; exact Nat.le_of_eq rfl) (hb hby own_d5_12) (fun _ _ => ⟨rfl, e101, (by decide : 0 + 0 ≤ _), (by decide : 0 + 0 ≤ _)⟩)
  dsimp only [Pt.U, Pt.locs, Pt.cells, Pt.slots] at X102 l102 y102 z102 st102 hQ102
  subst l102 y102 z102
  obtain ⟨rfl, rfl, e102⟩ := hQ102
  have Nq102 : Fr n0 ([] : List Loc) := Fr.nil n0
  have N102 := Fr.app N101 Nq102
  refine own_st (fun _ k => st102.trans k) ?_
  show own_Ok p e below _ (T102.setTop (mkF m 15 #[.val (.ref a1), .val (.int (0 : Int32)), .unset] [(.int c0)]))
  refine s_istoreN X102 hx (hb hby own_d5_15) #[.val (.ref a1), .val (.int (0 : Int32)), .val (.int c0)] rfl ?_
  refine s_iloadN X102 hx (hb hby own_d5_16) rfl ?_
  refine s_bipush X102 hx (32 : Int32) (hb hby own_d5_17) rfl ?_
  by_cases c19_103 : c0 < (32 : Int32)
  · skip
    refine s_icmpYes X102 hx 35 (hb hby own_d5_19) (XT.ii_lt_t c19_103) (by decide) (by decide) ?_
    refine s_iconst X102 hx (0 : Int32) (hb hby own_d5_35) rfl ?_
    exact own_retN X102 hx hlk (t := .boolean) Bd.returns (by simp) (hb hby own_d5_36) (by rw [e102]; exact ⟨by rw [(own_all_no (own_ok_lt c19_103))]; rfl, N102, rfl⟩) (by decide) (by decide)
  · skip
    refine s_icmpNo X102 hx (hb hby own_d5_19) (XT.ii_lt_f c19_103) ?_
    refine s_iloadN X102 hx (hb hby own_d5_22) rfl ?_
    refine s_bipush X102 hx (127 : Int32) (hb hby own_d5_23) rfl ?_
    by_cases c25_104 : c0 = (127 : Int32)
    · skip
      refine s_icmpYes X102 hx 35 (hb hby own_d5_25) (XT.ii_eq_t c25_104) (by decide) (by decide) ?_
      refine s_iconst X102 hx (0 : Int32) (hb hby own_d5_35) rfl ?_
      exact own_retN X102 hx hlk (t := .boolean) Bd.returns (by simp) (hb hby own_d5_36) (by rw [e102]; exact ⟨by rw [(own_all_no (own_ok_127 c25_104))]; rfl, N102, rfl⟩) (by decide) (by decide)
    · skip
      refine s_icmpNo X102 hx (hb hby own_d5_25) (XT.ii_eq_f c25_104) ?_
      refine s_iloadN X102 hx (hb hby own_d5_28) rfl ?_
      refine s_sipush X102 hx (255 : Int32) (hb hby own_d5_29) rfl ?_
      refine s_icmpYes X102 hx 37 (hb hby own_d5_32) (XT.ii_le_t p0) (by decide) (by decide) ?_
      refine s_iinc X102 hx (1 : Int32) (hb hby own_d5_37) rfl rfl #[.val (.ref a1), .val (.int (1 : Int32)), .val (.int c0)] rfl ?_
      refine s_goto X102 hx 2 (hb hby own_d5_40) (by decide) (by decide) ?_
      refine s_iloadN X102 hx (hb hby own_d5_2) rfl ?_
      refine s_aloadN X102 hx (hb hby own_d5_3) rfl rfl ?_
      obtain ⟨cq105, kq105, q105a, q105b, q105c⟩ := isOf hZ e102 E1
      obtain ⟨_, _, ⟨T105, L105, k105, n105⟩, -, X105, ⟨Lc105, hQ105, l105, y105, z105⟩, st105⟩ := X102.virtualBack hx (y := (⟨"java/lang/String", "length", "()I"⟩ : MethodName)) (z := (⟨"java/lang/String", "length", "()I"⟩ : MethodName)) hown (mvT hZ (own_hw hw 31 rfl)) (mvT hZ (own_hw hw 32 rfl)) (notFace_of_selects (args := #[]) (mvT hZ (own_hw hw 34 rfl))) (mvT hZ (own_hw hw 34 rfl)) (mvT hZ (own_hw hw 33 rfl)) (by decide) (StrChars.Road.lenW (W := 1) hZ hln (kI := 4) (own_hw hw 6 rfl) E1 F2 F1 V1 hcd hbd (SG1.ext O0.2) PG1 (Nat.le_of_ble_eq_true rfl) (by decide) (by decide)) q105a q105c (g := (mkF m 4 #[.val (.ref a1), .val (.int (1 : Int32)), .val (.int c0)] [(.ref a1), (.int (1 : Int32))])) rfl (by rw [hml]; rfl) (Steps.refl _) (argsL := []) (rest := [(.int (1 : Int32))]) (lenOf own_pd13 rfl) rfl (by show 2 * 0 + _ ≤ _; exact Nat.le_of_eq rfl) (hb hby own_d5_4) (fun _ _ => ⟨rfl, e102, (by decide : 0 + 0 ≤ _), (by decide : 0 + 0 ≤ _)⟩)
      dsimp only [Pt.U, Pt.locs, Pt.cells, Pt.slots] at X105 l105 y105 z105 st105 hQ105
      subst l105 y105 z105
      obtain ⟨rfl, rfl, e105⟩ := hQ105
      have Nq105 : Fr n0 ([] : List Loc) := Fr.nil n0
      have N105 := Fr.app N102 Nq105
      refine own_st (fun _ k => st105.trans k) ?_
      show own_Ok p e below _ (T105.setTop (mkF m 7 #[.val (.ref a1), .val (.int (1 : Int32)), .val (.int c0)] [(.int (1 : Int32)), (.int (1 : Int32))]))
      refine s_icmpYes X105 hx 43 (hb hby own_d5_7) (XT.ii_ge_t (by decide)) (by decide) (by decide) ?_
      refine s_iconst X105 hx (1 : Int32) (hb hby own_d5_43) rfl ?_
      exact own_retN X105 hx hlk (t := .boolean) Bd.returns (by simp) (hb hby own_d5_44) (by rw [e105]; exact ⟨by rw [((own_all_yes (own_ok_in c19_103 c25_104 p0)).trans (own_all_nil))]; rfl, N105, rfl⟩) (by decide) (by decide)
theorem own_ef_rm_isf1u0 (m : MethodId) (a1 : Addr) : entryFrame m #[(.ref a1)] 3 = mkF m 0 #[.val (.ref a1), .unset, .unset] [] := by first | (simp [entryFrame, mkF, argsToLocals, Value.category]; done) | rfl
def Q_rm_isf1u0 (Z : State) (G1 : Int32) (G3 : Value) (c0 : Int32) (a1 : Addr) (t1 : Addr) (k1 : ClassId) (h0 : Heap) (n0 : Nat) (v : Option Value) (h : Heap) (L : List Loc) : Prop := v = some (.int (own_all ([c0] : List Int32))) ∧ Fr n0 L ∧ h = h0
set_option maxRecDepth 65536 in
set_option maxHeartbeats 40000000 in
theorem rm_isf1u0 (l : Launch) (Z : State) (a0 : Array Value) (hw : ∀ d ∈ tables_1, d.before a0 Z = true) (ws : List Jvm.Cond) (G1 : Int32) (G3 : Value) (c0 : Int32) (a1 : Addr) (t1 : Addr) (k1 : ClassId) (h0 : Heap) (n0 : Nat) (O0 : Old Z n0 h0) (hst : own_St Z G1 G3) (E1 : Exa Z h0 a1 "java/lang/String") (F1 : Fld Z h0 a1 "java/lang/String" "coder" "B" (.int (1 : Int32))) (F2 : Fld Z h0 a1 "java/lang/String" "value" "[B" (.ref t1)) (V1 : Arv Z h0 t1 k1 .byte (2 : Int32) [(.int (StrChars.lo8 c0)), (.int (StrChars.hi8 c0))] (.int (0 : Int32))) (r0 : ¬ c0 < 0 ∧ ¬ (65535 : Int32) < c0) (qf : (255 : Int32) < c0) :
    own_Met l Z (⟨"com/example/rolemesh/rolemesh/client/HttpMessages", "isFieldValue", "(Ljava/lang/String;)Z"⟩ : MethodName) prog_53_method_2_code 3 (some .boolean) ws ({ frames := 5, cells := 0, slots := 0, locals := 66 } : Room) #[(.ref a1)] h0 (Q_rm_isf1u0 Z G1 G3 c0 a1 t1 k1 h0 n0) := by
  refine MetFree.of_bodySF (plainFor_of_name own_pn4) hisR ?_
  intro p e s m args below meth c s₁ Bd hml0 hP hK
  obtain ⟨rfl, hZ, hh⟩ := hP
  have hx := Bd.exec
  have hby := Bd.bytes
  have hml : c.maxLocals = 3 := hml0
  have hown : s.vm.findClass "com/example/rolemesh/rolemesh/client/HttpMessages" = some m.cls := findClass_of_methodNamed Bd.named
  have hnm := (name_of_methodNamed Bd.named Bd.method).1
  have hlk : meth.locks = false := Bd.notSynchronized
  have X0 : Stand p l e ({ frames := 5, cells := 0, slots := 0, locals := 66 } : Room) s m #[(.ref a1)] below meth c s₁ [] 0 0 := Stand.of_body Bd
  have e0 : s₁.heap = h0 := by rw [← hh, Bd.state]; rfl
  have N0 := Fr.nil n0
  suffices hgo : own_Ok p e below (own_Qx s (Q_rm_isf1u0 Z G1 G3 c0 a1 t1 k1 h0 n0) 0 0) (s₁.setTop (mkF m 0 #[.val (.ref a1), .unset, .unset] [])) from by
    obtain ⟨s₂, o, h1, h2⟩ := hgo
    exact ⟨s₂, o, castTop (own_ef_rm_isf1u0 m a1) h1, h2⟩
  have hst' := hst
  obtain ⟨SG1, PG1, SG3, rG3, SAD, SHI, SLO⟩ := hst'
  have hln : ∀ d ∈ StrChars.Road.wordsLen, d.before a0 Z = true := fun d hd => hw d ((by decide +kernel : ∀ d ∈ StrChars.Road.wordsLen, d ∈ tables_1) d hd)
  have hcd : StrChars.Road.CodA ([c0] : List Int32) 1 (2 : Int32) (StrChars.Road.wideBytes ([c0] : List Int32)) := Or.inr ⟨rfl, rfl, rfl, c0, by simp, qf⟩
  have hbd : ∀ x ∈ ([c0] : List Int32), ¬ x < 0 ∧ ¬ (65535 : Int32) < x := by
    intro x hx
    simp only [List.mem_cons, List.not_mem_nil, or_false] at hx
    rcases hx with rfl
    exact r0
  show own_Ok p e below _ (s₁.setTop (mkF m 0 #[.val (.ref a1), .unset, .unset] []))
  refine s_iconst X0 hx (0 : Int32) (hb hby own_d5_0) rfl ?_
  refine s_istoreN X0 hx (hb hby own_d5_1) #[.val (.ref a1), .val (.int (0 : Int32)), .unset] rfl ?_
  refine s_iloadN X0 hx (hb hby own_d5_2) rfl ?_
  refine s_aloadN X0 hx (hb hby own_d5_3) rfl rfl ?_
  obtain ⟨cq101, kq101, q101a, q101b, q101c⟩ := isOf hZ e0 E1
  obtain ⟨_, _, ⟨T101, L101, k101, n101⟩, -, X101, ⟨Lc101, hQ101, l101, y101, z101⟩, st101⟩ := X0.virtualBack hx (y := (⟨"java/lang/String", "length", "()I"⟩ : MethodName)) (z := (⟨"java/lang/String", "length", "()I"⟩ : MethodName)) hown (mvT hZ (own_hw hw 31 rfl)) (mvT hZ (own_hw hw 32 rfl)) (notFace_of_selects (args := #[]) (mvT hZ (own_hw hw 34 rfl))) (mvT hZ (own_hw hw 34 rfl)) (mvT hZ (own_hw hw 33 rfl)) (by decide) (StrChars.Road.lenW (W := 1) hZ hln (kI := 4) (own_hw hw 6 rfl) E1 F2 F1 V1 hcd hbd (SG1.ext O0.2) PG1 (Nat.le_of_ble_eq_true rfl) (by decide) (by decide)) q101a q101c (g := (mkF m 4 #[.val (.ref a1), .val (.int (0 : Int32)), .unset] [(.ref a1), (.int (0 : Int32))])) rfl (by rw [hml]; rfl) (Steps.refl _) (argsL := []) (rest := [(.int (0 : Int32))]) (lenOf own_pd13 rfl) rfl (by show 2 * 0 + _ ≤ _; exact Nat.le_of_eq rfl) (hb hby own_d5_4) (fun _ _ => ⟨rfl, e0, (by decide : 0 + 0 ≤ _), (by decide : 0 + 0 ≤ _)⟩)
  dsimp only [Pt.U, Pt.locs, Pt.cells, Pt.slots] at X101 l101 y101 z101 st101 hQ101
  subst l101 y101 z101
  obtain ⟨rfl, rfl, e101⟩ := hQ101
  have Nq101 : Fr n0 ([] : List Loc) := Fr.nil n0
  have N101 := Fr.app N0 Nq101
  refine own_st (fun _ k => st101.trans k) ?_
  show own_Ok p e below _ (T101.setTop (mkF m 7 #[.val (.ref a1), .val (.int (0 : Int32)), .unset] [(.int (1 : Int32)), (.int (0 : Int32))]))
  refine s_icmpNo X101 hx (hb hby own_d5_7) (XT.ii_ge_f (by decide)) ?_
  refine s_aloadN X101 hx (hb hby own_d5_10) rfl rfl ?_
  refine s_iloadN X101 hx (hb hby own_d5_11) rfl ?_
  obtain ⟨_, T102, Lc102, X102, hQ102, st102⟩ := own_callV X101 hx hZ hown (own_hw hw 55 rfl) (own_hw hw 56 rfl) (own_hw hw 58 rfl) (own_hw hw 58 rfl) (own_hw hw 57 rfl) (own_hw hw 7 rfl) (own_hw hw 59 rfl) (rm_sch10 l Z a0 hw [] G1 G3 c0 a1 t1 k1 h0 n0 O0 hst r0 E1 F1 F2 V1) (by decide) e101 E1 (Ls := #[.val (.ref a1), .val (.int (0 : Int32)), .unset]) [(.int (0 : Int32))] [] rfl (by rw [hml]; rfl) (lenOf own_pd14 rfl) (hb hby own_d5_12) (by decide) 0 rfl (by decide) (by decide) (by decide)
  obtain ⟨rfl, Nq102, e102⟩ := hQ102
  have N102 := Fr.app N101 Nq102
  refine st102 _ ?_
  show own_Ok p e below _ (T102.setTop (mkF m 15 #[.val (.ref a1), .val (.int (0 : Int32)), .unset] [(.int c0)]))
  refine s_istoreN X102 hx (hb hby own_d5_15) #[.val (.ref a1), .val (.int (0 : Int32)), .val (.int c0)] rfl ?_
  refine s_iloadN X102 hx (hb hby own_d5_16) rfl ?_
  refine s_bipush X102 hx (32 : Int32) (hb hby own_d5_17) rfl ?_
  by_cases c19_103 : c0 < (32 : Int32)
  · skip
    refine s_icmpYes X102 hx 35 (hb hby own_d5_19) (XT.ii_lt_t c19_103) (by decide) (by decide) ?_
    refine s_iconst X102 hx (0 : Int32) (hb hby own_d5_35) rfl ?_
    exact own_retN X102 hx hlk (t := .boolean) Bd.returns (by simp) (hb hby own_d5_36) (by rw [e102]; exact ⟨by rw [(own_all_no (own_ok_lt c19_103))]; rfl, N102, rfl⟩) (by decide) (by decide)
  · skip
    refine s_icmpNo X102 hx (hb hby own_d5_19) (XT.ii_lt_f c19_103) ?_
    refine s_iloadN X102 hx (hb hby own_d5_22) rfl ?_
    refine s_bipush X102 hx (127 : Int32) (hb hby own_d5_23) rfl ?_
    by_cases c25_104 : c0 = (127 : Int32)
    · skip
      refine s_icmpYes X102 hx 35 (hb hby own_d5_25) (XT.ii_eq_t c25_104) (by decide) (by decide) ?_
      refine s_iconst X102 hx (0 : Int32) (hb hby own_d5_35) rfl ?_
      exact own_retN X102 hx hlk (t := .boolean) Bd.returns (by simp) (hb hby own_d5_36) (by rw [e102]; exact ⟨by rw [(own_all_no (own_ok_127 c25_104))]; rfl, N102, rfl⟩) (by decide) (by decide)
    · skip
      refine s_icmpNo X102 hx (hb hby own_d5_25) (XT.ii_eq_f c25_104) ?_
      refine s_iloadN X102 hx (hb hby own_d5_28) rfl ?_
      refine s_sipush X102 hx (255 : Int32) (hb hby own_d5_29) rfl ?_
      refine s_icmpNo X102 hx (hb hby own_d5_32) (XT.ii_le_f qf) ?_
      refine s_iconst X102 hx (0 : Int32) (hb hby own_d5_35) rfl ?_
      exact own_retN X102 hx hlk (t := .boolean) Bd.returns (by simp) (hb hby own_d5_36) (by rw [e102]; exact ⟨by rw [(own_all_no (own_ok_gt qf))]; rfl, N102, rfl⟩) (by decide) (by decide)
theorem own_ef_rm_isf2 (m : MethodId) (a1 : Addr) : entryFrame m #[(.ref a1)] 3 = mkF m 0 #[.val (.ref a1), .unset, .unset] [] := by first | (simp [entryFrame, mkF, argsToLocals, Value.category]; done) | rfl
def Q_rm_isf2 (Z : State) (G1 : Int32) (G3 : Value) (c0 : Int32) (c1 : Int32) (a1 : Addr) (t1 : Addr) (k1 : ClassId) (h0 : Heap) (n0 : Nat) (v : Option Value) (h : Heap) (L : List Loc) : Prop := v = some (.int (own_all ([c0, c1] : List Int32))) ∧ Fr n0 L ∧ h = h0
set_option maxRecDepth 65536 in
set_option maxHeartbeats 40000000 in
theorem rm_isf2 (l : Launch) (Z : State) (a0 : Array Value) (hw : ∀ d ∈ tables_1, d.before a0 Z = true) (ws : List Jvm.Cond) (G1 : Int32) (G3 : Value) (c0 : Int32) (c1 : Int32) (a1 : Addr) (t1 : Addr) (k1 : ClassId) (h0 : Heap) (n0 : Nat) (O0 : Old Z n0 h0) (hst : own_St Z G1 G3) (E1 : Exa Z h0 a1 "java/lang/String") (F1 : Fld Z h0 a1 "java/lang/String" "coder" "B" (.int (0 : Int32))) (F2 : Fld Z h0 a1 "java/lang/String" "value" "[B" (.ref t1)) (V1 : Arv Z h0 t1 k1 .byte (2 : Int32) ((([c0, c1] : List Int32).map (fun c => c.toInt8.toInt32)).map Value.int) (.int (0 : Int32))) (r0 : ¬ c0 < 0 ∧ ¬ (65535 : Int32) < c0) (r1 : ¬ c1 < 0 ∧ ¬ (65535 : Int32) < c1) (p0 : ¬ (255 : Int32) < c0) (p1 : ¬ (255 : Int32) < c1) :
    own_Met l Z (⟨"com/example/rolemesh/rolemesh/client/HttpMessages", "isFieldValue", "(Ljava/lang/String;)Z"⟩ : MethodName) prog_53_method_2_code 3 (some .boolean) ws ({ frames := 4, cells := 0, slots := 0, locals := 53 } : Room) #[(.ref a1)] h0 (Q_rm_isf2 Z G1 G3 c0 c1 a1 t1 k1 h0 n0) := by
  refine MetFree.of_bodySF (plainFor_of_name own_pn4) hisR ?_
  intro p e s m args below meth c s₁ Bd hml0 hP hK
  obtain ⟨rfl, hZ, hh⟩ := hP
  have hx := Bd.exec
  have hby := Bd.bytes
  have hml : c.maxLocals = 3 := hml0
  have hown : s.vm.findClass "com/example/rolemesh/rolemesh/client/HttpMessages" = some m.cls := findClass_of_methodNamed Bd.named
  have hnm := (name_of_methodNamed Bd.named Bd.method).1
  have hlk : meth.locks = false := Bd.notSynchronized
  have X0 : Stand p l e ({ frames := 4, cells := 0, slots := 0, locals := 53 } : Room) s m #[(.ref a1)] below meth c s₁ [] 0 0 := Stand.of_body Bd
  have e0 : s₁.heap = h0 := by rw [← hh, Bd.state]; rfl
  have N0 := Fr.nil n0
  suffices hgo : own_Ok p e below (own_Qx s (Q_rm_isf2 Z G1 G3 c0 c1 a1 t1 k1 h0 n0) 0 0) (s₁.setTop (mkF m 0 #[.val (.ref a1), .unset, .unset] [])) from by
    obtain ⟨s₂, o, h1, h2⟩ := hgo
    exact ⟨s₂, o, castTop (own_ef_rm_isf2 m a1) h1, h2⟩
  have hst' := hst
  obtain ⟨SG1, PG1, SG3, rG3, SAD, SHI, SLO⟩ := hst'
  have hln : ∀ d ∈ StrChars.Road.wordsLen, d.before a0 Z = true := fun d hd => hw d ((by decide +kernel : ∀ d ∈ StrChars.Road.wordsLen, d ∈ tables_1) d hd)
  have hch : ∀ d ∈ StrChars.Road.wordsChN, d.before a0 Z = true := fun d hd => hw d ((by decide +kernel : ∀ d ∈ StrChars.Road.wordsChN, d ∈ tables_1) d hd)
  have hp : ∀ x ∈ ([c0, c1] : List Int32), ¬ x < 0 ∧ ¬ (255 : Int32) < x := by
    intro x hx
    simp only [List.mem_cons, List.not_mem_nil, or_false] at hx
    rcases hx with rfl | rfl
    · exact ⟨r0.1, p0⟩
    · exact ⟨r1.1, p1⟩
  have hcd : StrChars.Road.CodA ([c0, c1] : List Int32) 0 (2 : Int32) ((([c0, c1] : List Int32).map (fun c => c.toInt8.toInt32)).map Value.int) := StrChars.Road.codOf (n := 2) rfl (fun x hx => (hp x hx).2)
  have hbd := own_up hp
  show own_Ok p e below _ (s₁.setTop (mkF m 0 #[.val (.ref a1), .unset, .unset] []))
  refine s_iconst X0 hx (0 : Int32) (hb hby own_d5_0) rfl ?_
  refine s_istoreN X0 hx (hb hby own_d5_1) #[.val (.ref a1), .val (.int (0 : Int32)), .unset] rfl ?_
  refine s_iloadN X0 hx (hb hby own_d5_2) rfl ?_
  refine s_aloadN X0 hx (hb hby own_d5_3) rfl rfl ?_
  obtain ⟨cq101, kq101, q101a, q101b, q101c⟩ := isOf hZ e0 E1
  obtain ⟨_, _, ⟨T101, L101, k101, n101⟩, -, X101, ⟨Lc101, hQ101, l101, y101, z101⟩, st101⟩ := X0.virtualBack hx (y := (⟨"java/lang/String", "length", "()I"⟩ : MethodName)) (z := (⟨"java/lang/String", "length", "()I"⟩ : MethodName)) hown (mvT hZ (own_hw hw 31 rfl)) (mvT hZ (own_hw hw 32 rfl)) (notFace_of_selects (args := #[]) (mvT hZ (own_hw hw 34 rfl))) (mvT hZ (own_hw hw 34 rfl)) (mvT hZ (own_hw hw 33 rfl)) (by decide) (StrChars.Road.lenW (W := 1) hZ hln (kI := 4) (own_hw hw 6 rfl) E1 F2 F1 V1 hcd hbd (SG1.ext O0.2) PG1 (Nat.le_of_ble_eq_true rfl) (by decide) (by decide)) q101a q101c (g := (mkF m 4 #[.val (.ref a1), .val (.int (0 : Int32)), .unset] [(.ref a1), (.int (0 : Int32))])) rfl (by rw [hml]; rfl) (Steps.refl _) (argsL := []) (rest := [(.int (0 : Int32))]) (lenOf own_pd13 rfl) rfl (by show 2 * 0 + _ ≤ _; exact Nat.le_of_eq rfl) (hb hby own_d5_4) (fun _ _ => ⟨rfl, e0, (by decide : 0 + 0 ≤ _), (by decide : 0 + 0 ≤ _)⟩)
  dsimp only [Pt.U, Pt.locs, Pt.cells, Pt.slots] at X101 l101 y101 z101 st101 hQ101
  subst l101 y101 z101
  obtain ⟨rfl, rfl, e101⟩ := hQ101
  have Nq101 : Fr n0 ([] : List Loc) := Fr.nil n0
  have N101 := Fr.app N0 Nq101
  refine own_st (fun _ k => st101.trans k) ?_
  show own_Ok p e below _ (T101.setTop (mkF m 7 #[.val (.ref a1), .val (.int (0 : Int32)), .unset] [(.int (2 : Int32)), (.int (0 : Int32))]))
  refine s_icmpNo X101 hx (hb hby own_d5_7) (XT.ii_ge_f (by decide)) ?_
  refine s_aloadN X101 hx (hb hby own_d5_10) rfl rfl ?_
  refine s_iloadN X101 hx (hb hby own_d5_11) rfl ?_
  obtain ⟨cq102, kq102, q102a, q102b, q102c⟩ := isOf hZ e101 E1
  obtain ⟨_, _, ⟨T102, L102, k102, n102⟩, -, X102, ⟨Lc102, hQ102, l102, y102, z102⟩, st102⟩ := X101.virtualBack hx (y := (⟨"java/lang/String", "charAt", "(I)C"⟩ : MethodName)) (z := (⟨"java/lang/String", "charAt", "(I)C"⟩ : MethodName)) hown (mvT hZ (own_hw hw 55 rfl)) (mvT hZ (own_hw hw 56 rfl)) (notFace_of_selects (args := #[]) (mvT hZ (own_hw hw 58 rfl))) (mvT hZ (own_hw hw 58 rfl)) (mvT hZ (own_hw hw 57 rfl)) (by decide) (StrChars.Road.chN (W := 0) hZ hch (kI := 4) (own_hw hw 6 rfl) E1 F2 F1 V1 hcd hbd (SG1.ext O0.2) PG1 (SG3.ext O0.2) rG3 (Nat.le_of_ble_eq_true rfl) (i := 0) (Nat.le_of_ble_eq_true rfl) (j := (0 : Int32)) rfl (by decide) (by decide)) q102a q102c (g := (mkF m 12 #[.val (.ref a1), .val (.int (0 : Int32)), .unset] [(.int (0 : Int32)), (.ref a1)])) rfl (by rw [hml]; rfl) (Steps.refl _) (argsL := [(.int (0 : Int32))]) (rest := []) (lenOf own_pd14 rfl) rfl (by show 2 * 0 + _ ≤ _; exact Nat.le_of_eq rfl) (hb hby own_d5_12) (fun _ _ => ⟨rfl, e101, (by decide : 0 + 0 ≤ _), (by decide : 0 + 0 ≤ _)⟩)
  dsimp only [Pt.U, Pt.locs, Pt.cells, Pt.slots] at X102 l102 y102 z102 st102 hQ102
  subst l102 y102 z102
  obtain ⟨rfl, rfl, e102⟩ := hQ102
  have Nq102 : Fr n0 ([] : List Loc) := Fr.nil n0
  have N102 := Fr.app N101 Nq102
  refine own_st (fun _ k => st102.trans k) ?_
  show own_Ok p e below _ (T102.setTop (mkF m 15 #[.val (.ref a1), .val (.int (0 : Int32)), .unset] [(.int c0)]))
  refine s_istoreN X102 hx (hb hby own_d5_15) #[.val (.ref a1), .val (.int (0 : Int32)), .val (.int c0)] rfl ?_
  refine s_iloadN X102 hx (hb hby own_d5_16) rfl ?_
  refine s_bipush X102 hx (32 : Int32) (hb hby own_d5_17) rfl ?_
  by_cases c19_103 : c0 < (32 : Int32)
  · skip
    refine s_icmpYes X102 hx 35 (hb hby own_d5_19) (XT.ii_lt_t c19_103) (by decide) (by decide) ?_
    refine s_iconst X102 hx (0 : Int32) (hb hby own_d5_35) rfl ?_
    exact own_retN X102 hx hlk (t := .boolean) Bd.returns (by simp) (hb hby own_d5_36) (by rw [e102]; exact ⟨by rw [(own_all_no (own_ok_lt c19_103))]; rfl, N102, rfl⟩) (by decide) (by decide)
  · skip
    refine s_icmpNo X102 hx (hb hby own_d5_19) (XT.ii_lt_f c19_103) ?_
    refine s_iloadN X102 hx (hb hby own_d5_22) rfl ?_
    refine s_bipush X102 hx (127 : Int32) (hb hby own_d5_23) rfl ?_
    by_cases c25_104 : c0 = (127 : Int32)
    · skip
      refine s_icmpYes X102 hx 35 (hb hby own_d5_25) (XT.ii_eq_t c25_104) (by decide) (by decide) ?_
      refine s_iconst X102 hx (0 : Int32) (hb hby own_d5_35) rfl ?_
      exact own_retN X102 hx hlk (t := .boolean) Bd.returns (by simp) (hb hby own_d5_36) (by rw [e102]; exact ⟨by rw [(own_all_no (own_ok_127 c25_104))]; rfl, N102, rfl⟩) (by decide) (by decide)
    · skip
      refine s_icmpNo X102 hx (hb hby own_d5_25) (XT.ii_eq_f c25_104) ?_
      refine s_iloadN X102 hx (hb hby own_d5_28) rfl ?_
      refine s_sipush X102 hx (255 : Int32) (hb hby own_d5_29) rfl ?_
      refine s_icmpYes X102 hx 37 (hb hby own_d5_32) (XT.ii_le_t p0) (by decide) (by decide) ?_
      refine s_iinc X102 hx (1 : Int32) (hb hby own_d5_37) rfl rfl #[.val (.ref a1), .val (.int (1 : Int32)), .val (.int c0)] rfl ?_
      refine s_goto X102 hx 2 (hb hby own_d5_40) (by decide) (by decide) ?_
      refine s_iloadN X102 hx (hb hby own_d5_2) rfl ?_
      refine s_aloadN X102 hx (hb hby own_d5_3) rfl rfl ?_
      obtain ⟨cq105, kq105, q105a, q105b, q105c⟩ := isOf hZ e102 E1
      obtain ⟨_, _, ⟨T105, L105, k105, n105⟩, -, X105, ⟨Lc105, hQ105, l105, y105, z105⟩, st105⟩ := X102.virtualBack hx (y := (⟨"java/lang/String", "length", "()I"⟩ : MethodName)) (z := (⟨"java/lang/String", "length", "()I"⟩ : MethodName)) hown (mvT hZ (own_hw hw 31 rfl)) (mvT hZ (own_hw hw 32 rfl)) (notFace_of_selects (args := #[]) (mvT hZ (own_hw hw 34 rfl))) (mvT hZ (own_hw hw 34 rfl)) (mvT hZ (own_hw hw 33 rfl)) (by decide) (StrChars.Road.lenW (W := 1) hZ hln (kI := 4) (own_hw hw 6 rfl) E1 F2 F1 V1 hcd hbd (SG1.ext O0.2) PG1 (Nat.le_of_ble_eq_true rfl) (by decide) (by decide)) q105a q105c (g := (mkF m 4 #[.val (.ref a1), .val (.int (1 : Int32)), .val (.int c0)] [(.ref a1), (.int (1 : Int32))])) rfl (by rw [hml]; rfl) (Steps.refl _) (argsL := []) (rest := [(.int (1 : Int32))]) (lenOf own_pd13 rfl) rfl (by show 2 * 0 + _ ≤ _; exact Nat.le_of_eq rfl) (hb hby own_d5_4) (fun _ _ => ⟨rfl, e102, (by decide : 0 + 0 ≤ _), (by decide : 0 + 0 ≤ _)⟩)
      dsimp only [Pt.U, Pt.locs, Pt.cells, Pt.slots] at X105 l105 y105 z105 st105 hQ105
      subst l105 y105 z105
      obtain ⟨rfl, rfl, e105⟩ := hQ105
      have Nq105 : Fr n0 ([] : List Loc) := Fr.nil n0
      have N105 := Fr.app N102 Nq105
      refine own_st (fun _ k => st105.trans k) ?_
      show own_Ok p e below _ (T105.setTop (mkF m 7 #[.val (.ref a1), .val (.int (1 : Int32)), .val (.int c0)] [(.int (2 : Int32)), (.int (1 : Int32))]))
      refine s_icmpNo X105 hx (hb hby own_d5_7) (XT.ii_ge_f (by decide)) ?_
      refine s_aloadN X105 hx (hb hby own_d5_10) rfl rfl ?_
      refine s_iloadN X105 hx (hb hby own_d5_11) rfl ?_
      obtain ⟨cq106, kq106, q106a, q106b, q106c⟩ := isOf hZ e105 E1
      obtain ⟨_, _, ⟨T106, L106, k106, n106⟩, -, X106, ⟨Lc106, hQ106, l106, y106, z106⟩, st106⟩ := X105.virtualBack hx (y := (⟨"java/lang/String", "charAt", "(I)C"⟩ : MethodName)) (z := (⟨"java/lang/String", "charAt", "(I)C"⟩ : MethodName)) hown (mvT hZ (own_hw hw 55 rfl)) (mvT hZ (own_hw hw 56 rfl)) (notFace_of_selects (args := #[]) (mvT hZ (own_hw hw 58 rfl))) (mvT hZ (own_hw hw 58 rfl)) (mvT hZ (own_hw hw 57 rfl)) (by decide) (StrChars.Road.chN (W := 0) hZ hch (kI := 4) (own_hw hw 6 rfl) E1 F2 F1 V1 hcd hbd (SG1.ext O0.2) PG1 (SG3.ext O0.2) rG3 (Nat.le_of_ble_eq_true rfl) (i := 1) (Nat.le_of_ble_eq_true rfl) (j := (1 : Int32)) rfl (by decide) (by decide)) q106a q106c (g := (mkF m 12 #[.val (.ref a1), .val (.int (1 : Int32)), .val (.int c0)] [(.int (1 : Int32)), (.ref a1)])) rfl (by rw [hml]; rfl) (Steps.refl _) (argsL := [(.int (1 : Int32))]) (rest := []) (lenOf own_pd14 rfl) rfl (by show 2 * 0 + _ ≤ _; exact Nat.le_of_eq rfl) (hb hby own_d5_12) (fun _ _ => ⟨rfl, e105, (by decide : 0 + 0 ≤ _), (by decide : 0 + 0 ≤ _)⟩)
      dsimp only [Pt.U, Pt.locs, Pt.cells, Pt.slots] at X106 l106 y106 z106 st106 hQ106
      subst l106 y106 z106
      obtain ⟨rfl, rfl, e106⟩ := hQ106
      have Nq106 : Fr n0 ([] : List Loc) := Fr.nil n0
      have N106 := Fr.app N105 Nq106
      refine own_st (fun _ k => st106.trans k) ?_
      show own_Ok p e below _ (T106.setTop (mkF m 15 #[.val (.ref a1), .val (.int (1 : Int32)), .val (.int c0)] [(.int c1)]))
      refine s_istoreN X106 hx (hb hby own_d5_15) #[.val (.ref a1), .val (.int (1 : Int32)), .val (.int c1)] rfl ?_
      refine s_iloadN X106 hx (hb hby own_d5_16) rfl ?_
      refine s_bipush X106 hx (32 : Int32) (hb hby own_d5_17) rfl ?_
      by_cases c19_107 : c1 < (32 : Int32)
      · skip
        refine s_icmpYes X106 hx 35 (hb hby own_d5_19) (XT.ii_lt_t c19_107) (by decide) (by decide) ?_
        refine s_iconst X106 hx (0 : Int32) (hb hby own_d5_35) rfl ?_
        exact own_retN X106 hx hlk (t := .boolean) Bd.returns (by simp) (hb hby own_d5_36) (by rw [e106]; exact ⟨by rw [((own_all_yes (own_ok_in c19_103 c25_104 p0)).trans (own_all_no (own_ok_lt c19_107)))]; rfl, N106, rfl⟩) (by decide) (by decide)
      · skip
        refine s_icmpNo X106 hx (hb hby own_d5_19) (XT.ii_lt_f c19_107) ?_
        refine s_iloadN X106 hx (hb hby own_d5_22) rfl ?_
        refine s_bipush X106 hx (127 : Int32) (hb hby own_d5_23) rfl ?_
        by_cases c25_108 : c1 = (127 : Int32)
        · skip
          refine s_icmpYes X106 hx 35 (hb hby own_d5_25) (XT.ii_eq_t c25_108) (by decide) (by decide) ?_
          refine s_iconst X106 hx (0 : Int32) (hb hby own_d5_35) rfl ?_
          exact own_retN X106 hx hlk (t := .boolean) Bd.returns (by simp) (hb hby own_d5_36) (by rw [e106]; exact ⟨by rw [((own_all_yes (own_ok_in c19_103 c25_104 p0)).trans (own_all_no (own_ok_127 c25_108)))]; rfl, N106, rfl⟩) (by decide) (by decide)
        · skip
          refine s_icmpNo X106 hx (hb hby own_d5_25) (XT.ii_eq_f c25_108) ?_
          refine s_iloadN X106 hx (hb hby own_d5_28) rfl ?_
          refine s_sipush X106 hx (255 : Int32) (hb hby own_d5_29) rfl ?_
          refine s_icmpYes X106 hx 37 (hb hby own_d5_32) (XT.ii_le_t p1) (by decide) (by decide) ?_
          refine s_iinc X106 hx (1 : Int32) (hb hby own_d5_37) rfl rfl #[.val (.ref a1), .val (.int (2 : Int32)), .val (.int c1)] rfl ?_
          refine s_goto X106 hx 2 (hb hby own_d5_40) (by decide) (by decide) ?_
          refine s_iloadN X106 hx (hb hby own_d5_2) rfl ?_
          refine s_aloadN X106 hx (hb hby own_d5_3) rfl rfl ?_
          obtain ⟨cq109, kq109, q109a, q109b, q109c⟩ := isOf hZ e106 E1
          obtain ⟨_, _, ⟨T109, L109, k109, n109⟩, -, X109, ⟨Lc109, hQ109, l109, y109, z109⟩, st109⟩ := X106.virtualBack hx (y := (⟨"java/lang/String", "length", "()I"⟩ : MethodName)) (z := (⟨"java/lang/String", "length", "()I"⟩ : MethodName)) hown (mvT hZ (own_hw hw 31 rfl)) (mvT hZ (own_hw hw 32 rfl)) (notFace_of_selects (args := #[]) (mvT hZ (own_hw hw 34 rfl))) (mvT hZ (own_hw hw 34 rfl)) (mvT hZ (own_hw hw 33 rfl)) (by decide) (StrChars.Road.lenW (W := 1) hZ hln (kI := 4) (own_hw hw 6 rfl) E1 F2 F1 V1 hcd hbd (SG1.ext O0.2) PG1 (Nat.le_of_ble_eq_true rfl) (by decide) (by decide)) q109a q109c (g := (mkF m 4 #[.val (.ref a1), .val (.int (2 : Int32)), .val (.int c1)] [(.ref a1), (.int (2 : Int32))])) rfl (by rw [hml]; rfl) (Steps.refl _) (argsL := []) (rest := [(.int (2 : Int32))]) (lenOf own_pd13 rfl) rfl (by show 2 * 0 + _ ≤ _; exact Nat.le_of_eq rfl) (hb hby own_d5_4) (fun _ _ => ⟨rfl, e106, (by decide : 0 + 0 ≤ _), (by decide : 0 + 0 ≤ _)⟩)
          dsimp only [Pt.U, Pt.locs, Pt.cells, Pt.slots] at X109 l109 y109 z109 st109 hQ109
          subst l109 y109 z109
          obtain ⟨rfl, rfl, e109⟩ := hQ109
          have Nq109 : Fr n0 ([] : List Loc) := Fr.nil n0
          have N109 := Fr.app N106 Nq109
          refine own_st (fun _ k => st109.trans k) ?_
          show own_Ok p e below _ (T109.setTop (mkF m 7 #[.val (.ref a1), .val (.int (2 : Int32)), .val (.int c1)] [(.int (2 : Int32)), (.int (2 : Int32))]))
          refine s_icmpYes X109 hx 43 (hb hby own_d5_7) (XT.ii_ge_t (by decide)) (by decide) (by decide) ?_
          refine s_iconst X109 hx (1 : Int32) (hb hby own_d5_43) rfl ?_
          exact own_retN X109 hx hlk (t := .boolean) Bd.returns (by simp) (hb hby own_d5_44) (by rw [e109]; exact ⟨by rw [((own_all_yes (own_ok_in c19_103 c25_104 p0)).trans ((own_all_yes (own_ok_in c19_107 c25_108 p1)).trans (own_all_nil)))]; rfl, N109, rfl⟩) (by decide) (by decide)
theorem own_ef_rm_isf2u0 (m : MethodId) (a1 : Addr) : entryFrame m #[(.ref a1)] 3 = mkF m 0 #[.val (.ref a1), .unset, .unset] [] := by first | (simp [entryFrame, mkF, argsToLocals, Value.category]; done) | rfl
def Q_rm_isf2u0 (Z : State) (G1 : Int32) (G3 : Value) (c0 : Int32) (c1 : Int32) (a1 : Addr) (t1 : Addr) (k1 : ClassId) (h0 : Heap) (n0 : Nat) (v : Option Value) (h : Heap) (L : List Loc) : Prop := v = some (.int (own_all ([c0, c1] : List Int32))) ∧ Fr n0 L ∧ h = h0
set_option maxRecDepth 65536 in
set_option maxHeartbeats 40000000 in
theorem rm_isf2u0 (l : Launch) (Z : State) (a0 : Array Value) (hw : ∀ d ∈ tables_1, d.before a0 Z = true) (ws : List Jvm.Cond) (G1 : Int32) (G3 : Value) (c0 : Int32) (c1 : Int32) (a1 : Addr) (t1 : Addr) (k1 : ClassId) (h0 : Heap) (n0 : Nat) (O0 : Old Z n0 h0) (hst : own_St Z G1 G3) (E1 : Exa Z h0 a1 "java/lang/String") (F1 : Fld Z h0 a1 "java/lang/String" "coder" "B" (.int (1 : Int32))) (F2 : Fld Z h0 a1 "java/lang/String" "value" "[B" (.ref t1)) (V1 : Arv Z h0 t1 k1 .byte (4 : Int32) [(.int (StrChars.lo8 c0)), (.int (StrChars.hi8 c0)), (.int (StrChars.lo8 c1)), (.int (StrChars.hi8 c1))] (.int (0 : Int32))) (r0 : ¬ c0 < 0 ∧ ¬ (65535 : Int32) < c0) (r1 : ¬ c1 < 0 ∧ ¬ (65535 : Int32) < c1) (qf : (255 : Int32) < c0) :
    own_Met l Z (⟨"com/example/rolemesh/rolemesh/client/HttpMessages", "isFieldValue", "(Ljava/lang/String;)Z"⟩ : MethodName) prog_53_method_2_code 3 (some .boolean) ws ({ frames := 5, cells := 0, slots := 0, locals := 66 } : Room) #[(.ref a1)] h0 (Q_rm_isf2u0 Z G1 G3 c0 c1 a1 t1 k1 h0 n0) := by
  refine MetFree.of_bodySF (plainFor_of_name own_pn4) hisR ?_
  intro p e s m args below meth c s₁ Bd hml0 hP hK
  obtain ⟨rfl, hZ, hh⟩ := hP
  have hx := Bd.exec
  have hby := Bd.bytes
  have hml : c.maxLocals = 3 := hml0
  have hown : s.vm.findClass "com/example/rolemesh/rolemesh/client/HttpMessages" = some m.cls := findClass_of_methodNamed Bd.named
  have hnm := (name_of_methodNamed Bd.named Bd.method).1
  have hlk : meth.locks = false := Bd.notSynchronized
  have X0 : Stand p l e ({ frames := 5, cells := 0, slots := 0, locals := 66 } : Room) s m #[(.ref a1)] below meth c s₁ [] 0 0 := Stand.of_body Bd
  have e0 : s₁.heap = h0 := by rw [← hh, Bd.state]; rfl
  have N0 := Fr.nil n0
  suffices hgo : own_Ok p e below (own_Qx s (Q_rm_isf2u0 Z G1 G3 c0 c1 a1 t1 k1 h0 n0) 0 0) (s₁.setTop (mkF m 0 #[.val (.ref a1), .unset, .unset] [])) from by
    obtain ⟨s₂, o, h1, h2⟩ := hgo
    exact ⟨s₂, o, castTop (own_ef_rm_isf2u0 m a1) h1, h2⟩
  have hst' := hst
  obtain ⟨SG1, PG1, SG3, rG3, SAD, SHI, SLO⟩ := hst'
  have hln : ∀ d ∈ StrChars.Road.wordsLen, d.before a0 Z = true := fun d hd => hw d ((by decide +kernel : ∀ d ∈ StrChars.Road.wordsLen, d ∈ tables_1) d hd)
  have hcd : StrChars.Road.CodA ([c0, c1] : List Int32) 1 (4 : Int32) (StrChars.Road.wideBytes ([c0, c1] : List Int32)) := Or.inr ⟨rfl, rfl, rfl, c0, by simp, qf⟩
  have hbd : ∀ x ∈ ([c0, c1] : List Int32), ¬ x < 0 ∧ ¬ (65535 : Int32) < x := by
    intro x hx
    simp only [List.mem_cons, List.not_mem_nil, or_false] at hx
    rcases hx with rfl | rfl
    · exact r0
    · exact r1
  show own_Ok p e below _ (s₁.setTop (mkF m 0 #[.val (.ref a1), .unset, .unset] []))
  refine s_iconst X0 hx (0 : Int32) (hb hby own_d5_0) rfl ?_
  refine s_istoreN X0 hx (hb hby own_d5_1) #[.val (.ref a1), .val (.int (0 : Int32)), .unset] rfl ?_
  refine s_iloadN X0 hx (hb hby own_d5_2) rfl ?_
  refine s_aloadN X0 hx (hb hby own_d5_3) rfl rfl ?_
  obtain ⟨cq101, kq101, q101a, q101b, q101c⟩ := isOf hZ e0 E1
  obtain ⟨_, _, ⟨T101, L101, k101, n101⟩, -, X101, ⟨Lc101, hQ101, l101, y101, z101⟩, st101⟩ := X0.virtualBack hx (y := (⟨"java/lang/String", "length", "()I"⟩ : MethodName)) (z := (⟨"java/lang/String", "length", "()I"⟩ : MethodName)) hown (mvT hZ (own_hw hw 31 rfl)) (mvT hZ (own_hw hw 32 rfl)) (notFace_of_selects (args := #[]) (mvT hZ (own_hw hw 34 rfl))) (mvT hZ (own_hw hw 34 rfl)) (mvT hZ (own_hw hw 33 rfl)) (by decide) (StrChars.Road.lenW (W := 1) hZ hln (kI := 4) (own_hw hw 6 rfl) E1 F2 F1 V1 hcd hbd (SG1.ext O0.2) PG1 (Nat.le_of_ble_eq_true rfl) (by decide) (by decide)) q101a q101c (g := (mkF m 4 #[.val (.ref a1), .val (.int (0 : Int32)), .unset] [(.ref a1), (.int (0 : Int32))])) rfl (by rw [hml]; rfl) (Steps.refl _) (argsL := []) (rest := [(.int (0 : Int32))]) (lenOf own_pd13 rfl) rfl (by show 2 * 0 + _ ≤ _; exact Nat.le_of_eq rfl) (hb hby own_d5_4) (fun _ _ => ⟨rfl, e0, (by decide : 0 + 0 ≤ _), (by decide : 0 + 0 ≤ _)⟩)
  dsimp only [Pt.U, Pt.locs, Pt.cells, Pt.slots] at X101 l101 y101 z101 st101 hQ101
  subst l101 y101 z101
  obtain ⟨rfl, rfl, e101⟩ := hQ101
  have Nq101 : Fr n0 ([] : List Loc) := Fr.nil n0
  have N101 := Fr.app N0 Nq101
  refine own_st (fun _ k => st101.trans k) ?_
  show own_Ok p e below _ (T101.setTop (mkF m 7 #[.val (.ref a1), .val (.int (0 : Int32)), .unset] [(.int (2 : Int32)), (.int (0 : Int32))]))
  refine s_icmpNo X101 hx (hb hby own_d5_7) (XT.ii_ge_f (by decide)) ?_
  refine s_aloadN X101 hx (hb hby own_d5_10) rfl rfl ?_
  refine s_iloadN X101 hx (hb hby own_d5_11) rfl ?_
  obtain ⟨_, T102, Lc102, X102, hQ102, st102⟩ := own_callV X101 hx hZ hown (own_hw hw 55 rfl) (own_hw hw 56 rfl) (own_hw hw 58 rfl) (own_hw hw 58 rfl) (own_hw hw 57 rfl) (own_hw hw 7 rfl) (own_hw hw 59 rfl) (rm_sch20 l Z a0 hw [] G1 G3 c0 c1 a1 t1 k1 h0 n0 O0 hst r0 r1 E1 F1 F2 V1) (by decide) e101 E1 (Ls := #[.val (.ref a1), .val (.int (0 : Int32)), .unset]) [(.int (0 : Int32))] [] rfl (by rw [hml]; rfl) (lenOf own_pd14 rfl) (hb hby own_d5_12) (by decide) 0 rfl (by decide) (by decide) (by decide)
  obtain ⟨rfl, Nq102, e102⟩ := hQ102
  have N102 := Fr.app N101 Nq102
  refine st102 _ ?_
  show own_Ok p e below _ (T102.setTop (mkF m 15 #[.val (.ref a1), .val (.int (0 : Int32)), .unset] [(.int c0)]))
  refine s_istoreN X102 hx (hb hby own_d5_15) #[.val (.ref a1), .val (.int (0 : Int32)), .val (.int c0)] rfl ?_
  refine s_iloadN X102 hx (hb hby own_d5_16) rfl ?_
  refine s_bipush X102 hx (32 : Int32) (hb hby own_d5_17) rfl ?_
  by_cases c19_103 : c0 < (32 : Int32)
  · skip
    refine s_icmpYes X102 hx 35 (hb hby own_d5_19) (XT.ii_lt_t c19_103) (by decide) (by decide) ?_
    refine s_iconst X102 hx (0 : Int32) (hb hby own_d5_35) rfl ?_
    exact own_retN X102 hx hlk (t := .boolean) Bd.returns (by simp) (hb hby own_d5_36) (by rw [e102]; exact ⟨by rw [(own_all_no (own_ok_lt c19_103))]; rfl, N102, rfl⟩) (by decide) (by decide)
  · skip
    refine s_icmpNo X102 hx (hb hby own_d5_19) (XT.ii_lt_f c19_103) ?_
    refine s_iloadN X102 hx (hb hby own_d5_22) rfl ?_
    refine s_bipush X102 hx (127 : Int32) (hb hby own_d5_23) rfl ?_
    by_cases c25_104 : c0 = (127 : Int32)
    · skip
      refine s_icmpYes X102 hx 35 (hb hby own_d5_25) (XT.ii_eq_t c25_104) (by decide) (by decide) ?_
      refine s_iconst X102 hx (0 : Int32) (hb hby own_d5_35) rfl ?_
      exact own_retN X102 hx hlk (t := .boolean) Bd.returns (by simp) (hb hby own_d5_36) (by rw [e102]; exact ⟨by rw [(own_all_no (own_ok_127 c25_104))]; rfl, N102, rfl⟩) (by decide) (by decide)
    · skip
      refine s_icmpNo X102 hx (hb hby own_d5_25) (XT.ii_eq_f c25_104) ?_
      refine s_iloadN X102 hx (hb hby own_d5_28) rfl ?_
      refine s_sipush X102 hx (255 : Int32) (hb hby own_d5_29) rfl ?_
      refine s_icmpNo X102 hx (hb hby own_d5_32) (XT.ii_le_f qf) ?_
      refine s_iconst X102 hx (0 : Int32) (hb hby own_d5_35) rfl ?_
      exact own_retN X102 hx hlk (t := .boolean) Bd.returns (by simp) (hb hby own_d5_36) (by rw [e102]; exact ⟨by rw [(own_all_no (own_ok_gt qf))]; rfl, N102, rfl⟩) (by decide) (by decide)
theorem own_ef_rm_isf2u1 (m : MethodId) (a1 : Addr) : entryFrame m #[(.ref a1)] 3 = mkF m 0 #[.val (.ref a1), .unset, .unset] [] := by first | (simp [entryFrame, mkF, argsToLocals, Value.category]; done) | rfl
def Q_rm_isf2u1 (Z : State) (G1 : Int32) (G3 : Value) (c0 : Int32) (c1 : Int32) (a1 : Addr) (t1 : Addr) (k1 : ClassId) (h0 : Heap) (n0 : Nat) (v : Option Value) (h : Heap) (L : List Loc) : Prop := v = some (.int (own_all ([c0, c1] : List Int32))) ∧ Fr n0 L ∧ h = h0
set_option maxRecDepth 65536 in
set_option maxHeartbeats 40000000 in
theorem rm_isf2u1 (l : Launch) (Z : State) (a0 : Array Value) (hw : ∀ d ∈ tables_1, d.before a0 Z = true) (ws : List Jvm.Cond) (G1 : Int32) (G3 : Value) (c0 : Int32) (c1 : Int32) (a1 : Addr) (t1 : Addr) (k1 : ClassId) (h0 : Heap) (n0 : Nat) (O0 : Old Z n0 h0) (hst : own_St Z G1 G3) (E1 : Exa Z h0 a1 "java/lang/String") (F1 : Fld Z h0 a1 "java/lang/String" "coder" "B" (.int (1 : Int32))) (F2 : Fld Z h0 a1 "java/lang/String" "value" "[B" (.ref t1)) (V1 : Arv Z h0 t1 k1 .byte (4 : Int32) [(.int (StrChars.lo8 c0)), (.int (StrChars.hi8 c0)), (.int (StrChars.lo8 c1)), (.int (StrChars.hi8 c1))] (.int (0 : Int32))) (r0 : ¬ c0 < 0 ∧ ¬ (65535 : Int32) < c0) (r1 : ¬ c1 < 0 ∧ ¬ (65535 : Int32) < c1) (q0 : ¬ (255 : Int32) < c0) (qf : (255 : Int32) < c1) :
    own_Met l Z (⟨"com/example/rolemesh/rolemesh/client/HttpMessages", "isFieldValue", "(Ljava/lang/String;)Z"⟩ : MethodName) prog_53_method_2_code 3 (some .boolean) ws ({ frames := 5, cells := 0, slots := 0, locals := 66 } : Room) #[(.ref a1)] h0 (Q_rm_isf2u1 Z G1 G3 c0 c1 a1 t1 k1 h0 n0) := by
  refine MetFree.of_bodySF (plainFor_of_name own_pn4) hisR ?_
  intro p e s m args below meth c s₁ Bd hml0 hP hK
  obtain ⟨rfl, hZ, hh⟩ := hP
  have hx := Bd.exec
  have hby := Bd.bytes
  have hml : c.maxLocals = 3 := hml0
  have hown : s.vm.findClass "com/example/rolemesh/rolemesh/client/HttpMessages" = some m.cls := findClass_of_methodNamed Bd.named
  have hnm := (name_of_methodNamed Bd.named Bd.method).1
  have hlk : meth.locks = false := Bd.notSynchronized
  have X0 : Stand p l e ({ frames := 5, cells := 0, slots := 0, locals := 66 } : Room) s m #[(.ref a1)] below meth c s₁ [] 0 0 := Stand.of_body Bd
  have e0 : s₁.heap = h0 := by rw [← hh, Bd.state]; rfl
  have N0 := Fr.nil n0
  suffices hgo : own_Ok p e below (own_Qx s (Q_rm_isf2u1 Z G1 G3 c0 c1 a1 t1 k1 h0 n0) 0 0) (s₁.setTop (mkF m 0 #[.val (.ref a1), .unset, .unset] [])) from by
    obtain ⟨s₂, o, h1, h2⟩ := hgo
    exact ⟨s₂, o, castTop (own_ef_rm_isf2u1 m a1) h1, h2⟩
  have hst' := hst
  obtain ⟨SG1, PG1, SG3, rG3, SAD, SHI, SLO⟩ := hst'
  have hln : ∀ d ∈ StrChars.Road.wordsLen, d.before a0 Z = true := fun d hd => hw d ((by decide +kernel : ∀ d ∈ StrChars.Road.wordsLen, d ∈ tables_1) d hd)
  have hcd : StrChars.Road.CodA ([c0, c1] : List Int32) 1 (4 : Int32) (StrChars.Road.wideBytes ([c0, c1] : List Int32)) := Or.inr ⟨rfl, rfl, rfl, c1, by simp, qf⟩
  have hbd : ∀ x ∈ ([c0, c1] : List Int32), ¬ x < 0 ∧ ¬ (65535 : Int32) < x := by
    intro x hx
    simp only [List.mem_cons, List.not_mem_nil, or_false] at hx
    rcases hx with rfl | rfl
    · exact r0
    · exact r1
  show own_Ok p e below _ (s₁.setTop (mkF m 0 #[.val (.ref a1), .unset, .unset] []))
  refine s_iconst X0 hx (0 : Int32) (hb hby own_d5_0) rfl ?_
  refine s_istoreN X0 hx (hb hby own_d5_1) #[.val (.ref a1), .val (.int (0 : Int32)), .unset] rfl ?_
  refine s_iloadN X0 hx (hb hby own_d5_2) rfl ?_
  refine s_aloadN X0 hx (hb hby own_d5_3) rfl rfl ?_
  obtain ⟨cq101, kq101, q101a, q101b, q101c⟩ := isOf hZ e0 E1
  obtain ⟨_, _, ⟨T101, L101, k101, n101⟩, -, X101, ⟨Lc101, hQ101, l101, y101, z101⟩, st101⟩ := X0.virtualBack hx (y := (⟨"java/lang/String", "length", "()I"⟩ : MethodName)) (z := (⟨"java/lang/String", "length", "()I"⟩ : MethodName)) hown (mvT hZ (own_hw hw 31 rfl)) (mvT hZ (own_hw hw 32 rfl)) (notFace_of_selects (args := #[]) (mvT hZ (own_hw hw 34 rfl))) (mvT hZ (own_hw hw 34 rfl)) (mvT hZ (own_hw hw 33 rfl)) (by decide) (StrChars.Road.lenW (W := 1) hZ hln (kI := 4) (own_hw hw 6 rfl) E1 F2 F1 V1 hcd hbd (SG1.ext O0.2) PG1 (Nat.le_of_ble_eq_true rfl) (by decide) (by decide)) q101a q101c (g := (mkF m 4 #[.val (.ref a1), .val (.int (0 : Int32)), .unset] [(.ref a1), (.int (0 : Int32))])) rfl (by rw [hml]; rfl) (Steps.refl _) (argsL := []) (rest := [(.int (0 : Int32))]) (lenOf own_pd13 rfl) rfl (by show 2 * 0 + _ ≤ _; exact Nat.le_of_eq rfl) (hb hby own_d5_4) (fun _ _ => ⟨rfl, e0, (by decide : 0 + 0 ≤ _), (by decide : 0 + 0 ≤ _)⟩)
  dsimp only [Pt.U, Pt.locs, Pt.cells, Pt.slots] at X101 l101 y101 z101 st101 hQ101
  subst l101 y101 z101
  obtain ⟨rfl, rfl, e101⟩ := hQ101
  have Nq101 : Fr n0 ([] : List Loc) := Fr.nil n0
  have N101 := Fr.app N0 Nq101
  refine own_st (fun _ k => st101.trans k) ?_
  show own_Ok p e below _ (T101.setTop (mkF m 7 #[.val (.ref a1), .val (.int (0 : Int32)), .unset] [(.int (2 : Int32)), (.int (0 : Int32))]))
  refine s_icmpNo X101 hx (hb hby own_d5_7) (XT.ii_ge_f (by decide)) ?_
  refine s_aloadN X101 hx (hb hby own_d5_10) rfl rfl ?_
  refine s_iloadN X101 hx (hb hby own_d5_11) rfl ?_
  obtain ⟨_, T102, Lc102, X102, hQ102, st102⟩ := own_callV X101 hx hZ hown (own_hw hw 55 rfl) (own_hw hw 56 rfl) (own_hw hw 58 rfl) (own_hw hw 58 rfl) (own_hw hw 57 rfl) (own_hw hw 7 rfl) (own_hw hw 59 rfl) (rm_sch20 l Z a0 hw [] G1 G3 c0 c1 a1 t1 k1 h0 n0 O0 hst r0 r1 E1 F1 F2 V1) (by decide) e101 E1 (Ls := #[.val (.ref a1), .val (.int (0 : Int32)), .unset]) [(.int (0 : Int32))] [] rfl (by rw [hml]; rfl) (lenOf own_pd14 rfl) (hb hby own_d5_12) (by decide) 0 rfl (by decide) (by decide) (by decide)
  obtain ⟨rfl, Nq102, e102⟩ := hQ102
  have N102 := Fr.app N101 Nq102
  refine st102 _ ?_
  show own_Ok p e below _ (T102.setTop (mkF m 15 #[.val (.ref a1), .val (.int (0 : Int32)), .unset] [(.int c0)]))
  refine s_istoreN X102 hx (hb hby own_d5_15) #[.val (.ref a1), .val (.int (0 : Int32)), .val (.int c0)] rfl ?_
  refine s_iloadN X102 hx (hb hby own_d5_16) rfl ?_
  refine s_bipush X102 hx (32 : Int32) (hb hby own_d5_17) rfl ?_
  by_cases c19_103 : c0 < (32 : Int32)
  · skip
    refine s_icmpYes X102 hx 35 (hb hby own_d5_19) (XT.ii_lt_t c19_103) (by decide) (by decide) ?_
    refine s_iconst X102 hx (0 : Int32) (hb hby own_d5_35) rfl ?_
    exact own_retN X102 hx hlk (t := .boolean) Bd.returns (by simp) (hb hby own_d5_36) (by rw [e102]; exact ⟨by rw [(own_all_no (own_ok_lt c19_103))]; rfl, N102, rfl⟩) (by decide) (by decide)
  · skip
    refine s_icmpNo X102 hx (hb hby own_d5_19) (XT.ii_lt_f c19_103) ?_
    refine s_iloadN X102 hx (hb hby own_d5_22) rfl ?_
    refine s_bipush X102 hx (127 : Int32) (hb hby own_d5_23) rfl ?_
    by_cases c25_104 : c0 = (127 : Int32)
    · skip
      refine s_icmpYes X102 hx 35 (hb hby own_d5_25) (XT.ii_eq_t c25_104) (by decide) (by decide) ?_
      refine s_iconst X102 hx (0 : Int32) (hb hby own_d5_35) rfl ?_
      exact own_retN X102 hx hlk (t := .boolean) Bd.returns (by simp) (hb hby own_d5_36) (by rw [e102]; exact ⟨by rw [(own_all_no (own_ok_127 c25_104))]; rfl, N102, rfl⟩) (by decide) (by decide)
    · skip
      refine s_icmpNo X102 hx (hb hby own_d5_25) (XT.ii_eq_f c25_104) ?_
      refine s_iloadN X102 hx (hb hby own_d5_28) rfl ?_
      refine s_sipush X102 hx (255 : Int32) (hb hby own_d5_29) rfl ?_
      refine s_icmpYes X102 hx 37 (hb hby own_d5_32) (XT.ii_le_t q0) (by decide) (by decide) ?_
      refine s_iinc X102 hx (1 : Int32) (hb hby own_d5_37) rfl rfl #[.val (.ref a1), .val (.int (1 : Int32)), .val (.int c0)] rfl ?_
      refine s_goto X102 hx 2 (hb hby own_d5_40) (by decide) (by decide) ?_
      refine s_iloadN X102 hx (hb hby own_d5_2) rfl ?_
      refine s_aloadN X102 hx (hb hby own_d5_3) rfl rfl ?_
      obtain ⟨cq105, kq105, q105a, q105b, q105c⟩ := isOf hZ e102 E1
      obtain ⟨_, _, ⟨T105, L105, k105, n105⟩, -, X105, ⟨Lc105, hQ105, l105, y105, z105⟩, st105⟩ := X102.virtualBack hx (y := (⟨"java/lang/String", "length", "()I"⟩ : MethodName)) (z := (⟨"java/lang/String", "length", "()I"⟩ : MethodName)) hown (mvT hZ (own_hw hw 31 rfl)) (mvT hZ (own_hw hw 32 rfl)) (notFace_of_selects (args := #[]) (mvT hZ (own_hw hw 34 rfl))) (mvT hZ (own_hw hw 34 rfl)) (mvT hZ (own_hw hw 33 rfl)) (by decide) (StrChars.Road.lenW (W := 1) hZ hln (kI := 4) (own_hw hw 6 rfl) E1 F2 F1 V1 hcd hbd (SG1.ext O0.2) PG1 (Nat.le_of_ble_eq_true rfl) (by decide) (by decide)) q105a q105c (g := (mkF m 4 #[.val (.ref a1), .val (.int (1 : Int32)), .val (.int c0)] [(.ref a1), (.int (1 : Int32))])) rfl (by rw [hml]; rfl) (Steps.refl _) (argsL := []) (rest := [(.int (1 : Int32))]) (lenOf own_pd13 rfl) rfl (by show 2 * 0 + _ ≤ _; exact Nat.le_of_eq rfl) (hb hby own_d5_4) (fun _ _ => ⟨rfl, e102, (by decide : 0 + 0 ≤ _), (by decide : 0 + 0 ≤ _)⟩)
      dsimp only [Pt.U, Pt.locs, Pt.cells, Pt.slots] at X105 l105 y105 z105 st105 hQ105
      subst l105 y105 z105
      obtain ⟨rfl, rfl, e105⟩ := hQ105
      have Nq105 : Fr n0 ([] : List Loc) := Fr.nil n0
      have N105 := Fr.app N102 Nq105
      refine own_st (fun _ k => st105.trans k) ?_
      show own_Ok p e below _ (T105.setTop (mkF m 7 #[.val (.ref a1), .val (.int (1 : Int32)), .val (.int c0)] [(.int (2 : Int32)), (.int (1 : Int32))]))
      refine s_icmpNo X105 hx (hb hby own_d5_7) (XT.ii_ge_f (by decide)) ?_
      refine s_aloadN X105 hx (hb hby own_d5_10) rfl rfl ?_
      refine s_iloadN X105 hx (hb hby own_d5_11) rfl ?_
      obtain ⟨_, T106, Lc106, X106, hQ106, st106⟩ := own_callV X105 hx hZ hown (own_hw hw 55 rfl) (own_hw hw 56 rfl) (own_hw hw 58 rfl) (own_hw hw 58 rfl) (own_hw hw 57 rfl) (own_hw hw 7 rfl) (own_hw hw 59 rfl) (rm_sch21 l Z a0 hw [] G1 G3 c0 c1 a1 t1 k1 h0 n0 O0 hst r0 r1 E1 F1 F2 V1) (by decide) e105 E1 (Ls := #[.val (.ref a1), .val (.int (1 : Int32)), .val (.int c0)]) [(.int (1 : Int32))] [] rfl (by rw [hml]; rfl) (lenOf own_pd14 rfl) (hb hby own_d5_12) (by decide) 0 rfl (by decide) (by decide) (by decide)
      obtain ⟨rfl, Nq106, e106⟩ := hQ106
      have N106 := Fr.app N105 Nq106
      refine st106 _ ?_
      show own_Ok p e below _ (T106.setTop (mkF m 15 #[.val (.ref a1), .val (.int (1 : Int32)), .val (.int c0)] [(.int c1)]))
      refine s_istoreN X106 hx (hb hby own_d5_15) #[.val (.ref a1), .val (.int (1 : Int32)), .val (.int c1)] rfl ?_
      refine s_iloadN X106 hx (hb hby own_d5_16) rfl ?_
      refine s_bipush X106 hx (32 : Int32) (hb hby own_d5_17) rfl ?_
      by_cases c19_107 : c1 < (32 : Int32)
      · skip
        refine s_icmpYes X106 hx 35 (hb hby own_d5_19) (XT.ii_lt_t c19_107) (by decide) (by decide) ?_
        refine s_iconst X106 hx (0 : Int32) (hb hby own_d5_35) rfl ?_
        exact own_retN X106 hx hlk (t := .boolean) Bd.returns (by simp) (hb hby own_d5_36) (by rw [e106]; exact ⟨by rw [((own_all_yes (own_ok_in c19_103 c25_104 q0)).trans (own_all_no (own_ok_lt c19_107)))]; rfl, N106, rfl⟩) (by decide) (by decide)
      · skip
        refine s_icmpNo X106 hx (hb hby own_d5_19) (XT.ii_lt_f c19_107) ?_
        refine s_iloadN X106 hx (hb hby own_d5_22) rfl ?_
        refine s_bipush X106 hx (127 : Int32) (hb hby own_d5_23) rfl ?_
        by_cases c25_108 : c1 = (127 : Int32)
        · skip
          refine s_icmpYes X106 hx 35 (hb hby own_d5_25) (XT.ii_eq_t c25_108) (by decide) (by decide) ?_
          refine s_iconst X106 hx (0 : Int32) (hb hby own_d5_35) rfl ?_
          exact own_retN X106 hx hlk (t := .boolean) Bd.returns (by simp) (hb hby own_d5_36) (by rw [e106]; exact ⟨by rw [((own_all_yes (own_ok_in c19_103 c25_104 q0)).trans (own_all_no (own_ok_127 c25_108)))]; rfl, N106, rfl⟩) (by decide) (by decide)
        · skip
          refine s_icmpNo X106 hx (hb hby own_d5_25) (XT.ii_eq_f c25_108) ?_
          refine s_iloadN X106 hx (hb hby own_d5_28) rfl ?_
          refine s_sipush X106 hx (255 : Int32) (hb hby own_d5_29) rfl ?_
          refine s_icmpNo X106 hx (hb hby own_d5_32) (XT.ii_le_f qf) ?_
          refine s_iconst X106 hx (0 : Int32) (hb hby own_d5_35) rfl ?_
          exact own_retN X106 hx hlk (t := .boolean) Bd.returns (by simp) (hb hby own_d5_36) (by rw [e106]; exact ⟨by rw [((own_all_yes (own_ok_in c19_103 c25_104 q0)).trans (own_all_no (own_ok_gt qf)))]; rfl, N106, rfl⟩) (by decide) (by decide)
theorem own_ef_rm_isf3 (m : MethodId) (a1 : Addr) : entryFrame m #[(.ref a1)] 3 = mkF m 0 #[.val (.ref a1), .unset, .unset] [] := by first | (simp [entryFrame, mkF, argsToLocals, Value.category]; done) | rfl
def Q_rm_isf3 (Z : State) (G1 : Int32) (G3 : Value) (c0 : Int32) (c1 : Int32) (c2 : Int32) (a1 : Addr) (t1 : Addr) (k1 : ClassId) (h0 : Heap) (n0 : Nat) (v : Option Value) (h : Heap) (L : List Loc) : Prop := v = some (.int (own_all ([c0, c1, c2] : List Int32))) ∧ Fr n0 L ∧ h = h0
set_option maxRecDepth 65536 in
set_option maxHeartbeats 40000000 in
theorem rm_isf3 (l : Launch) (Z : State) (a0 : Array Value) (hw : ∀ d ∈ tables_1, d.before a0 Z = true) (ws : List Jvm.Cond) (G1 : Int32) (G3 : Value) (c0 : Int32) (c1 : Int32) (c2 : Int32) (a1 : Addr) (t1 : Addr) (k1 : ClassId) (h0 : Heap) (n0 : Nat) (O0 : Old Z n0 h0) (hst : own_St Z G1 G3) (E1 : Exa Z h0 a1 "java/lang/String") (F1 : Fld Z h0 a1 "java/lang/String" "coder" "B" (.int (0 : Int32))) (F2 : Fld Z h0 a1 "java/lang/String" "value" "[B" (.ref t1)) (V1 : Arv Z h0 t1 k1 .byte (3 : Int32) ((([c0, c1, c2] : List Int32).map (fun c => c.toInt8.toInt32)).map Value.int) (.int (0 : Int32))) (r0 : ¬ c0 < 0 ∧ ¬ (65535 : Int32) < c0) (r1 : ¬ c1 < 0 ∧ ¬ (65535 : Int32) < c1) (r2 : ¬ c2 < 0 ∧ ¬ (65535 : Int32) < c2) (p0 : ¬ (255 : Int32) < c0) (p1 : ¬ (255 : Int32) < c1) (p2 : ¬ (255 : Int32) < c2) :
    own_Met l Z (⟨"com/example/rolemesh/rolemesh/client/HttpMessages", "isFieldValue", "(Ljava/lang/String;)Z"⟩ : MethodName) prog_53_method_2_code 3 (some .boolean) ws ({ frames := 4, cells := 0, slots := 0, locals := 53 } : Room) #[(.ref a1)] h0 (Q_rm_isf3 Z G1 G3 c0 c1 c2 a1 t1 k1 h0 n0) := by
  refine MetFree.of_bodySF (plainFor_of_name own_pn4) hisR ?_
  intro p e s m args below meth c s₁ Bd hml0 hP hK
  obtain ⟨rfl, hZ, hh⟩ := hP
  have hx := Bd.exec
  have hby := Bd.bytes
  have hml : c.maxLocals = 3 := hml0
  have hown : s.vm.findClass "com/example/rolemesh/rolemesh/client/HttpMessages" = some m.cls := findClass_of_methodNamed Bd.named
  have hnm := (name_of_methodNamed Bd.named Bd.method).1
  have hlk : meth.locks = false := Bd.notSynchronized
  have X0 : Stand p l e ({ frames := 4, cells := 0, slots := 0, locals := 53 } : Room) s m #[(.ref a1)] below meth c s₁ [] 0 0 := Stand.of_body Bd
  have e0 : s₁.heap = h0 := by rw [← hh, Bd.state]; rfl
  have N0 := Fr.nil n0
  suffices hgo : own_Ok p e below (own_Qx s (Q_rm_isf3 Z G1 G3 c0 c1 c2 a1 t1 k1 h0 n0) 0 0) (s₁.setTop (mkF m 0 #[.val (.ref a1), .unset, .unset] [])) from by
    obtain ⟨s₂, o, h1, h2⟩ := hgo
    exact ⟨s₂, o, castTop (own_ef_rm_isf3 m a1) h1, h2⟩
  have hst' := hst
  obtain ⟨SG1, PG1, SG3, rG3, SAD, SHI, SLO⟩ := hst'
  have hln : ∀ d ∈ StrChars.Road.wordsLen, d.before a0 Z = true := fun d hd => hw d ((by decide +kernel : ∀ d ∈ StrChars.Road.wordsLen, d ∈ tables_1) d hd)
  have hch : ∀ d ∈ StrChars.Road.wordsChN, d.before a0 Z = true := fun d hd => hw d ((by decide +kernel : ∀ d ∈ StrChars.Road.wordsChN, d ∈ tables_1) d hd)
  have hp : ∀ x ∈ ([c0, c1, c2] : List Int32), ¬ x < 0 ∧ ¬ (255 : Int32) < x := by
    intro x hx
    simp only [List.mem_cons, List.not_mem_nil, or_false] at hx
    rcases hx with rfl | rfl | rfl
    · exact ⟨r0.1, p0⟩
    · exact ⟨r1.1, p1⟩
    · exact ⟨r2.1, p2⟩
  have hcd : StrChars.Road.CodA ([c0, c1, c2] : List Int32) 0 (3 : Int32) ((([c0, c1, c2] : List Int32).map (fun c => c.toInt8.toInt32)).map Value.int) := StrChars.Road.codOf (n := 3) rfl (fun x hx => (hp x hx).2)
  have hbd := own_up hp
  show own_Ok p e below _ (s₁.setTop (mkF m 0 #[.val (.ref a1), .unset, .unset] []))
  refine s_iconst X0 hx (0 : Int32) (hb hby own_d5_0) rfl ?_
  refine s_istoreN X0 hx (hb hby own_d5_1) #[.val (.ref a1), .val (.int (0 : Int32)), .unset] rfl ?_
  refine s_iloadN X0 hx (hb hby own_d5_2) rfl ?_
  refine s_aloadN X0 hx (hb hby own_d5_3) rfl rfl ?_
  obtain ⟨cq101, kq101, q101a, q101b, q101c⟩ := isOf hZ e0 E1
  obtain ⟨_, _, ⟨T101, L101, k101, n101⟩, -, X101, ⟨Lc101, hQ101, l101, y101, z101⟩, st101⟩ := X0.virtualBack hx (y := (⟨"java/lang/String", "length", "()I"⟩ : MethodName)) (z := (⟨"java/lang/String", "length", "()I"⟩ : MethodName)) hown (mvT hZ (own_hw hw 31 rfl)) (mvT hZ (own_hw hw 32 rfl)) (notFace_of_selects (args := #[]) (mvT hZ (own_hw hw 34 rfl))) (mvT hZ (own_hw hw 34 rfl)) (mvT hZ (own_hw hw 33 rfl)) (by decide) (StrChars.Road.lenW (W := 1) hZ hln (kI := 4) (own_hw hw 6 rfl) E1 F2 F1 V1 hcd hbd (SG1.ext O0.2) PG1 (Nat.le_of_ble_eq_true rfl) (by decide) (by decide)) q101a q101c (g := (mkF m 4 #[.val (.ref a1), .val (.int (0 : Int32)), .unset] [(.ref a1), (.int (0 : Int32))])) rfl (by rw [hml]; rfl) (Steps.refl _) (argsL := []) (rest := [(.int (0 : Int32))]) (lenOf own_pd13 rfl) rfl (by show 2 * 0 + _ ≤ _; exact Nat.le_of_eq rfl) (hb hby own_d5_4) (fun _ _ => ⟨rfl, e0, (by decide : 0 + 0 ≤ _), (by decide : 0 + 0 ≤ _)⟩)
  dsimp only [Pt.U, Pt.locs, Pt.cells, Pt.slots] at X101 l101 y101 z101 st101 hQ101
  subst l101 y101 z101
  obtain ⟨rfl, rfl, e101⟩ := hQ101
  have Nq101 : Fr n0 ([] : List Loc) := Fr.nil n0
  have N101 := Fr.app N0 Nq101
  refine own_st (fun _ k => st101.trans k) ?_
  show own_Ok p e below _ (T101.setTop (mkF m 7 #[.val (.ref a1), .val (.int (0 : Int32)), .unset] [(.int (3 : Int32)), (.int (0 : Int32))]))
  refine s_icmpNo X101 hx (hb hby own_d5_7) (XT.ii_ge_f (by decide)) ?_
  refine s_aloadN X101 hx (hb hby own_d5_10) rfl rfl ?_
  refine s_iloadN X101 hx (hb hby own_d5_11) rfl ?_
  obtain ⟨cq102, kq102, q102a, q102b, q102c⟩ := isOf hZ e101 E1
  obtain ⟨_, _, ⟨T102, L102, k102, n102⟩, -, X102, ⟨Lc102, hQ102, l102, y102, z102⟩, st102⟩ := X101.virtualBack hx (y := (⟨"java/lang/String", "charAt", "(I)C"⟩ : MethodName)) (z := (⟨"java/lang/String", "charAt", "(I)C"⟩ : MethodName)) hown (mvT hZ (own_hw hw 55 rfl)) (mvT hZ (own_hw hw 56 rfl)) (notFace_of_selects (args := #[]) (mvT hZ (own_hw hw 58 rfl))) (mvT hZ (own_hw hw 58 rfl)) (mvT hZ (own_hw hw 57 rfl)) (by decide) (StrChars.Road.chN (W := 0) hZ hch (kI := 4) (own_hw hw 6 rfl) E1 F2 F1 V1 hcd hbd (SG1.ext O0.2) PG1 (SG3.ext O0.2) rG3 (Nat.le_of_ble_eq_true rfl) (i := 0) (Nat.le_of_ble_eq_true rfl) (j := (0 : Int32)) rfl (by decide) (by decide)) q102a q102c (g := (mkF m 12 #[.val (.ref a1), .val (.int (0 : Int32)), .unset] [(.int (0 : Int32)), (.ref a1)])) rfl (by rw [hml]; rfl) (Steps.refl _) (argsL := [(.int (0 : Int32))]) (rest := []) (lenOf own_pd14 rfl) rfl (by show 2 * 0 + _ ≤ _; exact Nat.le_of_eq rfl) (hb hby own_d5_12) (fun _ _ => ⟨rfl, e101, (by decide : 0 + 0 ≤ _), (by decide : 0 + 0 ≤ _)⟩)
  dsimp only [Pt.U, Pt.locs, Pt.cells, Pt.slots] at X102 l102 y102 z102 st102 hQ102
  subst l102 y102 z102
  obtain ⟨rfl, rfl, e102⟩ := hQ102
  have Nq102 : Fr n0 ([] : List Loc) := Fr.nil n0
  have N102 := Fr.app N101 Nq102
  refine own_st (fun _ k => st102.trans k) ?_
  show own_Ok p e below _ (T102.setTop (mkF m 15 #[.val (.ref a1), .val (.int (0 : Int32)), .unset] [(.int c0)]))
  refine s_istoreN X102 hx (hb hby own_d5_15) #[.val (.ref a1), .val (.int (0 : Int32)), .val (.int c0)] rfl ?_
  refine s_iloadN X102 hx (hb hby own_d5_16) rfl ?_
  refine s_bipush X102 hx (32 : Int32) (hb hby own_d5_17) rfl ?_
  by_cases c19_103 : c0 < (32 : Int32)
  · skip
    refine s_icmpYes X102 hx 35 (hb hby own_d5_19) (XT.ii_lt_t c19_103) (by decide) (by decide) ?_
    refine s_iconst X102 hx (0 : Int32) (hb hby own_d5_35) rfl ?_
    exact own_retN X102 hx hlk (t := .boolean) Bd.returns (by simp) (hb hby own_d5_36) (by rw [e102]; exact ⟨by rw [(own_all_no (own_ok_lt c19_103))]; rfl, N102, rfl⟩) (by decide) (by decide)
  · skip
    refine s_icmpNo X102 hx (hb hby own_d5_19) (XT.ii_lt_f c19_103) ?_
    refine s_iloadN X102 hx (hb hby own_d5_22) rfl ?_
    refine s_bipush X102 hx (127 : Int32) (hb hby own_d5_23) rfl ?_
    by_cases c25_104 : c0 = (127 : Int32)
    · skip
      refine s_icmpYes X102 hx 35 (hb hby own_d5_25) (XT.ii_eq_t c25_104) (by decide) (by decide) ?_
      refine s_iconst X102 hx (0 : Int32) (hb hby own_d5_35) rfl ?_
      exact own_retN X102 hx hlk (t := .boolean) Bd.returns (by simp) (hb hby own_d5_36) (by rw [e102]; exact ⟨by rw [(own_all_no (own_ok_127 c25_104))]; rfl, N102, rfl⟩) (by decide) (by decide)
    · skip
      refine s_icmpNo X102 hx (hb hby own_d5_25) (XT.ii_eq_f c25_104) ?_
      refine s_iloadN X102 hx (hb hby own_d5_28) rfl ?_
      refine s_sipush X102 hx (255 : Int32) (hb hby own_d5_29) rfl ?_
      refine s_icmpYes X102 hx 37 (hb hby own_d5_32) (XT.ii_le_t p0) (by decide) (by decide) ?_
      refine s_iinc X102 hx (1 : Int32) (hb hby own_d5_37) rfl rfl #[.val (.ref a1), .val (.int (1 : Int32)), .val (.int c0)] rfl ?_
      refine s_goto X102 hx 2 (hb hby own_d5_40) (by decide) (by decide) ?_
      refine s_iloadN X102 hx (hb hby own_d5_2) rfl ?_
      refine s_aloadN X102 hx (hb hby own_d5_3) rfl rfl ?_
      obtain ⟨cq105, kq105, q105a, q105b, q105c⟩ := isOf hZ e102 E1
      obtain ⟨_, _, ⟨T105, L105, k105, n105⟩, -, X105, ⟨Lc105, hQ105, l105, y105, z105⟩, st105⟩ := X102.virtualBack hx (y := (⟨"java/lang/String", "length", "()I"⟩ : MethodName)) (z := (⟨"java/lang/String", "length", "()I"⟩ : MethodName)) hown (mvT hZ (own_hw hw 31 rfl)) (mvT hZ (own_hw hw 32 rfl)) (notFace_of_selects (args := #[]) (mvT hZ (own_hw hw 34 rfl))) (mvT hZ (own_hw hw 34 rfl)) (mvT hZ (own_hw hw 33 rfl)) (by decide) (StrChars.Road.lenW (W := 1) hZ hln (kI := 4) (own_hw hw 6 rfl) E1 F2 F1 V1 hcd hbd (SG1.ext O0.2) PG1 (Nat.le_of_ble_eq_true rfl) (by decide) (by decide)) q105a q105c (g := (mkF m 4 #[.val (.ref a1), .val (.int (1 : Int32)), .val (.int c0)] [(.ref a1), (.int (1 : Int32))])) rfl (by rw [hml]; rfl) (Steps.refl _) (argsL := []) (rest := [(.int (1 : Int32))]) (lenOf own_pd13 rfl) rfl (by show 2 * 0 + _ ≤ _; exact Nat.le_of_eq rfl) (hb hby own_d5_4) (fun _ _ => ⟨rfl, e102, (by decide : 0 + 0 ≤ _), (by decide : 0 + 0 ≤ _)⟩)
      dsimp only [Pt.U, Pt.locs, Pt.cells, Pt.slots] at X105 l105 y105 z105 st105 hQ105
      subst l105 y105 z105
      obtain ⟨rfl, rfl, e105⟩ := hQ105
      have Nq105 : Fr n0 ([] : List Loc) := Fr.nil n0
      have N105 := Fr.app N102 Nq105
      refine own_st (fun _ k => st105.trans k) ?_
      show own_Ok p e below _ (T105.setTop (mkF m 7 #[.val (.ref a1), .val (.int (1 : Int32)), .val (.int c0)] [(.int (3 : Int32)), (.int (1 : Int32))]))
      refine s_icmpNo X105 hx (hb hby own_d5_7) (XT.ii_ge_f (by decide)) ?_
      refine s_aloadN X105 hx (hb hby own_d5_10) rfl rfl ?_
      refine s_iloadN X105 hx (hb hby own_d5_11) rfl ?_
      obtain ⟨cq106, kq106, q106a, q106b, q106c⟩ := isOf hZ e105 E1
      obtain ⟨_, _, ⟨T106, L106, k106, n106⟩, -, X106, ⟨Lc106, hQ106, l106, y106, z106⟩, st106⟩ := X105.virtualBack hx (y := (⟨"java/lang/String", "charAt", "(I)C"⟩ : MethodName)) (z := (⟨"java/lang/String", "charAt", "(I)C"⟩ : MethodName)) hown (mvT hZ (own_hw hw 55 rfl)) (mvT hZ (own_hw hw 56 rfl)) (notFace_of_selects (args := #[]) (mvT hZ (own_hw hw 58 rfl))) (mvT hZ (own_hw hw 58 rfl)) (mvT hZ (own_hw hw 57 rfl)) (by decide) (StrChars.Road.chN (W := 0) hZ hch (kI := 4) (own_hw hw 6 rfl) E1 F2 F1 V1 hcd hbd (SG1.ext O0.2) PG1 (SG3.ext O0.2) rG3 (Nat.le_of_ble_eq_true rfl) (i := 1) (Nat.le_of_ble_eq_true rfl) (j := (1 : Int32)) rfl (by decide) (by decide)) q106a q106c (g := (mkF m 12 #[.val (.ref a1), .val (.int (1 : Int32)), .val (.int c0)] [(.int (1 : Int32)), (.ref a1)])) rfl (by rw [hml]; rfl) (Steps.refl _) (argsL := [(.int (1 : Int32))]) (rest := []) (lenOf own_pd14 rfl) rfl (by show 2 * 0 + _ ≤ _; exact Nat.le_of_eq rfl) (hb hby own_d5_12) (fun _ _ => ⟨rfl, e105, (by decide : 0 + 0 ≤ _), (by decide : 0 + 0 ≤ _)⟩)
      dsimp only [Pt.U, Pt.locs, Pt.cells, Pt.slots] at X106 l106 y106 z106 st106 hQ106
      subst l106 y106 z106
      obtain ⟨rfl, rfl, e106⟩ := hQ106
      have Nq106 : Fr n0 ([] : List Loc) := Fr.nil n0
      have N106 := Fr.app N105 Nq106
      refine own_st (fun _ k => st106.trans k) ?_
      show own_Ok p e below _ (T106.setTop (mkF m 15 #[.val (.ref a1), .val (.int (1 : Int32)), .val (.int c0)] [(.int c1)]))
      refine s_istoreN X106 hx (hb hby own_d5_15) #[.val (.ref a1), .val (.int (1 : Int32)), .val (.int c1)] rfl ?_
      refine s_iloadN X106 hx (hb hby own_d5_16) rfl ?_
      refine s_bipush X106 hx (32 : Int32) (hb hby own_d5_17) rfl ?_
      by_cases c19_107 : c1 < (32 : Int32)
      · skip
        refine s_icmpYes X106 hx 35 (hb hby own_d5_19) (XT.ii_lt_t c19_107) (by decide) (by decide) ?_
        refine s_iconst X106 hx (0 : Int32) (hb hby own_d5_35) rfl ?_
        exact own_retN X106 hx hlk (t := .boolean) Bd.returns (by simp) (hb hby own_d5_36) (by rw [e106]; exact ⟨by rw [((own_all_yes (own_ok_in c19_103 c25_104 p0)).trans (own_all_no (own_ok_lt c19_107)))]; rfl, N106, rfl⟩) (by decide) (by decide)
      · skip
        refine s_icmpNo X106 hx (hb hby own_d5_19) (XT.ii_lt_f c19_107) ?_
        refine s_iloadN X106 hx (hb hby own_d5_22) rfl ?_
        refine s_bipush X106 hx (127 : Int32) (hb hby own_d5_23) rfl ?_
        by_cases c25_108 : c1 = (127 : Int32)
        · skip
          refine s_icmpYes X106 hx 35 (hb hby own_d5_25) (XT.ii_eq_t c25_108) (by decide) (by decide) ?_
          refine s_iconst X106 hx (0 : Int32) (hb hby own_d5_35) rfl ?_
          exact own_retN X106 hx hlk (t := .boolean) Bd.returns (by simp) (hb hby own_d5_36) (by rw [e106]; exact ⟨by rw [((own_all_yes (own_ok_in c19_103 c25_104 p0)).trans (own_all_no (own_ok_127 c25_108)))]; rfl, N106, rfl⟩) (by decide) (by decide)
        · skip
          refine s_icmpNo X106 hx (hb hby own_d5_25) (XT.ii_eq_f c25_108) ?_
          refine s_iloadN X106 hx (hb hby own_d5_28) rfl ?_
          refine s_sipush X106 hx (255 : Int32) (hb hby own_d5_29) rfl ?_
          refine s_icmpYes X106 hx 37 (hb hby own_d5_32) (XT.ii_le_t p1) (by decide) (by decide) ?_
          refine s_iinc X106 hx (1 : Int32) (hb hby own_d5_37) rfl rfl #[.val (.ref a1), .val (.int (2 : Int32)), .val (.int c1)] rfl ?_
          refine s_goto X106 hx 2 (hb hby own_d5_40) (by decide) (by decide) ?_
          refine s_iloadN X106 hx (hb hby own_d5_2) rfl ?_
          refine s_aloadN X106 hx (hb hby own_d5_3) rfl rfl ?_
          obtain ⟨cq109, kq109, q109a, q109b, q109c⟩ := isOf hZ e106 E1
          obtain ⟨_, _, ⟨T109, L109, k109, n109⟩, -, X109, ⟨Lc109, hQ109, l109, y109, z109⟩, st109⟩ := X106.virtualBack hx (y := (⟨"java/lang/String", "length", "()I"⟩ : MethodName)) (z := (⟨"java/lang/String", "length", "()I"⟩ : MethodName)) hown (mvT hZ (own_hw hw 31 rfl)) (mvT hZ (own_hw hw 32 rfl)) (notFace_of_selects (args := #[]) (mvT hZ (own_hw hw 34 rfl))) (mvT hZ (own_hw hw 34 rfl)) (mvT hZ (own_hw hw 33 rfl)) (by decide) (StrChars.Road.lenW (W := 1) hZ hln (kI := 4) (own_hw hw 6 rfl) E1 F2 F1 V1 hcd hbd (SG1.ext O0.2) PG1 (Nat.le_of_ble_eq_true rfl) (by decide) (by decide)) q109a q109c (g := (mkF m 4 #[.val (.ref a1), .val (.int (2 : Int32)), .val (.int c1)] [(.ref a1), (.int (2 : Int32))])) rfl (by rw [hml]; rfl) (Steps.refl _) (argsL := []) (rest := [(.int (2 : Int32))]) (lenOf own_pd13 rfl) rfl (by show 2 * 0 + _ ≤ _; exact Nat.le_of_eq rfl) (hb hby own_d5_4) (fun _ _ => ⟨rfl, e106, (by decide : 0 + 0 ≤ _), (by decide : 0 + 0 ≤ _)⟩)
          dsimp only [Pt.U, Pt.locs, Pt.cells, Pt.slots] at X109 l109 y109 z109 st109 hQ109
          subst l109 y109 z109
          obtain ⟨rfl, rfl, e109⟩ := hQ109
          have Nq109 : Fr n0 ([] : List Loc) := Fr.nil n0
          have N109 := Fr.app N106 Nq109
          refine own_st (fun _ k => st109.trans k) ?_
          show own_Ok p e below _ (T109.setTop (mkF m 7 #[.val (.ref a1), .val (.int (2 : Int32)), .val (.int c1)] [(.int (3 : Int32)), (.int (2 : Int32))]))
          refine s_icmpNo X109 hx (hb hby own_d5_7) (XT.ii_ge_f (by decide)) ?_
          refine s_aloadN X109 hx (hb hby own_d5_10) rfl rfl ?_
          refine s_iloadN X109 hx (hb hby own_d5_11) rfl ?_
          obtain ⟨cq110, kq110, q110a, q110b, q110c⟩ := isOf hZ e109 E1
          obtain ⟨_, _, ⟨T110, L110, k110, n110⟩, -, X110, ⟨Lc110, hQ110, l110, y110, z110⟩, st110⟩ := X109.virtualBack hx (y := (⟨"java/lang/String", "charAt", "(I)C"⟩ : MethodName)) (z := (⟨"java/lang/String", "charAt", "(I)C"⟩ : MethodName)) hown (mvT hZ (own_hw hw 55 rfl)) (mvT hZ (own_hw hw 56 rfl)) (notFace_of_selects (args := #[]) (mvT hZ (own_hw hw 58 rfl))) (mvT hZ (own_hw hw 58 rfl)) (mvT hZ (own_hw hw 57 rfl)) (by decide) (StrChars.Road.chN (W := 0) hZ hch (kI := 4) (own_hw hw 6 rfl) E1 F2 F1 V1 hcd hbd (SG1.ext O0.2) PG1 (SG3.ext O0.2) rG3 (Nat.le_of_ble_eq_true rfl) (i := 2) (Nat.le_of_ble_eq_true rfl) (j := (2 : Int32)) rfl (by decide) (by decide)) q110a q110c (g := (mkF m 12 #[.val (.ref a1), .val (.int (2 : Int32)), .val (.int c1)] [(.int (2 : Int32)), (.ref a1)])) rfl (by rw [hml]; rfl) (Steps.refl _) (argsL := [(.int (2 : Int32))]) (rest := []) (lenOf own_pd14 rfl) rfl (by show 2 * 0 + _ ≤ _; exact Nat.le_of_eq rfl) (hb hby own_d5_12) (fun _ _ => ⟨rfl, e109, (by decide : 0 + 0 ≤ _), (by decide : 0 + 0 ≤ _)⟩)
          dsimp only [Pt.U, Pt.locs, Pt.cells, Pt.slots] at X110 l110 y110 z110 st110 hQ110
          subst l110 y110 z110
          obtain ⟨rfl, rfl, e110⟩ := hQ110
          have Nq110 : Fr n0 ([] : List Loc) := Fr.nil n0
          have N110 := Fr.app N109 Nq110
          refine own_st (fun _ k => st110.trans k) ?_
          show own_Ok p e below _ (T110.setTop (mkF m 15 #[.val (.ref a1), .val (.int (2 : Int32)), .val (.int c1)] [(.int c2)]))
          refine s_istoreN X110 hx (hb hby own_d5_15) #[.val (.ref a1), .val (.int (2 : Int32)), .val (.int c2)] rfl ?_
          refine s_iloadN X110 hx (hb hby own_d5_16) rfl ?_
          refine s_bipush X110 hx (32 : Int32) (hb hby own_d5_17) rfl ?_
          by_cases c19_111 : c2 < (32 : Int32)
          · skip
            refine s_icmpYes X110 hx 35 (hb hby own_d5_19) (XT.ii_lt_t c19_111) (by decide) (by decide) ?_
            refine s_iconst X110 hx (0 : Int32) (hb hby own_d5_35) rfl ?_
            exact own_retN X110 hx hlk (t := .boolean) Bd.returns (by simp) (hb hby own_d5_36) (by rw [e110]; exact ⟨by rw [((own_all_yes (own_ok_in c19_103 c25_104 p0)).trans ((own_all_yes (own_ok_in c19_107 c25_108 p1)).trans (own_all_no (own_ok_lt c19_111))))]; rfl, N110, rfl⟩) (by decide) (by decide)
          · skip
            refine s_icmpNo X110 hx (hb hby own_d5_19) (XT.ii_lt_f c19_111) ?_
            refine s_iloadN X110 hx (hb hby own_d5_22) rfl ?_
            refine s_bipush X110 hx (127 : Int32) (hb hby own_d5_23) rfl ?_
            by_cases c25_112 : c2 = (127 : Int32)
            · skip
              refine s_icmpYes X110 hx 35 (hb hby own_d5_25) (XT.ii_eq_t c25_112) (by decide) (by decide) ?_
              refine s_iconst X110 hx (0 : Int32) (hb hby own_d5_35) rfl ?_
              exact own_retN X110 hx hlk (t := .boolean) Bd.returns (by simp) (hb hby own_d5_36) (by rw [e110]; exact ⟨by rw [((own_all_yes (own_ok_in c19_103 c25_104 p0)).trans ((own_all_yes (own_ok_in c19_107 c25_108 p1)).trans (own_all_no (own_ok_127 c25_112))))]; rfl, N110, rfl⟩) (by decide) (by decide)
            · skip
              refine s_icmpNo X110 hx (hb hby own_d5_25) (XT.ii_eq_f c25_112) ?_
              refine s_iloadN X110 hx (hb hby own_d5_28) rfl ?_
              refine s_sipush X110 hx (255 : Int32) (hb hby own_d5_29) rfl ?_
              refine s_icmpYes X110 hx 37 (hb hby own_d5_32) (XT.ii_le_t p2) (by decide) (by decide) ?_
              refine s_iinc X110 hx (1 : Int32) (hb hby own_d5_37) rfl rfl #[.val (.ref a1), .val (.int (3 : Int32)), .val (.int c2)] rfl ?_
              refine s_goto X110 hx 2 (hb hby own_d5_40) (by decide) (by decide) ?_
              refine s_iloadN X110 hx (hb hby own_d5_2) rfl ?_
              refine s_aloadN X110 hx (hb hby own_d5_3) rfl rfl ?_
              obtain ⟨cq113, kq113, q113a, q113b, q113c⟩ := isOf hZ e110 E1
              obtain ⟨_, _, ⟨T113, L113, k113, n113⟩, -, X113, ⟨Lc113, hQ113, l113, y113, z113⟩, st113⟩ := X110.virtualBack hx (y := (⟨"java/lang/String", "length", "()I"⟩ : MethodName)) (z := (⟨"java/lang/String", "length", "()I"⟩ : MethodName)) hown (mvT hZ (own_hw hw 31 rfl)) (mvT hZ (own_hw hw 32 rfl)) (notFace_of_selects (args := #[]) (mvT hZ (own_hw hw 34 rfl))) (mvT hZ (own_hw hw 34 rfl)) (mvT hZ (own_hw hw 33 rfl)) (by decide) (StrChars.Road.lenW (W := 1) hZ hln (kI := 4) (own_hw hw 6 rfl) E1 F2 F1 V1 hcd hbd (SG1.ext O0.2) PG1 (Nat.le_of_ble_eq_true rfl) (by decide) (by decide)) q113a q113c (g := (mkF m 4 #[.val (.ref a1), .val (.int (3 : Int32)), .val (.int c2)] [(.ref a1), (.int (3 : Int32))])) rfl (by rw [hml]; rfl) (Steps.refl _) (argsL := []) (rest := [(.int (3 : Int32))]) (lenOf own_pd13 rfl) rfl (by show 2 * 0 + _ ≤ _; exact Nat.le_of_eq rfl) (hb hby own_d5_4) (fun _ _ => ⟨rfl, e110, (by decide : 0 + 0 ≤ _), (by decide : 0 + 0 ≤ _)⟩)
              dsimp only [Pt.U, Pt.locs, Pt.cells, Pt.slots] at X113 l113 y113 z113 st113 hQ113
              subst l113 y113 z113
              obtain ⟨rfl, rfl, e113⟩ := hQ113
              have Nq113 : Fr n0 ([] : List Loc) := Fr.nil n0
              have N113 := Fr.app N110 Nq113
              refine own_st (fun _ k => st113.trans k) ?_
              show own_Ok p e below _ (T113.setTop (mkF m 7 #[.val (.ref a1), .val (.int (3 : Int32)), .val (.int c2)] [(.int (3 : Int32)), (.int (3 : Int32))]))
              refine s_icmpYes X113 hx 43 (hb hby own_d5_7) (XT.ii_ge_t (by decide)) (by decide) (by decide) ?_
              refine s_iconst X113 hx (1 : Int32) (hb hby own_d5_43) rfl ?_
              exact own_retN X113 hx hlk (t := .boolean) Bd.returns (by simp) (hb hby own_d5_44) (by rw [e113]; exact ⟨by rw [((own_all_yes (own_ok_in c19_103 c25_104 p0)).trans ((own_all_yes (own_ok_in c19_107 c25_108 p1)).trans ((own_all_yes (own_ok_in c19_111 c25_112 p2)).trans (own_all_nil))))]; rfl, N113, rfl⟩) (by decide) (by decide)
theorem own_ef_rm_isf3u0 (m : MethodId) (a1 : Addr) : entryFrame m #[(.ref a1)] 3 = mkF m 0 #[.val (.ref a1), .unset, .unset] [] := by first | (simp [entryFrame, mkF, argsToLocals, Value.category]; done) | rfl
def Q_rm_isf3u0 (Z : State) (G1 : Int32) (G3 : Value) (c0 : Int32) (c1 : Int32) (c2 : Int32) (a1 : Addr) (t1 : Addr) (k1 : ClassId) (h0 : Heap) (n0 : Nat) (v : Option Value) (h : Heap) (L : List Loc) : Prop := v = some (.int (own_all ([c0, c1, c2] : List Int32))) ∧ Fr n0 L ∧ h = h0
set_option maxRecDepth 65536 in
set_option maxHeartbeats 40000000 in
theorem rm_isf3u0 (l : Launch) (Z : State) (a0 : Array Value) (hw : ∀ d ∈ tables_1, d.before a0 Z = true) (ws : List Jvm.Cond) (G1 : Int32) (G3 : Value) (c0 : Int32) (c1 : Int32) (c2 : Int32) (a1 : Addr) (t1 : Addr) (k1 : ClassId) (h0 : Heap) (n0 : Nat) (O0 : Old Z n0 h0) (hst : own_St Z G1 G3) (E1 : Exa Z h0 a1 "java/lang/String") (F1 : Fld Z h0 a1 "java/lang/String" "coder" "B" (.int (1 : Int32))) (F2 : Fld Z h0 a1 "java/lang/String" "value" "[B" (.ref t1)) (V1 : Arv Z h0 t1 k1 .byte (6 : Int32) [(.int (StrChars.lo8 c0)), (.int (StrChars.hi8 c0)), (.int (StrChars.lo8 c1)), (.int (StrChars.hi8 c1)), (.int (StrChars.lo8 c2)), (.int (StrChars.hi8 c2))] (.int (0 : Int32))) (r0 : ¬ c0 < 0 ∧ ¬ (65535 : Int32) < c0) (r1 : ¬ c1 < 0 ∧ ¬ (65535 : Int32) < c1) (r2 : ¬ c2 < 0 ∧ ¬ (65535 : Int32) < c2) (qf : (255 : Int32) < c0) :
    own_Met l Z (⟨"com/example/rolemesh/rolemesh/client/HttpMessages", "isFieldValue", "(Ljava/lang/String;)Z"⟩ : MethodName) prog_53_method_2_code 3 (some .boolean) ws ({ frames := 5, cells := 0, slots := 0, locals := 66 } : Room) #[(.ref a1)] h0 (Q_rm_isf3u0 Z G1 G3 c0 c1 c2 a1 t1 k1 h0 n0) := by
  refine MetFree.of_bodySF (plainFor_of_name own_pn4) hisR ?_
  intro p e s m args below meth c s₁ Bd hml0 hP hK
  obtain ⟨rfl, hZ, hh⟩ := hP
  have hx := Bd.exec
  have hby := Bd.bytes
  have hml : c.maxLocals = 3 := hml0
  have hown : s.vm.findClass "com/example/rolemesh/rolemesh/client/HttpMessages" = some m.cls := findClass_of_methodNamed Bd.named
  have hnm := (name_of_methodNamed Bd.named Bd.method).1
  have hlk : meth.locks = false := Bd.notSynchronized
  have X0 : Stand p l e ({ frames := 5, cells := 0, slots := 0, locals := 66 } : Room) s m #[(.ref a1)] below meth c s₁ [] 0 0 := Stand.of_body Bd
  have e0 : s₁.heap = h0 := by rw [← hh, Bd.state]; rfl
  have N0 := Fr.nil n0
  suffices hgo : own_Ok p e below (own_Qx s (Q_rm_isf3u0 Z G1 G3 c0 c1 c2 a1 t1 k1 h0 n0) 0 0) (s₁.setTop (mkF m 0 #[.val (.ref a1), .unset, .unset] [])) from by
    obtain ⟨s₂, o, h1, h2⟩ := hgo
    exact ⟨s₂, o, castTop (own_ef_rm_isf3u0 m a1) h1, h2⟩
  have hst' := hst
  obtain ⟨SG1, PG1, SG3, rG3, SAD, SHI, SLO⟩ := hst'
  have hln : ∀ d ∈ StrChars.Road.wordsLen, d.before a0 Z = true := fun d hd => hw d ((by decide +kernel : ∀ d ∈ StrChars.Road.wordsLen, d ∈ tables_1) d hd)
  have hcd : StrChars.Road.CodA ([c0, c1, c2] : List Int32) 1 (6 : Int32) (StrChars.Road.wideBytes ([c0, c1, c2] : List Int32)) := Or.inr ⟨rfl, rfl, rfl, c0, by simp, qf⟩
  have hbd : ∀ x ∈ ([c0, c1, c2] : List Int32), ¬ x < 0 ∧ ¬ (65535 : Int32) < x := by
    intro x hx
    simp only [List.mem_cons, List.not_mem_nil, or_false] at hx
    rcases hx with rfl | rfl | rfl
    · exact r0
    · exact r1
    · exact r2
  show own_Ok p e below _ (s₁.setTop (mkF m 0 #[.val (.ref a1), .unset, .unset] []))
  refine s_iconst X0 hx (0 : Int32) (hb hby own_d5_0) rfl ?_
  refine s_istoreN X0 hx (hb hby own_d5_1) #[.val (.ref a1), .val (.int (0 : Int32)), .unset] rfl ?_
  refine s_iloadN X0 hx (hb hby own_d5_2) rfl ?_
  refine s_aloadN X0 hx (hb hby own_d5_3) rfl rfl ?_
  obtain ⟨cq101, kq101, q101a, q101b, q101c⟩ := isOf hZ e0 E1
  obtain ⟨_, _, ⟨T101, L101, k101, n101⟩, -, X101, ⟨Lc101, hQ101, l101, y101, z101⟩, st101⟩ := X0.virtualBack hx (y := (⟨"java/lang/String", "length", "()I"⟩ : MethodName)) (z := (⟨"java/lang/String", "length", "()I"⟩ : MethodName)) hown (mvT hZ (own_hw hw 31 rfl)) (mvT hZ (own_hw hw 32 rfl)) (notFace_of_selects (args := #[]) (mvT hZ (own_hw hw 34 rfl))) (mvT hZ (own_hw hw 34 rfl)) (mvT hZ (own_hw hw 33 rfl)) (by decide) (StrChars.Road.lenW (W := 1) hZ hln (kI := 4) (own_hw hw 6 rfl) E1 F2 F1 V1 hcd hbd (SG1.ext O0.2) PG1 (Nat.le_of_ble_eq_true rfl) (by decide) (by decide)) q101a q101c (g := (mkF m 4 #[.val (.ref a1), .val (.int (0 : Int32)), .unset] [(.ref a1), (.int (0 : Int32))])) rfl (by rw [hml]; rfl) (Steps.refl _) (argsL := []) (rest := [(.int (0 : Int32))]) (lenOf own_pd13 rfl) rfl (by show 2 * 0 + _ ≤ _; exact Nat.le_of_eq rfl) (hb hby own_d5_4) (fun _ _ => ⟨rfl, e0, (by decide : 0 + 0 ≤ _), (by decide : 0 + 0 ≤ _)⟩)
  dsimp only [Pt.U, Pt.locs, Pt.cells, Pt.slots] at X101 l101 y101 z101 st101 hQ101
  subst l101 y101 z101
  obtain ⟨rfl, rfl, e101⟩ := hQ101
  have Nq101 : Fr n0 ([] : List Loc) := Fr.nil n0
  have N101 := Fr.app N0 Nq101
  refine own_st (fun _ k => st101.trans k) ?_
  show own_Ok p e below _ (T101.setTop (mkF m 7 #[.val (.ref a1), .val (.int (0 : Int32)), .unset] [(.int (3 : Int32)), (.int (0 : Int32))]))
  refine s_icmpNo X101 hx (hb hby own_d5_7) (XT.ii_ge_f (by decide)) ?_
  refine s_aloadN X101 hx (hb hby own_d5_10) rfl rfl ?_
  refine s_iloadN X101 hx (hb hby own_d5_11) rfl ?_
  obtain ⟨_, T102, Lc102, X102, hQ102, st102⟩ := own_callV X101 hx hZ hown (own_hw hw 55 rfl) (own_hw hw 56 rfl) (own_hw hw 58 rfl) (own_hw hw 58 rfl) (own_hw hw 57 rfl) (own_hw hw 7 rfl) (own_hw hw 59 rfl) (rm_sch30 l Z a0 hw [] G1 G3 c0 c1 c2 a1 t1 k1 h0 n0 O0 hst r0 r1 r2 E1 F1 F2 V1) (by decide) e101 E1 (Ls := #[.val (.ref a1), .val (.int (0 : Int32)), .unset]) [(.int (0 : Int32))] [] rfl (by rw [hml]; rfl) (lenOf own_pd14 rfl) (hb hby own_d5_12) (by decide) 0 rfl (by decide) (by decide) (by decide)
  obtain ⟨rfl, Nq102, e102⟩ := hQ102
  have N102 := Fr.app N101 Nq102
  refine st102 _ ?_
  show own_Ok p e below _ (T102.setTop (mkF m 15 #[.val (.ref a1), .val (.int (0 : Int32)), .unset] [(.int c0)]))
  refine s_istoreN X102 hx (hb hby own_d5_15) #[.val (.ref a1), .val (.int (0 : Int32)), .val (.int c0)] rfl ?_
  refine s_iloadN X102 hx (hb hby own_d5_16) rfl ?_
  refine s_bipush X102 hx (32 : Int32) (hb hby own_d5_17) rfl ?_
  by_cases c19_103 : c0 < (32 : Int32)
  · skip
    refine s_icmpYes X102 hx 35 (hb hby own_d5_19) (XT.ii_lt_t c19_103) (by decide) (by decide) ?_
    refine s_iconst X102 hx (0 : Int32) (hb hby own_d5_35) rfl ?_
    exact own_retN X102 hx hlk (t := .boolean) Bd.returns (by simp) (hb hby own_d5_36) (by rw [e102]; exact ⟨by rw [(own_all_no (own_ok_lt c19_103))]; rfl, N102, rfl⟩) (by decide) (by decide)
  · skip
    refine s_icmpNo X102 hx (hb hby own_d5_19) (XT.ii_lt_f c19_103) ?_
    refine s_iloadN X102 hx (hb hby own_d5_22) rfl ?_
    refine s_bipush X102 hx (127 : Int32) (hb hby own_d5_23) rfl ?_
    by_cases c25_104 : c0 = (127 : Int32)
    · skip
      refine s_icmpYes X102 hx 35 (hb hby own_d5_25) (XT.ii_eq_t c25_104) (by decide) (by decide) ?_
      refine s_iconst X102 hx (0 : Int32) (hb hby own_d5_35) rfl ?_
      exact own_retN X102 hx hlk (t := .boolean) Bd.returns (by simp) (hb hby own_d5_36) (by rw [e102]; exact ⟨by rw [(own_all_no (own_ok_127 c25_104))]; rfl, N102, rfl⟩) (by decide) (by decide)
    · skip
      refine s_icmpNo X102 hx (hb hby own_d5_25) (XT.ii_eq_f c25_104) ?_
      refine s_iloadN X102 hx (hb hby own_d5_28) rfl ?_
      refine s_sipush X102 hx (255 : Int32) (hb hby own_d5_29) rfl ?_
      refine s_icmpNo X102 hx (hb hby own_d5_32) (XT.ii_le_f qf) ?_
      refine s_iconst X102 hx (0 : Int32) (hb hby own_d5_35) rfl ?_
      exact own_retN X102 hx hlk (t := .boolean) Bd.returns (by simp) (hb hby own_d5_36) (by rw [e102]; exact ⟨by rw [(own_all_no (own_ok_gt qf))]; rfl, N102, rfl⟩) (by decide) (by decide)
theorem own_ef_rm_isf3u1 (m : MethodId) (a1 : Addr) : entryFrame m #[(.ref a1)] 3 = mkF m 0 #[.val (.ref a1), .unset, .unset] [] := by first | (simp [entryFrame, mkF, argsToLocals, Value.category]; done) | rfl
def Q_rm_isf3u1 (Z : State) (G1 : Int32) (G3 : Value) (c0 : Int32) (c1 : Int32) (c2 : Int32) (a1 : Addr) (t1 : Addr) (k1 : ClassId) (h0 : Heap) (n0 : Nat) (v : Option Value) (h : Heap) (L : List Loc) : Prop := v = some (.int (own_all ([c0, c1, c2] : List Int32))) ∧ Fr n0 L ∧ h = h0
set_option maxRecDepth 65536 in
set_option maxHeartbeats 40000000 in
theorem rm_isf3u1 (l : Launch) (Z : State) (a0 : Array Value) (hw : ∀ d ∈ tables_1, d.before a0 Z = true) (ws : List Jvm.Cond) (G1 : Int32) (G3 : Value) (c0 : Int32) (c1 : Int32) (c2 : Int32) (a1 : Addr) (t1 : Addr) (k1 : ClassId) (h0 : Heap) (n0 : Nat) (O0 : Old Z n0 h0) (hst : own_St Z G1 G3) (E1 : Exa Z h0 a1 "java/lang/String") (F1 : Fld Z h0 a1 "java/lang/String" "coder" "B" (.int (1 : Int32))) (F2 : Fld Z h0 a1 "java/lang/String" "value" "[B" (.ref t1)) (V1 : Arv Z h0 t1 k1 .byte (6 : Int32) [(.int (StrChars.lo8 c0)), (.int (StrChars.hi8 c0)), (.int (StrChars.lo8 c1)), (.int (StrChars.hi8 c1)), (.int (StrChars.lo8 c2)), (.int (StrChars.hi8 c2))] (.int (0 : Int32))) (r0 : ¬ c0 < 0 ∧ ¬ (65535 : Int32) < c0) (r1 : ¬ c1 < 0 ∧ ¬ (65535 : Int32) < c1) (r2 : ¬ c2 < 0 ∧ ¬ (65535 : Int32) < c2) (q0 : ¬ (255 : Int32) < c0) (qf : (255 : Int32) < c1) :
    own_Met l Z (⟨"com/example/rolemesh/rolemesh/client/HttpMessages", "isFieldValue", "(Ljava/lang/String;)Z"⟩ : MethodName) prog_53_method_2_code 3 (some .boolean) ws ({ frames := 5, cells := 0, slots := 0, locals := 66 } : Room) #[(.ref a1)] h0 (Q_rm_isf3u1 Z G1 G3 c0 c1 c2 a1 t1 k1 h0 n0) := by
  refine MetFree.of_bodySF (plainFor_of_name own_pn4) hisR ?_
  intro p e s m args below meth c s₁ Bd hml0 hP hK
  obtain ⟨rfl, hZ, hh⟩ := hP
  have hx := Bd.exec
  have hby := Bd.bytes
  have hml : c.maxLocals = 3 := hml0
  have hown : s.vm.findClass "com/example/rolemesh/rolemesh/client/HttpMessages" = some m.cls := findClass_of_methodNamed Bd.named
  have hnm := (name_of_methodNamed Bd.named Bd.method).1
  have hlk : meth.locks = false := Bd.notSynchronized
  have X0 : Stand p l e ({ frames := 5, cells := 0, slots := 0, locals := 66 } : Room) s m #[(.ref a1)] below meth c s₁ [] 0 0 := Stand.of_body Bd
  have e0 : s₁.heap = h0 := by rw [← hh, Bd.state]; rfl
  have N0 := Fr.nil n0
  suffices hgo : own_Ok p e below (own_Qx s (Q_rm_isf3u1 Z G1 G3 c0 c1 c2 a1 t1 k1 h0 n0) 0 0) (s₁.setTop (mkF m 0 #[.val (.ref a1), .unset, .unset] [])) from by
    obtain ⟨s₂, o, h1, h2⟩ := hgo
    exact ⟨s₂, o, castTop (own_ef_rm_isf3u1 m a1) h1, h2⟩
  have hst' := hst
  obtain ⟨SG1, PG1, SG3, rG3, SAD, SHI, SLO⟩ := hst'
  have hln : ∀ d ∈ StrChars.Road.wordsLen, d.before a0 Z = true := fun d hd => hw d ((by decide +kernel : ∀ d ∈ StrChars.Road.wordsLen, d ∈ tables_1) d hd)
  have hcd : StrChars.Road.CodA ([c0, c1, c2] : List Int32) 1 (6 : Int32) (StrChars.Road.wideBytes ([c0, c1, c2] : List Int32)) := Or.inr ⟨rfl, rfl, rfl, c1, by simp, qf⟩
  have hbd : ∀ x ∈ ([c0, c1, c2] : List Int32), ¬ x < 0 ∧ ¬ (65535 : Int32) < x := by
    intro x hx
    simp only [List.mem_cons, List.not_mem_nil, or_false] at hx
    rcases hx with rfl | rfl | rfl
    · exact r0
    · exact r1
    · exact r2
  show own_Ok p e below _ (s₁.setTop (mkF m 0 #[.val (.ref a1), .unset, .unset] []))
  refine s_iconst X0 hx (0 : Int32) (hb hby own_d5_0) rfl ?_
  refine s_istoreN X0 hx (hb hby own_d5_1) #[.val (.ref a1), .val (.int (0 : Int32)), .unset] rfl ?_
  refine s_iloadN X0 hx (hb hby own_d5_2) rfl ?_
  refine s_aloadN X0 hx (hb hby own_d5_3) rfl rfl ?_
  obtain ⟨cq101, kq101, q101a, q101b, q101c⟩ := isOf hZ e0 E1
  obtain ⟨_, _, ⟨T101, L101, k101, n101⟩, -, X101, ⟨Lc101, hQ101, l101, y101, z101⟩, st101⟩ := X0.virtualBack hx (y := (⟨"java/lang/String", "length", "()I"⟩ : MethodName)) (z := (⟨"java/lang/String", "length", "()I"⟩ : MethodName)) hown (mvT hZ (own_hw hw 31 rfl)) (mvT hZ (own_hw hw 32 rfl)) (notFace_of_selects (args := #[]) (mvT hZ (own_hw hw 34 rfl))) (mvT hZ (own_hw hw 34 rfl)) (mvT hZ (own_hw hw 33 rfl)) (by decide) (StrChars.Road.lenW (W := 1) hZ hln (kI := 4) (own_hw hw 6 rfl) E1 F2 F1 V1 hcd hbd (SG1.ext O0.2) PG1 (Nat.le_of_ble_eq_true rfl) (by decide) (by decide)) q101a q101c (g := (mkF m 4 #[.val (.ref a1), .val (.int (0 : Int32)), .unset] [(.ref a1), (.int (0 : Int32))])) rfl (by rw [hml]; rfl) (Steps.refl _) (argsL := []) (rest := [(.int (0 : Int32))]) (lenOf own_pd13 rfl) rfl (by show 2 * 0 + _ ≤ _; exact Nat.le_of_eq rfl) (hb hby own_d5_4) (fun _ _ => ⟨rfl, e0, (by decide : 0 + 0 ≤ _), (by decide : 0 + 0 ≤ _)⟩)
  dsimp only [Pt.U, Pt.locs, Pt.cells, Pt.slots] at X101 l101 y101 z101 st101 hQ101
  subst l101 y101 z101
  obtain ⟨rfl, rfl, e101⟩ := hQ101
  have Nq101 : Fr n0 ([] : List Loc) := Fr.nil n0
  have N101 := Fr.app N0 Nq101
  refine own_st (fun _ k => st101.trans k) ?_
  show own_Ok p e below _ (T101.setTop (mkF m 7 #[.val (.ref a1), .val (.int (0 : Int32)), .unset] [(.int (3 : Int32)), (.int (0 : Int32))]))
  refine s_icmpNo X101 hx (hb hby own_d5_7) (XT.ii_ge_f (by decide)) ?_
  refine s_aloadN X101 hx (hb hby own_d5_10) rfl rfl ?_
  refine s_iloadN X101 hx (hb hby own_d5_11) rfl ?_
  obtain ⟨_, T102, Lc102, X102, hQ102, st102⟩ := own_callV X101 hx hZ hown (own_hw hw 55 rfl) (own_hw hw 56 rfl) (own_hw hw 58 rfl) (own_hw hw 58 rfl) (own_hw hw 57 rfl) (own_hw hw 7 rfl) (own_hw hw 59 rfl) (rm_sch30 l Z a0 hw [] G1 G3 c0 c1 c2 a1 t1 k1 h0 n0 O0 hst r0 r1 r2 E1 F1 F2 V1) (by decide) e101 E1 (Ls := #[.val (.ref a1), .val (.int (0 : Int32)), .unset]) [(.int (0 : Int32))] [] rfl (by rw [hml]; rfl) (lenOf own_pd14 rfl) (hb hby own_d5_12) (by decide) 0 rfl (by decide) (by decide) (by decide)
  obtain ⟨rfl, Nq102, e102⟩ := hQ102
  have N102 := Fr.app N101 Nq102
  refine st102 _ ?_
  show own_Ok p e below _ (T102.setTop (mkF m 15 #[.val (.ref a1), .val (.int (0 : Int32)), .unset] [(.int c0)]))
  refine s_istoreN X102 hx (hb hby own_d5_15) #[.val (.ref a1), .val (.int (0 : Int32)), .val (.int c0)] rfl ?_
  refine s_iloadN X102 hx (hb hby own_d5_16) rfl ?_
  refine s_bipush X102 hx (32 : Int32) (hb hby own_d5_17) rfl ?_
  by_cases c19_103 : c0 < (32 : Int32)
  · skip
    refine s_icmpYes X102 hx 35 (hb hby own_d5_19) (XT.ii_lt_t c19_103) (by decide) (by decide) ?_
    refine s_iconst X102 hx (0 : Int32) (hb hby own_d5_35) rfl ?_
    exact own_retN X102 hx hlk (t := .boolean) Bd.returns (by simp) (hb hby own_d5_36) (by rw [e102]; exact ⟨by rw [(own_all_no (own_ok_lt c19_103))]; rfl, N102, rfl⟩) (by decide) (by decide)
  · skip
    refine s_icmpNo X102 hx (hb hby own_d5_19) (XT.ii_lt_f c19_103) ?_
    refine s_iloadN X102 hx (hb hby own_d5_22) rfl ?_
    refine s_bipush X102 hx (127 : Int32) (hb hby own_d5_23) rfl ?_
    by_cases c25_104 : c0 = (127 : Int32)
    · skip
      refine s_icmpYes X102 hx 35 (hb hby own_d5_25) (XT.ii_eq_t c25_104) (by decide) (by decide) ?_
      refine s_iconst X102 hx (0 : Int32) (hb hby own_d5_35) rfl ?_
      exact own_retN X102 hx hlk (t := .boolean) Bd.returns (by simp) (hb hby own_d5_36) (by rw [e102]; exact ⟨by rw [(own_all_no (own_ok_127 c25_104))]; rfl, N102, rfl⟩) (by decide) (by decide)
    · skip
      refine s_icmpNo X102 hx (hb hby own_d5_25) (XT.ii_eq_f c25_104) ?_
      refine s_iloadN X102 hx (hb hby own_d5_28) rfl ?_
      refine s_sipush X102 hx (255 : Int32) (hb hby own_d5_29) rfl ?_
      refine s_icmpYes X102 hx 37 (hb hby own_d5_32) (XT.ii_le_t q0) (by decide) (by decide) ?_
      refine s_iinc X102 hx (1 : Int32) (hb hby own_d5_37) rfl rfl #[.val (.ref a1), .val (.int (1 : Int32)), .val (.int c0)] rfl ?_
      refine s_goto X102 hx 2 (hb hby own_d5_40) (by decide) (by decide) ?_
      refine s_iloadN X102 hx (hb hby own_d5_2) rfl ?_
      refine s_aloadN X102 hx (hb hby own_d5_3) rfl rfl ?_
      obtain ⟨cq105, kq105, q105a, q105b, q105c⟩ := isOf hZ e102 E1
      obtain ⟨_, _, ⟨T105, L105, k105, n105⟩, -, X105, ⟨Lc105, hQ105, l105, y105, z105⟩, st105⟩ := X102.virtualBack hx (y := (⟨"java/lang/String", "length", "()I"⟩ : MethodName)) (z := (⟨"java/lang/String", "length", "()I"⟩ : MethodName)) hown (mvT hZ (own_hw hw 31 rfl)) (mvT hZ (own_hw hw 32 rfl)) (notFace_of_selects (args := #[]) (mvT hZ (own_hw hw 34 rfl))) (mvT hZ (own_hw hw 34 rfl)) (mvT hZ (own_hw hw 33 rfl)) (by decide) (StrChars.Road.lenW (W := 1) hZ hln (kI := 4) (own_hw hw 6 rfl) E1 F2 F1 V1 hcd hbd (SG1.ext O0.2) PG1 (Nat.le_of_ble_eq_true rfl) (by decide) (by decide)) q105a q105c (g := (mkF m 4 #[.val (.ref a1), .val (.int (1 : Int32)), .val (.int c0)] [(.ref a1), (.int (1 : Int32))])) rfl (by rw [hml]; rfl) (Steps.refl _) (argsL := []) (rest := [(.int (1 : Int32))]) (lenOf own_pd13 rfl) rfl (by show 2 * 0 + _ ≤ _; exact Nat.le_of_eq rfl) (hb hby own_d5_4) (fun _ _ => ⟨rfl, e102, (by decide : 0 + 0 ≤ _), (by decide : 0 + 0 ≤ _)⟩)
      dsimp only [Pt.U, Pt.locs, Pt.cells, Pt.slots] at X105 l105 y105 z105 st105 hQ105
      subst l105 y105 z105
      obtain ⟨rfl, rfl, e105⟩ := hQ105
      have Nq105 : Fr n0 ([] : List Loc) := Fr.nil n0
      have N105 := Fr.app N102 Nq105
      refine own_st (fun _ k => st105.trans k) ?_
      show own_Ok p e below _ (T105.setTop (mkF m 7 #[.val (.ref a1), .val (.int (1 : Int32)), .val (.int c0)] [(.int (3 : Int32)), (.int (1 : Int32))]))
      refine s_icmpNo X105 hx (hb hby own_d5_7) (XT.ii_ge_f (by decide)) ?_
      refine s_aloadN X105 hx (hb hby own_d5_10) rfl rfl ?_
      refine s_iloadN X105 hx (hb hby own_d5_11) rfl ?_
      obtain ⟨_, T106, Lc106, X106, hQ106, st106⟩ := own_callV X105 hx hZ hown (own_hw hw 55 rfl) (own_hw hw 56 rfl) (own_hw hw 58 rfl) (own_hw hw 58 rfl) (own_hw hw 57 rfl) (own_hw hw 7 rfl) (own_hw hw 59 rfl) (rm_sch31 l Z a0 hw [] G1 G3 c0 c1 c2 a1 t1 k1 h0 n0 O0 hst r0 r1 r2 E1 F1 F2 V1) (by decide) e105 E1 (Ls := #[.val (.ref a1), .val (.int (1 : Int32)), .val (.int c0)]) [(.int (1 : Int32))] [] rfl (by rw [hml]; rfl) (lenOf own_pd14 rfl) (hb hby own_d5_12) (by decide) 0 rfl (by decide) (by decide) (by decide)
      obtain ⟨rfl, Nq106, e106⟩ := hQ106
      have N106 := Fr.app N105 Nq106
      refine st106 _ ?_
      show own_Ok p e below _ (T106.setTop (mkF m 15 #[.val (.ref a1), .val (.int (1 : Int32)), .val (.int c0)] [(.int c1)]))
      refine s_istoreN X106 hx (hb hby own_d5_15) #[.val (.ref a1), .val (.int (1 : Int32)), .val (.int c1)] rfl ?_
      refine s_iloadN X106 hx (hb hby own_d5_16) rfl ?_
      refine s_bipush X106 hx (32 : Int32) (hb hby own_d5_17) rfl ?_
      by_cases c19_107 : c1 < (32 : Int32)
      · skip
        refine s_icmpYes X106 hx 35 (hb hby own_d5_19) (XT.ii_lt_t c19_107) (by decide) (by decide) ?_
        refine s_iconst X106 hx (0 : Int32) (hb hby own_d5_35) rfl ?_
        exact own_retN X106 hx hlk (t := .boolean) Bd.returns (by simp) (hb hby own_d5_36) (by rw [e106]; exact ⟨by rw [((own_all_yes (own_ok_in c19_103 c25_104 q0)).trans (own_all_no (own_ok_lt c19_107)))]; rfl, N106, rfl⟩) (by decide) (by decide)
      · skip
        refine s_icmpNo X106 hx (hb hby own_d5_19) (XT.ii_lt_f c19_107) ?_
        refine s_iloadN X106 hx (hb hby own_d5_22) rfl ?_
        refine s_bipush X106 hx (127 : Int32) (hb hby own_d5_23) rfl ?_
        by_cases c25_108 : c1 = (127 : Int32)
        · skip
          refine s_icmpYes X106 hx 35 (hb hby own_d5_25) (XT.ii_eq_t c25_108) (by decide) (by decide) ?_
          refine s_iconst X106 hx (0 : Int32) (hb hby own_d5_35) rfl ?_
          exact own_retN X106 hx hlk (t := .boolean) Bd.returns (by simp) (hb hby own_d5_36) (by rw [e106]; exact ⟨by rw [((own_all_yes (own_ok_in c19_103 c25_104 q0)).trans (own_all_no (own_ok_127 c25_108)))]; rfl, N106, rfl⟩) (by decide) (by decide)
        · skip
          refine s_icmpNo X106 hx (hb hby own_d5_25) (XT.ii_eq_f c25_108) ?_
          refine s_iloadN X106 hx (hb hby own_d5_28) rfl ?_
          refine s_sipush X106 hx (255 : Int32) (hb hby own_d5_29) rfl ?_
          refine s_icmpNo X106 hx (hb hby own_d5_32) (XT.ii_le_f qf) ?_
          refine s_iconst X106 hx (0 : Int32) (hb hby own_d5_35) rfl ?_
          exact own_retN X106 hx hlk (t := .boolean) Bd.returns (by simp) (hb hby own_d5_36) (by rw [e106]; exact ⟨by rw [((own_all_yes (own_ok_in c19_103 c25_104 q0)).trans (own_all_no (own_ok_gt qf)))]; rfl, N106, rfl⟩) (by decide) (by decide)
theorem own_ef_rm_isf3u2 (m : MethodId) (a1 : Addr) : entryFrame m #[(.ref a1)] 3 = mkF m 0 #[.val (.ref a1), .unset, .unset] [] := by first | (simp [entryFrame, mkF, argsToLocals, Value.category]; done) | rfl
def Q_rm_isf3u2 (Z : State) (G1 : Int32) (G3 : Value) (c0 : Int32) (c1 : Int32) (c2 : Int32) (a1 : Addr) (t1 : Addr) (k1 : ClassId) (h0 : Heap) (n0 : Nat) (v : Option Value) (h : Heap) (L : List Loc) : Prop := v = some (.int (own_all ([c0, c1, c2] : List Int32))) ∧ Fr n0 L ∧ h = h0
set_option maxRecDepth 65536 in
set_option maxHeartbeats 40000000 in
theorem rm_isf3u2 (l : Launch) (Z : State) (a0 : Array Value) (hw : ∀ d ∈ tables_1, d.before a0 Z = true) (ws : List Jvm.Cond) (G1 : Int32) (G3 : Value) (c0 : Int32) (c1 : Int32) (c2 : Int32) (a1 : Addr) (t1 : Addr) (k1 : ClassId) (h0 : Heap) (n0 : Nat) (O0 : Old Z n0 h0) (hst : own_St Z G1 G3) (E1 : Exa Z h0 a1 "java/lang/String") (F1 : Fld Z h0 a1 "java/lang/String" "coder" "B" (.int (1 : Int32))) (F2 : Fld Z h0 a1 "java/lang/String" "value" "[B" (.ref t1)) (V1 : Arv Z h0 t1 k1 .byte (6 : Int32) [(.int (StrChars.lo8 c0)), (.int (StrChars.hi8 c0)), (.int (StrChars.lo8 c1)), (.int (StrChars.hi8 c1)), (.int (StrChars.lo8 c2)), (.int (StrChars.hi8 c2))] (.int (0 : Int32))) (r0 : ¬ c0 < 0 ∧ ¬ (65535 : Int32) < c0) (r1 : ¬ c1 < 0 ∧ ¬ (65535 : Int32) < c1) (r2 : ¬ c2 < 0 ∧ ¬ (65535 : Int32) < c2) (q0 : ¬ (255 : Int32) < c0) (q1 : ¬ (255 : Int32) < c1) (qf : (255 : Int32) < c2) :
    own_Met l Z (⟨"com/example/rolemesh/rolemesh/client/HttpMessages", "isFieldValue", "(Ljava/lang/String;)Z"⟩ : MethodName) prog_53_method_2_code 3 (some .boolean) ws ({ frames := 5, cells := 0, slots := 0, locals := 66 } : Room) #[(.ref a1)] h0 (Q_rm_isf3u2 Z G1 G3 c0 c1 c2 a1 t1 k1 h0 n0) := by
  refine MetFree.of_bodySF (plainFor_of_name own_pn4) hisR ?_
  intro p e s m args below meth c s₁ Bd hml0 hP hK
  obtain ⟨rfl, hZ, hh⟩ := hP
  have hx := Bd.exec
  have hby := Bd.bytes
  have hml : c.maxLocals = 3 := hml0
  have hown : s.vm.findClass "com/example/rolemesh/rolemesh/client/HttpMessages" = some m.cls := findClass_of_methodNamed Bd.named
  have hnm := (name_of_methodNamed Bd.named Bd.method).1
  have hlk : meth.locks = false := Bd.notSynchronized
  have X0 : Stand p l e ({ frames := 5, cells := 0, slots := 0, locals := 66 } : Room) s m #[(.ref a1)] below meth c s₁ [] 0 0 := Stand.of_body Bd
  have e0 : s₁.heap = h0 := by rw [← hh, Bd.state]; rfl
  have N0 := Fr.nil n0
  suffices hgo : own_Ok p e below (own_Qx s (Q_rm_isf3u2 Z G1 G3 c0 c1 c2 a1 t1 k1 h0 n0) 0 0) (s₁.setTop (mkF m 0 #[.val (.ref a1), .unset, .unset] [])) from by
    obtain ⟨s₂, o, h1, h2⟩ := hgo
    exact ⟨s₂, o, castTop (own_ef_rm_isf3u2 m a1) h1, h2⟩
  have hst' := hst
  obtain ⟨SG1, PG1, SG3, rG3, SAD, SHI, SLO⟩ := hst'
  have hln : ∀ d ∈ StrChars.Road.wordsLen, d.before a0 Z = true := fun d hd => hw d ((by decide +kernel : ∀ d ∈ StrChars.Road.wordsLen, d ∈ tables_1) d hd)
  have hcd : StrChars.Road.CodA ([c0, c1, c2] : List Int32) 1 (6 : Int32) (StrChars.Road.wideBytes ([c0, c1, c2] : List Int32)) := Or.inr ⟨rfl, rfl, rfl, c2, by simp, qf⟩
  have hbd : ∀ x ∈ ([c0, c1, c2] : List Int32), ¬ x < 0 ∧ ¬ (65535 : Int32) < x := by
    intro x hx
    simp only [List.mem_cons, List.not_mem_nil, or_false] at hx
    rcases hx with rfl | rfl | rfl
    · exact r0
    · exact r1
    · exact r2
  show own_Ok p e below _ (s₁.setTop (mkF m 0 #[.val (.ref a1), .unset, .unset] []))
  refine s_iconst X0 hx (0 : Int32) (hb hby own_d5_0) rfl ?_
  refine s_istoreN X0 hx (hb hby own_d5_1) #[.val (.ref a1), .val (.int (0 : Int32)), .unset] rfl ?_
  refine s_iloadN X0 hx (hb hby own_d5_2) rfl ?_
  refine s_aloadN X0 hx (hb hby own_d5_3) rfl rfl ?_
  obtain ⟨cq101, kq101, q101a, q101b, q101c⟩ := isOf hZ e0 E1
  obtain ⟨_, _, ⟨T101, L101, k101, n101⟩, -, X101, ⟨Lc101, hQ101, l101, y101, z101⟩, st101⟩ := X0.virtualBack hx (y := (⟨"java/lang/String", "length", "()I"⟩ : MethodName)) (z := (⟨"java/lang/String", "length", "()I"⟩ : MethodName)) hown (mvT hZ (own_hw hw 31 rfl)) (mvT hZ (own_hw hw 32 rfl)) (notFace_of_selects (args := #[]) (mvT hZ (own_hw hw 34 rfl))) (mvT hZ (own_hw hw 34 rfl)) (mvT hZ (own_hw hw 33 rfl)) (by decide) (StrChars.Road.lenW (W := 1) hZ hln (kI := 4) (own_hw hw 6 rfl) E1 F2 F1 V1 hcd hbd (SG1.ext O0.2) PG1 (Nat.le_of_ble_eq_true rfl) (by decide) (by decide)) q101a q101c (g := (mkF m 4 #[.val (.ref a1), .val (.int (0 : Int32)), .unset] [(.ref a1), (.int (0 : Int32))])) rfl (by rw [hml]; rfl) (Steps.refl _) (argsL := []) (rest := [(.int (0 : Int32))]) (lenOf own_pd13 rfl) rfl (by show 2 * 0 + _ ≤ _; exact Nat.le_of_eq rfl) (hb hby own_d5_4) (fun _ _ => ⟨rfl, e0, (by decide : 0 + 0 ≤ _), (by decide : 0 + 0 ≤ _)⟩)
  dsimp only [Pt.U, Pt.locs, Pt.cells, Pt.slots] at X101 l101 y101 z101 st101 hQ101
  subst l101 y101 z101
  obtain ⟨rfl, rfl, e101⟩ := hQ101
  have Nq101 : Fr n0 ([] : List Loc) := Fr.nil n0
  have N101 := Fr.app N0 Nq101
  refine own_st (fun _ k => st101.trans k) ?_
  show own_Ok p e below _ (T101.setTop (mkF m 7 #[.val (.ref a1), .val (.int (0 : Int32)), .unset] [(.int (3 : Int32)), (.int (0 : Int32))]))
  refine s_icmpNo X101 hx (hb hby own_d5_7) (XT.ii_ge_f (by decide)) ?_
  refine s_aloadN X101 hx (hb hby own_d5_10) rfl rfl ?_
  refine s_iloadN X101 hx (hb hby own_d5_11) rfl ?_
  obtain ⟨_, T102, Lc102, X102, hQ102, st102⟩ := own_callV X101 hx hZ hown (own_hw hw 55 rfl) (own_hw hw 56 rfl) (own_hw hw 58 rfl) (own_hw hw 58 rfl) (own_hw hw 57 rfl) (own_hw hw 7 rfl) (own_hw hw 59 rfl) (rm_sch30 l Z a0 hw [] G1 G3 c0 c1 c2 a1 t1 k1 h0 n0 O0 hst r0 r1 r2 E1 F1 F2 V1) (by decide) e101 E1 (Ls := #[.val (.ref a1), .val (.int (0 : Int32)), .unset]) [(.int (0 : Int32))] [] rfl (by rw [hml]; rfl) (lenOf own_pd14 rfl) (hb hby own_d5_12) (by decide) 0 rfl (by decide) (by decide) (by decide)
  obtain ⟨rfl, Nq102, e102⟩ := hQ102
  have N102 := Fr.app N101 Nq102
  refine st102 _ ?_
  show own_Ok p e below _ (T102.setTop (mkF m 15 #[.val (.ref a1), .val (.int (0 : Int32)), .unset] [(.int c0)]))
  refine s_istoreN X102 hx (hb hby own_d5_15) #[.val (.ref a1), .val (.int (0 : Int32)), .val (.int c0)] rfl ?_
  refine s_iloadN X102 hx (hb hby own_d5_16) rfl ?_
  refine s_bipush X102 hx (32 : Int32) (hb hby own_d5_17) rfl ?_
  by_cases c19_103 : c0 < (32 : Int32)
  · skip
    refine s_icmpYes X102 hx 35 (hb hby own_d5_19) (XT.ii_lt_t c19_103) (by decide) (by decide) ?_
    refine s_iconst X102 hx (0 : Int32) (hb hby own_d5_35) rfl ?_
    exact own_retN X102 hx hlk (t := .boolean) Bd.returns (by simp) (hb hby own_d5_36) (by rw [e102]; exact ⟨by rw [(own_all_no (own_ok_lt c19_103))]; rfl, N102, rfl⟩) (by decide) (by decide)
  · skip
    refine s_icmpNo X102 hx (hb hby own_d5_19) (XT.ii_lt_f c19_103) ?_
    refine s_iloadN X102 hx (hb hby own_d5_22) rfl ?_
    refine s_bipush X102 hx (127 : Int32) (hb hby own_d5_23) rfl ?_
    by_cases c25_104 : c0 = (127 : Int32)
    · skip
      refine s_icmpYes X102 hx 35 (hb hby own_d5_25) (XT.ii_eq_t c25_104) (by decide) (by decide) ?_
      refine s_iconst X102 hx (0 : Int32) (hb hby own_d5_35) rfl ?_
      exact own_retN X102 hx hlk (t := .boolean) Bd.returns (by simp) (hb hby own_d5_36) (by rw [e102]; exact ⟨by rw [(own_all_no (own_ok_127 c25_104))]; rfl, N102, rfl⟩) (by decide) (by decide)
    · skip
      refine s_icmpNo X102 hx (hb hby own_d5_25) (XT.ii_eq_f c25_104) ?_
      refine s_iloadN X102 hx (hb hby own_d5_28) rfl ?_
      refine s_sipush X102 hx (255 : Int32) (hb hby own_d5_29) rfl ?_
      refine s_icmpYes X102 hx 37 (hb hby own_d5_32) (XT.ii_le_t q0) (by decide) (by decide) ?_
      refine s_iinc X102 hx (1 : Int32) (hb hby own_d5_37) rfl rfl #[.val (.ref a1), .val (.int (1 : Int32)), .val (.int c0)] rfl ?_
      refine s_goto X102 hx 2 (hb hby own_d5_40) (by decide) (by decide) ?_
      refine s_iloadN X102 hx (hb hby own_d5_2) rfl ?_
      refine s_aloadN X102 hx (hb hby own_d5_3) rfl rfl ?_
      obtain ⟨cq105, kq105, q105a, q105b, q105c⟩ := isOf hZ e102 E1
      obtain ⟨_, _, ⟨T105, L105, k105, n105⟩, -, X105, ⟨Lc105, hQ105, l105, y105, z105⟩, st105⟩ := X102.virtualBack hx (y := (⟨"java/lang/String", "length", "()I"⟩ : MethodName)) (z := (⟨"java/lang/String", "length", "()I"⟩ : MethodName)) hown (mvT hZ (own_hw hw 31 rfl)) (mvT hZ (own_hw hw 32 rfl)) (notFace_of_selects (args := #[]) (mvT hZ (own_hw hw 34 rfl))) (mvT hZ (own_hw hw 34 rfl)) (mvT hZ (own_hw hw 33 rfl)) (by decide) (StrChars.Road.lenW (W := 1) hZ hln (kI := 4) (own_hw hw 6 rfl) E1 F2 F1 V1 hcd hbd (SG1.ext O0.2) PG1 (Nat.le_of_ble_eq_true rfl) (by decide) (by decide)) q105a q105c (g := (mkF m 4 #[.val (.ref a1), .val (.int (1 : Int32)), .val (.int c0)] [(.ref a1), (.int (1 : Int32))])) rfl (by rw [hml]; rfl) (Steps.refl _) (argsL := []) (rest := [(.int (1 : Int32))]) (lenOf own_pd13 rfl) rfl (by show 2 * 0 + _ ≤ _; exact Nat.le_of_eq rfl) (hb hby own_d5_4) (fun _ _ => ⟨rfl, e102, (by decide : 0 + 0 ≤ _), (by decide : 0 + 0 ≤ _)⟩)
      dsimp only [Pt.U, Pt.locs, Pt.cells, Pt.slots] at X105 l105 y105 z105 st105 hQ105
      subst l105 y105 z105
      obtain ⟨rfl, rfl, e105⟩ := hQ105
      have Nq105 : Fr n0 ([] : List Loc) := Fr.nil n0
      have N105 := Fr.app N102 Nq105
      refine own_st (fun _ k => st105.trans k) ?_
      show own_Ok p e below _ (T105.setTop (mkF m 7 #[.val (.ref a1), .val (.int (1 : Int32)), .val (.int c0)] [(.int (3 : Int32)), (.int (1 : Int32))]))
      refine s_icmpNo X105 hx (hb hby own_d5_7) (XT.ii_ge_f (by decide)) ?_
      refine s_aloadN X105 hx (hb hby own_d5_10) rfl rfl ?_
      refine s_iloadN X105 hx (hb hby own_d5_11) rfl ?_
      obtain ⟨_, T106, Lc106, X106, hQ106, st106⟩ := own_callV X105 hx hZ hown (own_hw hw 55 rfl) (own_hw hw 56 rfl) (own_hw hw 58 rfl) (own_hw hw 58 rfl) (own_hw hw 57 rfl) (own_hw hw 7 rfl) (own_hw hw 59 rfl) (rm_sch31 l Z a0 hw [] G1 G3 c0 c1 c2 a1 t1 k1 h0 n0 O0 hst r0 r1 r2 E1 F1 F2 V1) (by decide) e105 E1 (Ls := #[.val (.ref a1), .val (.int (1 : Int32)), .val (.int c0)]) [(.int (1 : Int32))] [] rfl (by rw [hml]; rfl) (lenOf own_pd14 rfl) (hb hby own_d5_12) (by decide) 0 rfl (by decide) (by decide) (by decide)
      obtain ⟨rfl, Nq106, e106⟩ := hQ106
      have N106 := Fr.app N105 Nq106
      refine st106 _ ?_
      show own_Ok p e below _ (T106.setTop (mkF m 15 #[.val (.ref a1), .val (.int (1 : Int32)), .val (.int c0)] [(.int c1)]))
      refine s_istoreN X106 hx (hb hby own_d5_15) #[.val (.ref a1), .val (.int (1 : Int32)), .val (.int c1)] rfl ?_
      refine s_iloadN X106 hx (hb hby own_d5_16) rfl ?_
      refine s_bipush X106 hx (32 : Int32) (hb hby own_d5_17) rfl ?_
      by_cases c19_107 : c1 < (32 : Int32)
      · skip
        refine s_icmpYes X106 hx 35 (hb hby own_d5_19) (XT.ii_lt_t c19_107) (by decide) (by decide) ?_
        refine s_iconst X106 hx (0 : Int32) (hb hby own_d5_35) rfl ?_
        exact own_retN X106 hx hlk (t := .boolean) Bd.returns (by simp) (hb hby own_d5_36) (by rw [e106]; exact ⟨by rw [((own_all_yes (own_ok_in c19_103 c25_104 q0)).trans (own_all_no (own_ok_lt c19_107)))]; rfl, N106, rfl⟩) (by decide) (by decide)
      · skip
        refine s_icmpNo X106 hx (hb hby own_d5_19) (XT.ii_lt_f c19_107) ?_
        refine s_iloadN X106 hx (hb hby own_d5_22) rfl ?_
        refine s_bipush X106 hx (127 : Int32) (hb hby own_d5_23) rfl ?_
        by_cases c25_108 : c1 = (127 : Int32)
        · skip
          refine s_icmpYes X106 hx 35 (hb hby own_d5_25) (XT.ii_eq_t c25_108) (by decide) (by decide) ?_
          refine s_iconst X106 hx (0 : Int32) (hb hby own_d5_35) rfl ?_
          exact own_retN X106 hx hlk (t := .boolean) Bd.returns (by simp) (hb hby own_d5_36) (by rw [e106]; exact ⟨by rw [((own_all_yes (own_ok_in c19_103 c25_104 q0)).trans (own_all_no (own_ok_127 c25_108)))]; rfl, N106, rfl⟩) (by decide) (by decide)
        · skip
          refine s_icmpNo X106 hx (hb hby own_d5_25) (XT.ii_eq_f c25_108) ?_
          refine s_iloadN X106 hx (hb hby own_d5_28) rfl ?_
          refine s_sipush X106 hx (255 : Int32) (hb hby own_d5_29) rfl ?_
          refine s_icmpYes X106 hx 37 (hb hby own_d5_32) (XT.ii_le_t q1) (by decide) (by decide) ?_
          refine s_iinc X106 hx (1 : Int32) (hb hby own_d5_37) rfl rfl #[.val (.ref a1), .val (.int (2 : Int32)), .val (.int c1)] rfl ?_
          refine s_goto X106 hx 2 (hb hby own_d5_40) (by decide) (by decide) ?_
          refine s_iloadN X106 hx (hb hby own_d5_2) rfl ?_
          refine s_aloadN X106 hx (hb hby own_d5_3) rfl rfl ?_
          obtain ⟨cq109, kq109, q109a, q109b, q109c⟩ := isOf hZ e106 E1
          obtain ⟨_, _, ⟨T109, L109, k109, n109⟩, -, X109, ⟨Lc109, hQ109, l109, y109, z109⟩, st109⟩ := X106.virtualBack hx (y := (⟨"java/lang/String", "length", "()I"⟩ : MethodName)) (z := (⟨"java/lang/String", "length", "()I"⟩ : MethodName)) hown (mvT hZ (own_hw hw 31 rfl)) (mvT hZ (own_hw hw 32 rfl)) (notFace_of_selects (args := #[]) (mvT hZ (own_hw hw 34 rfl))) (mvT hZ (own_hw hw 34 rfl)) (mvT hZ (own_hw hw 33 rfl)) (by decide) (StrChars.Road.lenW (W := 1) hZ hln (kI := 4) (own_hw hw 6 rfl) E1 F2 F1 V1 hcd hbd (SG1.ext O0.2) PG1 (Nat.le_of_ble_eq_true rfl) (by decide) (by decide)) q109a q109c (g := (mkF m 4 #[.val (.ref a1), .val (.int (2 : Int32)), .val (.int c1)] [(.ref a1), (.int (2 : Int32))])) rfl (by rw [hml]; rfl) (Steps.refl _) (argsL := []) (rest := [(.int (2 : Int32))]) (lenOf own_pd13 rfl) rfl (by show 2 * 0 + _ ≤ _; exact Nat.le_of_eq rfl) (hb hby own_d5_4) (fun _ _ => ⟨rfl, e106, (by decide : 0 + 0 ≤ _), (by decide : 0 + 0 ≤ _)⟩)
          dsimp only [Pt.U, Pt.locs, Pt.cells, Pt.slots] at X109 l109 y109 z109 st109 hQ109
          subst l109 y109 z109
          obtain ⟨rfl, rfl, e109⟩ := hQ109
          have Nq109 : Fr n0 ([] : List Loc) := Fr.nil n0
          have N109 := Fr.app N106 Nq109
          refine own_st (fun _ k => st109.trans k) ?_
          show own_Ok p e below _ (T109.setTop (mkF m 7 #[.val (.ref a1), .val (.int (2 : Int32)), .val (.int c1)] [(.int (3 : Int32)), (.int (2 : Int32))]))
          refine s_icmpNo X109 hx (hb hby own_d5_7) (XT.ii_ge_f (by decide)) ?_
          refine s_aloadN X109 hx (hb hby own_d5_10) rfl rfl ?_
          refine s_iloadN X109 hx (hb hby own_d5_11) rfl ?_
          obtain ⟨_, T110, Lc110, X110, hQ110, st110⟩ := own_callV X109 hx hZ hown (own_hw hw 55 rfl) (own_hw hw 56 rfl) (own_hw hw 58 rfl) (own_hw hw 58 rfl) (own_hw hw 57 rfl) (own_hw hw 7 rfl) (own_hw hw 59 rfl) (rm_sch32 l Z a0 hw [] G1 G3 c0 c1 c2 a1 t1 k1 h0 n0 O0 hst r0 r1 r2 E1 F1 F2 V1) (by decide) e109 E1 (Ls := #[.val (.ref a1), .val (.int (2 : Int32)), .val (.int c1)]) [(.int (2 : Int32))] [] rfl (by rw [hml]; rfl) (lenOf own_pd14 rfl) (hb hby own_d5_12) (by decide) 0 rfl (by decide) (by decide) (by decide)
          obtain ⟨rfl, Nq110, e110⟩ := hQ110
          have N110 := Fr.app N109 Nq110
          refine st110 _ ?_
          show own_Ok p e below _ (T110.setTop (mkF m 15 #[.val (.ref a1), .val (.int (2 : Int32)), .val (.int c1)] [(.int c2)]))
          refine s_istoreN X110 hx (hb hby own_d5_15) #[.val (.ref a1), .val (.int (2 : Int32)), .val (.int c2)] rfl ?_
          refine s_iloadN X110 hx (hb hby own_d5_16) rfl ?_
          refine s_bipush X110 hx (32 : Int32) (hb hby own_d5_17) rfl ?_
          by_cases c19_111 : c2 < (32 : Int32)
          · skip
            refine s_icmpYes X110 hx 35 (hb hby own_d5_19) (XT.ii_lt_t c19_111) (by decide) (by decide) ?_
            refine s_iconst X110 hx (0 : Int32) (hb hby own_d5_35) rfl ?_
            exact own_retN X110 hx hlk (t := .boolean) Bd.returns (by simp) (hb hby own_d5_36) (by rw [e110]; exact ⟨by rw [((own_all_yes (own_ok_in c19_103 c25_104 q0)).trans ((own_all_yes (own_ok_in c19_107 c25_108 q1)).trans (own_all_no (own_ok_lt c19_111))))]; rfl, N110, rfl⟩) (by decide) (by decide)
          · skip
            refine s_icmpNo X110 hx (hb hby own_d5_19) (XT.ii_lt_f c19_111) ?_
            refine s_iloadN X110 hx (hb hby own_d5_22) rfl ?_
            refine s_bipush X110 hx (127 : Int32) (hb hby own_d5_23) rfl ?_
            by_cases c25_112 : c2 = (127 : Int32)
            · skip
              refine s_icmpYes X110 hx 35 (hb hby own_d5_25) (XT.ii_eq_t c25_112) (by decide) (by decide) ?_
              refine s_iconst X110 hx (0 : Int32) (hb hby own_d5_35) rfl ?_
              exact own_retN X110 hx hlk (t := .boolean) Bd.returns (by simp) (hb hby own_d5_36) (by rw [e110]; exact ⟨by rw [((own_all_yes (own_ok_in c19_103 c25_104 q0)).trans ((own_all_yes (own_ok_in c19_107 c25_108 q1)).trans (own_all_no (own_ok_127 c25_112))))]; rfl, N110, rfl⟩) (by decide) (by decide)
            · skip
              refine s_icmpNo X110 hx (hb hby own_d5_25) (XT.ii_eq_f c25_112) ?_
              refine s_iloadN X110 hx (hb hby own_d5_28) rfl ?_
              refine s_sipush X110 hx (255 : Int32) (hb hby own_d5_29) rfl ?_
              refine s_icmpNo X110 hx (hb hby own_d5_32) (XT.ii_le_f qf) ?_
              refine s_iconst X110 hx (0 : Int32) (hb hby own_d5_35) rfl ?_
              exact own_retN X110 hx hlk (t := .boolean) Bd.returns (by simp) (hb hby own_d5_36) (by rw [e110]; exact ⟨by rw [((own_all_yes (own_ok_in c19_103 c25_104 q0)).trans ((own_all_yes (own_ok_in c19_107 c25_108 q1)).trans (own_all_no (own_ok_gt qf))))]; rfl, N110, rfl⟩) (by decide) (by decide)
theorem own_pd15 : parseMethodDescriptor "([C)V" = some ⟨[(.array .char)], none⟩ := by decide +kernel
theorem own_pd16 : parseMethodDescriptor "(Ljava/lang/String;)Z" = some ⟨[(.object "java/lang/String")], some .boolean⟩ := by decide +kernel
theorem own_pd17 : parseMethodDescriptor "(C)Z" = some ⟨[.char], some .boolean⟩ := by decide +kernel
theorem own_ef_rm_law (m : MethodId) (xl : Int32) (x0 : Int32) (x1 : Int32) (x2 : Int32) : entryFrame m #[(.int xl), (.int x0), (.int x1), (.int x2)] maxLocals = mkF m 0 #[.val (.int xl), .val (.int x0), .val (.int x1), .val (.int x2), .unset, .unset, .unset, .unset, .unset, .unset] [] := by first | (simp [entryFrame, mkF, argsToLocals, Value.category, maxLocals]; done) | rfl
def Q_rm_law (Z : State) (xl : Int32) (x0 : Int32) (x1 : Int32) (x2 : Int32) (G1 : Int32) (G3 : Value) (h0 : Heap) (n0 : Nat) (v : Option Value) (h : Heap) (L : List Loc) : Prop := v = some (.int 1) ∧ Fr n0 L
set_option maxRecDepth 65536 in
set_option maxHeartbeats 40000000 in
theorem rm_law (l : Launch) (Z : State) (a0 : Array Value) (hw : ∀ d ∈ tables_1, d.before a0 Z = true) (ws : List Jvm.Cond) (xl : Int32) (x0 : Int32) (x1 : Int32) (x2 : Int32) (G1 : Int32) (G3 : Value) (h0 : Heap) (n0 : Nat) (O0 : Old Z n0 h0) (hst : own_St Z G1 G3) (hcst : Jvm.Lit.constHeld Z "java/lang/String" 7) (hcw : Jvm.Lit.compactW.before a0 Z = true) :
    MetFree l x (head1 (Jvm.Cond.code x code maxLocals ret :: ws) room_1) (fun a U => a = #[(.int xl), (.int x0), (.int x1), (.int x2)] ∧ Z.Warmed39 U.vm ∧ U.heap = h0 ∧ IB Z U.vm ([] : List String)) (fun _ _ _ _ _ => True) (fun _ U o U' => ∃ v L, o = .returned v ∧ Q_rm_law Z xl x0 x1 x2 G1 G3 h0 n0 v U'.heap L ∧ ReturnedEndW U o U' L 4 16) := by
  refine MetFree.of_bodySF (plainFor_of_name own_pn0) hisR ?_
  intro p e s m args below meth c s₁ Bd hml0 hP hK
  obtain ⟨rfl, hZ, hh, hIB⟩ := hP
  have hx := Bd.exec
  have hby := Bd.bytes
  have hml : c.maxLocals = 10 := hml0
  have hown : s.vm.findClass "com/example/rolemesh/rolemesh/client/HttpMessagesIsFieldValuePinLaw" = some m.cls := findClass_of_methodNamed Bd.named
  have hnm := (name_of_methodNamed Bd.named Bd.method).1
  have hlk : meth.locks = false := Bd.notSynchronized
  have X0 : Stand p l e room_1 (s.setVm s.vm) m #[(.int xl), (.int x0), (.int x1), (.int x2)] below meth c s₁ [] 0 0 := Stand.of_body Bd
  have hS : s.Since s.vm 0 := (State.WarmedH.refl s).since 0
  have hk0 : 0 ≤ h0.size := Nat.zero_le _
  have e0 : s₁.heap = h0 := by rw [← hh, Bd.state]; rfl
  have N0 := Fr.nil n0
  suffices hgo : own_Ok p e below (own_QxW s (Q_rm_law Z xl x0 x1 x2 G1 G3 h0 n0) 4 16) (s₁.setTop (mkF m 0 #[.val (.int xl), .val (.int x0), .val (.int x1), .val (.int x2), .unset, .unset, .unset, .unset, .unset, .unset] [])) from by
    obtain ⟨s₂, o, h1, h2⟩ := hgo
    exact ⟨s₂, o, castTop (own_ef_rm_law m xl x0 x1 x2) h1, h2⟩
  have hst' := hst
  obtain ⟨SG1, PG1, SG3, rG3, SAD, SHI, SLO⟩ := hst'
  have hws : ∀ d ∈ StrChars.Road.words, d.before a0 Z = true := fun d hd => hw d ((by decide +kernel : ∀ d ∈ StrChars.Road.words, d ∈ tables_1) d hd)
  show own_Ok p e below _ (s₁.setTop (mkF m 0 #[.val (.int xl), .val (.int x0), .val (.int x1), .val (.int x2), .unset, .unset, .unset, .unset, .unset, .unset] []))
  refine s_iloadN X0 hx (hb hby at_0) rfl ?_
  refine s_iconst X0 hx (3 : Int32) (hb hby at_1) rfl ?_
  refine s_iand X0 hx (hb hby at_2) ?_
  refine s_istore X0 hx (hb hby at_3) #[.val (.int xl), .val (.int x0), .val (.int x1), .val (.int x2), .val (.int (xl &&& (3 : Int32))), .unset, .unset, .unset, .unset, .unset] rfl ?_
  refine s_iloadN X0 hx (hb hby at_5) rfl ?_
  obtain ⟨_, T101, Lc101, X101, hQ101, st101⟩ := own_callS X0 hx hZ hown (own_hw hw 0 rfl) (own_hw hw 1 rfl) (own_hw hw 2 rfl) (own_hw hw 3 rfl) (rm_draw l Z a0 hw [] x0 h0 n0 O0) (by decide) e0 (Ls := #[.val (.int xl), .val (.int x0), .val (.int x1), .val (.int x2), .val (.int (xl &&& (3 : Int32))), .unset, .unset, .unset, .unset, .unset]) [(.int x0)] [] rfl (by rw [hml]; rfl) (lenOf own_pd14 rfl) (hb hby at_6) (by decide) 0 rfl (by decide) (by decide) (by decide)
  obtain ⟨cz_101, rfl, Nq101, e101, hl_101, hh_101⟩ := hQ101
  have N101 := Fr.app N0 Nq101
  refine st101 _ ?_
  show own_Ok p e below _ (T101.setTop (mkF m 9 #[.val (.int xl), .val (.int x0), .val (.int x1), .val (.int x2), .val (.int (xl &&& (3 : Int32))), .unset, .unset, .unset, .unset, .unset] [(.int cz_101)]))
  show own_Ok p e below _ (T101.setTop (mkF m 9 #[.val (.int xl), .val (.int x0), .val (.int x1), .val (.int x2), .val (.int (xl &&& (3 : Int32))), .unset, .unset, .unset, .unset, .unset] [(.int cz_101)]))
  refine s_istore X101 hx (hb hby at_9) #[.val (.int xl), .val (.int x0), .val (.int x1), .val (.int x2), .val (.int (xl &&& (3 : Int32))), .val (.int cz_101), .unset, .unset, .unset, .unset] rfl ?_
  refine s_iloadN X101 hx (hb hby at_11) rfl ?_
  obtain ⟨_, T102, Lc102, X102, hQ102, st102⟩ := own_callS X101 hx hZ hown (own_hw hw 0 rfl) (own_hw hw 1 rfl) (own_hw hw 2 rfl) (own_hw hw 3 rfl) (rm_draw l Z a0 hw [] x1 h0 n0 O0) (by decide) e101 (Ls := #[.val (.int xl), .val (.int x0), .val (.int x1), .val (.int x2), .val (.int (xl &&& (3 : Int32))), .val (.int cz_101), .unset, .unset, .unset, .unset]) [(.int x1)] [] rfl (by rw [hml]; rfl) (lenOf own_pd14 rfl) (hb hby at_12) (by decide) 0 rfl (by decide) (by decide) (by decide)
  obtain ⟨cz_102, rfl, Nq102, e102, hl_102, hh_102⟩ := hQ102
  have N102 := Fr.app N101 Nq102
  refine st102 _ ?_
  show own_Ok p e below _ (T102.setTop (mkF m 15 #[.val (.int xl), .val (.int x0), .val (.int x1), .val (.int x2), .val (.int (xl &&& (3 : Int32))), .val (.int cz_101), .unset, .unset, .unset, .unset] [(.int cz_102)]))
  show own_Ok p e below _ (T102.setTop (mkF m 15 #[.val (.int xl), .val (.int x0), .val (.int x1), .val (.int x2), .val (.int (xl &&& (3 : Int32))), .val (.int cz_101), .unset, .unset, .unset, .unset] [(.int cz_102)]))
  refine s_istore X102 hx (hb hby at_15) #[.val (.int xl), .val (.int x0), .val (.int x1), .val (.int x2), .val (.int (xl &&& (3 : Int32))), .val (.int cz_101), .val (.int cz_102), .unset, .unset, .unset] rfl ?_
  refine s_iloadN X102 hx (hb hby at_17) rfl ?_
  obtain ⟨_, T103, Lc103, X103, hQ103, st103⟩ := own_callS X102 hx hZ hown (own_hw hw 0 rfl) (own_hw hw 1 rfl) (own_hw hw 2 rfl) (own_hw hw 3 rfl) (rm_draw l Z a0 hw [] x2 h0 n0 O0) (by decide) e102 (Ls := #[.val (.int xl), .val (.int x0), .val (.int x1), .val (.int x2), .val (.int (xl &&& (3 : Int32))), .val (.int cz_101), .val (.int cz_102), .unset, .unset, .unset]) [(.int x2)] [] rfl (by rw [hml]; rfl) (lenOf own_pd14 rfl) (hb hby at_18) (by decide) 0 rfl (by decide) (by decide) (by decide)
  obtain ⟨cz_103, rfl, Nq103, e103, hl_103, hh_103⟩ := hQ103
  have N103 := Fr.app N102 Nq103
  refine st103 _ ?_
  show own_Ok p e below _ (T103.setTop (mkF m 21 #[.val (.int xl), .val (.int x0), .val (.int x1), .val (.int x2), .val (.int (xl &&& (3 : Int32))), .val (.int cz_101), .val (.int cz_102), .unset, .unset, .unset] [(.int cz_103)]))
  show own_Ok p e below _ (T103.setTop (mkF m 21 #[.val (.int xl), .val (.int x0), .val (.int x1), .val (.int x2), .val (.int (xl &&& (3 : Int32))), .val (.int cz_101), .val (.int cz_102), .unset, .unset, .unset] [(.int cz_103)]))
  refine s_istore X103 hx (hb hby at_21) #[.val (.int xl), .val (.int x0), .val (.int x1), .val (.int x2), .val (.int (xl &&& (3 : Int32))), .val (.int cz_101), .val (.int cz_102), .val (.int cz_103), .unset, .unset] rfl ?_
  refine s_iload X103 hx (hb hby at_23) rfl ?_
  by_cases c25_104 : (xl &&& (3 : Int32)) = (0 : Int32)
  · skip
    refine s_ifNo X103 hx (hb hby at_25) (XT.i0_ne_f c25_104) ?_
    rw [show (xl &&& (3 : Int32)) = (0 : Int32) from c25_104]
    show own_Ok p e below _ (T103.setTop (mkF m 28 #[.val (.int xl), .val (.int x0), .val (.int x1), .val (.int x2), .val (.int (0 : Int32)), .val (.int cz_101), .val (.int cz_102), .val (.int cz_103), .unset, .unset] []))
    obtain ⟨T105, h105, X105, e105, E105, A105, D105, -, st105⟩ := newO X103 hx hZ hown (own_hw hw 5 rfl) (own_hw hw 6 rfl) (own_hw hw 7 rfl) e103 (g := (mkF m 28 #[.val (.int xl), .val (.int x0), .val (.int x1), .val (.int x2), .val (.int (0 : Int32)), .val (.int cz_101), .val (.int cz_102), .val (.int cz_103), .unset, .unset] [])) rfl (hb hby at_28) (by decide) (by decide)
    obtain ⟨b105, g105⟩ : ∃ z, z = h0.size := ⟨_, rfl⟩
    rw [← g105] at A105 D105 st105
    refine own_st st105 ?_
    have gb_b105 : n0 ≤ b105 := Nat.le_trans (own_n0 O0) (Nat.le_of_eq g105.symm)
    have F105_value : Fld Z h105 b105 "java/lang/String" "value" "[B" .null := D105 (Or.inr (own_hw hw 21 rfl)) (ty := (.array .byte)) (by decide)
    have F105_coder : Fld Z h105 b105 "java/lang/String" "coder" "B" (.int (0 : Int32)) := D105 (Or.inr (own_hw hw 22 rfl)) (ty := .byte) (by decide)
    show own_Ok p e below _ (T105.setTop (mkF m 31 #[.val (.int xl), .val (.int x0), .val (.int x1), .val (.int x2), .val (.int (0 : Int32)), .val (.int cz_101), .val (.int cz_102), .val (.int cz_103), .unset, .unset] [(.ref b105)]))
    refine s_dup X105 hx (hb hby at_31) rfl ?_
    refine s_iconst X105 hx (0 : Int32) (hb hby at_32) rfl ?_
    obtain ⟨T106, h106, k106, X106, e106, E106, A106, st106⟩ := newP X105 hx hZ (own_hw hw 8 rfl) e105 (g := (mkF m 33 #[.val (.int xl), .val (.int x0), .val (.int x1), .val (.int x2), .val (.int (0 : Int32)), .val (.int cz_101), .val (.int cz_102), .val (.int cz_103), .unset, .unset] [(.int (0 : Int32)), (.ref b105), (.ref b105)])) rfl (hb hby at_33) rfl (by decide) (cap := 0) (by decide) (by decide) (by decide) (by decide)
    obtain ⟨b106, g106⟩ : ∃ z, z = h105.size := ⟨_, rfl⟩
    rw [← g106] at A106 st106
    refine own_st st106 ?_
    have f107 := O0.ext E105
    have gb_b106 : n0 ≤ b106 := Nat.le_trans (own_n0 f107) (Nat.le_of_eq g106.symm)
    have ne_b105_b106 : b105 ≠ b106 := Nat.ne_of_lt (Nat.lt_of_lt_of_le A105.lt (Nat.le_of_eq g106.symm))
    have V106 : Arv Z h106 b106 k106 .char (0 : Int32) [] (.int (0 : Int32)) := (Arv.new A106 (by decide)).pad (pad_rep [] (.int (0 : Int32)) 0)
    show own_Ok p e below _ (T106.setTop (mkF m 35 #[.val (.int xl), .val (.int x0), .val (.int x1), .val (.int x2), .val (.int (0 : Int32)), .val (.int cz_101), .val (.int cz_102), .val (.int cz_103), .unset, .unset] [(.ref b106), (.ref b105), (.ref b105)]))
    have f109 := A105.ext E106
    have f110 := F105_coder.ext E106
    have f111 := F105_value.ext E106
    have f112 := f107.ext E106
    obtain ⟨_, _, ⟨T108, L108, k108, n108⟩, -, X108, S108, gg108, ⟨Lc108, hQ108, l108, y108, z108⟩, st108⟩ := X106.specialBackS hx (y := (⟨"java/lang/String", "<init>", "([C)V"⟩ : MethodName)) rfl hown (mvT hZ (own_hw hw 9 rfl)) (mvT hZ (own_hw hw 10 rfl)) (mvT hZ (own_hw hw 11 rfl)) (by decide) (own_backOfS (W := 1) (rm_ini1_0 l Z a0 hw [] b105 b106 k106 h106 n0 f112 hcst hcw f109 f110 f111 gb_b105 V106) hIB hZ (own_hw hw 11 rfl) (own_hw hw 7 rfl) (by decide) (by decide)) (g := (mkF m 35 #[.val (.int xl), .val (.int x0), .val (.int x1), .val (.int x2), .val (.int (0 : Int32)), .val (.int cz_101), .val (.int cz_102), .val (.int cz_103), .unset, .unset] [(.ref b106), (.ref b105), (.ref b105)])) rfl (by rw [hml]; rfl) (Steps.refl _) (a := b105) (argsL := [(.ref b106)]) (rest := [(.ref b105)]) (lenOf own_pd15 rfl) rfl (by show 2 * 0 + _ ≤ _; exact Nat.le_of_eq rfl) (hb hby at_35) (fun _ _ => ⟨rfl, e106, (by decide : 2 + 2 ≤ _), (by decide : 4 + 4 ≤ _)⟩)
    dsimp only [Pt.U, Pt.locs, Pt.cells, Pt.slots] at X108 l108 y108 z108 st108 hQ108 S108 gg108
    subst l108 y108 z108
    have f113 := Nat.le_trans hk0 E105.1
    have f114 := Nat.le_trans f113 E106.1
    obtain ⟨X108, hS108, hZ108, hown108⟩ := rebS hS (by rw [e106]; exact f114) X108 S108 gg108 hZ hown
    obtain ⟨tb_108, kb_108, rfl, Nq108, K108, g108_0, g108_1, g108_2, g108_3⟩ := hQ108
    have N108 := Fr.app N103 Nq108
    refine own_st (fun _ k => st108.trans k) ?_
    have e108 : T108.heap = T108.heap := rfl
    show own_Ok p e below _ (T108.setTop (mkF m 38 #[.val (.int xl), .val (.int x0), .val (.int x1), .val (.int x2), .val (.int (0 : Int32)), .val (.int cz_101), .val (.int cz_102), .val (.int cz_103), .unset, .unset] [(.ref b105)]))
    refine s_astore X108 hx (hb hby at_38) rfl #[.val (.int xl), .val (.int x0), .val (.int x1), .val (.int x2), .val (.int (0 : Int32)), .val (.int cz_101), .val (.int cz_102), .val (.int cz_103), .val (.ref b105), .unset] rfl ?_
    refine s_iconst X108 hx (1 : Int32) (hb hby at_40) rfl ?_
    refine s_istore X108 hx (hb hby at_41) #[.val (.int xl), .val (.int x0), .val (.int x1), .val (.int x2), .val (.int (0 : Int32)), .val (.int cz_101), .val (.int cz_102), .val (.int cz_103), .val (.ref b105), .val (.int (1 : Int32))] rfl ?_
    refine s_goto X108 hx 191 (hb hby at_43) (by decide) (by decide) ?_
    refine s_aload X108 hx (hb hby at_191) rfl rfl ?_
    have f116 := f112.keep K108 (allS gb_b105 all0)
    obtain ⟨_, T115, Lc115, X115, hQ115, st115⟩ := own_callS X108 hx hZ108 hown108 (own_hw hw 27 rfl) (own_hw hw 28 rfl) (own_hw hw 29 rfl) (own_hw hw 30 rfl) (rm_isf0 l Z a0 hw [] G1 G3 b105 tb_108 kb_108 T108.heap n0 f116 hst g108_0 g108_1 g108_2 g108_3) (by decide) e108 (Ls := #[.val (.int xl), .val (.int x0), .val (.int x1), .val (.int x2), .val (.int (0 : Int32)), .val (.int cz_101), .val (.int cz_102), .val (.int cz_103), .val (.ref b105), .val (.int (1 : Int32))]) [(.ref b105)] [] rfl (by rw [hml]; rfl) (lenOf own_pd16 rfl) (hb hby at_193) (by decide) 0 rfl (by decide) (by decide) (by decide)
    obtain ⟨rfl, Nq115, e115⟩ := hQ115
    have N115 := Fr.app N108 Nq115
    refine st115 _ ?_
    show own_Ok p e below _ (T115.setTop (mkF m 196 #[.val (.int xl), .val (.int x0), .val (.int x1), .val (.int x2), .val (.int (0 : Int32)), .val (.int cz_101), .val (.int cz_102), .val (.int cz_103), .val (.ref b105), .val (.int (1 : Int32))] [(.int (own_all ([] : List Int32)))]))
    refine s_iload X115 hx (hb hby at_196) rfl ?_
    refine s_icmpNo X115 hx (hb hby at_198) (XT.ii_ne_f rfl) ?_
    refine s_iconst X115 hx (1 : Int32) (hb hby at_201) rfl ?_
    refine s_goto X115 hx 206 (hb hby at_202) (by decide) (by decide) ?_
    exact own_retNW X115 hS108 (by rw [e115]; exact (Nat.le_refl T108.heap.size)) hx hlk (t := .boolean) Bd.returns (by simp) (hb hby at_206) (by rw [e115]; exact ⟨rfl, N115⟩) (by decide) (by decide)
  · skip
    refine s_ifYes X103 hx 46 (hb hby at_25) (XT.i0_ne_t c25_104) (by decide) (by decide) ?_
    refine s_iload X103 hx (hb hby at_46) rfl ?_
    refine s_iconst X103 hx (1 : Int32) (hb hby at_48) rfl ?_
    by_cases c49_117 : (xl &&& (3 : Int32)) = (1 : Int32)
    · skip
      refine s_icmpNo X103 hx (hb hby at_49) (XT.ii_ne_f c49_117) ?_
      rw [show (xl &&& (3 : Int32)) = (1 : Int32) from c49_117]
      show own_Ok p e below _ (T103.setTop (mkF m 52 #[.val (.int xl), .val (.int x0), .val (.int x1), .val (.int x2), .val (.int (1 : Int32)), .val (.int cz_101), .val (.int cz_102), .val (.int cz_103), .unset, .unset] []))
      obtain ⟨T118, h118, X118, e118, E118, A118, D118, -, st118⟩ := newO X103 hx hZ hown (own_hw hw 5 rfl) (own_hw hw 6 rfl) (own_hw hw 7 rfl) e103 (g := (mkF m 52 #[.val (.int xl), .val (.int x0), .val (.int x1), .val (.int x2), .val (.int (1 : Int32)), .val (.int cz_101), .val (.int cz_102), .val (.int cz_103), .unset, .unset] [])) rfl (hb hby at_52) (by decide) (by decide)
      obtain ⟨b118, g118⟩ : ∃ z, z = h0.size := ⟨_, rfl⟩
      rw [← g118] at A118 D118 st118
      refine own_st st118 ?_
      have gb_b118 : n0 ≤ b118 := Nat.le_trans (own_n0 O0) (Nat.le_of_eq g118.symm)
      have F118_value : Fld Z h118 b118 "java/lang/String" "value" "[B" .null := D118 (Or.inr (own_hw hw 21 rfl)) (ty := (.array .byte)) (by decide)
      have F118_coder : Fld Z h118 b118 "java/lang/String" "coder" "B" (.int (0 : Int32)) := D118 (Or.inr (own_hw hw 22 rfl)) (ty := .byte) (by decide)
      show own_Ok p e below _ (T118.setTop (mkF m 55 #[.val (.int xl), .val (.int x0), .val (.int x1), .val (.int x2), .val (.int (1 : Int32)), .val (.int cz_101), .val (.int cz_102), .val (.int cz_103), .unset, .unset] [(.ref b118)]))
      refine s_dup X118 hx (hb hby at_55) rfl ?_
      refine s_iconst X118 hx (1 : Int32) (hb hby at_56) rfl ?_
      obtain ⟨T119, h119, k119, X119, e119, E119, A119, st119⟩ := newP X118 hx hZ (own_hw hw 8 rfl) e118 (g := (mkF m 57 #[.val (.int xl), .val (.int x0), .val (.int x1), .val (.int x2), .val (.int (1 : Int32)), .val (.int cz_101), .val (.int cz_102), .val (.int cz_103), .unset, .unset] [(.int (1 : Int32)), (.ref b118), (.ref b118)])) rfl (hb hby at_57) rfl (by decide) (cap := 1) (by decide) (by decide) (by decide) (by decide)
      obtain ⟨b119, g119⟩ : ∃ z, z = h118.size := ⟨_, rfl⟩
      rw [← g119] at A119 st119
      refine own_st st119 ?_
      have f120 := O0.ext E118
      have gb_b119 : n0 ≤ b119 := Nat.le_trans (own_n0 f120) (Nat.le_of_eq g119.symm)
      have ne_b118_b119 : b118 ≠ b119 := Nat.ne_of_lt (Nat.lt_of_lt_of_le A118.lt (Nat.le_of_eq g119.symm))
      have V119 : Arv Z h119 b119 k119 .char (1 : Int32) [(.int (0 : Int32))] (.int (0 : Int32)) := (Arv.new A119 (by decide)).pad (pad_rep [] (.int (0 : Int32)) 1)
      show own_Ok p e below _ (T119.setTop (mkF m 59 #[.val (.int xl), .val (.int x0), .val (.int x1), .val (.int x2), .val (.int (1 : Int32)), .val (.int cz_101), .val (.int cz_102), .val (.int cz_103), .unset, .unset] [(.ref b119), (.ref b118), (.ref b118)]))
      refine s_dup X119 hx (hb hby at_59) rfl ?_
      refine s_iconst X119 hx (0 : Int32) (hb hby at_60) rfl ?_
      refine s_iload X119 hx (hb hby at_61) rfl ?_
      obtain ⟨T121, h121, X121, e121, W121, V121, st121⟩ := own_stC X119 hx hZ e119 V119 0 rfl (by decide) (by decide) (Nat.le_of_ble_eq_true rfl) (g := (mkF m 63 #[.val (.int xl), .val (.int x0), .val (.int x1), .val (.int x2), .val (.int (1 : Int32)), .val (.int cz_101), .val (.int cz_102), .val (.int cz_103), .unset, .unset] [(.int cz_101), (.int (0 : Int32)), (.ref b119), (.ref b119), (.ref b118), (.ref b118)])) rfl rfl (hb hby at_63)
      refine own_st st121 ?_
      have V121' : Arv Z h121 b119 k119 .char (1 : Int32) [(.int (nar .char cz_101))] (.int (0 : Int32)) := V121
      have N121 := Fr.snoc X121 N103 gb_b119
      show own_Ok p e below _ (T121.setTop (mkF m 64 #[.val (.int xl), .val (.int x0), .val (.int x1), .val (.int x2), .val (.int (1 : Int32)), .val (.int cz_101), .val (.int cz_102), .val (.int cz_103), .unset, .unset] [(.ref b119), (.ref b118), (.ref b118)]))
      have Vch : Arv Z h121 b119 k119 .char (1 : Int32) [(.int cz_101)] (.int (0 : Int32)) := by rw [own_narc hl_101 hh_101] at V121'; exact V121'
      by_cases b0 : (255 : Int32) < cz_101
      · skip
        show own_Ok p e below _ (T121.setTop (mkF m 64 #[.val (.int xl), .val (.int x0), .val (.int x1), .val (.int x2), .val (.int (1 : Int32)), .val (.int cz_101), .val (.int cz_102), .val (.int cz_103), .unset, .unset] [(.ref b119), (.ref b118), (.ref b118)]))
        have f123 := A118.ext E119
        have f124 := f123.wr W121
        have f125 := F118_coder.ext E119
        have f126 := f125.other W121 (Or.inl ne_b118_b119)
        have f127 := F118_value.ext E119
        have f128 := f127.other W121 (Or.inl ne_b118_b119)
        have f129 := f120.ext E119
        have f130 := f129.wr W121 gb_b119
        obtain ⟨_, T122, Lc122, X122, hQ122, st122⟩ := own_callN X121 hx hZ hown (own_hw hw 9 rfl) (own_hw hw 10 rfl) (own_hw hw 7 rfl) (own_hw hw 11 rfl) (rm_ini1_10 l Z a0 hw [] G1 G3 cz_101 b118 b119 k119 h121 n0 f130 hst (⟨hl_101, hh_101⟩) b0 f124 f126 f128 gb_b118 Vch) rfl (by decide) e121 (Ls := #[.val (.int xl), .val (.int x0), .val (.int x1), .val (.int x2), .val (.int (1 : Int32)), .val (.int cz_101), .val (.int cz_102), .val (.int cz_103), .unset, .unset]) b118 [(.ref b119)] [(.ref b118)] rfl (by rw [hml]; rfl) (lenOf own_pd15 rfl) (hb hby at_64) (by decide) 1 rfl (by decide) (by decide) (by decide)
        obtain ⟨tb_122, kb_122, rfl, Nq122, K122, g122_0, g122_1, g122_2, g122_3, gs_tb_122⟩ := hQ122
        have N122 := Fr.app N121 Nq122
        refine st122 _ ?_
        have gb_tb_122 : n0 ≤ tb_122 := Nat.le_trans (own_n0 f130) gs_tb_122
        have ne_b118_tb_122 : b118 ≠ tb_122 := Nat.ne_of_lt (Nat.lt_of_lt_of_le f124.lt gs_tb_122)
        have ne_b119_tb_122 : b119 ≠ tb_122 := Nat.ne_of_lt (Nat.lt_of_lt_of_le Vch.lt gs_tb_122)
        have e122 : T122.heap = T122.heap := rfl
        show own_Ok p e below _ (T122.setTop (mkF m 67 #[.val (.int xl), .val (.int x0), .val (.int x1), .val (.int x2), .val (.int (1 : Int32)), .val (.int cz_101), .val (.int cz_102), .val (.int cz_103), .unset, .unset] [(.ref b118)]))
        refine s_astore X122 hx (hb hby at_67) rfl #[.val (.int xl), .val (.int x0), .val (.int x1), .val (.int x2), .val (.int (1 : Int32)), .val (.int cz_101), .val (.int cz_102), .val (.int cz_103), .val (.ref b118), .unset] rfl ?_
        refine s_iload X122 hx (hb hby at_69) rfl ?_
        have f132 := f130.keep K122 (allS gb_b118 all0)
        obtain ⟨_, T131, Lc131, X131, hQ131, st131⟩ := own_callS X122 hx hZ hown (own_hw hw 52 rfl) (own_hw hw 53 rfl) (own_hw hw 2 rfl) (own_hw hw 54 rfl) (rm_ok l Z a0 hw [] cz_101 T122.heap n0 f132) (by decide) e122 (Ls := #[.val (.int xl), .val (.int x0), .val (.int x1), .val (.int x2), .val (.int (1 : Int32)), .val (.int cz_101), .val (.int cz_102), .val (.int cz_103), .val (.ref b118), .unset]) [(.int cz_101)] [] rfl (by rw [hml]; rfl) (lenOf own_pd17 rfl) (hb hby at_71) (by decide) 0 rfl (by decide) (by decide) (by decide)
        obtain ⟨rfl, Nq131, e131⟩ := hQ131
        have N131 := Fr.app N122 Nq131
        refine st131 _ ?_
        show own_Ok p e below _ (T131.setTop (mkF m 74 #[.val (.int xl), .val (.int x0), .val (.int x1), .val (.int x2), .val (.int (1 : Int32)), .val (.int cz_101), .val (.int cz_102), .val (.int cz_103), .val (.ref b118), .unset] [(.int (own_ok cz_101))]))
        refine s_istore X131 hx (hb hby at_74) #[.val (.int xl), .val (.int x0), .val (.int x1), .val (.int x2), .val (.int (1 : Int32)), .val (.int cz_101), .val (.int cz_102), .val (.int cz_103), .val (.ref b118), .val (.int (own_ok cz_101))] rfl ?_
        refine s_goto X131 hx 191 (hb hby at_76) (by decide) (by decide) ?_
        refine s_aload X131 hx (hb hby at_191) rfl rfl ?_
        obtain ⟨_, T133, Lc133, X133, hQ133, st133⟩ := own_callS X131 hx hZ hown (own_hw hw 27 rfl) (own_hw hw 28 rfl) (own_hw hw 29 rfl) (own_hw hw 30 rfl) (rm_isf1u0 l Z a0 hw [] G1 G3 cz_101 b118 tb_122 kb_122 T122.heap n0 f132 hst g122_0 g122_1 g122_2 g122_3 (⟨hl_101, hh_101⟩) b0) (by decide) e131 (Ls := #[.val (.int xl), .val (.int x0), .val (.int x1), .val (.int x2), .val (.int (1 : Int32)), .val (.int cz_101), .val (.int cz_102), .val (.int cz_103), .val (.ref b118), .val (.int (own_ok cz_101))]) [(.ref b118)] [] rfl (by rw [hml]; rfl) (lenOf own_pd16 rfl) (hb hby at_193) (by decide) 0 rfl (by decide) (by decide) (by decide)
        obtain ⟨rfl, Nq133, e133⟩ := hQ133
        have N133 := Fr.app N131 Nq133
        refine st133 _ ?_
        show own_Ok p e below _ (T133.setTop (mkF m 196 #[.val (.int xl), .val (.int x0), .val (.int x1), .val (.int x2), .val (.int (1 : Int32)), .val (.int cz_101), .val (.int cz_102), .val (.int cz_103), .val (.ref b118), .val (.int (own_ok cz_101))] [(.int (own_all ([cz_101] : List Int32)))]))
        refine s_iload X133 hx (hb hby at_196) rfl ?_
        refine s_icmpNo X133 hx (hb hby at_198) (XT.ii_ne_f (own_all1 cz_101)) ?_
        refine s_iconst X133 hx (1 : Int32) (hb hby at_201) rfl ?_
        refine s_goto X133 hx 206 (hb hby at_202) (by decide) (by decide) ?_
        have f134 := Nat.le_trans hk0 E118.1
        have f135 := Nat.le_trans f134 E119.1
        have f136 := Nat.le_trans f135 (Keep.of_wr W121).1
        have f137 := Nat.le_trans f136 K122.1
        exact own_retNW X133 hS (by rw [e133]; exact f137) hx hlk (t := .boolean) Bd.returns (by simp) (hb hby at_206) (by rw [e133]; exact ⟨rfl, N133⟩) (by decide) (by decide)
      · skip
        show own_Ok p e below _ (T121.setTop (mkF m 64 #[.val (.int xl), .val (.int x0), .val (.int x1), .val (.int x2), .val (.int (1 : Int32)), .val (.int cz_101), .val (.int cz_102), .val (.int cz_103), .unset, .unset] [(.ref b119), (.ref b118), (.ref b118)]))
        have hp : ∀ x ∈ ([cz_101] : List Int32), ¬ x < 0 ∧ ¬ (255 : Int32) < x := by
          intro x hx
          simp only [List.mem_cons, List.not_mem_nil, or_false] at hx
          rcases hx with rfl
          exact ⟨hl_101, b0⟩
        have f139 := A118.ext E119
        have f140 := f139.wr W121
        have f141 := F118_value.ext E119
        have f142 := f141.other W121 (Or.inl ne_b118_b119)
        have f143 := F118_coder.ext E119
        have f144 := f143.other W121 (Or.inl ne_b118_b119)
        have f145 := f120.ext E119
        have f146 := f145.wr W121 gb_b119
        obtain ⟨_, _, ⟨T138, L138, k138, n138⟩, -, X138, ⟨Lc138, hQ138, l138, y138, z138⟩, st138⟩ := X121.specialBack hx (y := (⟨"java/lang/String", "<init>", "([C)V"⟩ : MethodName)) rfl hown (mvT hZ (own_hw hw 9 rfl)) (mvT hZ (own_hw hw 10 rfl)) (mvT hZ (own_hw hw 11 rfl)) (by decide) (StrChars.Road.backV (W := 1) hZ hws (kI := 4) (own_hw hw 6 rfl) (cs := ([cz_101] : List Int32)) (bs := (([cz_101] : List Int32)).map (fun c => c.toInt8.toInt32)) (n := 1) gb_b118 (own_n0 f146) f140 f142 f144 Vch (SG1.ext f146.2) PG1 rfl rfl (by decide) (by decide) hp rfl (by decide) (by decide)) (g := (mkF m 64 #[.val (.int xl), .val (.int x0), .val (.int x1), .val (.int x2), .val (.int (1 : Int32)), .val (.int cz_101), .val (.int cz_102), .val (.int cz_103), .unset, .unset] [(.ref b119), (.ref b118), (.ref b118)])) rfl (by rw [hml]; rfl) (Steps.refl _) (a := b118) (argsL := [(.ref b119)]) (rest := [(.ref b118)]) (lenOf own_pd15 rfl) rfl (by show 2 * 0 + _ ≤ _; exact Nat.le_of_eq rfl) (hb hby at_64) (fun _ _ => ⟨rfl, e121, (by decide : 2 + 1 ≤ _), (by decide : 5 + 1 ≤ _)⟩)
        dsimp only [Pt.U, Pt.locs, Pt.cells, Pt.slots] at X138 l138 y138 z138 st138 hQ138
        subst l138 y138 z138
        obtain ⟨rfl, Nq138, K138, g138_0, g138_1, tS_146, kS_146, u1_146, u2_146, u3_146, vS_146, aS_146⟩ := hQ138
        have N138 := Fr.app N121 Nq138
        refine own_st (fun _ k => st138.trans k) ?_
        have gb_tS_146 : n0 ≤ tS_146 := Nat.le_trans (own_n0 f146) u2_146
        have ne_b118_tS_146 : b118 ≠ tS_146 := Nat.ne_of_lt (Nat.lt_of_lt_of_le f140.lt u2_146)
        have ne_b119_tS_146 : b119 ≠ tS_146 := Nat.ne_of_lt (Nat.lt_of_lt_of_le Vch.lt u2_146)
        have e138 : T138.heap = T138.heap := rfl
        show own_Ok p e below _ (T138.setTop (mkF m 67 #[.val (.int xl), .val (.int x0), .val (.int x1), .val (.int x2), .val (.int (1 : Int32)), .val (.int cz_101), .val (.int cz_102), .val (.int cz_103), .unset, .unset] [(.ref b118)]))
        show own_Ok p e below _ (T138.setTop (mkF m 67 #[.val (.int xl), .val (.int x0), .val (.int x1), .val (.int x2), .val (.int (1 : Int32)), .val (.int cz_101), .val (.int cz_102), .val (.int cz_103), .unset, .unset] [(.ref b118)]))
        refine s_astore X138 hx (hb hby at_67) rfl #[.val (.int xl), .val (.int x0), .val (.int x1), .val (.int x2), .val (.int (1 : Int32)), .val (.int cz_101), .val (.int cz_102), .val (.int cz_103), .val (.ref b118), .unset] rfl ?_
        refine s_iload X138 hx (hb hby at_69) rfl ?_
        have f148 := f146.keep K138 (allS gb_b118 all0)
        obtain ⟨_, T147, Lc147, X147, hQ147, st147⟩ := own_callS X138 hx hZ hown (own_hw hw 52 rfl) (own_hw hw 53 rfl) (own_hw hw 2 rfl) (own_hw hw 54 rfl) (rm_ok l Z a0 hw [] cz_101 T138.heap n0 f148) (by decide) e138 (Ls := #[.val (.int xl), .val (.int x0), .val (.int x1), .val (.int x2), .val (.int (1 : Int32)), .val (.int cz_101), .val (.int cz_102), .val (.int cz_103), .val (.ref b118), .unset]) [(.int cz_101)] [] rfl (by rw [hml]; rfl) (lenOf own_pd17 rfl) (hb hby at_71) (by decide) 0 rfl (by decide) (by decide) (by decide)
        obtain ⟨rfl, Nq147, e147⟩ := hQ147
        have N147 := Fr.app N138 Nq147
        refine st147 _ ?_
        show own_Ok p e below _ (T147.setTop (mkF m 74 #[.val (.int xl), .val (.int x0), .val (.int x1), .val (.int x2), .val (.int (1 : Int32)), .val (.int cz_101), .val (.int cz_102), .val (.int cz_103), .val (.ref b118), .unset] [(.int (own_ok cz_101))]))
        refine s_istore X147 hx (hb hby at_74) #[.val (.int xl), .val (.int x0), .val (.int x1), .val (.int x2), .val (.int (1 : Int32)), .val (.int cz_101), .val (.int cz_102), .val (.int cz_103), .val (.ref b118), .val (.int (own_ok cz_101))] rfl ?_
        refine s_goto X147 hx 191 (hb hby at_76) (by decide) (by decide) ?_
        refine s_aload X147 hx (hb hby at_191) rfl rfl ?_
        obtain ⟨_, T149, Lc149, X149, hQ149, st149⟩ := own_callS X147 hx hZ hown (own_hw hw 27 rfl) (own_hw hw 28 rfl) (own_hw hw 29 rfl) (own_hw hw 30 rfl) (rm_isf1 l Z a0 hw [] G1 G3 cz_101 b118 tS_146 kS_146 T138.heap n0 f148 hst g138_0 g138_1 vS_146 aS_146 (⟨hl_101, hh_101⟩) b0) (by decide) e147 (Ls := #[.val (.int xl), .val (.int x0), .val (.int x1), .val (.int x2), .val (.int (1 : Int32)), .val (.int cz_101), .val (.int cz_102), .val (.int cz_103), .val (.ref b118), .val (.int (own_ok cz_101))]) [(.ref b118)] [] rfl (by rw [hml]; rfl) (lenOf own_pd16 rfl) (hb hby at_193) (by decide) 0 rfl (by decide) (by decide) (by decide)
        obtain ⟨rfl, Nq149, e149⟩ := hQ149
        have N149 := Fr.app N147 Nq149
        refine st149 _ ?_
        show own_Ok p e below _ (T149.setTop (mkF m 196 #[.val (.int xl), .val (.int x0), .val (.int x1), .val (.int x2), .val (.int (1 : Int32)), .val (.int cz_101), .val (.int cz_102), .val (.int cz_103), .val (.ref b118), .val (.int (own_ok cz_101))] [(.int (own_all ([cz_101] : List Int32)))]))
        refine s_iload X149 hx (hb hby at_196) rfl ?_
        refine s_icmpNo X149 hx (hb hby at_198) (XT.ii_ne_f (own_all1 cz_101)) ?_
        refine s_iconst X149 hx (1 : Int32) (hb hby at_201) rfl ?_
        refine s_goto X149 hx 206 (hb hby at_202) (by decide) (by decide) ?_
        have f150 := Nat.le_trans hk0 E118.1
        have f151 := Nat.le_trans f150 E119.1
        have f152 := Nat.le_trans f151 (Keep.of_wr W121).1
        have f153 := Nat.le_trans f152 K138.1
        exact own_retNW X149 hS (by rw [e149]; exact f153) hx hlk (t := .boolean) Bd.returns (by simp) (hb hby at_206) (by rw [e149]; exact ⟨rfl, N149⟩) (by decide) (by decide)
    · skip
      refine s_icmpYes X103 hx 79 (hb hby at_49) (XT.ii_ne_t c49_117) (by decide) (by decide) ?_
      refine s_iload X103 hx (hb hby at_79) rfl ?_
      refine s_iconst X103 hx (2 : Int32) (hb hby at_81) rfl ?_
      by_cases c82_154 : (xl &&& (3 : Int32)) = (2 : Int32)
      · skip
        refine s_icmpNo X103 hx (hb hby at_82) (XT.ii_ne_f c82_154) ?_
        rw [show (xl &&& (3 : Int32)) = (2 : Int32) from c82_154]
        show own_Ok p e below _ (T103.setTop (mkF m 85 #[.val (.int xl), .val (.int x0), .val (.int x1), .val (.int x2), .val (.int (2 : Int32)), .val (.int cz_101), .val (.int cz_102), .val (.int cz_103), .unset, .unset] []))
        obtain ⟨T155, h155, X155, e155, E155, A155, D155, -, st155⟩ := newO X103 hx hZ hown (own_hw hw 5 rfl) (own_hw hw 6 rfl) (own_hw hw 7 rfl) e103 (g := (mkF m 85 #[.val (.int xl), .val (.int x0), .val (.int x1), .val (.int x2), .val (.int (2 : Int32)), .val (.int cz_101), .val (.int cz_102), .val (.int cz_103), .unset, .unset] [])) rfl (hb hby at_85) (by decide) (by decide)
        obtain ⟨b155, g155⟩ : ∃ z, z = h0.size := ⟨_, rfl⟩
        rw [← g155] at A155 D155 st155
        refine own_st st155 ?_
        have gb_b155 : n0 ≤ b155 := Nat.le_trans (own_n0 O0) (Nat.le_of_eq g155.symm)
        have F155_value : Fld Z h155 b155 "java/lang/String" "value" "[B" .null := D155 (Or.inr (own_hw hw 21 rfl)) (ty := (.array .byte)) (by decide)
        have F155_coder : Fld Z h155 b155 "java/lang/String" "coder" "B" (.int (0 : Int32)) := D155 (Or.inr (own_hw hw 22 rfl)) (ty := .byte) (by decide)
        show own_Ok p e below _ (T155.setTop (mkF m 88 #[.val (.int xl), .val (.int x0), .val (.int x1), .val (.int x2), .val (.int (2 : Int32)), .val (.int cz_101), .val (.int cz_102), .val (.int cz_103), .unset, .unset] [(.ref b155)]))
        refine s_dup X155 hx (hb hby at_88) rfl ?_
        refine s_iconst X155 hx (2 : Int32) (hb hby at_89) rfl ?_
        obtain ⟨T156, h156, k156, X156, e156, E156, A156, st156⟩ := newP X155 hx hZ (own_hw hw 8 rfl) e155 (g := (mkF m 90 #[.val (.int xl), .val (.int x0), .val (.int x1), .val (.int x2), .val (.int (2 : Int32)), .val (.int cz_101), .val (.int cz_102), .val (.int cz_103), .unset, .unset] [(.int (2 : Int32)), (.ref b155), (.ref b155)])) rfl (hb hby at_90) rfl (by decide) (cap := 2) (by decide) (by decide) (by decide) (by decide)
        obtain ⟨b156, g156⟩ : ∃ z, z = h155.size := ⟨_, rfl⟩
        rw [← g156] at A156 st156
        refine own_st st156 ?_
        have f157 := O0.ext E155
        have gb_b156 : n0 ≤ b156 := Nat.le_trans (own_n0 f157) (Nat.le_of_eq g156.symm)
        have ne_b155_b156 : b155 ≠ b156 := Nat.ne_of_lt (Nat.lt_of_lt_of_le A155.lt (Nat.le_of_eq g156.symm))
        have V156 : Arv Z h156 b156 k156 .char (2 : Int32) [(.int (0 : Int32)), (.int (0 : Int32))] (.int (0 : Int32)) := (Arv.new A156 (by decide)).pad (pad_rep [] (.int (0 : Int32)) 2)
        show own_Ok p e below _ (T156.setTop (mkF m 92 #[.val (.int xl), .val (.int x0), .val (.int x1), .val (.int x2), .val (.int (2 : Int32)), .val (.int cz_101), .val (.int cz_102), .val (.int cz_103), .unset, .unset] [(.ref b156), (.ref b155), (.ref b155)]))
        refine s_dup X156 hx (hb hby at_92) rfl ?_
        refine s_iconst X156 hx (0 : Int32) (hb hby at_93) rfl ?_
        refine s_iload X156 hx (hb hby at_94) rfl ?_
        obtain ⟨T158, h158, X158, e158, W158, V158, st158⟩ := own_stC X156 hx hZ e156 V156 0 rfl (by decide) (by decide) (Nat.le_of_ble_eq_true rfl) (g := (mkF m 96 #[.val (.int xl), .val (.int x0), .val (.int x1), .val (.int x2), .val (.int (2 : Int32)), .val (.int cz_101), .val (.int cz_102), .val (.int cz_103), .unset, .unset] [(.int cz_101), (.int (0 : Int32)), (.ref b156), (.ref b156), (.ref b155), (.ref b155)])) rfl rfl (hb hby at_96)
        refine own_st st158 ?_
        have V158' : Arv Z h158 b156 k156 .char (2 : Int32) [(.int (nar .char cz_101)), (.int (0 : Int32))] (.int (0 : Int32)) := V158
        have N158 := Fr.snoc X158 N103 gb_b156
        show own_Ok p e below _ (T158.setTop (mkF m 97 #[.val (.int xl), .val (.int x0), .val (.int x1), .val (.int x2), .val (.int (2 : Int32)), .val (.int cz_101), .val (.int cz_102), .val (.int cz_103), .unset, .unset] [(.ref b156), (.ref b155), (.ref b155)]))
        refine s_dup X158 hx (hb hby at_97) rfl ?_
        refine s_iconst X158 hx (1 : Int32) (hb hby at_98) rfl ?_
        refine s_iload X158 hx (hb hby at_99) rfl ?_
        obtain ⟨T159, h159, X159, e159, W159, V159, st159⟩ := own_stC X158 hx hZ e158 V158' 1 rfl (by decide) (by decide) (Nat.le_of_ble_eq_true rfl) (g := (mkF m 101 #[.val (.int xl), .val (.int x0), .val (.int x1), .val (.int x2), .val (.int (2 : Int32)), .val (.int cz_101), .val (.int cz_102), .val (.int cz_103), .unset, .unset] [(.int cz_102), (.int (1 : Int32)), (.ref b156), (.ref b156), (.ref b155), (.ref b155)])) rfl rfl (hb hby at_101)
        refine own_st st159 ?_
        have V159' : Arv Z h159 b156 k156 .char (2 : Int32) [(.int (nar .char cz_101)), (.int (nar .char cz_102))] (.int (0 : Int32)) := V159
        have N159 := Fr.snoc X159 N158 gb_b156
        show own_Ok p e below _ (T159.setTop (mkF m 102 #[.val (.int xl), .val (.int x0), .val (.int x1), .val (.int x2), .val (.int (2 : Int32)), .val (.int cz_101), .val (.int cz_102), .val (.int cz_103), .unset, .unset] [(.ref b156), (.ref b155), (.ref b155)]))
        have Vch : Arv Z h159 b156 k156 .char (2 : Int32) [(.int cz_101), (.int cz_102)] (.int (0 : Int32)) := by rw [own_narc hl_101 hh_101, own_narc hl_102 hh_102] at V159'; exact V159'
        by_cases b0 : (255 : Int32) < cz_101
        · skip
          show own_Ok p e below _ (T159.setTop (mkF m 102 #[.val (.int xl), .val (.int x0), .val (.int x1), .val (.int x2), .val (.int (2 : Int32)), .val (.int cz_101), .val (.int cz_102), .val (.int cz_103), .unset, .unset] [(.ref b156), (.ref b155), (.ref b155)]))
          have f161 := A155.ext E156
          have f162 := f161.wr W158
          have f163 := f162.wr W159
          have f164 := F155_coder.ext E156
          have f165 := f164.other W158 (Or.inl ne_b155_b156)
          have f166 := f165.other W159 (Or.inl ne_b155_b156)
          have f167 := F155_value.ext E156
          have f168 := f167.other W158 (Or.inl ne_b155_b156)
          have f169 := f168.other W159 (Or.inl ne_b155_b156)
          have f170 := f157.ext E156
          have f171 := f170.wr W158 gb_b156
          have f172 := f171.wr W159 gb_b156
          obtain ⟨_, T160, Lc160, X160, hQ160, st160⟩ := own_callN X159 hx hZ hown (own_hw hw 9 rfl) (own_hw hw 10 rfl) (own_hw hw 7 rfl) (own_hw hw 11 rfl) (rm_ini1_20 l Z a0 hw [] G1 G3 cz_101 cz_102 b155 b156 k156 h159 n0 f172 hst (⟨hl_101, hh_101⟩) (⟨hl_102, hh_102⟩) b0 f163 f166 f169 gb_b155 Vch) rfl (by decide) e159 (Ls := #[.val (.int xl), .val (.int x0), .val (.int x1), .val (.int x2), .val (.int (2 : Int32)), .val (.int cz_101), .val (.int cz_102), .val (.int cz_103), .unset, .unset]) b155 [(.ref b156)] [(.ref b155)] rfl (by rw [hml]; rfl) (lenOf own_pd15 rfl) (hb hby at_102) (by decide) 1 rfl (by decide) (by decide) (by decide)
          obtain ⟨tb_160, kb_160, rfl, Nq160, K160, g160_0, g160_1, g160_2, g160_3, gs_tb_160⟩ := hQ160
          have N160 := Fr.app N159 Nq160
          refine st160 _ ?_
          have gb_tb_160 : n0 ≤ tb_160 := Nat.le_trans (own_n0 f172) gs_tb_160
          have ne_b155_tb_160 : b155 ≠ tb_160 := Nat.ne_of_lt (Nat.lt_of_lt_of_le f163.lt gs_tb_160)
          have ne_b156_tb_160 : b156 ≠ tb_160 := Nat.ne_of_lt (Nat.lt_of_lt_of_le Vch.lt gs_tb_160)
          have e160 : T160.heap = T160.heap := rfl
          show own_Ok p e below _ (T160.setTop (mkF m 105 #[.val (.int xl), .val (.int x0), .val (.int x1), .val (.int x2), .val (.int (2 : Int32)), .val (.int cz_101), .val (.int cz_102), .val (.int cz_103), .unset, .unset] [(.ref b155)]))
          refine s_astore X160 hx (hb hby at_105) rfl #[.val (.int xl), .val (.int x0), .val (.int x1), .val (.int x2), .val (.int (2 : Int32)), .val (.int cz_101), .val (.int cz_102), .val (.int cz_103), .val (.ref b155), .unset] rfl ?_
          refine s_iload X160 hx (hb hby at_107) rfl ?_
          have f174 := f172.keep K160 (allS gb_b155 all0)
          obtain ⟨_, T173, Lc173, X173, hQ173, st173⟩ := own_callS X160 hx hZ hown (own_hw hw 52 rfl) (own_hw hw 53 rfl) (own_hw hw 2 rfl) (own_hw hw 54 rfl) (rm_ok l Z a0 hw [] cz_101 T160.heap n0 f174) (by decide) e160 (Ls := #[.val (.int xl), .val (.int x0), .val (.int x1), .val (.int x2), .val (.int (2 : Int32)), .val (.int cz_101), .val (.int cz_102), .val (.int cz_103), .val (.ref b155), .unset]) [(.int cz_101)] [] rfl (by rw [hml]; rfl) (lenOf own_pd17 rfl) (hb hby at_109) (by decide) 0 rfl (by decide) (by decide) (by decide)
          obtain ⟨rfl, Nq173, e173⟩ := hQ173
          have N173 := Fr.app N160 Nq173
          refine st173 _ ?_
          show own_Ok p e below _ (T173.setTop (mkF m 112 #[.val (.int xl), .val (.int x0), .val (.int x1), .val (.int x2), .val (.int (2 : Int32)), .val (.int cz_101), .val (.int cz_102), .val (.int cz_103), .val (.ref b155), .unset] [(.int (own_ok cz_101))]))
          by_cases c112_175 : (own_ok cz_101) = (0 : Int32)
          · skip
            refine s_ifYes X173 hx 127 (hb hby at_112) (XT.i0_eq_t c112_175) (by decide) (by decide) ?_
            refine s_iconst X173 hx (0 : Int32) (hb hby at_127) rfl ?_
            refine s_istore X173 hx (hb hby at_128) #[.val (.int xl), .val (.int x0), .val (.int x1), .val (.int x2), .val (.int (2 : Int32)), .val (.int cz_101), .val (.int cz_102), .val (.int cz_103), .val (.ref b155), .val (.int (0 : Int32))] rfl ?_
            refine s_goto X173 hx 191 (hb hby at_130) (by decide) (by decide) ?_
            refine s_aload X173 hx (hb hby at_191) rfl rfl ?_
            obtain ⟨_, T176, Lc176, X176, hQ176, st176⟩ := own_callS X173 hx hZ hown (own_hw hw 27 rfl) (own_hw hw 28 rfl) (own_hw hw 29 rfl) (own_hw hw 30 rfl) (rm_isf2u0 l Z a0 hw [] G1 G3 cz_101 cz_102 b155 tb_160 kb_160 T160.heap n0 f174 hst g160_0 g160_1 g160_2 g160_3 (⟨hl_101, hh_101⟩) (⟨hl_102, hh_102⟩) b0) (by decide) e173 (Ls := #[.val (.int xl), .val (.int x0), .val (.int x1), .val (.int x2), .val (.int (2 : Int32)), .val (.int cz_101), .val (.int cz_102), .val (.int cz_103), .val (.ref b155), .val (.int (0 : Int32))]) [(.ref b155)] [] rfl (by rw [hml]; rfl) (lenOf own_pd16 rfl) (hb hby at_193) (by decide) 0 rfl (by decide) (by decide) (by decide)
            obtain ⟨rfl, Nq176, e176⟩ := hQ176
            have N176 := Fr.app N173 Nq176
            refine st176 _ ?_
            show own_Ok p e below _ (T176.setTop (mkF m 196 #[.val (.int xl), .val (.int x0), .val (.int x1), .val (.int x2), .val (.int (2 : Int32)), .val (.int cz_101), .val (.int cz_102), .val (.int cz_103), .val (.ref b155), .val (.int (0 : Int32))] [(.int (own_all ([cz_101, cz_102] : List Int32)))]))
            refine s_iload X176 hx (hb hby at_196) rfl ?_
            refine s_icmpNo X176 hx (hb hby at_198) (XT.ii_ne_f (own_all_no c112_175)) ?_
            refine s_iconst X176 hx (1 : Int32) (hb hby at_201) rfl ?_
            refine s_goto X176 hx 206 (hb hby at_202) (by decide) (by decide) ?_
            have f177 := Nat.le_trans hk0 E155.1
            have f178 := Nat.le_trans f177 E156.1
            have f179 := Nat.le_trans f178 (Keep.of_wr W158).1
            have f180 := Nat.le_trans f179 (Keep.of_wr W159).1
            have f181 := Nat.le_trans f180 K160.1
            exact own_retNW X176 hS (by rw [e176]; exact f181) hx hlk (t := .boolean) Bd.returns (by simp) (hb hby at_206) (by rw [e176]; exact ⟨rfl, N176⟩) (by decide) (by decide)
          · skip
            refine s_ifNo X173 hx (hb hby at_112) (XT.i0_eq_f c112_175) ?_
            refine s_iload X173 hx (hb hby at_115) rfl ?_
            obtain ⟨_, T182, Lc182, X182, hQ182, st182⟩ := own_callS X173 hx hZ hown (own_hw hw 52 rfl) (own_hw hw 53 rfl) (own_hw hw 2 rfl) (own_hw hw 54 rfl) (rm_ok l Z a0 hw [] cz_102 T160.heap n0 f174) (by decide) e173 (Ls := #[.val (.int xl), .val (.int x0), .val (.int x1), .val (.int x2), .val (.int (2 : Int32)), .val (.int cz_101), .val (.int cz_102), .val (.int cz_103), .val (.ref b155), .unset]) [(.int cz_102)] [] rfl (by rw [hml]; rfl) (lenOf own_pd17 rfl) (hb hby at_117) (by decide) 0 rfl (by decide) (by decide) (by decide)
            obtain ⟨rfl, Nq182, e182⟩ := hQ182
            have N182 := Fr.app N173 Nq182
            refine st182 _ ?_
            show own_Ok p e below _ (T182.setTop (mkF m 120 #[.val (.int xl), .val (.int x0), .val (.int x1), .val (.int x2), .val (.int (2 : Int32)), .val (.int cz_101), .val (.int cz_102), .val (.int cz_103), .val (.ref b155), .unset] [(.int (own_ok cz_102))]))
            by_cases c120_183 : (own_ok cz_102) = (0 : Int32)
            · skip
              refine s_ifYes X182 hx 127 (hb hby at_120) (XT.i0_eq_t c120_183) (by decide) (by decide) ?_
              refine s_iconst X182 hx (0 : Int32) (hb hby at_127) rfl ?_
              refine s_istore X182 hx (hb hby at_128) #[.val (.int xl), .val (.int x0), .val (.int x1), .val (.int x2), .val (.int (2 : Int32)), .val (.int cz_101), .val (.int cz_102), .val (.int cz_103), .val (.ref b155), .val (.int (0 : Int32))] rfl ?_
              refine s_goto X182 hx 191 (hb hby at_130) (by decide) (by decide) ?_
              refine s_aload X182 hx (hb hby at_191) rfl rfl ?_
              obtain ⟨_, T184, Lc184, X184, hQ184, st184⟩ := own_callS X182 hx hZ hown (own_hw hw 27 rfl) (own_hw hw 28 rfl) (own_hw hw 29 rfl) (own_hw hw 30 rfl) (rm_isf2u0 l Z a0 hw [] G1 G3 cz_101 cz_102 b155 tb_160 kb_160 T160.heap n0 f174 hst g160_0 g160_1 g160_2 g160_3 (⟨hl_101, hh_101⟩) (⟨hl_102, hh_102⟩) b0) (by decide) e182 (Ls := #[.val (.int xl), .val (.int x0), .val (.int x1), .val (.int x2), .val (.int (2 : Int32)), .val (.int cz_101), .val (.int cz_102), .val (.int cz_103), .val (.ref b155), .val (.int (0 : Int32))]) [(.ref b155)] [] rfl (by rw [hml]; rfl) (lenOf own_pd16 rfl) (hb hby at_193) (by decide) 0 rfl (by decide) (by decide) (by decide)
              obtain ⟨rfl, Nq184, e184⟩ := hQ184
              have N184 := Fr.app N182 Nq184
              refine st184 _ ?_
              show own_Ok p e below _ (T184.setTop (mkF m 196 #[.val (.int xl), .val (.int x0), .val (.int x1), .val (.int x2), .val (.int (2 : Int32)), .val (.int cz_101), .val (.int cz_102), .val (.int cz_103), .val (.ref b155), .val (.int (0 : Int32))] [(.int (own_all ([cz_101, cz_102] : List Int32)))]))
              refine s_iload X184 hx (hb hby at_196) rfl ?_
              refine s_icmpNo X184 hx (hb hby at_198) (XT.ii_ne_f ((own_all_yes (own_ok_ne c112_175)).trans (own_all_no c120_183))) ?_
              refine s_iconst X184 hx (1 : Int32) (hb hby at_201) rfl ?_
              refine s_goto X184 hx 206 (hb hby at_202) (by decide) (by decide) ?_
              have f185 := Nat.le_trans hk0 E155.1
              have f186 := Nat.le_trans f185 E156.1
              have f187 := Nat.le_trans f186 (Keep.of_wr W158).1
              have f188 := Nat.le_trans f187 (Keep.of_wr W159).1
              have f189 := Nat.le_trans f188 K160.1
              exact own_retNW X184 hS (by rw [e184]; exact f189) hx hlk (t := .boolean) Bd.returns (by simp) (hb hby at_206) (by rw [e184]; exact ⟨rfl, N184⟩) (by decide) (by decide)
            · skip
              refine s_ifNo X182 hx (hb hby at_120) (XT.i0_eq_f c120_183) ?_
              refine s_iconst X182 hx (1 : Int32) (hb hby at_123) rfl ?_
              refine s_goto X182 hx 128 (hb hby at_124) (by decide) (by decide) ?_
              refine s_istore X182 hx (hb hby at_128) #[.val (.int xl), .val (.int x0), .val (.int x1), .val (.int x2), .val (.int (2 : Int32)), .val (.int cz_101), .val (.int cz_102), .val (.int cz_103), .val (.ref b155), .val (.int (1 : Int32))] rfl ?_
              refine s_goto X182 hx 191 (hb hby at_130) (by decide) (by decide) ?_
              refine s_aload X182 hx (hb hby at_191) rfl rfl ?_
              obtain ⟨_, T190, Lc190, X190, hQ190, st190⟩ := own_callS X182 hx hZ hown (own_hw hw 27 rfl) (own_hw hw 28 rfl) (own_hw hw 29 rfl) (own_hw hw 30 rfl) (rm_isf2u0 l Z a0 hw [] G1 G3 cz_101 cz_102 b155 tb_160 kb_160 T160.heap n0 f174 hst g160_0 g160_1 g160_2 g160_3 (⟨hl_101, hh_101⟩) (⟨hl_102, hh_102⟩) b0) (by decide) e182 (Ls := #[.val (.int xl), .val (.int x0), .val (.int x1), .val (.int x2), .val (.int (2 : Int32)), .val (.int cz_101), .val (.int cz_102), .val (.int cz_103), .val (.ref b155), .val (.int (1 : Int32))]) [(.ref b155)] [] rfl (by rw [hml]; rfl) (lenOf own_pd16 rfl) (hb hby at_193) (by decide) 0 rfl (by decide) (by decide) (by decide)
              obtain ⟨rfl, Nq190, e190⟩ := hQ190
              have N190 := Fr.app N182 Nq190
              refine st190 _ ?_
              show own_Ok p e below _ (T190.setTop (mkF m 196 #[.val (.int xl), .val (.int x0), .val (.int x1), .val (.int x2), .val (.int (2 : Int32)), .val (.int cz_101), .val (.int cz_102), .val (.int cz_103), .val (.ref b155), .val (.int (1 : Int32))] [(.int (own_all ([cz_101, cz_102] : List Int32)))]))
              refine s_iload X190 hx (hb hby at_196) rfl ?_
              refine s_icmpNo X190 hx (hb hby at_198) (XT.ii_ne_f ((own_all_yes (own_ok_ne c112_175)).trans ((own_all_yes (own_ok_ne c120_183)).trans (own_all_nil)))) ?_
              refine s_iconst X190 hx (1 : Int32) (hb hby at_201) rfl ?_
              refine s_goto X190 hx 206 (hb hby at_202) (by decide) (by decide) ?_
              have f191 := Nat.le_trans hk0 E155.1
              have f192 := Nat.le_trans f191 E156.1
              have f193 := Nat.le_trans f192 (Keep.of_wr W158).1
              have f194 := Nat.le_trans f193 (Keep.of_wr W159).1
              have f195 := Nat.le_trans f194 K160.1
              exact own_retNW X190 hS (by rw [e190]; exact f195) hx hlk (t := .boolean) Bd.returns (by simp) (hb hby at_206) (by rw [e190]; exact ⟨rfl, N190⟩) (by decide) (by decide)
        · skip
          by_cases b1 : (255 : Int32) < cz_102
          · skip
            show own_Ok p e below _ (T159.setTop (mkF m 102 #[.val (.int xl), .val (.int x0), .val (.int x1), .val (.int x2), .val (.int (2 : Int32)), .val (.int cz_101), .val (.int cz_102), .val (.int cz_103), .unset, .unset] [(.ref b156), (.ref b155), (.ref b155)]))
            have f197 := A155.ext E156
            have f198 := f197.wr W158
            have f199 := f198.wr W159
            have f200 := F155_coder.ext E156
            have f201 := f200.other W158 (Or.inl ne_b155_b156)
            have f202 := f201.other W159 (Or.inl ne_b155_b156)
            have f203 := F155_value.ext E156
            have f204 := f203.other W158 (Or.inl ne_b155_b156)
            have f205 := f204.other W159 (Or.inl ne_b155_b156)
            have f206 := f157.ext E156
            have f207 := f206.wr W158 gb_b156
            have f208 := f207.wr W159 gb_b156
            obtain ⟨_, T196, Lc196, X196, hQ196, st196⟩ := own_callN X159 hx hZ hown (own_hw hw 9 rfl) (own_hw hw 10 rfl) (own_hw hw 7 rfl) (own_hw hw 11 rfl) (rm_ini1_21 l Z a0 hw [] G1 G3 cz_101 cz_102 b155 b156 k156 h159 n0 f208 hst (⟨hl_101, hh_101⟩) (⟨hl_102, hh_102⟩) b0 b1 f199 f202 f205 gb_b155 Vch) rfl (by decide) e159 (Ls := #[.val (.int xl), .val (.int x0), .val (.int x1), .val (.int x2), .val (.int (2 : Int32)), .val (.int cz_101), .val (.int cz_102), .val (.int cz_103), .unset, .unset]) b155 [(.ref b156)] [(.ref b155)] rfl (by rw [hml]; rfl) (lenOf own_pd15 rfl) (hb hby at_102) (by decide) 1 rfl (by decide) (by decide) (by decide)
            obtain ⟨tb_196, kb_196, rfl, Nq196, K196, g196_0, g196_1, g196_2, g196_3, gs_tb_196⟩ := hQ196
            have N196 := Fr.app N159 Nq196
            refine st196 _ ?_
            have gb_tb_196 : n0 ≤ tb_196 := Nat.le_trans (own_n0 f208) gs_tb_196
            have ne_b155_tb_196 : b155 ≠ tb_196 := Nat.ne_of_lt (Nat.lt_of_lt_of_le f199.lt gs_tb_196)
            have ne_b156_tb_196 : b156 ≠ tb_196 := Nat.ne_of_lt (Nat.lt_of_lt_of_le Vch.lt gs_tb_196)
            have e196 : T196.heap = T196.heap := rfl
            show own_Ok p e below _ (T196.setTop (mkF m 105 #[.val (.int xl), .val (.int x0), .val (.int x1), .val (.int x2), .val (.int (2 : Int32)), .val (.int cz_101), .val (.int cz_102), .val (.int cz_103), .unset, .unset] [(.ref b155)]))
            refine s_astore X196 hx (hb hby at_105) rfl #[.val (.int xl), .val (.int x0), .val (.int x1), .val (.int x2), .val (.int (2 : Int32)), .val (.int cz_101), .val (.int cz_102), .val (.int cz_103), .val (.ref b155), .unset] rfl ?_
            refine s_iload X196 hx (hb hby at_107) rfl ?_
            have f210 := f208.keep K196 (allS gb_b155 all0)
            obtain ⟨_, T209, Lc209, X209, hQ209, st209⟩ := own_callS X196 hx hZ hown (own_hw hw 52 rfl) (own_hw hw 53 rfl) (own_hw hw 2 rfl) (own_hw hw 54 rfl) (rm_ok l Z a0 hw [] cz_101 T196.heap n0 f210) (by decide) e196 (Ls := #[.val (.int xl), .val (.int x0), .val (.int x1), .val (.int x2), .val (.int (2 : Int32)), .val (.int cz_101), .val (.int cz_102), .val (.int cz_103), .val (.ref b155), .unset]) [(.int cz_101)] [] rfl (by rw [hml]; rfl) (lenOf own_pd17 rfl) (hb hby at_109) (by decide) 0 rfl (by decide) (by decide) (by decide)
            obtain ⟨rfl, Nq209, e209⟩ := hQ209
            have N209 := Fr.app N196 Nq209
            refine st209 _ ?_
            show own_Ok p e below _ (T209.setTop (mkF m 112 #[.val (.int xl), .val (.int x0), .val (.int x1), .val (.int x2), .val (.int (2 : Int32)), .val (.int cz_101), .val (.int cz_102), .val (.int cz_103), .val (.ref b155), .unset] [(.int (own_ok cz_101))]))
            by_cases c112_211 : (own_ok cz_101) = (0 : Int32)
            · skip
              refine s_ifYes X209 hx 127 (hb hby at_112) (XT.i0_eq_t c112_211) (by decide) (by decide) ?_
              refine s_iconst X209 hx (0 : Int32) (hb hby at_127) rfl ?_
              refine s_istore X209 hx (hb hby at_128) #[.val (.int xl), .val (.int x0), .val (.int x1), .val (.int x2), .val (.int (2 : Int32)), .val (.int cz_101), .val (.int cz_102), .val (.int cz_103), .val (.ref b155), .val (.int (0 : Int32))] rfl ?_
              refine s_goto X209 hx 191 (hb hby at_130) (by decide) (by decide) ?_
              refine s_aload X209 hx (hb hby at_191) rfl rfl ?_
              obtain ⟨_, T212, Lc212, X212, hQ212, st212⟩ := own_callS X209 hx hZ hown (own_hw hw 27 rfl) (own_hw hw 28 rfl) (own_hw hw 29 rfl) (own_hw hw 30 rfl) (rm_isf2u1 l Z a0 hw [] G1 G3 cz_101 cz_102 b155 tb_196 kb_196 T196.heap n0 f210 hst g196_0 g196_1 g196_2 g196_3 (⟨hl_101, hh_101⟩) (⟨hl_102, hh_102⟩) b0 b1) (by decide) e209 (Ls := #[.val (.int xl), .val (.int x0), .val (.int x1), .val (.int x2), .val (.int (2 : Int32)), .val (.int cz_101), .val (.int cz_102), .val (.int cz_103), .val (.ref b155), .val (.int (0 : Int32))]) [(.ref b155)] [] rfl (by rw [hml]; rfl) (lenOf own_pd16 rfl) (hb hby at_193) (by decide) 0 rfl (by decide) (by decide) (by decide)
              obtain ⟨rfl, Nq212, e212⟩ := hQ212
              have N212 := Fr.app N209 Nq212
              refine st212 _ ?_
              show own_Ok p e below _ (T212.setTop (mkF m 196 #[.val (.int xl), .val (.int x0), .val (.int x1), .val (.int x2), .val (.int (2 : Int32)), .val (.int cz_101), .val (.int cz_102), .val (.int cz_103), .val (.ref b155), .val (.int (0 : Int32))] [(.int (own_all ([cz_101, cz_102] : List Int32)))]))
              refine s_iload X212 hx (hb hby at_196) rfl ?_
              refine s_icmpNo X212 hx (hb hby at_198) (XT.ii_ne_f (own_all_no c112_211)) ?_
              refine s_iconst X212 hx (1 : Int32) (hb hby at_201) rfl ?_
              refine s_goto X212 hx 206 (hb hby at_202) (by decide) (by decide) ?_
              have f213 := Nat.le_trans hk0 E155.1
              have f214 := Nat.le_trans f213 E156.1
              have f215 := Nat.le_trans f214 (Keep.of_wr W158).1
              have f216 := Nat.le_trans f215 (Keep.of_wr W159).1
              have f217 := Nat.le_trans f216 K196.1
              exact own_retNW X212 hS (by rw [e212]; exact f217) hx hlk (t := .boolean) Bd.returns (by simp) (hb hby at_206) (by rw [e212]; exact ⟨rfl, N212⟩) (by decide) (by decide)
            · skip
              refine s_ifNo X209 hx (hb hby at_112) (XT.i0_eq_f c112_211) ?_
              refine s_iload X209 hx (hb hby at_115) rfl ?_
              obtain ⟨_, T218, Lc218, X218, hQ218, st218⟩ := own_callS X209 hx hZ hown (own_hw hw 52 rfl) (own_hw hw 53 rfl) (own_hw hw 2 rfl) (own_hw hw 54 rfl) (rm_ok l Z a0 hw [] cz_102 T196.heap n0 f210) (by decide) e209 (Ls := #[.val (.int xl), .val (.int x0), .val (.int x1), .val (.int x2), .val (.int (2 : Int32)), .val (.int cz_101), .val (.int cz_102), .val (.int cz_103), .val (.ref b155), .unset]) [(.int cz_102)] [] rfl (by rw [hml]; rfl) (lenOf own_pd17 rfl) (hb hby at_117) (by decide) 0 rfl (by decide) (by decide) (by decide)
              obtain ⟨rfl, Nq218, e218⟩ := hQ218
              have N218 := Fr.app N209 Nq218
              refine st218 _ ?_
              show own_Ok p e below _ (T218.setTop (mkF m 120 #[.val (.int xl), .val (.int x0), .val (.int x1), .val (.int x2), .val (.int (2 : Int32)), .val (.int cz_101), .val (.int cz_102), .val (.int cz_103), .val (.ref b155), .unset] [(.int (own_ok cz_102))]))
              by_cases c120_219 : (own_ok cz_102) = (0 : Int32)
              · skip
                refine s_ifYes X218 hx 127 (hb hby at_120) (XT.i0_eq_t c120_219) (by decide) (by decide) ?_
                refine s_iconst X218 hx (0 : Int32) (hb hby at_127) rfl ?_
                refine s_istore X218 hx (hb hby at_128) #[.val (.int xl), .val (.int x0), .val (.int x1), .val (.int x2), .val (.int (2 : Int32)), .val (.int cz_101), .val (.int cz_102), .val (.int cz_103), .val (.ref b155), .val (.int (0 : Int32))] rfl ?_
                refine s_goto X218 hx 191 (hb hby at_130) (by decide) (by decide) ?_
                refine s_aload X218 hx (hb hby at_191) rfl rfl ?_
                obtain ⟨_, T220, Lc220, X220, hQ220, st220⟩ := own_callS X218 hx hZ hown (own_hw hw 27 rfl) (own_hw hw 28 rfl) (own_hw hw 29 rfl) (own_hw hw 30 rfl) (rm_isf2u1 l Z a0 hw [] G1 G3 cz_101 cz_102 b155 tb_196 kb_196 T196.heap n0 f210 hst g196_0 g196_1 g196_2 g196_3 (⟨hl_101, hh_101⟩) (⟨hl_102, hh_102⟩) b0 b1) (by decide) e218 (Ls := #[.val (.int xl), .val (.int x0), .val (.int x1), .val (.int x2), .val (.int (2 : Int32)), .val (.int cz_101), .val (.int cz_102), .val (.int cz_103), .val (.ref b155), .val (.int (0 : Int32))]) [(.ref b155)] [] rfl (by rw [hml]; rfl) (lenOf own_pd16 rfl) (hb hby at_193) (by decide) 0 rfl (by decide) (by decide) (by decide)
                obtain ⟨rfl, Nq220, e220⟩ := hQ220
                have N220 := Fr.app N218 Nq220
                refine st220 _ ?_
                show own_Ok p e below _ (T220.setTop (mkF m 196 #[.val (.int xl), .val (.int x0), .val (.int x1), .val (.int x2), .val (.int (2 : Int32)), .val (.int cz_101), .val (.int cz_102), .val (.int cz_103), .val (.ref b155), .val (.int (0 : Int32))] [(.int (own_all ([cz_101, cz_102] : List Int32)))]))
                refine s_iload X220 hx (hb hby at_196) rfl ?_
                refine s_icmpNo X220 hx (hb hby at_198) (XT.ii_ne_f ((own_all_yes (own_ok_ne c112_211)).trans (own_all_no c120_219))) ?_
                refine s_iconst X220 hx (1 : Int32) (hb hby at_201) rfl ?_
                refine s_goto X220 hx 206 (hb hby at_202) (by decide) (by decide) ?_
                have f221 := Nat.le_trans hk0 E155.1
                have f222 := Nat.le_trans f221 E156.1
                have f223 := Nat.le_trans f222 (Keep.of_wr W158).1
                have f224 := Nat.le_trans f223 (Keep.of_wr W159).1
                have f225 := Nat.le_trans f224 K196.1
                exact own_retNW X220 hS (by rw [e220]; exact f225) hx hlk (t := .boolean) Bd.returns (by simp) (hb hby at_206) (by rw [e220]; exact ⟨rfl, N220⟩) (by decide) (by decide)
              · skip
                refine s_ifNo X218 hx (hb hby at_120) (XT.i0_eq_f c120_219) ?_
                refine s_iconst X218 hx (1 : Int32) (hb hby at_123) rfl ?_
                refine s_goto X218 hx 128 (hb hby at_124) (by decide) (by decide) ?_
                refine s_istore X218 hx (hb hby at_128) #[.val (.int xl), .val (.int x0), .val (.int x1), .val (.int x2), .val (.int (2 : Int32)), .val (.int cz_101), .val (.int cz_102), .val (.int cz_103), .val (.ref b155), .val (.int (1 : Int32))] rfl ?_
                refine s_goto X218 hx 191 (hb hby at_130) (by decide) (by decide) ?_
                refine s_aload X218 hx (hb hby at_191) rfl rfl ?_
                obtain ⟨_, T226, Lc226, X226, hQ226, st226⟩ := own_callS X218 hx hZ hown (own_hw hw 27 rfl) (own_hw hw 28 rfl) (own_hw hw 29 rfl) (own_hw hw 30 rfl) (rm_isf2u1 l Z a0 hw [] G1 G3 cz_101 cz_102 b155 tb_196 kb_196 T196.heap n0 f210 hst g196_0 g196_1 g196_2 g196_3 (⟨hl_101, hh_101⟩) (⟨hl_102, hh_102⟩) b0 b1) (by decide) e218 (Ls := #[.val (.int xl), .val (.int x0), .val (.int x1), .val (.int x2), .val (.int (2 : Int32)), .val (.int cz_101), .val (.int cz_102), .val (.int cz_103), .val (.ref b155), .val (.int (1 : Int32))]) [(.ref b155)] [] rfl (by rw [hml]; rfl) (lenOf own_pd16 rfl) (hb hby at_193) (by decide) 0 rfl (by decide) (by decide) (by decide)
                obtain ⟨rfl, Nq226, e226⟩ := hQ226
                have N226 := Fr.app N218 Nq226
                refine st226 _ ?_
                show own_Ok p e below _ (T226.setTop (mkF m 196 #[.val (.int xl), .val (.int x0), .val (.int x1), .val (.int x2), .val (.int (2 : Int32)), .val (.int cz_101), .val (.int cz_102), .val (.int cz_103), .val (.ref b155), .val (.int (1 : Int32))] [(.int (own_all ([cz_101, cz_102] : List Int32)))]))
                refine s_iload X226 hx (hb hby at_196) rfl ?_
                refine s_icmpNo X226 hx (hb hby at_198) (XT.ii_ne_f ((own_all_yes (own_ok_ne c112_211)).trans ((own_all_yes (own_ok_ne c120_219)).trans (own_all_nil)))) ?_
                refine s_iconst X226 hx (1 : Int32) (hb hby at_201) rfl ?_
                refine s_goto X226 hx 206 (hb hby at_202) (by decide) (by decide) ?_
                have f227 := Nat.le_trans hk0 E155.1
                have f228 := Nat.le_trans f227 E156.1
                have f229 := Nat.le_trans f228 (Keep.of_wr W158).1
                have f230 := Nat.le_trans f229 (Keep.of_wr W159).1
                have f231 := Nat.le_trans f230 K196.1
                exact own_retNW X226 hS (by rw [e226]; exact f231) hx hlk (t := .boolean) Bd.returns (by simp) (hb hby at_206) (by rw [e226]; exact ⟨rfl, N226⟩) (by decide) (by decide)
          · skip
            show own_Ok p e below _ (T159.setTop (mkF m 102 #[.val (.int xl), .val (.int x0), .val (.int x1), .val (.int x2), .val (.int (2 : Int32)), .val (.int cz_101), .val (.int cz_102), .val (.int cz_103), .unset, .unset] [(.ref b156), (.ref b155), (.ref b155)]))
            have hp : ∀ x ∈ ([cz_101, cz_102] : List Int32), ¬ x < 0 ∧ ¬ (255 : Int32) < x := by
              intro x hx
              simp only [List.mem_cons, List.not_mem_nil, or_false] at hx
              rcases hx with rfl | rfl
              · exact ⟨hl_101, b0⟩
              · exact ⟨hl_102, b1⟩
            have f233 := A155.ext E156
            have f234 := f233.wr W158
            have f235 := f234.wr W159
            have f236 := F155_value.ext E156
            have f237 := f236.other W158 (Or.inl ne_b155_b156)
            have f238 := f237.other W159 (Or.inl ne_b155_b156)
            have f239 := F155_coder.ext E156
            have f240 := f239.other W158 (Or.inl ne_b155_b156)
            have f241 := f240.other W159 (Or.inl ne_b155_b156)
            have f242 := f157.ext E156
            have f243 := f242.wr W158 gb_b156
            have f244 := f243.wr W159 gb_b156
            obtain ⟨_, _, ⟨T232, L232, k232, n232⟩, -, X232, ⟨Lc232, hQ232, l232, y232, z232⟩, st232⟩ := X159.specialBack hx (y := (⟨"java/lang/String", "<init>", "([C)V"⟩ : MethodName)) rfl hown (mvT hZ (own_hw hw 9 rfl)) (mvT hZ (own_hw hw 10 rfl)) (mvT hZ (own_hw hw 11 rfl)) (by decide) (StrChars.Road.backV (W := 1) hZ hws (kI := 4) (own_hw hw 6 rfl) (cs := ([cz_101, cz_102] : List Int32)) (bs := (([cz_101, cz_102] : List Int32)).map (fun c => c.toInt8.toInt32)) (n := 2) gb_b155 (own_n0 f244) f235 f238 f241 Vch (SG1.ext f244.2) PG1 rfl rfl (by decide) (by decide) hp rfl (by decide) (by decide)) (g := (mkF m 102 #[.val (.int xl), .val (.int x0), .val (.int x1), .val (.int x2), .val (.int (2 : Int32)), .val (.int cz_101), .val (.int cz_102), .val (.int cz_103), .unset, .unset] [(.ref b156), (.ref b155), (.ref b155)])) rfl (by rw [hml]; rfl) (Steps.refl _) (a := b155) (argsL := [(.ref b156)]) (rest := [(.ref b155)]) (lenOf own_pd15 rfl) rfl (by show 2 * 0 + _ ≤ _; exact Nat.le_of_eq rfl) (hb hby at_102) (fun _ _ => ⟨rfl, e159, (by decide : 2 + 1 ≤ _), (by decide : 6 + 2 ≤ _)⟩)
            dsimp only [Pt.U, Pt.locs, Pt.cells, Pt.slots] at X232 l232 y232 z232 st232 hQ232
            subst l232 y232 z232
            obtain ⟨rfl, Nq232, K232, g232_0, g232_1, tS_244, kS_244, u1_244, u2_244, u3_244, vS_244, aS_244⟩ := hQ232
            have N232 := Fr.app N159 Nq232
            refine own_st (fun _ k => st232.trans k) ?_
            have gb_tS_244 : n0 ≤ tS_244 := Nat.le_trans (own_n0 f244) u2_244
            have ne_b155_tS_244 : b155 ≠ tS_244 := Nat.ne_of_lt (Nat.lt_of_lt_of_le f235.lt u2_244)
            have ne_b156_tS_244 : b156 ≠ tS_244 := Nat.ne_of_lt (Nat.lt_of_lt_of_le Vch.lt u2_244)
            have e232 : T232.heap = T232.heap := rfl
            show own_Ok p e below _ (T232.setTop (mkF m 105 #[.val (.int xl), .val (.int x0), .val (.int x1), .val (.int x2), .val (.int (2 : Int32)), .val (.int cz_101), .val (.int cz_102), .val (.int cz_103), .unset, .unset] [(.ref b155)]))
            show own_Ok p e below _ (T232.setTop (mkF m 105 #[.val (.int xl), .val (.int x0), .val (.int x1), .val (.int x2), .val (.int (2 : Int32)), .val (.int cz_101), .val (.int cz_102), .val (.int cz_103), .unset, .unset] [(.ref b155)]))
            refine s_astore X232 hx (hb hby at_105) rfl #[.val (.int xl), .val (.int x0), .val (.int x1), .val (.int x2), .val (.int (2 : Int32)), .val (.int cz_101), .val (.int cz_102), .val (.int cz_103), .val (.ref b155), .unset] rfl ?_
            refine s_iload X232 hx (hb hby at_107) rfl ?_
            have f246 := f244.keep K232 (allS gb_b155 all0)
            obtain ⟨_, T245, Lc245, X245, hQ245, st245⟩ := own_callS X232 hx hZ hown (own_hw hw 52 rfl) (own_hw hw 53 rfl) (own_hw hw 2 rfl) (own_hw hw 54 rfl) (rm_ok l Z a0 hw [] cz_101 T232.heap n0 f246) (by decide) e232 (Ls := #[.val (.int xl), .val (.int x0), .val (.int x1), .val (.int x2), .val (.int (2 : Int32)), .val (.int cz_101), .val (.int cz_102), .val (.int cz_103), .val (.ref b155), .unset]) [(.int cz_101)] [] rfl (by rw [hml]; rfl) (lenOf own_pd17 rfl) (hb hby at_109) (by decide) 0 rfl (by decide) (by decide) (by decide)
            obtain ⟨rfl, Nq245, e245⟩ := hQ245
            have N245 := Fr.app N232 Nq245
            refine st245 _ ?_
            show own_Ok p e below _ (T245.setTop (mkF m 112 #[.val (.int xl), .val (.int x0), .val (.int x1), .val (.int x2), .val (.int (2 : Int32)), .val (.int cz_101), .val (.int cz_102), .val (.int cz_103), .val (.ref b155), .unset] [(.int (own_ok cz_101))]))
            by_cases c112_247 : (own_ok cz_101) = (0 : Int32)
            · skip
              refine s_ifYes X245 hx 127 (hb hby at_112) (XT.i0_eq_t c112_247) (by decide) (by decide) ?_
              refine s_iconst X245 hx (0 : Int32) (hb hby at_127) rfl ?_
              refine s_istore X245 hx (hb hby at_128) #[.val (.int xl), .val (.int x0), .val (.int x1), .val (.int x2), .val (.int (2 : Int32)), .val (.int cz_101), .val (.int cz_102), .val (.int cz_103), .val (.ref b155), .val (.int (0 : Int32))] rfl ?_
              refine s_goto X245 hx 191 (hb hby at_130) (by decide) (by decide) ?_
              refine s_aload X245 hx (hb hby at_191) rfl rfl ?_
              obtain ⟨_, T248, Lc248, X248, hQ248, st248⟩ := own_callS X245 hx hZ hown (own_hw hw 27 rfl) (own_hw hw 28 rfl) (own_hw hw 29 rfl) (own_hw hw 30 rfl) (rm_isf2 l Z a0 hw [] G1 G3 cz_101 cz_102 b155 tS_244 kS_244 T232.heap n0 f246 hst g232_0 g232_1 vS_244 aS_244 (⟨hl_101, hh_101⟩) (⟨hl_102, hh_102⟩) b0 b1) (by decide) e245 (Ls := #[.val (.int xl), .val (.int x0), .val (.int x1), .val (.int x2), .val (.int (2 : Int32)), .val (.int cz_101), .val (.int cz_102), .val (.int cz_103), .val (.ref b155), .val (.int (0 : Int32))]) [(.ref b155)] [] rfl (by rw [hml]; rfl) (lenOf own_pd16 rfl) (hb hby at_193) (by decide) 0 rfl (by decide) (by decide) (by decide)
              obtain ⟨rfl, Nq248, e248⟩ := hQ248
              have N248 := Fr.app N245 Nq248
              refine st248 _ ?_
              show own_Ok p e below _ (T248.setTop (mkF m 196 #[.val (.int xl), .val (.int x0), .val (.int x1), .val (.int x2), .val (.int (2 : Int32)), .val (.int cz_101), .val (.int cz_102), .val (.int cz_103), .val (.ref b155), .val (.int (0 : Int32))] [(.int (own_all ([cz_101, cz_102] : List Int32)))]))
              refine s_iload X248 hx (hb hby at_196) rfl ?_
              refine s_icmpNo X248 hx (hb hby at_198) (XT.ii_ne_f (own_all_no c112_247)) ?_
              refine s_iconst X248 hx (1 : Int32) (hb hby at_201) rfl ?_
              refine s_goto X248 hx 206 (hb hby at_202) (by decide) (by decide) ?_
              have f249 := Nat.le_trans hk0 E155.1
              have f250 := Nat.le_trans f249 E156.1
              have f251 := Nat.le_trans f250 (Keep.of_wr W158).1
              have f252 := Nat.le_trans f251 (Keep.of_wr W159).1
              have f253 := Nat.le_trans f252 K232.1
              exact own_retNW X248 hS (by rw [e248]; exact f253) hx hlk (t := .boolean) Bd.returns (by simp) (hb hby at_206) (by rw [e248]; exact ⟨rfl, N248⟩) (by decide) (by decide)
            · skip
              refine s_ifNo X245 hx (hb hby at_112) (XT.i0_eq_f c112_247) ?_
              refine s_iload X245 hx (hb hby at_115) rfl ?_
              obtain ⟨_, T254, Lc254, X254, hQ254, st254⟩ := own_callS X245 hx hZ hown (own_hw hw 52 rfl) (own_hw hw 53 rfl) (own_hw hw 2 rfl) (own_hw hw 54 rfl) (rm_ok l Z a0 hw [] cz_102 T232.heap n0 f246) (by decide) e245 (Ls := #[.val (.int xl), .val (.int x0), .val (.int x1), .val (.int x2), .val (.int (2 : Int32)), .val (.int cz_101), .val (.int cz_102), .val (.int cz_103), .val (.ref b155), .unset]) [(.int cz_102)] [] rfl (by rw [hml]; rfl) (lenOf own_pd17 rfl) (hb hby at_117) (by decide) 0 rfl (by decide) (by decide) (by decide)
              obtain ⟨rfl, Nq254, e254⟩ := hQ254
              have N254 := Fr.app N245 Nq254
              refine st254 _ ?_
              show own_Ok p e below _ (T254.setTop (mkF m 120 #[.val (.int xl), .val (.int x0), .val (.int x1), .val (.int x2), .val (.int (2 : Int32)), .val (.int cz_101), .val (.int cz_102), .val (.int cz_103), .val (.ref b155), .unset] [(.int (own_ok cz_102))]))
              by_cases c120_255 : (own_ok cz_102) = (0 : Int32)
              · skip
                refine s_ifYes X254 hx 127 (hb hby at_120) (XT.i0_eq_t c120_255) (by decide) (by decide) ?_
                refine s_iconst X254 hx (0 : Int32) (hb hby at_127) rfl ?_
                refine s_istore X254 hx (hb hby at_128) #[.val (.int xl), .val (.int x0), .val (.int x1), .val (.int x2), .val (.int (2 : Int32)), .val (.int cz_101), .val (.int cz_102), .val (.int cz_103), .val (.ref b155), .val (.int (0 : Int32))] rfl ?_
                refine s_goto X254 hx 191 (hb hby at_130) (by decide) (by decide) ?_
                refine s_aload X254 hx (hb hby at_191) rfl rfl ?_
                obtain ⟨_, T256, Lc256, X256, hQ256, st256⟩ := own_callS X254 hx hZ hown (own_hw hw 27 rfl) (own_hw hw 28 rfl) (own_hw hw 29 rfl) (own_hw hw 30 rfl) (rm_isf2 l Z a0 hw [] G1 G3 cz_101 cz_102 b155 tS_244 kS_244 T232.heap n0 f246 hst g232_0 g232_1 vS_244 aS_244 (⟨hl_101, hh_101⟩) (⟨hl_102, hh_102⟩) b0 b1) (by decide) e254 (Ls := #[.val (.int xl), .val (.int x0), .val (.int x1), .val (.int x2), .val (.int (2 : Int32)), .val (.int cz_101), .val (.int cz_102), .val (.int cz_103), .val (.ref b155), .val (.int (0 : Int32))]) [(.ref b155)] [] rfl (by rw [hml]; rfl) (lenOf own_pd16 rfl) (hb hby at_193) (by decide) 0 rfl (by decide) (by decide) (by decide)
                obtain ⟨rfl, Nq256, e256⟩ := hQ256
                have N256 := Fr.app N254 Nq256
                refine st256 _ ?_
                show own_Ok p e below _ (T256.setTop (mkF m 196 #[.val (.int xl), .val (.int x0), .val (.int x1), .val (.int x2), .val (.int (2 : Int32)), .val (.int cz_101), .val (.int cz_102), .val (.int cz_103), .val (.ref b155), .val (.int (0 : Int32))] [(.int (own_all ([cz_101, cz_102] : List Int32)))]))
                refine s_iload X256 hx (hb hby at_196) rfl ?_
                refine s_icmpNo X256 hx (hb hby at_198) (XT.ii_ne_f ((own_all_yes (own_ok_ne c112_247)).trans (own_all_no c120_255))) ?_
                refine s_iconst X256 hx (1 : Int32) (hb hby at_201) rfl ?_
                refine s_goto X256 hx 206 (hb hby at_202) (by decide) (by decide) ?_
                have f257 := Nat.le_trans hk0 E155.1
                have f258 := Nat.le_trans f257 E156.1
                have f259 := Nat.le_trans f258 (Keep.of_wr W158).1
                have f260 := Nat.le_trans f259 (Keep.of_wr W159).1
                have f261 := Nat.le_trans f260 K232.1
                exact own_retNW X256 hS (by rw [e256]; exact f261) hx hlk (t := .boolean) Bd.returns (by simp) (hb hby at_206) (by rw [e256]; exact ⟨rfl, N256⟩) (by decide) (by decide)
              · skip
                refine s_ifNo X254 hx (hb hby at_120) (XT.i0_eq_f c120_255) ?_
                refine s_iconst X254 hx (1 : Int32) (hb hby at_123) rfl ?_
                refine s_goto X254 hx 128 (hb hby at_124) (by decide) (by decide) ?_
                refine s_istore X254 hx (hb hby at_128) #[.val (.int xl), .val (.int x0), .val (.int x1), .val (.int x2), .val (.int (2 : Int32)), .val (.int cz_101), .val (.int cz_102), .val (.int cz_103), .val (.ref b155), .val (.int (1 : Int32))] rfl ?_
                refine s_goto X254 hx 191 (hb hby at_130) (by decide) (by decide) ?_
                refine s_aload X254 hx (hb hby at_191) rfl rfl ?_
                obtain ⟨_, T262, Lc262, X262, hQ262, st262⟩ := own_callS X254 hx hZ hown (own_hw hw 27 rfl) (own_hw hw 28 rfl) (own_hw hw 29 rfl) (own_hw hw 30 rfl) (rm_isf2 l Z a0 hw [] G1 G3 cz_101 cz_102 b155 tS_244 kS_244 T232.heap n0 f246 hst g232_0 g232_1 vS_244 aS_244 (⟨hl_101, hh_101⟩) (⟨hl_102, hh_102⟩) b0 b1) (by decide) e254 (Ls := #[.val (.int xl), .val (.int x0), .val (.int x1), .val (.int x2), .val (.int (2 : Int32)), .val (.int cz_101), .val (.int cz_102), .val (.int cz_103), .val (.ref b155), .val (.int (1 : Int32))]) [(.ref b155)] [] rfl (by rw [hml]; rfl) (lenOf own_pd16 rfl) (hb hby at_193) (by decide) 0 rfl (by decide) (by decide) (by decide)
                obtain ⟨rfl, Nq262, e262⟩ := hQ262
                have N262 := Fr.app N254 Nq262
                refine st262 _ ?_
                show own_Ok p e below _ (T262.setTop (mkF m 196 #[.val (.int xl), .val (.int x0), .val (.int x1), .val (.int x2), .val (.int (2 : Int32)), .val (.int cz_101), .val (.int cz_102), .val (.int cz_103), .val (.ref b155), .val (.int (1 : Int32))] [(.int (own_all ([cz_101, cz_102] : List Int32)))]))
                refine s_iload X262 hx (hb hby at_196) rfl ?_
                refine s_icmpNo X262 hx (hb hby at_198) (XT.ii_ne_f ((own_all_yes (own_ok_ne c112_247)).trans ((own_all_yes (own_ok_ne c120_255)).trans (own_all_nil)))) ?_
                refine s_iconst X262 hx (1 : Int32) (hb hby at_201) rfl ?_
                refine s_goto X262 hx 206 (hb hby at_202) (by decide) (by decide) ?_
                have f263 := Nat.le_trans hk0 E155.1
                have f264 := Nat.le_trans f263 E156.1
                have f265 := Nat.le_trans f264 (Keep.of_wr W158).1
                have f266 := Nat.le_trans f265 (Keep.of_wr W159).1
                have f267 := Nat.le_trans f266 K232.1
                exact own_retNW X262 hS (by rw [e262]; exact f267) hx hlk (t := .boolean) Bd.returns (by simp) (hb hby at_206) (by rw [e262]; exact ⟨rfl, N262⟩) (by decide) (by decide)
      · skip
        refine s_icmpYes X103 hx 133 (hb hby at_82) (XT.ii_ne_t c82_154) (by decide) (by decide) ?_
        have k3 := own_and3 xl c25_104 c49_117 c82_154
        rw [show (xl &&& (3 : Int32)) = (3 : Int32) from k3]
        show own_Ok p e below _ (T103.setTop (mkF m 133 #[.val (.int xl), .val (.int x0), .val (.int x1), .val (.int x2), .val (.int (3 : Int32)), .val (.int cz_101), .val (.int cz_102), .val (.int cz_103), .unset, .unset] []))
        obtain ⟨T268, h268, X268, e268, E268, A268, D268, -, st268⟩ := newO X103 hx hZ hown (own_hw hw 5 rfl) (own_hw hw 6 rfl) (own_hw hw 7 rfl) e103 (g := (mkF m 133 #[.val (.int xl), .val (.int x0), .val (.int x1), .val (.int x2), .val (.int (3 : Int32)), .val (.int cz_101), .val (.int cz_102), .val (.int cz_103), .unset, .unset] [])) rfl (hb hby at_133) (by decide) (by decide)
        obtain ⟨b268, g268⟩ : ∃ z, z = h0.size := ⟨_, rfl⟩
        rw [← g268] at A268 D268 st268
        refine own_st st268 ?_
        have gb_b268 : n0 ≤ b268 := Nat.le_trans (own_n0 O0) (Nat.le_of_eq g268.symm)
        have F268_value : Fld Z h268 b268 "java/lang/String" "value" "[B" .null := D268 (Or.inr (own_hw hw 21 rfl)) (ty := (.array .byte)) (by decide)
        have F268_coder : Fld Z h268 b268 "java/lang/String" "coder" "B" (.int (0 : Int32)) := D268 (Or.inr (own_hw hw 22 rfl)) (ty := .byte) (by decide)
        show own_Ok p e below _ (T268.setTop (mkF m 136 #[.val (.int xl), .val (.int x0), .val (.int x1), .val (.int x2), .val (.int (3 : Int32)), .val (.int cz_101), .val (.int cz_102), .val (.int cz_103), .unset, .unset] [(.ref b268)]))
        refine s_dup X268 hx (hb hby at_136) rfl ?_
        refine s_iconst X268 hx (3 : Int32) (hb hby at_137) rfl ?_
        obtain ⟨T269, h269, k269, X269, e269, E269, A269, st269⟩ := newP X268 hx hZ (own_hw hw 8 rfl) e268 (g := (mkF m 138 #[.val (.int xl), .val (.int x0), .val (.int x1), .val (.int x2), .val (.int (3 : Int32)), .val (.int cz_101), .val (.int cz_102), .val (.int cz_103), .unset, .unset] [(.int (3 : Int32)), (.ref b268), (.ref b268)])) rfl (hb hby at_138) rfl (by decide) (cap := 3) (by decide) (by decide) (by decide) (by decide)
        obtain ⟨b269, g269⟩ : ∃ z, z = h268.size := ⟨_, rfl⟩
        rw [← g269] at A269 st269
        refine own_st st269 ?_
        have f270 := O0.ext E268
        have gb_b269 : n0 ≤ b269 := Nat.le_trans (own_n0 f270) (Nat.le_of_eq g269.symm)
        have ne_b268_b269 : b268 ≠ b269 := Nat.ne_of_lt (Nat.lt_of_lt_of_le A268.lt (Nat.le_of_eq g269.symm))
        have V269 : Arv Z h269 b269 k269 .char (3 : Int32) [(.int (0 : Int32)), (.int (0 : Int32)), (.int (0 : Int32))] (.int (0 : Int32)) := (Arv.new A269 (by decide)).pad (pad_rep [] (.int (0 : Int32)) 3)
        show own_Ok p e below _ (T269.setTop (mkF m 140 #[.val (.int xl), .val (.int x0), .val (.int x1), .val (.int x2), .val (.int (3 : Int32)), .val (.int cz_101), .val (.int cz_102), .val (.int cz_103), .unset, .unset] [(.ref b269), (.ref b268), (.ref b268)]))
        refine s_dup X269 hx (hb hby at_140) rfl ?_
        refine s_iconst X269 hx (0 : Int32) (hb hby at_141) rfl ?_
        refine s_iload X269 hx (hb hby at_142) rfl ?_
        obtain ⟨T271, h271, X271, e271, W271, V271, st271⟩ := own_stC X269 hx hZ e269 V269 0 rfl (by decide) (by decide) (Nat.le_of_ble_eq_true rfl) (g := (mkF m 144 #[.val (.int xl), .val (.int x0), .val (.int x1), .val (.int x2), .val (.int (3 : Int32)), .val (.int cz_101), .val (.int cz_102), .val (.int cz_103), .unset, .unset] [(.int cz_101), (.int (0 : Int32)), (.ref b269), (.ref b269), (.ref b268), (.ref b268)])) rfl rfl (hb hby at_144)
        refine own_st st271 ?_
        have V271' : Arv Z h271 b269 k269 .char (3 : Int32) [(.int (nar .char cz_101)), (.int (0 : Int32)), (.int (0 : Int32))] (.int (0 : Int32)) := V271
        have N271 := Fr.snoc X271 N103 gb_b269
        show own_Ok p e below _ (T271.setTop (mkF m 145 #[.val (.int xl), .val (.int x0), .val (.int x1), .val (.int x2), .val (.int (3 : Int32)), .val (.int cz_101), .val (.int cz_102), .val (.int cz_103), .unset, .unset] [(.ref b269), (.ref b268), (.ref b268)]))
        refine s_dup X271 hx (hb hby at_145) rfl ?_
        refine s_iconst X271 hx (1 : Int32) (hb hby at_146) rfl ?_
        refine s_iload X271 hx (hb hby at_147) rfl ?_
        obtain ⟨T272, h272, X272, e272, W272, V272, st272⟩ := own_stC X271 hx hZ e271 V271' 1 rfl (by decide) (by decide) (Nat.le_of_ble_eq_true rfl) (g := (mkF m 149 #[.val (.int xl), .val (.int x0), .val (.int x1), .val (.int x2), .val (.int (3 : Int32)), .val (.int cz_101), .val (.int cz_102), .val (.int cz_103), .unset, .unset] [(.int cz_102), (.int (1 : Int32)), (.ref b269), (.ref b269), (.ref b268), (.ref b268)])) rfl rfl (hb hby at_149)
        refine own_st st272 ?_
        have V272' : Arv Z h272 b269 k269 .char (3 : Int32) [(.int (nar .char cz_101)), (.int (nar .char cz_102)), (.int (0 : Int32))] (.int (0 : Int32)) := V272
        have N272 := Fr.snoc X272 N271 gb_b269
        show own_Ok p e below _ (T272.setTop (mkF m 150 #[.val (.int xl), .val (.int x0), .val (.int x1), .val (.int x2), .val (.int (3 : Int32)), .val (.int cz_101), .val (.int cz_102), .val (.int cz_103), .unset, .unset] [(.ref b269), (.ref b268), (.ref b268)]))
        refine s_dup X272 hx (hb hby at_150) rfl ?_
        refine s_iconst X272 hx (2 : Int32) (hb hby at_151) rfl ?_
        refine s_iload X272 hx (hb hby at_152) rfl ?_
        obtain ⟨T273, h273, X273, e273, W273, V273, st273⟩ := own_stC X272 hx hZ e272 V272' 2 rfl (by decide) (by decide) (Nat.le_of_ble_eq_true rfl) (g := (mkF m 154 #[.val (.int xl), .val (.int x0), .val (.int x1), .val (.int x2), .val (.int (3 : Int32)), .val (.int cz_101), .val (.int cz_102), .val (.int cz_103), .unset, .unset] [(.int cz_103), (.int (2 : Int32)), (.ref b269), (.ref b269), (.ref b268), (.ref b268)])) rfl rfl (hb hby at_154)
        refine own_st st273 ?_
        have V273' : Arv Z h273 b269 k269 .char (3 : Int32) [(.int (nar .char cz_101)), (.int (nar .char cz_102)), (.int (nar .char cz_103))] (.int (0 : Int32)) := V273
        have N273 := Fr.snoc X273 N272 gb_b269
        show own_Ok p e below _ (T273.setTop (mkF m 155 #[.val (.int xl), .val (.int x0), .val (.int x1), .val (.int x2), .val (.int (3 : Int32)), .val (.int cz_101), .val (.int cz_102), .val (.int cz_103), .unset, .unset] [(.ref b269), (.ref b268), (.ref b268)]))
        have Vch : Arv Z h273 b269 k269 .char (3 : Int32) [(.int cz_101), (.int cz_102), (.int cz_103)] (.int (0 : Int32)) := by rw [own_narc hl_101 hh_101, own_narc hl_102 hh_102, own_narc hl_103 hh_103] at V273'; exact V273'
        by_cases b0 : (255 : Int32) < cz_101
        · skip
          show own_Ok p e below _ (T273.setTop (mkF m 155 #[.val (.int xl), .val (.int x0), .val (.int x1), .val (.int x2), .val (.int (3 : Int32)), .val (.int cz_101), .val (.int cz_102), .val (.int cz_103), .unset, .unset] [(.ref b269), (.ref b268), (.ref b268)]))
          have f275 := A268.ext E269
          have f276 := f275.wr W271
          have f277 := f276.wr W272
          have f278 := f277.wr W273
          have f279 := F268_coder.ext E269
          have f280 := f279.other W271 (Or.inl ne_b268_b269)
          have f281 := f280.other W272 (Or.inl ne_b268_b269)
          have f282 := f281.other W273 (Or.inl ne_b268_b269)
          have f283 := F268_value.ext E269
          have f284 := f283.other W271 (Or.inl ne_b268_b269)
          have f285 := f284.other W272 (Or.inl ne_b268_b269)
          have f286 := f285.other W273 (Or.inl ne_b268_b269)
          have f287 := f270.ext E269
          have f288 := f287.wr W271 gb_b269
          have f289 := f288.wr W272 gb_b269
          have f290 := f289.wr W273 gb_b269
          obtain ⟨_, T274, Lc274, X274, hQ274, st274⟩ := own_callN X273 hx hZ hown (own_hw hw 9 rfl) (own_hw hw 10 rfl) (own_hw hw 7 rfl) (own_hw hw 11 rfl) (rm_ini1_30 l Z a0 hw [] G1 G3 cz_101 cz_102 cz_103 b268 b269 k269 h273 n0 f290 hst (⟨hl_101, hh_101⟩) (⟨hl_102, hh_102⟩) (⟨hl_103, hh_103⟩) b0 f278 f282 f286 gb_b268 Vch) rfl (by decide) e273 (Ls := #[.val (.int xl), .val (.int x0), .val (.int x1), .val (.int x2), .val (.int (3 : Int32)), .val (.int cz_101), .val (.int cz_102), .val (.int cz_103), .unset, .unset]) b268 [(.ref b269)] [(.ref b268)] rfl (by rw [hml]; rfl) (lenOf own_pd15 rfl) (hb hby at_155) (by decide) 1 rfl (by decide) (by decide) (by decide)
          obtain ⟨tb_274, kb_274, rfl, Nq274, K274, g274_0, g274_1, g274_2, g274_3, gs_tb_274⟩ := hQ274
          have N274 := Fr.app N273 Nq274
          refine st274 _ ?_
          have gb_tb_274 : n0 ≤ tb_274 := Nat.le_trans (own_n0 f290) gs_tb_274
          have ne_b268_tb_274 : b268 ≠ tb_274 := Nat.ne_of_lt (Nat.lt_of_lt_of_le f278.lt gs_tb_274)
          have ne_b269_tb_274 : b269 ≠ tb_274 := Nat.ne_of_lt (Nat.lt_of_lt_of_le Vch.lt gs_tb_274)
          have e274 : T274.heap = T274.heap := rfl
          show own_Ok p e below _ (T274.setTop (mkF m 158 #[.val (.int xl), .val (.int x0), .val (.int x1), .val (.int x2), .val (.int (3 : Int32)), .val (.int cz_101), .val (.int cz_102), .val (.int cz_103), .unset, .unset] [(.ref b268)]))
          refine s_astore X274 hx (hb hby at_158) rfl #[.val (.int xl), .val (.int x0), .val (.int x1), .val (.int x2), .val (.int (3 : Int32)), .val (.int cz_101), .val (.int cz_102), .val (.int cz_103), .val (.ref b268), .unset] rfl ?_
          refine s_iload X274 hx (hb hby at_160) rfl ?_
          have f292 := f290.keep K274 (allS gb_b268 all0)
          obtain ⟨_, T291, Lc291, X291, hQ291, st291⟩ := own_callS X274 hx hZ hown (own_hw hw 52 rfl) (own_hw hw 53 rfl) (own_hw hw 2 rfl) (own_hw hw 54 rfl) (rm_ok l Z a0 hw [] cz_101 T274.heap n0 f292) (by decide) e274 (Ls := #[.val (.int xl), .val (.int x0), .val (.int x1), .val (.int x2), .val (.int (3 : Int32)), .val (.int cz_101), .val (.int cz_102), .val (.int cz_103), .val (.ref b268), .unset]) [(.int cz_101)] [] rfl (by rw [hml]; rfl) (lenOf own_pd17 rfl) (hb hby at_162) (by decide) 0 rfl (by decide) (by decide) (by decide)
          obtain ⟨rfl, Nq291, e291⟩ := hQ291
          have N291 := Fr.app N274 Nq291
          refine st291 _ ?_
          show own_Ok p e below _ (T291.setTop (mkF m 165 #[.val (.int xl), .val (.int x0), .val (.int x1), .val (.int x2), .val (.int (3 : Int32)), .val (.int cz_101), .val (.int cz_102), .val (.int cz_103), .val (.ref b268), .unset] [(.int (own_ok cz_101))]))
          by_cases c165_293 : (own_ok cz_101) = (0 : Int32)
          · skip
            refine s_ifYes X291 hx 188 (hb hby at_165) (XT.i0_eq_t c165_293) (by decide) (by decide) ?_
            refine s_iconst X291 hx (0 : Int32) (hb hby at_188) rfl ?_
            refine s_istore X291 hx (hb hby at_189) #[.val (.int xl), .val (.int x0), .val (.int x1), .val (.int x2), .val (.int (3 : Int32)), .val (.int cz_101), .val (.int cz_102), .val (.int cz_103), .val (.ref b268), .val (.int (0 : Int32))] rfl ?_
            refine s_aload X291 hx (hb hby at_191) rfl rfl ?_
            obtain ⟨_, T294, Lc294, X294, hQ294, st294⟩ := own_callS X291 hx hZ hown (own_hw hw 27 rfl) (own_hw hw 28 rfl) (own_hw hw 29 rfl) (own_hw hw 30 rfl) (rm_isf3u0 l Z a0 hw [] G1 G3 cz_101 cz_102 cz_103 b268 tb_274 kb_274 T274.heap n0 f292 hst g274_0 g274_1 g274_2 g274_3 (⟨hl_101, hh_101⟩) (⟨hl_102, hh_102⟩) (⟨hl_103, hh_103⟩) b0) (by decide) e291 (Ls := #[.val (.int xl), .val (.int x0), .val (.int x1), .val (.int x2), .val (.int (3 : Int32)), .val (.int cz_101), .val (.int cz_102), .val (.int cz_103), .val (.ref b268), .val (.int (0 : Int32))]) [(.ref b268)] [] rfl (by rw [hml]; rfl) (lenOf own_pd16 rfl) (hb hby at_193) (by decide) 0 rfl (by decide) (by decide) (by decide)
            obtain ⟨rfl, Nq294, e294⟩ := hQ294
            have N294 := Fr.app N291 Nq294
            refine st294 _ ?_
            show own_Ok p e below _ (T294.setTop (mkF m 196 #[.val (.int xl), .val (.int x0), .val (.int x1), .val (.int x2), .val (.int (3 : Int32)), .val (.int cz_101), .val (.int cz_102), .val (.int cz_103), .val (.ref b268), .val (.int (0 : Int32))] [(.int (own_all ([cz_101, cz_102, cz_103] : List Int32)))]))
            refine s_iload X294 hx (hb hby at_196) rfl ?_
            refine s_icmpNo X294 hx (hb hby at_198) (XT.ii_ne_f (own_all_no c165_293)) ?_
            refine s_iconst X294 hx (1 : Int32) (hb hby at_201) rfl ?_
            refine s_goto X294 hx 206 (hb hby at_202) (by decide) (by decide) ?_
            have f295 := Nat.le_trans hk0 E268.1
            have f296 := Nat.le_trans f295 E269.1
            have f297 := Nat.le_trans f296 (Keep.of_wr W271).1
            have f298 := Nat.le_trans f297 (Keep.of_wr W272).1
            have f299 := Nat.le_trans f298 (Keep.of_wr W273).1
            have f300 := Nat.le_trans f299 K274.1
            exact own_retNW X294 hS (by rw [e294]; exact f300) hx hlk (t := .boolean) Bd.returns (by simp) (hb hby at_206) (by rw [e294]; exact ⟨rfl, N294⟩) (by decide) (by decide)
          · skip
            refine s_ifNo X291 hx (hb hby at_165) (XT.i0_eq_f c165_293) ?_
            refine s_iload X291 hx (hb hby at_168) rfl ?_
            obtain ⟨_, T301, Lc301, X301, hQ301, st301⟩ := own_callS X291 hx hZ hown (own_hw hw 52 rfl) (own_hw hw 53 rfl) (own_hw hw 2 rfl) (own_hw hw 54 rfl) (rm_ok l Z a0 hw [] cz_102 T274.heap n0 f292) (by decide) e291 (Ls := #[.val (.int xl), .val (.int x0), .val (.int x1), .val (.int x2), .val (.int (3 : Int32)), .val (.int cz_101), .val (.int cz_102), .val (.int cz_103), .val (.ref b268), .unset]) [(.int cz_102)] [] rfl (by rw [hml]; rfl) (lenOf own_pd17 rfl) (hb hby at_170) (by decide) 0 rfl (by decide) (by decide) (by decide)
            obtain ⟨rfl, Nq301, e301⟩ := hQ301
            have N301 := Fr.app N291 Nq301
            refine st301 _ ?_
            show own_Ok p e below _ (T301.setTop (mkF m 173 #[.val (.int xl), .val (.int x0), .val (.int x1), .val (.int x2), .val (.int (3 : Int32)), .val (.int cz_101), .val (.int cz_102), .val (.int cz_103), .val (.ref b268), .unset] [(.int (own_ok cz_102))]))
            by_cases c173_302 : (own_ok cz_102) = (0 : Int32)
            · skip
              refine s_ifYes X301 hx 188 (hb hby at_173) (XT.i0_eq_t c173_302) (by decide) (by decide) ?_
              refine s_iconst X301 hx (0 : Int32) (hb hby at_188) rfl ?_
              refine s_istore X301 hx (hb hby at_189) #[.val (.int xl), .val (.int x0), .val (.int x1), .val (.int x2), .val (.int (3 : Int32)), .val (.int cz_101), .val (.int cz_102), .val (.int cz_103), .val (.ref b268), .val (.int (0 : Int32))] rfl ?_
              refine s_aload X301 hx (hb hby at_191) rfl rfl ?_
              obtain ⟨_, T303, Lc303, X303, hQ303, st303⟩ := own_callS X301 hx hZ hown (own_hw hw 27 rfl) (own_hw hw 28 rfl) (own_hw hw 29 rfl) (own_hw hw 30 rfl) (rm_isf3u0 l Z a0 hw [] G1 G3 cz_101 cz_102 cz_103 b268 tb_274 kb_274 T274.heap n0 f292 hst g274_0 g274_1 g274_2 g274_3 (⟨hl_101, hh_101⟩) (⟨hl_102, hh_102⟩) (⟨hl_103, hh_103⟩) b0) (by decide) e301 (Ls := #[.val (.int xl), .val (.int x0), .val (.int x1), .val (.int x2), .val (.int (3 : Int32)), .val (.int cz_101), .val (.int cz_102), .val (.int cz_103), .val (.ref b268), .val (.int (0 : Int32))]) [(.ref b268)] [] rfl (by rw [hml]; rfl) (lenOf own_pd16 rfl) (hb hby at_193) (by decide) 0 rfl (by decide) (by decide) (by decide)
              obtain ⟨rfl, Nq303, e303⟩ := hQ303
              have N303 := Fr.app N301 Nq303
              refine st303 _ ?_
              show own_Ok p e below _ (T303.setTop (mkF m 196 #[.val (.int xl), .val (.int x0), .val (.int x1), .val (.int x2), .val (.int (3 : Int32)), .val (.int cz_101), .val (.int cz_102), .val (.int cz_103), .val (.ref b268), .val (.int (0 : Int32))] [(.int (own_all ([cz_101, cz_102, cz_103] : List Int32)))]))
              refine s_iload X303 hx (hb hby at_196) rfl ?_
              refine s_icmpNo X303 hx (hb hby at_198) (XT.ii_ne_f ((own_all_yes (own_ok_ne c165_293)).trans (own_all_no c173_302))) ?_
              refine s_iconst X303 hx (1 : Int32) (hb hby at_201) rfl ?_
              refine s_goto X303 hx 206 (hb hby at_202) (by decide) (by decide) ?_
              have f304 := Nat.le_trans hk0 E268.1
              have f305 := Nat.le_trans f304 E269.1
              have f306 := Nat.le_trans f305 (Keep.of_wr W271).1
              have f307 := Nat.le_trans f306 (Keep.of_wr W272).1
              have f308 := Nat.le_trans f307 (Keep.of_wr W273).1
              have f309 := Nat.le_trans f308 K274.1
              exact own_retNW X303 hS (by rw [e303]; exact f309) hx hlk (t := .boolean) Bd.returns (by simp) (hb hby at_206) (by rw [e303]; exact ⟨rfl, N303⟩) (by decide) (by decide)
            · skip
              refine s_ifNo X301 hx (hb hby at_173) (XT.i0_eq_f c173_302) ?_
              refine s_iload X301 hx (hb hby at_176) rfl ?_
              obtain ⟨_, T310, Lc310, X310, hQ310, st310⟩ := own_callS X301 hx hZ hown (own_hw hw 52 rfl) (own_hw hw 53 rfl) (own_hw hw 2 rfl) (own_hw hw 54 rfl) (rm_ok l Z a0 hw [] cz_103 T274.heap n0 f292) (by decide) e301 (Ls := #[.val (.int xl), .val (.int x0), .val (.int x1), .val (.int x2), .val (.int (3 : Int32)), .val (.int cz_101), .val (.int cz_102), .val (.int cz_103), .val (.ref b268), .unset]) [(.int cz_103)] [] rfl (by rw [hml]; rfl) (lenOf own_pd17 rfl) (hb hby at_178) (by decide) 0 rfl (by decide) (by decide) (by decide)
              obtain ⟨rfl, Nq310, e310⟩ := hQ310
              have N310 := Fr.app N301 Nq310
              refine st310 _ ?_
              show own_Ok p e below _ (T310.setTop (mkF m 181 #[.val (.int xl), .val (.int x0), .val (.int x1), .val (.int x2), .val (.int (3 : Int32)), .val (.int cz_101), .val (.int cz_102), .val (.int cz_103), .val (.ref b268), .unset] [(.int (own_ok cz_103))]))
              by_cases c181_311 : (own_ok cz_103) = (0 : Int32)
              · skip
                refine s_ifYes X310 hx 188 (hb hby at_181) (XT.i0_eq_t c181_311) (by decide) (by decide) ?_
                refine s_iconst X310 hx (0 : Int32) (hb hby at_188) rfl ?_
                refine s_istore X310 hx (hb hby at_189) #[.val (.int xl), .val (.int x0), .val (.int x1), .val (.int x2), .val (.int (3 : Int32)), .val (.int cz_101), .val (.int cz_102), .val (.int cz_103), .val (.ref b268), .val (.int (0 : Int32))] rfl ?_
                refine s_aload X310 hx (hb hby at_191) rfl rfl ?_
                obtain ⟨_, T312, Lc312, X312, hQ312, st312⟩ := own_callS X310 hx hZ hown (own_hw hw 27 rfl) (own_hw hw 28 rfl) (own_hw hw 29 rfl) (own_hw hw 30 rfl) (rm_isf3u0 l Z a0 hw [] G1 G3 cz_101 cz_102 cz_103 b268 tb_274 kb_274 T274.heap n0 f292 hst g274_0 g274_1 g274_2 g274_3 (⟨hl_101, hh_101⟩) (⟨hl_102, hh_102⟩) (⟨hl_103, hh_103⟩) b0) (by decide) e310 (Ls := #[.val (.int xl), .val (.int x0), .val (.int x1), .val (.int x2), .val (.int (3 : Int32)), .val (.int cz_101), .val (.int cz_102), .val (.int cz_103), .val (.ref b268), .val (.int (0 : Int32))]) [(.ref b268)] [] rfl (by rw [hml]; rfl) (lenOf own_pd16 rfl) (hb hby at_193) (by decide) 0 rfl (by decide) (by decide) (by decide)
                obtain ⟨rfl, Nq312, e312⟩ := hQ312
                have N312 := Fr.app N310 Nq312
                refine st312 _ ?_
                show own_Ok p e below _ (T312.setTop (mkF m 196 #[.val (.int xl), .val (.int x0), .val (.int x1), .val (.int x2), .val (.int (3 : Int32)), .val (.int cz_101), .val (.int cz_102), .val (.int cz_103), .val (.ref b268), .val (.int (0 : Int32))] [(.int (own_all ([cz_101, cz_102, cz_103] : List Int32)))]))
                refine s_iload X312 hx (hb hby at_196) rfl ?_
                refine s_icmpNo X312 hx (hb hby at_198) (XT.ii_ne_f ((own_all_yes (own_ok_ne c165_293)).trans ((own_all_yes (own_ok_ne c173_302)).trans (own_all_no c181_311)))) ?_
                refine s_iconst X312 hx (1 : Int32) (hb hby at_201) rfl ?_
                refine s_goto X312 hx 206 (hb hby at_202) (by decide) (by decide) ?_
                have f313 := Nat.le_trans hk0 E268.1
                have f314 := Nat.le_trans f313 E269.1
                have f315 := Nat.le_trans f314 (Keep.of_wr W271).1
                have f316 := Nat.le_trans f315 (Keep.of_wr W272).1
                have f317 := Nat.le_trans f316 (Keep.of_wr W273).1
                have f318 := Nat.le_trans f317 K274.1
                exact own_retNW X312 hS (by rw [e312]; exact f318) hx hlk (t := .boolean) Bd.returns (by simp) (hb hby at_206) (by rw [e312]; exact ⟨rfl, N312⟩) (by decide) (by decide)
              · skip
                refine s_ifNo X310 hx (hb hby at_181) (XT.i0_eq_f c181_311) ?_
                refine s_iconst X310 hx (1 : Int32) (hb hby at_184) rfl ?_
                refine s_goto X310 hx 189 (hb hby at_185) (by decide) (by decide) ?_
                refine s_istore X310 hx (hb hby at_189) #[.val (.int xl), .val (.int x0), .val (.int x1), .val (.int x2), .val (.int (3 : Int32)), .val (.int cz_101), .val (.int cz_102), .val (.int cz_103), .val (.ref b268), .val (.int (1 : Int32))] rfl ?_
                refine s_aload X310 hx (hb hby at_191) rfl rfl ?_
                obtain ⟨_, T319, Lc319, X319, hQ319, st319⟩ := own_callS X310 hx hZ hown (own_hw hw 27 rfl) (own_hw hw 28 rfl) (own_hw hw 29 rfl) (own_hw hw 30 rfl) (rm_isf3u0 l Z a0 hw [] G1 G3 cz_101 cz_102 cz_103 b268 tb_274 kb_274 T274.heap n0 f292 hst g274_0 g274_1 g274_2 g274_3 (⟨hl_101, hh_101⟩) (⟨hl_102, hh_102⟩) (⟨hl_103, hh_103⟩) b0) (by decide) e310 (Ls := #[.val (.int xl), .val (.int x0), .val (.int x1), .val (.int x2), .val (.int (3 : Int32)), .val (.int cz_101), .val (.int cz_102), .val (.int cz_103), .val (.ref b268), .val (.int (1 : Int32))]) [(.ref b268)] [] rfl (by rw [hml]; rfl) (lenOf own_pd16 rfl) (hb hby at_193) (by decide) 0 rfl (by decide) (by decide) (by decide)
                obtain ⟨rfl, Nq319, e319⟩ := hQ319
                have N319 := Fr.app N310 Nq319
                refine st319 _ ?_
                show own_Ok p e below _ (T319.setTop (mkF m 196 #[.val (.int xl), .val (.int x0), .val (.int x1), .val (.int x2), .val (.int (3 : Int32)), .val (.int cz_101), .val (.int cz_102), .val (.int cz_103), .val (.ref b268), .val (.int (1 : Int32))] [(.int (own_all ([cz_101, cz_102, cz_103] : List Int32)))]))
                refine s_iload X319 hx (hb hby at_196) rfl ?_
                refine s_icmpNo X319 hx (hb hby at_198) (XT.ii_ne_f ((own_all_yes (own_ok_ne c165_293)).trans ((own_all_yes (own_ok_ne c173_302)).trans ((own_all_yes (own_ok_ne c181_311)).trans (own_all_nil))))) ?_
                refine s_iconst X319 hx (1 : Int32) (hb hby at_201) rfl ?_
                refine s_goto X319 hx 206 (hb hby at_202) (by decide) (by decide) ?_
                have f320 := Nat.le_trans hk0 E268.1
                have f321 := Nat.le_trans f320 E269.1
                have f322 := Nat.le_trans f321 (Keep.of_wr W271).1
                have f323 := Nat.le_trans f322 (Keep.of_wr W272).1
                have f324 := Nat.le_trans f323 (Keep.of_wr W273).1
                have f325 := Nat.le_trans f324 K274.1
                exact own_retNW X319 hS (by rw [e319]; exact f325) hx hlk (t := .boolean) Bd.returns (by simp) (hb hby at_206) (by rw [e319]; exact ⟨rfl, N319⟩) (by decide) (by decide)
        · skip
          by_cases b1 : (255 : Int32) < cz_102
          · skip
            show own_Ok p e below _ (T273.setTop (mkF m 155 #[.val (.int xl), .val (.int x0), .val (.int x1), .val (.int x2), .val (.int (3 : Int32)), .val (.int cz_101), .val (.int cz_102), .val (.int cz_103), .unset, .unset] [(.ref b269), (.ref b268), (.ref b268)]))
            have f327 := A268.ext E269
            have f328 := f327.wr W271
            have f329 := f328.wr W272
            have f330 := f329.wr W273
            have f331 := F268_coder.ext E269
            have f332 := f331.other W271 (Or.inl ne_b268_b269)
            have f333 := f332.other W272 (Or.inl ne_b268_b269)
            have f334 := f333.other W273 (Or.inl ne_b268_b269)
            have f335 := F268_value.ext E269
            have f336 := f335.other W271 (Or.inl ne_b268_b269)
            have f337 := f336.other W272 (Or.inl ne_b268_b269)
            have f338 := f337.other W273 (Or.inl ne_b268_b269)
            have f339 := f270.ext E269
            have f340 := f339.wr W271 gb_b269
            have f341 := f340.wr W272 gb_b269
            have f342 := f341.wr W273 gb_b269
            obtain ⟨_, T326, Lc326, X326, hQ326, st326⟩ := own_callN X273 hx hZ hown (own_hw hw 9 rfl) (own_hw hw 10 rfl) (own_hw hw 7 rfl) (own_hw hw 11 rfl) (rm_ini1_31 l Z a0 hw [] G1 G3 cz_101 cz_102 cz_103 b268 b269 k269 h273 n0 f342 hst (⟨hl_101, hh_101⟩) (⟨hl_102, hh_102⟩) (⟨hl_103, hh_103⟩) b0 b1 f330 f334 f338 gb_b268 Vch) rfl (by decide) e273 (Ls := #[.val (.int xl), .val (.int x0), .val (.int x1), .val (.int x2), .val (.int (3 : Int32)), .val (.int cz_101), .val (.int cz_102), .val (.int cz_103), .unset, .unset]) b268 [(.ref b269)] [(.ref b268)] rfl (by rw [hml]; rfl) (lenOf own_pd15 rfl) (hb hby at_155) (by decide) 1 rfl (by decide) (by decide) (by decide)
            obtain ⟨tb_326, kb_326, rfl, Nq326, K326, g326_0, g326_1, g326_2, g326_3, gs_tb_326⟩ := hQ326
            have N326 := Fr.app N273 Nq326
            refine st326 _ ?_
            have gb_tb_326 : n0 ≤ tb_326 := Nat.le_trans (own_n0 f342) gs_tb_326
            have ne_b268_tb_326 : b268 ≠ tb_326 := Nat.ne_of_lt (Nat.lt_of_lt_of_le f330.lt gs_tb_326)
            have ne_b269_tb_326 : b269 ≠ tb_326 := Nat.ne_of_lt (Nat.lt_of_lt_of_le Vch.lt gs_tb_326)
            have e326 : T326.heap = T326.heap := rfl
            show own_Ok p e below _ (T326.setTop (mkF m 158 #[.val (.int xl), .val (.int x0), .val (.int x1), .val (.int x2), .val (.int (3 : Int32)), .val (.int cz_101), .val (.int cz_102), .val (.int cz_103), .unset, .unset] [(.ref b268)]))
            refine s_astore X326 hx (hb hby at_158) rfl #[.val (.int xl), .val (.int x0), .val (.int x1), .val (.int x2), .val (.int (3 : Int32)), .val (.int cz_101), .val (.int cz_102), .val (.int cz_103), .val (.ref b268), .unset] rfl ?_
            refine s_iload X326 hx (hb hby at_160) rfl ?_
            have f344 := f342.keep K326 (allS gb_b268 all0)
            obtain ⟨_, T343, Lc343, X343, hQ343, st343⟩ := own_callS X326 hx hZ hown (own_hw hw 52 rfl) (own_hw hw 53 rfl) (own_hw hw 2 rfl) (own_hw hw 54 rfl) (rm_ok l Z a0 hw [] cz_101 T326.heap n0 f344) (by decide) e326 (Ls := #[.val (.int xl), .val (.int x0), .val (.int x1), .val (.int x2), .val (.int (3 : Int32)), .val (.int cz_101), .val (.int cz_102), .val (.int cz_103), .val (.ref b268), .unset]) [(.int cz_101)] [] rfl (by rw [hml]; rfl) (lenOf own_pd17 rfl) (hb hby at_162) (by decide) 0 rfl (by decide) (by decide) (by decide)
            obtain ⟨rfl, Nq343, e343⟩ := hQ343
            have N343 := Fr.app N326 Nq343
            refine st343 _ ?_
            show own_Ok p e below _ (T343.setTop (mkF m 165 #[.val (.int xl), .val (.int x0), .val (.int x1), .val (.int x2), .val (.int (3 : Int32)), .val (.int cz_101), .val (.int cz_102), .val (.int cz_103), .val (.ref b268), .unset] [(.int (own_ok cz_101))]))
            by_cases c165_345 : (own_ok cz_101) = (0 : Int32)
            · skip
              refine s_ifYes X343 hx 188 (hb hby at_165) (XT.i0_eq_t c165_345) (by decide) (by decide) ?_
              refine s_iconst X343 hx (0 : Int32) (hb hby at_188) rfl ?_
              refine s_istore X343 hx (hb hby at_189) #[.val (.int xl), .val (.int x0), .val (.int x1), .val (.int x2), .val (.int (3 : Int32)), .val (.int cz_101), .val (.int cz_102), .val (.int cz_103), .val (.ref b268), .val (.int (0 : Int32))] rfl ?_
              refine s_aload X343 hx (hb hby at_191) rfl rfl ?_
              obtain ⟨_, T346, Lc346, X346, hQ346, st346⟩ := own_callS X343 hx hZ hown (own_hw hw 27 rfl) (own_hw hw 28 rfl) (own_hw hw 29 rfl) (own_hw hw 30 rfl) (rm_isf3u1 l Z a0 hw [] G1 G3 cz_101 cz_102 cz_103 b268 tb_326 kb_326 T326.heap n0 f344 hst g326_0 g326_1 g326_2 g326_3 (⟨hl_101, hh_101⟩) (⟨hl_102, hh_102⟩) (⟨hl_103, hh_103⟩) b0 b1) (by decide) e343 (Ls := #[.val (.int xl), .val (.int x0), .val (.int x1), .val (.int x2), .val (.int (3 : Int32)), .val (.int cz_101), .val (.int cz_102), .val (.int cz_103), .val (.ref b268), .val (.int (0 : Int32))]) [(.ref b268)] [] rfl (by rw [hml]; rfl) (lenOf own_pd16 rfl) (hb hby at_193) (by decide) 0 rfl (by decide) (by decide) (by decide)
              obtain ⟨rfl, Nq346, e346⟩ := hQ346
              have N346 := Fr.app N343 Nq346
              refine st346 _ ?_
              show own_Ok p e below _ (T346.setTop (mkF m 196 #[.val (.int xl), .val (.int x0), .val (.int x1), .val (.int x2), .val (.int (3 : Int32)), .val (.int cz_101), .val (.int cz_102), .val (.int cz_103), .val (.ref b268), .val (.int (0 : Int32))] [(.int (own_all ([cz_101, cz_102, cz_103] : List Int32)))]))
              refine s_iload X346 hx (hb hby at_196) rfl ?_
              refine s_icmpNo X346 hx (hb hby at_198) (XT.ii_ne_f (own_all_no c165_345)) ?_
              refine s_iconst X346 hx (1 : Int32) (hb hby at_201) rfl ?_
              refine s_goto X346 hx 206 (hb hby at_202) (by decide) (by decide) ?_
              have f347 := Nat.le_trans hk0 E268.1
              have f348 := Nat.le_trans f347 E269.1
              have f349 := Nat.le_trans f348 (Keep.of_wr W271).1
              have f350 := Nat.le_trans f349 (Keep.of_wr W272).1
              have f351 := Nat.le_trans f350 (Keep.of_wr W273).1
              have f352 := Nat.le_trans f351 K326.1
              exact own_retNW X346 hS (by rw [e346]; exact f352) hx hlk (t := .boolean) Bd.returns (by simp) (hb hby at_206) (by rw [e346]; exact ⟨rfl, N346⟩) (by decide) (by decide)
            · skip
              refine s_ifNo X343 hx (hb hby at_165) (XT.i0_eq_f c165_345) ?_
              refine s_iload X343 hx (hb hby at_168) rfl ?_
              obtain ⟨_, T353, Lc353, X353, hQ353, st353⟩ := own_callS X343 hx hZ hown (own_hw hw 52 rfl) (own_hw hw 53 rfl) (own_hw hw 2 rfl) (own_hw hw 54 rfl) (rm_ok l Z a0 hw [] cz_102 T326.heap n0 f344) (by decide) e343 (Ls := #[.val (.int xl), .val (.int x0), .val (.int x1), .val (.int x2), .val (.int (3 : Int32)), .val (.int cz_101), .val (.int cz_102), .val (.int cz_103), .val (.ref b268), .unset]) [(.int cz_102)] [] rfl (by rw [hml]; rfl) (lenOf own_pd17 rfl) (hb hby at_170) (by decide) 0 rfl (by decide) (by decide) (by decide)
              obtain ⟨rfl, Nq353, e353⟩ := hQ353
              have N353 := Fr.app N343 Nq353
              refine st353 _ ?_
              show own_Ok p e below _ (T353.setTop (mkF m 173 #[.val (.int xl), .val (.int x0), .val (.int x1), .val (.int x2), .val (.int (3 : Int32)), .val (.int cz_101), .val (.int cz_102), .val (.int cz_103), .val (.ref b268), .unset] [(.int (own_ok cz_102))]))
              by_cases c173_354 : (own_ok cz_102) = (0 : Int32)
              · skip
                refine s_ifYes X353 hx 188 (hb hby at_173) (XT.i0_eq_t c173_354) (by decide) (by decide) ?_
                refine s_iconst X353 hx (0 : Int32) (hb hby at_188) rfl ?_
                refine s_istore X353 hx (hb hby at_189) #[.val (.int xl), .val (.int x0), .val (.int x1), .val (.int x2), .val (.int (3 : Int32)), .val (.int cz_101), .val (.int cz_102), .val (.int cz_103), .val (.ref b268), .val (.int (0 : Int32))] rfl ?_
                refine s_aload X353 hx (hb hby at_191) rfl rfl ?_
                obtain ⟨_, T355, Lc355, X355, hQ355, st355⟩ := own_callS X353 hx hZ hown (own_hw hw 27 rfl) (own_hw hw 28 rfl) (own_hw hw 29 rfl) (own_hw hw 30 rfl) (rm_isf3u1 l Z a0 hw [] G1 G3 cz_101 cz_102 cz_103 b268 tb_326 kb_326 T326.heap n0 f344 hst g326_0 g326_1 g326_2 g326_3 (⟨hl_101, hh_101⟩) (⟨hl_102, hh_102⟩) (⟨hl_103, hh_103⟩) b0 b1) (by decide) e353 (Ls := #[.val (.int xl), .val (.int x0), .val (.int x1), .val (.int x2), .val (.int (3 : Int32)), .val (.int cz_101), .val (.int cz_102), .val (.int cz_103), .val (.ref b268), .val (.int (0 : Int32))]) [(.ref b268)] [] rfl (by rw [hml]; rfl) (lenOf own_pd16 rfl) (hb hby at_193) (by decide) 0 rfl (by decide) (by decide) (by decide)
                obtain ⟨rfl, Nq355, e355⟩ := hQ355
                have N355 := Fr.app N353 Nq355
                refine st355 _ ?_
                show own_Ok p e below _ (T355.setTop (mkF m 196 #[.val (.int xl), .val (.int x0), .val (.int x1), .val (.int x2), .val (.int (3 : Int32)), .val (.int cz_101), .val (.int cz_102), .val (.int cz_103), .val (.ref b268), .val (.int (0 : Int32))] [(.int (own_all ([cz_101, cz_102, cz_103] : List Int32)))]))
                refine s_iload X355 hx (hb hby at_196) rfl ?_
                refine s_icmpNo X355 hx (hb hby at_198) (XT.ii_ne_f ((own_all_yes (own_ok_ne c165_345)).trans (own_all_no c173_354))) ?_
                refine s_iconst X355 hx (1 : Int32) (hb hby at_201) rfl ?_
                refine s_goto X355 hx 206 (hb hby at_202) (by decide) (by decide) ?_
                have f356 := Nat.le_trans hk0 E268.1
                have f357 := Nat.le_trans f356 E269.1
                have f358 := Nat.le_trans f357 (Keep.of_wr W271).1
                have f359 := Nat.le_trans f358 (Keep.of_wr W272).1
                have f360 := Nat.le_trans f359 (Keep.of_wr W273).1
                have f361 := Nat.le_trans f360 K326.1
                exact own_retNW X355 hS (by rw [e355]; exact f361) hx hlk (t := .boolean) Bd.returns (by simp) (hb hby at_206) (by rw [e355]; exact ⟨rfl, N355⟩) (by decide) (by decide)
              · skip
                refine s_ifNo X353 hx (hb hby at_173) (XT.i0_eq_f c173_354) ?_
                refine s_iload X353 hx (hb hby at_176) rfl ?_
                obtain ⟨_, T362, Lc362, X362, hQ362, st362⟩ := own_callS X353 hx hZ hown (own_hw hw 52 rfl) (own_hw hw 53 rfl) (own_hw hw 2 rfl) (own_hw hw 54 rfl) (rm_ok l Z a0 hw [] cz_103 T326.heap n0 f344) (by decide) e353 (Ls := #[.val (.int xl), .val (.int x0), .val (.int x1), .val (.int x2), .val (.int (3 : Int32)), .val (.int cz_101), .val (.int cz_102), .val (.int cz_103), .val (.ref b268), .unset]) [(.int cz_103)] [] rfl (by rw [hml]; rfl) (lenOf own_pd17 rfl) (hb hby at_178) (by decide) 0 rfl (by decide) (by decide) (by decide)
                obtain ⟨rfl, Nq362, e362⟩ := hQ362
                have N362 := Fr.app N353 Nq362
                refine st362 _ ?_
                show own_Ok p e below _ (T362.setTop (mkF m 181 #[.val (.int xl), .val (.int x0), .val (.int x1), .val (.int x2), .val (.int (3 : Int32)), .val (.int cz_101), .val (.int cz_102), .val (.int cz_103), .val (.ref b268), .unset] [(.int (own_ok cz_103))]))
                by_cases c181_363 : (own_ok cz_103) = (0 : Int32)
                · skip
                  refine s_ifYes X362 hx 188 (hb hby at_181) (XT.i0_eq_t c181_363) (by decide) (by decide) ?_
                  refine s_iconst X362 hx (0 : Int32) (hb hby at_188) rfl ?_
                  refine s_istore X362 hx (hb hby at_189) #[.val (.int xl), .val (.int x0), .val (.int x1), .val (.int x2), .val (.int (3 : Int32)), .val (.int cz_101), .val (.int cz_102), .val (.int cz_103), .val (.ref b268), .val (.int (0 : Int32))] rfl ?_
                  refine s_aload X362 hx (hb hby at_191) rfl rfl ?_
                  obtain ⟨_, T364, Lc364, X364, hQ364, st364⟩ := own_callS X362 hx hZ hown (own_hw hw 27 rfl) (own_hw hw 28 rfl) (own_hw hw 29 rfl) (own_hw hw 30 rfl) (rm_isf3u1 l Z a0 hw [] G1 G3 cz_101 cz_102 cz_103 b268 tb_326 kb_326 T326.heap n0 f344 hst g326_0 g326_1 g326_2 g326_3 (⟨hl_101, hh_101⟩) (⟨hl_102, hh_102⟩) (⟨hl_103, hh_103⟩) b0 b1) (by decide) e362 (Ls := #[.val (.int xl), .val (.int x0), .val (.int x1), .val (.int x2), .val (.int (3 : Int32)), .val (.int cz_101), .val (.int cz_102), .val (.int cz_103), .val (.ref b268), .val (.int (0 : Int32))]) [(.ref b268)] [] rfl (by rw [hml]; rfl) (lenOf own_pd16 rfl) (hb hby at_193) (by decide) 0 rfl (by decide) (by decide) (by decide)
                  obtain ⟨rfl, Nq364, e364⟩ := hQ364
                  have N364 := Fr.app N362 Nq364
                  refine st364 _ ?_
                  show own_Ok p e below _ (T364.setTop (mkF m 196 #[.val (.int xl), .val (.int x0), .val (.int x1), .val (.int x2), .val (.int (3 : Int32)), .val (.int cz_101), .val (.int cz_102), .val (.int cz_103), .val (.ref b268), .val (.int (0 : Int32))] [(.int (own_all ([cz_101, cz_102, cz_103] : List Int32)))]))
                  refine s_iload X364 hx (hb hby at_196) rfl ?_
                  refine s_icmpNo X364 hx (hb hby at_198) (XT.ii_ne_f ((own_all_yes (own_ok_ne c165_345)).trans ((own_all_yes (own_ok_ne c173_354)).trans (own_all_no c181_363)))) ?_
                  refine s_iconst X364 hx (1 : Int32) (hb hby at_201) rfl ?_
                  refine s_goto X364 hx 206 (hb hby at_202) (by decide) (by decide) ?_
                  have f365 := Nat.le_trans hk0 E268.1
                  have f366 := Nat.le_trans f365 E269.1
                  have f367 := Nat.le_trans f366 (Keep.of_wr W271).1
                  have f368 := Nat.le_trans f367 (Keep.of_wr W272).1
                  have f369 := Nat.le_trans f368 (Keep.of_wr W273).1
                  have f370 := Nat.le_trans f369 K326.1
                  exact own_retNW X364 hS (by rw [e364]; exact f370) hx hlk (t := .boolean) Bd.returns (by simp) (hb hby at_206) (by rw [e364]; exact ⟨rfl, N364⟩) (by decide) (by decide)
                · skip
                  refine s_ifNo X362 hx (hb hby at_181) (XT.i0_eq_f c181_363) ?_
                  refine s_iconst X362 hx (1 : Int32) (hb hby at_184) rfl ?_
                  refine s_goto X362 hx 189 (hb hby at_185) (by decide) (by decide) ?_
                  refine s_istore X362 hx (hb hby at_189) #[.val (.int xl), .val (.int x0), .val (.int x1), .val (.int x2), .val (.int (3 : Int32)), .val (.int cz_101), .val (.int cz_102), .val (.int cz_103), .val (.ref b268), .val (.int (1 : Int32))] rfl ?_
                  refine s_aload X362 hx (hb hby at_191) rfl rfl ?_
                  obtain ⟨_, T371, Lc371, X371, hQ371, st371⟩ := own_callS X362 hx hZ hown (own_hw hw 27 rfl) (own_hw hw 28 rfl) (own_hw hw 29 rfl) (own_hw hw 30 rfl) (rm_isf3u1 l Z a0 hw [] G1 G3 cz_101 cz_102 cz_103 b268 tb_326 kb_326 T326.heap n0 f344 hst g326_0 g326_1 g326_2 g326_3 (⟨hl_101, hh_101⟩) (⟨hl_102, hh_102⟩) (⟨hl_103, hh_103⟩) b0 b1) (by decide) e362 (Ls := #[.val (.int xl), .val (.int x0), .val (.int x1), .val (.int x2), .val (.int (3 : Int32)), .val (.int cz_101), .val (.int cz_102), .val (.int cz_103), .val (.ref b268), .val (.int (1 : Int32))]) [(.ref b268)] [] rfl (by rw [hml]; rfl) (lenOf own_pd16 rfl) (hb hby at_193) (by decide) 0 rfl (by decide) (by decide) (by decide)
                  obtain ⟨rfl, Nq371, e371⟩ := hQ371
                  have N371 := Fr.app N362 Nq371
                  refine st371 _ ?_
                  show own_Ok p e below _ (T371.setTop (mkF m 196 #[.val (.int xl), .val (.int x0), .val (.int x1), .val (.int x2), .val (.int (3 : Int32)), .val (.int cz_101), .val (.int cz_102), .val (.int cz_103), .val (.ref b268), .val (.int (1 : Int32))] [(.int (own_all ([cz_101, cz_102, cz_103] : List Int32)))]))
                  refine s_iload X371 hx (hb hby at_196) rfl ?_
                  refine s_icmpNo X371 hx (hb hby at_198) (XT.ii_ne_f ((own_all_yes (own_ok_ne c165_345)).trans ((own_all_yes (own_ok_ne c173_354)).trans ((own_all_yes (own_ok_ne c181_363)).trans (own_all_nil))))) ?_
                  refine s_iconst X371 hx (1 : Int32) (hb hby at_201) rfl ?_
                  refine s_goto X371 hx 206 (hb hby at_202) (by decide) (by decide) ?_
                  have f372 := Nat.le_trans hk0 E268.1
                  have f373 := Nat.le_trans f372 E269.1
                  have f374 := Nat.le_trans f373 (Keep.of_wr W271).1
                  have f375 := Nat.le_trans f374 (Keep.of_wr W272).1
                  have f376 := Nat.le_trans f375 (Keep.of_wr W273).1
                  have f377 := Nat.le_trans f376 K326.1
                  exact own_retNW X371 hS (by rw [e371]; exact f377) hx hlk (t := .boolean) Bd.returns (by simp) (hb hby at_206) (by rw [e371]; exact ⟨rfl, N371⟩) (by decide) (by decide)
          · skip
            by_cases b2 : (255 : Int32) < cz_103
            · skip
              show own_Ok p e below _ (T273.setTop (mkF m 155 #[.val (.int xl), .val (.int x0), .val (.int x1), .val (.int x2), .val (.int (3 : Int32)), .val (.int cz_101), .val (.int cz_102), .val (.int cz_103), .unset, .unset] [(.ref b269), (.ref b268), (.ref b268)]))
              have f379 := A268.ext E269
              have f380 := f379.wr W271
              have f381 := f380.wr W272
              have f382 := f381.wr W273
              have f383 := F268_coder.ext E269
              have f384 := f383.other W271 (Or.inl ne_b268_b269)
              have f385 := f384.other W272 (Or.inl ne_b268_b269)
              have f386 := f385.other W273 (Or.inl ne_b268_b269)
              have f387 := F268_value.ext E269
              have f388 := f387.other W271 (Or.inl ne_b268_b269)
              have f389 := f388.other W272 (Or.inl ne_b268_b269)
              have f390 := f389.other W273 (Or.inl ne_b268_b269)
              have f391 := f270.ext E269
              have f392 := f391.wr W271 gb_b269
              have f393 := f392.wr W272 gb_b269
              have f394 := f393.wr W273 gb_b269
              obtain ⟨_, T378, Lc378, X378, hQ378, st378⟩ := own_callN X273 hx hZ hown (own_hw hw 9 rfl) (own_hw hw 10 rfl) (own_hw hw 7 rfl) (own_hw hw 11 rfl) (rm_ini1_32 l Z a0 hw [] G1 G3 cz_101 cz_102 cz_103 b268 b269 k269 h273 n0 f394 hst (⟨hl_101, hh_101⟩) (⟨hl_102, hh_102⟩) (⟨hl_103, hh_103⟩) b0 b1 b2 f382 f386 f390 gb_b268 Vch) rfl (by decide) e273 (Ls := #[.val (.int xl), .val (.int x0), .val (.int x1), .val (.int x2), .val (.int (3 : Int32)), .val (.int cz_101), .val (.int cz_102), .val (.int cz_103), .unset, .unset]) b268 [(.ref b269)] [(.ref b268)] rfl (by rw [hml]; rfl) (lenOf own_pd15 rfl) (hb hby at_155) (by decide) 1 rfl (by decide) (by decide) (by decide)
              obtain ⟨tb_378, kb_378, rfl, Nq378, K378, g378_0, g378_1, g378_2, g378_3, gs_tb_378⟩ := hQ378
              have N378 := Fr.app N273 Nq378
              refine st378 _ ?_
              have gb_tb_378 : n0 ≤ tb_378 := Nat.le_trans (own_n0 f394) gs_tb_378
              have ne_b268_tb_378 : b268 ≠ tb_378 := Nat.ne_of_lt (Nat.lt_of_lt_of_le f382.lt gs_tb_378)
              have ne_b269_tb_378 : b269 ≠ tb_378 := Nat.ne_of_lt (Nat.lt_of_lt_of_le Vch.lt gs_tb_378)
              have e378 : T378.heap = T378.heap := rfl
              show own_Ok p e below _ (T378.setTop (mkF m 158 #[.val (.int xl), .val (.int x0), .val (.int x1), .val (.int x2), .val (.int (3 : Int32)), .val (.int cz_101), .val (.int cz_102), .val (.int cz_103), .unset, .unset] [(.ref b268)]))
              refine s_astore X378 hx (hb hby at_158) rfl #[.val (.int xl), .val (.int x0), .val (.int x1), .val (.int x2), .val (.int (3 : Int32)), .val (.int cz_101), .val (.int cz_102), .val (.int cz_103), .val (.ref b268), .unset] rfl ?_
              refine s_iload X378 hx (hb hby at_160) rfl ?_
              have f396 := f394.keep K378 (allS gb_b268 all0)
              obtain ⟨_, T395, Lc395, X395, hQ395, st395⟩ := own_callS X378 hx hZ hown (own_hw hw 52 rfl) (own_hw hw 53 rfl) (own_hw hw 2 rfl) (own_hw hw 54 rfl) (rm_ok l Z a0 hw [] cz_101 T378.heap n0 f396) (by decide) e378 (Ls := #[.val (.int xl), .val (.int x0), .val (.int x1), .val (.int x2), .val (.int (3 : Int32)), .val (.int cz_101), .val (.int cz_102), .val (.int cz_103), .val (.ref b268), .unset]) [(.int cz_101)] [] rfl (by rw [hml]; rfl) (lenOf own_pd17 rfl) (hb hby at_162) (by decide) 0 rfl (by decide) (by decide) (by decide)
              obtain ⟨rfl, Nq395, e395⟩ := hQ395
              have N395 := Fr.app N378 Nq395
              refine st395 _ ?_
              show own_Ok p e below _ (T395.setTop (mkF m 165 #[.val (.int xl), .val (.int x0), .val (.int x1), .val (.int x2), .val (.int (3 : Int32)), .val (.int cz_101), .val (.int cz_102), .val (.int cz_103), .val (.ref b268), .unset] [(.int (own_ok cz_101))]))
              by_cases c165_397 : (own_ok cz_101) = (0 : Int32)
              · skip
                refine s_ifYes X395 hx 188 (hb hby at_165) (XT.i0_eq_t c165_397) (by decide) (by decide) ?_
                refine s_iconst X395 hx (0 : Int32) (hb hby at_188) rfl ?_
                refine s_istore X395 hx (hb hby at_189) #[.val (.int xl), .val (.int x0), .val (.int x1), .val (.int x2), .val (.int (3 : Int32)), .val (.int cz_101), .val (.int cz_102), .val (.int cz_103), .val (.ref b268), .val (.int (0 : Int32))] rfl ?_
                refine s_aload X395 hx (hb hby at_191) rfl rfl ?_
                obtain ⟨_, T398, Lc398, X398, hQ398, st398⟩ := own_callS X395 hx hZ hown (own_hw hw 27 rfl) (own_hw hw 28 rfl) (own_hw hw 29 rfl) (own_hw hw 30 rfl) (rm_isf3u2 l Z a0 hw [] G1 G3 cz_101 cz_102 cz_103 b268 tb_378 kb_378 T378.heap n0 f396 hst g378_0 g378_1 g378_2 g378_3 (⟨hl_101, hh_101⟩) (⟨hl_102, hh_102⟩) (⟨hl_103, hh_103⟩) b0 b1 b2) (by decide) e395 (Ls := #[.val (.int xl), .val (.int x0), .val (.int x1), .val (.int x2), .val (.int (3 : Int32)), .val (.int cz_101), .val (.int cz_102), .val (.int cz_103), .val (.ref b268), .val (.int (0 : Int32))]) [(.ref b268)] [] rfl (by rw [hml]; rfl) (lenOf own_pd16 rfl) (hb hby at_193) (by decide) 0 rfl (by decide) (by decide) (by decide)
                obtain ⟨rfl, Nq398, e398⟩ := hQ398
                have N398 := Fr.app N395 Nq398
                refine st398 _ ?_
                show own_Ok p e below _ (T398.setTop (mkF m 196 #[.val (.int xl), .val (.int x0), .val (.int x1), .val (.int x2), .val (.int (3 : Int32)), .val (.int cz_101), .val (.int cz_102), .val (.int cz_103), .val (.ref b268), .val (.int (0 : Int32))] [(.int (own_all ([cz_101, cz_102, cz_103] : List Int32)))]))
                refine s_iload X398 hx (hb hby at_196) rfl ?_
                refine s_icmpNo X398 hx (hb hby at_198) (XT.ii_ne_f (own_all_no c165_397)) ?_
                refine s_iconst X398 hx (1 : Int32) (hb hby at_201) rfl ?_
                refine s_goto X398 hx 206 (hb hby at_202) (by decide) (by decide) ?_
                have f399 := Nat.le_trans hk0 E268.1
                have f400 := Nat.le_trans f399 E269.1
                have f401 := Nat.le_trans f400 (Keep.of_wr W271).1
                have f402 := Nat.le_trans f401 (Keep.of_wr W272).1
                have f403 := Nat.le_trans f402 (Keep.of_wr W273).1
                have f404 := Nat.le_trans f403 K378.1
                exact own_retNW X398 hS (by rw [e398]; exact f404) hx hlk (t := .boolean) Bd.returns (by simp) (hb hby at_206) (by rw [e398]; exact ⟨rfl, N398⟩) (by decide) (by decide)
              · skip
                refine s_ifNo X395 hx (hb hby at_165) (XT.i0_eq_f c165_397) ?_
                refine s_iload X395 hx (hb hby at_168) rfl ?_
                obtain ⟨_, T405, Lc405, X405, hQ405, st405⟩ := own_callS X395 hx hZ hown (own_hw hw 52 rfl) (own_hw hw 53 rfl) (own_hw hw 2 rfl) (own_hw hw 54 rfl) (rm_ok l Z a0 hw [] cz_102 T378.heap n0 f396) (by decide) e395 (Ls := #[.val (.int xl), .val (.int x0), .val (.int x1), .val (.int x2), .val (.int (3 : Int32)), .val (.int cz_101), .val (.int cz_102), .val (.int cz_103), .val (.ref b268), .unset]) [(.int cz_102)] [] rfl (by rw [hml]; rfl) (lenOf own_pd17 rfl) (hb hby at_170) (by decide) 0 rfl (by decide) (by decide) (by decide)
                obtain ⟨rfl, Nq405, e405⟩ := hQ405
                have N405 := Fr.app N395 Nq405
                refine st405 _ ?_
                show own_Ok p e below _ (T405.setTop (mkF m 173 #[.val (.int xl), .val (.int x0), .val (.int x1), .val (.int x2), .val (.int (3 : Int32)), .val (.int cz_101), .val (.int cz_102), .val (.int cz_103), .val (.ref b268), .unset] [(.int (own_ok cz_102))]))
                by_cases c173_406 : (own_ok cz_102) = (0 : Int32)
                · skip
                  refine s_ifYes X405 hx 188 (hb hby at_173) (XT.i0_eq_t c173_406) (by decide) (by decide) ?_
                  refine s_iconst X405 hx (0 : Int32) (hb hby at_188) rfl ?_
                  refine s_istore X405 hx (hb hby at_189) #[.val (.int xl), .val (.int x0), .val (.int x1), .val (.int x2), .val (.int (3 : Int32)), .val (.int cz_101), .val (.int cz_102), .val (.int cz_103), .val (.ref b268), .val (.int (0 : Int32))] rfl ?_
                  refine s_aload X405 hx (hb hby at_191) rfl rfl ?_
                  obtain ⟨_, T407, Lc407, X407, hQ407, st407⟩ := own_callS X405 hx hZ hown (own_hw hw 27 rfl) (own_hw hw 28 rfl) (own_hw hw 29 rfl) (own_hw hw 30 rfl) (rm_isf3u2 l Z a0 hw [] G1 G3 cz_101 cz_102 cz_103 b268 tb_378 kb_378 T378.heap n0 f396 hst g378_0 g378_1 g378_2 g378_3 (⟨hl_101, hh_101⟩) (⟨hl_102, hh_102⟩) (⟨hl_103, hh_103⟩) b0 b1 b2) (by decide) e405 (Ls := #[.val (.int xl), .val (.int x0), .val (.int x1), .val (.int x2), .val (.int (3 : Int32)), .val (.int cz_101), .val (.int cz_102), .val (.int cz_103), .val (.ref b268), .val (.int (0 : Int32))]) [(.ref b268)] [] rfl (by rw [hml]; rfl) (lenOf own_pd16 rfl) (hb hby at_193) (by decide) 0 rfl (by decide) (by decide) (by decide)
                  obtain ⟨rfl, Nq407, e407⟩ := hQ407
                  have N407 := Fr.app N405 Nq407
                  refine st407 _ ?_
                  show own_Ok p e below _ (T407.setTop (mkF m 196 #[.val (.int xl), .val (.int x0), .val (.int x1), .val (.int x2), .val (.int (3 : Int32)), .val (.int cz_101), .val (.int cz_102), .val (.int cz_103), .val (.ref b268), .val (.int (0 : Int32))] [(.int (own_all ([cz_101, cz_102, cz_103] : List Int32)))]))
                  refine s_iload X407 hx (hb hby at_196) rfl ?_
                  refine s_icmpNo X407 hx (hb hby at_198) (XT.ii_ne_f ((own_all_yes (own_ok_ne c165_397)).trans (own_all_no c173_406))) ?_
                  refine s_iconst X407 hx (1 : Int32) (hb hby at_201) rfl ?_
                  refine s_goto X407 hx 206 (hb hby at_202) (by decide) (by decide) ?_
                  have f408 := Nat.le_trans hk0 E268.1
                  have f409 := Nat.le_trans f408 E269.1
                  have f410 := Nat.le_trans f409 (Keep.of_wr W271).1
                  have f411 := Nat.le_trans f410 (Keep.of_wr W272).1
                  have f412 := Nat.le_trans f411 (Keep.of_wr W273).1
                  have f413 := Nat.le_trans f412 K378.1
                  exact own_retNW X407 hS (by rw [e407]; exact f413) hx hlk (t := .boolean) Bd.returns (by simp) (hb hby at_206) (by rw [e407]; exact ⟨rfl, N407⟩) (by decide) (by decide)
                · skip
                  refine s_ifNo X405 hx (hb hby at_173) (XT.i0_eq_f c173_406) ?_
                  refine s_iload X405 hx (hb hby at_176) rfl ?_
                  obtain ⟨_, T414, Lc414, X414, hQ414, st414⟩ := own_callS X405 hx hZ hown (own_hw hw 52 rfl) (own_hw hw 53 rfl) (own_hw hw 2 rfl) (own_hw hw 54 rfl) (rm_ok l Z a0 hw [] cz_103 T378.heap n0 f396) (by decide) e405 (Ls := #[.val (.int xl), .val (.int x0), .val (.int x1), .val (.int x2), .val (.int (3 : Int32)), .val (.int cz_101), .val (.int cz_102), .val (.int cz_103), .val (.ref b268), .unset]) [(.int cz_103)] [] rfl (by rw [hml]; rfl) (lenOf own_pd17 rfl) (hb hby at_178) (by decide) 0 rfl (by decide) (by decide) (by decide)
                  obtain ⟨rfl, Nq414, e414⟩ := hQ414
                  have N414 := Fr.app N405 Nq414
                  refine st414 _ ?_
                  show own_Ok p e below _ (T414.setTop (mkF m 181 #[.val (.int xl), .val (.int x0), .val (.int x1), .val (.int x2), .val (.int (3 : Int32)), .val (.int cz_101), .val (.int cz_102), .val (.int cz_103), .val (.ref b268), .unset] [(.int (own_ok cz_103))]))
                  by_cases c181_415 : (own_ok cz_103) = (0 : Int32)
                  · skip
                    refine s_ifYes X414 hx 188 (hb hby at_181) (XT.i0_eq_t c181_415) (by decide) (by decide) ?_
                    refine s_iconst X414 hx (0 : Int32) (hb hby at_188) rfl ?_
                    refine s_istore X414 hx (hb hby at_189) #[.val (.int xl), .val (.int x0), .val (.int x1), .val (.int x2), .val (.int (3 : Int32)), .val (.int cz_101), .val (.int cz_102), .val (.int cz_103), .val (.ref b268), .val (.int (0 : Int32))] rfl ?_
                    refine s_aload X414 hx (hb hby at_191) rfl rfl ?_
                    obtain ⟨_, T416, Lc416, X416, hQ416, st416⟩ := own_callS X414 hx hZ hown (own_hw hw 27 rfl) (own_hw hw 28 rfl) (own_hw hw 29 rfl) (own_hw hw 30 rfl) (rm_isf3u2 l Z a0 hw [] G1 G3 cz_101 cz_102 cz_103 b268 tb_378 kb_378 T378.heap n0 f396 hst g378_0 g378_1 g378_2 g378_3 (⟨hl_101, hh_101⟩) (⟨hl_102, hh_102⟩) (⟨hl_103, hh_103⟩) b0 b1 b2) (by decide) e414 (Ls := #[.val (.int xl), .val (.int x0), .val (.int x1), .val (.int x2), .val (.int (3 : Int32)), .val (.int cz_101), .val (.int cz_102), .val (.int cz_103), .val (.ref b268), .val (.int (0 : Int32))]) [(.ref b268)] [] rfl (by rw [hml]; rfl) (lenOf own_pd16 rfl) (hb hby at_193) (by decide) 0 rfl (by decide) (by decide) (by decide)
                    obtain ⟨rfl, Nq416, e416⟩ := hQ416
                    have N416 := Fr.app N414 Nq416
                    refine st416 _ ?_
                    show own_Ok p e below _ (T416.setTop (mkF m 196 #[.val (.int xl), .val (.int x0), .val (.int x1), .val (.int x2), .val (.int (3 : Int32)), .val (.int cz_101), .val (.int cz_102), .val (.int cz_103), .val (.ref b268), .val (.int (0 : Int32))] [(.int (own_all ([cz_101, cz_102, cz_103] : List Int32)))]))
                    refine s_iload X416 hx (hb hby at_196) rfl ?_
                    refine s_icmpNo X416 hx (hb hby at_198) (XT.ii_ne_f ((own_all_yes (own_ok_ne c165_397)).trans ((own_all_yes (own_ok_ne c173_406)).trans (own_all_no c181_415)))) ?_
                    refine s_iconst X416 hx (1 : Int32) (hb hby at_201) rfl ?_
                    refine s_goto X416 hx 206 (hb hby at_202) (by decide) (by decide) ?_
                    have f417 := Nat.le_trans hk0 E268.1
                    have f418 := Nat.le_trans f417 E269.1
                    have f419 := Nat.le_trans f418 (Keep.of_wr W271).1
                    have f420 := Nat.le_trans f419 (Keep.of_wr W272).1
                    have f421 := Nat.le_trans f420 (Keep.of_wr W273).1
                    have f422 := Nat.le_trans f421 K378.1
                    exact own_retNW X416 hS (by rw [e416]; exact f422) hx hlk (t := .boolean) Bd.returns (by simp) (hb hby at_206) (by rw [e416]; exact ⟨rfl, N416⟩) (by decide) (by decide)
                  · skip
                    refine s_ifNo X414 hx (hb hby at_181) (XT.i0_eq_f c181_415) ?_
                    refine s_iconst X414 hx (1 : Int32) (hb hby at_184) rfl ?_
                    refine s_goto X414 hx 189 (hb hby at_185) (by decide) (by decide) ?_
                    refine s_istore X414 hx (hb hby at_189) #[.val (.int xl), .val (.int x0), .val (.int x1), .val (.int x2), .val (.int (3 : Int32)), .val (.int cz_101), .val (.int cz_102), .val (.int cz_103), .val (.ref b268), .val (.int (1 : Int32))] rfl ?_
                    refine s_aload X414 hx (hb hby at_191) rfl rfl ?_
                    obtain ⟨_, T423, Lc423, X423, hQ423, st423⟩ := own_callS X414 hx hZ hown (own_hw hw 27 rfl) (own_hw hw 28 rfl) (own_hw hw 29 rfl) (own_hw hw 30 rfl) (rm_isf3u2 l Z a0 hw [] G1 G3 cz_101 cz_102 cz_103 b268 tb_378 kb_378 T378.heap n0 f396 hst g378_0 g378_1 g378_2 g378_3 (⟨hl_101, hh_101⟩) (⟨hl_102, hh_102⟩) (⟨hl_103, hh_103⟩) b0 b1 b2) (by decide) e414 (Ls := #[.val (.int xl), .val (.int x0), .val (.int x1), .val (.int x2), .val (.int (3 : Int32)), .val (.int cz_101), .val (.int cz_102), .val (.int cz_103), .val (.ref b268), .val (.int (1 : Int32))]) [(.ref b268)] [] rfl (by rw [hml]; rfl) (lenOf own_pd16 rfl) (hb hby at_193) (by decide) 0 rfl (by decide) (by decide) (by decide)
                    obtain ⟨rfl, Nq423, e423⟩ := hQ423
                    have N423 := Fr.app N414 Nq423
                    refine st423 _ ?_
                    show own_Ok p e below _ (T423.setTop (mkF m 196 #[.val (.int xl), .val (.int x0), .val (.int x1), .val (.int x2), .val (.int (3 : Int32)), .val (.int cz_101), .val (.int cz_102), .val (.int cz_103), .val (.ref b268), .val (.int (1 : Int32))] [(.int (own_all ([cz_101, cz_102, cz_103] : List Int32)))]))
                    refine s_iload X423 hx (hb hby at_196) rfl ?_
                    refine s_icmpNo X423 hx (hb hby at_198) (XT.ii_ne_f ((own_all_yes (own_ok_ne c165_397)).trans ((own_all_yes (own_ok_ne c173_406)).trans ((own_all_yes (own_ok_ne c181_415)).trans (own_all_nil))))) ?_
                    refine s_iconst X423 hx (1 : Int32) (hb hby at_201) rfl ?_
                    refine s_goto X423 hx 206 (hb hby at_202) (by decide) (by decide) ?_
                    have f424 := Nat.le_trans hk0 E268.1
                    have f425 := Nat.le_trans f424 E269.1
                    have f426 := Nat.le_trans f425 (Keep.of_wr W271).1
                    have f427 := Nat.le_trans f426 (Keep.of_wr W272).1
                    have f428 := Nat.le_trans f427 (Keep.of_wr W273).1
                    have f429 := Nat.le_trans f428 K378.1
                    exact own_retNW X423 hS (by rw [e423]; exact f429) hx hlk (t := .boolean) Bd.returns (by simp) (hb hby at_206) (by rw [e423]; exact ⟨rfl, N423⟩) (by decide) (by decide)
            · skip
              show own_Ok p e below _ (T273.setTop (mkF m 155 #[.val (.int xl), .val (.int x0), .val (.int x1), .val (.int x2), .val (.int (3 : Int32)), .val (.int cz_101), .val (.int cz_102), .val (.int cz_103), .unset, .unset] [(.ref b269), (.ref b268), (.ref b268)]))
              have hp : ∀ x ∈ ([cz_101, cz_102, cz_103] : List Int32), ¬ x < 0 ∧ ¬ (255 : Int32) < x := by
                intro x hx
                simp only [List.mem_cons, List.not_mem_nil, or_false] at hx
                rcases hx with rfl | rfl | rfl
                · exact ⟨hl_101, b0⟩
                · exact ⟨hl_102, b1⟩
                · exact ⟨hl_103, b2⟩
              have f431 := A268.ext E269
              have f432 := f431.wr W271
              have f433 := f432.wr W272
              have f434 := f433.wr W273
              have f435 := F268_value.ext E269
              have f436 := f435.other W271 (Or.inl ne_b268_b269)
              have f437 := f436.other W272 (Or.inl ne_b268_b269)
              have f438 := f437.other W273 (Or.inl ne_b268_b269)
              have f439 := F268_coder.ext E269
              have f440 := f439.other W271 (Or.inl ne_b268_b269)
              have f441 := f440.other W272 (Or.inl ne_b268_b269)
              have f442 := f441.other W273 (Or.inl ne_b268_b269)
              have f443 := f270.ext E269
              have f444 := f443.wr W271 gb_b269
              have f445 := f444.wr W272 gb_b269
              have f446 := f445.wr W273 gb_b269
              obtain ⟨_, _, ⟨T430, L430, k430, n430⟩, -, X430, ⟨Lc430, hQ430, l430, y430, z430⟩, st430⟩ := X273.specialBack hx (y := (⟨"java/lang/String", "<init>", "([C)V"⟩ : MethodName)) rfl hown (mvT hZ (own_hw hw 9 rfl)) (mvT hZ (own_hw hw 10 rfl)) (mvT hZ (own_hw hw 11 rfl)) (by decide) (StrChars.Road.backV (W := 1) hZ hws (kI := 4) (own_hw hw 6 rfl) (cs := ([cz_101, cz_102, cz_103] : List Int32)) (bs := (([cz_101, cz_102, cz_103] : List Int32)).map (fun c => c.toInt8.toInt32)) (n := 3) gb_b268 (own_n0 f446) f434 f438 f442 Vch (SG1.ext f446.2) PG1 rfl rfl (by decide) (by decide) hp rfl (by decide) (by decide)) (g := (mkF m 155 #[.val (.int xl), .val (.int x0), .val (.int x1), .val (.int x2), .val (.int (3 : Int32)), .val (.int cz_101), .val (.int cz_102), .val (.int cz_103), .unset, .unset] [(.ref b269), (.ref b268), (.ref b268)])) rfl (by rw [hml]; rfl) (Steps.refl _) (a := b268) (argsL := [(.ref b269)]) (rest := [(.ref b268)]) (lenOf own_pd15 rfl) rfl (by show 2 * 0 + _ ≤ _; exact Nat.le_of_eq rfl) (hb hby at_155) (fun _ _ => ⟨rfl, e273, (by decide : 2 + 1 ≤ _), (by decide : 7 + 3 ≤ _)⟩)
              dsimp only [Pt.U, Pt.locs, Pt.cells, Pt.slots] at X430 l430 y430 z430 st430 hQ430
              subst l430 y430 z430
              obtain ⟨rfl, Nq430, K430, g430_0, g430_1, tS_446, kS_446, u1_446, u2_446, u3_446, vS_446, aS_446⟩ := hQ430
              have N430 := Fr.app N273 Nq430
              refine own_st (fun _ k => st430.trans k) ?_
              have gb_tS_446 : n0 ≤ tS_446 := Nat.le_trans (own_n0 f446) u2_446
              have ne_b268_tS_446 : b268 ≠ tS_446 := Nat.ne_of_lt (Nat.lt_of_lt_of_le f434.lt u2_446)
              have ne_b269_tS_446 : b269 ≠ tS_446 := Nat.ne_of_lt (Nat.lt_of_lt_of_le Vch.lt u2_446)
              have e430 : T430.heap = T430.heap := rfl
              show own_Ok p e below _ (T430.setTop (mkF m 158 #[.val (.int xl), .val (.int x0), .val (.int x1), .val (.int x2), .val (.int (3 : Int32)), .val (.int cz_101), .val (.int cz_102), .val (.int cz_103), .unset, .unset] [(.ref b268)]))
              show own_Ok p e below _ (T430.setTop (mkF m 158 #[.val (.int xl), .val (.int x0), .val (.int x1), .val (.int x2), .val (.int (3 : Int32)), .val (.int cz_101), .val (.int cz_102), .val (.int cz_103), .unset, .unset] [(.ref b268)]))
              refine s_astore X430 hx (hb hby at_158) rfl #[.val (.int xl), .val (.int x0), .val (.int x1), .val (.int x2), .val (.int (3 : Int32)), .val (.int cz_101), .val (.int cz_102), .val (.int cz_103), .val (.ref b268), .unset] rfl ?_
              refine s_iload X430 hx (hb hby at_160) rfl ?_
              have f448 := f446.keep K430 (allS gb_b268 all0)
              obtain ⟨_, T447, Lc447, X447, hQ447, st447⟩ := own_callS X430 hx hZ hown (own_hw hw 52 rfl) (own_hw hw 53 rfl) (own_hw hw 2 rfl) (own_hw hw 54 rfl) (rm_ok l Z a0 hw [] cz_101 T430.heap n0 f448) (by decide) e430 (Ls := #[.val (.int xl), .val (.int x0), .val (.int x1), .val (.int x2), .val (.int (3 : Int32)), .val (.int cz_101), .val (.int cz_102), .val (.int cz_103), .val (.ref b268), .unset]) [(.int cz_101)] [] rfl (by rw [hml]; rfl) (lenOf own_pd17 rfl) (hb hby at_162) (by decide) 0 rfl (by decide) (by decide) (by decide)
              obtain ⟨rfl, Nq447, e447⟩ := hQ447
              have N447 := Fr.app N430 Nq447
              refine st447 _ ?_
              show own_Ok p e below _ (T447.setTop (mkF m 165 #[.val (.int xl), .val (.int x0), .val (.int x1), .val (.int x2), .val (.int (3 : Int32)), .val (.int cz_101), .val (.int cz_102), .val (.int cz_103), .val (.ref b268), .unset] [(.int (own_ok cz_101))]))
              by_cases c165_449 : (own_ok cz_101) = (0 : Int32)
              · skip
                refine s_ifYes X447 hx 188 (hb hby at_165) (XT.i0_eq_t c165_449) (by decide) (by decide) ?_
                refine s_iconst X447 hx (0 : Int32) (hb hby at_188) rfl ?_
                refine s_istore X447 hx (hb hby at_189) #[.val (.int xl), .val (.int x0), .val (.int x1), .val (.int x2), .val (.int (3 : Int32)), .val (.int cz_101), .val (.int cz_102), .val (.int cz_103), .val (.ref b268), .val (.int (0 : Int32))] rfl ?_
                refine s_aload X447 hx (hb hby at_191) rfl rfl ?_
                obtain ⟨_, T450, Lc450, X450, hQ450, st450⟩ := own_callS X447 hx hZ hown (own_hw hw 27 rfl) (own_hw hw 28 rfl) (own_hw hw 29 rfl) (own_hw hw 30 rfl) (rm_isf3 l Z a0 hw [] G1 G3 cz_101 cz_102 cz_103 b268 tS_446 kS_446 T430.heap n0 f448 hst g430_0 g430_1 vS_446 aS_446 (⟨hl_101, hh_101⟩) (⟨hl_102, hh_102⟩) (⟨hl_103, hh_103⟩) b0 b1 b2) (by decide) e447 (Ls := #[.val (.int xl), .val (.int x0), .val (.int x1), .val (.int x2), .val (.int (3 : Int32)), .val (.int cz_101), .val (.int cz_102), .val (.int cz_103), .val (.ref b268), .val (.int (0 : Int32))]) [(.ref b268)] [] rfl (by rw [hml]; rfl) (lenOf own_pd16 rfl) (hb hby at_193) (by decide) 0 rfl (by decide) (by decide) (by decide)
                obtain ⟨rfl, Nq450, e450⟩ := hQ450
                have N450 := Fr.app N447 Nq450
                refine st450 _ ?_
                show own_Ok p e below _ (T450.setTop (mkF m 196 #[.val (.int xl), .val (.int x0), .val (.int x1), .val (.int x2), .val (.int (3 : Int32)), .val (.int cz_101), .val (.int cz_102), .val (.int cz_103), .val (.ref b268), .val (.int (0 : Int32))] [(.int (own_all ([cz_101, cz_102, cz_103] : List Int32)))]))
                refine s_iload X450 hx (hb hby at_196) rfl ?_
                refine s_icmpNo X450 hx (hb hby at_198) (XT.ii_ne_f (own_all_no c165_449)) ?_
                refine s_iconst X450 hx (1 : Int32) (hb hby at_201) rfl ?_
                refine s_goto X450 hx 206 (hb hby at_202) (by decide) (by decide) ?_
                have f451 := Nat.le_trans hk0 E268.1
                have f452 := Nat.le_trans f451 E269.1
                have f453 := Nat.le_trans f452 (Keep.of_wr W271).1
                have f454 := Nat.le_trans f453 (Keep.of_wr W272).1
                have f455 := Nat.le_trans f454 (Keep.of_wr W273).1
                have f456 := Nat.le_trans f455 K430.1
                exact own_retNW X450 hS (by rw [e450]; exact f456) hx hlk (t := .boolean) Bd.returns (by simp) (hb hby at_206) (by rw [e450]; exact ⟨rfl, N450⟩) (by decide) (by decide)
              · skip
                refine s_ifNo X447 hx (hb hby at_165) (XT.i0_eq_f c165_449) ?_
                refine s_iload X447 hx (hb hby at_168) rfl ?_
                obtain ⟨_, T457, Lc457, X457, hQ457, st457⟩ := own_callS X447 hx hZ hown (own_hw hw 52 rfl) (own_hw hw 53 rfl) (own_hw hw 2 rfl) (own_hw hw 54 rfl) (rm_ok l Z a0 hw [] cz_102 T430.heap n0 f448) (by decide) e447 (Ls := #[.val (.int xl), .val (.int x0), .val (.int x1), .val (.int x2), .val (.int (3 : Int32)), .val (.int cz_101), .val (.int cz_102), .val (.int cz_103), .val (.ref b268), .unset]) [(.int cz_102)] [] rfl (by rw [hml]; rfl) (lenOf own_pd17 rfl) (hb hby at_170) (by decide) 0 rfl (by decide) (by decide) (by decide)
                obtain ⟨rfl, Nq457, e457⟩ := hQ457
                have N457 := Fr.app N447 Nq457
                refine st457 _ ?_
                show own_Ok p e below _ (T457.setTop (mkF m 173 #[.val (.int xl), .val (.int x0), .val (.int x1), .val (.int x2), .val (.int (3 : Int32)), .val (.int cz_101), .val (.int cz_102), .val (.int cz_103), .val (.ref b268), .unset] [(.int (own_ok cz_102))]))
                by_cases c173_458 : (own_ok cz_102) = (0 : Int32)
                · skip
                  refine s_ifYes X457 hx 188 (hb hby at_173) (XT.i0_eq_t c173_458) (by decide) (by decide) ?_
                  refine s_iconst X457 hx (0 : Int32) (hb hby at_188) rfl ?_
                  refine s_istore X457 hx (hb hby at_189) #[.val (.int xl), .val (.int x0), .val (.int x1), .val (.int x2), .val (.int (3 : Int32)), .val (.int cz_101), .val (.int cz_102), .val (.int cz_103), .val (.ref b268), .val (.int (0 : Int32))] rfl ?_
                  refine s_aload X457 hx (hb hby at_191) rfl rfl ?_
                  obtain ⟨_, T459, Lc459, X459, hQ459, st459⟩ := own_callS X457 hx hZ hown (own_hw hw 27 rfl) (own_hw hw 28 rfl) (own_hw hw 29 rfl) (own_hw hw 30 rfl) (rm_isf3 l Z a0 hw [] G1 G3 cz_101 cz_102 cz_103 b268 tS_446 kS_446 T430.heap n0 f448 hst g430_0 g430_1 vS_446 aS_446 (⟨hl_101, hh_101⟩) (⟨hl_102, hh_102⟩) (⟨hl_103, hh_103⟩) b0 b1 b2) (by decide) e457 (Ls := #[.val (.int xl), .val (.int x0), .val (.int x1), .val (.int x2), .val (.int (3 : Int32)), .val (.int cz_101), .val (.int cz_102), .val (.int cz_103), .val (.ref b268), .val (.int (0 : Int32))]) [(.ref b268)] [] rfl (by rw [hml]; rfl) (lenOf own_pd16 rfl) (hb hby at_193) (by decide) 0 rfl (by decide) (by decide) (by decide)
                  obtain ⟨rfl, Nq459, e459⟩ := hQ459
                  have N459 := Fr.app N457 Nq459
                  refine st459 _ ?_
                  show own_Ok p e below _ (T459.setTop (mkF m 196 #[.val (.int xl), .val (.int x0), .val (.int x1), .val (.int x2), .val (.int (3 : Int32)), .val (.int cz_101), .val (.int cz_102), .val (.int cz_103), .val (.ref b268), .val (.int (0 : Int32))] [(.int (own_all ([cz_101, cz_102, cz_103] : List Int32)))]))
                  refine s_iload X459 hx (hb hby at_196) rfl ?_
                  refine s_icmpNo X459 hx (hb hby at_198) (XT.ii_ne_f ((own_all_yes (own_ok_ne c165_449)).trans (own_all_no c173_458))) ?_
                  refine s_iconst X459 hx (1 : Int32) (hb hby at_201) rfl ?_
                  refine s_goto X459 hx 206 (hb hby at_202) (by decide) (by decide) ?_
                  have f460 := Nat.le_trans hk0 E268.1
                  have f461 := Nat.le_trans f460 E269.1
                  have f462 := Nat.le_trans f461 (Keep.of_wr W271).1
                  have f463 := Nat.le_trans f462 (Keep.of_wr W272).1
                  have f464 := Nat.le_trans f463 (Keep.of_wr W273).1
                  have f465 := Nat.le_trans f464 K430.1
                  exact own_retNW X459 hS (by rw [e459]; exact f465) hx hlk (t := .boolean) Bd.returns (by simp) (hb hby at_206) (by rw [e459]; exact ⟨rfl, N459⟩) (by decide) (by decide)
                · skip
                  refine s_ifNo X457 hx (hb hby at_173) (XT.i0_eq_f c173_458) ?_
                  refine s_iload X457 hx (hb hby at_176) rfl ?_
                  obtain ⟨_, T466, Lc466, X466, hQ466, st466⟩ := own_callS X457 hx hZ hown (own_hw hw 52 rfl) (own_hw hw 53 rfl) (own_hw hw 2 rfl) (own_hw hw 54 rfl) (rm_ok l Z a0 hw [] cz_103 T430.heap n0 f448) (by decide) e457 (Ls := #[.val (.int xl), .val (.int x0), .val (.int x1), .val (.int x2), .val (.int (3 : Int32)), .val (.int cz_101), .val (.int cz_102), .val (.int cz_103), .val (.ref b268), .unset]) [(.int cz_103)] [] rfl (by rw [hml]; rfl) (lenOf own_pd17 rfl) (hb hby at_178) (by decide) 0 rfl (by decide) (by decide) (by decide)
                  obtain ⟨rfl, Nq466, e466⟩ := hQ466
                  have N466 := Fr.app N457 Nq466
                  refine st466 _ ?_
                  show own_Ok p e below _ (T466.setTop (mkF m 181 #[.val (.int xl), .val (.int x0), .val (.int x1), .val (.int x2), .val (.int (3 : Int32)), .val (.int cz_101), .val (.int cz_102), .val (.int cz_103), .val (.ref b268), .unset] [(.int (own_ok cz_103))]))
                  by_cases c181_467 : (own_ok cz_103) = (0 : Int32)
                  · skip
                    refine s_ifYes X466 hx 188 (hb hby at_181) (XT.i0_eq_t c181_467) (by decide) (by decide) ?_
                    refine s_iconst X466 hx (0 : Int32) (hb hby at_188) rfl ?_
                    refine s_istore X466 hx (hb hby at_189) #[.val (.int xl), .val (.int x0), .val (.int x1), .val (.int x2), .val (.int (3 : Int32)), .val (.int cz_101), .val (.int cz_102), .val (.int cz_103), .val (.ref b268), .val (.int (0 : Int32))] rfl ?_
                    refine s_aload X466 hx (hb hby at_191) rfl rfl ?_
                    obtain ⟨_, T468, Lc468, X468, hQ468, st468⟩ := own_callS X466 hx hZ hown (own_hw hw 27 rfl) (own_hw hw 28 rfl) (own_hw hw 29 rfl) (own_hw hw 30 rfl) (rm_isf3 l Z a0 hw [] G1 G3 cz_101 cz_102 cz_103 b268 tS_446 kS_446 T430.heap n0 f448 hst g430_0 g430_1 vS_446 aS_446 (⟨hl_101, hh_101⟩) (⟨hl_102, hh_102⟩) (⟨hl_103, hh_103⟩) b0 b1 b2) (by decide) e466 (Ls := #[.val (.int xl), .val (.int x0), .val (.int x1), .val (.int x2), .val (.int (3 : Int32)), .val (.int cz_101), .val (.int cz_102), .val (.int cz_103), .val (.ref b268), .val (.int (0 : Int32))]) [(.ref b268)] [] rfl (by rw [hml]; rfl) (lenOf own_pd16 rfl) (hb hby at_193) (by decide) 0 rfl (by decide) (by decide) (by decide)
                    obtain ⟨rfl, Nq468, e468⟩ := hQ468
                    have N468 := Fr.app N466 Nq468
                    refine st468 _ ?_
                    show own_Ok p e below _ (T468.setTop (mkF m 196 #[.val (.int xl), .val (.int x0), .val (.int x1), .val (.int x2), .val (.int (3 : Int32)), .val (.int cz_101), .val (.int cz_102), .val (.int cz_103), .val (.ref b268), .val (.int (0 : Int32))] [(.int (own_all ([cz_101, cz_102, cz_103] : List Int32)))]))
                    refine s_iload X468 hx (hb hby at_196) rfl ?_
                    refine s_icmpNo X468 hx (hb hby at_198) (XT.ii_ne_f ((own_all_yes (own_ok_ne c165_449)).trans ((own_all_yes (own_ok_ne c173_458)).trans (own_all_no c181_467)))) ?_
                    refine s_iconst X468 hx (1 : Int32) (hb hby at_201) rfl ?_
                    refine s_goto X468 hx 206 (hb hby at_202) (by decide) (by decide) ?_
                    have f469 := Nat.le_trans hk0 E268.1
                    have f470 := Nat.le_trans f469 E269.1
                    have f471 := Nat.le_trans f470 (Keep.of_wr W271).1
                    have f472 := Nat.le_trans f471 (Keep.of_wr W272).1
                    have f473 := Nat.le_trans f472 (Keep.of_wr W273).1
                    have f474 := Nat.le_trans f473 K430.1
                    exact own_retNW X468 hS (by rw [e468]; exact f474) hx hlk (t := .boolean) Bd.returns (by simp) (hb hby at_206) (by rw [e468]; exact ⟨rfl, N468⟩) (by decide) (by decide)
                  · skip
                    refine s_ifNo X466 hx (hb hby at_181) (XT.i0_eq_f c181_467) ?_
                    refine s_iconst X466 hx (1 : Int32) (hb hby at_184) rfl ?_
                    refine s_goto X466 hx 189 (hb hby at_185) (by decide) (by decide) ?_
                    refine s_istore X466 hx (hb hby at_189) #[.val (.int xl), .val (.int x0), .val (.int x1), .val (.int x2), .val (.int (3 : Int32)), .val (.int cz_101), .val (.int cz_102), .val (.int cz_103), .val (.ref b268), .val (.int (1 : Int32))] rfl ?_
                    refine s_aload X466 hx (hb hby at_191) rfl rfl ?_
                    obtain ⟨_, T475, Lc475, X475, hQ475, st475⟩ := own_callS X466 hx hZ hown (own_hw hw 27 rfl) (own_hw hw 28 rfl) (own_hw hw 29 rfl) (own_hw hw 30 rfl) (rm_isf3 l Z a0 hw [] G1 G3 cz_101 cz_102 cz_103 b268 tS_446 kS_446 T430.heap n0 f448 hst g430_0 g430_1 vS_446 aS_446 (⟨hl_101, hh_101⟩) (⟨hl_102, hh_102⟩) (⟨hl_103, hh_103⟩) b0 b1 b2) (by decide) e466 (Ls := #[.val (.int xl), .val (.int x0), .val (.int x1), .val (.int x2), .val (.int (3 : Int32)), .val (.int cz_101), .val (.int cz_102), .val (.int cz_103), .val (.ref b268), .val (.int (1 : Int32))]) [(.ref b268)] [] rfl (by rw [hml]; rfl) (lenOf own_pd16 rfl) (hb hby at_193) (by decide) 0 rfl (by decide) (by decide) (by decide)
                    obtain ⟨rfl, Nq475, e475⟩ := hQ475
                    have N475 := Fr.app N466 Nq475
                    refine st475 _ ?_
                    show own_Ok p e below _ (T475.setTop (mkF m 196 #[.val (.int xl), .val (.int x0), .val (.int x1), .val (.int x2), .val (.int (3 : Int32)), .val (.int cz_101), .val (.int cz_102), .val (.int cz_103), .val (.ref b268), .val (.int (1 : Int32))] [(.int (own_all ([cz_101, cz_102, cz_103] : List Int32)))]))
                    refine s_iload X475 hx (hb hby at_196) rfl ?_
                    refine s_icmpNo X475 hx (hb hby at_198) (XT.ii_ne_f ((own_all_yes (own_ok_ne c165_449)).trans ((own_all_yes (own_ok_ne c173_458)).trans ((own_all_yes (own_ok_ne c181_467)).trans (own_all_nil))))) ?_
                    refine s_iconst X475 hx (1 : Int32) (hb hby at_201) rfl ?_
                    refine s_goto X475 hx 206 (hb hby at_202) (by decide) (by decide) ?_
                    have f476 := Nat.le_trans hk0 E268.1
                    have f477 := Nat.le_trans f476 E269.1
                    have f478 := Nat.le_trans f477 (Keep.of_wr W271).1
                    have f479 := Nat.le_trans f478 (Keep.of_wr W272).1
                    have f480 := Nat.le_trans f479 (Keep.of_wr W273).1
                    have f481 := Nat.le_trans f480 K430.1
                    exact own_retNW X475 hS (by rw [e475]; exact f481) hx hlk (t := .boolean) Bd.returns (by simp) (hb hby at_206) (by rw [e475]; exact ⟨rfl, N475⟩) (by decide) (by decide)
set_option maxRecDepth 65536 in
set_option maxHeartbeats 40000000 in
theorem comes_1 {Post : Tables → Env → Array Value → State → Outcome → State → Prop} (hpost : ∀ tb e args s v u, (limb_1_1.after args s (.returned v) u = true ∧ limb_1_2.after args s (.returned v) u = true ∧ True) → ReturnedEndW s (.returned v) u (Jvm.fieldLocs frame_1_writes args s ++ Jvm.arrayLocs frame_1_arrays args s ++ Jvm.staticLocs frame_1_statics s) 24 1152 → Post tb e args s (.returned v) u) :
    ArmFor flags0 classFile x code maxLocals ret World_1 tables_1 room_1 Calls_1 rest_1 Pre_1 Post := by
  intro l hfl _ _ p e ha hc hk s m args below hf hA hF happ hP
  obtain ⟨hcalls, hrest, hpre⟩ := hP
  obtain ⟨-, -, -, hnamed, -, -, -, hat⟩ := (Spec.applies_iff hf).mp happ
  obtain ⟨hg, hn⟩ := and_e (Cond.before_iff.mp (show (Jvm.Cond.and given_1 narrow_1).before args s = true from hpre))
  obtain ⟨hcount, hr0⟩ := and_e hg
  obtain ⟨ha0, hr1⟩ := and_e hr0
  obtain ⟨ha1, hr2⟩ := and_e hr1
  obtain ⟨ha2, hr3⟩ := and_e hr2
  have ha3 := hr3
  obtain ⟨w0, w1, w2, w3, rfl⟩ : ∃ w0 w1 w2 w3 : Value, args = #[w0, w1, w2, w3] := by
    have hs : args.size = 4 := by simpa [Cond.value, given_1] using hcount
    obtain ⟨L⟩ := args
    match L, hs with
    | [w0, w1, w2, w3], _ => exact ⟨w0, w1, w2, w3, rfl⟩
  have hw := fun d (hd : d ∈ tables_1) => atoms_spec (ws := Jvm.Cond.code x code maxLocals ret :: tables_1) hat d (List.mem_cons_of_mem _ hd)
  obtain ⟨hsets, hown0⟩ := atoms_of _ (rest_1_c_eq ▸ (show rest_1_c.before _ s = true from hrest))
  have hrst := Cond.before_iff.mp hown0
  have hfit : Fit s := fun {y c} hc i hi => by
    obtain ⟨ha, rfl⟩ := Array.getElem?_eq_some_iff.mp hc
    have q := List.all_eq_true.mp ((Array.all_eq_true_iff_forall_mem.mp hF) _ (Array.getElem_mem ha)) i (List.mem_range.mpr hi)
    simpa [Array.getElem?_eq_getElem hi] using q
  obtain ⟨i0, ea0⟩ := is_v ha0
  obtain rfl : w0 = (.int i0) := Option.some.inj ea0
  obtain ⟨i1, ea1⟩ := is_v ha1
  obtain rfl : w1 = (.int i1) := Option.some.inj ea1
  obtain ⟨i2, ea2⟩ := is_v ha2
  obtain rfl : w2 = (.int i2) := Option.some.inj ea2
  obtain ⟨i3, ea3⟩ := is_v ha3
  obtain rfl : w3 = (.int i3) := Option.some.inj ea3
  obtain ⟨G1, eG1⟩ := is_v (Cond.before_iff.mp (hsets _ (List.mem_of_getElem? (i := 1) rfl)))
  have SG1 : Sta s s.heap "java/lang/String" "COMPACT_STRINGS" "Z" (.int G1) := Sta.start eG1 (Or.inl (hsets _ (List.mem_of_getElem? (i := 0) rfl)))
  have PG1 : ¬ (G1 = (0 : Int32)) := gotF (Cond.eq_ints eG1 (Term.int_eval (0))) (not_v (Cond.before_iff.mp (hsets _ (List.mem_of_getElem? (i := 2) rfl))))
  obtain ⟨G3, eG3, rG3⟩ := isR_v (Cond.before_iff.mp (hsets _ (List.mem_of_getElem? (i := 8) rfl)))
  have SG3 : Sta s s.heap "jdk/internal/util/Preconditions" "SIOOBE_FORMATTER" "Ljava/util/function/BiFunction;" G3 := Sta.start eG3 (Or.inl (hsets _ (List.mem_of_getElem? (i := 7) rfl)))
  have SAD : Sta s s.heap "java/lang/StringUTF16" "$assertionsDisabled" "Z" (.int (1 : Int32)) := own_staEq (hsets _ (List.mem_of_getElem? (i := 12) rfl)) (Or.inl (hsets _ (List.mem_of_getElem? (i := 11) rfl)))
  have SHI : Sta s s.heap "java/lang/StringUTF16" "HI_BYTE_SHIFT" "I" (.int (0 : Int32)) := own_staEq (hsets _ (List.mem_of_getElem? (i := 15) rfl)) (Or.inl (hsets _ (List.mem_of_getElem? (i := 14) rfl)))
  have SLO : Sta s s.heap "java/lang/StringUTF16" "LO_BYTE_SHIFT" "I" (.int (8 : Int32)) := own_staEq (hsets _ (List.mem_of_getElem? (i := 18) rfl)) (Or.inl (hsets _ (List.mem_of_getElem? (i := 17) rfl)))
  have hcst : Jvm.Lit.constHeld s "java/lang/String" 7 := hcalls.1 ("java/lang/String", 7) (by simp [consts_1])
  have hcw := (hsets _ (List.mem_of_getElem? (i := 2) rfl))
  obtain ⟨n, o, h1, h2, h3, _, L, rfl, ⟨rfl, N⟩, hq⟩ := rm_law l s _ hw tables_1 i0 i1 i2 i3 G1 G3 s.heap s.heap.size (Old.start s) ⟨SG1, PG1, SG3, rG3, SAD, SHI, SLO⟩ hcst hcw p e ha hc hk s m _ below hf ((Spec.applies_iff_loose hf).mp happ).1 ⟨rfl, State.Warmed39.refl s, rfl, IB.start⟩ trivial
  refine ⟨n, _, h1, h2, h3, hpost _ _ _ _ _ _ ⟨Cond.after_iff.mpr rfl, Cond.after_iff.mpr (eq_i res_at (Term.int_eval (1)) rfl), trivial⟩ ⟨hq.1, hq.2.1, hq.2.2.1, (hq.2.2.2.sift fun y hy => Or.inr (N y hy)).mono (by decide) (by decide)⟩⟩
theorem main_1_1 : Claimed_1_1 := comes_1 fun _ _ _ _ _ _ h hF => ⟨h.1, hF⟩
theorem main_1_2 : Claimed_1_2 := comes_1 fun _ _ _ _ _ _ h hF => ⟨h.2.1, hF⟩
end Jvm.Pilot.@@N@@
namespace Jvm.Pilot.@@N@@
open Jvm Jvm.ClassFile Sem Op Lib Jvm.Free Jvm.Stand Jvm.Pilot.@@N@@.Jvm.D
/-! MADE BY PROGRAM (witnessworld.py) out of the Statement's table words and the real class files: 20 classes; the members and pool entries that the words name. The judged class is class 1, her method 3. -/
namespace start1
open Jvm.ClassFile
def u (s : String) : CpInfo := .utf8 (stringToUtf16 s)
/-- a pool by its gaps: so many unusable entries, then the entry; so many at the end -/
def gap : Nat → List CpInfo → List CpInfo
  | 0, r => r
  | n + 1, r => .unusable :: gap n r
def poolList (es : List (Nat × CpInfo)) (last : Nat) : List CpInfo := es.foldr (fun e r => gap e.1 (e.2 :: r)) (gap last [])
def pool (es : List (Nat × CpInfo)) (last : Nat) : Array CpInfo := ⟨poolList es last⟩
def fileOf (pool : Array CpInfo) (this : Nat) (attrs : Array Attribute := #[]) (ms : Array MethodInfo := #[]) (fl : Nat := 33) (sup : Nat := 0) (ifs : Array Nat := #[]) (fds : Array FieldInfo := #[]) : ClassFile where
  minorVersion := 0
  majorVersion := 65
  constantPool := pool
  accessFlags := fl
  thisClass := this
  superClass := sup
  interfaces := ifs
  fields := fds
  methods := ms
  attributes := attrs
def plain (name : String) (sup : Option ClassId) : Class where
  name := name
  kind := .ordinary
  loader := none
  accessFlags := 33
  super := sup
  interfaces := #[]
  cf := none
  fields := #[]
  methods := #[]
  instanceTypes := #[]
  staticTypes := #[]
  resolved := #[]
  callSites := []
  init := .initialized
  statics := none
  mirror := none

def pool0 : Array CpInfo := pool [(5, u "<init>"), (0, u "()V"), (1, .class_ 10), (1, u "java/lang/Object")] 113

def k0c0 : Code := { maxStack := 0, maxLocals := 1, code := object_method_1_code, exceptionTable := #[], attributes := #[] }
def k0m0 : Method := { name := "<init>", desc := "()V", sig := { parameters := [], returnType := none }, accessFlags := 1, code := some k0c0 }
/-- java/lang/Object -/
def k0 : Class := { plain "java/lang/Object" none with
  accessFlags := 33
  interfaces := #[]
  cf := some (fileOf pool0 8 #[] #[{ accessFlags := 1, nameIndex := 5, descriptorIndex := 6, attributes := #[] }] 33 0 #[] #[])
  fields := #[]
  methods := #[k0m0]
  instanceTypes := #[]
  staticTypes := #[]
  resolved := Array.replicate 124 none
  statics := none }

def pool1 : Array CpInfo := pool [(2, .class_ 4), (1, u "java/lang/Object"), (0, u "<init>"), (0, u "()V"), (0, .integer 65535), (0, .methodref 9 10), (0, .class_ 11), (0, .nameAndType 12 13), (0, u "com/example/rolemesh/rolemesh/client/HttpMessagesIsFieldValuePinLaw"), (0, u "draw"), (0, u "(I)C"), (0, .class_ 15), (0, u "java/lang/String"), (0, .methodref 14 17), (0, .nameAndType 5 18), (0, u "([C)V"), (0, .methodref 9 20), (0, .nameAndType 21 22), (0, u "ok"), (0, u "(C)Z"), (0, .methodref 24 25), (0, .class_ 26), (0, .nameAndType 27 28), (0, u "com/example/rolemesh/rolemesh/client/HttpMessages"), (0, u "isFieldValue"), (0, u "(Ljava/lang/String;)Z"), (3, u "law"), (0, u "(IIII)Z")] 2

def k1m0 : Method := { name := "<init>", desc := "()V", sig := { parameters := [], returnType := none }, accessFlags := 1, code := none }
def k1c1 : Code := { maxStack := 2, maxLocals := 1, code := method_2_code, exceptionTable := #[], attributes := #[] }
def k1m1 : Method := { name := "draw", desc := "(I)C", sig := { parameters := [.int], returnType := some .char }, accessFlags := 10, code := some k1c1 }
def k1c2 : Code := { maxStack := 2, maxLocals := 1, code := method_3_code, exceptionTable := #[], attributes := #[] }
def k1m2 : Method := { name := "ok", desc := "(C)Z", sig := { parameters := [.char], returnType := some .boolean }, accessFlags := 10, code := some k1c2 }
def k1c3 : Code := { maxStack := 6, maxLocals := 10, code := code, exceptionTable := #[], attributes := #[] }
def k1m3 : Method := { name := "law", desc := "(IIII)Z", sig := { parameters := [.int, .int, .int, .int], returnType := some .boolean }, accessFlags := 9, code := some k1c3 }
/-- com/example/rolemesh/rolemesh/client/HttpMessagesIsFieldValuePinLaw -/
def k1 : Class := { plain "com/example/rolemesh/rolemesh/client/HttpMessagesIsFieldValuePinLaw" (some 0) with
  accessFlags := 49
  interfaces := #[]
  cf := some (fileOf pool1 9 #[] #[{ accessFlags := 1, nameIndex := 5, descriptorIndex := 6, attributes := #[] }, { accessFlags := 10, nameIndex := 12, descriptorIndex := 13, attributes := #[] }, { accessFlags := 10, nameIndex := 21, descriptorIndex := 22, attributes := #[] }, { accessFlags := 9, nameIndex := 32, descriptorIndex := 33, attributes := #[] }] 49 2 #[] #[])
  fields := #[]
  methods := #[k1m0, k1m1, k1m2, k1m3]
  instanceTypes := #[]
  staticTypes := #[]
  resolved := Array.replicate 36 none
  statics := none }

def pool2 : Array CpInfo := pool [(1, .class_ 2), (0, u "java/io/Serializable"), (0, .class_ 4), (0, u "java/lang/Object")] 2

/-- java/io/Serializable -/
def k2 : Class := { plain "java/io/Serializable" (some 0) with
  accessFlags := 1537
  interfaces := #[]
  cf := some (fileOf pool2 1 #[] #[] 1537 3 #[] #[])
  fields := #[]
  methods := #[]
  instanceTypes := #[]
  staticTypes := #[]
  resolved := Array.replicate 7 none
  statics := none }

def pool3 : Array CpInfo := pool [(1, .class_ 2), (0, u "java/lang/Comparable"), (0, .class_ 4), (0, u "java/lang/Object")] 7

/-- java/lang/Comparable -/
def k3 : Class := { plain "java/lang/Comparable" (some 0) with
  accessFlags := 1537
  interfaces := #[]
  cf := some (fileOf pool3 1 #[] #[] 1537 3 #[] #[])
  fields := #[]
  methods := #[]
  instanceTypes := #[]
  staticTypes := #[]
  resolved := Array.replicate 12 none
  statics := none }

def pool4 : Array CpInfo := pool [(2, .class_ 4), (1, u "java/lang/CharSequence"), (42, .class_ 48), (0, u "java/lang/CharSequence$1CodePointIterator"), (10, .class_ 60), (0, u "java/lang/CharSequence$1CharIterator"), (5, .class_ 67), (0, u "java/lang/Object")] 63

/-- java/lang/CharSequence -/
def k4 : Class := { plain "java/lang/CharSequence" (some 0) with
  accessFlags := 1537
  interfaces := #[]
  cf := some (fileOf pool4 2 #[.nestMembers #[47, 59]] #[] 1537 66 #[] #[])
  fields := #[]
  methods := #[]
  instanceTypes := #[]
  staticTypes := #[]
  resolved := Array.replicate 131 none
  statics := none }

def pool5 : Array CpInfo := pool [(1, .class_ 2), (0, u "java/lang/constant/Constable"), (0, .class_ 4), (0, u "java/lang/Object")] 6

/-- java/lang/constant/Constable -/
def k5 : Class := { plain "java/lang/constant/Constable" (some 0) with
  accessFlags := 1537
  interfaces := #[]
  cf := some (fileOf pool5 1 #[] #[] 1537 3 #[] #[])
  fields := #[]
  methods := #[]
  instanceTypes := #[]
  staticTypes := #[]
  resolved := Array.replicate 11 none
  statics := none }

def pool6 : Array CpInfo := pool [(1, .class_ 2), (0, u "java/lang/constant/ConstantDesc"), (0, .class_ 4), (0, u "java/lang/Object")] 32

/-- java/lang/constant/ConstantDesc -/
def k6 : Class := { plain "java/lang/constant/ConstantDesc" (some 0) with
  accessFlags := 1537
  interfaces := #[]
  cf := some (fileOf pool6 1 #[] #[] 1537 3 #[] #[])
  fields := #[]
  methods := #[]
  instanceTypes := #[]
  staticTypes := #[]
  resolved := Array.replicate 37 none
  statics := none }

def pool7 : Array CpInfo := pool [(1, .methodref 2 3), (0, .class_ 4), (0, .nameAndType 5 6), (0, u "java/lang/Object"), (0, u "<init>"), (0, u "()V"), (0, .string 8), (0, u ""), (0, .fieldref 10 11), (0, .class_ 12), (0, .nameAndType 13 14), (0, u "java/lang/String"), (0, u "value"), (0, u "[B"), (0, .fieldref 10 16), (0, .nameAndType 17 18), (0, u "coder"), (0, u "B"), (2, u "hash"), (0, u "I"), (2, u "hashIsZero"), (0, u "Z"), (0, .methodref 10 28), (0, .nameAndType 5 29), (0, u "([CIILjava/lang/Void;)V"), (8, .fieldref 10 39), (0, .nameAndType 40 26), (0, u "COMPACT_STRINGS"), (1, .class_ 44), (1, u "java/lang/StringUTF16"), (0, u "compress"), (1, .methodref 42 48), (0, .nameAndType 49 50), (0, u "coderFromArrayLen"), (0, u "([BI)B"), (56, .class_ 109), (1, u "java/lang/StringLatin1"), (32, u "()Z"), (34, .methodref 42 178), (0, .nameAndType 45 179), (0, u "([CII)[B"), (154, u "()I"), (0, .methodref 10 336), (0, .nameAndType 17 337), (0, u "()B"), (25, u "([BI)C"), (27, u "(II)V"), (35, u "(I)C"), (64, .methodref 10 493), (0, .nameAndType 494 142), (0, u "isLatin1"), (0, .methodref 107 496), (0, .nameAndType 497 363), (0, u "charAt"), (0, .methodref 42 496), (2, u "checkIndex"), (5, u "length"), (67, .class_ 576), (0, u "java/lang/CharSequence"), (22, u "CASE_INSENSITIVE_ORDER"), (0, u "Ljava/util/Comparator;"), (409, u "([C)V"), (42, .fieldref 1054 1055), (0, .class_ 1056), (0, .nameAndType 1057 1058), (0, u "jdk/internal/util/Preconditions"), (0, u "SIOOBE_FORMATTER"), (0, u "Ljava/util/function/BiFunction;"), (0, .methodref 1054 1060), (0, .nameAndType 501 1061), (0, u "(IILjava/util/function/BiFunction;)I"), (39, u "serialPersistentFields"), (0, u "[Ljava/io/ObjectStreamField;"), (0, .class_ 1104), (0, u "java/lang/String$CaseInsensitiveComparator"), (1, .class_ 1107), (0, u "java/io/Serializable"), (0, .class_ 1109), (0, u "java/lang/Comparable"), (0, .class_ 1111), (0, u "java/lang/constant/Constable"), (0, .class_ 1113), (0, u "java/lang/constant/ConstantDesc"), (2, u "serialVersionUID"), (0, u "J"), (3, u "REPL"), (0, u "C"), (2, u "LATIN1"), (1, u "UTF16")] 323

def k7m0 : Method := { name := "<init>", desc := "()V", sig := { parameters := [], returnType := none }, accessFlags := 1, code := none }
def k7c1 : Code := { maxStack := 5, maxLocals := 2, code := jdk_42_method_3_code, exceptionTable := #[], attributes := #[] }
def k7m1 : Method := { name := "<init>", desc := "([C)V", sig := { parameters := [(.array .char)], returnType := none }, accessFlags := 1, code := some k7c1 }
def k7c2 : Code := { maxStack := 2, maxLocals := 1, code := jdk_42_method_54_code, exceptionTable := #[], attributes := #[] }
def k7m2 : Method := { name := "length", desc := "()I", sig := { parameters := [], returnType := some .int }, accessFlags := 1, code := some k7c2 }
def k7c3 : Code := { maxStack := 2, maxLocals := 2, code := jdk_42_method_56_code, exceptionTable := #[], attributes := #[] }
def k7m3 : Method := { name := "charAt", desc := "(I)C", sig := { parameters := [.int], returnType := some .char }, accessFlags := 1, code := some k7c3 }
def k7c4 : Code := { maxStack := 4, maxLocals := 6, code := jdk_42_method_149_code, exceptionTable := #[], attributes := #[] }
def k7m4 : Method := { name := "<init>", desc := "([CIILjava/lang/Void;)V", sig := { parameters := [(.array .char), .int, .int, (.object "java/lang/Void")], returnType := none }, accessFlags := 2, code := some k7c4 }
def k7c5 : Code := { maxStack := 1, maxLocals := 1, code := jdk_42_method_152_code, exceptionTable := #[], attributes := #[] }
def k7m5 : Method := { name := "coder", desc := "()B", sig := { parameters := [], returnType := some .byte }, accessFlags := 0, code := some k7c5 }
def k7c6 : Code := { maxStack := 1, maxLocals := 1, code := jdk_42_method_154_code, exceptionTable := #[], attributes := #[] }
def k7m6 : Method := { name := "isLatin1", desc := "()Z", sig := { parameters := [], returnType := some .boolean }, accessFlags := 0, code := some k7c6 }
def k7c7 : Code := { maxStack := 3, maxLocals := 2, code := jdk_42_method_155_code, exceptionTable := #[], attributes := #[] }
def k7m7 : Method := { name := "checkIndex", desc := "(II)V", sig := { parameters := [.int, .int], returnType := none }, accessFlags := 8, code := some k7c7 }
/-- java/lang/String -/
def k7 : Class := { plain "java/lang/String" (some 0) with
  accessFlags := 49
  interfaces := #[2, 3, 4, 5, 6]
  cf := some (fileOf pool7 10 #[.nestMembers #[1103]] #[{ accessFlags := 1, nameIndex := 5, descriptorIndex := 6, attributes := #[] }, { accessFlags := 1, nameIndex := 5, descriptorIndex := 1010, attributes := #[] }, { accessFlags := 1, nameIndex := 507, descriptorIndex := 334, attributes := #[] }, { accessFlags := 1, nameIndex := 497, descriptorIndex := 427, attributes := #[] }, { accessFlags := 2, nameIndex := 5, descriptorIndex := 29, attributes := #[] }, { accessFlags := 0, nameIndex := 17, descriptorIndex := 337, attributes := #[] }, { accessFlags := 0, nameIndex := 494, descriptorIndex := 142, attributes := #[] }, { accessFlags := 8, nameIndex := 501, descriptorIndex := 391, attributes := #[] }] 49 2 #[1106, 1108, 575, 1110, 1112] #[{ accessFlags := 18, nameIndex := 13, descriptorIndex := 14, attributes := #[] }, { accessFlags := 18, nameIndex := 17, descriptorIndex := 18, attributes := #[] }, { accessFlags := 2, nameIndex := 21, descriptorIndex := 22, attributes := #[] }, { accessFlags := 2, nameIndex := 25, descriptorIndex := 26, attributes := #[] }, { accessFlags := 26, nameIndex := 1116, descriptorIndex := 1117, attributes := #[] }, { accessFlags := 24, nameIndex := 40, descriptorIndex := 26, attributes := #[] }, { accessFlags := 26, nameIndex := 1101, descriptorIndex := 1102, attributes := #[] }, { accessFlags := 26, nameIndex := 1121, descriptorIndex := 1122, attributes := #[] }, { accessFlags := 25, nameIndex := 599, descriptorIndex := 600, attributes := #[] }, { accessFlags := 24, nameIndex := 1125, descriptorIndex := 18, attributes := #[] }, { accessFlags := 24, nameIndex := 1127, descriptorIndex := 18, attributes := #[] }])
  fields := #[{ name := "value", type := (.array .byte), accessFlags := 18, slot := 0, constantValue := 0 }, { name := "coder", type := .byte, accessFlags := 18, slot := 1, constantValue := 0 }, { name := "hash", type := .int, accessFlags := 2, slot := 2, constantValue := 0 }, { name := "hashIsZero", type := .boolean, accessFlags := 2, slot := 3, constantValue := 0 }, { name := "serialVersionUID", type := .long, accessFlags := 26, slot := 0, constantValue := 0 }, { name := "COMPACT_STRINGS", type := .boolean, accessFlags := 24, slot := 1, constantValue := 0 }, { name := "serialPersistentFields", type := (.array (.object "java/io/ObjectStreamField")), accessFlags := 26, slot := 2, constantValue := 0 }, { name := "REPL", type := .char, accessFlags := 26, slot := 3, constantValue := 0 }, { name := "CASE_INSENSITIVE_ORDER", type := (.object "java/util/Comparator"), accessFlags := 25, slot := 4, constantValue := 0 }, { name := "LATIN1", type := .byte, accessFlags := 24, slot := 5, constantValue := 0 }, { name := "UTF16", type := .byte, accessFlags := 24, slot := 6, constantValue := 0 }]
  methods := #[k7m0, k7m1, k7m2, k7m3, k7m4, k7m5, k7m6, k7m7]
  instanceTypes := #[(.array .byte), .byte, .int, .boolean]
  staticTypes := #[.long, .boolean, (.array (.object "java/io/ObjectStreamField")), .char, (.object "java/util/Comparator"), .byte, .byte]
  resolved := Array.replicate 1451 none
  statics := some 0 }

def pool8 : Array CpInfo := pool [(2, .class_ 4), (1, u "java/lang/Object"), (0, u "<init>"), (0, u "()V"), (0, .methodref 8 9), (0, .class_ 10), (0, .nameAndType 11 12), (0, u "java/lang/String"), (0, u "length"), (0, u "()I"), (0, .methodref 8 14), (0, .nameAndType 15 16), (0, u "charAt"), (0, u "(I)C"), (17, .class_ 36), (1, u "com/example/rolemesh/rolemesh/client/HttpMessages"), (69, u "isFieldValue"), (0, u "(Ljava/lang/String;)Z"), (11, .class_ 120), (0, u "com/example/rolemesh/rolemesh/client/HttpMessages$Lines"), (10, .class_ 132), (0, u "com/example/rolemesh/rolemesh/client/HttpMessages$Unanswered"), (10, .class_ 145), (1, u "com/example/rolemesh/rolemesh/client/HttpMessages$Head"), (4, u "I"), (46, .class_ 198), (0, u "com/example/rolemesh/rolemesh/client/HttpMessages$Answer"), (8, u "CHUNK_SIZE"), (0, u "Ljava/util/regex/Pattern;"), (48, u "STATUS_LINE"), (4, u "FIELD_NAME"), (4, u "DIGITS"), (2, u "MAX_LINE_BYTES")] 37

def k8m0 : Method := { name := "<init>", desc := "()V", sig := { parameters := [], returnType := none }, accessFlags := 2, code := none }
def k8c1 : Code := { maxStack := 2, maxLocals := 3, code := prog_53_method_2_code, exceptionTable := #[], attributes := #[] }
def k8m1 : Method := { name := "isFieldValue", desc := "(Ljava/lang/String;)Z", sig := { parameters := [(.object "java/lang/String")], returnType := some .boolean }, accessFlags := 8, code := some k8c1 }
/-- com/example/rolemesh/rolemesh/client/HttpMessages -/
def k8 : Class := { plain "com/example/rolemesh/rolemesh/client/HttpMessages" (some 0) with
  accessFlags := 48
  interfaces := #[]
  cf := some (fileOf pool8 34 #[.nestMembers #[143, 119, 131, 197]] #[{ accessFlags := 2, nameIndex := 5, descriptorIndex := 6, attributes := #[] }, { accessFlags := 8, nameIndex := 106, descriptorIndex := 107, attributes := #[] }] 48 2 #[] #[{ accessFlags := 24, nameIndex := 270, descriptorIndex := 150, attributes := #[] }, { accessFlags := 26, nameIndex := 257, descriptorIndex := 208, attributes := #[] }, { accessFlags := 26, nameIndex := 262, descriptorIndex := 208, attributes := #[] }, { accessFlags := 26, nameIndex := 267, descriptorIndex := 208, attributes := #[] }, { accessFlags := 26, nameIndex := 207, descriptorIndex := 208, attributes := #[] }])
  fields := #[{ name := "MAX_LINE_BYTES", type := .int, accessFlags := 24, slot := 0, constantValue := 0 }, { name := "STATUS_LINE", type := (.object "java/util/regex/Pattern"), accessFlags := 26, slot := 1, constantValue := 0 }, { name := "FIELD_NAME", type := (.object "java/util/regex/Pattern"), accessFlags := 26, slot := 2, constantValue := 0 }, { name := "DIGITS", type := (.object "java/util/regex/Pattern"), accessFlags := 26, slot := 3, constantValue := 0 }, { name := "CHUNK_SIZE", type := (.object "java/util/regex/Pattern"), accessFlags := 26, slot := 4, constantValue := 0 }]
  methods := #[k8m0, k8m1]
  instanceTypes := #[]
  staticTypes := #[.int, (.object "java/util/regex/Pattern"), (.object "java/util/regex/Pattern"), (.object "java/util/regex/Pattern"), (.object "java/util/regex/Pattern")]
  resolved := Array.replicate 308 none
  statics := none }

def pool9 : Array CpInfo := pool [(3, .class_ 4), (0, u "java/lang/String"), (1, .class_ 8), (1, u "java/lang/Object"), (0, u "<init>"), (0, u "()V"), (0, .methodref 12 13), (0, .class_ 14), (0, .nameAndType 15 16), (0, u "java/lang/StringUTF16"), (0, u "newBytesLength"), (0, u "(I)I"), (3, .integer 1073741823), (23, .fieldref 12 45), (0, .nameAndType 46 47), (0, u "$assertionsDisabled"), (0, u "Z"), (0, .methodref 12 49), (0, .nameAndType 50 51), (0, u "length"), (0, u "([B)I"), (7, .fieldref 12 60), (0, .nameAndType 61 62), (0, u "HI_BYTE_SHIFT"), (0, u "I"), (0, .fieldref 12 64), (0, .nameAndType 65 62), (0, u "LO_BYTE_SHIFT"), (1, .methodref 12 68), (0, .nameAndType 69 70), (0, u "checkIndex"), (0, u "(I[B)V"), (0, .methodref 12 72), (0, .nameAndType 73 74), (0, u "getChar"), (0, u "([BI)C"), (32, .methodref 12 108), (0, .nameAndType 109 110), (0, u "newBytesFor"), (0, u "(I)[B"), (0, .methodref 12 112), (0, .nameAndType 113 114), (0, u "putChar"), (0, u "([BII)V"), (0, .methodref 12 116), (0, .nameAndType 117 118), (0, u "compress"), (0, u "([CI[BII)I"), (0, .methodref 12 120), (0, .nameAndType 121 122), (0, u "toBytes"), (0, u "([CII)[B"), (138, u "coderFromArrayLen"), (0, u "([BI)B"), (106, .class_ 371), (1, u "java/lang/StringUTF16$LinesSpliterator"), (20, u "charAt"), (21, .methodref 3 415), (0, .nameAndType 69 416), (0, u "(II)V"), (13, u "MAX_LENGTH"), (196, .class_ 628), (0, u "java/lang/StringUTF16$CodePointsSpliterator"), (0, .class_ 630), (0, u "java/lang/StringUTF16$CharsSpliterator")] 4

def k9m0 : Method := { name := "<init>", desc := "()V", sig := { parameters := [], returnType := none }, accessFlags := 0, code := none }
def k9c1 : Code := { maxStack := 1, maxLocals := 1, code := jdk_52_method_2_code, exceptionTable := #[], attributes := #[] }
def k9m1 : Method := { name := "newBytesFor", desc := "(I)[B", sig := { parameters := [.int], returnType := some (.array .byte) }, accessFlags := 9, code := some k9c1 }
def k9c2 : Code := { maxStack := 4, maxLocals := 1, code := jdk_52_method_3_code, exceptionTable := #[], attributes := #[] }
def k9m2 : Method := { name := "newBytesLength", desc := "(I)I", sig := { parameters := [.int], returnType := some .int }, accessFlags := 9, code := some k9c2 }
def k9c3 : Code := { maxStack := 4, maxLocals := 3, code := jdk_52_method_4_code, exceptionTable := #[], attributes := #[] }
def k9m3 : Method := { name := "putChar", desc := "([BII)V", sig := { parameters := [(.array .byte), .int, .int], returnType := none }, accessFlags := 8, code := some k9c3 }
def k9c4 : Code := { maxStack := 3, maxLocals := 2, code := jdk_52_method_5_code, exceptionTable := #[], attributes := #[] }
def k9m4 : Method := { name := "getChar", desc := "([BI)C", sig := { parameters := [(.array .byte), .int], returnType := some .char }, accessFlags := 8, code := some k9c4 }
def k9c5 : Code := { maxStack := 2, maxLocals := 1, code := jdk_52_method_6_code, exceptionTable := #[], attributes := #[] }
def k9m5 : Method := { name := "length", desc := "([B)I", sig := { parameters := [(.array .byte)], returnType := some .int }, accessFlags := 9, code := some k9c5 }
def k9c6 : Code := { maxStack := 4, maxLocals := 5, code := jdk_52_method_14_code, exceptionTable := #[], attributes := #[] }
def k9m6 : Method := { name := "toBytes", desc := "([CII)[B", sig := { parameters := [(.array .char), .int, .int], returnType := some (.array .byte) }, accessFlags := 9, code := some k9c6 }
def k9c7 : Code := { maxStack := 2, maxLocals := 2, code := jdk_52_method_15_code, exceptionTable := #[], attributes := #[] }
def k9m7 : Method := { name := "coderFromArrayLen", desc := "([BI)B", sig := { parameters := [(.array .byte), .int], returnType := some .byte }, accessFlags := 8, code := some k9c7 }
def k9c8 : Code := { maxStack := 5, maxLocals := 6, code := jdk_52_method_16_code, exceptionTable := #[], attributes := #[] }
def k9m8 : Method := { name := "compress", desc := "([CII)[B", sig := { parameters := [(.array .char), .int, .int], returnType := some (.array .byte) }, accessFlags := 9, code := some k9c8 }
def k9c9 : Code := { maxStack := 3, maxLocals := 7, code := jdk_52_method_21_code, exceptionTable := #[], attributes := #[] }
def k9m9 : Method := { name := "compress", desc := "([CI[BII)I", sig := { parameters := [(.array .char), .int, (.array .byte), .int, .int], returnType := some .int }, accessFlags := 9, code := some k9c9 }
def k9c10 : Code := { maxStack := 2, maxLocals := 2, code := jdk_52_method_83_code, exceptionTable := #[], attributes := #[] }
def k9m10 : Method := { name := "charAt", desc := "([BI)C", sig := { parameters := [(.array .byte), .int], returnType := some .char }, accessFlags := 9, code := some k9c10 }
def k9c11 : Code := { maxStack := 2, maxLocals := 2, code := jdk_52_method_91_code, exceptionTable := #[], attributes := #[] }
def k9m11 : Method := { name := "checkIndex", desc := "(I[B)V", sig := { parameters := [.int, (.array .byte)], returnType := none }, accessFlags := 9, code := some k9c11 }
/-- java/lang/StringUTF16 -/
def k9 : Class := { plain "java/lang/StringUTF16" (some 0) with
  accessFlags := 48
  interfaces := #[]
  cf := some (fileOf pool9 12 #[.nestMembers #[627, 629, 369]] #[{ accessFlags := 0, nameIndex := 9, descriptorIndex := 10, attributes := #[] }, { accessFlags := 9, nameIndex := 109, descriptorIndex := 110, attributes := #[] }, { accessFlags := 9, nameIndex := 15, descriptorIndex := 16, attributes := #[] }, { accessFlags := 8, nameIndex := 113, descriptorIndex := 114, attributes := #[] }, { accessFlags := 8, nameIndex := 73, descriptorIndex := 74, attributes := #[] }, { accessFlags := 9, nameIndex := 50, descriptorIndex := 51, attributes := #[] }, { accessFlags := 9, nameIndex := 121, descriptorIndex := 122, attributes := #[] }, { accessFlags := 8, nameIndex := 261, descriptorIndex := 262, attributes := #[] }, { accessFlags := 9, nameIndex := 117, descriptorIndex := 122, attributes := #[] }, { accessFlags := 9, nameIndex := 117, descriptorIndex := 118, attributes := #[] }, { accessFlags := 9, nameIndex := 392, descriptorIndex := 74, attributes := #[] }, { accessFlags := 9, nameIndex := 69, descriptorIndex := 70, attributes := #[] }] 48 6 #[] #[{ accessFlags := 26, nameIndex := 61, descriptorIndex := 62, attributes := #[] }, { accessFlags := 26, nameIndex := 65, descriptorIndex := 62, attributes := #[] }, { accessFlags := 24, nameIndex := 430, descriptorIndex := 62, attributes := #[] }, { accessFlags := 4120, nameIndex := 46, descriptorIndex := 47, attributes := #[] }])
  fields := #[{ name := "HI_BYTE_SHIFT", type := .int, accessFlags := 26, slot := 0, constantValue := 0 }, { name := "LO_BYTE_SHIFT", type := .int, accessFlags := 26, slot := 1, constantValue := 0 }, { name := "MAX_LENGTH", type := .int, accessFlags := 24, slot := 2, constantValue := 0 }, { name := "$assertionsDisabled", type := .boolean, accessFlags := 4120, slot := 3, constantValue := 0 }]
  methods := #[k9m0, k9m1, k9m2, k9m3, k9m4, k9m5, k9m6, k9m7, k9m8, k9m9, k9m10, k9m11]
  instanceTypes := #[]
  staticTypes := #[.int, .int, .int, .boolean]
  resolved := Array.replicate 635 none
  statics := some 1 }

def pool10 : Array CpInfo := pool [(1, .class_ 2), (0, u "java/lang/String"), (1, .class_ 6), (1, u "java/lang/Object"), (0, u "<init>"), (0, u "()V"), (0, .methodref 1 10), (0, .nameAndType 11 12), (0, u "checkIndex"), (0, u "(II)V"), (1, .class_ 16), (1, u "java/lang/StringLatin1"), (36, u "([BI)C"), (67, u "$assertionsDisabled"), (0, u "Z"), (98, .class_ 223), (1, u "java/lang/StringLatin1$LinesSpliterator"), (28, u "charAt"), (137, .class_ 391), (0, u "java/lang/StringLatin1$CharsSpliterator")] 3

def k10m0 : Method := { name := "<init>", desc := "()V", sig := { parameters := [], returnType := none }, accessFlags := 0, code := none }
def k10c1 : Code := { maxStack := 2, maxLocals := 2, code := jdk_43_method_2_code, exceptionTable := #[], attributes := #[] }
def k10m1 : Method := { name := "charAt", desc := "([BI)C", sig := { parameters := [(.array .byte), .int], returnType := some .char }, accessFlags := 9, code := some k10c1 }
/-- java/lang/StringLatin1 -/
def k10 : Class := { plain "java/lang/StringLatin1" (some 0) with
  accessFlags := 48
  interfaces := #[]
  cf := some (fileOf pool10 14 #[.nestMembers #[390, 221]] #[{ accessFlags := 0, nameIndex := 7, descriptorIndex := 8, attributes := #[] }, { accessFlags := 9, nameIndex := 252, descriptorIndex := 53, attributes := #[] }] 48 4 #[] #[{ accessFlags := 4120, nameIndex := 121, descriptorIndex := 122, attributes := #[] }])
  fields := #[{ name := "$assertionsDisabled", type := .boolean, accessFlags := 4120, slot := 0, constantValue := 0 }]
  methods := #[k10m0, k10m1]
  instanceTypes := #[]
  staticTypes := #[.boolean]
  resolved := Array.replicate 395 none
  statics := none }

def pool11 : Array CpInfo := pool [(2, .class_ 4), (1, u "java/lang/Object"), (0, u "<init>"), (0, u "()V"), (17, .class_ 26), (1, u "jdk/internal/util/Preconditions"), (6, u "checkIndex"), (21, .class_ 56), (0, u "jdk/internal/util/Preconditions$4"), (57, .class_ 115), (0, u "jdk/internal/util/Preconditions$1"), (7, u "SIOOBE_FORMATTER"), (0, u "Ljava/util/function/BiFunction;"), (0, .class_ 126), (0, u "jdk/internal/util/Preconditions$2"), (3, u "AIOOBE_FORMATTER"), (0, .class_ 132), (0, u "jdk/internal/util/Preconditions$3"), (3, u "IOOBE_FORMATTER"), (41, u "(IILjava/util/function/BiFunction;)I")] 15

def k11m0 : Method := { name := "<init>", desc := "()V", sig := { parameters := [], returnType := none }, accessFlags := 1, code := none }
def k11c1 : Code := { maxStack := 3, maxLocals := 3, code := jdk_41_method_11_code, exceptionTable := #[], attributes := #[] }
def k11m1 : Method := { name := "checkIndex", desc := "(IILjava/util/function/BiFunction;)I", sig := { parameters := [.int, .int, (.object "java/util/function/BiFunction")], returnType := some .int }, accessFlags := 9, code := some k11c1 }
/-- jdk/internal/util/Preconditions -/
def k11 : Class := { plain "jdk/internal/util/Preconditions" (some 0) with
  accessFlags := 33
  interfaces := #[]
  cf := some (fileOf pool11 24 #[.nestMembers #[55, 131, 125, 114]] #[{ accessFlags := 1, nameIndex := 5, descriptorIndex := 6, attributes := #[] }, { accessFlags := 9, nameIndex := 33, descriptorIndex := 178, attributes := #[] }] 33 2 #[] #[{ accessFlags := 25, nameIndex := 123, descriptorIndex := 124, attributes := #[] }, { accessFlags := 25, nameIndex := 130, descriptorIndex := 124, attributes := #[] }, { accessFlags := 25, nameIndex := 136, descriptorIndex := 124, attributes := #[] }])
  fields := #[{ name := "SIOOBE_FORMATTER", type := (.object "java/util/function/BiFunction"), accessFlags := 25, slot := 0, constantValue := 0 }, { name := "AIOOBE_FORMATTER", type := (.object "java/util/function/BiFunction"), accessFlags := 25, slot := 1, constantValue := 0 }, { name := "IOOBE_FORMATTER", type := (.object "java/util/function/BiFunction"), accessFlags := 25, slot := 2, constantValue := 0 }]
  methods := #[k11m0, k11m1]
  instanceTypes := #[]
  staticTypes := #[(.object "java/util/function/BiFunction"), (.object "java/util/function/BiFunction"), (.object "java/util/function/BiFunction")]
  resolved := Array.replicate 194 none
  statics := some 2 }

def pool12 : Array CpInfo := pool [(9, u "<init>"), (6, .class_ 18), (1, u "java/lang/Object"), (0, u "()V"), (1, .class_ 23), (1, u "jdk/internal/util/ArraysSupport"), (0, u "LOG2_ARRAY_LONG_INDEX_SCALE"), (0, u "I"), (2, u "U"), (0, u "Ljdk/internal/misc/Unsafe;"), (8, u "BIG_ENDIAN"), (0, u "Z"), (8, u "LOG2_BYTE_BIT_SIZE"), (4, u "LOG2_ARRAY_INT_INDEX_SCALE"), (54, u "JLA"), (0, u "Ljdk/internal/access/JavaLangAccess;"), (11, u "LOG2_ARRAY_BOOLEAN_INDEX_SCALE"), (9, u "LOG2_ARRAY_BYTE_INDEX_SCALE"), (5, u "LOG2_ARRAY_CHAR_INDEX_SCALE"), (5, u "LOG2_ARRAY_SHORT_INDEX_SCALE"), (18, u "LOG2_ARRAY_FLOAT_INDEX_SCALE"), (24, u "LOG2_ARRAY_DOUBLE_INDEX_SCALE"), (89, u "T_BOOLEAN"), (2, u "T_CHAR"), (1, u "T_FLOAT"), (1, u "T_DOUBLE"), (1, u "T_BYTE"), (1, u "T_SHORT"), (1, u "T_INT"), (1, u "T_LONG"), (1, u "SOFT_MAX_ARRAY_LENGTH")] 83

def k12m0 : Method := { name := "<init>", desc := "()V", sig := { parameters := [], returnType := none }, accessFlags := 2, code := none }
/-- jdk/internal/util/ArraysSupport -/
def k12 : Class := { plain "jdk/internal/util/ArraysSupport" (some 0) with
  accessFlags := 33
  interfaces := #[]
  cf := some (fileOf pool12 21 #[] #[{ accessFlags := 2, nameIndex := 9, descriptorIndex := 19, attributes := #[] }] 33 16 #[] #[{ accessFlags := 24, nameIndex := 28, descriptorIndex := 29, attributes := #[] }, { accessFlags := 26, nameIndex := 38, descriptorIndex := 39, attributes := #[] }, { accessFlags := 25, nameIndex := 121, descriptorIndex := 25, attributes := #[] }, { accessFlags := 25, nameIndex := 131, descriptorIndex := 25, attributes := #[] }, { accessFlags := 25, nameIndex := 137, descriptorIndex := 25, attributes := #[] }, { accessFlags := 25, nameIndex := 143, descriptorIndex := 25, attributes := #[] }, { accessFlags := 25, nameIndex := 53, descriptorIndex := 25, attributes := #[] }, { accessFlags := 25, nameIndex := 24, descriptorIndex := 25, attributes := #[] }, { accessFlags := 25, nameIndex := 162, descriptorIndex := 25, attributes := #[] }, { accessFlags := 25, nameIndex := 187, descriptorIndex := 25, attributes := #[] }, { accessFlags := 26, nameIndex := 48, descriptorIndex := 25, attributes := #[] }, { accessFlags := 25, nameIndex := 277, descriptorIndex := 25, attributes := #[] }, { accessFlags := 25, nameIndex := 280, descriptorIndex := 25, attributes := #[] }, { accessFlags := 25, nameIndex := 282, descriptorIndex := 25, attributes := #[] }, { accessFlags := 25, nameIndex := 284, descriptorIndex := 25, attributes := #[] }, { accessFlags := 25, nameIndex := 286, descriptorIndex := 25, attributes := #[] }, { accessFlags := 25, nameIndex := 288, descriptorIndex := 25, attributes := #[] }, { accessFlags := 25, nameIndex := 290, descriptorIndex := 25, attributes := #[] }, { accessFlags := 25, nameIndex := 292, descriptorIndex := 25, attributes := #[] }, { accessFlags := 26, nameIndex := 108, descriptorIndex := 109, attributes := #[] }, { accessFlags := 25, nameIndex := 294, descriptorIndex := 25, attributes := #[] }])
  fields := #[{ name := "U", type := (.object "jdk/internal/misc/Unsafe"), accessFlags := 24, slot := 0, constantValue := 0 }, { name := "BIG_ENDIAN", type := .boolean, accessFlags := 26, slot := 1, constantValue := 0 }, { name := "LOG2_ARRAY_BOOLEAN_INDEX_SCALE", type := .int, accessFlags := 25, slot := 2, constantValue := 0 }, { name := "LOG2_ARRAY_BYTE_INDEX_SCALE", type := .int, accessFlags := 25, slot := 3, constantValue := 0 }, { name := "LOG2_ARRAY_CHAR_INDEX_SCALE", type := .int, accessFlags := 25, slot := 4, constantValue := 0 }, { name := "LOG2_ARRAY_SHORT_INDEX_SCALE", type := .int, accessFlags := 25, slot := 5, constantValue := 0 }, { name := "LOG2_ARRAY_INT_INDEX_SCALE", type := .int, accessFlags := 25, slot := 6, constantValue := 0 }, { name := "LOG2_ARRAY_LONG_INDEX_SCALE", type := .int, accessFlags := 25, slot := 7, constantValue := 0 }, { name := "LOG2_ARRAY_FLOAT_INDEX_SCALE", type := .int, accessFlags := 25, slot := 8, constantValue := 0 }, { name := "LOG2_ARRAY_DOUBLE_INDEX_SCALE", type := .int, accessFlags := 25, slot := 9, constantValue := 0 }, { name := "LOG2_BYTE_BIT_SIZE", type := .int, accessFlags := 26, slot := 10, constantValue := 0 }, { name := "T_BOOLEAN", type := .int, accessFlags := 25, slot := 11, constantValue := 0 }, { name := "T_CHAR", type := .int, accessFlags := 25, slot := 12, constantValue := 0 }, { name := "T_FLOAT", type := .int, accessFlags := 25, slot := 13, constantValue := 0 }, { name := "T_DOUBLE", type := .int, accessFlags := 25, slot := 14, constantValue := 0 }, { name := "T_BYTE", type := .int, accessFlags := 25, slot := 15, constantValue := 0 }, { name := "T_SHORT", type := .int, accessFlags := 25, slot := 16, constantValue := 0 }, { name := "T_INT", type := .int, accessFlags := 25, slot := 17, constantValue := 0 }, { name := "T_LONG", type := .int, accessFlags := 25, slot := 18, constantValue := 0 }, { name := "JLA", type := (.object "jdk/internal/access/JavaLangAccess"), accessFlags := 26, slot := 19, constantValue := 0 }, { name := "SOFT_MAX_ARRAY_LENGTH", type := .int, accessFlags := 25, slot := 20, constantValue := 0 }]
  methods := #[k12m0]
  instanceTypes := #[]
  staticTypes := #[(.object "jdk/internal/misc/Unsafe"), .boolean, .int, .int, .int, .int, .int, .int, .int, .int, .int, .int, .int, .int, .int, .int, .int, .int, .int, (.object "jdk/internal/access/JavaLangAccess"), .int]
  resolved := Array.replicate 378 none
  statics := none }

def pool13 : Array CpInfo := pool [(1, u "java/lang/Cloneable"), (0, .class_ 1), (0, u "java/lang/Object"), (0, .class_ 3)] 3

/-- java/lang/Cloneable -/
def k13 : Class := { plain "java/lang/Cloneable" (some 0) with
  accessFlags := 1537
  interfaces := #[]
  cf := some (fileOf pool13 2 #[] #[] 1537 4 #[] #[])
  fields := #[]
  methods := #[]
  instanceTypes := #[]
  staticTypes := #[]
  resolved := Array.replicate 8 none
  statics := none }

/-- the primitive byte -/
def k14 : Class := { plain "byte" none with kind := .primitive 'B', accessFlags := 0x411 }
/-- [B -/
def k15 : Class := { plain "[B" (some 0) with kind := .array 14 .byte, interfaces := #[13, 2], accessFlags := 1041 }

/-- the primitive char -/
def k16 : Class := { plain "char" none with kind := .primitive 'C', accessFlags := 0x411 }
/-- [C -/
def k17 : Class := { plain "[C" (some 0) with kind := .array 16 .char, interfaces := #[13, 2], accessFlags := 1041 }

/-- the primitive int -/
def k18 : Class := { plain "int" none with kind := .primitive 'I', accessFlags := 0x411 }
/-- [I -/
def k19 : Class := { plain "[I" (some 0) with kind := .array 18 .int, interfaces := #[13, 2], accessFlags := 1041 }

def heap : Heap := #[{ cls := 7, slots := #[.long 0, .int 1, .null, .int 0, .null, .int 0, .int 0], vm := .statics 7 },
  { cls := 9, slots := #[.int 0, .int 8, .int 0, .int 1], vm := .statics 9 },
  { cls := 11, slots := #[.null, .null, .null], vm := .statics 11 }]
def classes : Array Class := #[k0, k1, k2, k3, k4, k5, k6, k7, k8, k9, k10, k11, k12, k13, k14, k15, k16, k17, k18, k19]
def interned : List (Array UInt16 × Addr) := []
def slotsUsed : Nat := 14
def theMethod : MethodId := ⟨1, 3⟩
def args0 : Array Value := #[.int 1, .int 65, .int 66, .int 67]
def aboutOver (below : List Frame) : State where
  vm := { classes := classes, interned := interned.toArray }
  heap := heap
  slotsUsed := slotsUsed
  threads := #[{ frames := .invoking theMethod args0 :: below }]
def below0 : List Frame := [.native { method := ⟨0, 0⟩, args := #[] }]
def about1 : State := aboutOver below0
def p0 : Program := .bare "" "" ""
def e0 : Env := launch0.env 0 0 0
theorem w_frames : about1.frames = Frame.invoking theMethod args0 :: below0 := rfl
set_option maxRecDepth 65536 in
theorem w_args : argsFit about1.vm theMethod args0 = true := by decide +kernel
set_option maxRecDepth 65536 in
theorem w_heap : heapFits about1 = true := by decide +kernel
set_option maxRecDepth 65536 in
theorem w_runnable : about1.curStatus? = some .runnable := by decide +kernel
set_option maxRecDepth 65536 in
theorem w_alone : about1.alone = true := by decide +kernel
set_option maxRecDepth 65536 in
theorem w_named : about1.methodNamed? x = some theMethod := by decide +kernel
set_option maxRecDepth 65536 in
theorem w_hears : about1.hears theMethod below0 = true := by decide +kernel
set_option maxRecDepth 65536 in
theorem w_ripe : about1.ripe theMethod args0 below0 = true := by decide +kernel
theorem w_running : about1.status = .running := rfl
set_option maxRecDepth 65536 in
theorem w_room : about1.hasRoom e0.platform room_1 = true :=
  launch0.hasRoom_least _ room_1 (by decide +kernel) (by decide +kernel) (by decide +kernel) (by decide +kernel) (by decide +kernel) (by decide +kernel)
theorem allAtoms_all (ts : List Jvm.Cond) (a : Array Jvm.Value) (st : Jvm.State) : (allAtoms ts).before a st = ts.all (fun c => c.before a st) := by
  induction ts with
  | nil => rfl
  | cons c t ih =>
    show (Jvm.Cond.and c (allAtoms t)).before a st = _
    rw [Jvm.Cond.before_and, ih, List.all_cons]
def words1 : List Jvm.Cond := Jvm.Cond.code x code maxLocals ret :: tables_1
/-- a 'code' word, met by the world's own term for the bytes: nothing is compared byte by byte -/
theorem code_word {y : MethodName} {bytes : ByteArray} {mx : Nat} {rt : Option FieldType} {a : Array Value} {s : State} {m : MethodId} {meth : Method} {c : Code} (h1 : s.methodNamed? y = some m) (h2 : s.vm.method? m = some meth) (h3 : meth.code = some c) (h4 : c.code = bytes)
    (h5 : (c.maxLocals == mx && c.exceptionTable.isEmpty && decide (c.maxStack ≤ mostOperands) && decide (meth.sig.returnType = rt) && !meth.locks && decide (parseMethodDescriptor y.desc = some meth.sig)) = true) : (Jvm.Cond.code y bytes mx rt).before a s = true := by
  simp only [Bool.and_eq_true, beq_iff_eq, Bool.not_eq_true', decide_eq_true_eq] at h5
  obtain ⟨⟨⟨⟨⟨g1, g2⟩, g3⟩, g4⟩, g5⟩, g6⟩ := h5
  simp [Cond.before, Cond.holds, Cond.value, h1, h2, h3, h4, g1, g2, g3, g4, g5, g6]
def isCode : Jvm.Cond → Bool
  | .code _ _ _ _ => true
  | _ => false
theorem all_split {L : List Jvm.Cond} {P : Jvm.Cond → Bool} (h1 : L.all (fun c => isCode c || P c) = true) (h2 : ∀ c ∈ L.filter isCode, P c = true) : L.all P = true := by
  refine List.all_eq_true.mpr fun c hc => ?_
  have h := List.all_eq_true.mp h1 c hc
  rcases Bool.eq_false_or_eq_true (isCode c) with hi | hi
  · exact h2 c (List.mem_filter.mpr ⟨hc, hi⟩)
  · simpa [hi] using h
set_option maxRecDepth 65536 in
theorem w_c0 : (Jvm.Cond.code x code maxLocals ret).before args0 about1 = true := code_word (m := ⟨1, 3⟩) (meth := k1m3) (c := k1c3) (by decide +kernel) rfl rfl rfl (by decide +kernel)
set_option maxRecDepth 65536 in
theorem w_c1 : (Jvm.Cond.code ({ cls := "com/example/rolemesh/rolemesh/client/HttpMessagesIsFieldValuePinLaw", name := "draw", desc := "(I)C" } : Jvm.MethodName) method_2_code (1 : Nat) (Option.some Jvm.ClassFile.FieldType.char)).before args0 about1 = true := code_word (m := ⟨1, 1⟩) (meth := k1m1) (c := k1c1) (by decide +kernel) rfl rfl rfl (by decide +kernel)
set_option maxRecDepth 65536 in
theorem w_c2 : (Jvm.Cond.code ({ cls := "java/lang/String", name := "<init>", desc := "([C)V" } : Jvm.MethodName) jdk_42_method_3_code (2 : Nat) (Option.none : Option Jvm.ClassFile.FieldType)).before args0 about1 = true := code_word (m := ⟨7, 1⟩) (meth := k7m1) (c := k7c1) (by decide +kernel) rfl rfl rfl (by decide +kernel)
set_option maxRecDepth 65536 in
theorem w_c3 : (Jvm.Cond.code ({ cls := "java/lang/String", name := "<init>", desc := "([CIILjava/lang/Void;)V" } : Jvm.MethodName) jdk_42_method_149_code (6 : Nat) (Option.none : Option Jvm.ClassFile.FieldType)).before args0 about1 = true := code_word (m := ⟨7, 4⟩) (meth := k7m4) (c := k7c4) (by decide +kernel) rfl rfl rfl (by decide +kernel)
set_option maxRecDepth 65536 in
theorem w_c4 : (Jvm.Cond.code ({ cls := "java/lang/Object", name := "<init>", desc := "()V" } : Jvm.MethodName) object_method_1_code (1 : Nat) (Option.none : Option Jvm.ClassFile.FieldType)).before args0 about1 = true := code_word (m := ⟨0, 0⟩) (meth := k0m0) (c := k0c0) (by decide +kernel) rfl rfl rfl (by decide +kernel)
set_option maxRecDepth 65536 in
theorem w_c5 : (Jvm.Cond.code ({ cls := "com/example/rolemesh/rolemesh/client/HttpMessages", name := "isFieldValue", desc := "(Ljava/lang/String;)Z" } : Jvm.MethodName) prog_53_method_2_code (3 : Nat) (Option.some Jvm.ClassFile.FieldType.boolean)).before args0 about1 = true := code_word (m := ⟨8, 1⟩) (meth := k8m1) (c := k8c1) (by decide +kernel) rfl rfl rfl (by decide +kernel)
set_option maxRecDepth 65536 in
theorem w_c6 : (Jvm.Cond.code ({ cls := "java/lang/String", name := "length", desc := "()I" } : Jvm.MethodName) jdk_42_method_54_code (1 : Nat) (Option.some Jvm.ClassFile.FieldType.int)).before args0 about1 = true := code_word (m := ⟨7, 2⟩) (meth := k7m2) (c := k7c2) (by decide +kernel) rfl rfl rfl (by decide +kernel)
set_option maxRecDepth 65536 in
theorem w_c7 : (Jvm.Cond.code ({ cls := "java/lang/String", name := "coder", desc := "()B" } : Jvm.MethodName) jdk_42_method_152_code (1 : Nat) (Option.some Jvm.ClassFile.FieldType.byte)).before args0 about1 = true := code_word (m := ⟨7, 5⟩) (meth := k7m5) (c := k7c5) (by decide +kernel) rfl rfl rfl (by decide +kernel)
set_option maxRecDepth 65536 in
theorem w_c8 : (Jvm.Cond.code ({ cls := "java/lang/StringUTF16", name := "compress", desc := "([CII)[B" } : Jvm.MethodName) jdk_52_method_16_code (6 : Nat) (Option.some (Jvm.ClassFile.FieldType.array Jvm.ClassFile.FieldType.byte))).before args0 about1 = true := code_word (m := ⟨9, 8⟩) (meth := k9m8) (c := k9c8) (by decide +kernel) rfl rfl rfl (by decide +kernel)
set_option maxRecDepth 65536 in
theorem w_c9 : (Jvm.Cond.code ({ cls := "java/lang/StringUTF16", name := "compress", desc := "([CI[BII)I" } : Jvm.MethodName) jdk_52_method_21_code (7 : Nat) (Option.some Jvm.ClassFile.FieldType.int)).before args0 about1 = true := code_word (m := ⟨9, 9⟩) (meth := k9m9) (c := k9c9) (by decide +kernel) rfl rfl rfl (by decide +kernel)
set_option maxRecDepth 65536 in
theorem w_c10 : (Jvm.Cond.code ({ cls := "java/lang/StringUTF16", name := "coderFromArrayLen", desc := "([BI)B" } : Jvm.MethodName) jdk_52_method_15_code (2 : Nat) (Option.some Jvm.ClassFile.FieldType.byte)).before args0 about1 = true := code_word (m := ⟨9, 7⟩) (meth := k9m7) (c := k9c7) (by decide +kernel) rfl rfl rfl (by decide +kernel)
set_option maxRecDepth 65536 in
theorem w_c11 : (Jvm.Cond.code ({ cls := "com/example/rolemesh/rolemesh/client/HttpMessagesIsFieldValuePinLaw", name := "ok", desc := "(C)Z" } : Jvm.MethodName) method_3_code (1 : Nat) (Option.some Jvm.ClassFile.FieldType.boolean)).before args0 about1 = true := code_word (m := ⟨1, 2⟩) (meth := k1m2) (c := k1c2) (by decide +kernel) rfl rfl rfl (by decide +kernel)
set_option maxRecDepth 65536 in
theorem w_c12 : (Jvm.Cond.code ({ cls := "java/lang/String", name := "charAt", desc := "(I)C" } : Jvm.MethodName) jdk_42_method_56_code (2 : Nat) (Option.some Jvm.ClassFile.FieldType.char)).before args0 about1 = true := code_word (m := ⟨7, 3⟩) (meth := k7m3) (c := k7c3) (by decide +kernel) rfl rfl rfl (by decide +kernel)
set_option maxRecDepth 65536 in
theorem w_c13 : (Jvm.Cond.code ({ cls := "java/lang/String", name := "isLatin1", desc := "()Z" } : Jvm.MethodName) jdk_42_method_154_code (1 : Nat) (Option.some Jvm.ClassFile.FieldType.boolean)).before args0 about1 = true := code_word (m := ⟨7, 6⟩) (meth := k7m6) (c := k7c6) (by decide +kernel) rfl rfl rfl (by decide +kernel)
set_option maxRecDepth 65536 in
theorem w_c14 : (Jvm.Cond.code ({ cls := "java/lang/StringLatin1", name := "charAt", desc := "([BI)C" } : Jvm.MethodName) jdk_43_method_2_code (2 : Nat) (Option.some Jvm.ClassFile.FieldType.char)).before args0 about1 = true := code_word (m := ⟨10, 1⟩) (meth := k10m1) (c := k10c1) (by decide +kernel) rfl rfl rfl (by decide +kernel)
set_option maxRecDepth 65536 in
theorem w_c15 : (Jvm.Cond.code ({ cls := "java/lang/String", name := "checkIndex", desc := "(II)V" } : Jvm.MethodName) jdk_42_method_155_code (2 : Nat) (Option.none : Option Jvm.ClassFile.FieldType)).before args0 about1 = true := code_word (m := ⟨7, 7⟩) (meth := k7m7) (c := k7c7) (by decide +kernel) rfl rfl rfl (by decide +kernel)
set_option maxRecDepth 65536 in
theorem w_c16 : (Jvm.Cond.code ({ cls := "jdk/internal/util/Preconditions", name := "checkIndex", desc := "(IILjava/util/function/BiFunction;)I" } : Jvm.MethodName) jdk_41_method_11_code (3 : Nat) (Option.some Jvm.ClassFile.FieldType.int)).before args0 about1 = true := code_word (m := ⟨11, 1⟩) (meth := k11m1) (c := k11c1) (by decide +kernel) rfl rfl rfl (by decide +kernel)
set_option maxRecDepth 65536 in
theorem w_c17 : (Jvm.Cond.code ({ cls := "java/lang/StringUTF16", name := "toBytes", desc := "([CII)[B" } : Jvm.MethodName) jdk_52_method_14_code (5 : Nat) (Option.some (Jvm.ClassFile.FieldType.array Jvm.ClassFile.FieldType.byte))).before args0 about1 = true := code_word (m := ⟨9, 6⟩) (meth := k9m6) (c := k9c6) (by decide +kernel) rfl rfl rfl (by decide +kernel)
set_option maxRecDepth 65536 in
theorem w_c18 : (Jvm.Cond.code ({ cls := "java/lang/StringUTF16", name := "newBytesFor", desc := "(I)[B" } : Jvm.MethodName) jdk_52_method_2_code (1 : Nat) (Option.some (Jvm.ClassFile.FieldType.array Jvm.ClassFile.FieldType.byte))).before args0 about1 = true := code_word (m := ⟨9, 1⟩) (meth := k9m1) (c := k9c1) (by decide +kernel) rfl rfl rfl (by decide +kernel)
set_option maxRecDepth 65536 in
theorem w_c19 : (Jvm.Cond.code ({ cls := "java/lang/StringUTF16", name := "newBytesLength", desc := "(I)I" } : Jvm.MethodName) jdk_52_method_3_code (1 : Nat) (Option.some Jvm.ClassFile.FieldType.int)).before args0 about1 = true := code_word (m := ⟨9, 2⟩) (meth := k9m2) (c := k9c2) (by decide +kernel) rfl rfl rfl (by decide +kernel)
set_option maxRecDepth 65536 in
theorem w_c20 : (Jvm.Cond.code ({ cls := "java/lang/StringUTF16", name := "putChar", desc := "([BII)V" } : Jvm.MethodName) jdk_52_method_4_code (3 : Nat) (Option.none : Option Jvm.ClassFile.FieldType)).before args0 about1 = true := code_word (m := ⟨9, 3⟩) (meth := k9m3) (c := k9c3) (by decide +kernel) rfl rfl rfl (by decide +kernel)
set_option maxRecDepth 65536 in
theorem w_c21 : (Jvm.Cond.code ({ cls := "java/lang/StringUTF16", name := "getChar", desc := "([BI)C" } : Jvm.MethodName) jdk_52_method_5_code (2 : Nat) (Option.some Jvm.ClassFile.FieldType.char)).before args0 about1 = true := code_word (m := ⟨9, 4⟩) (meth := k9m4) (c := k9c4) (by decide +kernel) rfl rfl rfl (by decide +kernel)
set_option maxRecDepth 65536 in
theorem w_c22 : (Jvm.Cond.code ({ cls := "java/lang/StringUTF16", name := "charAt", desc := "([BI)C" } : Jvm.MethodName) jdk_52_method_83_code (2 : Nat) (Option.some Jvm.ClassFile.FieldType.char)).before args0 about1 = true := code_word (m := ⟨9, 10⟩) (meth := k9m10) (c := k9c10) (by decide +kernel) rfl rfl rfl (by decide +kernel)
set_option maxRecDepth 65536 in
theorem w_c23 : (Jvm.Cond.code ({ cls := "java/lang/StringUTF16", name := "checkIndex", desc := "(I[B)V" } : Jvm.MethodName) jdk_52_method_91_code (2 : Nat) (Option.none : Option Jvm.ClassFile.FieldType)).before args0 about1 = true := code_word (m := ⟨9, 11⟩) (meth := k9m11) (c := k9c11) (by decide +kernel) rfl rfl rfl (by decide +kernel)
set_option maxRecDepth 65536 in
theorem w_c24 : (Jvm.Cond.code ({ cls := "java/lang/StringUTF16", name := "length", desc := "([B)I" } : Jvm.MethodName) jdk_52_method_6_code (1 : Nat) (Option.some Jvm.ClassFile.FieldType.int)).before args0 about1 = true := code_word (m := ⟨9, 5⟩) (meth := k9m5) (c := k9c5) (by decide +kernel) rfl rfl rfl (by decide +kernel)
def codes1 : List Jvm.Cond := [Jvm.Cond.code x code maxLocals ret, Jvm.Cond.code ({ cls := "com/example/rolemesh/rolemesh/client/HttpMessagesIsFieldValuePinLaw", name := "draw", desc := "(I)C" } : Jvm.MethodName) method_2_code (1 : Nat) (Option.some Jvm.ClassFile.FieldType.char), Jvm.Cond.code ({ cls := "java/lang/String", name := "<init>", desc := "([C)V" } : Jvm.MethodName) jdk_42_method_3_code (2 : Nat) (Option.none : Option Jvm.ClassFile.FieldType), Jvm.Cond.code ({ cls := "java/lang/String", name := "<init>", desc := "([CIILjava/lang/Void;)V" } : Jvm.MethodName) jdk_42_method_149_code (6 : Nat) (Option.none : Option Jvm.ClassFile.FieldType), Jvm.Cond.code ({ cls := "java/lang/Object", name := "<init>", desc := "()V" } : Jvm.MethodName) object_method_1_code (1 : Nat) (Option.none : Option Jvm.ClassFile.FieldType), Jvm.Cond.code ({ cls := "com/example/rolemesh/rolemesh/client/HttpMessages", name := "isFieldValue", desc := "(Ljava/lang/String;)Z" } : Jvm.MethodName) prog_53_method_2_code (3 : Nat) (Option.some Jvm.ClassFile.FieldType.boolean), Jvm.Cond.code ({ cls := "java/lang/String", name := "length", desc := "()I" } : Jvm.MethodName) jdk_42_method_54_code (1 : Nat) (Option.some Jvm.ClassFile.FieldType.int), Jvm.Cond.code ({ cls := "java/lang/String", name := "coder", desc := "()B" } : Jvm.MethodName) jdk_42_method_152_code (1 : Nat) (Option.some Jvm.ClassFile.FieldType.byte), Jvm.Cond.code ({ cls := "java/lang/StringUTF16", name := "compress", desc := "([CII)[B" } : Jvm.MethodName) jdk_52_method_16_code (6 : Nat) (Option.some (Jvm.ClassFile.FieldType.array Jvm.ClassFile.FieldType.byte)), Jvm.Cond.code ({ cls := "java/lang/StringUTF16", name := "compress", desc := "([CI[BII)I" } : Jvm.MethodName) jdk_52_method_21_code (7 : Nat) (Option.some Jvm.ClassFile.FieldType.int), Jvm.Cond.code ({ cls := "java/lang/StringUTF16", name := "coderFromArrayLen", desc := "([BI)B" } : Jvm.MethodName) jdk_52_method_15_code (2 : Nat) (Option.some Jvm.ClassFile.FieldType.byte), Jvm.Cond.code ({ cls := "com/example/rolemesh/rolemesh/client/HttpMessagesIsFieldValuePinLaw", name := "ok", desc := "(C)Z" } : Jvm.MethodName) method_3_code (1 : Nat) (Option.some Jvm.ClassFile.FieldType.boolean), Jvm.Cond.code ({ cls := "java/lang/String", name := "charAt", desc := "(I)C" } : Jvm.MethodName) jdk_42_method_56_code (2 : Nat) (Option.some Jvm.ClassFile.FieldType.char), Jvm.Cond.code ({ cls := "java/lang/String", name := "isLatin1", desc := "()Z" } : Jvm.MethodName) jdk_42_method_154_code (1 : Nat) (Option.some Jvm.ClassFile.FieldType.boolean), Jvm.Cond.code ({ cls := "java/lang/StringLatin1", name := "charAt", desc := "([BI)C" } : Jvm.MethodName) jdk_43_method_2_code (2 : Nat) (Option.some Jvm.ClassFile.FieldType.char), Jvm.Cond.code ({ cls := "java/lang/String", name := "checkIndex", desc := "(II)V" } : Jvm.MethodName) jdk_42_method_155_code (2 : Nat) (Option.none : Option Jvm.ClassFile.FieldType), Jvm.Cond.code ({ cls := "jdk/internal/util/Preconditions", name := "checkIndex", desc := "(IILjava/util/function/BiFunction;)I" } : Jvm.MethodName) jdk_41_method_11_code (3 : Nat) (Option.some Jvm.ClassFile.FieldType.int), Jvm.Cond.code ({ cls := "java/lang/StringUTF16", name := "toBytes", desc := "([CII)[B" } : Jvm.MethodName) jdk_52_method_14_code (5 : Nat) (Option.some (Jvm.ClassFile.FieldType.array Jvm.ClassFile.FieldType.byte)), Jvm.Cond.code ({ cls := "java/lang/StringUTF16", name := "newBytesFor", desc := "(I)[B" } : Jvm.MethodName) jdk_52_method_2_code (1 : Nat) (Option.some (Jvm.ClassFile.FieldType.array Jvm.ClassFile.FieldType.byte)), Jvm.Cond.code ({ cls := "java/lang/StringUTF16", name := "newBytesLength", desc := "(I)I" } : Jvm.MethodName) jdk_52_method_3_code (1 : Nat) (Option.some Jvm.ClassFile.FieldType.int), Jvm.Cond.code ({ cls := "java/lang/StringUTF16", name := "putChar", desc := "([BII)V" } : Jvm.MethodName) jdk_52_method_4_code (3 : Nat) (Option.none : Option Jvm.ClassFile.FieldType), Jvm.Cond.code ({ cls := "java/lang/StringUTF16", name := "getChar", desc := "([BI)C" } : Jvm.MethodName) jdk_52_method_5_code (2 : Nat) (Option.some Jvm.ClassFile.FieldType.char), Jvm.Cond.code ({ cls := "java/lang/StringUTF16", name := "charAt", desc := "([BI)C" } : Jvm.MethodName) jdk_52_method_83_code (2 : Nat) (Option.some Jvm.ClassFile.FieldType.char), Jvm.Cond.code ({ cls := "java/lang/StringUTF16", name := "checkIndex", desc := "(I[B)V" } : Jvm.MethodName) jdk_52_method_91_code (2 : Nat) (Option.none : Option Jvm.ClassFile.FieldType), Jvm.Cond.code ({ cls := "java/lang/StringUTF16", name := "length", desc := "([B)I" } : Jvm.MethodName) jdk_52_method_6_code (1 : Nat) (Option.some Jvm.ClassFile.FieldType.int)]
set_option maxRecDepth 65536 in
theorem codes_eq : words1.filter isCode = codes1 := rfl
theorem w_codes : ∀ c ∈ words1.filter isCode, c.before args0 about1 = true := by
  rw [codes_eq]
  intro c hc
  simp only [codes1, List.mem_cons, List.not_mem_nil, or_false] at hc
  rcases hc with rfl | rfl | rfl | rfl | rfl | rfl | rfl | rfl | rfl | rfl | rfl | rfl | rfl | rfl | rfl | rfl | rfl | rfl | rfl | rfl | rfl | rfl | rfl | rfl | rfl
  · exact w_c0
  · exact w_c1
  · exact w_c2
  · exact w_c3
  · exact w_c4
  · exact w_c5
  · exact w_c6
  · exact w_c7
  · exact w_c8
  · exact w_c9
  · exact w_c10
  · exact w_c11
  · exact w_c12
  · exact w_c13
  · exact w_c14
  · exact w_c15
  · exact w_c16
  · exact w_c17
  · exact w_c18
  · exact w_c19
  · exact w_c20
  · exact w_c21
  · exact w_c22
  · exact w_c23
  · exact w_c24
set_option maxRecDepth 65536 in
theorem w_t1 : (words1.take 24).all (fun c => isCode c || c.before args0 about1) = true := by decide +kernel
set_option maxRecDepth 65536 in
theorem w_t2 : ((words1.drop 24).take 24).all (fun c => isCode c || c.before args0 about1) = true := by decide +kernel
set_option maxRecDepth 65536 in
theorem w_t3 : (((words1.drop 24).drop 24).take 24).all (fun c => isCode c || c.before args0 about1) = true := by decide +kernel
set_option maxRecDepth 65536 in
theorem w_t4 : ((((words1.drop 24).drop 24).drop 24).take 24).all (fun c => isCode c || c.before args0 about1) = true := by decide +kernel
set_option maxRecDepth 65536 in
theorem w_t5 : ((((words1.drop 24).drop 24).drop 24).drop 24).all (fun c => isCode c || c.before args0 about1) = true := by decide +kernel
theorem w_tables : (allAtoms (Jvm.Cond.code x code maxLocals ret :: tables_1)).before args0 about1 = true := by
  rw [allAtoms_all]
  show words1.all (fun c => c.before args0 about1) = true
  refine all_split ?_ w_codes
  rw [← List.take_append_drop 24 words1, List.all_append, w_t1, ← List.take_append_drop 24 (words1.drop 24), List.all_append, w_t2, ← List.take_append_drop 24 ((words1.drop 24).drop 24), List.all_append, w_t3, ← List.take_append_drop 24 (((words1.drop 24).drop 24).drop 24), List.all_append, w_t4, w_t5]
  rfl
set_option maxRecDepth 65536 in
theorem w_rest : rest_1_c.before args0 about1 = true := by decide +kernel
set_option maxRecDepth 65536 in
theorem w_case : (Jvm.Cond.and given_1 narrow_1).before args0 about1 = true := by decide +kernel
set_option maxRecDepth 65536 in
theorem w_consts : constsHeld consts_1 about1 := Jvm.Lit.constsHeldB_iff.mp (by decide +kernel)
theorem w_applies : (headSpec (Jvm.Cond.code x code maxLocals ret :: tables_1) room_1).applies x e0.platform about1 = true :=
  (Spec.applies_iff w_frames).mpr ⟨w_running, w_runnable, w_alone, w_named, w_hears, w_ripe, w_room, w_tables⟩
theorem atStart : AtStart classFile x code maxLocals ret World_1 tables_1 room_1 Calls_1 rest_1 Pre_1 launch0 p0 e0 about1 theMethod args0 below0 :=
  ⟨lists_1, trivial, launch0.admits_env _ _ _, launch0.least_env, fairChoices_fair.cas, fairChoices_fair.clock, w_frames, w_args, w_heap, w_applies, ⟨w_consts, trivial⟩, w_rest, w_case⟩
end start1
theorem witness_1 : WitnessClaimed_1 := ⟨start1.p0, start1.e0, start1.about1, start1.theMethod, start1.args0, start1.below0, start1.atStart⟩
end Jvm.Pilot.@@N@@
