import JvmDerived
import JvmDerived.Pilot.@@N@@Statement
import JvmDerived.Pilot.@@N@@Code
set_option linter.unusedVariables false
set_option linter.unusedSimpArgs false
/- laws to paste: Road.backV, Road.lenW, Road.chN, Road.codOf (cut by pick.py; bodies as the Statement names them) -/
namespace Jvm.Pilot.@@N@@
namespace StrChars
open Jvm Sem ClassFile Op Lib Jvm.Stand Jvm.Free.XT Jvm.Free.ALB Jvm.Free.JM Jvm.Free
open Jvm.Lib.Cold (StaticIs)
/-- a char array whose places are chars -/
def Ch (a : Addr) (A : Cell) (U : State) : Prop := Arr .char a A U ∧ Typed .char A
theorem Ch.mv {a : Addr} {A : Cell} {U U' : State} (h : Ch a A U) (hal : U.vm.Alike U'.vm) (hh : U'.heap = U.heap) : Ch a A U' := ⟨h.1.mv hal hh, h.2⟩
theorem Ch.keep {a : Addr} {A : Cell} {U U' : State} (h : Ch a A U) (hal : U.vm.Alike U'.vm) (hk : U'.heap[a]? = some A) : Ch a A U' := ⟨h.1.keep hal hk, h.2⟩
/-- what place i of a char[]'s cell holds -/
def cv (A : Cell) (i : Nat) : Int32 := match A.slots[i]? with | some (.int x) => x | _ => 0
theorem Ch.get {a : Addr} {A : Cell} {U : State} (h : Ch a A U) {i : Nat} (hi : i < A.slots.size) : A.slots[i]? = some (.int (cv A i)) := by
  have e := Array.getElem?_eq_getElem hi
  have f := h.2 i _ e
  unfold cv; rw [e]
  generalize A.slots[i] = v at f
  cases v <;> simp [fits] at f ⊢
/-- the byte that i2b leaves of a char -/
def lo8 (x : Int32) : Int32 := x.toInt8.toInt32
theorem fits_lo8 (y : Int32) : fits .byte (.int (lo8 y)) = true := by
  have h1 := y.toInt8.le_toInt
  have h2 := y.toInt8.toInt_lt
  simp only [lo8, fits, Bool.and_eq_true, decide_eq_true_eq, Int32.le_iff_toInt_le, Int8.toInt_toInt32, show (-128 : Int32).toInt = -128 from by decide, show (127 : Int32).toInt = 127 from by decide]
  omega
/-- A' is A but that each place j of lo .. hi - 1 holds f j -/
def Laid (A A' : Cell) (lo hi : Nat) (f : Nat → Value) : Prop := A'.cls = A.cls ∧ A'.vm = A.vm ∧ A'.slots.size = A.slots.size ∧ ∀ i, A'.slots[i]? = if lo ≤ i ∧ i < hi then some (f i) else A.slots[i]?
theorem Laid.zero (A : Cell) (lo : Nat) (f : Nat → Value) : Laid A A lo (lo + 0) f := ⟨rfl, rfl, rfl, fun i => by rw [if_neg (by omega)]⟩
theorem Laid.step {A Ak : Cell} {lo k : Nat} {f : Nat → Value} {v : Value} (h : Laid A Ak lo k f) (hlo : lo ≤ k) (hk : k < Ak.slots.size) (hv : v = f k) : Laid A (Ak.setSlot k v) lo (k + 1) f := by
  refine ⟨h.1, h.2.1, by simpa [Cell.setSlot] using h.2.2.1, fun i => ?_⟩
  by_cases e : k = i
  · subst e; rw [Cell.slots_setSlot_self v hk, if_pos (by omega), hv]
  · rw [Cell.slots_setSlot_ne v e, h.2.2.2 i]
    by_cases q : lo ≤ i ∧ i < k
    · rw [if_pos q, if_pos (by omega)]
    · rw [if_neg q, if_neg (by omega)]
def U16 : String := "java/lang/StringUTF16"
namespace Cmp5
def yN : MethodName := ⟨"java/lang/StringUTF16", "compress", "([CI[BII)I"⟩
abbrev yB : ByteArray := jdk_52_method_21_code
theorem d0 : decode yB 0 = .ok (.iconst 0, 1) := by decide +kernel
theorem d1 : decode yB 1 = .ok (.istore 5, 2) := by decide +kernel
theorem d3 : decode yB 3 = .ok (.iload 5, 2) := by decide +kernel
theorem d5 : decode yB 5 = .ok (.iload 4, 2) := by decide +kernel
theorem d7 : decode yB 7 = .ok (.if_icmp (.ge) 37, 3) := by decide +kernel
theorem d10 : decode yB 10 = .ok (.aload_n 0, 1) := by decide +kernel
theorem d11 : decode yB 11 = .ok (.iload_n 1, 1) := by decide +kernel
theorem d12 : decode yB 12 = .ok (.caload, 1) := by decide +kernel
theorem d13 : decode yB 13 = .ok (.istore 6, 2) := by decide +kernel
theorem d15 : decode yB 15 = .ok (.iload 6, 2) := by decide +kernel
theorem d17 : decode yB 17 = .ok (.sipush 255, 3) := by decide +kernel
theorem d20 : decode yB 20 = .ok (.if_icmp (.le) 6, 3) := by decide +kernel
theorem d26 : decode yB 26 = .ok (.aload_n 2, 1) := by decide +kernel
theorem d27 : decode yB 27 = .ok (.iload_n 3, 1) := by decide +kernel
theorem d28 : decode yB 28 = .ok (.iload 6, 2) := by decide +kernel
theorem d30 : decode yB 30 = .ok (.i2b, 1) := by decide +kernel
theorem d31 : decode yB 31 = .ok (.bastore, 1) := by decide +kernel
theorem d32 : decode yB 32 = .ok (.iinc 1 1, 3) := by decide +kernel
theorem d35 : decode yB 35 = .ok (.iinc 3 1, 3) := by decide +kernel
theorem d38 : decode yB 38 = .ok (.iinc 5 1, 3) := by decide +kernel
theorem d41 : decode yB 41 = .ok (.goto (-38), 3) := by decide +kernel
theorem d44 : decode yB 44 = .ok (.iload 4, 2) := by decide +kernel
theorem d46 : decode yB 46 = .ok (.ireturn, 1) := by decide +kernel
def site : List Cond := []
def tab : Cond := tabOf yN yB 7 (some .int) site
def P (b : Addr) (A : Cell) (d : Addr) (B : Cell) (o q len : Nat) (args : Array Value) (s : State) : Prop := args = #[.ref b, .int (Int32.ofNat o), .ref d, .int (Int32.ofNat q), .int (Int32.ofNat len)] ∧ Ch b A s ∧ Arr .byte d B s ∧ b ≠ d ∧ o + len ≤ A.slots.size ∧ q + len ≤ B.slots.size ∧ ∀ i, i < len → ¬ 255 < cv A (o + i)
def E (b : Addr) (A : Cell) (d : Addr) (B : Cell) (o q len : Nat) (r : Option Value) (s u : State) : Prop := r = some (.int (Int32.ofNat len)) ∧ ∃ B', Put d B' s u ∧ Laid B B' q (q + len) (fun j => Value.int (lo8 (cv A (o + (j - q)))))
/-- no char of the range above 255: len; the places written hold each char's low byte -/
theorem law (l : Launch) (b : Addr) (A : Cell) (d : Addr) (B : Cell) (o q len : Nat) : Law l yN 5 5 0 0 yB 7 (some .int) site (P b A d B o q len) (E b A d B o q len) (copyLocs d q len) 0 0 := by
  refine Law.of_walk (plainFor_of_name (by decide +kernel)) (by decide +kernel) (by decide +kernel) (by decide) (fun _ _ h => by rw [h.1]; rfl) (fun _ U U' hal hh h => ⟨h.1, h.2.1.mv hal hh, h.2.2.1.mv hal hh, h.2.2.2⟩) (fun r U U' V V' h1 hal h2 h => ⟨h.1, h.2.elim fun B' q => ⟨B', q.1.mv h1 h2, q.2⟩⟩) ?_
  intro p e s m args below meth c s₁ X0 hexec hbytes hml hret hlk hnm hown hh0 W hP
  obtain ⟨rfl, hA, hB, hne, l1, l2, hp⟩ := hP
  have c1 : Steps p.tables e below (s₁.setTop (entryFrame m #[.ref b, .int (Int32.ofNat o), .ref d, .int (Int32.ofNat q), .int (Int32.ofNat len)] 7)) (s₁.setTop (mkF m 0 #[.val (.ref b), .val (.int (Int32.ofNat o)), .val (.ref d), .val (.int (Int32.ofNat q)), .val (.int (Int32.ofNat len)), .unset, .unset] [])) := entry rfl
  have hA0 := hA.1.mv X0.warmed.alike hh0
  have hB0 := hB.mv X0.warmed.alike hh0
  have a31 := hA.1.2.2.2
  have c2 : Steps p.tables e below (s₁.setTop (entryFrame m #[.ref b, .int (Int32.ofNat o), .ref d, .int (Int32.ofNat q), .int (Int32.ofNat len)] 7)) (s₁.setTop (mkF m 3 #[.val (.ref b), .val (.int (Int32.ofNat o)), .val (.ref d), .val (.int (Int32.ofNat q)), .val (.int (Int32.ofNat len)), .val (.int 0), .unset] [])) := c1.trans (by
    refine iconstV X0.here hexec rfl 0 (hb hbytes d0) (by decide) ?_
    refine XS.istore X0.here hexec rfl (hb hbytes d1) rfl rfl ?_
    exact Steps.refl _)
  have loop : ∀ (r i : Nat), i + r = len → ∀ (z : Slot), (z = .unset ∨ ∃ w, z = .val w ∧ w.category = 1) → ∀ (Tl : State) (Bk : Cell), Stand p l e { frames := 0, locals := 0, cells := 0, slots := 0 } s m #[.ref b, .int (Int32.ofNat o), .ref d, .int (Int32.ofNat q), .int (Int32.ofNat len)] below meth c Tl ([] ++ copyLocs d q i) 0 0 → Put d Bk s₁ Tl → Laid B Bk q (q + i) (fun j => Value.int (lo8 (cv A (o + (j - q))))) →
      Steps p.tables e below (s₁.setTop (entryFrame m #[.ref b, .int (Int32.ofNat o), .ref d, .int (Int32.ofNat q), .int (Int32.ofNat len)] 7)) (Tl.setTop (mkF m 3 #[.val (.ref b), .val (.int (Int32.ofNat (o + i))), .val (.ref d), .val (.int (Int32.ofNat (q + i))), .val (.int (Int32.ofNat len)), .val (.int (Int32.ofNat i)), z] [])) → ∃ (T' : State) (B' : Cell) (z' : Slot), Stand p l e { frames := 0, locals := 0, cells := 0, slots := 0 } s m #[.ref b, .int (Int32.ofNat o), .ref d, .int (Int32.ofNat q), .int (Int32.ofNat len)] below meth c T' ([] ++ copyLocs d q len) 0 0 ∧ Put d B' s₁ T' ∧ Laid B B' q (q + len) (fun j => Value.int (lo8 (cv A (o + (j - q))))) ∧
      Steps p.tables e below (s₁.setTop (entryFrame m #[.ref b, .int (Int32.ofNat o), .ref d, .int (Int32.ofNat q), .int (Int32.ofNat len)] 7)) (T'.setTop (mkF m 3 #[.val (.ref b), .val (.int (Int32.ofNat (o + len))), .val (.ref d), .val (.int (Int32.ofNat (q + len))), .val (.int (Int32.ofNat len)), .val (.int (Int32.ofNat len)), z'] [])) := by
    intro r
    induction r with
    | zero =>
      intro i hi z hz Tl Bk Xl pl fl cl
      have hil : i = len := by omega
      rw [hil] at Xl fl cl
      exact ⟨Tl, Bk, z, Xl, pl, fl, cl⟩
    | succ r ih =>
      intro i hi z hz Tl Bk Xl pl fl cl
      have all := X0.warmed.alike.symm.trans Xl.warmed.alike
      have hAl := hA0.keep all (pl.other hne hA0.1)
      have hBk := hB0.like all pl.1 fl.1 fl.2.1 fl.2.2.1
      have hlt : q + i < Bk.slots.size := by rw [fl.2.2.1]; omega
      have c3 : Steps p.tables e below (s₁.setTop (entryFrame m #[.ref b, .int (Int32.ofNat o), .ref d, .int (Int32.ofNat q), .int (Int32.ofNat len)] 7)) (Tl.setTop (mkF m 12 #[.val (.ref b), .val (.int (Int32.ofNat (o + i))), .val (.ref d), .val (.int (Int32.ofNat (q + i))), .val (.int (Int32.ofNat len)), .val (.int (Int32.ofNat i)), z] [.int (Int32.ofNat (o + i)), .ref b])) := cl.trans (by
        refine XS.iload Xl.here hexec rfl (hb hbytes d3) rfl ?_
        refine XS.iload Xl.here hexec rfl (hb hbytes d5) rfl ?_
        refine XS.icmpNo Xl.here hexec rfl (hb hbytes d7) rfl (ii_ge_f (lt32 (by omega) (by omega))) ?_
        refine XS.aloadN Xl.here hexec rfl (hb hbytes d10) rfl rfl ?_
        refine XS.iloadN Xl.here hexec rfl (hb hbytes d11) rfl ?_
        exact Steps.refl _)
      have c4 : Steps p.tables e below (s₁.setTop (entryFrame m #[.ref b, .int (Int32.ofNat o), .ref d, .int (Int32.ofNat q), .int (Int32.ofNat len)] 7)) (Tl.setTop (mkF m 13 #[.val (.ref b), .val (.int (Int32.ofNat (o + i))), .val (.ref d), .val (.int (Int32.ofNat (q + i))), .val (.int (Int32.ofNat len)), .val (.int (Int32.ofNat i)), z] [.int (cv A (o + i))])) := c3.trans (by
        refine Xl.aget hexec hAl rfl (hA.get (i := o + i) (by omega)) rfl rfl (hb hbytes d12) ?_
        exact Steps.refl _)
      have c5 : Steps p.tables e below (s₁.setTop (entryFrame m #[.ref b, .int (Int32.ofNat o), .ref d, .int (Int32.ofNat q), .int (Int32.ofNat len)] 7)) (Tl.setTop (mkF m 15 #[.val (.ref b), .val (.int (Int32.ofNat (o + i))), .val (.ref d), .val (.int (Int32.ofNat (q + i))), .val (.int (Int32.ofNat len)), .val (.int (Int32.ofNat i)), .val (.int (cv A (o + i)))] [])) := c4.trans (by
        refine XS.istoreS Xl.here hexec rfl (hb hbytes d13) rfl rfl hz ?_
        exact Steps.refl _)
      have c6 : Steps p.tables e below (s₁.setTop (entryFrame m #[.ref b, .int (Int32.ofNat o), .ref d, .int (Int32.ofNat q), .int (Int32.ofNat len)] 7)) (Tl.setTop (mkF m 31 #[.val (.ref b), .val (.int (Int32.ofNat (o + i))), .val (.ref d), .val (.int (Int32.ofNat (q + i))), .val (.int (Int32.ofNat len)), .val (.int (Int32.ofNat i)), .val (.int (cv A (o + i)))] [.int (lo8 (cv A (o + i))), .int (Int32.ofNat (q + i)), .ref d])) := c5.trans (by
        refine XS.iload Xl.here hexec rfl (hb hbytes d15) rfl ?_
        refine sipushV Xl.here hexec rfl 255 (hb hbytes d17) (by decide) ?_
        refine XS.icmpYes Xl.here hexec rfl (pc0 := 20) rfl (hb hbytes d20) rfl (ii_le_t (hp i (by omega))) (by decide) rfl ?_
        refine XS.aloadN Xl.here hexec rfl (hb hbytes d26) rfl rfl ?_
        refine XS.iloadN Xl.here hexec rfl (hb hbytes d27) rfl ?_
        refine XS.iload Xl.here hexec rfl (hb hbytes d28) rfl ?_
        refine i2b Xl.here hexec rfl (hb hbytes d30) rfl ?_
        exact Steps.refl _)
      obtain ⟨T7, X7, p7, st7⟩ := Xl.aput hexec hBk rfl hlt rfl (fits_lo8 (cv A (o + i))) (g := (mkF m 31 #[.val (.ref b), .val (.int (Int32.ofNat (o + i))), .val (.ref d), .val (.int (Int32.ofNat (q + i))), .val (.int (Int32.ofNat len)), .val (.int (Int32.ofNat i)), .val (.int (cv A (o + i)))] [.int (lo8 (cv A (o + i))), .int (Int32.ofNat (q + i)), .ref d])) rfl (rest := []) rfl (hb hbytes d31)
      have c8 : Steps p.tables e below (s₁.setTop (entryFrame m #[.ref b, .int (Int32.ofNat o), .ref d, .int (Int32.ofNat q), .int (Int32.ofNat len)] 7)) (T7.setTop (mkF m 32 #[.val (.ref b), .val (.int (Int32.ofNat (o + i))), .val (.ref d), .val (.int (Int32.ofNat (q + i))), .val (.int (Int32.ofNat len)), .val (.int (Int32.ofNat i)), .val (.int (cv A (o + i)))] [])) := c6.trans (st7 _ (Steps.refl _))
      have c9 : Steps p.tables e below (s₁.setTop (entryFrame m #[.ref b, .int (Int32.ofNat o), .ref d, .int (Int32.ofNat q), .int (Int32.ofNat len)] 7)) (T7.setTop (mkF m 3 #[.val (.ref b), .val (.int (Int32.ofNat (o + i) + 1)), .val (.ref d), .val (.int (Int32.ofNat (q + i) + 1)), .val (.int (Int32.ofNat len)), .val (.int (Int32.ofNat i + 1)), .val (.int (cv A (o + i)))] [])) := c8.trans (by
        refine iincV X7.here hexec rfl 1 (hb hbytes d32) (by decide) rfl rfl ?_
        refine iincV X7.here hexec rfl 1 (hb hbytes d35) (by decide) rfl rfl ?_
        refine iincV X7.here hexec rfl 1 (hb hbytes d38) (by decide) rfl rfl ?_
        refine XS.goto X7.here hexec rfl (pc0 := 41) rfl (hb hbytes d41) (by decide) rfl ?_
        exact Steps.refl _)
      have c10 : Steps p.tables e below (s₁.setTop (entryFrame m #[.ref b, .int (Int32.ofNat o), .ref d, .int (Int32.ofNat q), .int (Int32.ofNat len)] 7)) (T7.setTop (mkF m 3 #[.val (.ref b), .val (.int (Int32.ofNat (o + (i + 1)))), .val (.ref d), .val (.int (Int32.ofNat (q + (i + 1)))), .val (.int (Int32.ofNat len)), .val (.int (Int32.ofNat (i + 1))), .val (.int (cv A (o + i)))] [])) := by
        have := c9
        rw [succ32, succ32, succ32] at this
        exact this
      exact ih (i + 1) (by omega) _ (Or.inr ⟨_, rfl, rfl⟩) T7 _ (by rw [copyLocs_step, ← List.append_assoc]; exact X7) (pl.trans p7) (fl.step (by omega) hlt (by simp)) c10
  obtain ⟨T9, B9, z9, X9, p9, f9, g9⟩ := loop len 0 (by omega) .unset (Or.inl rfl) s₁ B (by simpa [copyLocs] using X0) ⟨hB0.1, fun _ _ => rfl, rfl⟩ (Laid.zero _ _ _) c2
  have c11 : Steps p.tables e below (s₁.setTop (entryFrame m #[.ref b, .int (Int32.ofNat o), .ref d, .int (Int32.ofNat q), .int (Int32.ofNat len)] 7)) (T9.setTop (mkF m 46 #[.val (.ref b), .val (.int (Int32.ofNat (o + len))), .val (.ref d), .val (.int (Int32.ofNat (q + len))), .val (.int (Int32.ofNat len)), .val (.int (Int32.ofNat len)), z9] [.int (Int32.ofNat len)])) := g9.trans (by
    refine XS.iload X9.here hexec rfl (hb hbytes d3) rfl ?_
    refine XS.iload X9.here hexec rfl (hb hbytes d5) rfl ?_
    refine XS.icmpYes X9.here hexec rfl (pc0 := 7) rfl (hb hbytes d7) rfl (ii_ge_t (nlt32 (by omega) (Nat.le_refl _))) (by decide) rfl ?_
    refine XS.iload X9.here hexec rfl (hb hbytes d44) rfl ?_
    exact Steps.refl _)
  exact ⟨T9, some (.int (Int32.ofNat len)), _, _, _, X9, by simp, rfl, rfl, (fun h => by cases h), ⟨rfl, B9, p9.from hh0, f9⟩, fun fs hl => c11.trans (X9.ireturnOut hexec hret rfl (Or.inl rfl) (hb hbytes d46) hl)⟩
end Cmp5
namespace Cmp3
def yN : MethodName := ⟨"java/lang/StringUTF16", "compress", "([CII)[B"⟩
abbrev yB : ByteArray := jdk_52_method_16_code
theorem d0 : decode yB 0 = .ok (.iload_n 2, 1) := by decide +kernel
theorem d1 : decode yB 1 = .ok (.newarray .byte, 2) := by decide +kernel
theorem d3 : decode yB 3 = .ok (.astore_n 3, 1) := by decide +kernel
theorem d4 : decode yB 4 = .ok (.aload_n 0, 1) := by decide +kernel
theorem d5 : decode yB 5 = .ok (.iload_n 1, 1) := by decide +kernel
theorem d6 : decode yB 6 = .ok (.aload_n 3, 1) := by decide +kernel
theorem d7 : decode yB 7 = .ok (.iconst 0, 1) := by decide +kernel
theorem d8 : decode yB 8 = .ok (.iload_n 2, 1) := by decide +kernel
theorem d9 : decode yB 9 = .ok (.invokestatic 115, 3) := by decide +kernel
theorem d12 : decode yB 12 = .ok (.istore 4, 2) := by decide +kernel
theorem d14 : decode yB 14 = .ok (.iload 4, 2) := by decide +kernel
theorem d16 : decode yB 16 = .ok (.iload_n 2, 1) := by decide +kernel
theorem d17 : decode yB 17 = .ok (.if_icmp (.eq) 40, 3) := by decide +kernel
theorem d57 : decode yB 57 = .ok (.aload_n 3, 1) := by decide +kernel
theorem d58 : decode yB 58 = .ok (.areturn, 1) := by decide +kernel
def site : List Cond := [.arrayClass .byte, Cmp5.tab] ++ staticW U16 115 Cmp5.yN
def tab : Cond := tabOf yN yB 6 (some (.array .byte)) site
def P (b : Addr) (A : Cell) (o len : Nat) (args : Array Value) (s : State) : Prop := args = #[.ref b, .int (Int32.ofNat o), .int (Int32.ofNat len)] ∧ Ch b A s ∧ o + len ≤ A.slots.size ∧ len ≤ 536870912 ∧ ∀ i, i < len → ¬ 255 < cv A (o + i)
def E (b : Addr) (A : Cell) (o len : Nat) (r : Option Value) (s u : State) : Prop := NewArr .byte "[B" len (fun j => .int (lo8 (cv A (o + j)))) r s u ∧ u.heap.size = s.heap.size + 1
/-- no char of the range above 255: a new byte[] of their low bytes -/
theorem law (l : Launch) (b : Addr) (A : Cell) (o len : Nat) : Law l yN 3 3 1 18 yB 6 (some (.array .byte)) site (P b A o len) (E b A o len) [] 1 len := by
  refine Law.of_walk (plainFor_of_name (by decide +kernel)) (by decide +kernel) (by decide +kernel) (by decide) (fun _ _ h => by rw [h.1]; rfl) (fun _ U U' hal hh h => ⟨h.1, h.2.1.mv hal hh, h.2.2⟩) (fun r U U' V V' h1 hal h2 h => ⟨NewArr.mv r U U' V V' h1 hal h2 h.1, by rw [h1, h2]; exact h.2⟩) ?_
  intro p e s m args below meth c s₁ X0 hexec hbytes hml hret hlk hnm hown hh0 W hP
  obtain ⟨rfl, hA, l1, l2, hp⟩ := hP
  have a31 := hA.1.2.2.2
  have c1 : Steps p.tables e below (s₁.setTop (entryFrame m #[.ref b, .int (Int32.ofNat o), .int (Int32.ofNat len)] 6)) (s₁.setTop (mkF m 0 #[.val (.ref b), .val (.int (Int32.ofNat o)), .val (.int (Int32.ofNat len)), .unset, .unset, .unset] [])) := entry rfl
  have c2 : Steps p.tables e below (s₁.setTop (entryFrame m #[.ref b, .int (Int32.ofNat o), .int (Int32.ofNat len)] 6)) (s₁.setTop (mkF m 1 #[.val (.ref b), .val (.int (Int32.ofNat o)), .val (.int (Int32.ofNat len)), .unset, .unset, .unset] [.int (Int32.ofNat len)])) := c1.trans (by
    refine XS.iloadN X0.here hexec rfl (hb hbytes d0) rfl ?_
    exact Steps.refl _)
  obtain ⟨T3, B3, X3, ba3, bs3, bv3, bh3, bf3, st3⟩ := X0.anew hexec (atype := .byte) (wk W (.arrayClass .byte)) rfl (by show len * 1 ≤ _; omega) (by omega) (g := (mkF m 1 #[.val (.ref b), .val (.int (Int32.ofNat o)), .val (.int (Int32.ofNat len)), .unset, .unset, .unset] [.int (Int32.ofNat len)])) rfl (hb hbytes d1) (rest := []) rfl (Nat.le_refl _) (by show 0 + len ≤ len; omega)
  rw [hh0] at ba3 st3
  have kp3 : XT.Kept s T3 := (XT.Kept.of_eq hh0).push bh3
  have hA3 := hA.keep X3.warmed.alike (kp3 _ _ hA.1.1)
  have hne : b ≠ s.heap.size := hA.1.ne
  have c4 : Steps p.tables e below (s₁.setTop (entryFrame m #[.ref b, .int (Int32.ofNat o), .int (Int32.ofNat len)] 6)) (T3.setTop (mkF m 3 #[.val (.ref b), .val (.int (Int32.ofNat o)), .val (.int (Int32.ofNat len)), .unset, .unset, .unset] [.ref s.heap.size])) := c2.trans (st3 _ (Steps.refl _))
  have c5 : Steps p.tables e below (s₁.setTop (entryFrame m #[.ref b, .int (Int32.ofNat o), .int (Int32.ofNat len)] 6)) (T3.setTop (mkF m 9 #[.val (.ref b), .val (.int (Int32.ofNat o)), .val (.int (Int32.ofNat len)), .val (.ref s.heap.size), .unset, .unset] [.int (Int32.ofNat len), .int 0, .ref s.heap.size, .int (Int32.ofNat o), .ref b])) := c4.trans (by
    refine XS.astoreN X3.here hexec rfl (hb hbytes d3) rfl rfl rfl ?_
    refine XS.aloadN X3.here hexec rfl (hb hbytes d4) rfl rfl ?_
    refine XS.iloadN X3.here hexec rfl (hb hbytes d5) rfl ?_
    refine XS.aloadN X3.here hexec rfl (hb hbytes d6) rfl rfl ?_
    refine iconstV X3.here hexec rfl 0 (hb hbytes d7) (by decide) ?_
    refine XS.iloadN X3.here hexec rfl (hb hbytes d8) rfl ?_
    exact Steps.refl _)
  obtain ⟨v6, T6, X6, E6, g6⟩ := X3.callS hexec (Cmp5.law l b A s.heap.size B3 o 0 len) hown (wks W (staticW U16 115 Cmp5.yN)) (wk W Cmp5.tab) (W := 0) (Nat.le_of_ble_eq_true rfl) (Nat.le_of_ble_eq_true rfl) (Nat.le_refl _) (by show 0 + len + 0 ≤ len; omega) (g := (mkF m 9 #[.val (.ref b), .val (.int (Int32.ofNat o)), .val (.int (Int32.ofNat len)), .val (.ref s.heap.size), .unset, .unset] [.int (Int32.ofNat len), .int (Int32.ofNat 0), .ref s.heap.size, .int (Int32.ofNat o), .ref b])) rfl (by rw [hml]; rfl) c5 (argsL := [.ref b, .int (Int32.ofNat o), .ref s.heap.size, .int (Int32.ofNat 0), .int (Int32.ofNat len)]) (rest := []) rfl rfl (by show 2 * 0 + 0 ≤ _; decide) (hb hbytes d9) (⟨rfl, hA3, ba3, hne, l1, by rw [bs3]; simp, hp⟩)
  obtain ⟨rfl, B6, p6, f6⟩ := E6
  have c7 : Steps p.tables e below (s₁.setTop (entryFrame m #[.ref b, .int (Int32.ofNat o), .int (Int32.ofNat len)] 6)) (T6.setTop (mkF m 12 #[.val (.ref b), .val (.int (Int32.ofNat o)), .val (.int (Int32.ofNat len)), .val (.ref s.heap.size), .unset, .unset] [.int (Int32.ofNat len)])) := g6
  have c8 : Steps p.tables e below (s₁.setTop (entryFrame m #[.ref b, .int (Int32.ofNat o), .int (Int32.ofNat len)] 6)) (T6.setTop (mkF m 58 #[.val (.ref b), .val (.int (Int32.ofNat o)), .val (.int (Int32.ofNat len)), .val (.ref s.heap.size), .val (.int (Int32.ofNat len)), .unset] [.ref s.heap.size])) := c7.trans (by
    refine XS.istore X6.here hexec rfl (hb hbytes d12) rfl rfl ?_
    refine XS.iload X6.here hexec rfl (hb hbytes d14) rfl ?_
    refine XS.iloadN X6.here hexec rfl (hb hbytes d16) rfl ?_
    refine XS.icmpYes X6.here hexec rfl (pc0 := 17) rfl (hb hbytes d17) rfl (ii_eq_t rfl) (by decide) rfl ?_
    refine XS.aloadN X6.here hexec rfl (hb hbytes d57) rfl rfl ?_
    exact Steps.refl _)
  have X8 := X6.wide (L' := []) (cells' := 1) (slots' := len) (fun x hx hlt => by
    simp only [List.nil_append, copyLocs, List.mem_map, List.mem_range] at hx
    obtain ⟨i, -, rfl⟩ := hx
    exact absurd hlt (Nat.lt_irrefl _)) (Nat.le_refl _) (by omega)
  exact ⟨T6, some (.ref s.heap.size), _, _, _, X8, rfl, rfl, rfl, (fun h => by cases h), ⟨⟨rfl, B6, ba3.like (X3.warmed.alike.symm.trans X6.warmed.alike) p6.1 f6.1 f6.2.1 f6.2.2.1, f6.2.1.trans bv3, by rw [X6.warmed.alike.findClass, f6.1]; exact bf3, by rw [f6.2.2.1, bs3]; simp, fun j hj => by rw [f6.2.2.2 j, if_pos (by omega)]; rfl, kp3.put p6 (Nat.le_refl _)⟩, by rw [p6.2.2, bh3, hh0]; simp⟩, fun fs hl => c8.trans (X8.areturnOut hexec rfl hret rfl (hb hbytes d58) hl)⟩
end Cmp3
namespace CodL
def yN : MethodName := ⟨"java/lang/StringUTF16", "coderFromArrayLen", "([BI)B"⟩
abbrev yB : ByteArray := jdk_52_method_15_code
theorem d0 : decode yB 0 = .ok (.iload_n 1, 1) := by decide +kernel
theorem d1 : decode yB 1 = .ok (.aload_n 0, 1) := by decide +kernel
theorem d2 : decode yB 2 = .ok (.arraylength, 1) := by decide +kernel
theorem d3 : decode yB 3 = .ok (.isub, 1) := by decide +kernel
theorem d4 : decode yB 4 = .ok (.bipush 31, 2) := by decide +kernel
theorem d6 : decode yB 6 = .ok (.iushr, 1) := by decide +kernel
theorem d7 : decode yB 7 = .ok (.i2b, 1) := by decide +kernel
theorem d8 : decode yB 8 = .ok (.ireturn, 1) := by decide +kernel
def site : List Cond := []
def tab : Cond := tabOf yN yB 2 (some .byte) site
def P (d : Addr) (B : Cell) (args : Array Value) (s : State) : Prop := args = #[.ref d, .int (Int32.ofNat B.slots.size)] ∧ Arr .byte d B s
def E (r : Option Value) (s u : State) : Prop := XT.PureE (some (.int 0)) r s u
/-- an array as long as the number of chars: LATIN1 -/
theorem law (l : Launch) (d : Addr) (B : Cell) : Law l yN 2 2 0 0 yB 2 (some .byte) site (P d B) E [] 0 0 := by
  refine Law.of_walk (plainFor_of_name (by decide +kernel)) (by decide +kernel) (by decide +kernel) (by decide) (fun _ _ h => by rw [h.1]; rfl) (fun _ U U' hal hh h => ⟨h.1, h.2.mv hal hh⟩) (fun r U U' V V' h1 hal h2 h => XT.PureE.mv r U U' V V' h1 hal h2 h) ?_
  intro p e s m args below meth c s₁ X0 hexec hbytes hml hret hlk hnm hown hh0 W hP
  obtain ⟨rfl, hB⟩ := hP
  have hB0 := hB.mv X0.warmed.alike hh0
  have c1 : Steps p.tables e below (s₁.setTop (entryFrame m #[.ref d, .int (Int32.ofNat B.slots.size)] 2)) (s₁.setTop (mkF m 0 #[.val (.ref d), .val (.int (Int32.ofNat B.slots.size))] [])) := entry rfl
  have c2 : Steps p.tables e below (s₁.setTop (entryFrame m #[.ref d, .int (Int32.ofNat B.slots.size)] 2)) (s₁.setTop (mkF m 2 #[.val (.ref d), .val (.int (Int32.ofNat B.slots.size))] [.ref d, .int (Int32.ofNat B.slots.size)])) := c1.trans (by
    refine XS.iloadN X0.here hexec rfl (hb hbytes d0) rfl ?_
    refine XS.aloadN X0.here hexec rfl (hb hbytes d1) rfl rfl ?_
    exact Steps.refl _)
  have c3 : Steps p.tables e below (s₁.setTop (entryFrame m #[.ref d, .int (Int32.ofNat B.slots.size)] 2)) (s₁.setTop (mkF m 8 #[.val (.ref d), .val (.int (Int32.ofNat B.slots.size))] [.int (lo8 (ushr (Int32.ofNat B.slots.size - Int32.ofNat B.slots.size) 31))])) := c2.trans (by
    refine X0.alen hexec hB0 rfl rfl (hb hbytes d2) ?_
    refine XS.isub X0.here hexec rfl (hb hbytes d3) rfl ?_
    refine bipushV X0.here hexec rfl 31 (hb hbytes d4) (by decide) ?_
    refine iushr X0.here hexec rfl (hb hbytes d6) rfl ?_
    refine i2b X0.here hexec rfl (hb hbytes d7) rfl ?_
    exact Steps.refl _)
  have e0 : lo8 (ushr (Int32.ofNat B.slots.size - Int32.ofNat B.slots.size) 31) = 0 := by rw [Int32.sub_self]; decide
  rw [e0] at c3
  exact ⟨s₁, some (.int 0), _, _, _, X0, rfl, rfl, rfl, (fun h => by cases h), ⟨rfl, hh0⟩, fun fs hl => c3.trans (X0.ireturnOut hexec hret rfl (Or.inr (Or.inr (Or.inl rfl))) (hb hbytes d8) hl)⟩
end CodL
/-- the String at a is Latin-1 over a new byte[] (the heap's one new cell): the low bytes of the len chars of A from o on; every cell but a is kept -/
def Got (a : Addr) (D : Cell) (fV fC : Field) (A : Cell) (o len : Nat) (r : Option Value) (s u : State) : Prop := r = none ∧ ∃ D' V : Cell, Blank "java/lang/String" a D' u ∧ Same D D' [fV.slot, fC.slot] ∧ D'.slots[fV.slot]? = some (.ref s.heap.size) ∧ D'.slots[fC.slot]? = some (.int 0) ∧ Arr .byte s.heap.size V u ∧ V.vm = .none ∧ u.vm.findClass "[B" = some V.cls ∧ V.slots.size = len ∧ (∀ j, j < len → V.slots[j]? = some (.int (lo8 (cv A (o + j))))) ∧ (∀ (y : Addr) (c : Cell), y ≠ a → s.heap[y]? = some c → u.heap[y]? = some c) ∧ u.heap.size = s.heap.size + 1
theorem Got.mv {a : Addr} {D A : Cell} {fV fC : Field} {o len : Nat} : ∀ r (U U' V V' : State), U'.heap = U.heap → V.vm.Alike V'.vm → V'.heap = V.heap → Got a D fV fC A o len r U V → Got a D fV fC A o len r U' V' :=
  fun r U U' V V' h1 hal h2 ⟨e0, D', X, a1, a2, a3, a4, a5, a6, a7, a8, a9, a10, a11⟩ => ⟨e0, D', X, a1.mv hal h2, a2, by rw [h1]; exact a3, a4, by rw [h1]; exact a5.mv hal h2, a6, by rw [hal.findClass]; exact a7, a8, a9, by rw [h1, h2]; exact a10, by rw [h1, h2]; exact a11⟩
namespace New4
def yN : MethodName := ⟨"java/lang/String", "<init>", "([CIILjava/lang/Void;)V"⟩
abbrev yB : ByteArray := jdk_42_method_149_code
theorem d0 : decode yB 0 = .ok (.aload_n 0, 1) := by decide +kernel
theorem d1 : decode yB 1 = .ok (.invokespecial 1, 3) := by decide +kernel
theorem d4 : decode yB 4 = .ok (.iload_n 3, 1) := by decide +kernel
theorem d5 : decode yB 5 = .ok (.ifCond (.ne) 22, 3) := by decide +kernel
theorem d27 : decode yB 27 = .ok (.getstatic 38, 3) := by decide +kernel
theorem d30 : decode yB 30 = .ok (.ifCond (.eq) 28, 3) := by decide +kernel
theorem d33 : decode yB 33 = .ok (.aload_n 1, 1) := by decide +kernel
theorem d34 : decode yB 34 = .ok (.iload_n 2, 1) := by decide +kernel
theorem d35 : decode yB 35 = .ok (.iload_n 3, 1) := by decide +kernel
theorem d36 : decode yB 36 = .ok (.invokestatic 177, 3) := by decide +kernel
theorem d39 : decode yB 39 = .ok (.astore 5, 2) := by decide +kernel
theorem d41 : decode yB 41 = .ok (.aload_n 0, 1) := by decide +kernel
theorem d42 : decode yB 42 = .ok (.aload 5, 2) := by decide +kernel
theorem d44 : decode yB 44 = .ok (.iload_n 3, 1) := by decide +kernel
theorem d45 : decode yB 45 = .ok (.invokestatic 47, 3) := by decide +kernel
theorem d48 : decode yB 48 = .ok (.putfield 15, 3) := by decide +kernel
theorem d51 : decode yB 51 = .ok (.aload_n 0, 1) := by decide +kernel
theorem d52 : decode yB 52 = .ok (.aload 5, 2) := by decide +kernel
theorem d54 : decode yB 54 = .ok (.putfield 9, 3) := by decide +kernel
theorem d57 : decode yB 57 = .ok (.return_, 1) := by decide +kernel
def site : List Cond := [.fieldLink "java/lang/String" 38 "java/lang/String" "COMPACT_STRINGS" "Z", Cmp3.tab, CodL.tab, .laysFinal "java/lang/String" "java/lang/String" "value" "[B", .fieldLink "java/lang/String" 9 "java/lang/String" "value" "[B", .laysFinal "java/lang/String" "java/lang/String" "coder" "B", .fieldLink "java/lang/String" 15 "java/lang/String" "coder" "B"] ++ objW "java/lang/String" 1 ++ staticW "java/lang/String" 177 Cmp3.yN ++ staticW "java/lang/String" 47 CodL.yN
def tab : Cond := tabOf yN yB 6 none site
def P (a : Addr) (D : Cell) (fV fC : Field) (b : Addr) (A : Cell) (z : Int32) (o len : Nat) (args : Array Value) (s : State) : Prop := args = #[.ref a, .ref b, .int (Int32.ofNat o), .int (Int32.ofNat len), .null] ∧ Blank "java/lang/String" a D s ∧ Found "java/lang/String" "value" "[B" fV s ∧ Found "java/lang/String" "coder" "B" fC s ∧ Ch b A s ∧ StaticIs s "java/lang/String" "COMPACT_STRINGS" "Z" (.int z) ∧ ¬ z = 0 ∧ 0 < len ∧ o + len ≤ A.slots.size ∧ len ≤ 536870912 ∧ ∀ i, i < len → ¬ 255 < cv A (o + i)
def E (a : Addr) (D : Cell) (fV fC : Field) (A : Cell) (o len : Nat) (r : Option Value) (s u : State) : Prop := Got a D fV fC A o len r s u
/-- len > 0, no char of the range above 255: a Latin-1 String of their low bytes -/
theorem law (l : Launch) (a : Addr) (D : Cell) (fV fC : Field) (b : Addr) (A : Cell) (z : Int32) (o len : Nat) : Law l yN 5 4 2 35 yB 6 none site (P a D fV fC b A z o len) (E a D fV fC A o len) [⟨a, fC.slot⟩, ⟨a, fV.slot⟩] 1 len := by
  refine Law.of_walk (plainFor_of_name (by decide +kernel)) (by decide +kernel) (by decide +kernel) (by decide) (fun _ _ h => by rw [h.1]; rfl) (fun _ U U' hal hh h => ⟨h.1, h.2.1.mv hal hh, h.2.2.1.al hal, h.2.2.2.1.al hal, h.2.2.2.2.1.mv hal hh, h.2.2.2.2.2.1.there hal hh, h.2.2.2.2.2.2⟩) (fun r U U' V V' h1 hal h2 h => Got.mv r U U' V V' h1 hal h2 h) ?_
  intro p e s m args below meth c s₁ X0 hexec hbytes hml hret hlk hnm hown hh0 W hP
  obtain ⟨rfl, hB, f1, f2, hA, s1, hz, l0, l1, l2, hp⟩ := hP
  have a31 := hA.1.2.2.2
  have c1 : Steps p.tables e below (s₁.setTop (entryFrame m #[.ref a, .ref b, .int (Int32.ofNat o), .int (Int32.ofNat len), .null] 6)) (s₁.setTop (mkF m 0 #[.val (.ref a), .val (.ref b), .val (.int (Int32.ofNat o)), .val (.int (Int32.ofNat len)), .val .null, .unset] [])) := entry rfl
  have c2 : Steps p.tables e below (s₁.setTop (entryFrame m #[.ref a, .ref b, .int (Int32.ofNat o), .int (Int32.ofNat len), .null] 6)) (s₁.setTop (mkF m 1 #[.val (.ref a), .val (.ref b), .val (.int (Int32.ofNat o)), .val (.int (Int32.ofNat len)), .val .null, .unset] [.ref a])) := c1.trans (by
    refine XS.aloadN X0.here hexec rfl (hb hbytes d0) rfl rfl ?_
    exact Steps.refl _)
  obtain ⟨T3, X3, q3, st3⟩ := X0.oinit hexec hown (wks W (objW "java/lang/String" 1)) (g := (mkF m 1 #[.val (.ref a), .val (.ref b), .val (.int (Int32.ofNat o)), .val (.int (Int32.ofNat len)), .val .null, .unset] [.ref a])) rfl (by rw [hml]; rfl) (rest := []) rfl (hb hbytes d1) (W := 0) (by show 2 * 0 + 0 ≤ _; decide) (Nat.le_of_ble_eq_true rfl) (Nat.le_of_ble_eq_true rfl)
  have hh3 := q3.trans hh0
  have c4 : Steps p.tables e below (s₁.setTop (entryFrame m #[.ref a, .ref b, .int (Int32.ofNat o), .int (Int32.ofNat len), .null] 6)) (T3.setTop (mkF m 27 #[.val (.ref a), .val (.ref b), .val (.int (Int32.ofNat o)), .val (.int (Int32.ofNat len)), .val .null, .unset] [])) := (c2.trans (st3 _ (Steps.refl _))).trans (by
    refine XS.iloadN X3.here hexec rfl (hb hbytes d4) rfl ?_
    refine XS.ifYes X3.here hexec rfl (pc0 := 5) rfl (hb hbytes d5) rfl (i0_ne_t (nz32 (by omega) l0)) (by decide) rfl ?_
    exact Steps.refl _)
  obtain ⟨T5, X5, q5, st5⟩ := X3.sget hexec hown (wk W (.fieldLink "java/lang/String" 38 "java/lang/String" "COMPACT_STRINGS" "Z")) s1 (fun _ _ h => by rw [hh3]; exact h) (g := (mkF m 27 #[.val (.ref a), .val (.ref b), .val (.int (Int32.ofNat o)), .val (.int (Int32.ofNat len)), .val .null, .unset] [])) rfl (hb hbytes d27)
  have hh5 := q5.trans hh3
  have c6 : Steps p.tables e below (s₁.setTop (entryFrame m #[.ref a, .ref b, .int (Int32.ofNat o), .int (Int32.ofNat len), .null] 6)) (T5.setTop (mkF m 30 #[.val (.ref a), .val (.ref b), .val (.int (Int32.ofNat o)), .val (.int (Int32.ofNat len)), .val .null, .unset] [.int z])) := c4.trans (st5 _ (Steps.refl _))
  have c7 : Steps p.tables e below (s₁.setTop (entryFrame m #[.ref a, .ref b, .int (Int32.ofNat o), .int (Int32.ofNat len), .null] 6)) (T5.setTop (mkF m 36 #[.val (.ref a), .val (.ref b), .val (.int (Int32.ofNat o)), .val (.int (Int32.ofNat len)), .val .null, .unset] [.int (Int32.ofNat len), .int (Int32.ofNat o), .ref b])) := c6.trans (by
    refine XS.ifNo X5.here hexec rfl (hb hbytes d30) rfl (i0_eq_f hz) ?_
    refine XS.aloadN X5.here hexec rfl (hb hbytes d33) rfl rfl ?_
    refine XS.iloadN X5.here hexec rfl (hb hbytes d34) rfl ?_
    refine XS.iloadN X5.here hexec rfl (hb hbytes d35) rfl ?_
    exact Steps.refl _)
  obtain ⟨v8, T8, X8, E8, g8⟩ := X5.callS hexec (Cmp3.law l b A o len) hown (wks W (staticW "java/lang/String" 177 Cmp3.yN)) (wk W Cmp3.tab) (W := 0) (Nat.le_of_ble_eq_true rfl) (Nat.le_of_ble_eq_true rfl) (Nat.le_refl _) (by show 0 + len ≤ len; omega) (g := (mkF m 36 #[.val (.ref a), .val (.ref b), .val (.int (Int32.ofNat o)), .val (.int (Int32.ofNat len)), .val .null, .unset] [.int (Int32.ofNat len), .int (Int32.ofNat o), .ref b])) rfl (by rw [hml]; rfl) c7 (argsL := [.ref b, .int (Int32.ofNat o), .int (Int32.ofNat len)]) (rest := []) rfl rfl (by show 2 * 0 + 0 ≤ _; decide) (hb hbytes d36) (⟨rfl, hA.mv X5.warmed.alike hh5, l1, l2, hp⟩)
  obtain ⟨e8, z8⟩ := E8
  obtain ⟨rfl, N, n1, n2, n3, n4, n5, n6⟩ := NewArr.mv _ T5 s _ _ hh5.symm (Vm.Alike.refl _) rfl e8
  rw [hh5] at z8
  have hB1 := hB.keep X8.warmed.alike (n6 _ _ hB.1)
  have hne : s.heap.size ≠ a := (Nat.ne_of_lt (Array.getElem?_eq_some_iff.mp hB.1).1).symm
  have c9 : Steps p.tables e below (s₁.setTop (entryFrame m #[.ref a, .ref b, .int (Int32.ofNat o), .int (Int32.ofNat len), .null] 6)) (T8.setTop (mkF m 39 #[.val (.ref a), .val (.ref b), .val (.int (Int32.ofNat o)), .val (.int (Int32.ofNat len)), .val .null, .unset] [.ref s.heap.size])) := g8
  have c10 : Steps p.tables e below (s₁.setTop (entryFrame m #[.ref a, .ref b, .int (Int32.ofNat o), .int (Int32.ofNat len), .null] 6)) (T8.setTop (mkF m 45 #[.val (.ref a), .val (.ref b), .val (.int (Int32.ofNat o)), .val (.int (Int32.ofNat len)), .val .null, .val (.ref s.heap.size)] [.int (Int32.ofNat N.slots.size), .ref s.heap.size, .ref a])) := by
    have hc : Steps p.tables e below (s₁.setTop (entryFrame m #[.ref a, .ref b, .int (Int32.ofNat o), .int (Int32.ofNat len), .null] 6)) (T8.setTop (mkF m 45 #[.val (.ref a), .val (.ref b), .val (.int (Int32.ofNat o)), .val (.int (Int32.ofNat len)), .val .null, .val (.ref s.heap.size)] [.int (Int32.ofNat len), .ref s.heap.size, .ref a])) := c9.trans (by
      refine XS.astore X8.here hexec rfl (hb hbytes d39) rfl rfl rfl ?_
      refine XS.aloadN X8.here hexec rfl (hb hbytes d41) rfl rfl ?_
      refine XS.aload X8.here hexec rfl (hb hbytes d42) rfl rfl ?_
      refine XS.iloadN X8.here hexec rfl (hb hbytes d44) rfl ?_
      exact Steps.refl _)
    rw [n4]; exact hc
  obtain ⟨v11, T11, X11, E11, g11⟩ := X8.callS hexec (CodL.law l s.heap.size N) hown (wks W (staticW "java/lang/String" 47 CodL.yN)) (wk W CodL.tab) (W := 1) (Nat.le_of_ble_eq_true rfl) (Nat.le_of_ble_eq_true rfl) (Nat.le_refl _) (by show 0 + len + 0 ≤ len; omega) (g := (mkF m 45 #[.val (.ref a), .val (.ref b), .val (.int (Int32.ofNat o)), .val (.int (Int32.ofNat len)), .val .null, .val (.ref s.heap.size)] [.int (Int32.ofNat N.slots.size), .ref s.heap.size, .ref a])) rfl (by rw [hml]; rfl) c10 (argsL := [.ref s.heap.size, .int (Int32.ofNat N.slots.size)]) (rest := [.ref a]) rfl rfl (by show 2 * 0 + (1 + 0) ≤ _; decide) (hb hbytes d45) (⟨rfl, n1⟩)
  obtain ⟨rfl, q11⟩ := E11
  have hB11 := hB1.mv (X8.warmed.alike.symm.trans X11.warmed.alike) q11
  have c12 : Steps p.tables e below (s₁.setTop (entryFrame m #[.ref a, .ref b, .int (Int32.ofNat o), .int (Int32.ofNat len), .null] 6)) (T11.setTop (mkF m 48 #[.val (.ref a), .val (.ref b), .val (.int (Int32.ofNat o)), .val (.int (Int32.ofNat len)), .val .null, .val (.ref s.heap.size)] [.int 0, .ref a])) := g11
  obtain ⟨T13, X13, p13, bl13, sl13, st13⟩ := X11.finit hexec hown (wk W (.fieldLink "java/lang/String" 15 "java/lang/String" "coder" "B")) (Or.inr ⟨_, (wk W (.laysFinal "java/lang/String" "java/lang/String" "coder" "B"))⟩) (Or.inl ⟨rfl, hnm⟩) f2 (Or.inl rfl) hB11 (t := .byte) (by decide +kernel) rfl (g := (mkF m 48 #[.val (.ref a), .val (.ref b), .val (.int (Int32.ofNat o)), .val (.int (Int32.ofNat len)), .val .null, .val (.ref s.heap.size)] [.int 0, .ref a])) rfl (rest := []) rfl (hb hbytes d48)
  have c14 : Steps p.tables e below (s₁.setTop (entryFrame m #[.ref a, .ref b, .int (Int32.ofNat o), .int (Int32.ofNat len), .null] 6)) (T13.setTop (mkF m 54 #[.val (.ref a), .val (.ref b), .val (.int (Int32.ofNat o)), .val (.int (Int32.ofNat len)), .val .null, .val (.ref s.heap.size)] [.ref s.heap.size, .ref a])) := (c12.trans (st13 _ (Steps.refl _))).trans (by
    refine XS.aloadN X13.here hexec rfl (hb hbytes d51) rfl rfl ?_
    refine XS.aload X13.here hexec rfl (hb hbytes d52) rfl rfl ?_
    exact Steps.refl _)
  obtain ⟨T15, X15, p15, bl15, sl15, st15⟩ := X13.finit hexec hown (wk W (.fieldLink "java/lang/String" 9 "java/lang/String" "value" "[B")) (Or.inr ⟨_, (wk W (.laysFinal "java/lang/String" "java/lang/String" "value" "[B"))⟩) (Or.inl ⟨rfl, hnm⟩) f1 (Or.inl rfl) bl13 (t := (.array .byte)) (by decide +kernel) rfl (g := (mkF m 54 #[.val (.ref a), .val (.ref b), .val (.int (Int32.ofNat o)), .val (.int (Int32.ofNat len)), .val .null, .val (.ref s.heap.size)] [.ref s.heap.size, .ref a])) rfl (rest := []) rfl (hb hbytes d54)
  have c16 : Steps p.tables e below (s₁.setTop (entryFrame m #[.ref a, .ref b, .int (Int32.ofNat o), .int (Int32.ofNat len), .null] 6)) (T15.setTop (mkF m 57 #[.val (.ref a), .val (.ref b), .val (.int (Int32.ofNat o)), .val (.int (Int32.ofNat len)), .val .null, .val (.ref s.heap.size)] [])) := c14.trans (st15 _ (Steps.refl _))
  have ap := apart (Or.inr ⟨_, (wk W (.laysFinal "java/lang/String" "java/lang/String" "value" "[B"))⟩) (Or.inr ⟨_, (wk W (.laysFinal "java/lang/String" "java/lang/String" "coder" "B"))⟩) f1 f2 (t₁ := .array .byte) (t₂ := .byte) (by decide +kernel) (by decide +kernel) (by decide)
  have al := X8.warmed.alike.symm.trans X15.warmed.alike
  have n7 : T11.heap[s.heap.size]? = some N := by rw [q11]; exact n1.1
  exact ⟨T15, none, _, _, _, X15, by simp, rfl, by omega, (fun _ => rfl), ⟨rfl, _, N, bl15, ((Same.refl D _).set _ (by simp)).set _ (by simp), sl15, (Cell.slots_setSlot_ne _ ap).trans sl13, n1.keep al (p15.other hne (p13.other hne n7)), n2, by rw [al.findClass]; exact n3, n4, n5, fun y c h1 h2 => p15.other h1 (p13.other h1 (by rw [q11]; exact n6 y c h2)), by rw [p15.2.2, p13.2.2, q11]; exact z8⟩, fun fs hl => c16.trans (X15.returnOut hexec hret (hb hbytes d57) hl)⟩
end New4
namespace New1
def yN : MethodName := ⟨"java/lang/String", "<init>", "([C)V"⟩
abbrev yB : ByteArray := jdk_42_method_3_code
theorem d0 : decode yB 0 = .ok (.aload_n 0, 1) := by decide +kernel
theorem d1 : decode yB 1 = .ok (.aload_n 1, 1) := by decide +kernel
theorem d2 : decode yB 2 = .ok (.iconst 0, 1) := by decide +kernel
theorem d3 : decode yB 3 = .ok (.aload_n 1, 1) := by decide +kernel
theorem d4 : decode yB 4 = .ok (.arraylength, 1) := by decide +kernel
theorem d5 : decode yB 5 = .ok (.aconst_null, 1) := by decide +kernel
theorem d6 : decode yB 6 = .ok (.invokespecial 27, 3) := by decide +kernel
theorem d9 : decode yB 9 = .ok (.return_, 1) := by decide +kernel
def site : List Cond := [New4.tab] ++ initW "java/lang/String" 27 New4.yN
def tab : Cond := tabOf yN yB 2 none site
def P (a : Addr) (D : Cell) (fV fC : Field) (b : Addr) (A : Cell) (z : Int32) (args : Array Value) (s : State) : Prop := args = #[.ref a, .ref b] ∧ Blank "java/lang/String" a D s ∧ Found "java/lang/String" "value" "[B" fV s ∧ Found "java/lang/String" "coder" "B" fC s ∧ Ch b A s ∧ StaticIs s "java/lang/String" "COMPACT_STRINGS" "Z" (.int z) ∧ ¬ z = 0 ∧ 0 < A.slots.size ∧ A.slots.size ≤ 536870912 ∧ ∀ i, i < A.slots.size → ¬ 255 < cv A i
def E (a : Addr) (D : Cell) (fV fC : Field) (A : Cell) (r : Option Value) (s u : State) : Prop := Got a D fV fC A 0 A.slots.size r s u
/-- new String(chars), not empty, no char above 255: a Latin-1 String of their low bytes -/
theorem law (l : Launch) (a : Addr) (D : Cell) (fV fC : Field) (b : Addr) (A : Cell) (z : Int32) : Law l yN 2 1 3 52 yB 2 none site (P a D fV fC b A z) (E a D fV fC A) [⟨a, fC.slot⟩, ⟨a, fV.slot⟩] 1 A.slots.size := by
  refine Law.of_walk (plainFor_of_name (by decide +kernel)) (by decide +kernel) (by decide +kernel) (by decide) (fun _ _ h => by rw [h.1]; rfl) (fun _ U U' hal hh h => ⟨h.1, h.2.1.mv hal hh, h.2.2.1.al hal, h.2.2.2.1.al hal, h.2.2.2.2.1.mv hal hh, h.2.2.2.2.2.1.there hal hh, h.2.2.2.2.2.2⟩) (fun r U U' V V' h1 hal h2 h => Got.mv r U U' V V' h1 hal h2 h) ?_
  intro p e s m args below meth c s₁ X0 hexec hbytes hml hret hlk hnm hown hh0 W hP
  obtain ⟨rfl, hB, f1, f2, hA, s1, hz, l0, l2, hp⟩ := hP
  have c1 : Steps p.tables e below (s₁.setTop (entryFrame m #[.ref a, .ref b] 2)) (s₁.setTop (mkF m 0 #[.val (.ref a), .val (.ref b)] [])) := entry rfl
  have c2 : Steps p.tables e below (s₁.setTop (entryFrame m #[.ref a, .ref b] 2)) (s₁.setTop (mkF m 6 #[.val (.ref a), .val (.ref b)] [.null, .int (Int32.ofNat A.slots.size), .int 0, .ref b, .ref a])) := c1.trans (by
    refine XS.aloadN X0.here hexec rfl (hb hbytes d0) rfl rfl ?_
    refine XS.aloadN X0.here hexec rfl (hb hbytes d1) rfl rfl ?_
    refine iconstV X0.here hexec rfl 0 (hb hbytes d2) (by decide) ?_
    refine XS.aloadN X0.here hexec rfl (hb hbytes d3) rfl rfl ?_
    refine X0.alen hexec (hA.1.mv X0.warmed.alike hh0) rfl rfl (hb hbytes d4) ?_
    refine XS.aconstNull X0.here hexec rfl (hb hbytes d5) ?_
    exact Steps.refl _)
  obtain ⟨v3, T3, X3, E3, g3⟩ := X0.callN hexec (New4.law l a D fV fC b A z 0 A.slots.size) rfl hown (wks W (initW "java/lang/String" 27 New4.yN)) (W New4.tab (by simp only [site, List.mem_cons, List.mem_append, true_or, or_true])) (W := 0) (Nat.le_of_ble_eq_true rfl) (Nat.le_of_ble_eq_true rfl) (Nat.le_refl _) (by show 0 + A.slots.size ≤ A.slots.size; omega) (g := (mkF m 6 #[.val (.ref a), .val (.ref b)] [.null, .int (Int32.ofNat A.slots.size), .int (Int32.ofNat 0), .ref b, .ref a])) rfl (by rw [hml]; rfl) c2 (argsL := [.ref b, .int (Int32.ofNat 0), .int (Int32.ofNat A.slots.size), .null]) (rest := []) rfl rfl (by show 2 * 0 + 0 ≤ _; decide) (hb hbytes d6) (⟨rfl, hB.mv X0.warmed.alike hh0, f1.al X0.warmed.alike, f2.al X0.warmed.alike, hA.mv X0.warmed.alike hh0, s1.there X0.warmed.alike hh0, hz, l0, by omega, l2, fun i hi => by rw [Nat.zero_add]; exact hp i hi⟩)
  have e0 := Got.mv _ s₁ s _ _ hh0.symm (Vm.Alike.refl _) rfl E3
  obtain rfl := e0.1
  have c4 : Steps p.tables e below (s₁.setTop (entryFrame m #[.ref a, .ref b] 2)) (T3.setTop (mkF m 9 #[.val (.ref a), .val (.ref b)] [])) := g3
  exact ⟨T3, none, _, _, _, X3, by simp, rfl, by omega, (fun _ => rfl), e0, fun fs hl => c4.trans (X3.returnOut hexec hret (hb hbytes d9) hl)⟩
theorem pays {l : Launch} {R : Room} {p : Program} {e : Env} {below : List Frame} {s : State} {sargs : Array Value} {len W : Nat} (a : Addr) (D : Cell) (fV fC : Field) (b : Addr) (A : Cell) (z : Int32) (htab : tab.before sargs s = true) (hfr : 4 ≤ R.frames) (hlo : W + 65 ≤ R.locals) :
    Back l R p e below s sargs yN len W (fun A₁ a₁ => A₁.cells + 1 ≤ R.cells ∧ A₁.slots + A.slots.size ≤ R.slots ∧ P a D fV fC b A z a₁ A₁.U) (fun A₁ _ v₁ B₁ => E a D fV fC A v₁ A₁.U B₁.U ∧ B₁.locs = A₁.locs ++ [⟨a, fC.slot⟩, ⟨a, fV.slot⟩] ∧ B₁.cells = A₁.cells + 1 ∧ B₁.slots = A₁.slots + A.slots.size) :=
  (law l a D fV fC b A z).pays htab hfr (by omega)
end New1
/-- the byte, read back as charAt reads it, is the char -/
theorem lo8_mask {x : Int32} (h0 : ¬ x < 0) (h1 : ¬ 255 < x) : lo8 x &&& 255 = x := by
  have t : ∀ k : Fin 256, lo8 (Int32.ofNat k.val) &&& 255 = Int32.ofNat k.val := by decide +kernel
  rw [Int32.lt_iff_toInt_lt] at h0 h1
  have e0 : (0 : Int32).toInt = 0 := rfl
  have e1 : (255 : Int32).toInt = 255 := rfl
  obtain ⟨k, hk⟩ : ∃ k : Nat, x.toInt = k := ⟨x.toInt.toNat, by omega⟩
  have hx : x = Int32.ofNat k := Int32.toInt_inj.mp (by rw [hk, Int32.toInt_ofNat_small (by omega)])
  rw [hx]
  exact t ⟨k, by omega⟩
end StrChars
namespace StrChars.Road
open Jvm Sem ClassFile Op Lib Jvm.Stand Jvm.Free Jvm.Free.XT
open Jvm.Lib.Cold (StaticIs)
abbrev ST : String := "java/lang/String"
/-- every table word that New1's law asks, flat -/
abbrev words : List Jvm.Cond := [.code New1.yN New1.yB 2 none, .initialized ST, .methodLink ST 27 New4.yN, .instanceMethod New4.yN,
  .code New4.yN New4.yB 6 none, .fieldLink ST 38 ST "COMPACT_STRINGS" "Z", .laysFinal ST ST "value" "[B", .fieldLink ST 9 ST "value" "[B", .laysFinal ST ST "coder" "B", .fieldLink ST 15 ST "coder" "B",
  .methodLink ST 1 Lib.objectInit, .instanceMethod Lib.objectInit, .code Lib.objectInit ⟨#[0xb1]⟩ 1 none, .methodLink ST 177 Cmp3.yN, .static Cmp3.yN, .methodLink ST 47 CodL.yN, .static CodL.yN,
  .code Cmp3.yN Cmp3.yB 6 (some (.array .byte)), .initialized U16, .arrayClass .byte, .methodLink U16 115 Cmp5.yN, .static Cmp5.yN, .code Cmp5.yN Cmp5.yB 7 (some .int), .code CodL.yN CodL.yB 2 (some .byte)]
theorem tab_of {a : Array Value} {s : State} (h : ∀ w ∈ words, w.before a s = true) : New1.tab.before a s = true := by
  have h5 : Cmp5.tab.before a s = true := unparts (wk h (.code Cmp5.yN Cmp5.yB 7 (some .int))) (wks h (.initialized Cmp5.yN.cls :: Cmp5.site))
  have hc : CodL.tab.before a s = true := unparts (wk h (.code CodL.yN CodL.yB 2 (some .byte))) (wks h (.initialized CodL.yN.cls :: CodL.site))
  have q5 : ∀ w ∈ Cmp5.tab :: words, w.before a s = true := fun w hw => (List.mem_cons.mp hw).elim (fun e => e ▸ h5) (h w)
  have h3 : Cmp3.tab.before a s = true := unparts (wk q5 (.code Cmp3.yN Cmp3.yB 6 (some (.array .byte)))) (wks q5 (.initialized Cmp3.yN.cls :: Cmp3.site))
  have q3 : ∀ w ∈ Cmp3.tab :: CodL.tab :: words, w.before a s = true := fun w hw => (List.mem_cons.mp hw).elim (fun e => e ▸ h3) fun hw => (List.mem_cons.mp hw).elim (fun e => e ▸ hc) (h w)
  have h4 : New4.tab.before a s = true := unparts (wk q3 (.code New4.yN New4.yB 6 none)) (wks q3 (.initialized New4.yN.cls :: New4.site))
  have q4 : ∀ w ∈ New4.tab :: words, w.before a s = true := fun w hw => (List.mem_cons.mp hw).elim (fun e => e ▸ h4) (h w)
  exact unparts (wk q4 (.code New1.yN New1.yB 2 none)) (wks q4 (.initialized New1.yN.cls :: New1.site))
/-- the words ride from the start Z to the walk's own state -/
theorem moved {Z s : State} {a0 args : Array Value} (hZ : Z.Warmed39 s.vm) (hw : ∀ d ∈ words, d.before a0 Z = true) : ∀ d ∈ words, d.before args s = true := fun d hd => by
  have q := hw d hd
  have t : ∀ d ∈ words, d = .arrayClass .byte ∨ (d.onTables && d.keepsFace) = true := by decide +kernel
  rcases t d hd with rfl | t
  · exact RoadKit.mvA hZ q
  · exact RoadKit.mv hZ q t
/-- WHAT COMES BACK, over the tables of the start Z: h the heap at the call, h' behind it -/
def Q (Z : State) (x : Addr) (A : Cell) (h : Heap) (v : Option Value) (h' : Heap) (L : List Loc) : Prop := v = none ∧ (∀ y ∈ L, y.base = x) ∧ RoadKit.Keep h h' [x] ∧ h'.size = h.size + 1 ∧ RoadKit.Exa Z h' x ST ∧ RoadKit.Fld Z h' x ST "value" "[B" (.ref h.size) ∧ RoadKit.Fld Z h' x ST "coder" "B" (.int 0) ∧
  (∃ V : Cell, RoadKit.Arr Z h' h.size V .byte ∧ V.vm = .none ∧ Z.vm.findClass "[B" = some V.cls ∧ V.slots.size = A.slots.size ∧ ∀ j, j < A.slots.size → V.slots[j]? = some (.int (lo8 (cv A j)))) ∧
  ∀ (O n d : String) (w : Value), RoadKit.Fld Z h x O n d w → RoadKit.slotOf Z O n d ≠ RoadKit.slotOf Z ST "value" "[B" → RoadKit.slotOf Z O n d ≠ RoadKit.slotOf Z ST "coder" "B" → RoadKit.Fld Z h' x O n d w
/-- **new String(chars) AT A CALL, IN THE ROAD'S FORM**: for specialBack behind newO: x the fresh String, b the char[] with the cell A -/
theorem back {p : Program} {l : Launch} {e : Env} {R : Room} {s : State} {args : Array Value} {below : List Frame} {len W : Nat} {Z : State} {a0 : Array Value} {h : Heap} (hZ : Z.Warmed39 s.vm) (hw : ∀ d ∈ words, d.before a0 Z = true) {kI : Nat} (wi : (Jvm.Cond.instantiable ST kI).before a0 Z = true)
    {x b : Addr} {A : Cell} {z : Int32} {v0 c0 : Value} (E : RoadKit.Exa Z h x ST) (V : RoadKit.Fld Z h x ST "value" "[B" v0) (C : RoadKit.Fld Z h x ST "coder" "B" c0) (K : RoadKit.Arr Z h b A .char) (hty : Typed .char A) (S : RoadKit.Sta Z h ST "COMPACT_STRINGS" "Z" (.int z)) (hz : ¬ z = 0)
    (l0 : 0 < A.slots.size) (l2 : A.slots.size ≤ 536870912) (hp : ∀ i, i < A.slots.size → ¬ 255 < cv A i) (hfr : 4 ≤ R.frames) (hlo : W + 65 ≤ R.locals) :
    Back l R p e below s args New1.yN len W (fun P a => a = #[.ref x, .ref b] ∧ P.U.heap = h ∧ P.cells + 1 ≤ R.cells ∧ P.slots + A.slots.size ≤ R.slots)
      (fun P _ v B => ∃ L, Q Z x A h v B.U.heap L ∧ B.locs = P.locs ++ L ∧ B.cells = P.cells + 1 ∧ B.slots = P.slots + A.slots.size) := by
  intro m meth c P g ig mk a X hg hsize hdg hW hn hp'
  obtain ⟨rfl, rfl, r1, r2⟩ := hp'
  have al : Z.vm.Alike P.U.vm := hZ.alike.trans X.warmed.alike
  obtain ⟨D, cfV, kV, iV, fV, hD, gV, stV, knV, obV, asV, slV⟩ := id V
  obtain ⟨D', cfC, kC, iC, fC, hD', gC, stC, -, -, asC, slC⟩ := id C
  cases hD.symm.trans hD'
  obtain ⟨D2, kD, e1, e2, e3, e4, e5⟩ := id E
  cases hD.symm.trans e1
  obtain ⟨c2, k2, i1, i2, i3, -⟩ := Cond.instantiable_spec wi
  cases e2.symm.trans i1
  cases e3.symm.trans i2
  obtain ⟨kU, u1, u2⟩ := al.2.2 _ _ e3
  have hB : Blank ST x D P.U := ⟨hD, ⟨knV, fun q hq => by rw [hq] at obV; cases obV⟩, by rw [al.findClass]; exact e2, kU, u1, by rw [u2]; exact i3, by rw [u2]; exact e5 i3⟩
  have F1 : Found ST "value" "[B" fV P.U := ⟨SBG.found_only al ⟨cfV, kV, iV, gV⟩, stV⟩
  have F2 : Found ST "coder" "B" fC P.U := ⟨SBG.found_only al ⟨cfC, kC, iC, gC⟩, stC⟩
  have hA : Ch b A P.U := ⟨⟨K.1, State.isArrayOf_alike al K.2.1, K.2.2, by omega⟩, hty⟩
  have hS : StaticIs P.U ST "COMPACT_STRINGS" "Z" (.int z) := by
    obtain ⟨cfS, iS, kS, fS, st, cS, t1, t2, t3, t4, t5, t6, t7⟩ := S
    exact StaticIs.there (s := { Z with heap := P.U.heap }) ⟨cfS, iS, kS, fS, st, cS, t1, t2, t3, t4, t5, (fun q => by rw [q] at t6; cases t6), t7⟩ al rfl
  obtain ⟨v, B, X', ⟨⟨hv, E', V', q1, q2, q3, q4, q5, q6, q7, q8, q9, q10, q11⟩, hl, hc, hs⟩, st⟩ := New1.pays x D fV fC b A z (tab_of (moved hZ hw)) hfr hlo m meth c P g ig mk _ X hg hsize hdg hW hn ⟨r1, r2, rfl, hB, F1, F2, hA, hS, hz, l0, l2, hp⟩
  have al' : Z.vm.Alike B.U.vm := hZ.alike.trans X'.warmed.alike
  have hsz : E'.slots.size = D.slots.size := by
    obtain ⟨-, -, -, kB, w1, w2, w3⟩ := q1
    obtain ⟨kB', y1, y2⟩ := al'.2.2 _ _ e3
    rw [q2.2.1] at w1
    cases w1.symm.trans y1
    rw [w3, e5 i3, y2]
  refine ⟨v, B, X', ⟨_, ⟨hv, ?_, ⟨by omega, fun y cy hy hn' => q10 y cy (by simpa using hn') hy, fun y cy hy => ?_⟩, q11, ⟨E', _, q1.1, by rw [q2.2.1]; exact e2, by rw [q2.2.1]; exact e3, by rw [q2.1]; exact obV, fun _ => by rw [hsz]; exact e5 i3⟩,
    ⟨E', cfV, kV, iV, fV, q1.1, gV, stV, by rw [q2.1]; exact knV, by rw [q2.1]; exact obV, by rw [q2.2.1]; exact asV, q3⟩, ⟨E', cfC, kC, iC, fC, q1.1, gC, stC, by rw [q2.1]; exact knV, by rw [q2.1]; exact obV, by rw [q2.2.1]; exact asC, q4⟩,
    ⟨V', ⟨q5.1, State.isArrayOf_alike al'.symm q5.2.1, q5.2.2.1⟩, q6, by rw [← al'.findClass]; exact q7, q8, fun j hj => by have := q9 j hj; rwa [Nat.zero_add] at this⟩, fun O n d w F n1 n2 => ?_⟩, hl, hc, hs⟩, st⟩
  · intro y hy
    simp only [List.mem_cons, List.not_mem_nil, or_false] at hy
    rcases hy with rfl | rfl <;> rfl
  · by_cases q : y = x
    · subst q
      cases hD.symm.trans hy
      exact ⟨E', q1.1, q2.2.1, q2.1, hsz⟩
    · exact ⟨cy, q10 y cy q hy, rfl, rfl, rfl⟩
  · obtain ⟨D3, cf, k, i, f, g1, g2, g3, g4, g5, g6, g7⟩ := F
    cases hD.symm.trans g1
    simp only [RoadKit.slotOf, g2, gV, gC, Option.map_some, Option.getD_some] at n1 n2
    exact ⟨E', cf, k, i, f, q1.1, g2, g3, by rw [q2.1]; exact g4, by rw [q2.1]; exact g5, by rw [q2.2.1]; exact g6, by rw [q2.2.2 f.slot (by simp [n1, n2])]; exact g7⟩
end StrChars.Road
namespace StrChars.Road
open Jvm Sem ClassFile Op Lib Jvm.Stand Jvm.Free Jvm.Free.XT
/-- WHAT COMES BACK, the byte[] as a list of values -/
def QA (Z : State) (x : Addr) (zn : Int32) (cs : List Int32) (h : Heap) (v : Option Value) (h' : Heap) (L : List Loc) : Prop := v = none ∧ (∀ y ∈ L, y.base = x) ∧ RoadKit.Keep h h' [x] ∧ h'.size = h.size + 1 ∧ RoadKit.Exa Z h' x ST ∧ RoadKit.Fld Z h' x ST "value" "[B" (.ref h.size) ∧ RoadKit.Fld Z h' x ST "coder" "B" (.int 0) ∧
  (∃ kb, Z.vm.findClass "[B" = some kb ∧ RoadKit.Arv Z h' h.size kb .byte zn (cs.map fun c => .int (lo8 c)) (.int 0)) ∧
  ∀ (O n d : String) (w : Value), RoadKit.Fld Z h x O n d w → RoadKit.slotOf Z O n d ≠ RoadKit.slotOf Z ST "value" "[B" → RoadKit.slotOf Z O n d ≠ RoadKit.slotOf Z ST "coder" "B" → RoadKit.Fld Z h' x O n d w
/-- **new String(chars) AT A CALL, THE ARRAYS AS LISTS**: the char[] at b holds cs, not empty, no char above 255 -/
theorem backArv {p : Program} {l : Launch} {e : Env} {R : Room} {s : State} {args : Array Value} {below : List Frame} {len W : Nat} {Z : State} {a0 : Array Value} {h : Heap} (hZ : Z.Warmed39 s.vm) (hw : ∀ d ∈ words, d.before a0 Z = true) {kI : Nat} (wi : (Jvm.Cond.instantiable ST kI).before a0 Z = true)
    {x b : Addr} {k : ClassId} {zn z : Int32} {cs : List Int32} {dv v0 c0 : Value} (E : RoadKit.Exa Z h x ST) (V : RoadKit.Fld Z h x ST "value" "[B" v0) (C : RoadKit.Fld Z h x ST "coder" "B" c0) (K : RoadKit.Arv Z h b k .char zn (cs.map Value.int) dv) (S : RoadKit.Sta Z h ST "COMPACT_STRINGS" "Z" (.int z)) (hz : ¬ z = 0)
    (hlen : zn.toNatClampNeg = cs.length) (h0 : 0 < cs.length) (hbig : cs.length ≤ 536870912) (hall : ∀ c ∈ cs, ¬ 255 < c) (hfr : 4 ≤ R.frames) (hlo : W + 65 ≤ R.locals) :
    Back l R p e below s args New1.yN len W (fun P a => a = #[.ref x, .ref b] ∧ P.U.heap = h ∧ P.cells + 1 ≤ R.cells ∧ P.slots + cs.length ≤ R.slots)
      (fun P _ v B => ∃ L, QA Z x zn cs h v B.U.heap L ∧ B.locs = P.locs ++ L ∧ B.cells = P.cells + 1 ∧ B.slots = P.slots + cs.length) := by
  obtain ⟨A, K1, K2, K3, K4, K5, K6⟩ := K
  have e : A.slots.size = cs.length := K3.trans hlen
  have hat : ∀ (i : Nat) (hi : i < cs.length), A.slots[i]? = some (.int cs[i]) := fun i hi => by rw [K5 i (by omega)]; simp [List.getD_eq_getElem?_getD, hi]
  have hcv : ∀ (i : Nat) (hi : i < cs.length), cv A i = cs[i] := fun i hi => by unfold cv; rw [hat i hi]
  have hty : Typed .char A := fun i v hv => by
    have hi : i < A.slots.size := (Array.getElem?_eq_some_iff.mp hv).1
    have q := K5 i hi
    rw [hv] at q
    rw [Option.some.inj q]
    exact K6 i hi
  refine Back.mono (back hZ hw wi E V C K1 hty S hz (by omega) (by omega) (fun i hi => by rw [hcv i (by omega)]; exact hall _ (List.getElem_mem _)) hfr hlo) (fun P a hp => ⟨hp.1, hp.2.1, hp.2.2.1, by rw [e]; exact hp.2.2.2⟩) (fun P a v B hp hq => ?_)
  obtain ⟨L, ⟨q1, q2, q3, q4, q5, q6, q7, ⟨V', v1, v2, v3, v4, v5⟩, q9⟩, hl, hc, hs⟩ := hq
  refine ⟨L, ⟨q1, q2, q3, q4, q5, q6, q7, ⟨V'.cls, v3, V', v1, rfl, by rw [v4, e, hlen], K4, fun i hi => ?_, fun i hi => ?_⟩, q9⟩, hl, hc, by rw [hs, e]⟩
  · have hi' : i < cs.length := by omega
    rw [v5 i (by omega), hcv i hi']; simp [List.getD_eq_getElem?_getD, hi']
  · have hi' : i < cs.length := by omega
    simp only [List.getD_eq_getElem?_getD, List.getElem?_map, List.getElem?_eq_getElem hi', Option.map_some, Option.getD_some]
    exact fits_lo8 _
end StrChars.Road
namespace StrChars.Road
open Jvm Sem ClassFile Op Lib Jvm.Stand Jvm.Free Jvm.Free.XT
/-- WHAT COMES BACK, in the writer's own shape -/
def QV (Z : State) (x : Addr) (N : Int32) (bs : List Int32) (h : Heap) (n0 : Nat) (v : Option Value) (h' : Heap) (L : List Loc) : Prop := v = none ∧ RoadKit.Fr n0 L ∧ RoadKit.Keep h h' [x] ∧ RoadKit.Exa Z h' x ST ∧ RoadKit.Fld Z h' x ST "coder" "B" (.int 0) ∧
  ∃ (t : Addr) (kb : ClassId), n0 ≤ t ∧ h.size ≤ t ∧ ¬ t = x ∧ RoadKit.Fld Z h' x ST "value" "[B" (.ref t) ∧ RoadKit.Arv Z h' t kb .byte N (bs.map Value.int) (.int 0)
/-- **new String(chars) AT A CALL, FOR THE WRITER**: a char[] of n known ints, each 0 to 255 -/
theorem backV {p : Program} {l : Launch} {e : Env} {R : Room} {s : State} {args : Array Value} {below : List Frame} {len W : Nat} {Z : State} {a0 : Array Value} {h : Heap} (hZ : Z.Warmed39 s.vm) (hw : ∀ d ∈ words, d.before a0 Z = true) {kI : Nat} (wi : (Jvm.Cond.instantiable ST kI).before a0 Z = true)
    {x b : Addr} {kC : ClassId} {cs bs : List Int32} {d v0 c0 : Value} {z N : Int32} {n n0 : Nat} (hx0 : n0 ≤ x) (hh0 : n0 ≤ h.size) (E : RoadKit.Exa Z h x ST) (V : RoadKit.Fld Z h x ST "value" "[B" v0) (C : RoadKit.Fld Z h x ST "coder" "B" c0) (K : RoadKit.Arv Z h b kC .char N (cs.map Value.int) d) (S : RoadKit.Sta Z h ST "COMPACT_STRINGS" "Z" (.int z)) (hz : ¬ z = 0)
    (hn : cs.length = n) (hN : N = Int32.ofNat n) (l0 : 0 < n) (l2 : n ≤ 4000) (hp : ∀ c ∈ cs, ¬ c < 0 ∧ ¬ (255 : Int32) < c) (hb : bs = cs.map (fun c => c.toInt8.toInt32)) (hfr : 4 ≤ R.frames) (hlo : W + 65 ≤ R.locals) :
    Back l R p e below s args (⟨"java/lang/String", "<init>", "([C)V"⟩ : MethodName) len W (fun P a => a = #[.ref x, .ref b] ∧ P.U.heap = h ∧ P.cells + 1 ≤ R.cells ∧ P.slots + n ≤ R.slots)
      (fun P _ v B => ∃ L, QV Z x N bs h n0 v B.U.heap L ∧ B.locs = P.locs ++ L ∧ B.cells = P.cells + 1 ∧ B.slots = P.slots + n) := by
  subst hn hN hb
  refine Back.mono (backArv hZ hw wi E V C K S hz (n32 (by omega)) l0 (by omega) (fun c hc => (hp c hc).2) hfr hlo) (fun P a hp => hp) (fun P a v B hp hq => ?_)
  obtain ⟨L, ⟨q1, q2, q3, q4, q5, q6, q7, ⟨kb, v1, v2⟩, q9⟩, hl, hc, hs⟩ := hq
  exact ⟨L, ⟨q1, fun y hy => by rw [q2 y hy]; exact hx0, q3, q5, q7, h.size, kb, hh0, Nat.le_refl _, Nat.ne_of_gt E.lt, q6, by rw [List.map_map]; exact v2⟩, hl, hc, hs⟩
end StrChars.Road
namespace StrChars
open Jvm Sem ClassFile Op Lib Jvm.Stand Jvm.Free.XT Jvm.Free.ALB Jvm.Free.JM Jvm.Free
open Jvm.Lib.Cold (StaticIs)
def hi8 (x : Int32) : Int32 := lo8 (x >>> ((8 : Int32) &&& 31))
/-- what StringUTF16.getChar makes of two bytes -/
def pairCh (u v : Int32) : Int32 := (((u &&& 255) <<< ((0 : Int32) &&& 31)) ||| ((v &&& 255) <<< ((8 : Int32) &&& 31))).toUInt32.toUInt16.toUInt32.toInt32
theorem shr0 (c : Int32) : c >>> ((0 : Int32) &&& 31) = c := by
  have e : ((0 : Int32) &&& 31) = 0 := by decide
  rw [e]
  apply Int32.toBitVec_inj.mp
  rw [Int32.toBitVec_shiftRight]
  have e1 : ((0 : Int32).toBitVec.smod 32) = 0#32 := by decide
  rw [e1, BitVec.sshiftRight_eq']
  exact BitVec.sshiftRight_zero
theorem lo8_and (x : Int32) : (lo8 x &&& 255).toBitVec.toNat = x.toBitVec.toNat % 256 := by
  have h : (lo8 x).toBitVec = (x.toBitVec.signExtend 8).signExtend 32 := by rw [lo8, Int8.toBitVec_toInt32, Int32.toBitVec_toInt8]
  rw [Int32.toBitVec_and, BitVec.toNat_and, h]
  have e : ((x.toBitVec.signExtend 8).signExtend 32).toNat % 256 = x.toBitVec.toNat % 256 := by
    rw [BitVec.toNat_signExtend]
    have hlt := x.toBitVec.isLt
    simp only [BitVec.toNat_setWidth, BitVec.toNat_signExtend]
    split <;> split <;> omega
  rw [← e]
  exact Nat.and_two_pow_sub_one_eq_mod _ 8
theorem pair_says {c : Int32} (h0 : ¬ c < 0) (h1 : ¬ 65535 < c) : pairCh (lo8 c) (hi8 c) = c := by
  rw [Int32.lt_iff_toInt_lt] at h0 h1
  have e0 : (0 : Int32).toInt = 0 := rfl
  have e1 : (65535 : Int32).toInt = 65535 := rfl
  have hc : c.toInt = c.toBitVec.toNat := by
    have := c.toBitVec.isLt
    have e : c.toInt = c.toBitVec.toInt := rfl
    rw [e] at h0 h1
    rw [e]
    rw [BitVec.toInt_eq_toNat_cond] at h0 h1 ⊢
    split at h0 <;> split <;> omega
  have hn : c.toBitVec.toNat < 65536 := by omega
  have a1 := lo8_and c
  have a2 : (hi8 c &&& 255).toBitVec.toNat = c.toBitVec.toNat / 256 := by
    rw [hi8, lo8_and]
    have e : ((8 : Int32) &&& 31) = 8 := by decide
    rw [e, Int32.toBitVec_shiftRight]
    have e2 : ((8 : Int32).toBitVec.smod 32) = 8#32 := by decide
    rw [e2, BitVec.sshiftRight_eq', BitVec.toNat_sshiftRight_of_msb_false (by rw [BitVec.msb_eq_false_iff_two_mul_lt]; omega)]
    show c.toBitVec.toNat >>> 8 % 256 = _
    rw [Nat.shiftRight_eq_div_pow]
    omega
  unfold pairCh
  apply Int32.toBitVec_inj.mp
  apply BitVec.eq_of_toNat_eq
  have f0 : ((0 : Int32) &&& 31) = 0 := by decide
  have f8 : ((8 : Int32) &&& 31) = 8 := by decide
  rw [f0, f8]
  have g : (((lo8 c &&& 255) <<< (0 : Int32)) ||| ((hi8 c &&& 255) <<< (8 : Int32))).toBitVec.toNat = c.toBitVec.toNat := by
    rw [Int32.toBitVec_or, Int32.toBitVec_shiftLeft, Int32.toBitVec_shiftLeft]
    have s0 : ((0 : Int32).toBitVec.smod 32) = 0#32 := by decide
    have s8 : ((8 : Int32).toBitVec.smod 32) = 8#32 := by decide
    rw [s0, s8, BitVec.toNat_or]
    simp only [BitVec.shiftLeft_eq', BitVec.toNat_shiftLeft, a1, a2]
    show (c.toBitVec.toNat % 256) <<< 0 % 2 ^ 32 ||| (c.toBitVec.toNat / 256) <<< 8 % 2 ^ 32 = _
    rw [Nat.shiftLeft_zero, Nat.mod_eq_of_lt (show c.toBitVec.toNat % 256 < 2 ^ 32 by omega), Nat.mod_eq_of_lt (show (c.toBitVec.toNat / 256) <<< 8 < 2 ^ 32 by rw [Nat.shiftLeft_eq]; omega), Nat.or_comm, ← Nat.shiftLeft_add_eq_or_of_lt (by omega), Nat.shiftLeft_eq]
    omega
  show BitVec.toNat (((((lo8 c &&& 255) <<< (0 : Int32)) ||| ((hi8 c &&& 255) <<< (8 : Int32))).toBitVec.setWidth 16).setWidth 32) = _
  rw [BitVec.toNat_setWidth, BitVec.toNat_setWidth, g]
  omega
end StrChars
namespace StrChars
open Jvm Sem ClassFile Op Lib Jvm.Stand Jvm.Free.XT Jvm.Free.ALB Jvm.Free.JM Jvm.Free
open Jvm.Lib.Cold (StaticIs)
theorem shr1 {n : Nat} (h : 2 * n < 2 ^ 31) : Int32.ofNat (2 * n) >>> ((1 : Int32) &&& 31) = Int32.ofNat n := by
  have e : ((1 : Int32) &&& 31) = 1 := by decide
  rw [e]
  apply Int32.toBitVec_inj.mp
  rw [Int32.toBitVec_shiftRight]
  have e1 : ((1 : Int32).toBitVec.smod 32) = 1#32 := by decide
  have hm : (BitVec.ofNat 32 (2 * n)).toNat = 2 * n := by rw [BitVec.toNat_ofNat, Nat.mod_eq_of_lt (by omega)]
  rw [e1, BitVec.sshiftRight_eq']
  apply BitVec.eq_of_toNat_eq
  show ((BitVec.ofNat 32 (2 * n)).sshiftRight 1).toNat = (BitVec.ofNat 32 n).toNat
  rw [BitVec.toNat_sshiftRight_of_msb_false (by rw [BitVec.msb_eq_false_iff_two_mul_lt, hm]; omega), hm, BitVec.toNat_ofNat, Nat.shiftRight_eq_div_pow]
  omega
/-- charAt's cast of a byte read back -/
def chr8 (u : Int32) : Int32 := (u &&& 255).toUInt32.toUInt16.toUInt32.toInt32
theorem chr8_lo8 {c : Int32} (h0 : ¬ c < 0) (h1 : ¬ 255 < c) : chr8 (lo8 c) = c := by
  have t : ∀ k : Fin 256, (Int32.ofNat k.val).toUInt32.toUInt16.toUInt32.toInt32 = Int32.ofNat k.val := by decide +kernel
  unfold chr8
  rw [lo8_mask h0 h1]
  rw [Int32.lt_iff_toInt_lt] at h0 h1
  have e0 : (0 : Int32).toInt = 0 := rfl
  have e1 : (255 : Int32).toInt = 255 := rfl
  obtain ⟨k, hk⟩ : ∃ k : Nat, c.toInt = k := ⟨c.toInt.toNat, by omega⟩
  have hx : c = Int32.ofNat k := Int32.toInt_inj.mp (by rw [hk, Int32.toInt_ofNat_small (by omega)])
  rw [hx]
  exact t ⟨k, by omega⟩
theorem narrow_ch {c : Int32} (h0 : ¬ c < 0) (h1 : ¬ 65535 < c) : narrow .char (.int c) = .int c := by
  have q : narrow .char (.int (pairCh (lo8 c) (hi8 c))) = .int (pairCh (lo8 c) (hi8 c)) := narrow_c _
  rwa [pair_says h0 h1] at q
/-- the array's cell V codes the n chars f 0 .. f (n - 1) by the coder cd, as the JDK does: coder 1 just where some char is above 255 -/
def Cod (cd : Int32) (n : Nat) (f : Nat → Int32) (V : Cell) : Prop := (cd = 0 ∧ V.slots.size = n ∧ ∀ j, j < n → V.slots[j]? = some (.int (lo8 (f j))) ∧ ¬ 255 < f j) ∨ (cd = 1 ∧ V.slots.size = 2 * n ∧ (∀ j, j < n → V.slots[2 * j]? = some (.int (lo8 (f j))) ∧ V.slots[2 * j + 1]? = some (.int (hi8 (f j)))) ∧ ∃ j, j < n ∧ 255 < f j)
theorem Cod.cd {cd : Int32} {n : Nat} {f : Nat → Int32} {V : Cell} (h : Cod cd n f V) : cd = 0 ∨ cd = 1 := h.imp (fun q => q.1) fun q => q.1
theorem Cod.len {cd : Int32} {n : Nat} {f : Nat → Int32} {V : Cell} (h : Cod cd n f V) (hs : V.slots.size < 2 ^ 31) : Int32.ofNat V.slots.size >>> (cd &&& 31) = Int32.ofNat n := by
  rcases h with ⟨rfl, h, -⟩ | ⟨rfl, h, -⟩
  · rw [shr0, h]
  · rw [h, shr1 (by omega)]
/-- **x is a String of the n chars f 0 .. f (n - 1)**, Latin-1 or UTF-16; its array at t has the cell V -/
def Txt (x t : Addr) (V : Cell) (cd : Int32) (n : Nat) (f : Nat → Int32) (U : State) : Prop := Exact "java/lang/String" x U ∧ Has x "java/lang/String" "value" "[B" (.ref t) U ∧ Has x "java/lang/String" "coder" "B" (.int cd) U ∧ XT.Arr .byte t V U ∧ Cod cd n f V ∧ ∀ j, j < n → ¬ f j < 0 ∧ ¬ 65535 < f j
theorem Txt.mv {x t : Addr} {V : Cell} {cd : Int32} {n : Nat} {f : Nat → Int32} {U U' : State} (h : Txt x t V cd n f U) (hal : U.vm.Alike U'.vm) (hh : U'.heap = U.heap) : Txt x t V cd n f U' := ⟨h.1.mv hal hh, h.2.1.mv hal hh, h.2.2.1.mv hal hh, h.2.2.2.1.mv hal hh, h.2.2.2.2⟩
namespace Cdr
def yN : MethodName := ⟨"java/lang/String", "coder", "()B"⟩
abbrev yB : ByteArray := jdk_42_method_152_code
theorem d0 : decode yB 0 = .ok (.getstatic 38, 3) := by decide +kernel
theorem d3 : decode yB 3 = .ok (.ifCond (.eq) 10, 3) := by decide +kernel
theorem d6 : decode yB 6 = .ok (.aload_n 0, 1) := by decide +kernel
theorem d7 : decode yB 7 = .ok (.getfield 15, 3) := by decide +kernel
theorem d10 : decode yB 10 = .ok (.goto 4, 3) := by decide +kernel
theorem d14 : decode yB 14 = .ok (.ireturn, 1) := by decide +kernel
def site : List Cond := [.fieldLink "java/lang/String" 38 "java/lang/String" "COMPACT_STRINGS" "Z", .fieldLink "java/lang/String" 15 "java/lang/String" "coder" "B"]
def tab : Cond := tabOf yN yB 1 (some .byte) site
def P (x : Addr) (cd z : Int32) (args : Array Value) (s : State) : Prop := args = #[.ref x] ∧ Has x "java/lang/String" "coder" "B" (.int cd) s ∧ (cd = 0 ∨ cd = 1) ∧ StaticIs s "java/lang/String" "COMPACT_STRINGS" "Z" (.int z) ∧ ¬ z = 0
def E (cd : Int32) (r : Option Value) (s u : State) : Prop := XT.PureE (some (.int cd)) r s u
theorem law (l : Launch) (x : Addr) (cd z : Int32) : Law l yN 1 0 0 0 yB 1 (some .byte) site (P x cd z) (E cd) [] 0 0 := by
  refine Law.of_walk (plainFor_of_name (by decide +kernel)) (by decide +kernel) (by decide +kernel) (by decide) (fun _ _ h => by rw [h.1]; rfl) (fun _ U U' hal hh h => ⟨h.1, h.2.1.mv hal hh, h.2.2.1, h.2.2.2.1.there hal hh, h.2.2.2.2⟩) (fun r U U' V V' h1 hal h2 h => XT.PureE.mv r U U' V V' h1 hal h2 h) ?_
  intro p e s m args below meth c s₁ X0 hexec hbytes hml hret hlk hnm hown hh0 W hP
  obtain ⟨rfl, hx, hc, s1, hz⟩ := hP
  have c1 : Steps p.tables e below (s₁.setTop (entryFrame m #[.ref x] 1)) (s₁.setTop (mkF m 0 #[.val (.ref x)] [])) := entry rfl
  obtain ⟨T2, X2, q2, st2⟩ := X0.sget hexec hown (wk W (.fieldLink "java/lang/String" 38 "java/lang/String" "COMPACT_STRINGS" "Z")) s1 (fun _ _ h => by rw [hh0]; exact h) (g := (mkF m 0 #[.val (.ref x)] [])) rfl (hb hbytes d0)
  have hh2 := q2.trans hh0
  have c3 : Steps p.tables e below (s₁.setTop (entryFrame m #[.ref x] 1)) (T2.setTop (mkF m 7 #[.val (.ref x)] [.ref x])) := (c1.trans (st2 _ (Steps.refl _))).trans (by
    refine XS.ifNo X2.here hexec rfl (hb hbytes d3) rfl (i0_eq_f hz) ?_
    refine XS.aloadN X2.here hexec rfl (hb hbytes d6) rfl rfl ?_
    exact Steps.refl _)
  obtain ⟨T4, X4, q4, st4⟩ := X2.hget hexec hown (wk W (.fieldLink "java/lang/String" 15 "java/lang/String" "coder" "B")) (hx.mv X2.warmed.alike hh2) (g := (mkF m 7 #[.val (.ref x)] [.ref x])) rfl (rest := []) rfl (hb hbytes d7)
  have c5 : Steps p.tables e below (s₁.setTop (entryFrame m #[.ref x] 1)) (T4.setTop (mkF m 14 #[.val (.ref x)] [.int cd])) := (c3.trans (st4 _ (Steps.refl _))).trans (by
    refine XS.goto X4.here hexec rfl (pc0 := 10) rfl (hb hbytes d10) (by decide) rfl ?_
    exact Steps.refl _)
  exact ⟨T4, some (.int cd), _, _, _, X4, rfl, rfl, rfl, (fun h => by cases h), ⟨rfl, q4.trans hh2⟩, fun fs hl => c5.trans (X4.ireturnOut hexec hret (by rcases hc with rfl | rfl <;> rfl) (Or.inr (Or.inr (Or.inl rfl))) (hb hbytes d14) hl)⟩
end Cdr
namespace Len
def yN : MethodName := ⟨"java/lang/String", "length", "()I"⟩
abbrev yB : ByteArray := jdk_42_method_54_code
theorem d0 : decode yB 0 = .ok (.aload_n 0, 1) := by decide +kernel
theorem d1 : decode yB 1 = .ok (.getfield 9, 3) := by decide +kernel
theorem d4 : decode yB 4 = .ok (.arraylength, 1) := by decide +kernel
theorem d5 : decode yB 5 = .ok (.aload_n 0, 1) := by decide +kernel
theorem d6 : decode yB 6 = .ok (.invokevirtual 335, 3) := by decide +kernel
theorem d9 : decode yB 9 = .ok (.ishr, 1) := by decide +kernel
theorem d10 : decode yB 10 = .ok (.ireturn, 1) := by decide +kernel
def site : List Cond := [.fieldLink "java/lang/String" 9 "java/lang/String" "value" "[B", Cdr.tab] ++ virtW "java/lang/String" 335 "java/lang/String" Cdr.yN Cdr.yN
def tab : Cond := tabOf yN yB 1 (some .int) site
def P (x t : Addr) (V : Cell) (cd : Int32) (n : Nat) (f : Nat → Int32) (z : Int32) (args : Array Value) (s : State) : Prop := args = #[.ref x] ∧ Txt x t V cd n f s ∧ StaticIs s "java/lang/String" "COMPACT_STRINGS" "Z" (.int z) ∧ ¬ z = 0
def E (n : Nat) (r : Option Value) (s u : State) : Prop := XT.PureE (some (.int (Int32.ofNat n))) r s u
/-- length() of a String of n chars, in either coding -/
theorem law (l : Launch) (x t : Addr) (V : Cell) (cd : Int32) (n : Nat) (f : Nat → Int32) (z : Int32) : Law l yN 1 0 1 13 yB 1 (some .int) site (P x t V cd n f z) (E n) [] 0 0 := by
  refine Law.of_walk (plainFor_of_name (by decide +kernel)) (by decide +kernel) (by decide +kernel) (by decide) (fun _ _ h => by rw [h.1]; rfl) (fun _ U U' hal hh h => ⟨h.1, h.2.1.mv hal hh, h.2.2.1.there hal hh, h.2.2.2⟩) (fun r U U' V V' h1 hal h2 h => XT.PureE.mv r U U' V V' h1 hal h2 h) ?_
  intro p e s m args below meth c s₁ X0 hexec hbytes hml hret hlk hnm hown hh0 W hP
  obtain ⟨rfl, hx, s1, hz⟩ := hP
  have v31 := hx.2.2.2.1.2.2.2
  have c1 : Steps p.tables e below (s₁.setTop (entryFrame m #[.ref x] 1)) (s₁.setTop (mkF m 1 #[.val (.ref x)] [.ref x])) := Steps.trans (entry rfl) (by
    show Steps p.tables e below (s₁.setTop (mkF m 0 #[.val (.ref x)] [])) _
    refine XS.aloadN X0.here hexec rfl (hb hbytes d0) rfl rfl ?_
    exact Steps.refl _)
  obtain ⟨T2, X2, q2, st2⟩ := X0.hget hexec hown (wk W (.fieldLink "java/lang/String" 9 "java/lang/String" "value" "[B")) (hx.mv X0.warmed.alike hh0).2.1 (g := (mkF m 1 #[.val (.ref x)] [.ref x])) rfl (rest := []) rfl (hb hbytes d1)
  have hh2 := q2.trans hh0
  have hx2 := hx.mv X2.warmed.alike hh2
  have c3 : Steps p.tables e below (s₁.setTop (entryFrame m #[.ref x] 1)) (T2.setTop (mkF m 6 #[.val (.ref x)] [.ref x, .int (Int32.ofNat V.slots.size)])) := (c1.trans (st2 _ (Steps.refl _))).trans (by
    refine X2.alen hexec hx2.2.2.2.1 rfl rfl (hb hbytes d4) ?_
    refine XS.aloadN X2.here hexec rfl (hb hbytes d5) rfl rfl ?_
    exact Steps.refl _)
  obtain ⟨v4, T4, X4, E4, g4⟩ := X2.callV hexec (Cdr.law l x cd z) hown (wks W (virtW "java/lang/String" 335 "java/lang/String" Cdr.yN Cdr.yN)) rfl (by decide) (wk W Cdr.tab) (W := 1) (Nat.le_of_ble_eq_true rfl) (Nat.le_of_ble_eq_true rfl) (Nat.le_refl _) (Nat.le_refl _) (hx2.1.fc X2.warmed.alike) hx2.1.is (g := (mkF m 6 #[.val (.ref x)] [.ref x, .int (Int32.ofNat V.slots.size)])) rfl (by rw [hml]; rfl) c3 (argsL := []) (rest := [.int (Int32.ofNat V.slots.size)]) rfl rfl (by show 2 * 0 + (1 + 0) ≤ _; decide) (hb hbytes d6) (⟨rfl, hx2.2.2.1, hx.2.2.2.2.1.cd, s1.there X2.warmed.alike hh2, hz⟩)
  obtain ⟨rfl, q4⟩ := E4
  have c5 : Steps p.tables e below (s₁.setTop (entryFrame m #[.ref x] 1)) (T4.setTop (mkF m 10 #[.val (.ref x)] [.int (Int32.ofNat V.slots.size >>> (cd &&& 31))])) := Steps.trans g4 (by
    refine ishr X4.here hexec rfl (hb hbytes d9) rfl ?_
    exact Steps.refl _)
  rw [hx.2.2.2.2.1.len v31] at c5
  exact ⟨T4, some (.int (Int32.ofNat n)), _, _, _, X4, rfl, rfl, rfl, (fun h => by cases h), ⟨rfl, q4.trans hh2⟩, fun fs hl => c5.trans (X4.ireturnOut hexec hret rfl (Or.inl rfl) (hb hbytes d10) hl)⟩
theorem pays {l : Launch} {R : Room} {p : Program} {e : Env} {below : List Frame} {s : State} {sargs : Array Value} {len W : Nat} (x t : Addr) (V : Cell) (cd : Int32) (n : Nat) (f : Nat → Int32) (z : Int32) (htab : tab.before sargs s = true) (hfr : 2 ≤ R.frames) (hlo : W + 25 ≤ R.locals) :
    Back l R p e below s sargs yN len W (fun A₁ a₁ => A₁.cells + 0 ≤ R.cells ∧ A₁.slots + 0 ≤ R.slots ∧ P x t V cd n f z a₁ A₁.U) (fun A₁ _ v₁ B₁ => E n v₁ A₁.U B₁.U ∧ B₁.locs = A₁.locs ++ [] ∧ B₁.cells = A₁.cells + 0 ∧ B₁.slots = A₁.slots + 0) :=
  (law l x t V cd n f z).pays htab hfr (by omega)
end Len
namespace IsL
def yN : MethodName := ⟨"java/lang/String", "isLatin1", "()Z"⟩
abbrev yB : ByteArray := jdk_42_method_154_code
theorem d0 : decode yB 0 = .ok (.getstatic 38, 3) := by decide +kernel
theorem d3 : decode yB 3 = .ok (.ifCond (.eq) 14, 3) := by decide +kernel
theorem d6 : decode yB 6 = .ok (.aload_n 0, 1) := by decide +kernel
theorem d7 : decode yB 7 = .ok (.getfield 15, 3) := by decide +kernel
theorem d10 : decode yB 10 = .ok (.ifCond (.ne) 7, 3) := by decide +kernel
theorem d13 : decode yB 13 = .ok (.iconst 1, 1) := by decide +kernel
theorem d14 : decode yB 14 = .ok (.goto 4, 3) := by decide +kernel
theorem d17 : decode yB 17 = .ok (.iconst 0, 1) := by decide +kernel
theorem d18 : decode yB 18 = .ok (.ireturn, 1) := by decide +kernel
def site : List Cond := [.fieldLink "java/lang/String" 38 "java/lang/String" "COMPACT_STRINGS" "Z", .fieldLink "java/lang/String" 15 "java/lang/String" "coder" "B"]
def tab : Cond := tabOf yN yB 1 (some .boolean) site
def P (x : Addr) (cd z : Int32) (args : Array Value) (s : State) : Prop := args = #[.ref x] ∧ Has x "java/lang/String" "coder" "B" (.int cd) s ∧ (cd = 0 ∨ cd = 1) ∧ StaticIs s "java/lang/String" "COMPACT_STRINGS" "Z" (.int z) ∧ ¬ z = 0
def E (cd : Int32) (r : Option Value) (s u : State) : Prop := XT.PureE (some (.int (1 - cd))) r s u
theorem law (l : Launch) (x : Addr) (cd z : Int32) : Law l yN 1 0 0 0 yB 1 (some .boolean) site (P x cd z) (E cd) [] 0 0 := by
  refine Law.of_walk (plainFor_of_name (by decide +kernel)) (by decide +kernel) (by decide +kernel) (by decide) (fun _ _ h => by rw [h.1]; rfl) (fun _ U U' hal hh h => ⟨h.1, h.2.1.mv hal hh, h.2.2.1, h.2.2.2.1.there hal hh, h.2.2.2.2⟩) (fun r U U' V V' h1 hal h2 h => XT.PureE.mv r U U' V V' h1 hal h2 h) ?_
  intro p e s m args below meth c s₁ X0 hexec hbytes hml hret hlk hnm hown hh0 W hP
  obtain ⟨rfl, hx, hc, s1, hz⟩ := hP
  have c1 : Steps p.tables e below (s₁.setTop (entryFrame m #[.ref x] 1)) (s₁.setTop (mkF m 0 #[.val (.ref x)] [])) := entry rfl
  obtain ⟨T2, X2, q2, st2⟩ := X0.sget hexec hown (wk W (.fieldLink "java/lang/String" 38 "java/lang/String" "COMPACT_STRINGS" "Z")) s1 (fun _ _ h => by rw [hh0]; exact h) (g := (mkF m 0 #[.val (.ref x)] [])) rfl (hb hbytes d0)
  have hh2 := q2.trans hh0
  have c3 : Steps p.tables e below (s₁.setTop (entryFrame m #[.ref x] 1)) (T2.setTop (mkF m 7 #[.val (.ref x)] [.ref x])) := (c1.trans (st2 _ (Steps.refl _))).trans (by
    refine XS.ifNo X2.here hexec rfl (hb hbytes d3) rfl (i0_eq_f hz) ?_
    refine XS.aloadN X2.here hexec rfl (hb hbytes d6) rfl rfl ?_
    exact Steps.refl _)
  obtain ⟨T4, X4, q4, st4⟩ := X2.hget hexec hown (wk W (.fieldLink "java/lang/String" 15 "java/lang/String" "coder" "B")) (hx.mv X2.warmed.alike hh2) (g := (mkF m 7 #[.val (.ref x)] [.ref x])) rfl (rest := []) rfl (hb hbytes d7)
  have c5 : Steps p.tables e below (s₁.setTop (entryFrame m #[.ref x] 1)) (T4.setTop (mkF m 10 #[.val (.ref x)] [.int cd])) := c3.trans (st4 _ (Steps.refl _))
  have c6 : Steps p.tables e below (s₁.setTop (entryFrame m #[.ref x] 1)) (T4.setTop (mkF m 18 #[.val (.ref x)] [.int (1 - cd)])) := by
    rcases hc with rfl | rfl
    · exact c5.trans (by
        refine XS.ifNo X4.here hexec rfl (hb hbytes d10) rfl (i0_ne_f rfl) ?_
        refine iconstV X4.here hexec rfl 1 (hb hbytes d13) (by decide) ?_
        refine XS.goto X4.here hexec rfl (pc0 := 14) rfl (hb hbytes d14) (by decide) rfl ?_
        exact Steps.refl _)
    · exact c5.trans (by
        refine XS.ifYes X4.here hexec rfl (pc0 := 10) rfl (hb hbytes d10) rfl (i0_ne_t (by decide)) (by decide) rfl ?_
        refine iconstV X4.here hexec rfl 0 (hb hbytes d17) (by decide) ?_
        exact Steps.refl _)
  exact ⟨T4, some (.int (1 - cd)), _, _, _, X4, rfl, rfl, rfl, (fun h => by cases h), ⟨rfl, q4.trans hh2⟩, fun fs hl => c6.trans (X4.ireturnOut hexec hret (by rcases hc with rfl | rfl <;> rfl) (Or.inr (Or.inl rfl)) (hb hbytes d18) hl)⟩
end IsL
namespace LChA
def yN : MethodName := ⟨"java/lang/StringLatin1", "charAt", "([BI)C"⟩
abbrev yB : ByteArray := jdk_43_method_2_code
theorem d0 : decode yB 0 = .ok (.iload_n 1, 1) := by decide +kernel
theorem d1 : decode yB 1 = .ok (.aload_n 0, 1) := by decide +kernel
theorem d2 : decode yB 2 = .ok (.arraylength, 1) := by decide +kernel
theorem d3 : decode yB 3 = .ok (.invokestatic 9, 3) := by decide +kernel
theorem d6 : decode yB 6 = .ok (.aload_n 0, 1) := by decide +kernel
theorem d7 : decode yB 7 = .ok (.iload_n 1, 1) := by decide +kernel
theorem d8 : decode yB 8 = .ok (.baload, 1) := by decide +kernel
theorem d9 : decode yB 9 = .ok (.sipush 255, 3) := by decide +kernel
theorem d12 : decode yB 12 = .ok (.iand, 1) := by decide +kernel
theorem d13 : decode yB 13 = .ok (.i2c, 1) := by decide +kernel
theorem d14 : decode yB 14 = .ok (.ireturn, 1) := by decide +kernel
def site : List Cond := [JO.Str_checkIndex.tab] ++ staticW "java/lang/StringLatin1" 9 JO.Str_checkIndex.yN
def tab : Cond := tabOf yN yB 2 (some .char) site
def P (t : Addr) (V : Cell) (i : Nat) (u : Int32) (fm : Value) (args : Array Value) (s : State) : Prop := args = #[.ref t, .int (Int32.ofNat i)] ∧ XT.Arr .byte t V s ∧ V.slots[i]? = some (.int u) ∧ (StaticIs s "jdk/internal/util/Preconditions" "SIOOBE_FORMATTER" "Ljava/util/function/BiFunction;" fm ∧ fm.isRef = true)
def E (u : Int32) (r : Option Value) (s w : State) : Prop := XT.PureE (some (.int (chr8 u))) r s w
theorem law (l : Launch) (t : Addr) (V : Cell) (i : Nat) (u : Int32) (fm : Value) : Law l yN 2 2 2 27 yB 2 (some .char) site (P t V i u fm) (E u) [] 0 0 := by
  refine Law.of_walk (plainFor_of_name (by decide +kernel)) (by decide +kernel) (by decide +kernel) (by decide) (fun _ _ h => by rw [h.1]; rfl) (fun _ U U' hal hh h => ⟨h.1, h.2.1.mv hal hh, h.2.2.1, h.2.2.2.1.there hal hh, h.2.2.2.2⟩) (fun r U U' V V' h1 hal h2 h => XT.PureE.mv r U U' V V' h1 hal h2 h) ?_
  intro p e s m args below meth c s₁ X0 hexec hbytes hml hret hlk hnm hown hh0 W hP
  obtain ⟨rfl, hV, hu, s1, rf⟩ := hP
  have v31 := hV.2.2.2
  have hi : i < V.slots.size := (Array.getElem?_eq_some_iff.mp hu).1
  have c1 : Steps p.tables e below (s₁.setTop (entryFrame m #[.ref t, .int (Int32.ofNat i)] 2)) (s₁.setTop (mkF m 0 #[.val (.ref t), .val (.int (Int32.ofNat i))] [])) := entry rfl
  have c2 : Steps p.tables e below (s₁.setTop (entryFrame m #[.ref t, .int (Int32.ofNat i)] 2)) (s₁.setTop (mkF m 3 #[.val (.ref t), .val (.int (Int32.ofNat i))] [.int (Int32.ofNat V.slots.size), .int (Int32.ofNat i)])) := c1.trans (by
    refine XS.iloadN X0.here hexec rfl (hb hbytes d0) rfl ?_
    refine XS.aloadN X0.here hexec rfl (hb hbytes d1) rfl rfl ?_
    refine X0.alen hexec (hV.mv X0.warmed.alike hh0) rfl rfl (hb hbytes d2) ?_
    exact Steps.refl _)
  obtain ⟨v3, T3, X3, E3, g3⟩ := X0.callS hexec (JO.Str_checkIndex.law l (Int32.ofNat i) (Int32.ofNat V.slots.size) fm) hown (wks W (staticW "java/lang/StringLatin1" 9 JO.Str_checkIndex.yN)) (wk W JO.Str_checkIndex.tab) (W := 0) (Nat.le_of_ble_eq_true rfl) (Nat.le_of_ble_eq_true rfl) (Nat.le_refl _) (Nat.le_refl _) (g := (mkF m 3 #[.val (.ref t), .val (.int (Int32.ofNat i))] [.int (Int32.ofNat V.slots.size), .int (Int32.ofNat i)])) rfl (by rw [hml]; rfl) c2 (argsL := [.int (Int32.ofNat i), .int (Int32.ofNat V.slots.size)]) (rest := []) rfl rfl (by show 2 * 0 + 0 ≤ _; decide) (hb hbytes d3) (⟨rfl, rf, s1.there X0.warmed.alike hh0, Int32.ofNat_not_neg (by omega), lt32 v31 hi⟩)
  obtain ⟨rfl, q3⟩ := E3
  have hh3 := q3.trans hh0
  have c4 : Steps p.tables e below (s₁.setTop (entryFrame m #[.ref t, .int (Int32.ofNat i)] 2)) (T3.setTop (mkF m 14 #[.val (.ref t), .val (.int (Int32.ofNat i))] [.int (chr8 u)])) := Steps.trans g3 (by
    refine XS.aloadN X3.here hexec rfl (hb hbytes d6) rfl rfl ?_
    refine XS.iloadN X3.here hexec rfl (hb hbytes d7) rfl ?_
    refine X3.aget hexec (hV.mv X3.warmed.alike hh3) rfl hu rfl rfl (hb hbytes d8) ?_
    refine sipushV X3.here hexec rfl 255 (hb hbytes d9) (by decide) ?_
    refine XS.iand X3.here hexec rfl (hb hbytes d12) rfl ?_
    refine i2c X3.here hexec rfl (hb hbytes d13) rfl ?_
    exact Steps.refl _)
  exact ⟨T3, some (.int (chr8 u)), _, _, _, X3, rfl, rfl, rfl, (fun h => by cases h), ⟨rfl, hh3⟩, fun fs hl => c4.trans (X3.ireturnOut hexec hret (narrow_c _) (Or.inr (Or.inr (Or.inr (Or.inl rfl)))) (hb hbytes d14) hl)⟩
end LChA
end StrChars
namespace StrChars.Road
open Jvm Sem ClassFile Op Lib Jvm.Stand Jvm.Free Jvm.Free.XT
open Jvm.Lib.Cold (StaticIs)
theorem consq {a : Array Value} {s : State} {c : Jvm.Cond} {L : List Jvm.Cond} (h0 : c.before a s = true) (h : ∀ w ∈ L, w.before a s = true) : ∀ w ∈ c :: L, w.before a s = true := fun w hw => (List.mem_cons.mp hw).elim (fun e => e ▸ h0) (h w)
/-- the words of String.length(), either coding -/
abbrev wordsLen : List Jvm.Cond := [.code Len.yN Len.yB 1 (some .int), .initialized ST, .fieldLink ST 9 ST "value" "[B", .fieldLink ST 38 ST "COMPACT_STRINGS" "Z", .fieldLink ST 15 ST "coder" "B", .code Cdr.yN Cdr.yB 1 (some .byte), .methodLink ST 335 Cdr.yN, .declares Cdr.yN, .selects ST Cdr.yN Cdr.yN, .instanceMethod Cdr.yN]
theorem tabLen_of {a : Array Value} {s : State} (h : ∀ w ∈ wordsLen, w.before a s = true) : Len.tab.before a s = true := by
  have hc : Cdr.tab.before a s = true := unparts (wk h (.code Cdr.yN Cdr.yB 1 (some .byte))) (wks h (.initialized Cdr.yN.cls :: Cdr.site))
  have q := consq hc h
  exact unparts (wk q (.code Len.yN Len.yB 1 (some .int))) (wks q (.initialized Len.yN.cls :: Len.site))
theorem movedLen {Z s : State} {a0 args : Array Value} (hZ : Z.Warmed39 s.vm) (hw : ∀ d ∈ wordsLen, d.before a0 Z = true) : ∀ d ∈ wordsLen, d.before args s = true := fun d hd => by
  have q := hw d hd
  have t : ∀ d ∈ wordsLen, d = .arrayClass .byte ∨ (d.onTables && d.keepsFace) = true := by decide +kernel
  rcases t d hd with rfl | t
  · exact RoadKit.mvA hZ q
  · exact RoadKit.mv hZ q t
/-- the bytes of the chars cs, low before high -/
def wideBytes : List Int32 → List Value
  | [] => []
  | c :: cs => .int (lo8 c) :: .int (hi8 c) :: wideBytes cs
theorem wide_lo (d : Value) : ∀ (cs : List Int32) (j : Nat), j < cs.length → (wideBytes cs).getD (2 * j) d = .int (lo8 (cs.getD j 0))
  | [], j, h => absurd h (Nat.not_lt_zero j)
  | c :: cs, 0, _ => rfl
  | c :: cs, j + 1, h => by
    have q := wide_lo d cs j (by simpa using h)
    rw [show 2 * (j + 1) = 2 * j + 1 + 1 from by omega]
    simpa [wideBytes] using q
theorem wide_hi (d : Value) : ∀ (cs : List Int32) (j : Nat), j < cs.length → (wideBytes cs).getD (2 * j + 1) d = .int (hi8 (cs.getD j 0))
  | [], j, h => absurd h (Nat.not_lt_zero j)
  | c :: cs, 0, _ => rfl
  | c :: cs, j + 1, h => by
    have q := wide_hi d cs j (by simpa using h)
    rw [show 2 * (j + 1) + 1 = 2 * j + 1 + 1 + 1 from by omega]
    simpa [wideBytes] using q
theorem low_at (d : Value) (cs : List Int32) (j : Nat) (h : j < cs.length) : (cs.map fun c => Value.int (lo8 c)).getD j d = .int (lo8 (cs.getD j 0)) := by
  simp [List.getD_eq_getElem?_getD, h]
/-- an array of N2 bytes vs codes the chars cs by the coder cd -/
def CodA (cs : List Int32) (cd N2 : Int32) (vs : List Value) : Prop := (cd = 0 ∧ N2 = Int32.ofNat cs.length ∧ vs = (cs.map fun c => Value.int (lo8 c)) ∧ ∀ c ∈ cs, ¬ 255 < c) ∨ (cd = 1 ∧ N2 = Int32.ofNat (2 * cs.length) ∧ vs = wideBytes cs ∧ ∃ c ∈ cs, 255 < c)
theorem CodA.cod {cs : List Int32} {cd N2 : Int32} {vs : List Value} {V : Cell} (h : CodA cs cd N2 vs) (hn : 2 * cs.length < 2 ^ 31) (hs : V.slots.size = N2.toNatClampNeg) (hv : RoadKit.Has V vs (.int 0)) : Cod cd cs.length (fun j => cs.getD j 0) V := by
  rcases h with ⟨rfl, rfl, rfl, h⟩ | ⟨rfl, rfl, rfl, c, hc, hw⟩
  · rw [n32 (by omega)] at hs
    exact Or.inl ⟨rfl, hs, fun j hj => ⟨by rw [hv j (by omega), low_at _ _ _ hj], by
      have e : cs.getD j 0 = cs[j] := by simp [List.getD_eq_getElem?_getD, hj]
      show ¬ 255 < cs.getD j 0
      rw [e]; exact h _ (List.getElem_mem _)⟩⟩
  · rw [n32 (by omega)] at hs
    obtain ⟨j, hj, rfl⟩ := List.getElem_of_mem hc
    exact Or.inr ⟨rfl, hs, fun j hj => ⟨by rw [hv _ (by omega), wide_lo _ _ _ hj], by rw [hv _ (by omega), wide_hi _ _ _ hj]⟩, j, hj, by
      have e : cs.getD j 0 = cs[j] := by simp [List.getD_eq_getElem?_getD, hj]
      show 255 < cs.getD j 0
      rw [e]; exact hw⟩
/-- an object of exactly java/lang/String, its two fields found: as the laws ask it -/
theorem strObj {Z U : State} {a0 : Array Value} {kI : Nat} (wi : (Jvm.Cond.instantiable ST kI).before a0 Z = true) (al : Z.vm.Alike U.vm) {x : Addr} {v0 c0 : Value} (E : RoadKit.Exa Z U.heap x ST) (V : RoadKit.Fld Z U.heap x ST "value" "[B" v0) (C : RoadKit.Fld Z U.heap x ST "coder" "B" c0) :
    ∃ (D : Cell) (fV fC : Field), Blank ST x D U ∧ Found ST "value" "[B" fV U ∧ Found ST "coder" "B" fC U ∧ D.slots[fV.slot]? = some v0 ∧ D.slots[fC.slot]? = some c0 ∧ RoadKit.slotOf Z ST "value" "[B" = fV.slot ∧ RoadKit.slotOf Z ST "coder" "B" = fC.slot := by
  obtain ⟨D, cfV, kV, iV, fV, hD, gV, stV, knV, obV, asV, slV⟩ := V
  obtain ⟨D', cfC, kC, iC, fC, hD', gC, stC, -, -, asC, slC⟩ := C
  cases hD.symm.trans hD'
  obtain ⟨D2, kD, e1, e2, e3, e4, e5⟩ := E
  cases hD.symm.trans e1
  obtain ⟨c2, k2, i1, i2, i3, -⟩ := Cond.instantiable_spec wi
  cases e2.symm.trans i1
  cases e3.symm.trans i2
  obtain ⟨kU, u1, u2⟩ := al.2.2 _ _ e3
  exact ⟨D, fV, fC, ⟨hD, ⟨knV, fun q hq => by rw [hq] at obV; cases obV⟩, by rw [al.findClass]; exact e2, kU, u1, by rw [u2]; exact i3, by rw [u2]; exact e5 i3⟩, ⟨SBG.found_only al ⟨cfV, kV, iV, gV⟩, stV⟩, ⟨SBG.found_only al ⟨cfC, kC, iC, gC⟩, stC⟩, slV, slC, by simp [RoadKit.slotOf, gV], by simp [RoadKit.slotOf, gC]⟩
theorem sta_is {Z U : State} (al : Z.vm.Alike U.vm) {C n d : String} {v : Value} (S : RoadKit.Sta Z U.heap C n d v) : StaticIs U C n d v := by
  obtain ⟨cfS, iS, kS, fS, st, cS, t1, t2, t3, t4, t5, t6, t7⟩ := S
  exact StaticIs.there (s := { Z with heap := U.heap }) ⟨cfS, iS, kS, fS, st, cS, t1, t2, t3, t4, t5, (fun q => by rw [q] at t6; cases t6), t7⟩ al rfl
/-- **length() OF SUCH A STRING** -/
theorem lenW {p : Program} {l : Launch} {e : Env} {R : Room} {s : State} {args : Array Value} {below : List Frame} {len W : Nat} {Z : State} {a0 : Array Value} {h : Heap} (hZ : Z.Warmed39 s.vm) (hw : ∀ d ∈ wordsLen, d.before a0 Z = true) {kI : Nat} (wi : (Jvm.Cond.instantiable ST kI).before a0 Z = true)
    {x t : Addr} {kb : ClassId} {cs : List Int32} {cd N2 z : Int32} {vs : List Value} (E : RoadKit.Exa Z h x ST) (V : RoadKit.Fld Z h x ST "value" "[B" (.ref t)) (C : RoadKit.Fld Z h x ST "coder" "B" (.int cd)) (K : RoadKit.Arv Z h t kb .byte N2 vs (.int 0)) (hc : CodA cs cd N2 vs) (hb : ∀ c ∈ cs, ¬ c < 0 ∧ ¬ (65535 : Int32) < c)
    (S : RoadKit.Sta Z h ST "COMPACT_STRINGS" "Z" (.int z)) (hz : ¬ z = 0) (l2 : cs.length ≤ 4000) (hfr : 2 ≤ R.frames) (hlo : W + 25 ≤ R.locals) :
    Back l R p e below s args (⟨"java/lang/String", "length", "()I"⟩ : MethodName) len W (fun P a => a = #[.ref x] ∧ P.U.heap = h ∧ P.cells + 0 ≤ R.cells ∧ P.slots + 0 ≤ R.slots)
      (fun P _ v B => ∃ L, (v = some (.int (Int32.ofNat cs.length)) ∧ L = [] ∧ B.U.heap = h) ∧ B.locs = P.locs ++ L ∧ B.cells = P.cells + 0 ∧ B.slots = P.slots + 0) := by
  obtain ⟨A, K1, K2, K3, K4, K5, K6⟩ := K
  have hcod := hc.cod (by omega) K3 K5
  intro m meth c P g ig mk a X hg hsize hdg hW hn hp'
  obtain ⟨rfl, rfl, r1, r2⟩ := hp'
  have al : Z.vm.Alike P.U.vm := hZ.alike.trans X.warmed.alike
  obtain ⟨D, fV, fC, hB, F1, F2, g1, g2, -, -⟩ := strObj wi al E V C
  have hx : Txt x t A cd cs.length (fun j => cs.getD j 0) P.U := ⟨⟨_, hB.2.2.1, D, hB.1, rfl, by cases q : D.vm <;> first | rfl | exact absurd q (hB.2.1.2 _)⟩, Has.of hB F1 g1, Has.of hB F2 g2, ⟨K1.1, State.isArrayOf_alike al K1.2.1, K1.2.2, by rcases hcod with ⟨-, q, -⟩ | ⟨-, q, -⟩ <;> omega⟩, hcod, fun j hj => by
    have e : cs.getD j 0 = cs[j] := by simp [List.getD_eq_getElem?_getD, hj]
    show ¬ cs.getD j 0 < 0 ∧ ¬ 65535 < cs.getD j 0
    rw [e]; exact hb _ (List.getElem_mem _)⟩
  obtain ⟨v, B, X', ⟨⟨hv, hh⟩, hl, hk, hs⟩, st⟩ := Len.pays x t A cd cs.length (fun j => cs.getD j 0) z (tabLen_of (movedLen hZ hw)) hfr hlo m meth c P g ig mk _ X hg hsize hdg hW hn ⟨r1, r2, rfl, hx, sta_is al S, hz⟩
  exact ⟨v, B, X', ⟨[], ⟨hv, rfl, hh⟩, hl, hk, hs⟩, st⟩
end StrChars.Road
namespace StrChars.Road
open Jvm Sem ClassFile Op Lib Jvm.Stand Jvm.Free Jvm.Free.XT
open Jvm.Lib.Cold (StaticIs)
/-- the road's facts of a String, as the laws ask it -/
theorem txt_of {Z U : State} {a0 : Array Value} {kI : Nat} (wi : (Jvm.Cond.instantiable ST kI).before a0 Z = true) (al : Z.vm.Alike U.vm) {x t : Addr} {kb : ClassId} {cs : List Int32} {cd N2 : Int32} {vs : List Value} (E : RoadKit.Exa Z U.heap x ST) (V : RoadKit.Fld Z U.heap x ST "value" "[B" (.ref t)) (C : RoadKit.Fld Z U.heap x ST "coder" "B" (.int cd)) (K : RoadKit.Arv Z U.heap t kb .byte N2 vs (.int 0)) (hc : CodA cs cd N2 vs) (hb : ∀ c ∈ cs, ¬ c < 0 ∧ ¬ (65535 : Int32) < c) (l2 : cs.length ≤ 4000) :
    ∃ A, Txt x t A cd cs.length (fun j => cs.getD j 0) U := by
  obtain ⟨A, K1, K2, K3, K4, K5, K6⟩ := K
  have hcod := hc.cod (by omega) K3 K5
  obtain ⟨D, fV, fC, hB, F1, F2, g1, g2, -, -⟩ := strObj wi al E V C
  exact ⟨A, ⟨_, hB.2.2.1, D, hB.1, rfl, by cases q : D.vm <;> first | rfl | exact absurd q (hB.2.1.2 _)⟩, Has.of hB F1 g1, Has.of hB F2 g2, ⟨K1.1, State.isArrayOf_alike al K1.2.1, K1.2.2, by rcases hcod with ⟨-, q, -⟩ | ⟨-, q, -⟩ <;> omega⟩, hcod, fun j hj => by
    have e : cs.getD j 0 = cs[j] := by simp [List.getD_eq_getElem?_getD, hj]
    show ¬ cs.getD j 0 < 0 ∧ ¬ 65535 < cs.getD j 0
    rw [e]; exact hb _ (List.getElem_mem _)⟩
end StrChars.Road
namespace StrChars
open Jvm Sem ClassFile Op Lib Jvm.Stand Jvm.Free.XT Jvm.Free.ALB Jvm.Free.JM Jvm.Free
open Jvm.Lib.Cold (StaticIs)
namespace ChN
def yN : MethodName := ⟨"java/lang/String", "charAt", "(I)C"⟩
abbrev yB : ByteArray := jdk_42_method_56_code
theorem d0 : decode yB 0 = .ok (.aload_n 0, 1) := by decide +kernel
theorem d1 : decode yB 1 = .ok (.invokevirtual 492, 3) := by decide +kernel
theorem d4 : decode yB 4 = .ok (.ifCond (.eq) 12, 3) := by decide +kernel
theorem d7 : decode yB 7 = .ok (.aload_n 0, 1) := by decide +kernel
theorem d8 : decode yB 8 = .ok (.getfield 9, 3) := by decide +kernel
theorem d11 : decode yB 11 = .ok (.iload_n 1, 1) := by decide +kernel
theorem d12 : decode yB 12 = .ok (.invokestatic 495, 3) := by decide +kernel
theorem d15 : decode yB 15 = .ok (.ireturn, 1) := by decide +kernel
def site : List Cond := [.fieldLink "java/lang/String" 9 "java/lang/String" "value" "[B", IsL.tab, LChA.tab] ++ virtW "java/lang/String" 492 "java/lang/String" IsL.yN IsL.yN ++ staticW "java/lang/String" 495 LChA.yN
def tab : Cond := tabOf yN yB 2 (some .char) site
def P (x t : Addr) (V : Cell) (n : Nat) (f : Nat → Int32) (z : Int32) (fm : Value) (i : Nat) (args : Array Value) (s : State) : Prop := args = #[.ref x, .int (Int32.ofNat i)] ∧ Txt x t V 0 n f s ∧ i < n ∧ StaticIs s "java/lang/String" "COMPACT_STRINGS" "Z" (.int z) ∧ ¬ z = 0 ∧ StaticIs s "jdk/internal/util/Preconditions" "SIOOBE_FORMATTER" "Ljava/util/function/BiFunction;" fm ∧ fm.isRef = true
def E (f : Nat → Int32) (i : Nat) (r : Option Value) (s u : State) : Prop := XT.PureE (some (.int (f i))) r s u
/-- charAt(i) of a Latin-1 String of n chars, i < n: f i -/
theorem law (l : Launch) (x t : Addr) (V : Cell) (n : Nat) (f : Nat → Int32) (z : Int32) (fm : Value) (i : Nat) : Law l yN 2 1 3 40 yB 2 (some .char) site (P x t V n f z fm i) (E f i) [] 0 0 := by
  refine Law.of_walk (plainFor_of_name (by decide +kernel)) (by decide +kernel) (by decide +kernel) (by decide) (fun _ _ h => by rw [h.1]; rfl) (fun _ U U' hal hh h => ⟨h.1, h.2.1.mv hal hh, h.2.2.1, h.2.2.2.1.there hal hh, h.2.2.2.2.1, h.2.2.2.2.2.1.there hal hh, h.2.2.2.2.2.2⟩) (fun r U U' V V' h1 hal h2 h => XT.PureE.mv r U U' V V' h1 hal h2 h) ?_
  intro p e s m args below meth c s₁ X0 hexec hbytes hml hret hlk hnm hown hh0 W hP
  obtain ⟨rfl, hx, hi, s1, hz, s3, rf⟩ := hP
  have v31 := hx.2.2.2.1.2.2.2
  have hr := hx.2.2.2.2.2 i hi
  have hx0 := hx.mv X0.warmed.alike hh0
  have c1 : Steps p.tables e below (s₁.setTop (entryFrame m #[.ref x, .int (Int32.ofNat i)] 2)) (s₁.setTop (mkF m 1 #[.val (.ref x), .val (.int (Int32.ofNat i))] [.ref x])) := Steps.trans (entry rfl) (by
    show Steps p.tables e below (s₁.setTop (mkF m 0 #[.val (.ref x), .val (.int (Int32.ofNat i))] [])) _
    refine XS.aloadN X0.here hexec rfl (hb hbytes d0) rfl rfl ?_
    exact Steps.refl _)
  obtain ⟨v2, T2, X2, E2, g2⟩ := X0.callV hexec (IsL.law l x 0 z) hown (wks W (virtW "java/lang/String" 492 "java/lang/String" IsL.yN IsL.yN)) rfl (by decide) (wk W IsL.tab) (W := 0) (Nat.le_of_ble_eq_true rfl) (Nat.le_of_ble_eq_true rfl) (Nat.le_refl _) (Nat.le_refl _) (hx0.1.fc X0.warmed.alike) hx0.1.is (g := (mkF m 1 #[.val (.ref x), .val (.int (Int32.ofNat i))] [.ref x])) rfl (by rw [hml]; rfl) c1 (argsL := []) (rest := []) rfl rfl (by show 2 * 0 + 0 ≤ _; decide) (hb hbytes d1) (⟨rfl, hx0.2.2.1, hx.2.2.2.2.1.cd, s1.there X0.warmed.alike hh0, hz⟩)
  obtain ⟨rfl, q2⟩ := E2
  have hh2 := q2.trans hh0
  have hx2 := hx.mv X2.warmed.alike hh2
  obtain ⟨-, k1, k2⟩ | ⟨k0, -⟩ := hx.2.2.2.2.1
  · have c3 : Steps p.tables e below (s₁.setTop (entryFrame m #[.ref x, .int (Int32.ofNat i)] 2)) (T2.setTop (mkF m 8 #[.val (.ref x), .val (.int (Int32.ofNat i))] [.ref x])) := Steps.trans g2 (by
      refine XS.ifNo X2.here hexec rfl (hb hbytes d4) rfl (i0_eq_f (by decide)) ?_
      refine XS.aloadN X2.here hexec rfl (hb hbytes d7) rfl rfl ?_
      exact Steps.refl _)
    obtain ⟨T4, X4, q4, st4⟩ := X2.hget hexec hown (wk W (.fieldLink "java/lang/String" 9 "java/lang/String" "value" "[B")) hx2.2.1 (g := (mkF m 8 #[.val (.ref x), .val (.int (Int32.ofNat i))] [.ref x])) rfl (rest := []) rfl (hb hbytes d8)
    have hh4 := q4.trans hh2
    have c5 : Steps p.tables e below (s₁.setTop (entryFrame m #[.ref x, .int (Int32.ofNat i)] 2)) (T4.setTop (mkF m 12 #[.val (.ref x), .val (.int (Int32.ofNat i))] [.int (Int32.ofNat i), .ref t])) := (c3.trans (st4 _ (Steps.refl _))).trans (by
      refine XS.iloadN X4.here hexec rfl (hb hbytes d11) rfl ?_
      exact Steps.refl _)
    obtain ⟨v6, T6, X6, E6, g6⟩ := X4.callS hexec (LChA.law l t V i (lo8 (f i)) fm) hown (wks W (staticW "java/lang/String" 495 LChA.yN)) (wk W LChA.tab) (W := 0) (Nat.le_of_ble_eq_true rfl) (Nat.le_of_ble_eq_true rfl) (Nat.le_refl _) (Nat.le_refl _) (g := (mkF m 12 #[.val (.ref x), .val (.int (Int32.ofNat i))] [.int (Int32.ofNat i), .ref t])) rfl (by rw [hml]; rfl) c5 (argsL := [.ref t, .int (Int32.ofNat i)]) (rest := []) rfl rfl (by show 2 * 0 + 0 ≤ _; decide) (hb hbytes d12) (⟨rfl, hx.2.2.2.1.mv X4.warmed.alike hh4, (k2 i hi).1, s3.there X4.warmed.alike hh4, rf⟩)
    obtain ⟨rfl, q6⟩ := E6
    rw [chr8_lo8 hr.1 (k2 i hi).2] at g6
    exact ⟨T6, some (.int (f i)), _, _, _, X6, rfl, rfl, rfl, (fun h => by cases h), ⟨rfl, q6.trans hh4⟩, fun fs hl => Steps.trans g6 (X6.ireturnOut hexec hret (narrow_ch hr.1 hr.2) (Or.inr (Or.inr (Or.inr (Or.inl rfl)))) (hb hbytes d15) hl)⟩
  · exact absurd k0 (by decide)
theorem pays {l : Launch} {R : Room} {p : Program} {e : Env} {below : List Frame} {s : State} {sargs : Array Value} {len W : Nat} (x t : Addr) (V : Cell) (n : Nat) (f : Nat → Int32) (z : Int32) (fm : Value) (i : Nat) (htab : tab.before sargs s = true) (hfr : 4 ≤ R.frames) (hlo : W + 53 ≤ R.locals) :
    Back l R p e below s sargs yN len W (fun A₁ a₁ => A₁.cells + 0 ≤ R.cells ∧ A₁.slots + 0 ≤ R.slots ∧ P x t V n f z fm i a₁ A₁.U) (fun A₁ _ v₁ B₁ => E f i v₁ A₁.U B₁.U ∧ B₁.locs = A₁.locs ++ [] ∧ B₁.cells = A₁.cells + 0 ∧ B₁.slots = A₁.slots + 0) :=
  (law l x t V n f z fm i).pays htab hfr (by omega)
end ChN
end StrChars
namespace StrChars.Road
open Jvm Sem ClassFile Op Lib Jvm.Stand Jvm.Free Jvm.Free.XT
open Jvm.Lib.Cold (StaticIs)
/-- the words of String.charAt(int), the Latin-1 road alone -/
abbrev wordsChN : List Jvm.Cond := [.code ChN.yN ChN.yB 2 (some .char), .initialized ST, .fieldLink ST 9 ST "value" "[B", .fieldLink ST 38 ST "COMPACT_STRINGS" "Z", .fieldLink ST 15 ST "coder" "B", .code IsL.yN IsL.yB 1 (some .boolean), .methodLink ST 492 IsL.yN, .declares IsL.yN, .selects ST IsL.yN IsL.yN, .instanceMethod IsL.yN,
  .methodLink ST 495 LChA.yN, .static LChA.yN, .code LChA.yN LChA.yB 2 (some .char), .initialized "java/lang/StringLatin1", .methodLink "java/lang/StringLatin1" 9 JO.Str_checkIndex.yN, .static JO.Str_checkIndex.yN, .code JO.Str_checkIndex.yN JO.Str_checkIndex.yB 2 none,
  .fieldLink ST 1053 "jdk/internal/util/Preconditions" "SIOOBE_FORMATTER" "Ljava/util/function/BiFunction;", .methodLink ST 1059 JC.PreCheck.yN, .static JC.PreCheck.yN, .code JC.PreCheck.yN JC.PreCheck.yB 3 (some .int), .initialized "jdk/internal/util/Preconditions"]
theorem tabChN_of {a : Array Value} {s : State} (h : ∀ w ∈ wordsChN, w.before a s = true) : ChN.tab.before a s = true := by
  have hp : JC.PreCheck.tab.before a s = true := unparts (wk h (.code JC.PreCheck.yN JC.PreCheck.yB 3 (some .int))) (wks h (.initialized JC.PreCheck.yN.cls :: JC.PreCheck.site))
  have qk := consq hp h
  have hk : JO.Str_checkIndex.tab.before a s = true := unparts (wk qk (.code JO.Str_checkIndex.yN JO.Str_checkIndex.yB 2 none)) (wks qk (.initialized JO.Str_checkIndex.yN.cls :: JO.Str_checkIndex.site))
  have ql := consq hk h
  have hl : LChA.tab.before a s = true := unparts (wk ql (.code LChA.yN LChA.yB 2 (some .char))) (wks ql (.initialized LChA.yN.cls :: LChA.site))
  have hi : IsL.tab.before a s = true := unparts (wk h (.code IsL.yN IsL.yB 1 (some .boolean))) (wks h (.initialized IsL.yN.cls :: IsL.site))
  have q := consq hi (consq hl h)
  exact unparts (wk q (.code ChN.yN ChN.yB 2 (some .char))) (wks q (.initialized ChN.yN.cls :: ChN.site))
theorem movedChN {Z s : State} {a0 args : Array Value} (hZ : Z.Warmed39 s.vm) (hw : ∀ d ∈ wordsChN, d.before a0 Z = true) : ∀ d ∈ wordsChN, d.before args s = true := fun d hd => by
  have t : ∀ d ∈ wordsChN, (d.onTables && d.keepsFace) = true := by decide +kernel
  exact RoadKit.mv hZ (hw d hd) (t d hd)
/-- **charAt(i) OF A LATIN-1 STRING**, i < n: the char -/
theorem chN {p : Program} {l : Launch} {e : Env} {R : Room} {s : State} {args : Array Value} {below : List Frame} {len W : Nat} {Z : State} {a0 : Array Value} {h : Heap} (hZ : Z.Warmed39 s.vm) (hw : ∀ d ∈ wordsChN, d.before a0 Z = true) {kI : Nat} (wi : (Jvm.Cond.instantiable ST kI).before a0 Z = true)
    {x t : Addr} {kb : ClassId} {cs : List Int32} {N2 z : Int32} {vs : List Value} {fm : Value} {i : Nat} {j : Int32} (E : RoadKit.Exa Z h x ST) (V : RoadKit.Fld Z h x ST "value" "[B" (.ref t)) (C : RoadKit.Fld Z h x ST "coder" "B" (.int 0)) (K : RoadKit.Arv Z h t kb .byte N2 vs (.int 0)) (hc : CodA cs 0 N2 vs) (hb : ∀ c ∈ cs, ¬ c < 0 ∧ ¬ (65535 : Int32) < c)
    (S : RoadKit.Sta Z h ST "COMPACT_STRINGS" "Z" (.int z)) (hz : ¬ z = 0) (F : RoadKit.Sta Z h "jdk/internal/util/Preconditions" "SIOOBE_FORMATTER" "Ljava/util/function/BiFunction;" fm) (rf : fm.isRef = true) (l2 : cs.length ≤ 4000) (hi : i < cs.length) (hj : j = Int32.ofNat i) (hfr : 4 ≤ R.frames) (hlo : W + 53 ≤ R.locals) :
    Back l R p e below s args (⟨"java/lang/String", "charAt", "(I)C"⟩ : MethodName) len W (fun P a => a = #[.ref x, .int j] ∧ P.U.heap = h ∧ P.cells + 0 ≤ R.cells ∧ P.slots + 0 ≤ R.slots)
      (fun P _ v B => ∃ L, (v = some (.int (cs.getD i 0)) ∧ L = [] ∧ B.U.heap = h) ∧ B.locs = P.locs ++ L ∧ B.cells = P.cells + 0 ∧ B.slots = P.slots + 0) := by
  subst hj
  intro m meth c P g ig mk a X hg hsize hdg hW hn hp'
  obtain ⟨rfl, rfl, r1, r2⟩ := hp'
  have al : Z.vm.Alike P.U.vm := hZ.alike.trans X.warmed.alike
  obtain ⟨A, hx⟩ := txt_of wi al E V C K hc hb l2
  obtain ⟨v, B, X', ⟨⟨hv, hh⟩, hl, hk, hs⟩, st⟩ := ChN.pays x t A cs.length (fun j => cs.getD j 0) z fm i (tabChN_of (movedChN hZ hw)) hfr hlo m meth c P g ig mk _ X hg hsize hdg hW hn ⟨r1, r2, rfl, hx, hi, sta_is al S, hz, sta_is al F, rf⟩
  exact ⟨v, B, X', ⟨[], ⟨hv, rfl, hh⟩, hl, hk, hs⟩, st⟩
/-- what backV says of its String, as the contracts of this text ask it: cs's low bytes, coder 0 -/
theorem codOf {cs : List Int32} {n : Nat} (hn : cs.length = n) (hb : ∀ c ∈ cs, ¬ 255 < c) : CodA cs 0 (Int32.ofNat n) ((cs.map lo8).map Value.int) := Or.inl ⟨rfl, by rw [hn], by simp [List.map_map, Function.comp_def], hb⟩
end StrChars.Road
end Jvm.Pilot.@@N@@
namespace Jvm.Pilot.@@N@@
open Jvm Jvm.ClassFile Sem Op Lib Jvm.Free Jvm.Stand Jvm.LawKit Jvm.RoadKit Bundle Jvm.Pilot.@@N@@.Jvm.D
theorem own_hw {Z : State} {a0 : Array Value} (hw : ∀ d ∈ tables_1, d.before a0 Z = true) (i : Nat) {d : Jvm.Cond} (h : tables_1[i]? = some d) : d.before a0 Z = true := hw d (List.mem_of_getElem? h)
theorem own_dt {code : ByteArray} {L : List (Nat × Instr × Nat)} (h : ∀ x ∈ L, decode code x.1 = .ok x.2) {y : Nat × Instr × Nat} (hy : y ∈ L) (i : Nat) : decode code (L.getD i y).1 = .ok (L.getD i y).2 := by
  apply h
  by_cases hi : i < L.length
  · rw [List.getD_eq_getElem?_getD, List.getElem?_eq_getElem hi]
    exact List.getElem_mem hi
  · rw [List.getD_eq_getElem?_getD, List.getElem?_eq_none (by omega)]
    exact hy
section OwnKit
variable {p : Program} {l : Launch} {e : Env} {R : Room} {s : State} {m : MethodId} {args : Array Value} {below : List Frame} {meth : Method} {c : Code} {T : State} {locs : List Loc} {cells slots : Nat} {Z : State} {h : Heap} {a : Addr} {k : ClassId} {n : Int32} {vs : List Value} {dv : Value}
/-- from S on the body's run ends as Qx says -/
def own_Ok (p : Program) (e : Env) (below : List Frame) (Qx : Outcome → State → Prop) (S : State) : Prop := ∃ s₂ o, Steps p.tables e below S s₂ ∧ s₂.status = .running ∧ Ended s₂ below o ∧ Qx o s₂
theorem own_st {Qx : Outcome → State → Prop} {S S' : State} (h : ∀ t, Steps p.tables e below S' t → Steps p.tables e below S t) (k : own_Ok p e below Qx S') : own_Ok p e below Qx S := by
  obtain ⟨s₂, o, h1, h2⟩ := k
  exact ⟨s₂, o, h s₂ h1, h2⟩
def own_Qx (s : State) (Q : Option Value → Heap → List Loc → Prop) (kc ks : Nat) : Outcome → State → Prop := fun o s₂ => ∃ v L, o = .returned v ∧ Q v s₂.heap L ∧ FrameEnd s o s₂ L kc ks
theorem own_out (X : Stand p l e R s m args below meth c T locs cells slots) (hlk : meth.locks = false) {Q : Option Value → Heap → List Loc → Prop} {kc ks : Nat} {g : JFrame} (v : Option Value) (hv : meth.sig.returnType = none → v = none)
    (hst : ∀ fs, (∀ (f : JFrame) (acts : List Action), f.method = m → f.locked = none → f.entered = [] → (doReturn e (T.setTop f) acts v).1 = T.setFrames fs) → Steps p.tables e below (T.setTop g) (T.setFrames fs))
    (hq : Q v T.heap locs) (hk : cells ≤ kc) (hn : slots ≤ ks) : own_Ok p e below (own_Qx s Q kc ks) (T.setTop g) := by
  obtain ⟨fs, hr, hrun, hended, hW, hsame⟩ := X.leave (v := v) hv hlk
  exact ⟨_, _, hst fs hr, hrun, hended, v, locs, rfl, hq, ⟨_, rfl⟩, hW, hsame.mono hk hn⟩
theorem own_retV (X : Stand p l e R s m args below meth c T locs cells slots) (hx : p.tables.exec = Jvm.exec) (hlk : meth.locks = false) {Q : Option Value → Heap → List Loc → Prop} {kc ks : Nat} {pc : Nat} {Ls : Array Slot} (hret : meth.sig.returnType = none) (hd : decode c.code pc = .ok (.return_, 1))
    (hq : Q none T.heap locs) (hk : cells ≤ kc) (hn : slots ≤ ks) : own_Ok p e below (own_Qx s Q kc ks) (T.setTop (mkF m pc Ls [])) :=
  own_out X hlk none (fun _ => rfl) (fun fs hr => X.returnOut hx hret hd hr) hq hk hn
theorem own_retI (X : Stand p l e R s m args below meth c T locs cells slots) (hx : p.tables.exec = Jvm.exec) (hlk : meth.locks = false) {Q : Option Value → Heap → List Loc → Prop} {kc ks : Nat} {pc : Nat} {Ls : Array Slot} {z : Int32} {rest : List Value} (hret : meth.sig.returnType = some .int) (hd : decode c.code pc = .ok (.ireturn, 1))
    (hq : Q (some (.int z)) T.heap locs) (hk : cells ≤ kc) (hn : slots ≤ ks) : own_Ok p e below (own_Qx s Q kc ks) (T.setTop (mkF m pc Ls (.int z :: rest))) :=
  own_out X hlk _ (fun h => by rw [hret] at h; cases h) (fun fs hr => retOut X hx (i := .ireturn) hret rfl (Or.inl ⟨rfl, Or.inl rfl, _, rfl⟩) hd hr) hq hk hn
theorem own_retN (X : Stand p l e R s m args below meth c T locs cells slots) (hx : p.tables.exec = Jvm.exec) (hlk : meth.locks = false) {Q : Option Value → Heap → List Loc → Prop} {kc ks : Nat} {pc : Nat} {Ls : Array Slot} {z : Int32} {t : FieldType} {rest : List Value} (hret : meth.sig.returnType = some t) (ht : t = .boolean ∨ t = .byte ∨ t = .char ∨ t = .short) (hd : decode c.code pc = .ok (.ireturn, 1))
    (hq : Q (some (.int (nar t z))) T.heap locs) (hk : cells ≤ kc) (hn : slots ≤ ks) : own_Ok p e below (own_Qx s Q kc ks) (T.setTop (mkF m pc Ls (.int z :: rest))) :=
  own_out X hlk _ (fun h => by rw [hret] at h; cases h) (fun fs hr => retN X hx hret ht hd hr) hq hk hn
theorem own_retJ (X : Stand p l e R s m args below meth c T locs cells slots) (hx : p.tables.exec = Jvm.exec) (hlk : meth.locks = false) {Q : Option Value → Heap → List Loc → Prop} {kc ks : Nat} {pc : Nat} {Ls : Array Slot} {z : Int64} {rest : List Value} (hret : meth.sig.returnType = some .long) (hd : decode c.code pc = .ok (.lreturn, 1))
    (hq : Q (some (.long z)) T.heap locs) (hk : cells ≤ kc) (hn : slots ≤ ks) : own_Ok p e below (own_Qx s Q kc ks) (T.setTop (mkF m pc Ls (.long z :: rest))) :=
  own_out X hlk _ (fun h => by rw [hret] at h; cases h) (fun fs hr => retOut X hx (i := .lreturn) hret rfl (Or.inr (Or.inl ⟨rfl, rfl, _, rfl⟩)) hd hr) hq hk hn
theorem own_narR {v : Value} {t : FieldType} (hv : v.isRef = true) (ht : t.isReference = true) : narrow t v = v := by
  cases t <;> first | (cases ht; done) | (cases v <;> first | rfl | (cases hv; done))
theorem own_retA (X : Stand p l e R s m args below meth c T locs cells slots) (hx : p.tables.exec = Jvm.exec) (hlk : meth.locks = false) {Q : Option Value → Heap → List Loc → Prop} {kc ks : Nat} {pc : Nat} {Ls : Array Slot} {w : Value} {t : FieldType} {rest : List Value} (hw : w.isRef = true) (hret : meth.sig.returnType = some t) (ht : t.isReference = true) (hd : decode c.code pc = .ok (.areturn, 1))
    (hq : Q (some w) T.heap locs) (hk : cells ≤ kc) (hn : slots ≤ ks) : own_Ok p e below (own_Qx s Q kc ks) (T.setTop (mkF m pc Ls (w :: rest))) :=
  own_out X hlk _ (fun h => by rw [hret] at h; cases h) (fun fs hr => retOut X hx (i := .areturn) hret (own_narR hw ht) (Or.inr (Or.inr (Or.inr (Or.inr ⟨rfl, ht, hw⟩)))) hd hr) hq hk hn
abbrev own_Met (l : Launch) (Z : State) (y : MethodName) (bytes : ByteArray) (maxl : Nat) (ret : Option FieldType) (ws : List Jvm.Cond) (rm : Room) (as' : Array Value) (h0 : Heap) (Q : Option Value → Heap → List Loc → Prop) : Prop :=
  MetFree l y (head1 (Jvm.Cond.code y bytes maxl ret :: ws) rm) (fun a U => a = as' ∧ Z.Warmed39 U.vm ∧ U.heap = h0) (fun _ _ _ _ _ => True) (fun _ U o U' => ∃ v L, o = .returned v ∧ Q v U'.heap L ∧ FrameEnd U o U' L rm.cells rm.slots)
theorem own_n0 {n0 : Nat} (O : Old Z n0 h) : n0 ≤ h.size := O.1 ▸ O.2.1
theorem own_len {ty : FieldType} (X : Stand p l e R s m args below meth c T locs cells slots) (hx : p.tables.exec = Jvm.exec) (hZ : Z.Warmed39 s.vm) (eT : T.heap = h) (A : Arv Z h a k ty n vs dv) {g : JFrame} (hg : g.method = m) {rest : List Value} (hs : g.stack = .ref a :: rest) (hd : decode c.code g.pc = .ok (.arraylength, 1)) (t : State)
    (hr : Steps p.tables e below (T.setTop { g with pc := g.pc + 1, stack := .int n :: rest }) t) : Steps p.tables e below (T.setTop g) t := by
  obtain ⟨cl, A1, -, S, h0, -⟩ := A
  exact X.arraylength hx (by rw [eT]; exact A1.1) (State.isArrayOf_alike hZ.alike A1.2.1) hg hs hd t (by rw [len_of S h0]; exact hr)
theorem own_ldC (X : Stand p l e R s m args below meth c T locs cells slots) (hx : p.tables.exec = Jvm.exec) (hZ : Z.Warmed39 s.vm) (eT : T.heap = h) (A : Arv Z h a k .char n vs dv) {j v : Int32} (h0 : ¬ j < 0) (h1 : j < n) (hv : vs.getD j.toNatClampNeg dv = .int v) {g : JFrame} (hg : g.method = m) {rest : List Value} (hs : g.stack = .int j :: .ref a :: rest) (hd : decode c.code g.pc = .ok (.caload, 1)) (t : State)
    (hr : Steps p.tables e below (T.setTop { g with pc := g.pc + 1, stack := .int v :: rest }) t) : Steps p.tables e below (T.setTop g) t := by
  obtain ⟨cl, A1, -, S, -, H, -⟩ := A
  exact X.caload hx (by rw [eT]; exact A1.1) (State.isArrayOf_alike hZ.alike A1.2.1) A1.2.2 (inb_of S ⟨h0, h1⟩) (H.at (inb_of S ⟨h0, h1⟩) hv) hg hs hd t hr
theorem own_ldB (X : Stand p l e R s m args below meth c T locs cells slots) (hx : p.tables.exec = Jvm.exec) (hZ : Z.Warmed39 s.vm) (eT : T.heap = h) (A : Arv Z h a k .byte n vs dv) {j v : Int32} (h0 : ¬ j < 0) (h1 : j < n) (hv : vs.getD j.toNatClampNeg dv = .int v) {g : JFrame} (hg : g.method = m) {rest : List Value} (hs : g.stack = .int j :: .ref a :: rest) (hd : decode c.code g.pc = .ok (.baload, 1)) (t : State)
    (hr : Steps p.tables e below (T.setTop { g with pc := g.pc + 1, stack := .int v :: rest }) t) : Steps p.tables e below (T.setTop g) t := by
  obtain ⟨cl, A1, -, S, -, H, -⟩ := A
  exact X.baloadBytes hx (by rw [eT]; exact A1.1) (State.isArrayOf_alike hZ.alike A1.2.1) A1.2.2 (inb_of S ⟨h0, h1⟩) (H.at (inb_of S ⟨h0, h1⟩) hv) hg hs hd t hr
theorem own_ldJ (X : Stand p l e R s m args below meth c T locs cells slots) (hx : p.tables.exec = Jvm.exec) (hZ : Z.Warmed39 s.vm) (eT : T.heap = h) (A : Arv Z h a k .long n vs dv) {j : Int32} {v : Int64} (h0 : ¬ j < 0) (h1 : j < n) (hv : vs.getD j.toNatClampNeg dv = .long v) {g : JFrame} (hg : g.method = m) {rest : List Value} (hs : g.stack = .int j :: .ref a :: rest) (hd : decode c.code g.pc = .ok (.laload, 1)) (t : State)
    (hr : Steps p.tables e below (T.setTop { g with pc := g.pc + 1, stack := .long v :: rest }) t) : Steps p.tables e below (T.setTop g) t := by
  obtain ⟨cl, A1, -, S, -, H, -⟩ := A
  exact X.laload hx (by rw [eT]; exact A1.1) (State.isArrayOf_alike hZ.alike A1.2.1) A1.2.2 (inb_of S ⟨h0, h1⟩) (H.at (inb_of S ⟨h0, h1⟩) hv) hg hs hd t hr
theorem own_stC (X : Stand p l e R s m args below meth c T locs cells slots) (hx : p.tables.exec = Jvm.exec) (hZ : Z.Warmed39 s.vm) (eT : T.heap = h) (A : Arv Z h a k .char n vs dv) {j x : Int32} (i : Nat) (hi : j.toNatClampNeg = i) (h0 : ¬ j < 0) (h1 : j < n) (h2 : i < vs.length) {g : JFrame} (hg : g.method = m) {rest : List Value} (hs : g.stack = .int x :: .int j :: .ref a :: rest) (hd : decode c.code g.pc = .ok (.castore, 1)) :
    ∃ T' h', Stand p l e R s m args below meth c T' (locs ++ [⟨a, j.toNatClampNeg⟩]) cells slots ∧ T'.heap = h' ∧ Wr h h' a j.toNatClampNeg (.int (nar .char x)) ∧ Arv Z h' a k .char n (vs.set i (.int (nar .char x))) dv ∧ ∀ target, Steps p.tables e below (T'.setTop { g with pc := g.pc + 1, stack := rest }) target → Steps p.tables e below (T.setTop g) target := by
  obtain ⟨cl, A1, q, S, hn, H, G⟩ := A
  obtain ⟨T', h', X', e', W', st⟩ := stC X hx hZ eT A1 (inb_of S ⟨h0, h1⟩) hg hs hd
  exact ⟨T', h', X', e', W', Arv.set A1 q S hn H G (fits_nar_char _) W' i hi h2, st⟩
theorem own_stB (X : Stand p l e R s m args below meth c T locs cells slots) (hx : p.tables.exec = Jvm.exec) (hZ : Z.Warmed39 s.vm) (eT : T.heap = h) (A : Arv Z h a k .byte n vs dv) {j x : Int32} (i : Nat) (hi : j.toNatClampNeg = i) (h0 : ¬ j < 0) (h1 : j < n) (h2 : i < vs.length) {g : JFrame} (hg : g.method = m) {rest : List Value} (hs : g.stack = .int x :: .int j :: .ref a :: rest) (hd : decode c.code g.pc = .ok (.bastore, 1)) :
    ∃ T' h', Stand p l e R s m args below meth c T' (locs ++ [⟨a, j.toNatClampNeg⟩]) cells slots ∧ T'.heap = h' ∧ Wr h h' a j.toNatClampNeg (.int (nar .byte x)) ∧ Arv Z h' a k .byte n (vs.set i (.int (nar .byte x))) dv ∧ ∀ target, Steps p.tables e below (T'.setTop { g with pc := g.pc + 1, stack := rest }) target → Steps p.tables e below (T.setTop g) target := by
  obtain ⟨cl, A1, q, S, hn, H, G⟩ := A
  obtain ⟨T', h', X', e', W', st⟩ := stB X hx hZ eT A1 (inb_of S ⟨h0, h1⟩) hg hs hd
  exact ⟨T', h', X', e', W', Arv.set A1 q S hn H G (fits_nar_byte _) W' i hi h2, st⟩
theorem own_stJ (X : Stand p l e R s m args below meth c T locs cells slots) (hx : p.tables.exec = Jvm.exec) (hZ : Z.Warmed39 s.vm) (eT : T.heap = h) (A : Arv Z h a k .long n vs dv) {j : Int32} {x : Int64} (i : Nat) (hi : j.toNatClampNeg = i) (h0 : ¬ j < 0) (h1 : j < n) (h2 : i < vs.length) {g : JFrame} (hg : g.method = m) {rest : List Value} (hs : g.stack = .long x :: .int j :: .ref a :: rest) (hd : decode c.code g.pc = .ok (.lastore, 1)) :
    ∃ T' h', Stand p l e R s m args below meth c T' (locs ++ [⟨a, j.toNatClampNeg⟩]) cells slots ∧ T'.heap = h' ∧ Wr h h' a j.toNatClampNeg (.long x) ∧ Arv Z h' a k .long n (vs.set i (.long x)) dv ∧ ∀ target, Steps p.tables e below (T'.setTop { g with pc := g.pc + 1, stack := rest }) target → Steps p.tables e below (T.setTop g) target := by
  obtain ⟨cl, A1, q, S, hn, H, G⟩ := A
  obtain ⟨T', h', X', e', W', st⟩ := stJ X hx hZ eT A1 (inb_of S ⟨h0, h1⟩) hg hs hd
  exact ⟨T', h', X', e', W', Arv.set A1 q S hn H G rfl W' i hi h2, st⟩
theorem own_stCn (X : Stand p l e R s m args below meth c T locs cells slots) (hx : p.tables.exec = Jvm.exec) (hZ : Z.Warmed39 s.vm) (eT : T.heap = h) (A : Arv Z h a k .char n vs dv) {j x : Int32} (i : Nat) (hi : j.toNatClampNeg = i) (h0 : ¬ j < 0) (h1 : j < n) (h2 : i < vs.length) {x' : Int32} (hx' : nar .char x = x') {g : JFrame} (hg : g.method = m) {rest : List Value} (hs : g.stack = .int x :: .int j :: .ref a :: rest) (hd : decode c.code g.pc = .ok (.castore, 1)) :
    ∃ T' h', Stand p l e R s m args below meth c T' (locs ++ [⟨a, j.toNatClampNeg⟩]) cells slots ∧ T'.heap = h' ∧ Wr h h' a j.toNatClampNeg (.int (nar .char x)) ∧ Arv Z h' a k .char n (vs.set i (.int x')) dv ∧ ∀ target, Steps p.tables e below (T'.setTop { g with pc := g.pc + 1, stack := rest }) target → Steps p.tables e below (T.setTop g) target := by
  obtain ⟨T', h', X', e', W', V', st⟩ := own_stC X hx hZ eT A i hi h0 h1 h2 hg hs hd
  exact ⟨T', h', X', e', W', by rw [← hx']; exact V', st⟩
theorem own_stBn (X : Stand p l e R s m args below meth c T locs cells slots) (hx : p.tables.exec = Jvm.exec) (hZ : Z.Warmed39 s.vm) (eT : T.heap = h) (A : Arv Z h a k .byte n vs dv) {j x : Int32} (i : Nat) (hi : j.toNatClampNeg = i) (h0 : ¬ j < 0) (h1 : j < n) (h2 : i < vs.length) {x' : Int32} (hx' : nar .byte x = x') {g : JFrame} (hg : g.method = m) {rest : List Value} (hs : g.stack = .int x :: .int j :: .ref a :: rest) (hd : decode c.code g.pc = .ok (.bastore, 1)) :
    ∃ T' h', Stand p l e R s m args below meth c T' (locs ++ [⟨a, j.toNatClampNeg⟩]) cells slots ∧ T'.heap = h' ∧ Wr h h' a j.toNatClampNeg (.int (nar .byte x)) ∧ Arv Z h' a k .byte n (vs.set i (.int x')) dv ∧ ∀ target, Steps p.tables e below (T'.setTop { g with pc := g.pc + 1, stack := rest }) target → Steps p.tables e below (T.setTop g) target := by
  obtain ⟨T', h', X', e', W', V', st⟩ := own_stB X hx hZ eT A i hi h0 h1 h2 hg hs hd
  exact ⟨T', h', X', e', W', by rw [← hx']; exact V', st⟩
section OwnMem
variable {Qx : Outcome → State → Prop} {pc : Nat} {Ls : Array Slot} {st : List Value} {n0 : Nat}
theorem l_C (X : Stand p l e R s m args below meth c T locs cells slots) (hx : p.tables.exec = Jvm.exec) (hZ : Z.Warmed39 s.vm) (eT : T.heap = h) (A : Arv Z h a k .char n vs dv) {j : Int32} {v : Int32} (h0 : ¬ j < 0) (h1 : j < n) (hv : vs.getD j.toNatClampNeg dv = .int v) (hd : decode c.code pc = .ok (.caload, 1)) (K : own_Ok p e below Qx (T.setTop (mkF m (pc + 1) Ls (.int v :: st)))) : own_Ok p e below Qx (T.setTop (mkF m pc Ls (.int j :: .ref a :: st))) := own_st (own_ldC X hx hZ eT A h0 h1 hv (g := mkF m pc Ls (.int j :: .ref a :: st)) rfl rfl hd) K
theorem l_B (X : Stand p l e R s m args below meth c T locs cells slots) (hx : p.tables.exec = Jvm.exec) (hZ : Z.Warmed39 s.vm) (eT : T.heap = h) (A : Arv Z h a k .byte n vs dv) {j : Int32} {v : Int32} (h0 : ¬ j < 0) (h1 : j < n) (hv : vs.getD j.toNatClampNeg dv = .int v) (hd : decode c.code pc = .ok (.baload, 1)) (K : own_Ok p e below Qx (T.setTop (mkF m (pc + 1) Ls (.int v :: st)))) : own_Ok p e below Qx (T.setTop (mkF m pc Ls (.int j :: .ref a :: st))) := own_st (own_ldB X hx hZ eT A h0 h1 hv (g := mkF m pc Ls (.int j :: .ref a :: st)) rfl rfl hd) K
theorem l_J (X : Stand p l e R s m args below meth c T locs cells slots) (hx : p.tables.exec = Jvm.exec) (hZ : Z.Warmed39 s.vm) (eT : T.heap = h) (A : Arv Z h a k .long n vs dv) {j : Int32} {v : Int64} (h0 : ¬ j < 0) (h1 : j < n) (hv : vs.getD j.toNatClampNeg dv = .long v) (hd : decode c.code pc = .ok (.laload, 1)) (K : own_Ok p e below Qx (T.setTop (mkF m (pc + 1) Ls (.long v :: st)))) : own_Ok p e below Qx (T.setTop (mkF m pc Ls (.int j :: .ref a :: st))) := own_st (own_ldJ X hx hZ eT A h0 h1 hv (g := mkF m pc Ls (.int j :: .ref a :: st)) rfl rfl hd) K
theorem t_C (X : Stand p l e R s m args below meth c T locs cells slots) (hx : p.tables.exec = Jvm.exec) (hZ : Z.Warmed39 s.vm) (eT : T.heap = h) (A : Arv Z h a k .char n vs dv) {j : Int32} {x : Int32} (i : Nat) (hi : j.toNatClampNeg = i) (h0 : ¬ j < 0) (h1 : j < n) (h2 : i < vs.length) (N : Fr n0 locs) (ge : n0 ≤ a) (hd : decode c.code pc = .ok (.castore, 1))
    (K : ∀ T' h', Stand p l e R s m args below meth c T' (locs ++ [⟨a, j.toNatClampNeg⟩]) cells slots → T'.heap = h' → Wr h h' a j.toNatClampNeg (.int (nar .char x)) → Arv Z h' a k .char n (vs.set i (.int (nar .char x))) dv → Fr n0 (locs ++ [⟨a, j.toNatClampNeg⟩]) → own_Ok p e below Qx (T'.setTop (mkF m (pc + 1) Ls st))) : own_Ok p e below Qx (T.setTop (mkF m pc Ls (.int x :: .int j :: .ref a :: st))) := by
  obtain ⟨T', h', X', e', W', V', q⟩ := own_stC X hx hZ eT A i hi h0 h1 h2 (g := mkF m pc Ls (.int x :: .int j :: .ref a :: st)) rfl rfl hd
  exact own_st q (K T' h' X' e' W' V' (Fr.snoc X' N ge))
theorem t_Cn (X : Stand p l e R s m args below meth c T locs cells slots) (hx : p.tables.exec = Jvm.exec) (hZ : Z.Warmed39 s.vm) (eT : T.heap = h) (A : Arv Z h a k .char n vs dv) {j : Int32} {x : Int32} (i : Nat) (hi : j.toNatClampNeg = i) (h0 : ¬ j < 0) (h1 : j < n) (h2 : i < vs.length) {x' : Int32} (hx' : nar .char x = x') (N : Fr n0 locs) (ge : n0 ≤ a) (hd : decode c.code pc = .ok (.castore, 1))
    (K : ∀ T' h', Stand p l e R s m args below meth c T' (locs ++ [⟨a, j.toNatClampNeg⟩]) cells slots → T'.heap = h' → Wr h h' a j.toNatClampNeg (.int (nar .char x)) → Arv Z h' a k .char n (vs.set i (.int x')) dv → Fr n0 (locs ++ [⟨a, j.toNatClampNeg⟩]) → own_Ok p e below Qx (T'.setTop (mkF m (pc + 1) Ls st))) : own_Ok p e below Qx (T.setTop (mkF m pc Ls (.int x :: .int j :: .ref a :: st))) := by
  obtain ⟨T', h', X', e', W', V', q⟩ := own_stCn X hx hZ eT A i hi h0 h1 h2 hx' (g := mkF m pc Ls (.int x :: .int j :: .ref a :: st)) rfl rfl hd
  exact own_st q (K T' h' X' e' W' V' (Fr.snoc X' N ge))
theorem t_B (X : Stand p l e R s m args below meth c T locs cells slots) (hx : p.tables.exec = Jvm.exec) (hZ : Z.Warmed39 s.vm) (eT : T.heap = h) (A : Arv Z h a k .byte n vs dv) {j : Int32} {x : Int32} (i : Nat) (hi : j.toNatClampNeg = i) (h0 : ¬ j < 0) (h1 : j < n) (h2 : i < vs.length) (N : Fr n0 locs) (ge : n0 ≤ a) (hd : decode c.code pc = .ok (.bastore, 1))
    (K : ∀ T' h', Stand p l e R s m args below meth c T' (locs ++ [⟨a, j.toNatClampNeg⟩]) cells slots → T'.heap = h' → Wr h h' a j.toNatClampNeg (.int (nar .byte x)) → Arv Z h' a k .byte n (vs.set i (.int (nar .byte x))) dv → Fr n0 (locs ++ [⟨a, j.toNatClampNeg⟩]) → own_Ok p e below Qx (T'.setTop (mkF m (pc + 1) Ls st))) : own_Ok p e below Qx (T.setTop (mkF m pc Ls (.int x :: .int j :: .ref a :: st))) := by
  obtain ⟨T', h', X', e', W', V', q⟩ := own_stB X hx hZ eT A i hi h0 h1 h2 (g := mkF m pc Ls (.int x :: .int j :: .ref a :: st)) rfl rfl hd
  exact own_st q (K T' h' X' e' W' V' (Fr.snoc X' N ge))
theorem t_Bn (X : Stand p l e R s m args below meth c T locs cells slots) (hx : p.tables.exec = Jvm.exec) (hZ : Z.Warmed39 s.vm) (eT : T.heap = h) (A : Arv Z h a k .byte n vs dv) {j : Int32} {x : Int32} (i : Nat) (hi : j.toNatClampNeg = i) (h0 : ¬ j < 0) (h1 : j < n) (h2 : i < vs.length) {x' : Int32} (hx' : nar .byte x = x') (N : Fr n0 locs) (ge : n0 ≤ a) (hd : decode c.code pc = .ok (.bastore, 1))
    (K : ∀ T' h', Stand p l e R s m args below meth c T' (locs ++ [⟨a, j.toNatClampNeg⟩]) cells slots → T'.heap = h' → Wr h h' a j.toNatClampNeg (.int (nar .byte x)) → Arv Z h' a k .byte n (vs.set i (.int x')) dv → Fr n0 (locs ++ [⟨a, j.toNatClampNeg⟩]) → own_Ok p e below Qx (T'.setTop (mkF m (pc + 1) Ls st))) : own_Ok p e below Qx (T.setTop (mkF m pc Ls (.int x :: .int j :: .ref a :: st))) := by
  obtain ⟨T', h', X', e', W', V', q⟩ := own_stBn X hx hZ eT A i hi h0 h1 h2 hx' (g := mkF m pc Ls (.int x :: .int j :: .ref a :: st)) rfl rfl hd
  exact own_st q (K T' h' X' e' W' V' (Fr.snoc X' N ge))
theorem t_J (X : Stand p l e R s m args below meth c T locs cells slots) (hx : p.tables.exec = Jvm.exec) (hZ : Z.Warmed39 s.vm) (eT : T.heap = h) (A : Arv Z h a k .long n vs dv) {j : Int32} {x : Int64} (i : Nat) (hi : j.toNatClampNeg = i) (h0 : ¬ j < 0) (h1 : j < n) (h2 : i < vs.length) (N : Fr n0 locs) (ge : n0 ≤ a) (hd : decode c.code pc = .ok (.lastore, 1))
    (K : ∀ T' h', Stand p l e R s m args below meth c T' (locs ++ [⟨a, j.toNatClampNeg⟩]) cells slots → T'.heap = h' → Wr h h' a j.toNatClampNeg (.long x) → Arv Z h' a k .long n (vs.set i (.long x)) dv → Fr n0 (locs ++ [⟨a, j.toNatClampNeg⟩]) → own_Ok p e below Qx (T'.setTop (mkF m (pc + 1) Ls st))) : own_Ok p e below Qx (T.setTop (mkF m pc Ls (.long x :: .int j :: .ref a :: st))) := by
  obtain ⟨T', h', X', e', W', V', q⟩ := own_stJ X hx hZ eT A i hi h0 h1 h2 (g := mkF m pc Ls (.long x :: .int j :: .ref a :: st)) rfl rfl hd
  exact own_st q (K T' h' X' e' W' V' (Fr.snoc X' N ge))
end OwnMem
end OwnKit
section OwnSteps
variable {p : Program} {l : Launch} {e : Env} {R : Room} {s : State} {m : MethodId} {args : Array Value} {below : List Frame} {meth : Method} {c : Code} {T : State} {locs : List Loc} {cells slots : Nat} {Qx : Outcome → State → Prop} {pc : Nat} {Ls : Array Slot} {st : List Value}
theorem s_iloadN (X : Stand p l e R s m args below meth c T locs cells slots) (hx : p.tables.exec = Jvm.exec) {k : Fin 4} {v : Int32} (hd : decode c.code pc = .ok ((.iload_n k), 1)) (hl : Ls[k.val]? = some (.val (.int v))) (K : own_Ok p e below Qx (T.setTop (mkF m (pc + 1) Ls (.int v :: st)))) : own_Ok p e below Qx (T.setTop (mkF m pc Ls (st))) := own_st (fun _ k => XS.iloadN X.here hx rfl hd hl k) K
theorem s_iload (X : Stand p l e R s m args below meth c T locs cells slots) (hx : p.tables.exec = Jvm.exec) {k : Nat} {v : Int32} (hd : decode c.code pc = .ok ((.iload k), 2)) (hl : Ls[k]? = some (.val (.int v))) (K : own_Ok p e below Qx (T.setTop (mkF m (pc + 2) Ls (.int v :: st)))) : own_Ok p e below Qx (T.setTop (mkF m pc Ls (st))) := own_st (fun _ k => XS.iload X.here hx rfl hd hl k) K
theorem s_lloadN (X : Stand p l e R s m args below meth c T locs cells slots) (hx : p.tables.exec = Jvm.exec) {k : Fin 4} {v : Int64} (hd : decode c.code pc = .ok ((.lload_n k), 1)) (hl : Ls[k.val]? = some (.val (.long v))) (K : own_Ok p e below Qx (T.setTop (mkF m (pc + 1) Ls (.long v :: st)))) : own_Ok p e below Qx (T.setTop (mkF m pc Ls (st))) := own_st (fun _ k => XS.lloadN X.here hx rfl hd hl k) K
theorem s_lload (X : Stand p l e R s m args below meth c T locs cells slots) (hx : p.tables.exec = Jvm.exec) {k : Nat} {v : Int64} (hd : decode c.code pc = .ok ((.lload k), 2)) (hl : Ls[k]? = some (.val (.long v))) (K : own_Ok p e below Qx (T.setTop (mkF m (pc + 2) Ls (.long v :: st)))) : own_Ok p e below Qx (T.setTop (mkF m pc Ls (st))) := own_st (fun _ k => XS.lload X.here hx rfl hd hl k) K
theorem s_aloadN (X : Stand p l e R s m args below meth c T locs cells slots) (hx : p.tables.exec = Jvm.exec) {k : Fin 4} {v : Value} (hd : decode c.code pc = .ok ((.aload_n k), 1)) (hl : Ls[k.val]? = some (.val v)) (hv : v.isRef = true) (K : own_Ok p e below Qx (T.setTop (mkF m (pc + 1) Ls (v :: st)))) : own_Ok p e below Qx (T.setTop (mkF m pc Ls (st))) := own_st (fun _ k => XS.aloadN X.here hx rfl hd hl hv k) K
theorem s_aload (X : Stand p l e R s m args below meth c T locs cells slots) (hx : p.tables.exec = Jvm.exec) {k : Nat} {v : Value} (hd : decode c.code pc = .ok ((.aload k), 2)) (hl : Ls[k]? = some (.val v)) (hv : v.isRef = true) (K : own_Ok p e below Qx (T.setTop (mkF m (pc + 2) Ls (v :: st)))) : own_Ok p e below Qx (T.setTop (mkF m pc Ls (st))) := own_st (fun _ k => XS.aload X.here hx rfl hd hl hv k) K
theorem s_istoreN (X : Stand p l e R s m args below meth c T locs cells slots) (hx : p.tables.exec = Jvm.exec) {k : Fin 4} {x : Int32} (hd : decode c.code pc = .ok ((.istore_n k), 1)) (l' : Array Slot) (hl : storeLocals Ls k.val (.int x) = some l') (K : own_Ok p e below Qx (T.setTop (mkF m (pc + 1) l' (st)))) : own_Ok p e below Qx (T.setTop (mkF m pc Ls (.int x :: st))) := own_st (fun _ k => XS.istoreN X.here hx rfl hd rfl hl k) K
theorem s_istore (X : Stand p l e R s m args below meth c T locs cells slots) (hx : p.tables.exec = Jvm.exec) {k : Nat} {x : Int32} (hd : decode c.code pc = .ok ((.istore k), 2)) (l' : Array Slot) (hl : storeLocals Ls k (.int x) = some l') (K : own_Ok p e below Qx (T.setTop (mkF m (pc + 2) l' (st)))) : own_Ok p e below Qx (T.setTop (mkF m pc Ls (.int x :: st))) := own_st (fun _ k => XS.istore X.here hx rfl hd rfl hl k) K
theorem s_lstoreN (X : Stand p l e R s m args below meth c T locs cells slots) (hx : p.tables.exec = Jvm.exec) {k : Fin 4} {x : Int64} (hd : decode c.code pc = .ok ((.lstore_n k), 1)) (l' : Array Slot) (hl : storeLocals Ls k.val (.long x) = some l') (K : own_Ok p e below Qx (T.setTop (mkF m (pc + 1) l' (st)))) : own_Ok p e below Qx (T.setTop (mkF m pc Ls (.long x :: st))) := own_st (fun _ k => XS.lstoreN X.here hx rfl hd rfl hl k) K
theorem s_lstore (X : Stand p l e R s m args below meth c T locs cells slots) (hx : p.tables.exec = Jvm.exec) {k : Nat} {x : Int64} (hd : decode c.code pc = .ok ((.lstore k), 2)) (l' : Array Slot) (hl : storeLocals Ls k (.long x) = some l') (K : own_Ok p e below Qx (T.setTop (mkF m (pc + 2) l' (st)))) : own_Ok p e below Qx (T.setTop (mkF m pc Ls (.long x :: st))) := own_st (fun _ k => XS.lstore X.here hx rfl hd rfl hl k) K
theorem s_astoreN (X : Stand p l e R s m args below meth c T locs cells slots) (hx : p.tables.exec = Jvm.exec) {k : Fin 4} {x : Value} (hd : decode c.code pc = .ok ((.astore_n k), 1)) (hv : x.isRef = true) (l' : Array Slot) (hl : storeLocals Ls k.val (x) = some l') (K : own_Ok p e below Qx (T.setTop (mkF m (pc + 1) l' (st)))) : own_Ok p e below Qx (T.setTop (mkF m pc Ls (x :: st))) := own_st (fun _ k => XS.astoreN X.here hx rfl hd rfl hv hl k) K
theorem s_astore (X : Stand p l e R s m args below meth c T locs cells slots) (hx : p.tables.exec = Jvm.exec) {k : Nat} {x : Value} (hd : decode c.code pc = .ok ((.astore k), 2)) (hv : x.isRef = true) (l' : Array Slot) (hl : storeLocals Ls k (x) = some l') (K : own_Ok p e below Qx (T.setTop (mkF m (pc + 2) l' (st)))) : own_Ok p e below Qx (T.setTop (mkF m pc Ls (x :: st))) := own_st (fun _ k => XS.astore X.here hx rfl hd rfl hv hl k) K
theorem s_iconst (X : Stand p l e R s m args below meth c T locs cells slots) (hx : p.tables.exec = Jvm.exec) {i : Int} (v : Int32) (hd : decode c.code pc = .ok ((.iconst i), 1)) (hv : Int32.ofInt i = v) (K : own_Ok p e below Qx (T.setTop (mkF m (pc + 1) Ls (.int v :: st)))) : own_Ok p e below Qx (T.setTop (mkF m pc Ls st)) := own_st (fun _ k => XT.iconstV X.here hx rfl v hd hv k) K
theorem s_bipush (X : Stand p l e R s m args below meth c T locs cells slots) (hx : p.tables.exec = Jvm.exec) {i : Int} (v : Int32) (hd : decode c.code pc = .ok ((.bipush i), 2)) (hv : (Int8.ofInt i).toInt32 = v) (K : own_Ok p e below Qx (T.setTop (mkF m (pc + 2) Ls (.int v :: st)))) : own_Ok p e below Qx (T.setTop (mkF m pc Ls st)) := own_st (fun _ k => XT.bipushV X.here hx rfl v hd hv k) K
theorem s_sipush (X : Stand p l e R s m args below meth c T locs cells slots) (hx : p.tables.exec = Jvm.exec) {i : Int} (v : Int32) (hd : decode c.code pc = .ok ((.sipush i), 3)) (hv : (Int16.ofInt i).toInt32 = v) (K : own_Ok p e below Qx (T.setTop (mkF m (pc + 3) Ls (.int v :: st)))) : own_Ok p e below Qx (T.setTop (mkF m pc Ls st)) := own_st (fun _ k => XT.sipushV X.here hx rfl v hd hv k) K
theorem s_lconst (X : Stand p l e R s m args below meth c T locs cells slots) (hx : p.tables.exec = Jvm.exec) {k : Fin 2} (v : Int64) (hd : decode c.code pc = .ok (.lconst k, 1)) (hv : Int64.ofNat k = v) (K : own_Ok p e below Qx (T.setTop (mkF m (pc + 1) Ls (.long v :: st)))) : own_Ok p e below Qx (T.setTop (mkF m pc Ls st)) := own_st (fun _ k => XT.lconstV X.here hx rfl v hd hv k) K
theorem s_aconstNull (X : Stand p l e R s m args below meth c T locs cells slots) (hx : p.tables.exec = Jvm.exec)  (hd : decode c.code pc = .ok (.aconst_null, 1))  (K : own_Ok p e below Qx (T.setTop (mkF m (pc + 1) Ls (.null :: st)))) : own_Ok p e below Qx (T.setTop (mkF m pc Ls (st))) := own_st (fun _ k => XS.aconstNull X.here hx rfl hd k) K
theorem s_iadd (X : Stand p l e R s m args below meth c T locs cells slots) (hx : p.tables.exec = Jvm.exec) {x y : Int32} (hd : decode c.code pc = .ok (.iadd, 1))  (K : own_Ok p e below Qx (T.setTop (mkF m (pc + 1) Ls (.int (x + y) :: st)))) : own_Ok p e below Qx (T.setTop (mkF m pc Ls (.int y :: .int x :: st))) := own_st (fun _ k => XS.iadd X.here hx rfl hd rfl k) K
theorem s_isub (X : Stand p l e R s m args below meth c T locs cells slots) (hx : p.tables.exec = Jvm.exec) {x y : Int32} (hd : decode c.code pc = .ok (.isub, 1))  (K : own_Ok p e below Qx (T.setTop (mkF m (pc + 1) Ls (.int (x - y) :: st)))) : own_Ok p e below Qx (T.setTop (mkF m pc Ls (.int y :: .int x :: st))) := own_st (fun _ k => XS.isub X.here hx rfl hd rfl k) K
theorem s_imul (X : Stand p l e R s m args below meth c T locs cells slots) (hx : p.tables.exec = Jvm.exec) {x y : Int32} (hd : decode c.code pc = .ok (.imul, 1))  (K : own_Ok p e below Qx (T.setTop (mkF m (pc + 1) Ls (.int (x * y) :: st)))) : own_Ok p e below Qx (T.setTop (mkF m pc Ls (.int y :: .int x :: st))) := own_st (fun _ k => XS.imul X.here hx rfl hd rfl k) K
theorem s_iand (X : Stand p l e R s m args below meth c T locs cells slots) (hx : p.tables.exec = Jvm.exec) {x y : Int32} (hd : decode c.code pc = .ok (.iand, 1))  (K : own_Ok p e below Qx (T.setTop (mkF m (pc + 1) Ls (.int (x &&& y) :: st)))) : own_Ok p e below Qx (T.setTop (mkF m pc Ls (.int y :: .int x :: st))) := own_st (fun _ k => XS.iand X.here hx rfl hd rfl k) K
theorem s_ishl (X : Stand p l e R s m args below meth c T locs cells slots) (hx : p.tables.exec = Jvm.exec) {x y : Int32} (hd : decode c.code pc = .ok (.ishl, 1))  (K : own_Ok p e below Qx (T.setTop (mkF m (pc + 1) Ls (.int (x <<< (y &&& 31)) :: st)))) : own_Ok p e below Qx (T.setTop (mkF m pc Ls (.int y :: .int x :: st))) := own_st (fun _ k => XS.ishl X.here hx rfl hd rfl k) K
theorem s_ishr (X : Stand p l e R s m args below meth c T locs cells slots) (hx : p.tables.exec = Jvm.exec) {x y : Int32} (hd : decode c.code pc = .ok (.ishr, 1))  (K : own_Ok p e below Qx (T.setTop (mkF m (pc + 1) Ls (.int (x >>> (y &&& 31)) :: st)))) : own_Ok p e below Qx (T.setTop (mkF m pc Ls (.int y :: .int x :: st))) := own_st (fun _ k => XS.ishr X.here hx rfl hd rfl k) K
theorem s_ladd (X : Stand p l e R s m args below meth c T locs cells slots) (hx : p.tables.exec = Jvm.exec) {x y : Int64} (hd : decode c.code pc = .ok (.ladd, 1))  (K : own_Ok p e below Qx (T.setTop (mkF m (pc + 1) Ls (.long (x + y) :: st)))) : own_Ok p e below Qx (T.setTop (mkF m pc Ls (.long y :: .long x :: st))) := own_st (fun _ k => XS.ladd X.here hx rfl hd rfl k) K
theorem s_lmul (X : Stand p l e R s m args below meth c T locs cells slots) (hx : p.tables.exec = Jvm.exec) {x y : Int64} (hd : decode c.code pc = .ok (.lmul, 1))  (K : own_Ok p e below Qx (T.setTop (mkF m (pc + 1) Ls (.long (x * y) :: st)))) : own_Ok p e below Qx (T.setTop (mkF m pc Ls (.long y :: .long x :: st))) := own_st (fun _ k => XS.lmul X.here hx rfl hd rfl k) K
theorem s_land (X : Stand p l e R s m args below meth c T locs cells slots) (hx : p.tables.exec = Jvm.exec) {x y : Int64} (hd : decode c.code pc = .ok (.land, 1))  (K : own_Ok p e below Qx (T.setTop (mkF m (pc + 1) Ls (.long (x &&& y) :: st)))) : own_Ok p e below Qx (T.setTop (mkF m pc Ls (.long y :: .long x :: st))) := own_st (fun _ k => XS.land X.here hx rfl hd rfl k) K
theorem s_idiv (X : Stand p l e R s m args below meth c T locs cells slots) (hx : p.tables.exec = Jvm.exec) {x y : Int32} (hd : decode c.code pc = .ok (.idiv, 1)) (hy : y ≠ 0) (K : own_Ok p e below Qx (T.setTop (mkF m (pc + 1) Ls (.int (x / y) :: st)))) : own_Ok p e below Qx (T.setTop (mkF m pc Ls (.int y :: .int x :: st))) := own_st (fun _ k => XS.idiv X.here hx rfl hd rfl hy k) K
theorem s_ldiv (X : Stand p l e R s m args below meth c T locs cells slots) (hx : p.tables.exec = Jvm.exec) {x y : Int64} (hd : decode c.code pc = .ok (.ldiv, 1)) (hy : y ≠ 0) (K : own_Ok p e below Qx (T.setTop (mkF m (pc + 1) Ls (.long (x / y) :: st)))) : own_Ok p e below Qx (T.setTop (mkF m pc Ls (.long y :: .long x :: st))) := own_st (fun _ k => XS.ldiv X.here hx rfl hd rfl hy k) K
theorem s_lrem (X : Stand p l e R s m args below meth c T locs cells slots) (hx : p.tables.exec = Jvm.exec) {x y : Int64} (hd : decode c.code pc = .ok (.lrem, 1)) (hy : y ≠ 0) (K : own_Ok p e below Qx (T.setTop (mkF m (pc + 1) Ls (.long (x - (x / y) * y) :: st)))) : own_Ok p e below Qx (T.setTop (mkF m pc Ls (.long y :: .long x :: st))) := own_st (fun _ k => XS.lrem X.here hx rfl hd rfl hy k) K
theorem s_irem (X : Stand p l e R s m args below meth c T locs cells slots) (hx : p.tables.exec = Jvm.exec) {x y : Int32} (hd : decode c.code pc = .ok (.irem, 1)) (hy : y ≠ 0) (K : own_Ok p e below Qx (T.setTop (mkF m (pc + 1) Ls (.int (x % y) :: st)))) : own_Ok p e below Qx (T.setTop (mkF m pc Ls (.int y :: .int x :: st))) := own_st (fun _ k => iremM X hx rfl hd rfl hy k) K
theorem s_ineg (X : Stand p l e R s m args below meth c T locs cells slots) (hx : p.tables.exec = Jvm.exec) {v : Int32} (hd : decode c.code pc = .ok (.ineg, 1))  (K : own_Ok p e below Qx (T.setTop (mkF m (pc + 1) Ls (.int (-v) :: st)))) : own_Ok p e below Qx (T.setTop (mkF m pc Ls (.int v :: st))) := own_st (fun _ k => XS.ineg X.here hx rfl hd rfl k) K
theorem s_lneg (X : Stand p l e R s m args below meth c T locs cells slots) (hx : p.tables.exec = Jvm.exec) {v : Int64} (hd : decode c.code pc = .ok (.lneg, 1))  (K : own_Ok p e below Qx (T.setTop (mkF m (pc + 1) Ls (.long (-v) :: st)))) : own_Ok p e below Qx (T.setTop (mkF m pc Ls (.long v :: st))) := own_st (fun _ k => XS.lneg X.here hx rfl hd rfl k) K
theorem s_i2l (X : Stand p l e R s m args below meth c T locs cells slots) (hx : p.tables.exec = Jvm.exec) {v : Int32} (hd : decode c.code pc = .ok (.i2l, 1))  (K : own_Ok p e below Qx (T.setTop (mkF m (pc + 1) Ls (.long (v.toInt64) :: st)))) : own_Ok p e below Qx (T.setTop (mkF m pc Ls (.int v :: st))) := own_st (fun _ k => XS.i2l X.here hx rfl hd rfl k) K
theorem s_l2i (X : Stand p l e R s m args below meth c T locs cells slots) (hx : p.tables.exec = Jvm.exec) {v : Int64} (hd : decode c.code pc = .ok (.l2i, 1))  (K : own_Ok p e below Qx (T.setTop (mkF m (pc + 1) Ls (.int (v.toInt32) :: st)))) : own_Ok p e below Qx (T.setTop (mkF m pc Ls (.long v :: st))) := own_st (fun _ k => XS.l2i X.here hx rfl hd rfl k) K
theorem s_i2b (X : Stand p l e R s m args below meth c T locs cells slots) (hx : p.tables.exec = Jvm.exec) {v : Int32} (hd : decode c.code pc = .ok (.i2b, 1))  (K : own_Ok p e below Qx (T.setTop (mkF m (pc + 1) Ls (.int (v.toInt8.toInt32) :: st)))) : own_Ok p e below Qx (T.setTop (mkF m pc Ls (.int v :: st))) := own_st (fun _ k => XS.i2b X.here hx rfl hd rfl k) K
theorem s_i2c (X : Stand p l e R s m args below meth c T locs cells slots) (hx : p.tables.exec = Jvm.exec) {v : Int32} (hd : decode c.code pc = .ok (.i2c, 1))  (K : own_Ok p e below Qx (T.setTop (mkF m (pc + 1) Ls (.int (v.toUInt32.toUInt16.toUInt32.toInt32) :: st)))) : own_Ok p e below Qx (T.setTop (mkF m pc Ls (.int v :: st))) := own_st (fun _ k => XS.i2c X.here hx rfl hd rfl k) K
theorem s_lcmp (X : Stand p l e R s m args below meth c T locs cells slots) (hx : p.tables.exec = Jvm.exec) {x y : Int64} (hd : decode c.code pc = .ok (.lcmp, 1))  (K : own_Ok p e below Qx (T.setTop (mkF m (pc + 1) Ls (.int (XT.cmpL x y) :: st)))) : own_Ok p e below Qx (T.setTop (mkF m pc Ls (.long y :: .long x :: st))) := own_st (fun _ k => XT.lcmp X.here hx rfl hd rfl k) K
theorem s_dup (X : Stand p l e R s m args below meth c T locs cells slots) (hx : p.tables.exec = Jvm.exec) {x : Value} (hd : decode c.code pc = .ok (.dup, 1)) (hc : x.category = 1) (K : own_Ok p e below Qx (T.setTop (mkF m (pc + 1) Ls (x :: x :: st)))) : own_Ok p e below Qx (T.setTop (mkF m pc Ls (x :: st))) := own_st (fun _ k => XS.dup X.here hx rfl hd rfl hc k) K
theorem s_pop (X : Stand p l e R s m args below meth c T locs cells slots) (hx : p.tables.exec = Jvm.exec) {x : Value} (hd : decode c.code pc = .ok (.pop, 1)) (hc : x.category = 1) (K : own_Ok p e below Qx (T.setTop (mkF m (pc + 1) Ls (st)))) : own_Ok p e below Qx (T.setTop (mkF m pc Ls (x :: st))) := own_st (fun _ k => XS.pop X.here hx rfl hd rfl hc k) K
theorem s_iinc (X : Stand p l e R s m args below meth c T locs cells slots) (hx : p.tables.exec = Jvm.exec) {k : Nat} {cst : Int} {x : Int32} (v : Int32) (hd : decode c.code pc = .ok (.iinc k cst, 3)) (hv : Int32.ofInt cst = v) (hl : Ls[k]? = some (.val (.int x))) (l' : Array Slot) (hl' : storeLocals Ls k (.int (x + v)) = some l') (K : own_Ok p e below Qx (T.setTop (mkF m (pc + 3) l' st))) : own_Ok p e below Qx (T.setTop (mkF m pc Ls st)) := own_st (fun _ k => XS.iinc X.here hx rfl hd hl (by rw [hv]; exact hl') k) K
theorem s_goto (X : Stand p l e R s m args below meth c T locs cells slots) (hx : p.tables.exec = Jvm.exec) {o : Int} (pc' : Nat) (hd : decode c.code pc = .ok (.goto o, 3)) (ho : 0 ≤ (pc : Int) + o) (hp : ((pc : Int) + o).toNat = pc') (K : own_Ok p e below Qx (T.setTop (mkF m pc' Ls st))) : own_Ok p e below Qx (T.setTop (mkF m pc Ls st)) := own_st (fun _ k => XS.goto X.here hx rfl rfl hd ho hp k) K
theorem s_ifYes (X : Stand p l e R s m args below meth c T locs cells slots) (hx : p.tables.exec = Jvm.exec) {cd : ClassFile.Cond} {x : Int32} {o : Int} (pc' : Nat) (hd : decode c.code pc = .ok ((.ifCond cd o), 3)) (hc : ifCond.holds cd x = true) (ho : 0 ≤ (pc : Int) + o) (hp : ((pc : Int) + o).toNat = pc') (K : own_Ok p e below Qx (T.setTop (mkF m pc' Ls st))) : own_Ok p e below Qx (T.setTop (mkF m pc Ls (.int x :: st))) := own_st (fun _ k => XS.ifYes X.here hx rfl rfl hd rfl hc ho hp k) K
theorem s_ifNo (X : Stand p l e R s m args below meth c T locs cells slots) (hx : p.tables.exec = Jvm.exec) {cd : ClassFile.Cond} {x : Int32} {o : Int} (hd : decode c.code pc = .ok ((.ifCond cd o), 3)) (hc : ifCond.holds cd x = false) (K : own_Ok p e below Qx (T.setTop (mkF m (pc + 3) Ls st))) : own_Ok p e below Qx (T.setTop (mkF m pc Ls (.int x :: st))) := own_st (fun _ k => XS.ifNo X.here hx rfl hd rfl hc k) K
theorem s_icmpYes (X : Stand p l e R s m args below meth c T locs cells slots) (hx : p.tables.exec = Jvm.exec) {cd : ClassFile.Cond} {x y : Int32} {o : Int} (pc' : Nat) (hd : decode c.code pc = .ok ((.if_icmp cd o), 3)) (hc : if_icmp.holds cd x y = true) (ho : 0 ≤ (pc : Int) + o) (hp : ((pc : Int) + o).toNat = pc') (K : own_Ok p e below Qx (T.setTop (mkF m pc' Ls st))) : own_Ok p e below Qx (T.setTop (mkF m pc Ls (.int y :: .int x :: st))) := own_st (fun _ k => XS.icmpYes X.here hx rfl rfl hd rfl hc ho hp k) K
theorem s_icmpNo (X : Stand p l e R s m args below meth c T locs cells slots) (hx : p.tables.exec = Jvm.exec) {cd : ClassFile.Cond} {x y : Int32} {o : Int} (hd : decode c.code pc = .ok ((.if_icmp cd o), 3)) (hc : if_icmp.holds cd x y = false) (K : own_Ok p e below Qx (T.setTop (mkF m (pc + 3) Ls st))) : own_Ok p e below Qx (T.setTop (mkF m pc Ls (.int y :: .int x :: st))) := own_st (fun _ k => XS.icmpNo X.here hx rfl hd rfl hc k) K
end OwnSteps
theorem own_nf {s : State} {args : Array Value} {D : String} {y zf : MethodName} (hsel : (Jvm.Cond.selects D zf zf).before args s = true) (hc : zf.cls = y.cls) : NotFace s y := fun r0 h0 => by
  obtain ⟨c2, r2, m2, q1, q2, q3, q4, kP, hkP, hkPi⟩ := Cond.selects_spec hsel
  have e1 := findClass_of_methodNamed h0
  have e2 := findClass_of_methodNamed q3
  rw [hc] at e2
  exact ⟨kP, by rw [Option.some.inj (e1.symm.trans e2)]; exact hkP, hkPi⟩
theorem own_decl {Z : State} {a0 : Array Value} {y : MethodName} {bytes : ByteArray} {maxL : Nat} {ret : Option FieldType} (w1 : (Jvm.Cond.instanceMethod y).before a0 Z = true) (w2 : (Jvm.Cond.code y bytes maxL ret).before a0 Z = true) : (Jvm.Cond.declares y).before a0 Z = true := by
  obtain ⟨m, meth, h1, h2, h3, -⟩ := Cond.instanceMethod_spec w1
  obtain ⟨m2, c, q1, -, -, -, -, -, -, hsig⟩ := Cond.code_spec h1 w2
  cases h2.symm.trans q1
  simp [Cond.before, Cond.holds, Cond.value, h1, h2, h3, hsig]
theorem own_same {Z : State} {a0 : Array Value} {D : String} {y zf : MethodName} (w1 : (Jvm.Cond.declares y).before a0 Z = true) (hsel : (Jvm.Cond.selects D zf zf).before a0 Z = true) (hc : zf.cls = y.cls) (hy : y.cls ≠ "java/lang/invoke/MethodHandle" ∧ y.cls ≠ "java/lang/invoke/VarHandle") : (Jvm.Cond.sameMethod y.cls y.cls y.name y.desc).before a0 Z = true := by
  obtain ⟨m, meth, h1, h2, h3, h4⟩ := Cond.declares_spec w1
  obtain ⟨kr, hk, hi⟩ := own_nf hsel hc m h1
  have e1 := findClass_of_methodNamed h1
  have e2 := State.methodFound?_of_named h1 hy
  have e3 : Z.methodNamed? ⟨y.cls, y.name, y.desc⟩ = some m := h1
  simp [Cond.before, Cond.holds, Cond.value, e1, e2, e3, hk, hi]
section OwnCalls
variable {p : Program} {l : Launch} {e : Env} {R : Room} {s : State} {m : MethodId} {args : Array Value} {below : List Frame} {meth : Method} {c : Code} {T : State} {locs : List Loc} {cells slots : Nat} {Z : State} {a0 : Array Value} {h : Heap} {own : String} {index : Nat} {y z : MethodName} {bytes : ByteArray} {maxL : Nat} {ret : Option FieldType} {rm : Room} {as' : Array Value} {Q : Option Value → Heap → List Loc → Prop} {pc : Nat} {Ls : Array Slot} {C : String} {a : Addr} {kI : Nat}
theorem own_callS (X : Stand p l e R s m args below meth c T locs cells slots) (hx : p.tables.exec = Jvm.exec) (hZ : Z.Warmed39 s.vm) (hown : s.vm.findClass own = some m.cls) (w1 : (Jvm.Cond.methodLink own index y).before a0 Z = true) (w2 : (Jvm.Cond.static y).before a0 Z = true) (w3 : (Jvm.Cond.initialized y.cls).before a0 Z = true) (w4 : (Jvm.Cond.code y bytes maxL ret).before a0 Z = true)
    (hM : own_Met l Z y bytes maxL ret [] rm as' h Q) (hy : y.cls ≠ "java/lang/invoke/MethodHandle" ∧ y.cls ≠ "java/lang/invoke/VarHandle") (eT : T.heap = h) (argsL rest : List Value) (has : argsL.toArray = as') (hsz : Ls.size = c.maxLocals) (hlen : ∀ sig, parseMethodDescriptor y.desc = some sig → argsL.length = sig.parameters.length)
    (hd : decode c.code pc = .ok (.invokestatic index, 3)) (hf : rm.frames + 1 ≤ R.frames) (W : Nat) (hW : (rest.map fun v => v.category).sum = W) (hl : W + (maxL + 11) + rm.locals ≤ R.locals) (hc : cells + rm.cells ≤ R.cells) (hs : slots + rm.slots ≤ R.slots) :
    ∃ v T' L, Stand p l e R s m args below meth c T' (locs ++ L) (cells + rm.cells) (slots + rm.slots) ∧ Q v T'.heap L ∧ ∀ Qx, own_Ok p e below Qx (T'.setTop (mkF m (pc + 3) Ls (v.toList ++ rest))) → own_Ok p e below Qx (T.setTop (mkF m pc Ls (argsL.reverse ++ rest))) := by
  obtain ⟨v, _, ⟨T', L', k', n'⟩, -, X', ⟨L, hQ, e1, e2, e3⟩, st⟩ := Jvm.LawKit.callS X hx (y := y) hown (mvT hZ w1) (mvT hZ w2) (mvT hZ w3) (mvT hZ w4) hy (backOf (W := W) hM hZ w4 w3 hf hl) (g := mkF m pc Ls (argsL.reverse ++ rest)) rfl hsz (argsL := argsL) (rest := rest) hlen rfl (by show 2 * 0 + _ ≤ _; omega) hd (fun _ _ => ⟨has, eT, hc, hs⟩)
  dsimp only [Pt.U, Pt.locs, Pt.cells, Pt.slots] at X' e1 e2 e3 st hQ
  subst e1 e2 e3
  exact ⟨v, T', L, X', hQ, fun Qx k => own_st st k⟩
theorem own_callN (X : Stand p l e R s m args below meth c T locs cells slots) (hx : p.tables.exec = Jvm.exec) (hZ : Z.Warmed39 s.vm) (hown : s.vm.findClass own = some m.cls) (w1 : (Jvm.Cond.methodLink own index y).before a0 Z = true) (w2 : (Jvm.Cond.instanceMethod y).before a0 Z = true) (w3 : (Jvm.Cond.initialized y.cls).before a0 Z = true) (w4 : (Jvm.Cond.code y bytes maxL none).before a0 Z = true)
    (hM : own_Met l Z y bytes maxL none [] rm as' h Q) (hy1 : y.name = "<init>") (hy : y.cls ≠ "java/lang/invoke/MethodHandle" ∧ y.cls ≠ "java/lang/invoke/VarHandle") (eT : T.heap = h) (a : Addr) (argsL rest : List Value) (has : (.ref a :: argsL).toArray = as') (hsz : Ls.size = c.maxLocals) (hlen : ∀ sig, parseMethodDescriptor y.desc = some sig → argsL.length = sig.parameters.length)
    (hd : decode c.code pc = .ok (.invokespecial index, 3)) (hf : rm.frames + 1 ≤ R.frames) (W : Nat) (hW : (rest.map fun v => v.category).sum = W) (hl : W + (maxL + 11) + rm.locals ≤ R.locals) (hc : cells + rm.cells ≤ R.cells) (hs : slots + rm.slots ≤ R.slots) :
    ∃ v T' L, Stand p l e R s m args below meth c T' (locs ++ L) (cells + rm.cells) (slots + rm.slots) ∧ Q v T'.heap L ∧ ∀ Qx, own_Ok p e below Qx (T'.setTop (mkF m (pc + 3) Ls (v.toList ++ rest))) → own_Ok p e below Qx (T.setTop (mkF m pc Ls (argsL.reverse ++ .ref a :: rest))) := by
  obtain ⟨v, _, ⟨T', L', k', n'⟩, -, X', ⟨L, hQ, e1, e2, e3⟩, st⟩ := X.specialBack hx (y := y) hy1 hown (mvT hZ w1) (mvT hZ w2) (mvT hZ w4) hy (backOf (W := W) hM hZ w4 w3 hf hl) (g := mkF m pc Ls (argsL.reverse ++ .ref a :: rest)) rfl hsz (Steps.refl _) (a := a) (argsL := argsL) (rest := rest) hlen rfl (by show 2 * 0 + _ ≤ _; omega) hd (fun _ _ => ⟨has, eT, hc, hs⟩)
  dsimp only [Pt.U, Pt.locs, Pt.cells, Pt.slots] at X' e1 e2 e3 st hQ
  subst e1 e2 e3
  exact ⟨v, T', L, X', hQ, fun Qx k => own_st (fun _ k => st.trans k) k⟩
theorem own_callV (X : Stand p l e R s m args below meth c T locs cells slots) (hx : p.tables.exec = Jvm.exec) (hZ : Z.Warmed39 s.vm) (hown : s.vm.findClass own = some m.cls) (w1 : (Jvm.Cond.methodLink own index y).before a0 Z = true) (w2 : (Jvm.Cond.declares y).before a0 Z = true) {D : String} {zf : MethodName} (wf : (Jvm.Cond.selects D zf zf).before a0 Z = true) (hzf : zf.cls = y.cls) (ws : (Jvm.Cond.selects C y z).before a0 Z = true) (w5 : (Jvm.Cond.instanceMethod z).before a0 Z = true) (w3 : (Jvm.Cond.initialized z.cls).before a0 Z = true) (w4 : (Jvm.Cond.code z bytes maxL ret).before a0 Z = true)
    (hM : own_Met l Z z bytes maxL ret [] rm as' h Q) (hy : y.cls ≠ "java/lang/invoke/MethodHandle" ∧ y.cls ≠ "java/lang/invoke/VarHandle") (eT : T.heap = h) (E : Exa Z h a C) (argsL rest : List Value) (has : (.ref a :: argsL).toArray = as') (hsz : Ls.size = c.maxLocals) (hlen : ∀ sig, parseMethodDescriptor y.desc = some sig → argsL.length = sig.parameters.length)
    (hd : decode c.code pc = .ok (.invokevirtual index, 3)) (hf : rm.frames + 1 ≤ R.frames) (W : Nat) (hW : (rest.map fun v => v.category).sum = W) (hl : W + (maxL + 11) + rm.locals ≤ R.locals) (hc : cells + rm.cells ≤ R.cells) (hs : slots + rm.slots ≤ R.slots) :
    ∃ v T' L, Stand p l e R s m args below meth c T' (locs ++ L) (cells + rm.cells) (slots + rm.slots) ∧ Q v T'.heap L ∧ ∀ Qx, own_Ok p e below Qx (T'.setTop (mkF m (pc + 3) Ls (v.toList ++ rest))) → own_Ok p e below Qx (T.setTop (mkF m pc Ls (argsL.reverse ++ .ref a :: rest))) := by
  obtain ⟨cq, kq, qa, qb, qc⟩ := isOf hZ eT E
  obtain ⟨v, _, ⟨T', L', k', n'⟩, -, X', ⟨L, hQ, e1, e2, e3⟩, st⟩ := X.virtualBack hx (y := y) (z := z) hown (mvT hZ w1) (mvT hZ w2) (own_nf (args := #[]) (mvT hZ wf) hzf) (mvT hZ ws) (mvT hZ w5) hy (backOf (W := W) hM hZ w4 w3 hf hl) qa qc (g := mkF m pc Ls (argsL.reverse ++ .ref a :: rest)) rfl hsz (Steps.refl _) (argsL := argsL) (rest := rest) hlen rfl (by show 2 * 0 + _ ≤ _; omega) hd (fun _ _ => ⟨has, eT, hc, hs⟩)
  dsimp only [Pt.U, Pt.locs, Pt.cells, Pt.slots] at X' e1 e2 e3 st hQ
  subst e1 e2 e3
  exact ⟨v, T', L, X', hQ, fun Qx k => own_st (fun _ k => st.trans k) k⟩
theorem own_callU (X : Stand p l e R s m args below meth c T locs cells slots) (hx : p.tables.exec = Jvm.exec) (hZ : Z.Warmed39 s.vm) (hown : s.vm.findClass own = some m.cls) (w1 : (Jvm.Cond.methodLink own index y).before a0 Z = true) (w2 : (Jvm.Cond.declares y).before a0 Z = true) {D : String} {zf : MethodName} (wf : (Jvm.Cond.selects D zf zf).before a0 Z = true) (hzf : zf.cls = y.cls) (wu : (Jvm.Cond.superclass own y.cls).before a0 Z = true) (w5 : (Jvm.Cond.instanceMethod y).before a0 Z = true) (w3 : (Jvm.Cond.initialized y.cls).before a0 Z = true) (w4 : (Jvm.Cond.code y bytes maxL ret).before a0 Z = true)
    (hM : own_Met l Z y bytes maxL ret [] rm as' h Q) (hy1 : y.name ≠ "<init>") (hy : y.cls ≠ "java/lang/invoke/MethodHandle" ∧ y.cls ≠ "java/lang/invoke/VarHandle") (eT : T.heap = h) (E : Exa Z h a C) (argsL rest : List Value) (has : (.ref a :: argsL).toArray = as') (hsz : Ls.size = c.maxLocals) (hlen : ∀ sig, parseMethodDescriptor y.desc = some sig → argsL.length = sig.parameters.length)
    (hd : decode c.code pc = .ok (.invokespecial index, 3)) (hf : rm.frames + 1 ≤ R.frames) (W : Nat) (hW : (rest.map fun v => v.category).sum = W) (hl : W + (maxL + 11) + rm.locals ≤ R.locals) (hc : cells + rm.cells ≤ R.cells) (hs : slots + rm.slots ≤ R.slots) :
    ∃ v T' L, Stand p l e R s m args below meth c T' (locs ++ L) (cells + rm.cells) (slots + rm.slots) ∧ Q v T'.heap L ∧ ∀ Qx, own_Ok p e below Qx (T'.setTop (mkF m (pc + 3) Ls (v.toList ++ rest))) → own_Ok p e below Qx (T.setTop (mkF m pc Ls (argsL.reverse ++ .ref a :: rest))) := by
  obtain ⟨v, _, ⟨T', L', k', n'⟩, -, X', ⟨L, hQ, e1, e2, e3⟩, st⟩ := superBack X hx hZ (y := y) hown w1 (own_same w2 wf hzf hy) w5 wu hy1 (backOf (W := W) hM hZ w4 w3 hf hl) eT (Ins.self E) (g := mkF m pc Ls (argsL.reverse ++ .ref a :: rest)) rfl hsz w4 (argsL := argsL) (rest := rest) hlen rfl (by show 2 * 0 + _ ≤ _; omega) hd (fun _ _ => ⟨has, eT, hc, hs⟩)
  dsimp only [Pt.U, Pt.locs, Pt.cells, Pt.slots] at X' e1 e2 e3 st hQ
  subst e1 e2 e3
  exact ⟨v, T', L, X', hQ, fun Qx k => own_st (fun _ k => st.trans k) k⟩
end OwnCalls
section OwnKitW
variable {p : Program} {l : Launch} {e : Env} {R : Room} {s : State} {m : MethodId} {args : Array Value} {below : List Frame} {meth : Method} {c : Code} {T : State} {locs : List Loc} {cells slots : Nat} {vm0 : Vm} {k0 : Nat}
def own_QxW (s : State) (Q : Option Value → Heap → List Loc → Prop) (kc ks : Nat) : Outcome → State → Prop := fun o s₂ => ∃ v L, o = .returned v ∧ Q v s₂.heap L ∧ ReturnedEndW s o s₂ L kc ks
theorem own_outW (X : Stand p l e R (s.setVm vm0) m args below meth c T locs cells slots) (hS : s.Since vm0 k0) (hk0 : k0 ≤ T.heap.size) (hlk : meth.locks = false) {Q : Option Value → Heap → List Loc → Prop} {kc ks : Nat} {g : JFrame} (v : Option Value) (hv : meth.sig.returnType = none → v = none)
    (hst : ∀ fs, (∀ (f : JFrame) (acts : List Action), f.method = m → f.locked = none → f.entered = [] → (doReturn e (T.setTop f) acts v).1 = T.setFrames fs) → Steps p.tables e below (T.setTop g) (T.setFrames fs))
    (hq : Q v T.heap locs) (hk : cells ≤ kc) (hn : slots ≤ ks) : own_Ok p e below (own_QxW s Q kc ks) (T.setTop g) := by
  obtain ⟨fs, hr, hrun, hended, hW, hsame⟩ := X.leave (v := v) hv hlk
  obtain ⟨w1, w2, w3⟩ := hS.ended (U := T.setFrames fs) hW hk0 hsame
  exact ⟨_, _, hst fs hr, hrun, hended, v, locs, rfl, hq, ⟨_, rfl⟩, w1, w2, w3.mono hk hn⟩
theorem own_retNW (X : Stand p l e R (s.setVm vm0) m args below meth c T locs cells slots) (hS : s.Since vm0 k0) (hk0 : k0 ≤ T.heap.size) (hx : p.tables.exec = Jvm.exec) (hlk : meth.locks = false) {Q : Option Value → Heap → List Loc → Prop} {kc ks : Nat} {pc : Nat} {Ls : Array Slot} {z : Int32} {t : FieldType} {rest : List Value} (hret : meth.sig.returnType = some t) (ht : t = .boolean ∨ t = .byte ∨ t = .char ∨ t = .short) (hd : decode c.code pc = .ok (.ireturn, 1))
    (hq : Q (some (.int (nar t z))) T.heap locs) (hk : cells ≤ kc) (hn : slots ≤ ks) : own_Ok p e below (own_QxW s Q kc ks) (T.setTop (mkF m pc Ls (.int z :: rest))) :=
  own_outW X hS hk0 hlk _ (fun h => by rw [hret] at h; cases h) (fun fs hr => retN X hx hret ht hd hr) hq hk hn
theorem own_retAW (X : Stand p l e R (s.setVm vm0) m args below meth c T locs cells slots) (hS : s.Since vm0 k0) (hk0 : k0 ≤ T.heap.size) (hx : p.tables.exec = Jvm.exec) (hlk : meth.locks = false) {Q : Option Value → Heap → List Loc → Prop} {kc ks : Nat} {pc : Nat} {Ls : Array Slot} {w : Value} {t : FieldType} {rest : List Value} (hw : w.isRef = true) (hret : meth.sig.returnType = some t) (ht : t.isReference = true) (hd : decode c.code pc = .ok (.areturn, 1))
    (hq : Q (some w) T.heap locs) (hk : cells ≤ kc) (hn : slots ≤ ks) : own_Ok p e below (own_QxW s Q kc ks) (T.setTop (mkF m pc Ls (w :: rest))) :=
  own_outW X hS hk0 hlk _ (fun h => by rw [hret] at h; cases h) (fun fs hr => retOut X hx (i := .areturn) hret (own_narR hw ht) (Or.inr (Or.inr (Or.inr (Or.inr ⟨rfl, ht, hw⟩)))) hd hr) hq hk hn
abbrev own_MetI (l : Launch) (Z : State) (y : MethodName) (bytes : ByteArray) (maxl : Nat) (ret : Option FieldType) (ws : List Jvm.Cond) (rm : Room) (as' : Array Value) (h0 : Heap) (Q : Option Value → Heap → List Loc → Prop) (Ts : List String) : Prop :=
  MetFree l y (head1 (Jvm.Cond.code y bytes maxl ret :: ws) rm) (fun a U => a = as' ∧ Z.Warmed39 U.vm ∧ U.heap = h0 ∧ IB Z U.vm Ts) (fun _ _ _ _ _ => True) (fun _ U o U' => ∃ v L, o = .returned v ∧ Q v U'.heap L ∧ ReturnedEndW U o U' L rm.cells rm.slots)
theorem own_IBeq {Z : State} {Ts : List String} {U : State} (I : IB Z s.vm Ts) (hW : s.WarmedH U.vm) : IB Z U.vm Ts := by
  obtain ⟨more, q1, q2⟩ := I
  exact ⟨more, by rw [hW.interned_eq]; exact q1, q2⟩
theorem own_backOfS {Z : State} {a0 : Array Value} {h : Heap} {y : MethodName} {bytes : ByteArray} {maxL : Nat} {ret : Option FieldType} {rm : Room} {len W : Nat} {as' : Array Value} {Ts : List String} {Q : Option Value → Heap → List Loc → Prop}
    (hM : MetFree l y (head1 [Jvm.Cond.code y bytes maxL ret] rm) (fun a U => a = as' ∧ Z.Warmed39 U.vm ∧ U.heap = h ∧ IB Z U.vm Ts) (fun _ _ _ _ _ => True) (fun _ U o U' => ∃ v L, o = .returned v ∧ Q v U'.heap L ∧ ReturnedEndW U o U' L rm.cells rm.slots)) (I : IB Z s.vm Ts)
    (hZ : Z.Warmed39 s.vm) (wc : (Jvm.Cond.code y bytes maxL ret).before a0 Z = true) (wz : (Jvm.Cond.initialized y.cls).before a0 Z = true) (hf : rm.frames + 1 ≤ R.frames) (hl : W + (maxL + 11) + rm.locals ≤ R.locals) :
    BackS l R p e below s args y len W (fun A a => a = as' ∧ A.U.heap = h ∧ A.cells + rm.cells ≤ R.cells ∧ A.slots + rm.slots ≤ R.slots)
      (fun A _ v B => ∃ L, Q v B.U.heap L ∧ B.locs = A.locs ++ L ∧ B.cells = A.cells + rm.cells ∧ B.slots = A.slots + rm.slots) :=
  BackS.of_freeW (bytes := bytes) (maxL := maxL) (ret := ret) (E := fun _ _ o t L k n => k = rm.cells ∧ n = rm.slots ∧ ∃ v, o = .returned v ∧ Q v t.heap L) hM hf hl
    (fun m meth c A a Y hp => have hU : Z.Warmed39 A.U.vm := wtrans hZ Y.warmed
      ⟨by show (Jvm.Cond.and _ .tt).before a A.U = true; rw [Cond.before_and, mv hU wc]; rfl, mv hU wc, mv hU wz, hp.2.2.1, hp.2.2.2⟩)
    (fun m meth c A a g mk Y hp => ⟨hp.1, wtrans hZ Y.warmed, hp.2.1, own_IBeq (U := A.U) I Y.warmed⟩) (fun _ _ _ _ _ _ _ _ _ => trivial)
    (fun _ _ _ _ ⟨v, L, h1, h2, h3⟩ => ⟨L, _, _, h3, rfl, rfl, v, h1, h2⟩)
    (fun m meth c A a g mk v t L k n Y hp _ _ ⟨e1, e2, v', e3, e4⟩ => by cases e3; subst e1 e2; exact ⟨L, e4, rfl, rfl, rfl⟩)
end OwnKitW

theorem own_tnc {x : Int32} {k : Nat} (h : x.toInt = (k : Int)) : x.toNatClampNeg = k := by simp only [Int32.toNatClampNeg]; omega
theorem own_oN {k : Nat} (h : k < 2147483648) : (Int32.ofNat k).toInt = (k : Int) := Int32.toInt_ofNat_of_lt h
theorem own_oL {k : Nat} (h : k < 9223372036854775808) : (Int64.ofNat k).toInt = (k : Int) := Int64.toInt_ofNat_of_lt h
theorem own_in {x : Int32} {k : Nat} (h : x.toInt = (k : Int)) (hk : k < 2147483648) : x = Int32.ofNat k := Int32.toInt_inj.mp (h.trans (own_oN hk).symm)
theorem own_inL {x : Int64} {k : Nat} (h : x.toInt = (k : Int)) (hk : k < 9223372036854775808) : x = Int64.ofNat k := Int64.toInt_inj.mp (h.trans (own_oL hk).symm)
def own_p10 (k : Nat) : Int64 := ([1, 10, 100, 1000, 10000, 100000, 1000000, 10000000, 100000000] : List Int64).getD k 0
theorem own_p10i {k : Nat} (h : k ≤ 8) : (own_p10 k).toInt = ((10 ^ k : Nat) : Int) := by
  match k, h with
  | 0, _ => rfl
  | 1, _ => rfl
  | 2, _ => rfl
  | 3, _ => rfl
  | 4, _ => rfl
  | 5, _ => rfl
  | 6, _ => rfl
  | 7, _ => rfl
  | 8, _ => rfl
  | n + 9, h => omega
theorem own_p10g {kk : Int32} {k : Nat} (hk : kk.toInt = (k : Int)) (h : k ≤ 8) : ([(.long (1 : Int64)), (.long (10 : Int64)), (.long (100 : Int64)), (.long (1000 : Int64)), (.long (10000 : Int64)), (.long (100000 : Int64)), (.long (1000000 : Int64)), (.long (10000000 : Int64)), (.long (100000000 : Int64))] : List Value).getD kk.toNatClampNeg (.long (0 : Int64)) = .long (own_p10 k) := by
  rw [own_tnc hk]
  match k, h with
  | 0, _ => rfl
  | 1, _ => rfl
  | 2, _ => rfl
  | 3, _ => rfl
  | 4, _ => rfl
  | 5, _ => rfl
  | 6, _ => rfl
  | 7, _ => rfl
  | 8, _ => rfl
  | n + 9, h => omega
theorem own_p10pos (k : Nat) : 0 < 10 ^ k := Nat.pow_pos (by decide)
theorem own_p10n {k : Nat} (h : k ≤ 8) : own_p10 k ≠ 0 := fun q => by
  have e := own_p10i h
  rw [q] at e
  have := own_p10pos k
  have e0 : (0 : Int64).toInt = 0 := rfl
  omega
theorem own_p10m {k : Nat} (h : k ≤ 8) : own_p10 k ≠ -1 := fun q => by
  have e := own_p10i h
  rw [q] at e
  have e0 : (-1 : Int64).toInt = -1 := rfl
  generalize 10 ^ k = P at e
  omega
theorem own_ge0 {x : Int32} {k : Nat} (h : x.toInt = (k : Int)) : ¬ x < (0 : Int32) := by
  rw [Int32.lt_iff_toInt_lt, h]
  have e0 : (0 : Int32).toInt = 0 := rfl
  omega
theorem own_ltI {x y : Int32} {k n : Nat} (h : x.toInt = (k : Int)) (hy : y.toInt = (n : Int)) (hk : k < n) : x < y := by
  rw [Int32.lt_iff_toInt_lt, h, hy]
  omega
def own_dg (v k : Nat) : Int32 := Int32.ofNat (48 + v / 10 ^ k % 10)
theorem own_dgi (v k : Nat) : (own_dg v k).toInt = 48 + ((v / 10 ^ k % 10 : Nat) : Int) := by
  rw [own_dg, own_oN (by omega)]
  omega
theorem own_divi (v P : Nat) : (v : Int) / (P : Int) = ((v / P : Nat) : Int) := (Int.natCast_ediv v P).symm
theorem own_dgp {vv : Int64} {v k : Nat} (hv : vv.toInt = (v : Int)) (h : k ≤ 8) : nar .char (((48 : Int32) + ((vv / (own_p10 k)) - ((vv / (own_p10 k)) / (10 : Int64)) * (10 : Int64)).toInt32).toUInt32.toUInt16.toUInt32.toInt32) = own_dg v k := by
  have h1 := (c_ldiv vv (own_p10 k) _ (own_p10i h) (own_p10m h)).1 (by omega)
  rw [hv, own_divi] at h1
  apply Int32.toInt_inj.mp
  rw [own_dgi]
  generalize v / 10 ^ k = Q at *
  generalize vv / own_p10 k = q at *
  have h2 := (c_lrem q 10 10 rfl).1 (by omega)
  generalize q - q / 10 * 10 = r at *
  have h3 := c_l2i r
  have r1 := Int32.toInt_lt r.toInt32
  have r2 := Int32.le_toInt r.toInt32
  generalize r.toInt32 = w at *
  have h4 := c_iadd 48 w
  have e48 : (48 : Int32).toInt = 48 := rfl
  have r3 := Int32.toInt_lt (48 + w)
  have r4 := Int32.le_toInt (48 + w)
  generalize (48 : Int32) + w = u at *
  obtain ⟨h5, h6, h7⟩ := c_i2c u
  generalize hU : u.toUInt32.toUInt16.toUInt32.toInt32 = U at *
  obtain ⟨h8, h9, h10⟩ := c_i2c U
  show (U.toUInt32.toUInt16.toUInt32.toInt32).toInt = _
  omega
def own_fd (v d j : Nat) : Int32 := if j < d then own_dg v (d - 1 - j) else 48
def own_L (c : Int32) : Prop := ¬ c < 0 ∧ ¬ (255 : Int32) < c
theorem own_Ldg (v k : Nat) : own_L (own_dg v k) := by
  have h := own_dgi v k
  have e0 : (0 : Int32).toInt = 0 := rfl
  have e1 : (255 : Int32).toInt = 255 := rfl
  constructor <;> rw [Int32.lt_iff_toInt_lt] <;> omega
theorem own_L48 : own_L 48 := by constructor <;> decide
theorem own_L46 : own_L 46 := by constructor <;> decide
theorem own_Lfd (v d j : Nat) : own_L (own_fd v d j) := by
  unfold own_fd
  split
  · exact own_Ldg _ _
  · exact own_L48
theorem own_Lnar {c : Int32} (h : own_L c) : nar .char c = c := by
  obtain ⟨h0, h1⟩ := h
  obtain ⟨q1, q2, q3⟩ := c_i2c c
  have e0 : (0 : Int32).toInt = 0 := rfl
  have e1 : (255 : Int32).toInt = 255 := rfl
  rw [Int32.lt_iff_toInt_lt] at h0 h1
  apply Int32.toInt_inj.mp
  show (c.toUInt32.toUInt16.toUInt32.toInt32).toInt = c.toInt
  omega
theorem own_fdY {v d j : Nat} {jj dd : Int32} (hj : jj.toInt = (j : Int)) (hd : dd.toInt = (d : Int)) (h : jj < dd) : own_fd v d j = own_dg v (d - 1 - j) ∧ d - 1 - j ≤ d := by
  rw [Int32.lt_iff_toInt_lt, hj, hd] at h
  exact ⟨if_pos (by omega), by omega⟩
theorem own_fdN {v d j : Nat} {jj dd : Int32} (hj : jj.toInt = (j : Int)) (hd : dd.toInt = (d : Int)) (h : ¬ jj < dd) : own_fd v d j = 48 := by
  rw [Int32.lt_iff_toInt_lt, hj, hd] at h
  exact if_neg (by omega)
theorem own_fdk {d j : Nat} {jj dd : Int32} (hj : jj.toInt = (j : Int)) (hd : dd.toInt = (d : Int)) (hd6 : d ≤ 6) (h : jj < dd) : ((dd - (1 : Int32)) - jj).toInt = ((d - 1 - j : Nat) : Int) := by
  rw [Int32.lt_iff_toInt_lt, hj, hd] at h
  have h1 := c_isub dd 1
  have e1 : (1 : Int32).toInt = 1 := rfl
  have r1 := Int32.toInt_lt (dd - 1)
  have r2 := Int32.le_toInt (dd - 1)
  have h2 := c_isub (dd - 1) jj
  have r3 := Int32.toInt_lt (dd - 1 - jj)
  have r4 := Int32.le_toInt (dd - 1 - jj)
  omega
def own_tn (d : Nat) : Nat := if d = 0 then 9 else 10 + d
theorem own_tnS {d : Nat} (h : d ≤ 6) : own_tn d = 9 ∨ own_tn d = 11 ∨ own_tn d = 12 ∨ own_tn d = 13 ∨ own_tn d = 14 ∨ own_tn d = 15 ∨ own_tn d = 16 := by
  unfold own_tn
  split <;> omega
theorem own_tn0 {d : Nat} {dd : Int32} (hd : dd.toInt = (d : Int)) (h : dd = (0 : Int32)) : (9 : Int32) = Int32.ofNat (own_tn d) := by
  have e0 : (0 : Int32).toInt = 0 := rfl
  rw [h, e0] at hd
  have : d = 0 := by omega
  subst this
  rfl
theorem own_tn1 {d : Nat} {dd : Int32} (hd : dd.toInt = (d : Int)) (h6 : d ≤ 6) (h : ¬ dd = (0 : Int32)) : ((10 : Int32) + dd) = Int32.ofNat (own_tn d) := by
  have h0 : d ≠ 0 := fun q => h (Int32.toInt_inj.mp (by rw [hd, q]; rfl))
  have h1 := c_iadd 10 dd
  have e1 : (10 : Int32).toInt = 10 := rfl
  have r1 := Int32.toInt_lt (10 + dd)
  have r2 := Int32.le_toInt (10 + dd)
  refine own_in ?_ (by unfold own_tn; split <;> omega)
  unfold own_tn
  split <;> omega
def own_bv (cs : List Int32) : List Value := (cs.map (fun c => c.toInt8.toInt32)).map Value.int
def own_tl (v f d : Nat) : List Int32 := [own_dg v 8, own_dg v 7, own_dg v 6, own_dg v 5, own_dg v 4, own_dg v 3, own_dg v 2, own_dg v 1, own_dg v 0, 46, own_fd f d 0, own_fd f d 1, own_fd f d 2, own_fd f d 3, own_fd f d 4, own_fd f d 5]
def own_tx (v f d : Nat) : List Int32 := (own_tl v f d).take (own_tn d)
theorem own_up {cs : List Int32} (h : ∀ c ∈ cs, own_L c) : ∀ c ∈ cs, ¬ c < 0 ∧ ¬ (65535 : Int32) < c := fun c hc => ⟨(h c hc).1, fun q => (h c hc).2 (by
  have e5 : (255 : Int32).toInt = 255 := rfl
  have e6 : (65535 : Int32).toInt = 65535 := rfl
  simp only [Int32.lt_iff_toInt_lt, e5, e6] at q ⊢
  omega)⟩
theorem own_gv {bs : List Int32} {q : Nat} (h : q < 2147483648) : (bs.map Value.int).getD (Int32.ofNat q).toNatClampNeg (.int (0 : Int32)) = .int (bs.getD q 0) := by
  rw [own_tnc (own_oN h)]
  simp only [List.getD_eq_getElem?_getD, List.getElem?_map]
  cases bs[q]? <;> rfl
theorem own_suc (q : Nat) : (Int32.ofNat q) + (1 : Int32) = Int32.ofNat (q + 1) := (Int32.ofNat_add q 1).symm
theorem own_ltN {a b : Nat} (ha : a < 2147483648) (hb : b < 2147483648) (h : Int32.ofNat a < Int32.ofNat b) : a < b := by
  rw [Int32.lt_iff_toInt_lt, own_oN ha, own_oN hb] at h
  omega
theorem own_geN {a b : Nat} (ha : a < 2147483648) (hb : b < 2147483648) (h : ¬ Int32.ofNat a < Int32.ofNat b) : b ≤ a := by
  rw [Int32.lt_iff_toInt_lt, own_oN ha, own_oN hb] at h
  omega
theorem own_Nlt {a b : Nat} (ha : a < 2147483648) (hb : b < 2147483648) (h : a < b) : Int32.ofNat a < Int32.ofNat b := by
  rw [Int32.lt_iff_toInt_lt, own_oN ha, own_oN hb]
  omega
theorem own_Nge {a b : Nat} (ha : a < 2147483648) (hb : b < 2147483648) (h : b ≤ a) : ¬ Int32.ofNat a < Int32.ofNat b := by
  rw [Int32.lt_iff_toInt_lt, own_oN ha, own_oN hb]
  omega
theorem own_n0N {a : Nat} (ha : a < 2147483648) : ¬ Int32.ofNat a < (0 : Int32) := own_Nge ha (b := 0) (by decide) (Nat.zero_le _)
def own_ix (bs : List Int32) (r : Int32) : Prop := (r = (-1 : Int32) ∧ ∀ k, k < bs.length → bs.getD k 0 ≠ 46) ∨ (∃ q : Nat, r = Int32.ofNat q ∧ q < bs.length ∧ bs.getD q 0 = 46 ∧ ∀ k, k < q → bs.getD k 0 ≠ 46)
theorem own_ext {P : Nat → Prop} {q : Nat} (h : ∀ k, k < q → P k) (hq : P q) : ∀ k, k < q + 1 → P k := fun k hk => by
  by_cases e : k = q
  · subst e; exact hq
  · exact h k (by omega)
theorem own_lo8 {c : Int32} (h0 : 0 ≤ c.toInt) (h1 : c.toInt < 128) : c.toInt8.toInt32 = c := by
  obtain ⟨q1, q2, q3⟩ := c_i2b c
  apply Int32.toInt_inj.mp
  omega
def own_ri (d : Nat) : Int32 := if d = 0 then (-1 : Int32) else (9 : Int32)
theorem own_txl {v f d : Nat} (h : d ≤ 6) : (own_tx v f d).length = own_tn d := by
  rw [own_tx, List.length_take]
  rcases own_tnS h with h | h | h | h | h | h | h <;> rw [h] <;> rfl
theorem own_tlL (v f d : Nat) : ∀ c ∈ own_tl v f d, own_L c := List.forall_mem_cons.mpr ⟨own_Ldg _ _, List.forall_mem_cons.mpr ⟨own_Ldg _ _, List.forall_mem_cons.mpr ⟨own_Ldg _ _, List.forall_mem_cons.mpr ⟨own_Ldg _ _, List.forall_mem_cons.mpr ⟨own_Ldg _ _, List.forall_mem_cons.mpr ⟨own_Ldg _ _, List.forall_mem_cons.mpr ⟨own_Ldg _ _, List.forall_mem_cons.mpr ⟨own_Ldg _ _, List.forall_mem_cons.mpr ⟨own_Ldg _ _, List.forall_mem_cons.mpr ⟨own_L46, List.forall_mem_cons.mpr ⟨own_Lfd _ _ _, List.forall_mem_cons.mpr ⟨own_Lfd _ _ _, List.forall_mem_cons.mpr ⟨own_Lfd _ _ _, List.forall_mem_cons.mpr ⟨own_Lfd _ _ _, List.forall_mem_cons.mpr ⟨own_Lfd _ _ _, List.forall_mem_cons.mpr ⟨own_Lfd _ _ _, List.forall_mem_nil _⟩⟩⟩⟩⟩⟩⟩⟩⟩⟩⟩⟩⟩⟩⟩⟩
theorem own_txL (v f d : Nat) : ∀ c ∈ own_tx v f d, own_L c := fun c hc => own_tlL v f d c (List.mem_of_mem_take hc)
def own_isD (cs : List Int32) (i j : Nat) : Prop := ∀ k, i ≤ k → k < j → ¬ cs.getD k 0 < (48 : Int32) ∧ ¬ (57 : Int32) < cs.getD k 0
theorem own_dD (v k : Nat) : ¬ own_dg v k < (48 : Int32) ∧ ¬ (57 : Int32) < own_dg v k := by
  have h := own_dgi v k
  have e0 : (48 : Int32).toInt = 48 := rfl
  have e1 : (57 : Int32).toInt = 57 := rfl
  constructor <;> rw [Int32.lt_iff_toInt_lt] <;> omega
theorem own_fD (v d j : Nat) : ¬ own_fd v d j < (48 : Int32) ∧ ¬ (57 : Int32) < own_fd v d j := by
  unfold own_fd
  split
  · exact own_dD _ _
  · decide
theorem own_tg {v f d k : Nat} (h : k < own_tn d) : (own_tx v f d).getD k 0 = (own_tl v f d).getD k 0 := by
  simp only [own_tx, List.getD_eq_getElem?_getD, List.getElem?_take, if_pos h]
theorem own_tD1 {v f d : Nat} : own_isD (own_tx v f d) 0 9 := fun k _ h => by
  have h2 : k < own_tn d := by unfold own_tn; split <;> omega
  rw [own_tg h2]
  match k, h with
  | 0, _ => exact own_dD _ _
  | 1, _ => exact own_dD _ _
  | 2, _ => exact own_dD _ _
  | 3, _ => exact own_dD _ _
  | 4, _ => exact own_dD _ _
  | 5, _ => exact own_dD _ _
  | 6, _ => exact own_dD _ _
  | 7, _ => exact own_dD _ _
  | 8, _ => exact own_dD _ _
  | n + 9, h => omega
theorem own_tD2 {v f d : Nat} (h0 : ¬ d = 0) (h6 : d ≤ 6) : own_isD (own_tx v f d) 10 (10 + d) := fun k h1 h => by
  have e : own_tn d = 10 + d := if_neg h0
  rw [own_tg (by omega)]
  have hk : k < 16 := by omega
  match k, h1, hk with
  | 10, _, _ => exact own_fD _ _ _
  | 11, _, _ => exact own_fD _ _ _
  | 12, _, _ => exact own_fD _ _ _
  | 13, _, _ => exact own_fD _ _ _
  | 14, _, _ => exact own_fD _ _ _
  | 15, _, _ => exact own_fD _ _ _
  | n + 16, _, h => omega
theorem own_b46 {c : Int32} (h : ¬ c < (48 : Int32) ∧ ¬ (57 : Int32) < c) : c.toInt8.toInt32 ≠ 46 := by
  obtain ⟨h1, h2⟩ := h
  have e0 : (48 : Int32).toInt = 48 := rfl
  have e1 : (57 : Int32).toInt = 57 := rfl
  rw [Int32.lt_iff_toInt_lt] at h1 h2
  rw [own_lo8 (by omega) (by omega)]
  intro q
  rw [q] at h1
  exact h1 (by decide)
theorem own_mg (cs : List Int32) (k : Nat) : (cs.map (fun c => c.toInt8.toInt32)).getD k 0 = (cs.getD k 0).toInt8.toInt32 := by
  simp only [List.getD_eq_getElem?_getD, List.getElem?_map]
  cases cs[k]? <;> rfl
theorem own_ixT {v f d : Nat} {r : Int32} (h6 : d ≤ 6) (h : own_ix ((own_tx v f d).map (fun c => c.toInt8.toInt32)) r) : r = own_ri d := by
  have hl : ((own_tx v f d).map (fun c => c.toInt8.toInt32)).length = own_tn d := by rw [List.length_map, own_txl h6]
  by_cases h0 : d = 0
  · have e : own_tn d = 9 := if_pos h0
    rcases h with ⟨h, -⟩ | ⟨q, h1, h2, h3, -⟩
    · rw [h, own_ri, if_pos h0]
    · rw [own_mg] at h3
      exact absurd h3 (own_b46 (own_tD1 q (Nat.zero_le _) (by omega)))
  · have e : own_tn d = 10 + d := if_neg h0
    have e9 : ((own_tx v f d).map (fun c => c.toInt8.toInt32)).getD 9 0 = 46 := by
      rw [own_mg, own_tg (by omega)]
      rfl
    rw [own_ri, if_neg h0]
    rcases h with ⟨-, h⟩ | ⟨q, h1, h2, h3, h4⟩
    · exact absurd e9 (h 9 (by omega))
    · rcases Nat.lt_trichotomy q 9 with hq | hq | hq
      · rw [own_mg] at h3
        exact absurd h3 (own_b46 (own_tD1 q (Nat.zero_le _) hq))
      · rw [h1, hq]; rfl
      · exact absurd e9 (h4 9 hq)
def own_dv (cs : List Int32) (k : Nat) : Nat := ((cs.getD k 0).toInt - 48).toNat
def own_hv (cs : List Int32) (i : Nat) : Nat → Nat
  | 0 => 0
  | t + 1 => own_hv cs i t * 10 + own_dv cs (i + t)
theorem own_hvS {cs : List Int32} {i t M : Nat} (hM : M ≤ 1000000000) (h0 : own_hv cs i t ≤ M) (hD : ¬ cs.getD (i + t) 0 < (48 : Int32) ∧ ¬ (57 : Int32) < cs.getD (i + t) 0) : ((Int64.ofNat (own_hv cs i t)) * (10 : Int64)) + ((cs.getD (i + t) 0) - (48 : Int32)).toInt64 = Int64.ofNat (own_hv cs i (t + 1)) := by
  obtain ⟨h1, h2⟩ := hD
  have e0 : (48 : Int32).toInt = 48 := rfl
  have e1 : (57 : Int32).toInt = 57 := rfl
  rw [Int32.lt_iff_toInt_lt] at h1 h2
  have q0 := own_oL (k := own_hv cs i t) (by omega)
  have q1 := c_lmul (Int64.ofNat (own_hv cs i t)) 10
  have e10 : (10 : Int64).toInt = 10 := rfl
  have r1 := Int64.toInt_lt (Int64.ofNat (own_hv cs i t) * 10)
  have r2 := Int64.le_toInt (Int64.ofNat (own_hv cs i t) * 10)
  have q2 := c_isub (cs.getD (i + t) 0) 48
  have r3 := Int32.toInt_lt (cs.getD (i + t) 0 - 48)
  have r4 := Int32.le_toInt (cs.getD (i + t) 0 - 48)
  have q3 := c_i2l (cs.getD (i + t) 0 - 48)
  have q4 := c_ladd (Int64.ofNat (own_hv cs i t) * 10) (cs.getD (i + t) 0 - 48).toInt64
  have r5 := Int64.toInt_lt (Int64.ofNat (own_hv cs i t) * 10 + (cs.getD (i + t) 0 - 48).toInt64)
  have r6 := Int64.le_toInt (Int64.ofNat (own_hv cs i t) * 10 + (cs.getD (i + t) 0 - 48).toInt64)
  have q5 : own_hv cs i (t + 1) = own_hv cs i t * 10 + ((cs.getD (i + t) 0).toInt - 48).toNat := rfl
  refine own_inL ?_ (by omega)
  rw [q0, e10] at q1
  omega
theorem own_lgN {M u : Nat} (hM : M ≤ 1000000000) (h : u ≤ M) : ¬ Int64.ofNat M < Int64.ofNat u := by
  rw [Int64.lt_iff_toInt_lt, own_oL (by omega), own_oL (by omega)]
  omega
theorem own_tx4 {v f d : Nat} (h : d ≤ 6) : (own_tx v f d).length ≤ 4000 := by
  rw [own_txl h]
  rcases own_tnS h with h | h | h | h | h | h | h <;> rw [h] <;> decide
theorem own_tx1 {v f d : Nat} (h : d ≤ 6) : 0 < (own_tx v f d).length := by
  rw [own_txl h]
  rcases own_tnS h with h | h | h | h | h | h | h <;> rw [h] <;> decide
theorem own_lenA {v f d : Nat} (h6 : d ≤ 6) (h : d = 0) : Int32.ofNat (own_tx v f d).length = (9 : Int32) := by rw [own_txl h6, own_tn, if_pos h]; rfl
theorem own_lenB {v f d : Nat} (h6 : d ≤ 6) (h : ¬ d = 0) : Int32.ofNat (own_tx v f d).length = Int32.ofNat (10 + d) := by rw [own_txl h6, own_tn, if_neg h]
theorem own_tx9 {v f d : Nat} (h6 : d ≤ 6) : 9 ≤ (own_tx v f d).length := by rw [own_txl h6, own_tn]; split <;> omega
theorem own_txB {v f d : Nat} (h6 : d ≤ 6) (h : ¬ d = 0) : 10 + d ≤ (own_tx v f d).length := by rw [own_txl h6, own_tn, if_neg h]; exact Nat.le_refl _
theorem own_subB {d : Nat} (h6 : d ≤ 6) : ((Int32.ofNat (10 + d)) - (9 : Int32)) - (1 : Int32) = Int32.ofNat d := by
  have h0 := own_oN (k := 10 + d) (by omega)
  have h1 := c_isub (Int32.ofNat (10 + d)) 9
  have e1 : (9 : Int32).toInt = 9 := rfl
  have e2 : (1 : Int32).toInt = 1 := rfl
  have r1 := Int32.toInt_lt (Int32.ofNat (10 + d) - 9)
  have r2 := Int32.le_toInt (Int32.ofNat (10 + d) - 9)
  have h2 := c_isub (Int32.ofNat (10 + d) - 9) 1
  have r3 := Int32.toInt_lt (Int32.ofNat (10 + d) - 9 - 1)
  have r4 := Int32.le_toInt (Int32.ofNat (10 + d) - 9 - 1)
  exact own_in (by omega) (by omega)
theorem own_hvM {cs : List Int32} {i t n : Nat} (h : t ≤ n) : own_hv cs i t ≤ own_hv cs i n := by
  induction n with
  | zero => rw [Nat.le_zero.mp h]; exact Nat.le_refl _
  | succ n ih =>
    by_cases e : t = n + 1
    · rw [e]; exact Nat.le_refl _
    · have := ih (by omega)
      show _ ≤ own_hv cs i n * 10 + own_dv cs (i + n)
      omega
theorem own_dvd {cs : List Int32} {k v j : Nat} (h : cs.getD k 0 = own_dg v j) : own_dv cs k = v / 10 ^ j % 10 := by
  rw [own_dv, h, own_dgi]
  omega
theorem own_hvA {v f d : Nat} (hv : v ≤ 999999999) : own_hv (own_tx v f d) 0 9 = v := by
  have hn : 9 ≤ own_tn d := by unfold own_tn; split <;> omega
  have e : ∀ k, k < 9 → own_dv (own_tx v f d) k = v / 10 ^ (8 - k) % 10 := fun k hk => own_dvd (by
    rw [own_tg (by omega)]
    match k, hk with
    | 0, _ => rfl
    | 1, _ => rfl
    | 2, _ => rfl
    | 3, _ => rfl
    | 4, _ => rfl
    | 5, _ => rfl
    | 6, _ => rfl
    | 7, _ => rfl
    | 8, _ => rfl
    | n + 9, h => omega)
  simp only [own_hv, Nat.zero_add, e 0 (by decide), e 1 (by decide), e 2 (by decide), e 3 (by decide), e 4 (by decide), e 5 (by decide), e 6 (by decide), e 7 (by decide), e 8 (by decide)]
  simp only [Nat.reduceSub, Nat.reducePow]
  omega
theorem own_hvB {v f d : Nat} (h6 : d ≤ 6) (h0 : ¬ d = 0) (hf : f < 10 ^ d) : own_hv (own_tx v f d) 10 (10 + d - 10) = f := by
  have hn : own_tn d = 10 + d := if_neg h0
  have e : ∀ k, k < d → own_dv (own_tx v f d) (10 + k) = f / 10 ^ (d - 1 - k) % 10 := fun k hk => own_dvd (by
    rw [own_tg (by omega)]
    have hk6 : k < 6 := by omega
    have q : (own_tl v f d).getD (10 + k) 0 = own_fd f d k := by
      match k, hk6 with
      | 0, _ => rfl
      | 1, _ => rfl
      | 2, _ => rfl
      | 3, _ => rfl
      | 4, _ => rfl
      | 5, _ => rfl
      | n + 6, h => omega
    rw [q, own_fd, if_pos hk])
  rw [Nat.add_sub_cancel_left]
  match d, h6, h0, e, hf with
  | 0, _, h, _, _ => exact absurd rfl h
  | 1, _, _, e, hf =>
    simp only [own_hv, e 0 (by decide)]
    simp only [Nat.reduceSub, Nat.reducePow] at hf ⊢
    omega
  | 2, _, _, e, hf =>
    simp only [own_hv, e 0 (by decide), e 1 (by decide)]
    simp only [Nat.reduceSub, Nat.reducePow] at hf ⊢
    omega
  | 3, _, _, e, hf =>
    simp only [own_hv, e 0 (by decide), e 1 (by decide), e 2 (by decide)]
    simp only [Nat.reduceSub, Nat.reducePow] at hf ⊢
    omega
  | 4, _, _, e, hf =>
    simp only [own_hv, e 0 (by decide), e 1 (by decide), e 2 (by decide), e 3 (by decide)]
    simp only [Nat.reduceSub, Nat.reducePow] at hf ⊢
    omega
  | 5, _, _, e, hf =>
    simp only [own_hv, e 0 (by decide), e 1 (by decide), e 2 (by decide), e 3 (by decide), e 4 (by decide)]
    simp only [Nat.reduceSub, Nat.reducePow] at hf ⊢
    omega
  | 6, _, _, e, hf =>
    simp only [own_hv, e 0 (by decide), e 1 (by decide), e 2 (by decide), e 3 (by decide), e 4 (by decide), e 5 (by decide)]
    simp only [Nat.reduceSub, Nat.reducePow] at hf ⊢
    omega
  | n + 7, h, _, _, _ => omega
theorem own_f6 {f d : Nat} (h6 : d ≤ 6) (hf : f < 10 ^ d) : f < 1000000 := Nat.lt_of_lt_of_le hf (Nat.pow_le_pow_right (by decide) h6)
theorem own_fq {f d q : Nat} (hdq : d ≤ q) (hq : q ≤ 6) (hf : f < 10 ^ d) : f * 10 ^ (q - d) < 1000000 := by
  have h1 : f * 10 ^ (q - d) < 10 ^ d * 10 ^ (q - d) := Nat.mul_lt_mul_of_pos_right hf (own_p10pos _)
  rw [← Nat.pow_add, Nat.add_sub_cancel' hdq] at h1
  exact Nat.lt_of_lt_of_le h1 (Nat.pow_le_pow_right (by decide) hq)
theorem own_mulL {u : Nat} (h : u < 1000000) : (Int64.ofNat u) * (10 : Int64) = Int64.ofNat (u * 10) := by
  have q0 := own_oL (k := u) (by omega)
  have q1 := c_lmul (Int64.ofNat u) 10
  have e10 : (10 : Int64).toInt = 10 := rfl
  have r1 := Int64.toInt_lt (Int64.ofNat u * 10)
  have r2 := Int64.le_toInt (Int64.ofNat u * 10)
  rw [q0, e10] at q1
  exact own_inL (by omega) (by omega)
theorem own_mulT {f d q : Nat} (hdq : d ≤ q) (hq : q + 1 ≤ 6) (hf : f < 10 ^ d) : (Int64.ofNat (f * 10 ^ (q - d))) * (10 : Int64) = Int64.ofNat (f * 10 ^ (q + 1 - d)) := by
  rw [own_mulL (own_fq hdq (by omega) hf), Nat.mul_assoc, ← Nat.pow_succ, Nat.succ_eq_add_one, show q - d + 1 = q + 1 - d from by omega]
def own_mi (v f d : Nat) : Nat := v * 1000000 + f * 10 ^ (6 - d)
theorem own_miE' {v u : Nat} (hv : v ≤ 999999999) (b : u < 1000000) : ((Int64.ofNat v) * (1000000 : Int64)) + (Int64.ofNat u) = Int64.ofNat (v * 1000000 + u) := by
  have q0 := own_oL (k := v) (by omega)
  have q9 := own_oL (k := u) (by omega)
  have q1 := c_lmul (Int64.ofNat v) 1000000
  have e10 : (1000000 : Int64).toInt = 1000000 := by decide
  rw [q0, e10] at q1
  have r1 := Int64.toInt_lt (Int64.ofNat v * 1000000)
  have r2 := Int64.le_toInt (Int64.ofNat v * 1000000)
  generalize Int64.ofNat v * 1000000 = P at *
  have q2 := c_ladd P (Int64.ofNat u)
  have r3 := Int64.toInt_lt (P + Int64.ofNat u)
  have r4 := Int64.le_toInt (P + Int64.ofNat u)
  rw [q9] at q2
  generalize P + Int64.ofNat u = S at *
  refine own_inL ?_ (by omega)
  omega
theorem own_miE {v f d : Nat} (hv : v ≤ 999999999) (h6 : d ≤ 6) (hf : f < 10 ^ d) : ((Int64.ofNat v) * (1000000 : Int64)) + (Int64.ofNat (f * 10 ^ (6 - d))) = Int64.ofNat (own_mi v f d) :=
  own_miE' hv (own_fq h6 (Nat.le_refl 6) hf)
theorem own_miB {v f d : Nat} (hv : v ≤ 999999999) (h6 : d ≤ 6) (hf : f < 10 ^ d) : own_mi v f d < 1000000000000000 := by
  have b := own_fq h6 (Nat.le_refl 6) hf
  unfold own_mi
  omega
theorem own_miZ {v f d : Nat} (hv : v ≤ 999999999) (h6 : d ≤ 6) (hf : f < 10 ^ d) (hz : ¬ (v = 0 ∧ f = 0)) : ¬ (Int64.ofNat (own_mi v f d)) = (0 : Int64) := fun q => by
  have b := own_miB hv h6 hf
  have e := congrArg Int64.toInt q
  rw [own_oL (by omega)] at e
  have e0 : (0 : Int64).toInt = 0 := rfl
  rw [e0] at e
  have m0 : own_mi v f d = 0 := by omega
  unfold own_mi at m0
  have p := own_p10pos (6 - d)
  have f0 : f * 10 ^ (6 - d) = 0 := by omega
  rcases Nat.mul_eq_zero.mp f0 with h | h
  · exact hz ⟨by omega, h⟩
  · omega
theorem own_zA {f d : Nat} (h : d = 0) (hf : f < 10 ^ d) : (0 : Int64) = Int64.ofNat (f * 10 ^ (0 - d)) := by
  subst h
  have : f = 0 := by simpa using hf
  subst this
  rfl
theorem own_zB {f d : Nat} : Int64.ofNat f = Int64.ofNat (f * 10 ^ (d - d)) := by rw [Nat.sub_self, Nat.pow_zero, Nat.mul_one]
def own_dl (v : Nat) : List Int32 := if h : v < 10 then [Int32.ofNat (48 + v)] else own_dl (v / 10) ++ [Int32.ofNat (48 + v % 10)]
termination_by v
decreasing_by omega
theorem own_dl1 {v : Nat} (h : v < 10) : own_dl v = [Int32.ofNat (48 + v)] := by rw [own_dl, dif_pos h]
theorem own_dl2 {v : Nat} (h : ¬ v < 10) : own_dl v = own_dl (v / 10) ++ [Int32.ofNat (48 + v % 10)] := by rw [own_dl, dif_neg h]
theorem own_dln {v k : Nat} (h0 : k = 0 ∨ 10 ^ k ≤ v) (h1 : v < 10 ^ (k + 1)) : (own_dl v).length = k + 1 := by
  induction k generalizing v with
  | zero => rw [own_dl1 (by simpa using h1)]; rfl
  | succ k ih =>
    have h2 : 10 ^ (k + 1) ≤ v := by rcases h0 with h | h; exact absurd h (Nat.succ_ne_zero k); exact h
    have p := own_p10pos k
    have e1 : 10 ^ (k + 1) = 10 ^ k * 10 := Nat.pow_succ ..
    have e2 : 10 ^ (k + 1 + 1) = 10 ^ (k + 1) * 10 := Nat.pow_succ ..
    rw [own_dl2 (by omega), List.length_append, ih (Or.inr (by omega)) (by omega)]
    rfl
theorem own_dlpos (v : Nat) : 0 < (own_dl v).length := by
  by_cases h : v < 10
  · rw [own_dl1 h]; exact Nat.succ_pos _
  · rw [own_dl2 h, List.length_append]; exact Nat.succ_pos _
theorem own_dl9 {v : Nat} (h : v ≤ 999999999) : (own_dl v).length ≤ 9 := by
  by_cases h1 : v < 10
  · rw [own_dln (k := 0) (Or.inl rfl) (by simpa using h1)]; decide
  by_cases h2 : v < 100
  · rw [own_dln (k := 1) (Or.inr (by simp; omega)) (by simp; omega)]; decide
  by_cases h3 : v < 1000
  · rw [own_dln (k := 2) (Or.inr (by simp; omega)) (by simp; omega)]; decide
  by_cases h4 : v < 10000
  · rw [own_dln (k := 3) (Or.inr (by simp; omega)) (by simp; omega)]; decide
  by_cases h5 : v < 100000
  · rw [own_dln (k := 4) (Or.inr (by simp; omega)) (by simp; omega)]; decide
  by_cases h6 : v < 1000000
  · rw [own_dln (k := 5) (Or.inr (by simp; omega)) (by simp; omega)]; decide
  by_cases h7 : v < 10000000
  · rw [own_dln (k := 6) (Or.inr (by simp; omega)) (by simp; omega)]; decide
  by_cases h8 : v < 100000000
  · rw [own_dln (k := 7) (Or.inr (by simp; omega)) (by simp; omega)]; decide
  · rw [own_dln (k := 8) (Or.inr (by simp; omega)) (by simp; omega)]; decide
theorem own_negL {v : Nat} (h : v ≤ 999999999) : (-(Int64.ofNat v)).toInt = -(v : Int) := by
  have q := own_oL (k := v) (by omega)
  have q1 := c_lneg (Int64.ofNat v)
  have r1 := Int64.toInt_lt (-(Int64.ofNat v))
  have r2 := Int64.le_toInt (-(Int64.ofNat v))
  rw [q] at q1
  omega
/-- one road of stringSize -/
theorem own_ssz {v k : Nat} {a b : Int64} {r : Int32} (hv : v ≤ 999999999) (ha : a.toInt = -((10 ^ k : Nat) : Int)) (hb : b.toInt = -((10 ^ (k + 1) : Nat) : Int)) (h0 : k = 0 ∨ ¬ a < -(Int64.ofNat v)) (h1 : b < -(Int64.ofNat v)) (hr : r = Int32.ofNat (k + 1)) : r = Int32.ofNat (own_dl v).length := by
  have q := own_negL hv
  rw [Int64.lt_iff_toInt_lt, hb, q] at h1
  rw [hr, own_dln (k := k) ?_ (by generalize 10 ^ (k + 1) = P at *; omega)]
  rcases h0 with h | h
  · exact Or.inl h
  · rw [Int64.lt_iff_toInt_lt, ha, q] at h
    exact Or.inr (by generalize 10 ^ k = P at *; omega)
theorem own_ss9 {v : Nat} (hv : v ≤ 999999999) : (-1000000000 : Int64) < -(Int64.ofNat v) := by
  have e : (-1000000000 : Int64).toInt = -1000000000 := by decide
  rw [Int64.lt_iff_toInt_lt, e, own_negL hv]
  omega
theorem own_nn {v : Nat} (hv : v ≤ 999999999) : ¬ (Int64.ofNat v) < (0 : Int64) := by
  have e : (0 : Int64).toInt = 0 := rfl
  rw [Int64.lt_iff_toInt_lt, e, own_oL (by omega)]
  omega
theorem own_negI {w : Nat} (h : w ≤ 999999999) : (-(Int32.ofNat w)).toInt = -(w : Int) := by
  have q := own_oN (k := w) (by omega)
  have q1 := c_ineg (Int32.ofNat w)
  have r1 := Int32.toInt_lt (-(Int32.ofNat w))
  have r2 := Int32.le_toInt (-(Int32.ofNat w))
  rw [q] at q1
  omega
theorem own_i2n {v : Nat} (h : v ≤ 999999999) : (-(Int64.ofNat v)).toInt32 = -(Int32.ofNat v) := by
  apply Int32.toInt_inj.mp
  have q := own_negL h
  have q1 := c_l2i (-(Int64.ofNat v))
  have q2 := own_negI h
  have r1 := Int32.toInt_lt (-(Int64.ofNat v)).toInt32
  have r2 := Int32.le_toInt (-(Int64.ofNat v)).toInt32
  omega
theorem own_q100 {w : Nat} (h : w ≤ 999999999) : (-(Int32.ofNat w)) / (100 : Int32) = -(Int32.ofNat (w / 100)) := by
  apply Int32.toInt_inj.mp
  have q := own_negI h
  rw [own_negI (show w / 100 ≤ 999999999 by omega)]
  obtain ⟨a, b⟩ := c_idiv (-(Int32.ofNat w)) 100 100 rfl (by decide)
  by_cases e : w = 0
  · rw [a (by omega)]; omega
  · rw [b (by omega)]; omega
theorem own_r100 {w : Nat} (h : w ≤ 999999999) : ((-(Int32.ofNat (w / 100))) * (100 : Int32)) - (-(Int32.ofNat w)) = Int32.ofNat (w % 100) := by
  have q := own_negI h
  have q2 := own_negI (show w / 100 ≤ 999999999 by omega)
  have q3 := c_imul (-(Int32.ofNat (w / 100))) 100
  have e : (100 : Int32).toInt = 100 := rfl
  rw [q2, e] at q3
  have r1 := Int32.toInt_lt (-(Int32.ofNat (w / 100)) * 100)
  have r2 := Int32.le_toInt (-(Int32.ofNat (w / 100)) * 100)
  generalize -(Int32.ofNat (w / 100)) * 100 = P at *
  have q4 := c_isub P (-(Int32.ofNat w))
  have r3 := Int32.toInt_lt (P - -(Int32.ofNat w))
  have r4 := Int32.le_toInt (P - -(Int32.ofNat w))
  rw [q] at q4
  exact own_in (by omega) (by omega)
theorem own_nneg {w : Nat} (h : w ≤ 999999999) : -(-(Int32.ofNat w)) = Int32.ofNat w := by
  have q := own_negI h
  have q1 := c_ineg (-(Int32.ofNat w))
  have r1 := Int32.toInt_lt (-(-(Int32.ofNat w)))
  have r2 := Int32.le_toInt (-(-(Int32.ofNat w)))
  rw [q] at q1
  exact own_in (by omega) (by omega)
theorem own_lt100 {w : Nat} (h : w ≤ 999999999) : (-100 : Int32) < -(Int32.ofNat w) ↔ w < 100 := by
  have e : (-100 : Int32).toInt = -100 := rfl
  rw [Int32.lt_iff_toInt_lt, e, own_negI h]
  omega
theorem own_lt9 {w : Nat} (h : w ≤ 999999999) : -(Int32.ofNat w) < (-9 : Int32) ↔ ¬ w < 10 := by
  have e : (-9 : Int32).toInt = -9 := rfl
  rw [Int32.lt_iff_toInt_lt, e, own_negI h]
  omega
theorem own_ltmin {v : Nat} (h : v ≤ 999999999) : (-2147483648 : Int64) < -(Int64.ofNat v) := by
  have e : (-2147483648 : Int64).toInt = -2147483648 := by decide
  rw [Int64.lt_iff_toInt_lt, e, own_negL h]
  omega
theorem own_decN {p q : Nat} (h : p = q + 1) (hp : p < 2147483648) : (Int32.ofNat p) + (-1 : Int32) = Int32.ofNat q := by
  have e : (-1 : Int32).toInt = -1 := rfl
  have q0 := own_oN hp
  have q1 := c_iadd (Int32.ofNat p) (-1)
  have r1 := Int32.toInt_lt (Int32.ofNat p + -1)
  have r2 := Int32.le_toInt (Int32.ofNat p + -1)
  exact own_in (by omega) (by omega)
theorem own_dlT {w : Nat} (h : ¬ w < 10) : (own_dl w).length = (own_dl (w / 10)).length + 1 := by rw [own_dl2 h, List.length_append]; rfl
theorem own_dlH {w : Nat} (h : ¬ w < 100) : (own_dl (w / 10)).length = (own_dl (w / 100)).length + 1 := by rw [own_dlT (by omega), Nat.div_div_eq_div_mul]
theorem own_dl100 {w : Nat} (h : ¬ w < 100) : own_dl w = own_dl (w / 100) ++ [Int32.ofNat (48 + w % 100 / 10), Int32.ofNat (48 + w % 100 % 10)] := by
  rw [own_dl2 (show ¬ w < 10 by omega), own_dl2 (show ¬ w / 10 < 10 by omega), Nat.div_div_eq_div_mul, List.append_assoc, show w / 10 % 10 = w % 100 / 10 by omega, show w % 10 = w % 100 % 10 by omega]
  rfl
theorem own_dlB {w : Nat} (h : ¬ w < 10) (h2 : w < 100) : own_dl w = [Int32.ofNat (48 + w / 10), Int32.ofNat (48 + w % 10)] := by
  rw [own_dl2 h, own_dl1 (by omega)]
  rfl
def own_seg (vs : List Value) (p : Nat) (tl : List Int32) : List Value := vs.take p ++ (tl.map Value.int ++ vs.drop (p + tl.length))
theorem own_seg0 (vs : List Value) (p : Nat) : own_seg vs p [] = vs := by simp [own_seg]
theorem own_segl {vs : List Value} {p : Nat} {tl : List Int32} (h : p + tl.length ≤ vs.length) : (own_seg vs p tl).length = vs.length := by
  simp only [own_seg, List.length_append, List.length_take, List.length_map, List.length_drop]
  omega
theorem own_segS {vs : List Value} {p q : Nat} {tl : List Int32} {x : Int32} (e : p = q + 1) (h : p + tl.length ≤ vs.length) : (own_seg vs p tl).set q (.int x) = own_seg vs q (x :: tl) := by
  subst e
  unfold own_seg
  have hq : q < vs.length := by omega
  rw [List.take_add_one, List.getElem?_eq_getElem hq]
  simp only [Option.toList, List.append_assoc]
  rw [List.set_append_right _ _ (by rw [List.length_take]; omega), List.length_take, Nat.min_eq_left (by omega), Nat.sub_self]
  simp only [List.singleton_append, List.set_cons_zero, List.map_cons, List.cons_append, List.length_cons]
  rw [show q + 1 + tl.length = q + (tl.length + 1) by omega, List.nil_append]
theorem own_narb {k : Nat} (h : k < 128) : nar .byte (Int32.ofNat k) = Int32.ofNat k := own_lo8 (by rw [own_oN (by omega)]; omega) (by rw [own_oN (by omega)]; omega)
def own_ones : List Value := (List.range 100).map fun i => Value.int (Int32.ofNat (48 + i % 10))
def own_tens : List Value := (List.range 100).map fun i => Value.int (Int32.ofNat (48 + i / 10))
theorem own_onesG {r : Nat} (h : r < 100) : own_ones.getD (Int32.ofNat r).toNatClampNeg (.int (0 : Int32)) = .int (Int32.ofNat (48 + r % 10)) := by
  rw [own_tnc (own_oN (by omega))]
  simp [own_ones, List.getD_eq_getElem?_getD, List.getElem?_range, h]
theorem own_tensG {r : Nat} (h : r < 100) : own_tens.getD (Int32.ofNat r).toNatClampNeg (.int (0 : Int32)) = .int (Int32.ofNat (48 + r / 10)) := by
  rw [own_tnc (own_oN (by omega))]
  simp [own_tens, List.getD_eq_getElem?_getD, List.getElem?_range, h]
def own_A (us : List Int32) : Prop := ∀ c ∈ us, 0 ≤ c.toInt ∧ c.toInt < 128
theorem own_upA {us : List Int32} (h : own_A us) : ∀ c ∈ us, ¬ c < 0 ∧ ¬ (65535 : Int32) < c := fun c hc => by
  obtain ⟨h1, h2⟩ := h c hc
  have e5 : (0 : Int32).toInt = 0 := rfl
  have e6 : (65535 : Int32).toInt = 65535 := rfl
  constructor <;> rw [Int32.lt_iff_toInt_lt] <;> omega
def own_sb (cs : List Int32) : List Value := cs.map Value.int ++ List.replicate (16 - cs.length) (.int (0 : Int32))
theorem own_ens {m : Nat} (h : m ≤ 16) : ¬ (0 : Int32) < (Int32.ofNat m) - (16 : Int32) := by
  have e0 : (0 : Int32).toInt = 0 := rfl
  have e1 : (16 : Int32).toInt = 16 := rfl
  have q := own_oN (k := m) (by omega)
  have q1 := c_isub (Int32.ofNat m) 16
  have r1 := Int32.toInt_lt (Int32.ofNat m - 16)
  have r2 := Int32.le_toInt (Int32.ofNat m - 16)
  rw [Int32.lt_iff_toInt_lt]
  omega
theorem own_sbl {cs : List Int32} (h : cs.length ≤ 16) : (own_sb cs).length = 16 := by
  simp only [own_sb, List.length_append, List.length_map, List.length_replicate]
  omega
theorem own_sbD {tl : List Int32} : own_seg (own_sb []) 0 tl = own_sb tl := by
  unfold own_seg
  rw [show own_sb [] = List.replicate 16 (.int (0 : Int32)) from rfl, List.drop_replicate, Nat.zero_add]
  rfl
theorem own_segF {vs : List Value} {tl : List Int32} (h : tl.length = vs.length) : own_seg vs 0 tl = tl.map Value.int := by simp [own_seg, h]
theorem own_shl0 (x : Int32) : x <<< ((0 : Int32) &&& 31) = x := by
  apply Int32.toInt_inj.mp
  have q := c_ishl x 0 0 rfl
  have r1 := Int32.toInt_lt (x <<< ((0 : Int32) &&& 31))
  have r2 := Int32.le_toInt (x <<< ((0 : Int32) &&& 31))
  have r3 := Int32.toInt_lt x
  have r4 := Int32.le_toInt x
  simp only [Nat.pow_zero, Int.natCast_one, Int.mul_one] at q
  omega
theorem own_rng (us : List Int32) : (List.range us.length).map (fun i => (us.map Value.int).getD (0 + i) (.int (0 : Int32))) = us.map Value.int := by
  apply List.ext_getElem?
  intro i
  by_cases h : i < us.length
  · simp [List.getElem?_range, h, List.getD_eq_getElem?_getD]
  · rw [List.getElem?_eq_none (by simp; omega), List.getElem?_eq_none (by simp; omega)]
theorem own_cp {cs us : List Int32} (h : cs.length + us.length ≤ 16) : (own_sb cs).take cs.length ++ us.map Value.int ++ (own_sb cs).drop (cs.length + us.length) = own_sb (cs ++ us) := by
  have e : (own_sb cs).take cs.length = cs.map Value.int := by simp [own_sb]
  have e2 : (own_sb cs).drop (cs.length + us.length) = List.replicate (16 - cs.length - us.length) (.int (0 : Int32)) := by
    rw [← List.drop_drop, own_sb, List.drop_left' (by simp), List.drop_replicate]
  rw [e, e2, own_sb, List.map_append, List.length_append, Nat.sub_add_eq]
theorem own_cp' {cs us : List Int32} {p q : Nat} (hp : p = cs.length) (hq : q = us.length) (h : cs.length + us.length ≤ 16) : (own_sb cs).take p ++ (List.range q).map (fun i => (us.map Value.int).getD ((0 : Int32).toNatClampNeg + i) (.int (0 : Int32))) ++ (own_sb cs).drop (p + q) = own_sb (cs ++ us) := by
  subst hp hq
  rw [← own_cp h, show (0 : Int32).toNatClampNeg = 0 from rfl, own_rng]
theorem own_Adl (v : Nat) : own_A (own_dl v) := by
  induction v using Nat.strongRecOn with
  | ind v ih =>
    have one : ∀ k, k < 10 → 0 ≤ (Int32.ofNat (48 + k)).toInt ∧ (Int32.ofNat (48 + k)).toInt < 128 := fun k hk => by rw [own_oN (by omega)]; omega
    by_cases h : v < 10
    · rw [own_dl1 h]
      intro c hc
      rw [List.mem_singleton.mp hc]
      exact one v h
    · rw [own_dl2 h]
      intro c hc
      rcases List.mem_append.mp hc with hc | hc
      · exact ih (v / 10) (by omega) c hc
      · rw [List.mem_singleton.mp hc]
        exact one _ (by omega)
theorem own_codA {us : List Int32} (h : own_A us) : StrChars.Road.CodA us 0 (Int32.ofNat us.length) (us.map Value.int) :=
  Or.inl ⟨rfl, rfl, List.map_congr_left fun c hc => congrArg Value.int (own_lo8 (h c hc).1 (h c hc).2).symm, fun c hc => by
    have h2 := (h c hc).2
    have e : (255 : Int32).toInt = 255 := rfl
    rw [Int32.lt_iff_toInt_lt]
    omega⟩
def own_fl (vs : List Value) (q : Nat) : List Value := List.replicate q (.int (48 : Int32)) ++ vs.drop q
theorem own_flS {vs : List Value} {q : Nat} (h : q < vs.length) : (own_fl vs q).set q (.int (48 : Int32)) = own_fl vs (q + 1) := by
  unfold own_fl
  rw [List.set_append_right _ _ (by simp), List.length_replicate, Nat.sub_self, List.drop_eq_getElem_cons h, List.set_cons_zero, List.replicate_succ', List.append_assoc]
  rfl
theorem own_fll {vs : List Value} {q : Nat} (h : q ≤ vs.length) : (own_fl vs q).length = vs.length := by
  simp only [own_fl, List.length_append, List.length_replicate, List.length_drop]
  omega
theorem own_flE {vs : List Value} {q : Nat} (h : vs.length = q) : own_fl vs q = (List.replicate q (48 : Int32)).map Value.int := by
  rw [own_fl, List.drop_of_length_le (by omega), List.append_nil, List.map_replicate]
theorem own_rk0 {k : Nat} (h2 : 2 ≤ k) (h6 : k ≤ 6) : ¬ (Int32.ofNat k) = (0 : Int32) ∧ ¬ (Int32.ofNat k) = (1 : Int32) ∧ ¬ ((2147483647 : Int32) / (Int32.ofNat k)) < (1 : Int32) := by
  match k, h2, h6 with
  | 2, _, _ => decide
  | 3, _, _ => decide
  | 4, _, _ => decide
  | 5, _, _ => decide
  | 6, _, _ => decide
  | 0, h, _ => omega
  | 1, h, _ => omega
  | n + 7, _, h => omega
theorem own_e16 {n : Nat} (hn : n ≤ 16) (h : (Int32.ofNat n) = (16 : Int32)) : n = 16 := by
  have e := congrArg Int32.toInt h
  rw [own_oN (by omega)] at e
  have e1 : (16 : Int32).toInt = 16 := rfl
  omega
theorem own_sb16 {cs : List Int32} (h : cs.length = 16) : own_sb cs = cs.map Value.int := by simp [own_sb, h]
theorem own_sb0 (x : Int32) : x - (0 : Int32) = x := Int32.sub_zero x
theorem own_cpB {cs : List Int32} {q : Nat} (hq : q = cs.length) (h : cs.length ≤ 16) (vd : List Value) (hd : vd.length = cs.length) : vd.take (0 : Int32).toNatClampNeg ++ (List.range q).map (fun i => (own_sb cs).getD ((0 : Int32).toNatClampNeg + i) (.int (0 : Int32))) ++ vd.drop ((0 : Int32).toNatClampNeg + q) = cs.map Value.int := by
  subst hq
  rw [show (0 : Int32).toNatClampNeg = 0 from rfl, List.take_zero, List.nil_append, Nat.zero_add, List.drop_of_length_le (by omega), List.append_nil, ← own_rng cs]
  apply List.map_congr_left
  intro i hi
  have hi' : i < cs.length := List.mem_range.mp hi
  rw [own_sb, List.getD_eq_getElem?_getD, List.getD_eq_getElem?_getD, List.getElem?_append_left (by simp; omega)]
theorem own_lrM {u : Nat} (h : u < 1000000000000000) : (Int64.ofNat u) - ((Int64.ofNat u) / (1000000 : Int64)) * (1000000 : Int64) = Int64.ofNat (u % 1000000) := by
  have q := own_oL (k := u) (by omega)
  have r := (c_lrem (Int64.ofNat u) 1000000 1000000 (by decide)).1 (by omega)
  exact own_inL (by omega) (by omega)
theorem own_ldM {u : Nat} (h : u < 1000000000000000) : (Int64.ofNat u) / (1000000 : Int64) = Int64.ofNat (u / 1000000) := by
  have q := own_oL (k := u) (by omega)
  have r := (c_ldiv (Int64.ofNat u) 1000000 1000000 (by decide) (by decide)).1 (by omega)
  exact own_inL (by omega) (by omega)
theorem own_lrT {u : Nat} (h : u < 1000000000000000) : (Int64.ofNat u) - ((Int64.ofNat u) / (10 : Int64)) * (10 : Int64) = Int64.ofNat (u % 10) := by
  have q := own_oL (k := u) (by omega)
  have r := (c_lrem (Int64.ofNat u) 10 10 rfl).1 (by omega)
  exact own_inL (by omega) (by omega)
theorem own_ldT {u : Nat} (h : u < 1000000000000000) : (Int64.ofNat u) / (10 : Int64) = Int64.ofNat (u / 10) := by
  have q := own_oL (k := u) (by omega)
  have r := (c_ldiv (Int64.ofNat u) 10 10 rfl (by decide)).1 (by omega)
  exact own_inL (by omega) (by omega)
def own_q (mv dc : Nat) : Nat := mv % 1000000 / 10 ^ (6 - dc)
def own_dec (f : Nat) : Nat := if f % 10000 = 0 then 2 else if f % 1000 = 0 then 3 else if f % 100 = 0 then 4 else if f % 10 = 0 then 5 else 6
theorem own_q6 (mv : Nat) : own_q mv 6 = mv % 1000000 := by simp [own_q]
theorem own_qlt (mv dc : Nat) : own_q mv dc ≤ 999999 := by
  have h := Nat.div_le_self (mv % 1000000) (10 ^ (6 - dc))
  unfold own_q
  omega
theorem own_lz {u : Nat} (h : u < 1000000000000000) : (Int64.ofNat u) = (0 : Int64) ↔ u = 0 := by
  constructor
  · intro q
    have e := congrArg Int64.toInt q
    rw [own_oL (by omega)] at e
    have e0 : (0 : Int64).toInt = 0 := rfl
    omega
  · intro q; rw [q]; rfl
theorem own_qS {mv dc : Nat} (h2 : 2 < dc) (h6 : dc ≤ 6) (hz : mv % 1000000 % 10 ^ (6 - dc) = 0) (h : own_q mv dc % 10 = 0) : own_q mv dc / 10 = own_q mv (dc - 1) ∧ mv % 1000000 % 10 ^ (6 - (dc - 1)) = 0 := by
  unfold own_q at *
  generalize mv % 1000000 = f at *
  match dc, h2, h6, hz, h with
  | 3, _, _, hz, h => simp only [Nat.reduceSub, Nat.reducePow] at *; omega
  | 4, _, _, hz, h => simp only [Nat.reduceSub, Nat.reducePow] at *; omega
  | 5, _, _, hz, h => simp only [Nat.reduceSub, Nat.reducePow] at *; omega
  | 6, _, _, hz, h => simp only [Nat.reduceSub, Nat.reducePow] at *; omega
  | 0, h, _, _, _ => omega
  | 1, h, _, _, _ => omega
  | 2, h, _, _, _ => omega
  | n + 7, _, h, _, _ => omega
theorem own_decX {mv dc : Nat} (h2 : 2 ≤ dc) (h6 : dc ≤ 6) (hz : mv % 1000000 % 10 ^ (6 - dc) = 0) (h : dc = 2 ∨ ¬ own_q mv dc % 10 = 0) : dc = own_dec (mv % 1000000) := by
  unfold own_q own_dec at *
  generalize mv % 1000000 = f at *
  match dc, h2, h6, hz, h with
  | 2, _, _, hz, h => simp only [Nat.reduceSub, Nat.reducePow] at *; rw [if_pos hz]
  | 3, _, _, hz, h => simp only [Nat.reduceSub, Nat.reducePow] at *; rw [if_neg (by omega), if_pos hz]
  | 4, _, _, hz, h => simp only [Nat.reduceSub, Nat.reducePow] at *; rw [if_neg (by omega), if_neg (by omega), if_pos hz]
  | 5, _, _, hz, h => simp only [Nat.reduceSub, Nat.reducePow] at *; rw [if_neg (by omega), if_neg (by omega), if_neg (by omega), if_pos (by omega)]
  | 6, _, _, hz, h => simp only [Nat.reduceSub, Nat.reducePow] at *; rw [if_neg (by omega), if_neg (by omega), if_neg (by omega), if_neg (by omega)]
  | 0, h, _, _, _ => omega
  | 1, h, _, _, _ => omega
  | n + 7, _, h, _, _ => omega
theorem own_dlle {v k : Nat} (h1 : 1 ≤ k) (h : v < 10 ^ k) : (own_dl v).length ≤ k := by
  induction k generalizing v with
  | zero => omega
  | succ k ih =>
    by_cases hv : v < 10
    · rw [own_dl1 hv]; exact h1
    · have e : 10 ^ (k + 1) = 10 ^ k * 10 := Nat.pow_succ ..
      have hk : 1 ≤ k := by
        rcases Nat.eq_zero_or_pos k with r | r
        · subst r; simp at h; omega
        · exact r
      have := ih hk (show v / 10 < 10 ^ k by omega)
      rw [own_dlT hv]
      omega
theorem own_qlen {mv dc : Nat} (h2 : 2 ≤ dc) (h6 : dc ≤ 6) : (own_dl (own_q mv dc)).length ≤ dc := by
  refine own_dlle (by omega) ?_
  unfold own_q
  have hf : mv % 1000000 < 1000000 := Nat.mod_lt _ (by decide)
  generalize mv % 1000000 = f at *
  match dc, h2, h6 with
  | 2, _, _ => simp only [Nat.reduceSub, Nat.reducePow]; omega
  | 3, _, _ => simp only [Nat.reduceSub, Nat.reducePow]; omega
  | 4, _, _ => simp only [Nat.reduceSub, Nat.reducePow]; omega
  | 5, _, _ => simp only [Nat.reduceSub, Nat.reducePow]; omega
  | 6, _, _ => simp only [Nat.reduceSub, Nat.reducePow]; omega
  | 0, h, _ => omega
  | 1, h, _ => omega
  | n + 7, _, h => omega
theorem own_subN {a b : Nat} (h : b ≤ a) (ha : a < 2147483648) : (Int32.ofNat a) - (Int32.ofNat b) = Int32.ofNat (a - b) := by
  have q0 := own_oN ha
  have q9 := own_oN (k := b) (by omega)
  have q1 := c_isub (Int32.ofNat a) (Int32.ofNat b)
  have r1 := Int32.toInt_lt (Int32.ofNat a - Int32.ofNat b)
  have r2 := Int32.le_toInt (Int32.ofNat a - Int32.ofNat b)
  exact own_in (by omega) (by omega)
def own_sh (mv dc : Nat) : List Int32 := ((own_dl (mv / 1000000) ++ ([46] : List Int32)) ++ List.replicate (dc - (own_dl (own_q mv dc)).length) (48 : Int32)) ++ own_dl (own_q mv dc)
def own_show (mv : Nat) : List Int32 := own_sh mv (own_dec (mv % 1000000))
theorem own_A46 : own_A ([46] : List Int32) := fun c hc => by rw [List.mem_singleton.mp hc]; decide
theorem own_Arep (k : Nat) : own_A (List.replicate k (48 : Int32)) := fun c hc => by rw [(List.mem_replicate.mp hc).2]; decide
theorem own_Aapp {a b : List Int32} (ha : own_A a) (hb : own_A b) : own_A (a ++ b) := fun c hc => (List.mem_append.mp hc).elim (ha c) (hb c)
theorem own_Ash (mv dc : Nat) : own_A (own_sh mv dc) := own_Aapp (own_Aapp (own_Aapp (own_Adl _) own_A46) (own_Arep _)) (own_Adl _)
theorem own_ltL {v : Nat} {b : Int64} {P : Nat} (hv : v ≤ 999999999) (hb : b.toInt = (P : Int)) : Int64.ofNat v < b ↔ v < P := by
  rw [Int64.lt_iff_toInt_lt, own_oL (by omega), hb]
  omega
theorem own_dcn {v k : Nat} {r : Int32} (h0 : k = 0 ∨ 10 ^ k ≤ v) (h1 : v < 10 ^ (k + 1)) (hr : r = Int32.ofNat (k + 1)) : r = Int32.ofNat (own_dl v).length := by rw [hr, own_dln h0 h1]
theorem own_lrK {u k : Nat} {K : Int64} (h : u < 1000000) (hK : K.toInt = (k : Int)) : (Int64.ofNat u) - ((Int64.ofNat u) / K) * K = (0 : Int64) ↔ u % k = 0 := by
  have q := own_oL (k := u) (by omega)
  have r := (c_lrem (Int64.ofNat u) K k hK).1 (by omega)
  rw [q, show (u : Int) % (k : Int) = ((u % k : Nat) : Int) from (Int.natCast_emod u k).symm] at r
  have e0 : (0 : Int64).toInt = 0 := rfl
  constructor
  · intro e
    rw [e, e0] at r
    omega
  · intro e
    apply Int64.toInt_inj.mp
    rw [r, e0]
    omega
def own_ex (v nd f i : Nat) : Int32 := if i < nd then own_dg v (nd - 1 - i) else if i = nd then 46 else own_dg f (5 - (i - nd - 1))
theorem own_exk {nd i : Nat} (h9 : nd ≤ 9) (h : i < nd) : (((Int32.ofNat nd) - (1 : Int32)) - (Int32.ofNat i)).toInt = ((nd - 1 - i : Nat) : Int) := by
  have e : (Int32.ofNat nd) - (1 : Int32) = Int32.ofNat (nd - 1) := own_subN (b := 1) (by omega) (by omega)
  rw [e, own_subN (by omega) (by omega), own_oN (by omega)]
theorem own_exj {nd i : Nat} (h : nd < i) (hi : i ≤ nd + 6) (h9 : nd ≤ 9) : ((5 : Int32) - (((Int32.ofNat i) - (Int32.ofNat nd)) - (1 : Int32))).toInt = ((5 - (i - nd - 1) : Nat) : Int) := by
  have e : ((Int32.ofNat i) - (Int32.ofNat nd)) - (1 : Int32) = Int32.ofNat (i - nd - 1) := by
    rw [own_subN (by omega) (by omega)]
    exact own_subN (b := 1) (by omega) (by omega)
  have e2 : (5 : Int32) - Int32.ofNat (i - nd - 1) = Int32.ofNat (5 - (i - nd - 1)) := own_subN (a := 5) (by omega) (by decide)
  rw [e, e2, own_oN (by omega)]
theorem own_eqN {a b : Nat} (ha : a < 2147483648) (hb : b < 2147483648) : Int32.ofNat a = Int32.ofNat b ↔ a = b := by
  constructor
  · intro h
    have e := congrArg Int32.toInt h
    rw [own_oN ha, own_oN hb] at e
    omega
  · intro h; rw [h]
theorem own_gl {a b : List Int32} {i : Nat} (h : i < a.length) : (a ++ b).getD i 0 = a.getD i 0 := by simp only [List.getD_eq_getElem?_getD, List.getElem?_append_left h]
theorem own_gr {a b : List Int32} {i : Nat} (h : a.length ≤ i) : (a ++ b).getD i 0 = b.getD (i - a.length) 0 := by simp only [List.getD_eq_getElem?_getD, List.getElem?_append_right h]
theorem own_dlub (v : Nat) : v < 10 ^ (own_dl v).length := by
  induction v using Nat.strongRecOn with
  | ind v ih =>
    by_cases h : v < 10
    · rw [own_dl1 h]; simpa using h
    · have q := ih (v / 10) (by omega)
      rw [own_dlT h, Nat.pow_succ]
      generalize 10 ^ (own_dl (v / 10)).length = P at *
      omega
theorem own_dgS (v k : Nat) : own_dg (v / 10) k = own_dg v (k + 1) := by
  unfold own_dg
  rw [Nat.div_div_eq_div_mul, Nat.pow_succ, Nat.mul_comm]
theorem own_dlg (v : Nat) : ∀ i, i < (own_dl v).length → (own_dl v).getD i 0 = own_dg v ((own_dl v).length - 1 - i) := by
  induction v using Nat.strongRecOn with
  | ind v ih =>
    intro i hi
    by_cases h : v < 10
    · rw [own_dl1 h] at hi ⊢
      have : i = 0 := by simpa using hi
      subst this
      show Int32.ofNat (48 + v) = own_dg v 0
      rw [own_dg, Nat.pow_zero, Nat.div_one, Nat.mod_eq_of_lt h]
    · have hl := own_dlT h
      have e := own_dl2 h
      by_cases hi' : i < (own_dl (v / 10)).length
      · rw [e, own_gl hi', ih (v / 10) (by omega) i hi', own_dgS, ← e, hl, show (own_dl (v / 10)).length - 1 - i + 1 = (own_dl (v / 10)).length + 1 - 1 - i by omega]
      · rw [e, own_gr (by omega), ← e, show i - (own_dl (v / 10)).length = 0 by omega, hl, show (own_dl (v / 10)).length + 1 - 1 - i = 0 by omega, own_dg, Nat.pow_zero, Nat.div_one]
        rfl
theorem own_dg0 {v k : Nat} (h : v < 10 ^ k) : own_dg v k = 48 := by
  rw [own_dg, Nat.div_eq_of_lt h]
  rfl
theorem own_pad {g dc j : Nat} (hl : (own_dl g).length ≤ dc) (hj : j < dc) : (List.replicate (dc - (own_dl g).length) (48 : Int32) ++ own_dl g).getD j 0 = own_dg g (dc - 1 - j) := by
  by_cases h : j < dc - (own_dl g).length
  · rw [own_gl (by rw [List.length_replicate]; exact h)]
    have e : (List.replicate (dc - (own_dl g).length) (48 : Int32)).getD j 0 = 48 := by
      simp [List.getD_eq_getElem?_getD, List.getElem?_replicate, h]
    rw [e, own_dg0]
    exact Nat.lt_of_lt_of_le (own_dlub g) (Nat.pow_le_pow_right (by decide) (by omega))
  · rw [own_gr (by rw [List.length_replicate]; omega), List.length_replicate, own_dlg _ _ (by omega)]
    rw [show (own_dl g).length - 1 - (j - (dc - (own_dl g).length)) = dc - 1 - j by omega]
theorem own_dgq {f dc j : Nat} (h6 : dc ≤ 6) (hj : j < dc) : own_dg (f / 10 ^ (6 - dc)) (dc - 1 - j) = own_dg f (5 - j) := by
  unfold own_dg
  rw [Nat.div_div_eq_div_mul, ← Nat.pow_add, show 6 - dc + (dc - 1 - j) = 5 - j by omega]
theorem own_dec2 (f : Nat) : 2 ≤ own_dec f ∧ own_dec f ≤ 6 := by
  unfold own_dec
  split
  · decide
  split
  · decide
  split
  · decide
  split <;> decide
theorem own_miq {v f d : Nat} (h6 : d ≤ 6) (hf : f < 10 ^ d) : own_mi v f d / 1000000 = v ∧ own_mi v f d % 1000000 = f * 10 ^ (6 - d) := by
  have b := own_fq h6 (Nat.le_refl 6) hf
  unfold own_mi
  generalize f * 10 ^ (6 - d) = u at *
  omega
theorem own_shl {v f d : Nat} (h6 : d ≤ 6) (hf : f < 10 ^ d) : (own_show (own_mi v f d)).length = (own_dl v).length + 1 + own_dec (f * 10 ^ (6 - d)) := by
  obtain ⟨e1, e2⟩ := own_miq (v := v) h6 hf
  obtain ⟨d2, d6⟩ := own_dec2 (f * 10 ^ (6 - d))
  have hq := own_qlen (mv := own_mi v f d) d2 d6
  unfold own_show own_sh
  rw [e1, e2]
  simp only [List.length_append, List.length_replicate, List.length_cons, List.length_nil]
  omega
theorem own_lenE {v f d : Nat} (hv : v ≤ 999999999) (h6 : d ≤ 6) (hf : f < 10 ^ d) : Int32.ofNat (own_show (own_mi v f d)).length = ((Int32.ofNat (own_dl v).length) + (1 : Int32)) + (Int32.ofNat (own_dec (f * 10 ^ (6 - d)))) := by
  rw [own_shl h6 hf, own_suc, ← Int32.ofNat_add]
theorem own_exE {v f d i : Nat} (h6 : d ≤ 6) (hf : f < 10 ^ d) (hi : i < (own_show (own_mi v f d)).length) : (own_show (own_mi v f d)).getD i 0 = own_ex v (own_dl v).length (f * 10 ^ (6 - d)) i := by
  rw [own_shl h6 hf] at hi
  obtain ⟨e1, e2⟩ := own_miq (v := v) h6 hf
  obtain ⟨d2, d6⟩ := own_dec2 (f * 10 ^ (6 - d))
  have hq := own_qlen (mv := own_mi v f d) d2 d6
  unfold own_show own_sh own_ex
  unfold own_q at hq ⊢
  rw [e2] at hq ⊢
  rw [e1, List.append_assoc, List.append_assoc]
  generalize f * 10 ^ (6 - d) = u at *
  by_cases h : i < (own_dl v).length
  · rw [own_gl h, if_pos h, own_dlg _ _ h]
  · rw [own_gr (by omega), if_neg h]
    by_cases h2 : i = (own_dl v).length
    · rw [if_pos h2, h2, Nat.sub_self]
      rfl
    · rw [if_neg h2, own_gr (by simp only [List.length_cons, List.length_nil]; omega)]
      simp only [List.length_cons, List.length_nil, Nat.zero_add]
      rw [own_pad hq (by omega), own_dgq d6 (by omega)]
theorem own_mulP {f d : Nat} (h6 : d ≤ 6) (hf : f < 10 ^ d) : (Int64.ofNat f) * (own_p10 (6 - d)) = Int64.ofNat (f * 10 ^ (6 - d)) := by
  have b := own_fq h6 (Nat.le_refl 6) hf
  have b2 := own_f6 h6 hf
  have q0 := own_oL (k := f) (by omega)
  have q1 := c_lmul (Int64.ofNat f) (own_p10 (6 - d))
  rw [q0, own_p10i (by omega), ← Int.natCast_mul] at q1
  have r1 := Int64.toInt_lt (Int64.ofNat f * own_p10 (6 - d))
  have r2 := Int64.le_toInt (Int64.ofNat f * own_p10 (6 - d))
  generalize f * 10 ^ (6 - d) = u at *
  exact own_inL (by omega) (by omega)
theorem own_lawd (x : Int32) : ∃ d : Nat, ((x &&& (2147483647 : Int32)) % (7 : Int32)) = Int32.ofNat d ∧ d ≤ 6 := by
  have m := c_mask x 2147483647 31 (by decide) (by decide)
  have r := (c_irem (x &&& 2147483647) 7 7 rfl).1 (by omega)
  exact ⟨((x &&& 2147483647) % 7).toInt.toNat, own_in (by omega) (by omega), by omega⟩
theorem own_lawv (x : Int64) : ∃ v : Nat, ((x &&& (9223372036854775807 : Int64)) - ((x &&& (9223372036854775807 : Int64)) / (1000000000 : Int64)) * (1000000000 : Int64)) = Int64.ofNat v ∧ v ≤ 999999999 := by
  have m := c_maskL x 9223372036854775807 63 (by decide) (by decide)
  generalize x &&& 9223372036854775807 = y at *
  have r := (c_lrem y 1000000000 1000000000 (by decide)).1 (by omega)
  generalize y - y / 1000000000 * 1000000000 = z at *
  exact ⟨z.toInt.toNat, own_inL (by omega) (by omega), by omega⟩
theorem own_lawf (x : Int32) {d : Nat} (h6 : d ≤ 6) : ∃ f : Nat, (((x &&& (2147483647 : Int32)).toInt64) - (((x &&& (2147483647 : Int32)).toInt64) / (own_p10 d)) * (own_p10 d)) = Int64.ofNat f ∧ f < 10 ^ d := by
  have m := c_mask x 2147483647 31 (by decide) (by decide)
  have l := c_i2l (x &&& 2147483647)
  generalize (x &&& 2147483647).toInt64 = y at *
  have r := (c_lrem y (own_p10 d) _ (own_p10i (by omega))).1 (by omega)
  have p := own_p10pos d
  have p6 : 10 ^ d ≤ 1000000 := Nat.pow_le_pow_right (by decide) h6
  have k1 := Int.emod_nonneg y.toInt (b := ((10 ^ d : Nat) : Int)) (by omega)
  have k2 := Int.emod_lt_of_pos y.toInt (b := ((10 ^ d : Nat) : Int)) (by omega)
  generalize y.toInt % ((10 ^ d : Nat) : Int) = t at *
  generalize y - y / own_p10 d * own_p10 d = z at *
  generalize 10 ^ d = P at *
  exact ⟨t.toNat, own_inL (by omega) (by omega), by omega⟩
theorem own_len31 {s : State} {args : Array Value} {t : Term} {v : Value} {x : Addr} {cl : Cell} (ht : t.eval args s none [] s = some (.ref x)) (ha : s.arrayAt? x = some cl) (h : (Term.length t).eval args s none [] s = some v) : cl.slots.size < 2 ^ 31 := by
  by_cases hl : cl.slots.size < 2 ^ 31
  · exact hl
  · simp [Term.eval, ht, ha, hl] at h
/-- a comparison with an int that holds: the other side is that int -/
theorem own_lenAt {s : State} {args : Array Value} {t : Term} {x : Addr} {cl : Cell} {n : Int32} (ht : t.eval args s none [] s = some (.ref x)) (ha : s.arrayAt? x = some cl) (h : (Jvm.Cond.eq (.length t) (.int n)).value args s none s [] = some true) : cl.slots.size < 2 ^ 31 ∧ cl.slots.size.toInt32 = n := by
  have hl : cl.slots.size < 2 ^ 31 := by
    obtain ⟨x, y, ha', -⟩ := cmp_v (Or.inl h)
    exact own_len31 ht ha ha'
  exact ⟨hl, gotT (Cond.eq_ints (len_f ht ha hl) (Term.int_eval n)) h⟩
/-- a String of the start, by the words on its coder and its bytes' array: all but the bytes -/
theorem own_unk {s : State} {args : Array Value} {t : Term} {ca : Addr} {cl : Cell} {k : Class} {v : Value} (ev : t.eval args s none [] s = some (.ref ca)) (c1 : s.heap[ca]? = some cl) (c3 : s.vm.classes[cl.cls]? = some k) (h : (Term.length t).eval args s none [] s = some v) : cl.vm ≠ .unknown := fun e => by
  simp [Term.eval, ev, State.arrayAt?, c1, c3, e] at h
theorem own_hasL {c : Cell} : ∀ (vs : List Value) (i : Nat), (∀ j, j < vs.length → c.slots[i + j]? = vs[j]?) → HasL c i vs
  | [], _, _ => trivial
  | v :: r, i, h => ⟨h 0 (Nat.succ_pos _), own_hasL r (i + 1) fun j hj => by
      have q := h (j + 1) (Nat.succ_lt_succ hj)
      rw [show i + 1 + j = i + (j + 1) by omega, q]
      rfl⟩
theorem own_digStart {s : State} {args a0 : Array Value} {C n : String} {Y : Term} {g : Nat → Nat} (hf : Fit s) (wa : (Jvm.Cond.arrayClass .byte).before a0 s = true) (h1 : (Jvm.Cond.exactly (.static C n "[B") "[B").before args s = true) (h2 : (Jvm.Cond.eq (.length (.static C n "[B")) (.int (100 : Int32))).before args s = true) (h3 : (Jvm.Cond.all (.static C n "[B") (.eq (.elem (.static C n "[B") (.index 0)) Y)).before args s = true)
    (hi : (Jvm.Cond.initializedFor C n "[B").before args s = true ∨ ((Jvm.Cond.initialized C).before args s = true ∧ (Jvm.Cond.laysStatic C n "[B").before args s = true)) (hY : ∀ i, i < 100 → Y.eval args s none [i] s = some (.int (Int32.ofNat (g i)))) :
    ∃ ca k, Sta s s.heap C n "[B" (.ref ca) ∧ Arv s s.heap ca k .byte (100 : Int32) ((List.range 100).map fun i => Value.int (Int32.ofNat (g i))) (.int (0 : Int32)) := by
  have g1 := Cond.before_iff.mp h1
  have g2 := Cond.before_iff.mp h2
  have g3 := Cond.before_iff.mp h3
  obtain ⟨ca, ev⟩ := exa_v g1
  obtain ⟨cl, k, c1, c2, c3, c4, c5⟩ := Exa.start ev g1
  obtain ⟨cc, k', comp, q1, q2, q3⟩ := Cond.arrayClass_spec wa
  have q1' : s.vm.findClass "[B" = some cc := q1
  cases c2.symm.trans q1'
  cases c3.symm.trans q2
  have evx : ∀ idx, (Term.static C n "[B").eval args s none idx s = some (.ref ca) := fun idx => by
    have q := ev
    simp only [Term.eval] at q ⊢
    exact q
  have hunk : cl.vm ≠ .unknown := by
    obtain ⟨x, y, ha, -⟩ := cmp_v (Or.inl g2)
    exact own_unk ev c1 c3 ha
  have A : Arr s s.heap ca cl .byte := ⟨c1, ⟨fun z e => (by rw [e] at c4; cases c4), k, c3, comp, q3⟩, hunk⟩
  have hat : s.arrayAt? ca = some cl := A.fin (Vm.Alike.refl _)
  obtain ⟨hl, hz⟩ := own_lenAt ev hat g2
  have hsz : cl.slots.size = 100 := by
    have q := congrArg Int32.toInt hz
    rw [len_toInt hl] at q
    have : (100 : Int32).toInt = 100 := rfl
    omega
  refine ⟨ca, cl.cls, Sta.start ev hi, Arv.start hf A hl hz (by decide) rfl (own_hasL _ 0 fun j hj => ?_)⟩
  have hj' : j < 100 := by simpa using hj
  have key := Cond.all_elim (evx []) hat g3 j (by omega)
  obtain ⟨x, y, ha, hb, hk, -⟩ := cmp_v (Or.inl key)
  cases (hY j hj').symm.trans hb
  have ix : (Term.index 0).eval args s none [j] s = some (.int j.toInt32) := Term.index_eval _
  have e1 : (Nat.toInt32 j).toNatClampNeg = j := by simp only [Int32.toNatClampNeg, len_toInt (show j < 2 ^ 31 by omega)]; rfl
  cases x <;> simp only [Kin] at hk
  · rename_i z
    have q := gotT (Cond.eq_ints ha hb) key
    rw [q] at ha
    obtain ⟨-, r⟩ := elem_in ha (evx [j]) ix A.1
    rw [e1] at r
    rw [Nat.zero_add, r]
    simp [hj']
  all_goals (first | (obtain ⟨w, hw⟩ := hk; cases hw; done) | (obtain ⟨-, hw⟩ := hk; cases hw; done))
theorem own_i32 {j : Nat} (h : j < 100) : (Nat.toInt32 j).toInt = (j : Int) := len_toInt (show j < 2 ^ 31 by omega)
theorem own_onesStart {s : State} {args a0 : Array Value} {C n : String} (hf : Fit s) (wa : (Jvm.Cond.arrayClass .byte).before a0 s = true) (h1 : (Jvm.Cond.exactly (.static C n "[B") "[B").before args s = true) (h2 : (Jvm.Cond.eq (.length (.static C n "[B")) (.int (100 : Int32))).before args s = true) (h3 : (Jvm.Cond.all (.static C n "[B") (.eq (.elem (.static C n "[B") (.index 0)) (.add (.int 48) (.rem (.index 0) (.int 10))))).before args s = true)
    (hi : (Jvm.Cond.initializedFor C n "[B").before args s = true ∨ ((Jvm.Cond.initialized C).before args s = true ∧ (Jvm.Cond.laysStatic C n "[B").before args s = true)) : ∃ ca k, Sta s s.heap C n "[B" (.ref ca) ∧ Arv s s.heap ca k .byte (100 : Int32) own_ones (.int (0 : Int32)) :=
  own_digStart (g := fun i => 48 + i % 10) hf wa h1 h2 h3 hi fun i hi => by
    have ix : (Term.index 0).eval args s none [i] s = some (.int i.toInt32) := Term.index_eval _
    have e := rem_f ix (Term.int_eval (args := args) (first := s) (o := none) (idx := [i]) (s := s) 10) (by decide)
    have q := own_i32 hi
    have r := (c_irem (Nat.toInt32 i) 10 10 rfl).1 (by omega)
    simp only [Term.eval] at e ⊢
    rw [e]
    show some (Value.int (48 + Nat.toInt32 i % 10)) = _
    have a := c_iadd 48 (Nat.toInt32 i % 10)
    have e48 : (48 : Int32).toInt = 48 := rfl
    have r1 := Int32.toInt_lt (48 + Nat.toInt32 i % 10)
    have r2 := Int32.le_toInt (48 + Nat.toInt32 i % 10)
    rw [own_in (x := 48 + Nat.toInt32 i % 10) (k := 48 + i % 10) (by omega) (by omega)]
theorem own_tensStart {s : State} {args a0 : Array Value} {C n : String} (hf : Fit s) (wa : (Jvm.Cond.arrayClass .byte).before a0 s = true) (h1 : (Jvm.Cond.exactly (.static C n "[B") "[B").before args s = true) (h2 : (Jvm.Cond.eq (.length (.static C n "[B")) (.int (100 : Int32))).before args s = true) (h3 : (Jvm.Cond.all (.static C n "[B") (.eq (.elem (.static C n "[B") (.index 0)) (.add (.int 48) (.div (.index 0) (.int 10))))).before args s = true)
    (hi : (Jvm.Cond.initializedFor C n "[B").before args s = true ∨ ((Jvm.Cond.initialized C).before args s = true ∧ (Jvm.Cond.laysStatic C n "[B").before args s = true)) : ∃ ca k, Sta s s.heap C n "[B" (.ref ca) ∧ Arv s s.heap ca k .byte (100 : Int32) own_tens (.int (0 : Int32)) :=
  own_digStart (g := fun i => 48 + i / 10) hf wa h1 h2 h3 hi fun i hi => by
    have ix : (Term.index 0).eval args s none [i] s = some (.int i.toInt32) := Term.index_eval _
    have e := div_f ix (Term.int_eval (args := args) (first := s) (o := none) (idx := [i]) (s := s) 10) (by decide)
    have q := own_i32 hi
    have r := (c_idiv (Nat.toInt32 i) 10 10 rfl (by decide)).1 (by omega)
    simp only [Term.eval] at e ⊢
    rw [e]
    show some (Value.int (48 + Nat.toInt32 i / 10)) = _
    have a := c_iadd 48 (Nat.toInt32 i / 10)
    have e48 : (48 : Int32).toInt = 48 := rfl
    have r1 := Int32.toInt_lt (48 + Nat.toInt32 i / 10)
    have r2 := Int32.le_toInt (48 + Nat.toInt32 i / 10)
    rw [own_in (x := 48 + Nat.toInt32 i / 10) (k := 48 + i / 10) (by omega) (by omega)]

theorem own_ef_rm_p10 (m : MethodId) (kk : Int32) : entryFrame m #[(.int kk)] 2 = mkF m 0 #[.val (.int kk), .unset] [] := by first | (simp [entryFrame, mkF, argsToLocals, Value.category]; done) | rfl
def t_rm_p10 : List (Nat × Instr × Nat) := [(0, .bipush 9, 2), (2, .newarray .long, 2), (4, .dup, 1), (5, .iconst 0, 1), (6, .lconst 1, 1), (7, .lastore, 1), (8, .dup, 1), (9, .iconst 1, 1), (10, .ldc2_w 63, 3), (13, .lastore, 1), (14, .dup, 1), (15, .iconst 2, 1), (16, .ldc2_w 65, 3), (19, .lastore, 1), (20, .dup, 1), (21, .iconst 3, 1), (22, .ldc2_w 67, 3), (25, .lastore, 1), (26, .dup, 1), (27, .iconst 4, 1), (28, .ldc2_w 69, 3), (31, .lastore, 1), (32, .dup, 1), (33, .iconst 5, 1), (34, .ldc2_w 71, 3), (37, .lastore, 1), (38, .dup, 1), (39, .bipush 6, 2), (41, .ldc2_w 73, 3), (44, .lastore, 1), (45, .dup, 1), (46, .bipush 7, 2), (48, .ldc2_w 75, 3), (51, .lastore, 1), (52, .dup, 1), (53, .bipush 8, 2), (55, .ldc2_w 77, 3), (58, .lastore, 1), (59, .astore_n 1, 1), (60, .aload_n 1, 1), (61, .iload_n 0, 1), (62, .laload, 1), (63, .lreturn, 1)]
theorem d_rm_p10 (i : Nat) : decode method_5_code (t_rm_p10.getD i (0, .bipush 9, 2)).1 = .ok (t_rm_p10.getD i (0, .bipush 9, 2)).2 := own_dt (by decide +kernel) (List.mem_cons_self ..) i
def Q_rm_p10 (Z : State) (kk : Int32) (k : Nat) (h0 : Heap) (n0 : Nat) (v : Option Value) (h : Heap) (L : List Loc) : Prop := v = some (.long (own_p10 k)) ∧ Fr n0 L ∧ Keep h0 h []
theorem own_pn0 : plainName "com/example/tickfence/tickfence/PriceParsePinLaw" = true := by first | (simp [plainName, overriddenIn]; done) | decide +kernel
set_option maxRecDepth 65536 in
set_option maxHeartbeats 40000000 in
theorem rm_p10 (l : Launch) (Z : State) (a0 : Array Value) (hw : ∀ d ∈ tables_1, d.before a0 Z = true) (ws : List Jvm.Cond) (kk : Int32) (k : Nat) (h0 : Heap) (n0 : Nat) (O0 : Old Z n0 h0) (hk : kk.toInt = (k : Int)) (hk8 : k ≤ 8) :
    own_Met l Z (⟨"com/example/tickfence/tickfence/PriceParsePinLaw", "pow10", "(I)J"⟩ : MethodName) method_5_code 2 (some .long) ws ({ frames := 0, cells := 1, slots := 9, locals := 0 } : Room) #[(.int kk)] h0 (Q_rm_p10 Z kk k h0 n0) := by
 refine MetFree.of_bodySF (plainFor_of_name own_pn0) hisR ?_
 intro p e s m args below meth c s₁ Bd hml0 hP hK
 obtain ⟨rfl, hZ, hh⟩ := hP
 have hx := Bd.exec
 have hby := Bd.bytes
 have D := fun i => hb hby (d_rm_p10 i)
 have hml : c.maxLocals = 2 := hml0
 have hown : s.vm.findClass "com/example/tickfence/tickfence/PriceParsePinLaw" = some m.cls := findClass_of_methodNamed Bd.named
 have hnm := (name_of_methodNamed Bd.named Bd.method).1
 have hlk : meth.locks = false := Bd.notSynchronized
 have X0 : Stand p l e ({ frames := 0, cells := 1, slots := 9, locals := 0 } : Room) s m #[(.int kk)] below meth c s₁ [] 0 0 := Stand.of_body Bd
 have e0 : s₁.heap = h0 := by rw [← hh, Bd.state]; rfl
 have N0 := Fr.nil n0
 suffices hgo : own_Ok p e below (own_Qx s (Q_rm_p10 Z kk k h0 n0) 1 9) (s₁.setTop (mkF m 0 #[.val (.int kk), .unset] [])) from by
   obtain ⟨s₂, o, h1, h2⟩ := hgo
   exact ⟨s₂, o, castTop (own_ef_rm_p10 m kk) h1, h2⟩
 show own_Ok p e below _ (s₁.setTop (mkF m 0 #[.val (.int kk), .unset] []))
 refine s_bipush X0 hx (9 : Int32) (D 0) rfl ?_
 obtain ⟨T101, h101, k101, X101, e101, E101, A101, st101⟩ := newP X0 hx hZ (own_hw hw 7 rfl) e0 (g := (mkF m 2 #[.val (.int kk), .unset] [(.int (9 : Int32))])) rfl (D 1) rfl (by decide) (cap := 9) (by decide) (by decide) (by decide) (by decide)
 obtain ⟨b101, g101⟩ : ∃ z, z = h0.size := ⟨_, rfl⟩
 rw [← g101] at A101 st101
 refine own_st st101 ?_
 have gb_b101 : n0 ≤ b101 := Nat.le_trans (own_n0 O0) (Nat.le_of_eq g101.symm)
 have gz_b101 : h0.size ≤ b101 := Nat.le_trans (Keep.refl h0 []).1 (Nat.le_of_eq g101.symm)
 have V101 : Arv Z h101 b101 k101 .long (9 : Int32) [(.long (0 : Int64)), (.long (0 : Int64)), (.long (0 : Int64)), (.long (0 : Int64)), (.long (0 : Int64)), (.long (0 : Int64)), (.long (0 : Int64)), (.long (0 : Int64)), (.long (0 : Int64))] (.long (0 : Int64)) := (Arv.new A101 (by decide)).pad (pad_rep [] (.long (0 : Int64)) 9)
 show own_Ok p e below _ (T101.setTop (mkF m 4 #[.val (.int kk), .unset] [(.ref b101)]))
 refine s_dup X101 hx (D 2) rfl ?_
 refine s_iconst X101 hx (0 : Int32) (D 3) rfl ?_
 refine s_lconst X101 hx (1 : Int64) (D 4) rfl ?_
 refine t_J X101 hx hZ e101 V101 0 rfl (by decide) (by decide) (Nat.le_of_ble_eq_true rfl) N0 gb_b101 (D 5) fun T102 h102 X102 e102 W102 V102 N102 => ?_
 refine s_dup X102 hx (D 6) rfl ?_
 refine s_iconst X102 hx (1 : Int32) (D 7) rfl ?_
 refine own_st (fun _ k => Jvm.Stand.ldc2J X102 hx hown (mvT hZ (own_hw hw 8 rfl)) rfl (D 8) k) ?_
 show own_Ok p e below _ (T102.setTop (mkF m 13 #[.val (.int kk), .unset] [(.long (10 : Int64)), (.int (1 : Int32)), (.ref b101), (.ref b101)]))
 refine t_J X102 hx hZ e102 V102 1 rfl (by decide) (by decide) (Nat.le_of_ble_eq_true rfl) N102 gb_b101 (D 9) fun T103 h103 X103 e103 W103 V103 N103 => ?_
 refine s_dup X103 hx (D 10) rfl ?_
 refine s_iconst X103 hx (2 : Int32) (D 11) rfl ?_
 refine own_st (fun _ k => Jvm.Stand.ldc2J X103 hx hown (mvT hZ (own_hw hw 9 rfl)) rfl (D 12) k) ?_
 show own_Ok p e below _ (T103.setTop (mkF m 19 #[.val (.int kk), .unset] [(.long (100 : Int64)), (.int (2 : Int32)), (.ref b101), (.ref b101)]))
 refine t_J X103 hx hZ e103 V103 2 rfl (by decide) (by decide) (Nat.le_of_ble_eq_true rfl) N103 gb_b101 (D 13) fun T104 h104 X104 e104 W104 V104 N104 => ?_
 refine s_dup X104 hx (D 14) rfl ?_
 refine s_iconst X104 hx (3 : Int32) (D 15) rfl ?_
 refine own_st (fun _ k => Jvm.Stand.ldc2J X104 hx hown (mvT hZ (own_hw hw 10 rfl)) rfl (D 16) k) ?_
 show own_Ok p e below _ (T104.setTop (mkF m 25 #[.val (.int kk), .unset] [(.long (1000 : Int64)), (.int (3 : Int32)), (.ref b101), (.ref b101)]))
 refine t_J X104 hx hZ e104 V104 3 rfl (by decide) (by decide) (Nat.le_of_ble_eq_true rfl) N104 gb_b101 (D 17) fun T105 h105 X105 e105 W105 V105 N105 => ?_
 refine s_dup X105 hx (D 18) rfl ?_
 refine s_iconst X105 hx (4 : Int32) (D 19) rfl ?_
 refine own_st (fun _ k => Jvm.Stand.ldc2J X105 hx hown (mvT hZ (own_hw hw 11 rfl)) rfl (D 20) k) ?_
 show own_Ok p e below _ (T105.setTop (mkF m 31 #[.val (.int kk), .unset] [(.long (10000 : Int64)), (.int (4 : Int32)), (.ref b101), (.ref b101)]))
 refine t_J X105 hx hZ e105 V105 4 rfl (by decide) (by decide) (Nat.le_of_ble_eq_true rfl) N105 gb_b101 (D 21) fun T106 h106 X106 e106 W106 V106 N106 => ?_
 refine s_dup X106 hx (D 22) rfl ?_
 refine s_iconst X106 hx (5 : Int32) (D 23) rfl ?_
 refine own_st (fun _ k => Jvm.Stand.ldc2J X106 hx hown (mvT hZ (own_hw hw 12 rfl)) rfl (D 24) k) ?_
 show own_Ok p e below _ (T106.setTop (mkF m 37 #[.val (.int kk), .unset] [(.long (100000 : Int64)), (.int (5 : Int32)), (.ref b101), (.ref b101)]))
 refine t_J X106 hx hZ e106 V106 5 rfl (by decide) (by decide) (Nat.le_of_ble_eq_true rfl) N106 gb_b101 (D 25) fun T107 h107 X107 e107 W107 V107 N107 => ?_
 refine s_dup X107 hx (D 26) rfl ?_
 refine s_bipush X107 hx (6 : Int32) (D 27) rfl ?_
 refine own_st (fun _ k => Jvm.Stand.ldc2J X107 hx hown (mvT hZ (own_hw hw 13 rfl)) rfl (D 28) k) ?_
 show own_Ok p e below _ (T107.setTop (mkF m 44 #[.val (.int kk), .unset] [(.long (1000000 : Int64)), (.int (6 : Int32)), (.ref b101), (.ref b101)]))
 refine t_J X107 hx hZ e107 V107 6 rfl (by decide) (by decide) (Nat.le_of_ble_eq_true rfl) N107 gb_b101 (D 29) fun T108 h108 X108 e108 W108 V108 N108 => ?_
 refine s_dup X108 hx (D 30) rfl ?_
 refine s_bipush X108 hx (7 : Int32) (D 31) rfl ?_
 refine own_st (fun _ k => Jvm.Stand.ldc2J X108 hx hown (mvT hZ (own_hw hw 14 rfl)) rfl (D 32) k) ?_
 show own_Ok p e below _ (T108.setTop (mkF m 51 #[.val (.int kk), .unset] [(.long (10000000 : Int64)), (.int (7 : Int32)), (.ref b101), (.ref b101)]))
 refine t_J X108 hx hZ e108 V108 7 rfl (by decide) (by decide) (Nat.le_of_ble_eq_true rfl) N108 gb_b101 (D 33) fun T109 h109 X109 e109 W109 V109 N109 => ?_
 refine s_dup X109 hx (D 34) rfl ?_
 refine s_bipush X109 hx (8 : Int32) (D 35) rfl ?_
 refine own_st (fun _ k => Jvm.Stand.ldc2J X109 hx hown (mvT hZ (own_hw hw 15 rfl)) rfl (D 36) k) ?_
 show own_Ok p e below _ (T109.setTop (mkF m 58 #[.val (.int kk), .unset] [(.long (100000000 : Int64)), (.int (8 : Int32)), (.ref b101), (.ref b101)]))
 refine t_J X109 hx hZ e109 V109 8 rfl (by decide) (by decide) (Nat.le_of_ble_eq_true rfl) N109 gb_b101 (D 37) fun T110 h110 X110 e110 W110 V110 N110 => ?_
 refine s_astoreN X110 hx (D 38) rfl #[.val (.int kk), .val (.ref b101)] rfl ?_
 refine s_aloadN X110 hx (D 39) rfl rfl ?_
 refine s_iloadN X110 hx (D 40) rfl ?_
 refine l_J X110 hx hZ e110 V110 (v := (own_p10 k)) (own_ge0 hk) (own_ltI (n := 9) hk rfl (Nat.lt_succ_of_le hk8)) (own_p10g hk hk8) (D 41) ?_
 have f111 := (Keep.refl h0 []).ext E101
 have f112 := f111.wr W102 (Or.inr gz_b101)
 have f113 := f112.wr W103 (Or.inr gz_b101)
 have f114 := f113.wr W104 (Or.inr gz_b101)
 have f115 := f114.wr W105 (Or.inr gz_b101)
 have f116 := f115.wr W106 (Or.inr gz_b101)
 have f117 := f116.wr W107 (Or.inr gz_b101)
 have f118 := f117.wr W108 (Or.inr gz_b101)
 have f119 := f118.wr W109 (Or.inr gz_b101)
 have f120 := f119.wr W110 (Or.inr gz_b101)
 exact own_retJ X110 hx hlk Bd.returns (D 42) (by rw [e110]; exact ⟨rfl, N110, f120⟩) (by decide) (by decide)
theorem own_pd0 : parseMethodDescriptor "(I)J" = some ⟨[.int], some .long⟩ := by decide +kernel
theorem own_ef_rm_dig (m : MethodId) (vv : Int64) (kk : Int32) : entryFrame m #[(.long vv), (.int kk)] 5 = mkF m 0 #[.val (.long vv), .second, .val (.int kk), .unset, .unset] [] := by first | (simp [entryFrame, mkF, argsToLocals, Value.category]; done) | rfl
def t_rm_dig : List (Nat × Instr × Nat) := [(0, .lload_n 0, 1), (1, .iload_n 2, 1), (2, .invokestatic 14, 3), (5, .ldiv, 1), (6, .ldc2_w 63, 3), (9, .lrem, 1), (10, .lstore_n 3, 1), (11, .bipush 48, 2), (13, .lload_n 3, 1), (14, .l2i, 1), (15, .iadd, 1), (16, .i2c, 1), (17, .ireturn, 1)]
theorem d_rm_dig (i : Nat) : decode method_6_code (t_rm_dig.getD i (0, .lload_n 0, 1)).1 = .ok (t_rm_dig.getD i (0, .lload_n 0, 1)).2 := own_dt (by decide +kernel) (List.mem_cons_self ..) i
def Q_rm_dig (Z : State) (vv : Int64) (vn : Nat) (kk : Int32) (k : Nat) (h0 : Heap) (n0 : Nat) (v : Option Value) (h : Heap) (L : List Loc) : Prop := v = some (.int (own_dg vn k)) ∧ Fr n0 L ∧ Keep h0 h []
set_option maxRecDepth 65536 in
set_option maxHeartbeats 40000000 in
theorem rm_dig (l : Launch) (Z : State) (a0 : Array Value) (hw : ∀ d ∈ tables_1, d.before a0 Z = true) (ws : List Jvm.Cond) (vv : Int64) (vn : Nat) (kk : Int32) (k : Nat) (h0 : Heap) (n0 : Nat) (O0 : Old Z n0 h0) (hv : vv.toInt = (vn : Int)) (hk : kk.toInt = (k : Int)) (hk8 : k ≤ 8) :
    own_Met l Z (⟨"com/example/tickfence/tickfence/PriceParsePinLaw", "digit", "(JI)C"⟩ : MethodName) method_6_code 5 (some .char) ws ({ frames := 1, cells := 1, slots := 9, locals := 15 } : Room) #[(.long vv), (.int kk)] h0 (Q_rm_dig Z vv vn kk k h0 n0) := by
 refine MetFree.of_bodySF (plainFor_of_name own_pn0) hisR ?_
 intro p e s m args below meth c s₁ Bd hml0 hP hK
 obtain ⟨rfl, hZ, hh⟩ := hP
 have hx := Bd.exec
 have hby := Bd.bytes
 have D := fun i => hb hby (d_rm_dig i)
 have hml : c.maxLocals = 5 := hml0
 have hown : s.vm.findClass "com/example/tickfence/tickfence/PriceParsePinLaw" = some m.cls := findClass_of_methodNamed Bd.named
 have hnm := (name_of_methodNamed Bd.named Bd.method).1
 have hlk : meth.locks = false := Bd.notSynchronized
 have X0 : Stand p l e ({ frames := 1, cells := 1, slots := 9, locals := 15 } : Room) s m #[(.long vv), (.int kk)] below meth c s₁ [] 0 0 := Stand.of_body Bd
 have e0 : s₁.heap = h0 := by rw [← hh, Bd.state]; rfl
 have N0 := Fr.nil n0
 suffices hgo : own_Ok p e below (own_Qx s (Q_rm_dig Z vv vn kk k h0 n0) 1 9) (s₁.setTop (mkF m 0 #[.val (.long vv), .second, .val (.int kk), .unset, .unset] [])) from by
   obtain ⟨s₂, o, h1, h2⟩ := hgo
   exact ⟨s₂, o, castTop (own_ef_rm_dig m vv kk) h1, h2⟩
 show own_Ok p e below _ (s₁.setTop (mkF m 0 #[.val (.long vv), .second, .val (.int kk), .unset, .unset] []))
 refine s_lloadN X0 hx (D 0) rfl ?_
 refine s_iloadN X0 hx (D 1) rfl ?_
 obtain ⟨_, T101, Lc101, X101, hQ101, st101⟩ := own_callS X0 hx hZ hown (own_hw hw 3 rfl) (own_hw hw 4 rfl) (own_hw hw 5 rfl) (own_hw hw 6 rfl) (rm_p10 l Z a0 hw [] kk k h0 n0 O0 hk hk8) (by decide) e0 (Ls := #[.val (.long vv), .second, .val (.int kk), .unset, .unset]) [(.int kk)] [(.long vv)] rfl (by rw [hml]; rfl) (lenOf own_pd0 rfl) (D 2) (by decide) 2 rfl (by decide) (by decide) (by decide)
 obtain ⟨rfl, Nq101, K101⟩ := hQ101
 have N101 := Fr.app N0 Nq101
 refine st101 _ ?_
 have e101 : T101.heap = T101.heap := rfl
 refine s_ldiv X101 hx (D 3) (own_p10n hk8) ?_
 refine own_st (fun _ k => Jvm.Stand.ldc2J X101 hx hown (mvT hZ (own_hw hw 8 rfl)) rfl (D 4) k) ?_
 show own_Ok p e below _ (T101.setTop (mkF m 9 #[.val (.long vv), .second, .val (.int kk), .unset, .unset] [(.long (10 : Int64)), (.long (vv / (own_p10 k)))]))
 refine s_lrem X101 hx (D 5) (by decide) ?_
 refine s_lstoreN X101 hx (D 6) #[.val (.long vv), .second, .val (.int kk), .val (.long ((vv / (own_p10 k)) - ((vv / (own_p10 k)) / (10 : Int64)) * (10 : Int64))), .second] rfl ?_
 refine s_bipush X101 hx (48 : Int32) (D 7) rfl ?_
 refine s_lloadN X101 hx (D 8) rfl ?_
 refine s_l2i X101 hx (D 9) ?_
 refine s_iadd X101 hx (D 10) ?_
 refine s_i2c X101 hx (D 11) ?_
 have f102 := (Keep.refl h0 []).trans K101 all0
 exact own_retN X101 hx hlk (t := .char) Bd.returns (by simp) (D 12) (by rw [e101]; exact ⟨(congrArg (fun z => some (Value.int z)) (own_dgp hv hk8)), N101, f102⟩) (by decide) (by decide)
theorem own_pd1 : parseMethodDescriptor "(JI)C" = some ⟨[.long, .int], some .char⟩ := by decide +kernel
theorem own_ef_rm_fdg (m : MethodId) (vv : Int64) (dd : Int32) (jj : Int32) : entryFrame m #[(.long vv), (.int dd), (.int jj)] 4 = mkF m 0 #[.val (.long vv), .second, .val (.int dd), .val (.int jj)] [] := by first | (simp [entryFrame, mkF, argsToLocals, Value.category]; done) | rfl
def t_rm_fdg : List (Nat × Instr × Nat) := [(0, .iload_n 3, 1), (1, .iload_n 2, 1), (2, .if_icmp .ge 13, 3), (5, .lload_n 0, 1), (6, .iload_n 2, 1), (7, .iconst 1, 1), (8, .isub, 1), (9, .iload_n 3, 1), (10, .isub, 1), (11, .invokestatic 59, 3), (14, .ireturn, 1), (15, .bipush 48, 2), (17, .ireturn, 1)]
theorem d_rm_fdg (i : Nat) : decode method_9_code (t_rm_fdg.getD i (0, .iload_n 3, 1)).1 = .ok (t_rm_fdg.getD i (0, .iload_n 3, 1)).2 := own_dt (by decide +kernel) (List.mem_cons_self ..) i
def Q_rm_fdg (Z : State) (vv : Int64) (vn : Nat) (dd : Int32) (d : Nat) (jj : Int32) (j : Nat) (h0 : Heap) (n0 : Nat) (v : Option Value) (h : Heap) (L : List Loc) : Prop := v = some (.int (own_fd vn d j)) ∧ Fr n0 L ∧ Keep h0 h []
set_option maxRecDepth 65536 in
set_option maxHeartbeats 40000000 in
theorem rm_fdg (l : Launch) (Z : State) (a0 : Array Value) (hw : ∀ d ∈ tables_1, d.before a0 Z = true) (ws : List Jvm.Cond) (vv : Int64) (vn : Nat) (dd : Int32) (d : Nat) (jj : Int32) (j : Nat) (h0 : Heap) (n0 : Nat) (O0 : Old Z n0 h0) (hv : vv.toInt = (vn : Int)) (hd : dd.toInt = (d : Int)) (hd6 : d ≤ 6) (hj : jj.toInt = (j : Int)) :
    own_Met l Z (⟨"com/example/tickfence/tickfence/PriceParsePinLaw", "fracDigit", "(JII)C"⟩ : MethodName) method_9_code 4 (some .char) ws ({ frames := 2, cells := 1, slots := 9, locals := 31 } : Room) #[(.long vv), (.int dd), (.int jj)] h0 (Q_rm_fdg Z vv vn dd d jj j h0 n0) := by
 refine MetFree.of_bodySF (plainFor_of_name own_pn0) hisR ?_
 intro p e s m args below meth c s₁ Bd hml0 hP hK
 obtain ⟨rfl, hZ, hh⟩ := hP
 have hx := Bd.exec
 have hby := Bd.bytes
 have D := fun i => hb hby (d_rm_fdg i)
 have hml : c.maxLocals = 4 := hml0
 have hown : s.vm.findClass "com/example/tickfence/tickfence/PriceParsePinLaw" = some m.cls := findClass_of_methodNamed Bd.named
 have hnm := (name_of_methodNamed Bd.named Bd.method).1
 have hlk : meth.locks = false := Bd.notSynchronized
 have X0 : Stand p l e ({ frames := 2, cells := 1, slots := 9, locals := 31 } : Room) s m #[(.long vv), (.int dd), (.int jj)] below meth c s₁ [] 0 0 := Stand.of_body Bd
 have e0 : s₁.heap = h0 := by rw [← hh, Bd.state]; rfl
 have N0 := Fr.nil n0
 suffices hgo : own_Ok p e below (own_Qx s (Q_rm_fdg Z vv vn dd d jj j h0 n0) 1 9) (s₁.setTop (mkF m 0 #[.val (.long vv), .second, .val (.int dd), .val (.int jj)] [])) from by
   obtain ⟨s₂, o, h1, h2⟩ := hgo
   exact ⟨s₂, o, castTop (own_ef_rm_fdg m vv dd jj) h1, h2⟩
 show own_Ok p e below _ (s₁.setTop (mkF m 0 #[.val (.long vv), .second, .val (.int dd), .val (.int jj)] []))
 refine s_iloadN X0 hx (D 0) rfl ?_
 refine s_iloadN X0 hx (D 1) rfl ?_
 by_cases c2_101 : jj < dd
 ·skip
  refine s_icmpNo X0 hx (D 2) (XT.ii_ge_f c2_101) ?_
  refine s_lloadN X0 hx (D 3) rfl ?_
  refine s_iloadN X0 hx (D 4) rfl ?_
  refine s_iconst X0 hx (1 : Int32) (D 5) rfl ?_
  refine s_isub X0 hx (D 6) ?_
  refine s_iloadN X0 hx (D 7) rfl ?_
  refine s_isub X0 hx (D 8) ?_
  obtain ⟨_, T102, Lc102, X102, hQ102, st102⟩ := own_callS X0 hx hZ hown (own_hw hw 20 rfl) (own_hw hw 21 rfl) (own_hw hw 5 rfl) (own_hw hw 22 rfl) (rm_dig l Z a0 hw [] vv vn (((dd - (1 : Int32)) - jj)) ((d - 1 - j)) h0 n0 O0 hv (own_fdk hj hd hd6 c2_101) (Nat.le_trans (own_fdY (v := vn) hj hd c2_101).2 (Nat.le_trans hd6 (by decide)))) (by decide) e0 (Ls := #[.val (.long vv), .second, .val (.int dd), .val (.int jj)]) [(.long vv), (.int ((dd - (1 : Int32)) - jj))] [] rfl (by rw [hml]; rfl) (lenOf own_pd1 rfl) (D 9) (by decide) 0 rfl (by decide) (by decide) (by decide)
  obtain ⟨rfl, Nq102, K102⟩ := hQ102
  have N102 := Fr.app N0 Nq102
  refine st102 _ ?_
  have e102 : T102.heap = T102.heap := rfl
  have f103 := (Keep.refl h0 []).trans K102 all0
  exact own_retN X102 hx hlk (t := .char) Bd.returns (by simp) (D 10) (by rw [e102]; exact ⟨(by rw [own_Lnar (own_Ldg _ _), (own_fdY hj hd c2_101).1]), N102, f103⟩) (by decide) (by decide)
 ·skip
  refine s_icmpYes X0 hx 15 (D 2) (XT.ii_ge_t c2_101) (by decide) (by decide) ?_
  refine s_bipush X0 hx (48 : Int32) (D 11) rfl ?_
  exact own_retN X0 hx hlk (t := .char) Bd.returns (by simp) (D 12) (by rw [e0]; exact ⟨(by rw [own_fdN hj hd c2_101]; rfl), N0, (Keep.refl h0 [])⟩) (by decide) (by decide)
theorem own_pd2 : parseMethodDescriptor "([C)V" = some ⟨[(.array .char)], none⟩ := by decide +kernel
theorem own_ef_rm_cut (m : MethodId) (ta : Addr) (nz : Int32) : entryFrame m #[(.ref ta), (.int nz)] 2 = mkF m 0 #[.val (.ref ta), .val (.int nz)] [] := by first | (simp [entryFrame, mkF, argsToLocals, Value.category]; done) | rfl
def t_rm_cut : List (Nat × Instr × Nat) := [(0, .iload_n 1, 1), (1, .bipush 9, 2), (3, .if_icmp .ne 75, 3), (6, .new 42, 3), (9, .dup, 1), (10, .bipush 9, 2), (12, .newarray .char, 2), (14, .dup, 1), (15, .iconst 0, 1), (16, .aload_n 0, 1), (17, .iconst 0, 1), (18, .caload, 1), (19, .castore, 1), (20, .dup, 1), (21, .iconst 1, 1), (22, .aload_n 0, 1), (23, .iconst 1, 1), (24, .caload, 1), (25, .castore, 1), (26, .dup, 1), (27, .iconst 2, 1), (28, .aload_n 0, 1), (29, .iconst 2, 1), (30, .caload, 1), (31, .castore, 1), (32, .dup, 1), (33, .iconst 3, 1), (34, .aload_n 0, 1), (35, .iconst 3, 1), (36, .caload, 1), (37, .castore, 1), (38, .dup, 1), (39, .iconst 4, 1), (40, .aload_n 0, 1), (41, .iconst 4, 1), (42, .caload, 1), (43, .castore, 1), (44, .dup, 1), (45, .iconst 5, 1), (46, .aload_n 0, 1), (47, .iconst 5, 1), (48, .caload, 1), (49, .castore, 1), (50, .dup, 1), (51, .bipush 6, 2), (53, .aload_n 0, 1), (54, .bipush 6, 2), (56, .caload, 1), (57, .castore, 1), (58, .dup, 1), (59, .bipush 7, 2), (61, .aload_n 0, 1), (62, .bipush 7, 2), (64, .caload, 1), (65, .castore, 1), (66, .dup, 1), (67, .bipush 8, 2), (69, .aload_n 0, 1), (70, .bipush 8, 2), (72, .caload, 1), (73, .castore, 1), (74, .invokespecial 87, 3), (77, .areturn, 1), (78, .iload_n 1, 1), (79, .bipush 11, 2), (81, .if_icmp .ne 91, 3), (84, .new 42, 3), (87, .dup, 1), (88, .bipush 11, 2), (90, .newarray .char, 2), (92, .dup, 1), (93, .iconst 0, 1), (94, .aload_n 0, 1), (95, .iconst 0, 1), (96, .caload, 1), (97, .castore, 1), (98, .dup, 1), (99, .iconst 1, 1), (100, .aload_n 0, 1), (101, .iconst 1, 1), (102, .caload, 1), (103, .castore, 1), (104, .dup, 1), (105, .iconst 2, 1), (106, .aload_n 0, 1), (107, .iconst 2, 1), (108, .caload, 1), (109, .castore, 1), (110, .dup, 1), (111, .iconst 3, 1), (112, .aload_n 0, 1), (113, .iconst 3, 1), (114, .caload, 1), (115, .castore, 1), (116, .dup, 1), (117, .iconst 4, 1), (118, .aload_n 0, 1), (119, .iconst 4, 1), (120, .caload, 1), (121, .castore, 1), (122, .dup, 1), (123, .iconst 5, 1), (124, .aload_n 0, 1), (125, .iconst 5, 1), (126, .caload, 1), (127, .castore, 1), (128, .dup, 1), (129, .bipush 6, 2), (131, .aload_n 0, 1), (132, .bipush 6, 2), (134, .caload, 1), (135, .castore, 1), (136, .dup, 1), (137, .bipush 7, 2), (139, .aload_n 0, 1), (140, .bipush 7, 2), (142, .caload, 1), (143, .castore, 1), (144, .dup, 1), (145, .bipush 8, 2), (147, .aload_n 0, 1), (148, .bipush 8, 2), (150, .caload, 1), (151, .castore, 1), (152, .dup, 1), (153, .bipush 9, 2), (155, .aload_n 0, 1), (156, .bipush 9, 2), (158, .caload, 1), (159, .castore, 1), (160, .dup, 1), (161, .bipush 10, 2), (163, .aload_n 0, 1), (164, .bipush 10, 2), (166, .caload, 1), (167, .castore, 1), (168, .invokespecial 87, 3), (171, .areturn, 1), (172, .iload_n 1, 1), (173, .bipush 12, 2), (175, .if_icmp .ne 99, 3), (178, .new 42, 3), (181, .dup, 1), (182, .bipush 12, 2), (184, .newarray .char, 2), (186, .dup, 1), (187, .iconst 0, 1), (188, .aload_n 0, 1), (189, .iconst 0, 1), (190, .caload, 1), (191, .castore, 1), (192, .dup, 1), (193, .iconst 1, 1), (194, .aload_n 0, 1), (195, .iconst 1, 1), (196, .caload, 1), (197, .castore, 1), (198, .dup, 1), (199, .iconst 2, 1), (200, .aload_n 0, 1), (201, .iconst 2, 1), (202, .caload, 1), (203, .castore, 1), (204, .dup, 1), (205, .iconst 3, 1), (206, .aload_n 0, 1), (207, .iconst 3, 1), (208, .caload, 1), (209, .castore, 1), (210, .dup, 1), (211, .iconst 4, 1), (212, .aload_n 0, 1), (213, .iconst 4, 1), (214, .caload, 1), (215, .castore, 1), (216, .dup, 1), (217, .iconst 5, 1), (218, .aload_n 0, 1), (219, .iconst 5, 1), (220, .caload, 1), (221, .castore, 1), (222, .dup, 1), (223, .bipush 6, 2), (225, .aload_n 0, 1), (226, .bipush 6, 2), (228, .caload, 1), (229, .castore, 1), (230, .dup, 1), (231, .bipush 7, 2), (233, .aload_n 0, 1), (234, .bipush 7, 2), (236, .caload, 1), (237, .castore, 1), (238, .dup, 1), (239, .bipush 8, 2), (241, .aload_n 0, 1), (242, .bipush 8, 2), (244, .caload, 1), (245, .castore, 1), (246, .dup, 1), (247, .bipush 9, 2), (249, .aload_n 0, 1), (250, .bipush 9, 2), (252, .caload, 1), (253, .castore, 1), (254, .dup, 1), (255, .bipush 10, 2), (257, .aload_n 0, 1), (258, .bipush 10, 2), (260, .caload, 1), (261, .castore, 1), (262, .dup, 1), (263, .bipush 11, 2), (265, .aload_n 0, 1), (266, .bipush 11, 2), (268, .caload, 1), (269, .castore, 1), (270, .invokespecial 87, 3), (273, .areturn, 1), (274, .iload_n 1, 1), (275, .bipush 13, 2), (277, .if_icmp .ne 107, 3), (280, .new 42, 3), (283, .dup, 1), (284, .bipush 13, 2), (286, .newarray .char, 2), (288, .dup, 1), (289, .iconst 0, 1), (290, .aload_n 0, 1), (291, .iconst 0, 1), (292, .caload, 1), (293, .castore, 1), (294, .dup, 1), (295, .iconst 1, 1), (296, .aload_n 0, 1), (297, .iconst 1, 1), (298, .caload, 1), (299, .castore, 1), (300, .dup, 1), (301, .iconst 2, 1), (302, .aload_n 0, 1), (303, .iconst 2, 1), (304, .caload, 1), (305, .castore, 1), (306, .dup, 1), (307, .iconst 3, 1), (308, .aload_n 0, 1), (309, .iconst 3, 1), (310, .caload, 1), (311, .castore, 1), (312, .dup, 1), (313, .iconst 4, 1), (314, .aload_n 0, 1), (315, .iconst 4, 1), (316, .caload, 1), (317, .castore, 1), (318, .dup, 1), (319, .iconst 5, 1), (320, .aload_n 0, 1), (321, .iconst 5, 1), (322, .caload, 1), (323, .castore, 1), (324, .dup, 1), (325, .bipush 6, 2), (327, .aload_n 0, 1), (328, .bipush 6, 2), (330, .caload, 1), (331, .castore, 1), (332, .dup, 1), (333, .bipush 7, 2), (335, .aload_n 0, 1), (336, .bipush 7, 2), (338, .caload, 1), (339, .castore, 1), (340, .dup, 1), (341, .bipush 8, 2), (343, .aload_n 0, 1), (344, .bipush 8, 2), (346, .caload, 1), (347, .castore, 1), (348, .dup, 1), (349, .bipush 9, 2), (351, .aload_n 0, 1), (352, .bipush 9, 2), (354, .caload, 1), (355, .castore, 1), (356, .dup, 1), (357, .bipush 10, 2), (359, .aload_n 0, 1), (360, .bipush 10, 2), (362, .caload, 1), (363, .castore, 1), (364, .dup, 1), (365, .bipush 11, 2), (367, .aload_n 0, 1), (368, .bipush 11, 2), (370, .caload, 1), (371, .castore, 1), (372, .dup, 1), (373, .bipush 12, 2), (375, .aload_n 0, 1), (376, .bipush 12, 2), (378, .caload, 1), (379, .castore, 1), (380, .invokespecial 87, 3), (383, .areturn, 1), (384, .iload_n 1, 1), (385, .bipush 14, 2), (387, .if_icmp .ne 115, 3), (390, .new 42, 3), (393, .dup, 1), (394, .bipush 14, 2), (396, .newarray .char, 2), (398, .dup, 1), (399, .iconst 0, 1), (400, .aload_n 0, 1), (401, .iconst 0, 1), (402, .caload, 1), (403, .castore, 1), (404, .dup, 1), (405, .iconst 1, 1), (406, .aload_n 0, 1), (407, .iconst 1, 1), (408, .caload, 1), (409, .castore, 1), (410, .dup, 1), (411, .iconst 2, 1), (412, .aload_n 0, 1), (413, .iconst 2, 1), (414, .caload, 1), (415, .castore, 1), (416, .dup, 1), (417, .iconst 3, 1), (418, .aload_n 0, 1), (419, .iconst 3, 1), (420, .caload, 1), (421, .castore, 1), (422, .dup, 1), (423, .iconst 4, 1), (424, .aload_n 0, 1), (425, .iconst 4, 1), (426, .caload, 1), (427, .castore, 1), (428, .dup, 1), (429, .iconst 5, 1), (430, .aload_n 0, 1), (431, .iconst 5, 1), (432, .caload, 1), (433, .castore, 1), (434, .dup, 1), (435, .bipush 6, 2), (437, .aload_n 0, 1), (438, .bipush 6, 2), (440, .caload, 1), (441, .castore, 1), (442, .dup, 1), (443, .bipush 7, 2), (445, .aload_n 0, 1), (446, .bipush 7, 2), (448, .caload, 1), (449, .castore, 1), (450, .dup, 1), (451, .bipush 8, 2), (453, .aload_n 0, 1), (454, .bipush 8, 2), (456, .caload, 1), (457, .castore, 1), (458, .dup, 1), (459, .bipush 9, 2), (461, .aload_n 0, 1), (462, .bipush 9, 2), (464, .caload, 1), (465, .castore, 1), (466, .dup, 1), (467, .bipush 10, 2), (469, .aload_n 0, 1), (470, .bipush 10, 2), (472, .caload, 1), (473, .castore, 1), (474, .dup, 1), (475, .bipush 11, 2), (477, .aload_n 0, 1), (478, .bipush 11, 2), (480, .caload, 1), (481, .castore, 1), (482, .dup, 1), (483, .bipush 12, 2), (485, .aload_n 0, 1), (486, .bipush 12, 2), (488, .caload, 1), (489, .castore, 1), (490, .dup, 1), (491, .bipush 13, 2), (493, .aload_n 0, 1), (494, .bipush 13, 2), (496, .caload, 1), (497, .castore, 1), (498, .invokespecial 87, 3), (501, .areturn, 1), (502, .iload_n 1, 1), (503, .bipush 15, 2), (505, .if_icmp .ne 123, 3), (508, .new 42, 3), (511, .dup, 1), (512, .bipush 15, 2), (514, .newarray .char, 2), (516, .dup, 1), (517, .iconst 0, 1), (518, .aload_n 0, 1), (519, .iconst 0, 1), (520, .caload, 1), (521, .castore, 1), (522, .dup, 1), (523, .iconst 1, 1), (524, .aload_n 0, 1), (525, .iconst 1, 1), (526, .caload, 1), (527, .castore, 1), (528, .dup, 1), (529, .iconst 2, 1), (530, .aload_n 0, 1), (531, .iconst 2, 1), (532, .caload, 1), (533, .castore, 1), (534, .dup, 1), (535, .iconst 3, 1), (536, .aload_n 0, 1), (537, .iconst 3, 1), (538, .caload, 1), (539, .castore, 1), (540, .dup, 1), (541, .iconst 4, 1), (542, .aload_n 0, 1), (543, .iconst 4, 1), (544, .caload, 1), (545, .castore, 1), (546, .dup, 1), (547, .iconst 5, 1), (548, .aload_n 0, 1), (549, .iconst 5, 1), (550, .caload, 1), (551, .castore, 1), (552, .dup, 1), (553, .bipush 6, 2), (555, .aload_n 0, 1), (556, .bipush 6, 2), (558, .caload, 1), (559, .castore, 1), (560, .dup, 1), (561, .bipush 7, 2), (563, .aload_n 0, 1), (564, .bipush 7, 2), (566, .caload, 1), (567, .castore, 1), (568, .dup, 1), (569, .bipush 8, 2), (571, .aload_n 0, 1), (572, .bipush 8, 2), (574, .caload, 1), (575, .castore, 1), (576, .dup, 1), (577, .bipush 9, 2), (579, .aload_n 0, 1), (580, .bipush 9, 2), (582, .caload, 1), (583, .castore, 1), (584, .dup, 1), (585, .bipush 10, 2), (587, .aload_n 0, 1), (588, .bipush 10, 2), (590, .caload, 1), (591, .castore, 1), (592, .dup, 1), (593, .bipush 11, 2), (595, .aload_n 0, 1), (596, .bipush 11, 2), (598, .caload, 1), (599, .castore, 1), (600, .dup, 1), (601, .bipush 12, 2), (603, .aload_n 0, 1), (604, .bipush 12, 2), (606, .caload, 1), (607, .castore, 1), (608, .dup, 1), (609, .bipush 13, 2), (611, .aload_n 0, 1), (612, .bipush 13, 2), (614, .caload, 1), (615, .castore, 1), (616, .dup, 1), (617, .bipush 14, 2), (619, .aload_n 0, 1), (620, .bipush 14, 2), (622, .caload, 1), (623, .castore, 1), (624, .invokespecial 87, 3), (627, .areturn, 1), (628, .new 42, 3), (631, .dup, 1), (632, .aload_n 0, 1), (633, .invokespecial 87, 3), (636, .areturn, 1)]
theorem d_rm_cut (i : Nat) : decode method_11_code (t_rm_cut.getD i (0, .iload_n 1, 1)).1 = .ok (t_rm_cut.getD i (0, .iload_n 1, 1)).2 := own_dt (by decide +kernel) (List.mem_cons_self ..) i
def Q_rm_cut (Z : State) (G1 : Int32) (ta : Addr) (ka : ClassId) (nz : Int32) (N : Nat) (c0 : Int32) (c1 : Int32) (c2 : Int32) (c3 : Int32) (c4 : Int32) (c5 : Int32) (c6 : Int32) (c7 : Int32) (c8 : Int32) (c9 : Int32) (c10 : Int32) (c11 : Int32) (c12 : Int32) (c13 : Int32) (c14 : Int32) (c15 : Int32) (h0 : Heap) (n0 : Nat) (v : Option Value) (h : Heap) (L : List Loc) : Prop := ∃ (az : Addr), ∃ (tz : Addr), ∃ (kz : ClassId), v = some (.ref az) ∧ Fr n0 L ∧ Keep h0 h [] ∧ Exa Z h az "java/lang/String" ∧ Fld Z h az "java/lang/String" "coder" "B" (.int (0 : Int32)) ∧ Fld Z h az "java/lang/String" "value" "[B" (.ref tz) ∧ Arv Z h tz kz .byte nz (own_bv (([c0, c1, c2, c3, c4, c5, c6, c7, c8, c9, c10, c11, c12, c13, c14, c15] : List Int32).take N)) (.int (0 : Int32)) ∧ h0.size ≤ az ∧ h0.size ≤ tz
set_option maxRecDepth 65536 in
set_option maxHeartbeats 40000000 in
theorem rm_cut (l : Launch) (Z : State) (a0 : Array Value) (hw : ∀ d ∈ tables_1, d.before a0 Z = true) (ws : List Jvm.Cond) (G1 : Int32) (ta : Addr) (ka : ClassId) (nz : Int32) (N : Nat) (c0 : Int32) (c1 : Int32) (c2 : Int32) (c3 : Int32) (c4 : Int32) (c5 : Int32) (c6 : Int32) (c7 : Int32) (c8 : Int32) (c9 : Int32) (c10 : Int32) (c11 : Int32) (c12 : Int32) (c13 : Int32) (c14 : Int32) (c15 : Int32) (h0 : Heap) (n0 : Nat) (O0 : Old Z n0 h0) (SG1 : Sta Z Z.heap "java/lang/String" "COMPACT_STRINGS" "Z" (.int G1)) (PG1 : ¬ (G1 = (0 : Int32))) (VA : Arv Z h0 ta ka .char (16 : Int32) [(.int c0), (.int c1), (.int c2), (.int c3), (.int c4), (.int c5), (.int c6), (.int c7), (.int c8), (.int c9), (.int c10), (.int c11), (.int c12), (.int c13), (.int c14), (.int c15)] (.int (0 : Int32))) (hz : nz = Int32.ofNat N) (hN : N = 9 ∨ N = 11 ∨ N = 12 ∨ N = 13 ∨ N = 14 ∨ N = 15 ∨ N = 16) (r0 : own_L c0) (r1 : own_L c1) (r2 : own_L c2) (r3 : own_L c3) (r4 : own_L c4) (r5 : own_L c5) (r6 : own_L c6) (r7 : own_L c7) (r8 : own_L c8) (r9 : own_L c9) (r10 : own_L c10) (r11 : own_L c11) (r12 : own_L c12) (r13 : own_L c13) (r14 : own_L c14) (r15 : own_L c15) :
    own_Met l Z (⟨"com/example/tickfence/tickfence/PriceParsePinLaw", "cut", "([CI)Ljava/lang/String;"⟩ : MethodName) method_11_code 2 (some (.object "java/lang/String")) ws ({ frames := 4, cells := 3, slots := 34, locals := 66 } : Room) #[(.ref ta), (.int nz)] h0 (Q_rm_cut Z G1 ta ka nz N c0 c1 c2 c3 c4 c5 c6 c7 c8 c9 c10 c11 c12 c13 c14 c15 h0 n0) := by
 refine MetFree.of_bodySF (plainFor_of_name own_pn0) hisR ?_
 intro p e s m args below meth c s₁ Bd hml0 hP hK
 obtain ⟨rfl, hZ, hh⟩ := hP
 have hx := Bd.exec
 have hby := Bd.bytes
 have D := fun i => hb hby (d_rm_cut i)
 have hml : c.maxLocals = 2 := hml0
 have hown : s.vm.findClass "com/example/tickfence/tickfence/PriceParsePinLaw" = some m.cls := findClass_of_methodNamed Bd.named
 have hnm := (name_of_methodNamed Bd.named Bd.method).1
 have hlk : meth.locks = false := Bd.notSynchronized
 have X0 : Stand p l e ({ frames := 4, cells := 3, slots := 34, locals := 66 } : Room) s m #[(.ref ta), (.int nz)] below meth c s₁ [] 0 0 := Stand.of_body Bd
 have e0 : s₁.heap = h0 := by rw [← hh, Bd.state]; rfl
 have N0 := Fr.nil n0
 suffices hgo : own_Ok p e below (own_Qx s (Q_rm_cut Z G1 ta ka nz N c0 c1 c2 c3 c4 c5 c6 c7 c8 c9 c10 c11 c12 c13 c14 c15 h0 n0) 3 34) (s₁.setTop (mkF m 0 #[.val (.ref ta), .val (.int nz)] [])) from by
   obtain ⟨s₂, o, h1, h2⟩ := hgo
   exact ⟨s₂, o, castTop (own_ef_rm_cut m ta nz) h1, h2⟩
 have hws : ∀ d ∈ StrChars.Road.words, d.before a0 Z = true := fun d hd => hw d ((by decide +kernel : ∀ d ∈ StrChars.Road.words, d ∈ tables_1) d hd)
 show own_Ok p e below _ (s₁.setTop (mkF m 0 #[.val (.ref ta), .val (.int nz)] []))
 rcases hN with rfl | rfl | rfl | rfl | rfl | rfl | rfl
 ·skip
  subst hz
  show own_Ok p e below _ (s₁.setTop (mkF m 0 #[.val (.ref ta), .val (.int (9 : Int32))] []))
  refine s_iloadN X0 hx (D 0) rfl ?_
  refine s_bipush X0 hx (9 : Int32) (D 1) rfl ?_
  refine s_icmpNo X0 hx (D 2) (XT.ii_ne_f (by decide)) ?_
  obtain ⟨T101, h101, X101, e101, E101, A101, D101, -, st101⟩ := newO X0 hx hZ hown (own_hw hw 29 rfl) (own_hw hw 30 rfl) (own_hw hw 31 rfl) e0 (g := (mkF m 6 #[.val (.ref ta), .val (.int (9 : Int32))] [])) rfl (D 3) (by decide) (by decide)
  obtain ⟨b101, g101⟩ : ∃ z, z = h0.size := ⟨_, rfl⟩
  rw [← g101] at A101 D101 st101
  refine own_st st101 ?_
  have gb_b101 : n0 ≤ b101 := Nat.le_trans (own_n0 O0) (Nat.le_of_eq g101.symm)
  have gz_b101 : h0.size ≤ b101 := Nat.le_trans (Keep.refl h0 []).1 (Nat.le_of_eq g101.symm)
  have ne_ta_b101 : ta ≠ b101 := Nat.ne_of_lt (Nat.lt_of_lt_of_le VA.lt (Nat.le_of_eq g101.symm))
  have F101_coder : Fld Z h101 b101 "java/lang/String" "coder" "B" (.int (0 : Int32)) := D101 (Or.inr (own_hw hw 55 rfl)) (ty := .byte) (by decide)
  have F101_value : Fld Z h101 b101 "java/lang/String" "value" "[B" .null := D101 (Or.inr (own_hw hw 57 rfl)) (ty := (.array .byte)) (by decide)
  show own_Ok p e below _ (T101.setTop (mkF m 9 #[.val (.ref ta), .val (.int (9 : Int32))] [(.ref b101)]))
  refine s_dup X101 hx (D 4) rfl ?_
  refine s_bipush X101 hx (9 : Int32) (D 5) rfl ?_
  obtain ⟨T102, h102, k102, X102, e102, E102, A102, st102⟩ := newP X101 hx hZ (own_hw hw 19 rfl) e101 (g := (mkF m 12 #[.val (.ref ta), .val (.int (9 : Int32))] [(.int (9 : Int32)), (.ref b101), (.ref b101)])) rfl (D 6) rfl (by decide) (cap := 9) (by decide) (by decide) (by decide) (by decide)
  obtain ⟨b102, g102⟩ : ∃ z, z = h101.size := ⟨_, rfl⟩
  rw [← g102] at A102 st102
  refine own_st st102 ?_
  have f103 := O0.ext E101
  have gb_b102 : n0 ≤ b102 := Nat.le_trans (own_n0 f103) (Nat.le_of_eq g102.symm)
  have f104 := (Keep.refl h0 []).ext E101
  have gz_b102 : h0.size ≤ b102 := Nat.le_trans f104.1 (Nat.le_of_eq g102.symm)
  have f105 := VA.ext E101
  have ne_ta_b102 : ta ≠ b102 := Nat.ne_of_lt (Nat.lt_of_lt_of_le f105.lt (Nat.le_of_eq g102.symm))
  have ne_b101_b102 : b101 ≠ b102 := Nat.ne_of_lt (Nat.lt_of_lt_of_le A101.lt (Nat.le_of_eq g102.symm))
  have V102 : Arv Z h102 b102 k102 .char (9 : Int32) [(.int (0 : Int32)), (.int (0 : Int32)), (.int (0 : Int32)), (.int (0 : Int32)), (.int (0 : Int32)), (.int (0 : Int32)), (.int (0 : Int32)), (.int (0 : Int32)), (.int (0 : Int32))] (.int (0 : Int32)) := (Arv.new A102 (by decide)).pad (pad_rep [] (.int (0 : Int32)) 9)
  show own_Ok p e below _ (T102.setTop (mkF m 14 #[.val (.ref ta), .val (.int (9 : Int32))] [(.ref b102), (.ref b101), (.ref b101)]))
  refine s_dup X102 hx (D 7) rfl ?_
  refine s_iconst X102 hx (0 : Int32) (D 8) rfl ?_
  refine s_aloadN X102 hx (D 9) rfl rfl ?_
  refine s_iconst X102 hx (0 : Int32) (D 10) rfl ?_
  have f106 := f105.ext E102
  refine l_C X102 hx hZ e102 f106 (v := c0) (by decide) (by decide) rfl (D 11) ?_
  refine t_Cn X102 hx hZ e102 V102 0 rfl (by decide) (by decide) (Nat.le_of_ble_eq_true rfl) (own_Lnar r0) N0 gb_b102 (D 12) fun T107 h107 X107 e107 W107 V107 N107 => ?_
  refine s_dup X107 hx (D 13) rfl ?_
  refine s_iconst X107 hx (1 : Int32) (D 14) rfl ?_
  refine s_aloadN X107 hx (D 15) rfl rfl ?_
  refine s_iconst X107 hx (1 : Int32) (D 16) rfl ?_
  have f108 := f106.other W107 ne_ta_b102
  refine l_C X107 hx hZ e107 f108 (v := c1) (by decide) (by decide) rfl (D 17) ?_
  refine t_Cn X107 hx hZ e107 V107 1 rfl (by decide) (by decide) (Nat.le_of_ble_eq_true rfl) (own_Lnar r1) N107 gb_b102 (D 18) fun T109 h109 X109 e109 W109 V109 N109 => ?_
  refine s_dup X109 hx (D 19) rfl ?_
  refine s_iconst X109 hx (2 : Int32) (D 20) rfl ?_
  refine s_aloadN X109 hx (D 21) rfl rfl ?_
  refine s_iconst X109 hx (2 : Int32) (D 22) rfl ?_
  have f110 := f108.other W109 ne_ta_b102
  refine l_C X109 hx hZ e109 f110 (v := c2) (by decide) (by decide) rfl (D 23) ?_
  refine t_Cn X109 hx hZ e109 V109 2 rfl (by decide) (by decide) (Nat.le_of_ble_eq_true rfl) (own_Lnar r2) N109 gb_b102 (D 24) fun T111 h111 X111 e111 W111 V111 N111 => ?_
  refine s_dup X111 hx (D 25) rfl ?_
  refine s_iconst X111 hx (3 : Int32) (D 26) rfl ?_
  refine s_aloadN X111 hx (D 27) rfl rfl ?_
  refine s_iconst X111 hx (3 : Int32) (D 28) rfl ?_
  have f112 := f110.other W111 ne_ta_b102
  refine l_C X111 hx hZ e111 f112 (v := c3) (by decide) (by decide) rfl (D 29) ?_
  refine t_Cn X111 hx hZ e111 V111 3 rfl (by decide) (by decide) (Nat.le_of_ble_eq_true rfl) (own_Lnar r3) N111 gb_b102 (D 30) fun T113 h113 X113 e113 W113 V113 N113 => ?_
  refine s_dup X113 hx (D 31) rfl ?_
  refine s_iconst X113 hx (4 : Int32) (D 32) rfl ?_
  refine s_aloadN X113 hx (D 33) rfl rfl ?_
  refine s_iconst X113 hx (4 : Int32) (D 34) rfl ?_
  have f114 := f112.other W113 ne_ta_b102
  refine l_C X113 hx hZ e113 f114 (v := c4) (by decide) (by decide) rfl (D 35) ?_
  refine t_Cn X113 hx hZ e113 V113 4 rfl (by decide) (by decide) (Nat.le_of_ble_eq_true rfl) (own_Lnar r4) N113 gb_b102 (D 36) fun T115 h115 X115 e115 W115 V115 N115 => ?_
  refine s_dup X115 hx (D 37) rfl ?_
  refine s_iconst X115 hx (5 : Int32) (D 38) rfl ?_
  refine s_aloadN X115 hx (D 39) rfl rfl ?_
  refine s_iconst X115 hx (5 : Int32) (D 40) rfl ?_
  have f116 := f114.other W115 ne_ta_b102
  refine l_C X115 hx hZ e115 f116 (v := c5) (by decide) (by decide) rfl (D 41) ?_
  refine t_Cn X115 hx hZ e115 V115 5 rfl (by decide) (by decide) (Nat.le_of_ble_eq_true rfl) (own_Lnar r5) N115 gb_b102 (D 42) fun T117 h117 X117 e117 W117 V117 N117 => ?_
  refine s_dup X117 hx (D 43) rfl ?_
  refine s_bipush X117 hx (6 : Int32) (D 44) rfl ?_
  refine s_aloadN X117 hx (D 45) rfl rfl ?_
  refine s_bipush X117 hx (6 : Int32) (D 46) rfl ?_
  have f118 := f116.other W117 ne_ta_b102
  refine l_C X117 hx hZ e117 f118 (v := c6) (by decide) (by decide) rfl (D 47) ?_
  show own_Ok p e below _ (T117.setTop (mkF m 57 #[.val (.ref ta), .val (.int (9 : Int32))] [(.int c6), (.int (6 : Int32)), (.ref b102), (.ref b102), (.ref b101), (.ref b101)]))
  refine t_Cn X117 hx hZ e117 V117 6 rfl (by decide) (by decide) (Nat.le_of_ble_eq_true rfl) (own_Lnar r6) N117 gb_b102 (D 48) fun T119 h119 X119 e119 W119 V119 N119 => ?_
  refine s_dup X119 hx (D 49) rfl ?_
  refine s_bipush X119 hx (7 : Int32) (D 50) rfl ?_
  refine s_aloadN X119 hx (D 51) rfl rfl ?_
  refine s_bipush X119 hx (7 : Int32) (D 52) rfl ?_
  have f120 := f118.other W119 ne_ta_b102
  refine l_C X119 hx hZ e119 f120 (v := c7) (by decide) (by decide) rfl (D 53) ?_
  refine t_Cn X119 hx hZ e119 V119 7 rfl (by decide) (by decide) (Nat.le_of_ble_eq_true rfl) (own_Lnar r7) N119 gb_b102 (D 54) fun T121 h121 X121 e121 W121 V121 N121 => ?_
  refine s_dup X121 hx (D 55) rfl ?_
  refine s_bipush X121 hx (8 : Int32) (D 56) rfl ?_
  refine s_aloadN X121 hx (D 57) rfl rfl ?_
  refine s_bipush X121 hx (8 : Int32) (D 58) rfl ?_
  have f122 := f120.other W121 ne_ta_b102
  refine l_C X121 hx hZ e121 f122 (v := c8) (by decide) (by decide) rfl (D 59) ?_
  refine t_Cn X121 hx hZ e121 V121 8 rfl (by decide) (by decide) (Nat.le_of_ble_eq_true rfl) (own_Lnar r8) N121 gb_b102 (D 60) fun T123 h123 X123 e123 W123 V123 N123 => ?_
  have f125 := A101.ext E102
  have f126 := f125.wr W107
  have f127 := f126.wr W109
  have f128 := f127.wr W111
  have f129 := f128.wr W113
  have f130 := f129.wr W115
  have f131 := f130.wr W117
  have f132 := f131.wr W119
  have f133 := f132.wr W121
  have f134 := f133.wr W123
  have f135 := F101_value.ext E102
  have f136 := f135.other W107 (Or.inl ne_b101_b102)
  have f137 := f136.other W109 (Or.inl ne_b101_b102)
  have f138 := f137.other W111 (Or.inl ne_b101_b102)
  have f139 := f138.other W113 (Or.inl ne_b101_b102)
  have f140 := f139.other W115 (Or.inl ne_b101_b102)
  have f141 := f140.other W117 (Or.inl ne_b101_b102)
  have f142 := f141.other W119 (Or.inl ne_b101_b102)
  have f143 := f142.other W121 (Or.inl ne_b101_b102)
  have f144 := f143.other W123 (Or.inl ne_b101_b102)
  have f145 := F101_coder.ext E102
  have f146 := f145.other W107 (Or.inl ne_b101_b102)
  have f147 := f146.other W109 (Or.inl ne_b101_b102)
  have f148 := f147.other W111 (Or.inl ne_b101_b102)
  have f149 := f148.other W113 (Or.inl ne_b101_b102)
  have f150 := f149.other W115 (Or.inl ne_b101_b102)
  have f151 := f150.other W117 (Or.inl ne_b101_b102)
  have f152 := f151.other W119 (Or.inl ne_b101_b102)
  have f153 := f152.other W121 (Or.inl ne_b101_b102)
  have f154 := f153.other W123 (Or.inl ne_b101_b102)
  have f155 := f103.ext E102
  have f156 := f155.wr W107 gb_b102
  have f157 := f156.wr W109 gb_b102
  have f158 := f157.wr W111 gb_b102
  have f159 := f158.wr W113 gb_b102
  have f160 := f159.wr W115 gb_b102
  have f161 := f160.wr W117 gb_b102
  have f162 := f161.wr W119 gb_b102
  have f163 := f162.wr W121 gb_b102
  have f164 := f163.wr W123 gb_b102
  obtain ⟨_, _, ⟨T124, L124, k124, n124⟩, -, X124, ⟨Lc124, hQ124, l124, y124, z124⟩, st124⟩ := X123.specialBack hx (y := (⟨"java/lang/String", "<init>", "([C)V"⟩ : MethodName)) rfl hown (mvT hZ (own_hw hw 32 rfl)) (mvT hZ (own_hw hw 33 rfl)) (mvT hZ (own_hw hw 34 rfl)) (by decide) (StrChars.Road.backV (W := 1) hZ hws (kI := 4) (own_hw hw 30 rfl) (cs := ([c0, c1, c2, c3, c4, c5, c6, c7, c8] : List Int32)) (bs := (([c0, c1, c2, c3, c4, c5, c6, c7, c8] : List Int32)).map (fun c => c.toInt8.toInt32)) (n := 9) gb_b101 (own_n0 f164) f134 f144 f154 V123 (SG1.ext f164.2) PG1 rfl rfl (by decide) (by decide) (List.forall_mem_cons.mpr ⟨r0, (List.forall_mem_cons.mpr ⟨r1, (List.forall_mem_cons.mpr ⟨r2, (List.forall_mem_cons.mpr ⟨r3, (List.forall_mem_cons.mpr ⟨r4, (List.forall_mem_cons.mpr ⟨r5, (List.forall_mem_cons.mpr ⟨r6, (List.forall_mem_cons.mpr ⟨r7, (List.forall_mem_cons.mpr ⟨r8, (List.forall_mem_nil _)⟩)⟩)⟩)⟩)⟩)⟩)⟩)⟩)⟩) rfl (by decide) (by decide)) (g := (mkF m 74 #[.val (.ref ta), .val (.int (9 : Int32))] [(.ref b102), (.ref b101), (.ref b101)])) rfl (by rw [hml]; rfl) (Steps.refl _) (a := b101) (argsL := [(.ref b102)]) (rest := [(.ref b101)]) (lenOf own_pd2 rfl) rfl (by show 2 * 0 + _ ≤ _; exact Nat.le_of_eq rfl) (D 61) (fun _ _ => ⟨rfl, e123, (by decide : 2 + 1 ≤ _), (by decide : 13 + 9 ≤ _)⟩)
  dsimp only [Pt.U, Pt.locs, Pt.cells, Pt.slots] at X124 l124 y124 z124 st124 hQ124
  subst l124 y124 z124
  obtain ⟨rfl, Nq124, K124, g124_0, g124_1, tS_164, kS_164, u1_164, u2_164, u3_164, vS_164, aS_164⟩ := hQ124
  have N124 := Fr.app N123 Nq124
  refine own_st (fun _ k => st124.trans k) ?_
  have gb_tS_164 : n0 ≤ tS_164 := Nat.le_trans (own_n0 f164) u2_164
  have f165 := f104.ext E102
  have f166 := f165.wr W107 (Or.inr gz_b102)
  have f167 := f166.wr W109 (Or.inr gz_b102)
  have f168 := f167.wr W111 (Or.inr gz_b102)
  have f169 := f168.wr W113 (Or.inr gz_b102)
  have f170 := f169.wr W115 (Or.inr gz_b102)
  have f171 := f170.wr W117 (Or.inr gz_b102)
  have f172 := f171.wr W119 (Or.inr gz_b102)
  have f173 := f172.wr W121 (Or.inr gz_b102)
  have f174 := f173.wr W123 (Or.inr gz_b102)
  have gz_tS_164 : h0.size ≤ tS_164 := Nat.le_trans f174.1 u2_164
  have f175 := f122.other W123 ne_ta_b102
  have ne_ta_tS_164 : ta ≠ tS_164 := Nat.ne_of_lt (Nat.lt_of_lt_of_le f175.lt u2_164)
  have ne_b101_tS_164 : b101 ≠ tS_164 := Nat.ne_of_lt (Nat.lt_of_lt_of_le f134.lt u2_164)
  have ne_b102_tS_164 : b102 ≠ tS_164 := Nat.ne_of_lt (Nat.lt_of_lt_of_le V123.lt u2_164)
  have e124 : T124.heap = T124.heap := rfl
  show own_Ok p e below _ (T124.setTop (mkF m 77 #[.val (.ref ta), .val (.int (9 : Int32))] [(.ref b101)]))
  show own_Ok p e below _ (T124.setTop (mkF m 77 #[.val (.ref ta), .val (.int (9 : Int32))] [(.ref b101)]))
  have f176 := f174.trans K124 (allS (Or.inr gz_b101) all0)
  exact own_retA X124 hx hlk (t := (.object "java/lang/String")) rfl Bd.returns rfl (D 62) (by rw [e124]; exact ⟨b101, tS_164, kS_164, rfl, N124, f176, g124_0, g124_1, vS_164, aS_164, gz_b101, gz_tS_164⟩) (by decide) (by decide)
 ·skip
  subst hz
  show own_Ok p e below _ (s₁.setTop (mkF m 0 #[.val (.ref ta), .val (.int (11 : Int32))] []))
  refine s_iloadN X0 hx (D 0) rfl ?_
  refine s_bipush X0 hx (9 : Int32) (D 1) rfl ?_
  refine s_icmpYes X0 hx 78 (D 2) (XT.ii_ne_t (by decide)) (by decide) (by decide) ?_
  refine s_iloadN X0 hx (D 63) rfl ?_
  refine s_bipush X0 hx (11 : Int32) (D 64) rfl ?_
  refine s_icmpNo X0 hx (D 65) (XT.ii_ne_f (by decide)) ?_
  obtain ⟨T177, h177, X177, e177, E177, A177, D177, -, st177⟩ := newO X0 hx hZ hown (own_hw hw 29 rfl) (own_hw hw 30 rfl) (own_hw hw 31 rfl) e0 (g := (mkF m 84 #[.val (.ref ta), .val (.int (11 : Int32))] [])) rfl (D 66) (by decide) (by decide)
  obtain ⟨b177, g177⟩ : ∃ z, z = h0.size := ⟨_, rfl⟩
  rw [← g177] at A177 D177 st177
  refine own_st st177 ?_
  have gb_b177 : n0 ≤ b177 := Nat.le_trans (own_n0 O0) (Nat.le_of_eq g177.symm)
  have gz_b177 : h0.size ≤ b177 := Nat.le_trans (Keep.refl h0 []).1 (Nat.le_of_eq g177.symm)
  have ne_ta_b177 : ta ≠ b177 := Nat.ne_of_lt (Nat.lt_of_lt_of_le VA.lt (Nat.le_of_eq g177.symm))
  have F177_coder : Fld Z h177 b177 "java/lang/String" "coder" "B" (.int (0 : Int32)) := D177 (Or.inr (own_hw hw 55 rfl)) (ty := .byte) (by decide)
  have F177_value : Fld Z h177 b177 "java/lang/String" "value" "[B" .null := D177 (Or.inr (own_hw hw 57 rfl)) (ty := (.array .byte)) (by decide)
  show own_Ok p e below _ (T177.setTop (mkF m 87 #[.val (.ref ta), .val (.int (11 : Int32))] [(.ref b177)]))
  refine s_dup X177 hx (D 67) rfl ?_
  refine s_bipush X177 hx (11 : Int32) (D 68) rfl ?_
  obtain ⟨T178, h178, k178, X178, e178, E178, A178, st178⟩ := newP X177 hx hZ (own_hw hw 19 rfl) e177 (g := (mkF m 90 #[.val (.ref ta), .val (.int (11 : Int32))] [(.int (11 : Int32)), (.ref b177), (.ref b177)])) rfl (D 69) rfl (by decide) (cap := 11) (by decide) (by decide) (by decide) (by decide)
  obtain ⟨b178, g178⟩ : ∃ z, z = h177.size := ⟨_, rfl⟩
  rw [← g178] at A178 st178
  refine own_st st178 ?_
  have f179 := O0.ext E177
  have gb_b178 : n0 ≤ b178 := Nat.le_trans (own_n0 f179) (Nat.le_of_eq g178.symm)
  have f180 := (Keep.refl h0 []).ext E177
  have gz_b178 : h0.size ≤ b178 := Nat.le_trans f180.1 (Nat.le_of_eq g178.symm)
  have f181 := VA.ext E177
  have ne_ta_b178 : ta ≠ b178 := Nat.ne_of_lt (Nat.lt_of_lt_of_le f181.lt (Nat.le_of_eq g178.symm))
  have ne_b177_b178 : b177 ≠ b178 := Nat.ne_of_lt (Nat.lt_of_lt_of_le A177.lt (Nat.le_of_eq g178.symm))
  have V178 : Arv Z h178 b178 k178 .char (11 : Int32) [(.int (0 : Int32)), (.int (0 : Int32)), (.int (0 : Int32)), (.int (0 : Int32)), (.int (0 : Int32)), (.int (0 : Int32)), (.int (0 : Int32)), (.int (0 : Int32)), (.int (0 : Int32)), (.int (0 : Int32)), (.int (0 : Int32))] (.int (0 : Int32)) := (Arv.new A178 (by decide)).pad (pad_rep [] (.int (0 : Int32)) 11)
  show own_Ok p e below _ (T178.setTop (mkF m 92 #[.val (.ref ta), .val (.int (11 : Int32))] [(.ref b178), (.ref b177), (.ref b177)]))
  refine s_dup X178 hx (D 70) rfl ?_
  refine s_iconst X178 hx (0 : Int32) (D 71) rfl ?_
  refine s_aloadN X178 hx (D 72) rfl rfl ?_
  refine s_iconst X178 hx (0 : Int32) (D 73) rfl ?_
  have f182 := f181.ext E178
  refine l_C X178 hx hZ e178 f182 (v := c0) (by decide) (by decide) rfl (D 74) ?_
  refine t_Cn X178 hx hZ e178 V178 0 rfl (by decide) (by decide) (Nat.le_of_ble_eq_true rfl) (own_Lnar r0) N0 gb_b178 (D 75) fun T183 h183 X183 e183 W183 V183 N183 => ?_
  refine s_dup X183 hx (D 76) rfl ?_
  refine s_iconst X183 hx (1 : Int32) (D 77) rfl ?_
  refine s_aloadN X183 hx (D 78) rfl rfl ?_
  refine s_iconst X183 hx (1 : Int32) (D 79) rfl ?_
  have f184 := f182.other W183 ne_ta_b178
  refine l_C X183 hx hZ e183 f184 (v := c1) (by decide) (by decide) rfl (D 80) ?_
  refine t_Cn X183 hx hZ e183 V183 1 rfl (by decide) (by decide) (Nat.le_of_ble_eq_true rfl) (own_Lnar r1) N183 gb_b178 (D 81) fun T185 h185 X185 e185 W185 V185 N185 => ?_
  refine s_dup X185 hx (D 82) rfl ?_
  refine s_iconst X185 hx (2 : Int32) (D 83) rfl ?_
  refine s_aloadN X185 hx (D 84) rfl rfl ?_
  refine s_iconst X185 hx (2 : Int32) (D 85) rfl ?_
  have f186 := f184.other W185 ne_ta_b178
  refine l_C X185 hx hZ e185 f186 (v := c2) (by decide) (by decide) rfl (D 86) ?_
  refine t_Cn X185 hx hZ e185 V185 2 rfl (by decide) (by decide) (Nat.le_of_ble_eq_true rfl) (own_Lnar r2) N185 gb_b178 (D 87) fun T187 h187 X187 e187 W187 V187 N187 => ?_
  refine s_dup X187 hx (D 88) rfl ?_
  refine s_iconst X187 hx (3 : Int32) (D 89) rfl ?_
  refine s_aloadN X187 hx (D 90) rfl rfl ?_
  refine s_iconst X187 hx (3 : Int32) (D 91) rfl ?_
  have f188 := f186.other W187 ne_ta_b178
  refine l_C X187 hx hZ e187 f188 (v := c3) (by decide) (by decide) rfl (D 92) ?_
  refine t_Cn X187 hx hZ e187 V187 3 rfl (by decide) (by decide) (Nat.le_of_ble_eq_true rfl) (own_Lnar r3) N187 gb_b178 (D 93) fun T189 h189 X189 e189 W189 V189 N189 => ?_
  refine s_dup X189 hx (D 94) rfl ?_
  refine s_iconst X189 hx (4 : Int32) (D 95) rfl ?_
  refine s_aloadN X189 hx (D 96) rfl rfl ?_
  refine s_iconst X189 hx (4 : Int32) (D 97) rfl ?_
  have f190 := f188.other W189 ne_ta_b178
  refine l_C X189 hx hZ e189 f190 (v := c4) (by decide) (by decide) rfl (D 98) ?_
  refine t_Cn X189 hx hZ e189 V189 4 rfl (by decide) (by decide) (Nat.le_of_ble_eq_true rfl) (own_Lnar r4) N189 gb_b178 (D 99) fun T191 h191 X191 e191 W191 V191 N191 => ?_
  refine s_dup X191 hx (D 100) rfl ?_
  refine s_iconst X191 hx (5 : Int32) (D 101) rfl ?_
  refine s_aloadN X191 hx (D 102) rfl rfl ?_
  refine s_iconst X191 hx (5 : Int32) (D 103) rfl ?_
  have f192 := f190.other W191 ne_ta_b178
  refine l_C X191 hx hZ e191 f192 (v := c5) (by decide) (by decide) rfl (D 104) ?_
  refine t_Cn X191 hx hZ e191 V191 5 rfl (by decide) (by decide) (Nat.le_of_ble_eq_true rfl) (own_Lnar r5) N191 gb_b178 (D 105) fun T193 h193 X193 e193 W193 V193 N193 => ?_
  refine s_dup X193 hx (D 106) rfl ?_
  refine s_bipush X193 hx (6 : Int32) (D 107) rfl ?_
  refine s_aloadN X193 hx (D 108) rfl rfl ?_
  refine s_bipush X193 hx (6 : Int32) (D 109) rfl ?_
  have f194 := f192.other W193 ne_ta_b178
  refine l_C X193 hx hZ e193 f194 (v := c6) (by decide) (by decide) rfl (D 110) ?_
  show own_Ok p e below _ (T193.setTop (mkF m 135 #[.val (.ref ta), .val (.int (11 : Int32))] [(.int c6), (.int (6 : Int32)), (.ref b178), (.ref b178), (.ref b177), (.ref b177)]))
  refine t_Cn X193 hx hZ e193 V193 6 rfl (by decide) (by decide) (Nat.le_of_ble_eq_true rfl) (own_Lnar r6) N193 gb_b178 (D 111) fun T195 h195 X195 e195 W195 V195 N195 => ?_
  refine s_dup X195 hx (D 112) rfl ?_
  refine s_bipush X195 hx (7 : Int32) (D 113) rfl ?_
  refine s_aloadN X195 hx (D 114) rfl rfl ?_
  refine s_bipush X195 hx (7 : Int32) (D 115) rfl ?_
  have f196 := f194.other W195 ne_ta_b178
  refine l_C X195 hx hZ e195 f196 (v := c7) (by decide) (by decide) rfl (D 116) ?_
  refine t_Cn X195 hx hZ e195 V195 7 rfl (by decide) (by decide) (Nat.le_of_ble_eq_true rfl) (own_Lnar r7) N195 gb_b178 (D 117) fun T197 h197 X197 e197 W197 V197 N197 => ?_
  refine s_dup X197 hx (D 118) rfl ?_
  refine s_bipush X197 hx (8 : Int32) (D 119) rfl ?_
  refine s_aloadN X197 hx (D 120) rfl rfl ?_
  refine s_bipush X197 hx (8 : Int32) (D 121) rfl ?_
  have f198 := f196.other W197 ne_ta_b178
  refine l_C X197 hx hZ e197 f198 (v := c8) (by decide) (by decide) rfl (D 122) ?_
  refine t_Cn X197 hx hZ e197 V197 8 rfl (by decide) (by decide) (Nat.le_of_ble_eq_true rfl) (own_Lnar r8) N197 gb_b178 (D 123) fun T199 h199 X199 e199 W199 V199 N199 => ?_
  refine s_dup X199 hx (D 124) rfl ?_
  refine s_bipush X199 hx (9 : Int32) (D 125) rfl ?_
  refine s_aloadN X199 hx (D 126) rfl rfl ?_
  refine s_bipush X199 hx (9 : Int32) (D 127) rfl ?_
  have f200 := f198.other W199 ne_ta_b178
  refine l_C X199 hx hZ e199 f200 (v := c9) (by decide) (by decide) rfl (D 128) ?_
  refine t_Cn X199 hx hZ e199 V199 9 rfl (by decide) (by decide) (Nat.le_of_ble_eq_true rfl) (own_Lnar r9) N199 gb_b178 (D 129) fun T201 h201 X201 e201 W201 V201 N201 => ?_
  refine s_dup X201 hx (D 130) rfl ?_
  refine s_bipush X201 hx (10 : Int32) (D 131) rfl ?_
  refine s_aloadN X201 hx (D 132) rfl rfl ?_
  refine s_bipush X201 hx (10 : Int32) (D 133) rfl ?_
  have f202 := f200.other W201 ne_ta_b178
  refine l_C X201 hx hZ e201 f202 (v := c10) (by decide) (by decide) rfl (D 134) ?_
  refine t_Cn X201 hx hZ e201 V201 10 rfl (by decide) (by decide) (Nat.le_of_ble_eq_true rfl) (own_Lnar r10) N201 gb_b178 (D 135) fun T203 h203 X203 e203 W203 V203 N203 => ?_
  have f205 := A177.ext E178
  have f206 := f205.wr W183
  have f207 := f206.wr W185
  have f208 := f207.wr W187
  have f209 := f208.wr W189
  have f210 := f209.wr W191
  have f211 := f210.wr W193
  have f212 := f211.wr W195
  have f213 := f212.wr W197
  have f214 := f213.wr W199
  have f215 := f214.wr W201
  have f216 := f215.wr W203
  have f217 := F177_value.ext E178
  have f218 := f217.other W183 (Or.inl ne_b177_b178)
  have f219 := f218.other W185 (Or.inl ne_b177_b178)
  have f220 := f219.other W187 (Or.inl ne_b177_b178)
  have f221 := f220.other W189 (Or.inl ne_b177_b178)
  have f222 := f221.other W191 (Or.inl ne_b177_b178)
  have f223 := f222.other W193 (Or.inl ne_b177_b178)
  have f224 := f223.other W195 (Or.inl ne_b177_b178)
  have f225 := f224.other W197 (Or.inl ne_b177_b178)
  have f226 := f225.other W199 (Or.inl ne_b177_b178)
  have f227 := f226.other W201 (Or.inl ne_b177_b178)
  have f228 := f227.other W203 (Or.inl ne_b177_b178)
  have f229 := F177_coder.ext E178
  have f230 := f229.other W183 (Or.inl ne_b177_b178)
  have f231 := f230.other W185 (Or.inl ne_b177_b178)
  have f232 := f231.other W187 (Or.inl ne_b177_b178)
  have f233 := f232.other W189 (Or.inl ne_b177_b178)
  have f234 := f233.other W191 (Or.inl ne_b177_b178)
  have f235 := f234.other W193 (Or.inl ne_b177_b178)
  have f236 := f235.other W195 (Or.inl ne_b177_b178)
  have f237 := f236.other W197 (Or.inl ne_b177_b178)
  have f238 := f237.other W199 (Or.inl ne_b177_b178)
  have f239 := f238.other W201 (Or.inl ne_b177_b178)
  have f240 := f239.other W203 (Or.inl ne_b177_b178)
  have f241 := f179.ext E178
  have f242 := f241.wr W183 gb_b178
  have f243 := f242.wr W185 gb_b178
  have f244 := f243.wr W187 gb_b178
  have f245 := f244.wr W189 gb_b178
  have f246 := f245.wr W191 gb_b178
  have f247 := f246.wr W193 gb_b178
  have f248 := f247.wr W195 gb_b178
  have f249 := f248.wr W197 gb_b178
  have f250 := f249.wr W199 gb_b178
  have f251 := f250.wr W201 gb_b178
  have f252 := f251.wr W203 gb_b178
  obtain ⟨_, _, ⟨T204, L204, k204, n204⟩, -, X204, ⟨Lc204, hQ204, l204, y204, z204⟩, st204⟩ := X203.specialBack hx (y := (⟨"java/lang/String", "<init>", "([C)V"⟩ : MethodName)) rfl hown (mvT hZ (own_hw hw 32 rfl)) (mvT hZ (own_hw hw 33 rfl)) (mvT hZ (own_hw hw 34 rfl)) (by decide) (StrChars.Road.backV (W := 1) hZ hws (kI := 4) (own_hw hw 30 rfl) (cs := ([c0, c1, c2, c3, c4, c5, c6, c7, c8, c9, c10] : List Int32)) (bs := (([c0, c1, c2, c3, c4, c5, c6, c7, c8, c9, c10] : List Int32)).map (fun c => c.toInt8.toInt32)) (n := 11) gb_b177 (own_n0 f252) f216 f228 f240 V203 (SG1.ext f252.2) PG1 rfl rfl (by decide) (by decide) (List.forall_mem_cons.mpr ⟨r0, (List.forall_mem_cons.mpr ⟨r1, (List.forall_mem_cons.mpr ⟨r2, (List.forall_mem_cons.mpr ⟨r3, (List.forall_mem_cons.mpr ⟨r4, (List.forall_mem_cons.mpr ⟨r5, (List.forall_mem_cons.mpr ⟨r6, (List.forall_mem_cons.mpr ⟨r7, (List.forall_mem_cons.mpr ⟨r8, (List.forall_mem_cons.mpr ⟨r9, (List.forall_mem_cons.mpr ⟨r10, (List.forall_mem_nil _)⟩)⟩)⟩)⟩)⟩)⟩)⟩)⟩)⟩)⟩)⟩) rfl (by decide) (by decide)) (g := (mkF m 168 #[.val (.ref ta), .val (.int (11 : Int32))] [(.ref b178), (.ref b177), (.ref b177)])) rfl (by rw [hml]; rfl) (Steps.refl _) (a := b177) (argsL := [(.ref b178)]) (rest := [(.ref b177)]) (lenOf own_pd2 rfl) rfl (by show 2 * 0 + _ ≤ _; exact Nat.le_of_eq rfl) (D 136) (fun _ _ => ⟨rfl, e203, (by decide : 2 + 1 ≤ _), (by decide : 15 + 11 ≤ _)⟩)
  dsimp only [Pt.U, Pt.locs, Pt.cells, Pt.slots] at X204 l204 y204 z204 st204 hQ204
  subst l204 y204 z204
  obtain ⟨rfl, Nq204, K204, g204_0, g204_1, tS_252, kS_252, u1_252, u2_252, u3_252, vS_252, aS_252⟩ := hQ204
  have N204 := Fr.app N203 Nq204
  refine own_st (fun _ k => st204.trans k) ?_
  have gb_tS_252 : n0 ≤ tS_252 := Nat.le_trans (own_n0 f252) u2_252
  have f253 := f180.ext E178
  have f254 := f253.wr W183 (Or.inr gz_b178)
  have f255 := f254.wr W185 (Or.inr gz_b178)
  have f256 := f255.wr W187 (Or.inr gz_b178)
  have f257 := f256.wr W189 (Or.inr gz_b178)
  have f258 := f257.wr W191 (Or.inr gz_b178)
  have f259 := f258.wr W193 (Or.inr gz_b178)
  have f260 := f259.wr W195 (Or.inr gz_b178)
  have f261 := f260.wr W197 (Or.inr gz_b178)
  have f262 := f261.wr W199 (Or.inr gz_b178)
  have f263 := f262.wr W201 (Or.inr gz_b178)
  have f264 := f263.wr W203 (Or.inr gz_b178)
  have gz_tS_252 : h0.size ≤ tS_252 := Nat.le_trans f264.1 u2_252
  have f265 := f202.other W203 ne_ta_b178
  have ne_ta_tS_252 : ta ≠ tS_252 := Nat.ne_of_lt (Nat.lt_of_lt_of_le f265.lt u2_252)
  have ne_b177_tS_252 : b177 ≠ tS_252 := Nat.ne_of_lt (Nat.lt_of_lt_of_le f216.lt u2_252)
  have ne_b178_tS_252 : b178 ≠ tS_252 := Nat.ne_of_lt (Nat.lt_of_lt_of_le V203.lt u2_252)
  have e204 : T204.heap = T204.heap := rfl
  show own_Ok p e below _ (T204.setTop (mkF m 171 #[.val (.ref ta), .val (.int (11 : Int32))] [(.ref b177)]))
  show own_Ok p e below _ (T204.setTop (mkF m 171 #[.val (.ref ta), .val (.int (11 : Int32))] [(.ref b177)]))
  have f266 := f264.trans K204 (allS (Or.inr gz_b177) all0)
  exact own_retA X204 hx hlk (t := (.object "java/lang/String")) rfl Bd.returns rfl (D 137) (by rw [e204]; exact ⟨b177, tS_252, kS_252, rfl, N204, f266, g204_0, g204_1, vS_252, aS_252, gz_b177, gz_tS_252⟩) (by decide) (by decide)
 ·skip
  subst hz
  show own_Ok p e below _ (s₁.setTop (mkF m 0 #[.val (.ref ta), .val (.int (12 : Int32))] []))
  refine s_iloadN X0 hx (D 0) rfl ?_
  refine s_bipush X0 hx (9 : Int32) (D 1) rfl ?_
  refine s_icmpYes X0 hx 78 (D 2) (XT.ii_ne_t (by decide)) (by decide) (by decide) ?_
  refine s_iloadN X0 hx (D 63) rfl ?_
  refine s_bipush X0 hx (11 : Int32) (D 64) rfl ?_
  refine s_icmpYes X0 hx 172 (D 65) (XT.ii_ne_t (by decide)) (by decide) (by decide) ?_
  refine s_iloadN X0 hx (D 138) rfl ?_
  refine s_bipush X0 hx (12 : Int32) (D 139) rfl ?_
  refine s_icmpNo X0 hx (D 140) (XT.ii_ne_f (by decide)) ?_
  obtain ⟨T267, h267, X267, e267, E267, A267, D267, -, st267⟩ := newO X0 hx hZ hown (own_hw hw 29 rfl) (own_hw hw 30 rfl) (own_hw hw 31 rfl) e0 (g := (mkF m 178 #[.val (.ref ta), .val (.int (12 : Int32))] [])) rfl (D 141) (by decide) (by decide)
  obtain ⟨b267, g267⟩ : ∃ z, z = h0.size := ⟨_, rfl⟩
  rw [← g267] at A267 D267 st267
  refine own_st st267 ?_
  have gb_b267 : n0 ≤ b267 := Nat.le_trans (own_n0 O0) (Nat.le_of_eq g267.symm)
  have gz_b267 : h0.size ≤ b267 := Nat.le_trans (Keep.refl h0 []).1 (Nat.le_of_eq g267.symm)
  have ne_ta_b267 : ta ≠ b267 := Nat.ne_of_lt (Nat.lt_of_lt_of_le VA.lt (Nat.le_of_eq g267.symm))
  have F267_coder : Fld Z h267 b267 "java/lang/String" "coder" "B" (.int (0 : Int32)) := D267 (Or.inr (own_hw hw 55 rfl)) (ty := .byte) (by decide)
  have F267_value : Fld Z h267 b267 "java/lang/String" "value" "[B" .null := D267 (Or.inr (own_hw hw 57 rfl)) (ty := (.array .byte)) (by decide)
  show own_Ok p e below _ (T267.setTop (mkF m 181 #[.val (.ref ta), .val (.int (12 : Int32))] [(.ref b267)]))
  refine s_dup X267 hx (D 142) rfl ?_
  refine s_bipush X267 hx (12 : Int32) (D 143) rfl ?_
  obtain ⟨T268, h268, k268, X268, e268, E268, A268, st268⟩ := newP X267 hx hZ (own_hw hw 19 rfl) e267 (g := (mkF m 184 #[.val (.ref ta), .val (.int (12 : Int32))] [(.int (12 : Int32)), (.ref b267), (.ref b267)])) rfl (D 144) rfl (by decide) (cap := 12) (by decide) (by decide) (by decide) (by decide)
  obtain ⟨b268, g268⟩ : ∃ z, z = h267.size := ⟨_, rfl⟩
  rw [← g268] at A268 st268
  refine own_st st268 ?_
  have f269 := O0.ext E267
  have gb_b268 : n0 ≤ b268 := Nat.le_trans (own_n0 f269) (Nat.le_of_eq g268.symm)
  have f270 := (Keep.refl h0 []).ext E267
  have gz_b268 : h0.size ≤ b268 := Nat.le_trans f270.1 (Nat.le_of_eq g268.symm)
  have f271 := VA.ext E267
  have ne_ta_b268 : ta ≠ b268 := Nat.ne_of_lt (Nat.lt_of_lt_of_le f271.lt (Nat.le_of_eq g268.symm))
  have ne_b267_b268 : b267 ≠ b268 := Nat.ne_of_lt (Nat.lt_of_lt_of_le A267.lt (Nat.le_of_eq g268.symm))
  have V268 : Arv Z h268 b268 k268 .char (12 : Int32) [(.int (0 : Int32)), (.int (0 : Int32)), (.int (0 : Int32)), (.int (0 : Int32)), (.int (0 : Int32)), (.int (0 : Int32)), (.int (0 : Int32)), (.int (0 : Int32)), (.int (0 : Int32)), (.int (0 : Int32)), (.int (0 : Int32)), (.int (0 : Int32))] (.int (0 : Int32)) := (Arv.new A268 (by decide)).pad (pad_rep [] (.int (0 : Int32)) 12)
  show own_Ok p e below _ (T268.setTop (mkF m 186 #[.val (.ref ta), .val (.int (12 : Int32))] [(.ref b268), (.ref b267), (.ref b267)]))
  refine s_dup X268 hx (D 145) rfl ?_
  refine s_iconst X268 hx (0 : Int32) (D 146) rfl ?_
  refine s_aloadN X268 hx (D 147) rfl rfl ?_
  refine s_iconst X268 hx (0 : Int32) (D 148) rfl ?_
  have f272 := f271.ext E268
  refine l_C X268 hx hZ e268 f272 (v := c0) (by decide) (by decide) rfl (D 149) ?_
  refine t_Cn X268 hx hZ e268 V268 0 rfl (by decide) (by decide) (Nat.le_of_ble_eq_true rfl) (own_Lnar r0) N0 gb_b268 (D 150) fun T273 h273 X273 e273 W273 V273 N273 => ?_
  refine s_dup X273 hx (D 151) rfl ?_
  refine s_iconst X273 hx (1 : Int32) (D 152) rfl ?_
  refine s_aloadN X273 hx (D 153) rfl rfl ?_
  refine s_iconst X273 hx (1 : Int32) (D 154) rfl ?_
  have f274 := f272.other W273 ne_ta_b268
  refine l_C X273 hx hZ e273 f274 (v := c1) (by decide) (by decide) rfl (D 155) ?_
  refine t_Cn X273 hx hZ e273 V273 1 rfl (by decide) (by decide) (Nat.le_of_ble_eq_true rfl) (own_Lnar r1) N273 gb_b268 (D 156) fun T275 h275 X275 e275 W275 V275 N275 => ?_
  refine s_dup X275 hx (D 157) rfl ?_
  refine s_iconst X275 hx (2 : Int32) (D 158) rfl ?_
  refine s_aloadN X275 hx (D 159) rfl rfl ?_
  refine s_iconst X275 hx (2 : Int32) (D 160) rfl ?_
  have f276 := f274.other W275 ne_ta_b268
  refine l_C X275 hx hZ e275 f276 (v := c2) (by decide) (by decide) rfl (D 161) ?_
  refine t_Cn X275 hx hZ e275 V275 2 rfl (by decide) (by decide) (Nat.le_of_ble_eq_true rfl) (own_Lnar r2) N275 gb_b268 (D 162) fun T277 h277 X277 e277 W277 V277 N277 => ?_
  refine s_dup X277 hx (D 163) rfl ?_
  refine s_iconst X277 hx (3 : Int32) (D 164) rfl ?_
  refine s_aloadN X277 hx (D 165) rfl rfl ?_
  refine s_iconst X277 hx (3 : Int32) (D 166) rfl ?_
  have f278 := f276.other W277 ne_ta_b268
  refine l_C X277 hx hZ e277 f278 (v := c3) (by decide) (by decide) rfl (D 167) ?_
  refine t_Cn X277 hx hZ e277 V277 3 rfl (by decide) (by decide) (Nat.le_of_ble_eq_true rfl) (own_Lnar r3) N277 gb_b268 (D 168) fun T279 h279 X279 e279 W279 V279 N279 => ?_
  refine s_dup X279 hx (D 169) rfl ?_
  refine s_iconst X279 hx (4 : Int32) (D 170) rfl ?_
  refine s_aloadN X279 hx (D 171) rfl rfl ?_
  refine s_iconst X279 hx (4 : Int32) (D 172) rfl ?_
  have f280 := f278.other W279 ne_ta_b268
  refine l_C X279 hx hZ e279 f280 (v := c4) (by decide) (by decide) rfl (D 173) ?_
  refine t_Cn X279 hx hZ e279 V279 4 rfl (by decide) (by decide) (Nat.le_of_ble_eq_true rfl) (own_Lnar r4) N279 gb_b268 (D 174) fun T281 h281 X281 e281 W281 V281 N281 => ?_
  refine s_dup X281 hx (D 175) rfl ?_
  refine s_iconst X281 hx (5 : Int32) (D 176) rfl ?_
  refine s_aloadN X281 hx (D 177) rfl rfl ?_
  refine s_iconst X281 hx (5 : Int32) (D 178) rfl ?_
  have f282 := f280.other W281 ne_ta_b268
  refine l_C X281 hx hZ e281 f282 (v := c5) (by decide) (by decide) rfl (D 179) ?_
  refine t_Cn X281 hx hZ e281 V281 5 rfl (by decide) (by decide) (Nat.le_of_ble_eq_true rfl) (own_Lnar r5) N281 gb_b268 (D 180) fun T283 h283 X283 e283 W283 V283 N283 => ?_
  refine s_dup X283 hx (D 181) rfl ?_
  refine s_bipush X283 hx (6 : Int32) (D 182) rfl ?_
  refine s_aloadN X283 hx (D 183) rfl rfl ?_
  refine s_bipush X283 hx (6 : Int32) (D 184) rfl ?_
  have f284 := f282.other W283 ne_ta_b268
  refine l_C X283 hx hZ e283 f284 (v := c6) (by decide) (by decide) rfl (D 185) ?_
  show own_Ok p e below _ (T283.setTop (mkF m 229 #[.val (.ref ta), .val (.int (12 : Int32))] [(.int c6), (.int (6 : Int32)), (.ref b268), (.ref b268), (.ref b267), (.ref b267)]))
  refine t_Cn X283 hx hZ e283 V283 6 rfl (by decide) (by decide) (Nat.le_of_ble_eq_true rfl) (own_Lnar r6) N283 gb_b268 (D 186) fun T285 h285 X285 e285 W285 V285 N285 => ?_
  refine s_dup X285 hx (D 187) rfl ?_
  refine s_bipush X285 hx (7 : Int32) (D 188) rfl ?_
  refine s_aloadN X285 hx (D 189) rfl rfl ?_
  refine s_bipush X285 hx (7 : Int32) (D 190) rfl ?_
  have f286 := f284.other W285 ne_ta_b268
  refine l_C X285 hx hZ e285 f286 (v := c7) (by decide) (by decide) rfl (D 191) ?_
  refine t_Cn X285 hx hZ e285 V285 7 rfl (by decide) (by decide) (Nat.le_of_ble_eq_true rfl) (own_Lnar r7) N285 gb_b268 (D 192) fun T287 h287 X287 e287 W287 V287 N287 => ?_
  refine s_dup X287 hx (D 193) rfl ?_
  refine s_bipush X287 hx (8 : Int32) (D 194) rfl ?_
  refine s_aloadN X287 hx (D 195) rfl rfl ?_
  refine s_bipush X287 hx (8 : Int32) (D 196) rfl ?_
  have f288 := f286.other W287 ne_ta_b268
  refine l_C X287 hx hZ e287 f288 (v := c8) (by decide) (by decide) rfl (D 197) ?_
  refine t_Cn X287 hx hZ e287 V287 8 rfl (by decide) (by decide) (Nat.le_of_ble_eq_true rfl) (own_Lnar r8) N287 gb_b268 (D 198) fun T289 h289 X289 e289 W289 V289 N289 => ?_
  refine s_dup X289 hx (D 199) rfl ?_
  refine s_bipush X289 hx (9 : Int32) (D 200) rfl ?_
  refine s_aloadN X289 hx (D 201) rfl rfl ?_
  refine s_bipush X289 hx (9 : Int32) (D 202) rfl ?_
  have f290 := f288.other W289 ne_ta_b268
  refine l_C X289 hx hZ e289 f290 (v := c9) (by decide) (by decide) rfl (D 203) ?_
  refine t_Cn X289 hx hZ e289 V289 9 rfl (by decide) (by decide) (Nat.le_of_ble_eq_true rfl) (own_Lnar r9) N289 gb_b268 (D 204) fun T291 h291 X291 e291 W291 V291 N291 => ?_
  refine s_dup X291 hx (D 205) rfl ?_
  refine s_bipush X291 hx (10 : Int32) (D 206) rfl ?_
  refine s_aloadN X291 hx (D 207) rfl rfl ?_
  refine s_bipush X291 hx (10 : Int32) (D 208) rfl ?_
  have f292 := f290.other W291 ne_ta_b268
  refine l_C X291 hx hZ e291 f292 (v := c10) (by decide) (by decide) rfl (D 209) ?_
  refine t_Cn X291 hx hZ e291 V291 10 rfl (by decide) (by decide) (Nat.le_of_ble_eq_true rfl) (own_Lnar r10) N291 gb_b268 (D 210) fun T293 h293 X293 e293 W293 V293 N293 => ?_
  refine s_dup X293 hx (D 211) rfl ?_
  refine s_bipush X293 hx (11 : Int32) (D 212) rfl ?_
  refine s_aloadN X293 hx (D 213) rfl rfl ?_
  refine s_bipush X293 hx (11 : Int32) (D 214) rfl ?_
  have f294 := f292.other W293 ne_ta_b268
  refine l_C X293 hx hZ e293 f294 (v := c11) (by decide) (by decide) rfl (D 215) ?_
  refine t_Cn X293 hx hZ e293 V293 11 rfl (by decide) (by decide) (Nat.le_of_ble_eq_true rfl) (own_Lnar r11) N293 gb_b268 (D 216) fun T295 h295 X295 e295 W295 V295 N295 => ?_
  have f297 := A267.ext E268
  have f298 := f297.wr W273
  have f299 := f298.wr W275
  have f300 := f299.wr W277
  have f301 := f300.wr W279
  have f302 := f301.wr W281
  have f303 := f302.wr W283
  have f304 := f303.wr W285
  have f305 := f304.wr W287
  have f306 := f305.wr W289
  have f307 := f306.wr W291
  have f308 := f307.wr W293
  have f309 := f308.wr W295
  have f310 := F267_value.ext E268
  have f311 := f310.other W273 (Or.inl ne_b267_b268)
  have f312 := f311.other W275 (Or.inl ne_b267_b268)
  have f313 := f312.other W277 (Or.inl ne_b267_b268)
  have f314 := f313.other W279 (Or.inl ne_b267_b268)
  have f315 := f314.other W281 (Or.inl ne_b267_b268)
  have f316 := f315.other W283 (Or.inl ne_b267_b268)
  have f317 := f316.other W285 (Or.inl ne_b267_b268)
  have f318 := f317.other W287 (Or.inl ne_b267_b268)
  have f319 := f318.other W289 (Or.inl ne_b267_b268)
  have f320 := f319.other W291 (Or.inl ne_b267_b268)
  have f321 := f320.other W293 (Or.inl ne_b267_b268)
  have f322 := f321.other W295 (Or.inl ne_b267_b268)
  have f323 := F267_coder.ext E268
  have f324 := f323.other W273 (Or.inl ne_b267_b268)
  have f325 := f324.other W275 (Or.inl ne_b267_b268)
  have f326 := f325.other W277 (Or.inl ne_b267_b268)
  have f327 := f326.other W279 (Or.inl ne_b267_b268)
  have f328 := f327.other W281 (Or.inl ne_b267_b268)
  have f329 := f328.other W283 (Or.inl ne_b267_b268)
  have f330 := f329.other W285 (Or.inl ne_b267_b268)
  have f331 := f330.other W287 (Or.inl ne_b267_b268)
  have f332 := f331.other W289 (Or.inl ne_b267_b268)
  have f333 := f332.other W291 (Or.inl ne_b267_b268)
  have f334 := f333.other W293 (Or.inl ne_b267_b268)
  have f335 := f334.other W295 (Or.inl ne_b267_b268)
  have f336 := f269.ext E268
  have f337 := f336.wr W273 gb_b268
  have f338 := f337.wr W275 gb_b268
  have f339 := f338.wr W277 gb_b268
  have f340 := f339.wr W279 gb_b268
  have f341 := f340.wr W281 gb_b268
  have f342 := f341.wr W283 gb_b268
  have f343 := f342.wr W285 gb_b268
  have f344 := f343.wr W287 gb_b268
  have f345 := f344.wr W289 gb_b268
  have f346 := f345.wr W291 gb_b268
  have f347 := f346.wr W293 gb_b268
  have f348 := f347.wr W295 gb_b268
  obtain ⟨_, _, ⟨T296, L296, k296, n296⟩, -, X296, ⟨Lc296, hQ296, l296, y296, z296⟩, st296⟩ := X295.specialBack hx (y := (⟨"java/lang/String", "<init>", "([C)V"⟩ : MethodName)) rfl hown (mvT hZ (own_hw hw 32 rfl)) (mvT hZ (own_hw hw 33 rfl)) (mvT hZ (own_hw hw 34 rfl)) (by decide) (StrChars.Road.backV (W := 1) hZ hws (kI := 4) (own_hw hw 30 rfl) (cs := ([c0, c1, c2, c3, c4, c5, c6, c7, c8, c9, c10, c11] : List Int32)) (bs := (([c0, c1, c2, c3, c4, c5, c6, c7, c8, c9, c10, c11] : List Int32)).map (fun c => c.toInt8.toInt32)) (n := 12) gb_b267 (own_n0 f348) f309 f322 f335 V295 (SG1.ext f348.2) PG1 rfl rfl (by decide) (by decide) (List.forall_mem_cons.mpr ⟨r0, (List.forall_mem_cons.mpr ⟨r1, (List.forall_mem_cons.mpr ⟨r2, (List.forall_mem_cons.mpr ⟨r3, (List.forall_mem_cons.mpr ⟨r4, (List.forall_mem_cons.mpr ⟨r5, (List.forall_mem_cons.mpr ⟨r6, (List.forall_mem_cons.mpr ⟨r7, (List.forall_mem_cons.mpr ⟨r8, (List.forall_mem_cons.mpr ⟨r9, (List.forall_mem_cons.mpr ⟨r10, (List.forall_mem_cons.mpr ⟨r11, (List.forall_mem_nil _)⟩)⟩)⟩)⟩)⟩)⟩)⟩)⟩)⟩)⟩)⟩)⟩) rfl (by decide) (by decide)) (g := (mkF m 270 #[.val (.ref ta), .val (.int (12 : Int32))] [(.ref b268), (.ref b267), (.ref b267)])) rfl (by rw [hml]; rfl) (Steps.refl _) (a := b267) (argsL := [(.ref b268)]) (rest := [(.ref b267)]) (lenOf own_pd2 rfl) rfl (by show 2 * 0 + _ ≤ _; exact Nat.le_of_eq rfl) (D 217) (fun _ _ => ⟨rfl, e295, (by decide : 2 + 1 ≤ _), (by decide : 16 + 12 ≤ _)⟩)
  dsimp only [Pt.U, Pt.locs, Pt.cells, Pt.slots] at X296 l296 y296 z296 st296 hQ296
  subst l296 y296 z296
  obtain ⟨rfl, Nq296, K296, g296_0, g296_1, tS_348, kS_348, u1_348, u2_348, u3_348, vS_348, aS_348⟩ := hQ296
  have N296 := Fr.app N295 Nq296
  refine own_st (fun _ k => st296.trans k) ?_
  have gb_tS_348 : n0 ≤ tS_348 := Nat.le_trans (own_n0 f348) u2_348
  have f349 := f270.ext E268
  have f350 := f349.wr W273 (Or.inr gz_b268)
  have f351 := f350.wr W275 (Or.inr gz_b268)
  have f352 := f351.wr W277 (Or.inr gz_b268)
  have f353 := f352.wr W279 (Or.inr gz_b268)
  have f354 := f353.wr W281 (Or.inr gz_b268)
  have f355 := f354.wr W283 (Or.inr gz_b268)
  have f356 := f355.wr W285 (Or.inr gz_b268)
  have f357 := f356.wr W287 (Or.inr gz_b268)
  have f358 := f357.wr W289 (Or.inr gz_b268)
  have f359 := f358.wr W291 (Or.inr gz_b268)
  have f360 := f359.wr W293 (Or.inr gz_b268)
  have f361 := f360.wr W295 (Or.inr gz_b268)
  have gz_tS_348 : h0.size ≤ tS_348 := Nat.le_trans f361.1 u2_348
  have f362 := f294.other W295 ne_ta_b268
  have ne_ta_tS_348 : ta ≠ tS_348 := Nat.ne_of_lt (Nat.lt_of_lt_of_le f362.lt u2_348)
  have ne_b267_tS_348 : b267 ≠ tS_348 := Nat.ne_of_lt (Nat.lt_of_lt_of_le f309.lt u2_348)
  have ne_b268_tS_348 : b268 ≠ tS_348 := Nat.ne_of_lt (Nat.lt_of_lt_of_le V295.lt u2_348)
  have e296 : T296.heap = T296.heap := rfl
  show own_Ok p e below _ (T296.setTop (mkF m 273 #[.val (.ref ta), .val (.int (12 : Int32))] [(.ref b267)]))
  show own_Ok p e below _ (T296.setTop (mkF m 273 #[.val (.ref ta), .val (.int (12 : Int32))] [(.ref b267)]))
  have f363 := f361.trans K296 (allS (Or.inr gz_b267) all0)
  exact own_retA X296 hx hlk (t := (.object "java/lang/String")) rfl Bd.returns rfl (D 218) (by rw [e296]; exact ⟨b267, tS_348, kS_348, rfl, N296, f363, g296_0, g296_1, vS_348, aS_348, gz_b267, gz_tS_348⟩) (by decide) (by decide)
 ·skip
  subst hz
  show own_Ok p e below _ (s₁.setTop (mkF m 0 #[.val (.ref ta), .val (.int (13 : Int32))] []))
  refine s_iloadN X0 hx (D 0) rfl ?_
  refine s_bipush X0 hx (9 : Int32) (D 1) rfl ?_
  refine s_icmpYes X0 hx 78 (D 2) (XT.ii_ne_t (by decide)) (by decide) (by decide) ?_
  refine s_iloadN X0 hx (D 63) rfl ?_
  refine s_bipush X0 hx (11 : Int32) (D 64) rfl ?_
  refine s_icmpYes X0 hx 172 (D 65) (XT.ii_ne_t (by decide)) (by decide) (by decide) ?_
  refine s_iloadN X0 hx (D 138) rfl ?_
  refine s_bipush X0 hx (12 : Int32) (D 139) rfl ?_
  refine s_icmpYes X0 hx 274 (D 140) (XT.ii_ne_t (by decide)) (by decide) (by decide) ?_
  refine s_iloadN X0 hx (D 219) rfl ?_
  refine s_bipush X0 hx (13 : Int32) (D 220) rfl ?_
  refine s_icmpNo X0 hx (D 221) (XT.ii_ne_f (by decide)) ?_
  obtain ⟨T364, h364, X364, e364, E364, A364, D364, -, st364⟩ := newO X0 hx hZ hown (own_hw hw 29 rfl) (own_hw hw 30 rfl) (own_hw hw 31 rfl) e0 (g := (mkF m 280 #[.val (.ref ta), .val (.int (13 : Int32))] [])) rfl (D 222) (by decide) (by decide)
  obtain ⟨b364, g364⟩ : ∃ z, z = h0.size := ⟨_, rfl⟩
  rw [← g364] at A364 D364 st364
  refine own_st st364 ?_
  have gb_b364 : n0 ≤ b364 := Nat.le_trans (own_n0 O0) (Nat.le_of_eq g364.symm)
  have gz_b364 : h0.size ≤ b364 := Nat.le_trans (Keep.refl h0 []).1 (Nat.le_of_eq g364.symm)
  have ne_ta_b364 : ta ≠ b364 := Nat.ne_of_lt (Nat.lt_of_lt_of_le VA.lt (Nat.le_of_eq g364.symm))
  have F364_coder : Fld Z h364 b364 "java/lang/String" "coder" "B" (.int (0 : Int32)) := D364 (Or.inr (own_hw hw 55 rfl)) (ty := .byte) (by decide)
  have F364_value : Fld Z h364 b364 "java/lang/String" "value" "[B" .null := D364 (Or.inr (own_hw hw 57 rfl)) (ty := (.array .byte)) (by decide)
  show own_Ok p e below _ (T364.setTop (mkF m 283 #[.val (.ref ta), .val (.int (13 : Int32))] [(.ref b364)]))
  refine s_dup X364 hx (D 223) rfl ?_
  refine s_bipush X364 hx (13 : Int32) (D 224) rfl ?_
  obtain ⟨T365, h365, k365, X365, e365, E365, A365, st365⟩ := newP X364 hx hZ (own_hw hw 19 rfl) e364 (g := (mkF m 286 #[.val (.ref ta), .val (.int (13 : Int32))] [(.int (13 : Int32)), (.ref b364), (.ref b364)])) rfl (D 225) rfl (by decide) (cap := 13) (by decide) (by decide) (by decide) (by decide)
  obtain ⟨b365, g365⟩ : ∃ z, z = h364.size := ⟨_, rfl⟩
  rw [← g365] at A365 st365
  refine own_st st365 ?_
  have f366 := O0.ext E364
  have gb_b365 : n0 ≤ b365 := Nat.le_trans (own_n0 f366) (Nat.le_of_eq g365.symm)
  have f367 := (Keep.refl h0 []).ext E364
  have gz_b365 : h0.size ≤ b365 := Nat.le_trans f367.1 (Nat.le_of_eq g365.symm)
  have f368 := VA.ext E364
  have ne_ta_b365 : ta ≠ b365 := Nat.ne_of_lt (Nat.lt_of_lt_of_le f368.lt (Nat.le_of_eq g365.symm))
  have ne_b364_b365 : b364 ≠ b365 := Nat.ne_of_lt (Nat.lt_of_lt_of_le A364.lt (Nat.le_of_eq g365.symm))
  have V365 : Arv Z h365 b365 k365 .char (13 : Int32) [(.int (0 : Int32)), (.int (0 : Int32)), (.int (0 : Int32)), (.int (0 : Int32)), (.int (0 : Int32)), (.int (0 : Int32)), (.int (0 : Int32)), (.int (0 : Int32)), (.int (0 : Int32)), (.int (0 : Int32)), (.int (0 : Int32)), (.int (0 : Int32)), (.int (0 : Int32))] (.int (0 : Int32)) := (Arv.new A365 (by decide)).pad (pad_rep [] (.int (0 : Int32)) 13)
  show own_Ok p e below _ (T365.setTop (mkF m 288 #[.val (.ref ta), .val (.int (13 : Int32))] [(.ref b365), (.ref b364), (.ref b364)]))
  refine s_dup X365 hx (D 226) rfl ?_
  refine s_iconst X365 hx (0 : Int32) (D 227) rfl ?_
  refine s_aloadN X365 hx (D 228) rfl rfl ?_
  refine s_iconst X365 hx (0 : Int32) (D 229) rfl ?_
  have f369 := f368.ext E365
  refine l_C X365 hx hZ e365 f369 (v := c0) (by decide) (by decide) rfl (D 230) ?_
  refine t_Cn X365 hx hZ e365 V365 0 rfl (by decide) (by decide) (Nat.le_of_ble_eq_true rfl) (own_Lnar r0) N0 gb_b365 (D 231) fun T370 h370 X370 e370 W370 V370 N370 => ?_
  refine s_dup X370 hx (D 232) rfl ?_
  refine s_iconst X370 hx (1 : Int32) (D 233) rfl ?_
  refine s_aloadN X370 hx (D 234) rfl rfl ?_
  refine s_iconst X370 hx (1 : Int32) (D 235) rfl ?_
  have f371 := f369.other W370 ne_ta_b365
  refine l_C X370 hx hZ e370 f371 (v := c1) (by decide) (by decide) rfl (D 236) ?_
  refine t_Cn X370 hx hZ e370 V370 1 rfl (by decide) (by decide) (Nat.le_of_ble_eq_true rfl) (own_Lnar r1) N370 gb_b365 (D 237) fun T372 h372 X372 e372 W372 V372 N372 => ?_
  refine s_dup X372 hx (D 238) rfl ?_
  refine s_iconst X372 hx (2 : Int32) (D 239) rfl ?_
  refine s_aloadN X372 hx (D 240) rfl rfl ?_
  refine s_iconst X372 hx (2 : Int32) (D 241) rfl ?_
  have f373 := f371.other W372 ne_ta_b365
  refine l_C X372 hx hZ e372 f373 (v := c2) (by decide) (by decide) rfl (D 242) ?_
  refine t_Cn X372 hx hZ e372 V372 2 rfl (by decide) (by decide) (Nat.le_of_ble_eq_true rfl) (own_Lnar r2) N372 gb_b365 (D 243) fun T374 h374 X374 e374 W374 V374 N374 => ?_
  refine s_dup X374 hx (D 244) rfl ?_
  refine s_iconst X374 hx (3 : Int32) (D 245) rfl ?_
  refine s_aloadN X374 hx (D 246) rfl rfl ?_
  refine s_iconst X374 hx (3 : Int32) (D 247) rfl ?_
  have f375 := f373.other W374 ne_ta_b365
  refine l_C X374 hx hZ e374 f375 (v := c3) (by decide) (by decide) rfl (D 248) ?_
  refine t_Cn X374 hx hZ e374 V374 3 rfl (by decide) (by decide) (Nat.le_of_ble_eq_true rfl) (own_Lnar r3) N374 gb_b365 (D 249) fun T376 h376 X376 e376 W376 V376 N376 => ?_
  refine s_dup X376 hx (D 250) rfl ?_
  refine s_iconst X376 hx (4 : Int32) (D 251) rfl ?_
  refine s_aloadN X376 hx (D 252) rfl rfl ?_
  refine s_iconst X376 hx (4 : Int32) (D 253) rfl ?_
  have f377 := f375.other W376 ne_ta_b365
  refine l_C X376 hx hZ e376 f377 (v := c4) (by decide) (by decide) rfl (D 254) ?_
  refine t_Cn X376 hx hZ e376 V376 4 rfl (by decide) (by decide) (Nat.le_of_ble_eq_true rfl) (own_Lnar r4) N376 gb_b365 (D 255) fun T378 h378 X378 e378 W378 V378 N378 => ?_
  refine s_dup X378 hx (D 256) rfl ?_
  refine s_iconst X378 hx (5 : Int32) (D 257) rfl ?_
  refine s_aloadN X378 hx (D 258) rfl rfl ?_
  refine s_iconst X378 hx (5 : Int32) (D 259) rfl ?_
  have f379 := f377.other W378 ne_ta_b365
  refine l_C X378 hx hZ e378 f379 (v := c5) (by decide) (by decide) rfl (D 260) ?_
  refine t_Cn X378 hx hZ e378 V378 5 rfl (by decide) (by decide) (Nat.le_of_ble_eq_true rfl) (own_Lnar r5) N378 gb_b365 (D 261) fun T380 h380 X380 e380 W380 V380 N380 => ?_
  refine s_dup X380 hx (D 262) rfl ?_
  refine s_bipush X380 hx (6 : Int32) (D 263) rfl ?_
  refine s_aloadN X380 hx (D 264) rfl rfl ?_
  refine s_bipush X380 hx (6 : Int32) (D 265) rfl ?_
  have f381 := f379.other W380 ne_ta_b365
  refine l_C X380 hx hZ e380 f381 (v := c6) (by decide) (by decide) rfl (D 266) ?_
  show own_Ok p e below _ (T380.setTop (mkF m 331 #[.val (.ref ta), .val (.int (13 : Int32))] [(.int c6), (.int (6 : Int32)), (.ref b365), (.ref b365), (.ref b364), (.ref b364)]))
  refine t_Cn X380 hx hZ e380 V380 6 rfl (by decide) (by decide) (Nat.le_of_ble_eq_true rfl) (own_Lnar r6) N380 gb_b365 (D 267) fun T382 h382 X382 e382 W382 V382 N382 => ?_
  refine s_dup X382 hx (D 268) rfl ?_
  refine s_bipush X382 hx (7 : Int32) (D 269) rfl ?_
  refine s_aloadN X382 hx (D 270) rfl rfl ?_
  refine s_bipush X382 hx (7 : Int32) (D 271) rfl ?_
  have f383 := f381.other W382 ne_ta_b365
  refine l_C X382 hx hZ e382 f383 (v := c7) (by decide) (by decide) rfl (D 272) ?_
  refine t_Cn X382 hx hZ e382 V382 7 rfl (by decide) (by decide) (Nat.le_of_ble_eq_true rfl) (own_Lnar r7) N382 gb_b365 (D 273) fun T384 h384 X384 e384 W384 V384 N384 => ?_
  refine s_dup X384 hx (D 274) rfl ?_
  refine s_bipush X384 hx (8 : Int32) (D 275) rfl ?_
  refine s_aloadN X384 hx (D 276) rfl rfl ?_
  refine s_bipush X384 hx (8 : Int32) (D 277) rfl ?_
  have f385 := f383.other W384 ne_ta_b365
  refine l_C X384 hx hZ e384 f385 (v := c8) (by decide) (by decide) rfl (D 278) ?_
  refine t_Cn X384 hx hZ e384 V384 8 rfl (by decide) (by decide) (Nat.le_of_ble_eq_true rfl) (own_Lnar r8) N384 gb_b365 (D 279) fun T386 h386 X386 e386 W386 V386 N386 => ?_
  refine s_dup X386 hx (D 280) rfl ?_
  refine s_bipush X386 hx (9 : Int32) (D 281) rfl ?_
  refine s_aloadN X386 hx (D 282) rfl rfl ?_
  refine s_bipush X386 hx (9 : Int32) (D 283) rfl ?_
  have f387 := f385.other W386 ne_ta_b365
  refine l_C X386 hx hZ e386 f387 (v := c9) (by decide) (by decide) rfl (D 284) ?_
  refine t_Cn X386 hx hZ e386 V386 9 rfl (by decide) (by decide) (Nat.le_of_ble_eq_true rfl) (own_Lnar r9) N386 gb_b365 (D 285) fun T388 h388 X388 e388 W388 V388 N388 => ?_
  refine s_dup X388 hx (D 286) rfl ?_
  refine s_bipush X388 hx (10 : Int32) (D 287) rfl ?_
  refine s_aloadN X388 hx (D 288) rfl rfl ?_
  refine s_bipush X388 hx (10 : Int32) (D 289) rfl ?_
  have f389 := f387.other W388 ne_ta_b365
  refine l_C X388 hx hZ e388 f389 (v := c10) (by decide) (by decide) rfl (D 290) ?_
  refine t_Cn X388 hx hZ e388 V388 10 rfl (by decide) (by decide) (Nat.le_of_ble_eq_true rfl) (own_Lnar r10) N388 gb_b365 (D 291) fun T390 h390 X390 e390 W390 V390 N390 => ?_
  refine s_dup X390 hx (D 292) rfl ?_
  refine s_bipush X390 hx (11 : Int32) (D 293) rfl ?_
  refine s_aloadN X390 hx (D 294) rfl rfl ?_
  refine s_bipush X390 hx (11 : Int32) (D 295) rfl ?_
  have f391 := f389.other W390 ne_ta_b365
  refine l_C X390 hx hZ e390 f391 (v := c11) (by decide) (by decide) rfl (D 296) ?_
  refine t_Cn X390 hx hZ e390 V390 11 rfl (by decide) (by decide) (Nat.le_of_ble_eq_true rfl) (own_Lnar r11) N390 gb_b365 (D 297) fun T392 h392 X392 e392 W392 V392 N392 => ?_
  refine s_dup X392 hx (D 298) rfl ?_
  refine s_bipush X392 hx (12 : Int32) (D 299) rfl ?_
  refine s_aloadN X392 hx (D 300) rfl rfl ?_
  refine s_bipush X392 hx (12 : Int32) (D 301) rfl ?_
  have f393 := f391.other W392 ne_ta_b365
  refine l_C X392 hx hZ e392 f393 (v := c12) (by decide) (by decide) rfl (D 302) ?_
  refine t_Cn X392 hx hZ e392 V392 12 rfl (by decide) (by decide) (Nat.le_of_ble_eq_true rfl) (own_Lnar r12) N392 gb_b365 (D 303) fun T394 h394 X394 e394 W394 V394 N394 => ?_
  have f396 := A364.ext E365
  have f397 := f396.wr W370
  have f398 := f397.wr W372
  have f399 := f398.wr W374
  have f400 := f399.wr W376
  have f401 := f400.wr W378
  have f402 := f401.wr W380
  have f403 := f402.wr W382
  have f404 := f403.wr W384
  have f405 := f404.wr W386
  have f406 := f405.wr W388
  have f407 := f406.wr W390
  have f408 := f407.wr W392
  have f409 := f408.wr W394
  have f410 := F364_value.ext E365
  have f411 := f410.other W370 (Or.inl ne_b364_b365)
  have f412 := f411.other W372 (Or.inl ne_b364_b365)
  have f413 := f412.other W374 (Or.inl ne_b364_b365)
  have f414 := f413.other W376 (Or.inl ne_b364_b365)
  have f415 := f414.other W378 (Or.inl ne_b364_b365)
  have f416 := f415.other W380 (Or.inl ne_b364_b365)
  have f417 := f416.other W382 (Or.inl ne_b364_b365)
  have f418 := f417.other W384 (Or.inl ne_b364_b365)
  have f419 := f418.other W386 (Or.inl ne_b364_b365)
  have f420 := f419.other W388 (Or.inl ne_b364_b365)
  have f421 := f420.other W390 (Or.inl ne_b364_b365)
  have f422 := f421.other W392 (Or.inl ne_b364_b365)
  have f423 := f422.other W394 (Or.inl ne_b364_b365)
  have f424 := F364_coder.ext E365
  have f425 := f424.other W370 (Or.inl ne_b364_b365)
  have f426 := f425.other W372 (Or.inl ne_b364_b365)
  have f427 := f426.other W374 (Or.inl ne_b364_b365)
  have f428 := f427.other W376 (Or.inl ne_b364_b365)
  have f429 := f428.other W378 (Or.inl ne_b364_b365)
  have f430 := f429.other W380 (Or.inl ne_b364_b365)
  have f431 := f430.other W382 (Or.inl ne_b364_b365)
  have f432 := f431.other W384 (Or.inl ne_b364_b365)
  have f433 := f432.other W386 (Or.inl ne_b364_b365)
  have f434 := f433.other W388 (Or.inl ne_b364_b365)
  have f435 := f434.other W390 (Or.inl ne_b364_b365)
  have f436 := f435.other W392 (Or.inl ne_b364_b365)
  have f437 := f436.other W394 (Or.inl ne_b364_b365)
  have f438 := f366.ext E365
  have f439 := f438.wr W370 gb_b365
  have f440 := f439.wr W372 gb_b365
  have f441 := f440.wr W374 gb_b365
  have f442 := f441.wr W376 gb_b365
  have f443 := f442.wr W378 gb_b365
  have f444 := f443.wr W380 gb_b365
  have f445 := f444.wr W382 gb_b365
  have f446 := f445.wr W384 gb_b365
  have f447 := f446.wr W386 gb_b365
  have f448 := f447.wr W388 gb_b365
  have f449 := f448.wr W390 gb_b365
  have f450 := f449.wr W392 gb_b365
  have f451 := f450.wr W394 gb_b365
  obtain ⟨_, _, ⟨T395, L395, k395, n395⟩, -, X395, ⟨Lc395, hQ395, l395, y395, z395⟩, st395⟩ := X394.specialBack hx (y := (⟨"java/lang/String", "<init>", "([C)V"⟩ : MethodName)) rfl hown (mvT hZ (own_hw hw 32 rfl)) (mvT hZ (own_hw hw 33 rfl)) (mvT hZ (own_hw hw 34 rfl)) (by decide) (StrChars.Road.backV (W := 1) hZ hws (kI := 4) (own_hw hw 30 rfl) (cs := ([c0, c1, c2, c3, c4, c5, c6, c7, c8, c9, c10, c11, c12] : List Int32)) (bs := (([c0, c1, c2, c3, c4, c5, c6, c7, c8, c9, c10, c11, c12] : List Int32)).map (fun c => c.toInt8.toInt32)) (n := 13) gb_b364 (own_n0 f451) f409 f423 f437 V394 (SG1.ext f451.2) PG1 rfl rfl (by decide) (by decide) (List.forall_mem_cons.mpr ⟨r0, (List.forall_mem_cons.mpr ⟨r1, (List.forall_mem_cons.mpr ⟨r2, (List.forall_mem_cons.mpr ⟨r3, (List.forall_mem_cons.mpr ⟨r4, (List.forall_mem_cons.mpr ⟨r5, (List.forall_mem_cons.mpr ⟨r6, (List.forall_mem_cons.mpr ⟨r7, (List.forall_mem_cons.mpr ⟨r8, (List.forall_mem_cons.mpr ⟨r9, (List.forall_mem_cons.mpr ⟨r10, (List.forall_mem_cons.mpr ⟨r11, (List.forall_mem_cons.mpr ⟨r12, (List.forall_mem_nil _)⟩)⟩)⟩)⟩)⟩)⟩)⟩)⟩)⟩)⟩)⟩)⟩)⟩) rfl (by decide) (by decide)) (g := (mkF m 380 #[.val (.ref ta), .val (.int (13 : Int32))] [(.ref b365), (.ref b364), (.ref b364)])) rfl (by rw [hml]; rfl) (Steps.refl _) (a := b364) (argsL := [(.ref b365)]) (rest := [(.ref b364)]) (lenOf own_pd2 rfl) rfl (by show 2 * 0 + _ ≤ _; exact Nat.le_of_eq rfl) (D 304) (fun _ _ => ⟨rfl, e394, (by decide : 2 + 1 ≤ _), (by decide : 17 + 13 ≤ _)⟩)
  dsimp only [Pt.U, Pt.locs, Pt.cells, Pt.slots] at X395 l395 y395 z395 st395 hQ395
  subst l395 y395 z395
  obtain ⟨rfl, Nq395, K395, g395_0, g395_1, tS_451, kS_451, u1_451, u2_451, u3_451, vS_451, aS_451⟩ := hQ395
  have N395 := Fr.app N394 Nq395
  refine own_st (fun _ k => st395.trans k) ?_
  have gb_tS_451 : n0 ≤ tS_451 := Nat.le_trans (own_n0 f451) u2_451
  have f452 := f367.ext E365
  have f453 := f452.wr W370 (Or.inr gz_b365)
  have f454 := f453.wr W372 (Or.inr gz_b365)
  have f455 := f454.wr W374 (Or.inr gz_b365)
  have f456 := f455.wr W376 (Or.inr gz_b365)
  have f457 := f456.wr W378 (Or.inr gz_b365)
  have f458 := f457.wr W380 (Or.inr gz_b365)
  have f459 := f458.wr W382 (Or.inr gz_b365)
  have f460 := f459.wr W384 (Or.inr gz_b365)
  have f461 := f460.wr W386 (Or.inr gz_b365)
  have f462 := f461.wr W388 (Or.inr gz_b365)
  have f463 := f462.wr W390 (Or.inr gz_b365)
  have f464 := f463.wr W392 (Or.inr gz_b365)
  have f465 := f464.wr W394 (Or.inr gz_b365)
  have gz_tS_451 : h0.size ≤ tS_451 := Nat.le_trans f465.1 u2_451
  have f466 := f393.other W394 ne_ta_b365
  have ne_ta_tS_451 : ta ≠ tS_451 := Nat.ne_of_lt (Nat.lt_of_lt_of_le f466.lt u2_451)
  have ne_b364_tS_451 : b364 ≠ tS_451 := Nat.ne_of_lt (Nat.lt_of_lt_of_le f409.lt u2_451)
  have ne_b365_tS_451 : b365 ≠ tS_451 := Nat.ne_of_lt (Nat.lt_of_lt_of_le V394.lt u2_451)
  have e395 : T395.heap = T395.heap := rfl
  show own_Ok p e below _ (T395.setTop (mkF m 383 #[.val (.ref ta), .val (.int (13 : Int32))] [(.ref b364)]))
  show own_Ok p e below _ (T395.setTop (mkF m 383 #[.val (.ref ta), .val (.int (13 : Int32))] [(.ref b364)]))
  have f467 := f465.trans K395 (allS (Or.inr gz_b364) all0)
  exact own_retA X395 hx hlk (t := (.object "java/lang/String")) rfl Bd.returns rfl (D 305) (by rw [e395]; exact ⟨b364, tS_451, kS_451, rfl, N395, f467, g395_0, g395_1, vS_451, aS_451, gz_b364, gz_tS_451⟩) (by decide) (by decide)
 ·skip
  subst hz
  show own_Ok p e below _ (s₁.setTop (mkF m 0 #[.val (.ref ta), .val (.int (14 : Int32))] []))
  refine s_iloadN X0 hx (D 0) rfl ?_
  refine s_bipush X0 hx (9 : Int32) (D 1) rfl ?_
  refine s_icmpYes X0 hx 78 (D 2) (XT.ii_ne_t (by decide)) (by decide) (by decide) ?_
  refine s_iloadN X0 hx (D 63) rfl ?_
  refine s_bipush X0 hx (11 : Int32) (D 64) rfl ?_
  refine s_icmpYes X0 hx 172 (D 65) (XT.ii_ne_t (by decide)) (by decide) (by decide) ?_
  refine s_iloadN X0 hx (D 138) rfl ?_
  refine s_bipush X0 hx (12 : Int32) (D 139) rfl ?_
  refine s_icmpYes X0 hx 274 (D 140) (XT.ii_ne_t (by decide)) (by decide) (by decide) ?_
  refine s_iloadN X0 hx (D 219) rfl ?_
  refine s_bipush X0 hx (13 : Int32) (D 220) rfl ?_
  refine s_icmpYes X0 hx 384 (D 221) (XT.ii_ne_t (by decide)) (by decide) (by decide) ?_
  refine s_iloadN X0 hx (D 306) rfl ?_
  refine s_bipush X0 hx (14 : Int32) (D 307) rfl ?_
  refine s_icmpNo X0 hx (D 308) (XT.ii_ne_f (by decide)) ?_
  obtain ⟨T468, h468, X468, e468, E468, A468, D468, -, st468⟩ := newO X0 hx hZ hown (own_hw hw 29 rfl) (own_hw hw 30 rfl) (own_hw hw 31 rfl) e0 (g := (mkF m 390 #[.val (.ref ta), .val (.int (14 : Int32))] [])) rfl (D 309) (by decide) (by decide)
  obtain ⟨b468, g468⟩ : ∃ z, z = h0.size := ⟨_, rfl⟩
  rw [← g468] at A468 D468 st468
  refine own_st st468 ?_
  have gb_b468 : n0 ≤ b468 := Nat.le_trans (own_n0 O0) (Nat.le_of_eq g468.symm)
  have gz_b468 : h0.size ≤ b468 := Nat.le_trans (Keep.refl h0 []).1 (Nat.le_of_eq g468.symm)
  have ne_ta_b468 : ta ≠ b468 := Nat.ne_of_lt (Nat.lt_of_lt_of_le VA.lt (Nat.le_of_eq g468.symm))
  have F468_coder : Fld Z h468 b468 "java/lang/String" "coder" "B" (.int (0 : Int32)) := D468 (Or.inr (own_hw hw 55 rfl)) (ty := .byte) (by decide)
  have F468_value : Fld Z h468 b468 "java/lang/String" "value" "[B" .null := D468 (Or.inr (own_hw hw 57 rfl)) (ty := (.array .byte)) (by decide)
  show own_Ok p e below _ (T468.setTop (mkF m 393 #[.val (.ref ta), .val (.int (14 : Int32))] [(.ref b468)]))
  refine s_dup X468 hx (D 310) rfl ?_
  refine s_bipush X468 hx (14 : Int32) (D 311) rfl ?_
  obtain ⟨T469, h469, k469, X469, e469, E469, A469, st469⟩ := newP X468 hx hZ (own_hw hw 19 rfl) e468 (g := (mkF m 396 #[.val (.ref ta), .val (.int (14 : Int32))] [(.int (14 : Int32)), (.ref b468), (.ref b468)])) rfl (D 312) rfl (by decide) (cap := 14) (by decide) (by decide) (by decide) (by decide)
  obtain ⟨b469, g469⟩ : ∃ z, z = h468.size := ⟨_, rfl⟩
  rw [← g469] at A469 st469
  refine own_st st469 ?_
  have f470 := O0.ext E468
  have gb_b469 : n0 ≤ b469 := Nat.le_trans (own_n0 f470) (Nat.le_of_eq g469.symm)
  have f471 := (Keep.refl h0 []).ext E468
  have gz_b469 : h0.size ≤ b469 := Nat.le_trans f471.1 (Nat.le_of_eq g469.symm)
  have f472 := VA.ext E468
  have ne_ta_b469 : ta ≠ b469 := Nat.ne_of_lt (Nat.lt_of_lt_of_le f472.lt (Nat.le_of_eq g469.symm))
  have ne_b468_b469 : b468 ≠ b469 := Nat.ne_of_lt (Nat.lt_of_lt_of_le A468.lt (Nat.le_of_eq g469.symm))
  have V469 : Arv Z h469 b469 k469 .char (14 : Int32) [(.int (0 : Int32)), (.int (0 : Int32)), (.int (0 : Int32)), (.int (0 : Int32)), (.int (0 : Int32)), (.int (0 : Int32)), (.int (0 : Int32)), (.int (0 : Int32)), (.int (0 : Int32)), (.int (0 : Int32)), (.int (0 : Int32)), (.int (0 : Int32)), (.int (0 : Int32)), (.int (0 : Int32))] (.int (0 : Int32)) := (Arv.new A469 (by decide)).pad (pad_rep [] (.int (0 : Int32)) 14)
  show own_Ok p e below _ (T469.setTop (mkF m 398 #[.val (.ref ta), .val (.int (14 : Int32))] [(.ref b469), (.ref b468), (.ref b468)]))
  refine s_dup X469 hx (D 313) rfl ?_
  refine s_iconst X469 hx (0 : Int32) (D 314) rfl ?_
  refine s_aloadN X469 hx (D 315) rfl rfl ?_
  refine s_iconst X469 hx (0 : Int32) (D 316) rfl ?_
  have f473 := f472.ext E469
  refine l_C X469 hx hZ e469 f473 (v := c0) (by decide) (by decide) rfl (D 317) ?_
  refine t_Cn X469 hx hZ e469 V469 0 rfl (by decide) (by decide) (Nat.le_of_ble_eq_true rfl) (own_Lnar r0) N0 gb_b469 (D 318) fun T474 h474 X474 e474 W474 V474 N474 => ?_
  refine s_dup X474 hx (D 319) rfl ?_
  refine s_iconst X474 hx (1 : Int32) (D 320) rfl ?_
  refine s_aloadN X474 hx (D 321) rfl rfl ?_
  refine s_iconst X474 hx (1 : Int32) (D 322) rfl ?_
  have f475 := f473.other W474 ne_ta_b469
  refine l_C X474 hx hZ e474 f475 (v := c1) (by decide) (by decide) rfl (D 323) ?_
  refine t_Cn X474 hx hZ e474 V474 1 rfl (by decide) (by decide) (Nat.le_of_ble_eq_true rfl) (own_Lnar r1) N474 gb_b469 (D 324) fun T476 h476 X476 e476 W476 V476 N476 => ?_
  refine s_dup X476 hx (D 325) rfl ?_
  refine s_iconst X476 hx (2 : Int32) (D 326) rfl ?_
  refine s_aloadN X476 hx (D 327) rfl rfl ?_
  refine s_iconst X476 hx (2 : Int32) (D 328) rfl ?_
  have f477 := f475.other W476 ne_ta_b469
  refine l_C X476 hx hZ e476 f477 (v := c2) (by decide) (by decide) rfl (D 329) ?_
  refine t_Cn X476 hx hZ e476 V476 2 rfl (by decide) (by decide) (Nat.le_of_ble_eq_true rfl) (own_Lnar r2) N476 gb_b469 (D 330) fun T478 h478 X478 e478 W478 V478 N478 => ?_
  refine s_dup X478 hx (D 331) rfl ?_
  refine s_iconst X478 hx (3 : Int32) (D 332) rfl ?_
  refine s_aloadN X478 hx (D 333) rfl rfl ?_
  refine s_iconst X478 hx (3 : Int32) (D 334) rfl ?_
  have f479 := f477.other W478 ne_ta_b469
  refine l_C X478 hx hZ e478 f479 (v := c3) (by decide) (by decide) rfl (D 335) ?_
  refine t_Cn X478 hx hZ e478 V478 3 rfl (by decide) (by decide) (Nat.le_of_ble_eq_true rfl) (own_Lnar r3) N478 gb_b469 (D 336) fun T480 h480 X480 e480 W480 V480 N480 => ?_
  refine s_dup X480 hx (D 337) rfl ?_
  refine s_iconst X480 hx (4 : Int32) (D 338) rfl ?_
  refine s_aloadN X480 hx (D 339) rfl rfl ?_
  refine s_iconst X480 hx (4 : Int32) (D 340) rfl ?_
  have f481 := f479.other W480 ne_ta_b469
  refine l_C X480 hx hZ e480 f481 (v := c4) (by decide) (by decide) rfl (D 341) ?_
  refine t_Cn X480 hx hZ e480 V480 4 rfl (by decide) (by decide) (Nat.le_of_ble_eq_true rfl) (own_Lnar r4) N480 gb_b469 (D 342) fun T482 h482 X482 e482 W482 V482 N482 => ?_
  refine s_dup X482 hx (D 343) rfl ?_
  refine s_iconst X482 hx (5 : Int32) (D 344) rfl ?_
  refine s_aloadN X482 hx (D 345) rfl rfl ?_
  refine s_iconst X482 hx (5 : Int32) (D 346) rfl ?_
  have f483 := f481.other W482 ne_ta_b469
  refine l_C X482 hx hZ e482 f483 (v := c5) (by decide) (by decide) rfl (D 347) ?_
  refine t_Cn X482 hx hZ e482 V482 5 rfl (by decide) (by decide) (Nat.le_of_ble_eq_true rfl) (own_Lnar r5) N482 gb_b469 (D 348) fun T484 h484 X484 e484 W484 V484 N484 => ?_
  refine s_dup X484 hx (D 349) rfl ?_
  refine s_bipush X484 hx (6 : Int32) (D 350) rfl ?_
  refine s_aloadN X484 hx (D 351) rfl rfl ?_
  refine s_bipush X484 hx (6 : Int32) (D 352) rfl ?_
  have f485 := f483.other W484 ne_ta_b469
  refine l_C X484 hx hZ e484 f485 (v := c6) (by decide) (by decide) rfl (D 353) ?_
  show own_Ok p e below _ (T484.setTop (mkF m 441 #[.val (.ref ta), .val (.int (14 : Int32))] [(.int c6), (.int (6 : Int32)), (.ref b469), (.ref b469), (.ref b468), (.ref b468)]))
  refine t_Cn X484 hx hZ e484 V484 6 rfl (by decide) (by decide) (Nat.le_of_ble_eq_true rfl) (own_Lnar r6) N484 gb_b469 (D 354) fun T486 h486 X486 e486 W486 V486 N486 => ?_
  refine s_dup X486 hx (D 355) rfl ?_
  refine s_bipush X486 hx (7 : Int32) (D 356) rfl ?_
  refine s_aloadN X486 hx (D 357) rfl rfl ?_
  refine s_bipush X486 hx (7 : Int32) (D 358) rfl ?_
  have f487 := f485.other W486 ne_ta_b469
  refine l_C X486 hx hZ e486 f487 (v := c7) (by decide) (by decide) rfl (D 359) ?_
  refine t_Cn X486 hx hZ e486 V486 7 rfl (by decide) (by decide) (Nat.le_of_ble_eq_true rfl) (own_Lnar r7) N486 gb_b469 (D 360) fun T488 h488 X488 e488 W488 V488 N488 => ?_
  refine s_dup X488 hx (D 361) rfl ?_
  refine s_bipush X488 hx (8 : Int32) (D 362) rfl ?_
  refine s_aloadN X488 hx (D 363) rfl rfl ?_
  refine s_bipush X488 hx (8 : Int32) (D 364) rfl ?_
  have f489 := f487.other W488 ne_ta_b469
  refine l_C X488 hx hZ e488 f489 (v := c8) (by decide) (by decide) rfl (D 365) ?_
  refine t_Cn X488 hx hZ e488 V488 8 rfl (by decide) (by decide) (Nat.le_of_ble_eq_true rfl) (own_Lnar r8) N488 gb_b469 (D 366) fun T490 h490 X490 e490 W490 V490 N490 => ?_
  refine s_dup X490 hx (D 367) rfl ?_
  refine s_bipush X490 hx (9 : Int32) (D 368) rfl ?_
  refine s_aloadN X490 hx (D 369) rfl rfl ?_
  refine s_bipush X490 hx (9 : Int32) (D 370) rfl ?_
  have f491 := f489.other W490 ne_ta_b469
  refine l_C X490 hx hZ e490 f491 (v := c9) (by decide) (by decide) rfl (D 371) ?_
  refine t_Cn X490 hx hZ e490 V490 9 rfl (by decide) (by decide) (Nat.le_of_ble_eq_true rfl) (own_Lnar r9) N490 gb_b469 (D 372) fun T492 h492 X492 e492 W492 V492 N492 => ?_
  refine s_dup X492 hx (D 373) rfl ?_
  refine s_bipush X492 hx (10 : Int32) (D 374) rfl ?_
  refine s_aloadN X492 hx (D 375) rfl rfl ?_
  refine s_bipush X492 hx (10 : Int32) (D 376) rfl ?_
  have f493 := f491.other W492 ne_ta_b469
  refine l_C X492 hx hZ e492 f493 (v := c10) (by decide) (by decide) rfl (D 377) ?_
  refine t_Cn X492 hx hZ e492 V492 10 rfl (by decide) (by decide) (Nat.le_of_ble_eq_true rfl) (own_Lnar r10) N492 gb_b469 (D 378) fun T494 h494 X494 e494 W494 V494 N494 => ?_
  refine s_dup X494 hx (D 379) rfl ?_
  refine s_bipush X494 hx (11 : Int32) (D 380) rfl ?_
  refine s_aloadN X494 hx (D 381) rfl rfl ?_
  refine s_bipush X494 hx (11 : Int32) (D 382) rfl ?_
  have f495 := f493.other W494 ne_ta_b469
  refine l_C X494 hx hZ e494 f495 (v := c11) (by decide) (by decide) rfl (D 383) ?_
  refine t_Cn X494 hx hZ e494 V494 11 rfl (by decide) (by decide) (Nat.le_of_ble_eq_true rfl) (own_Lnar r11) N494 gb_b469 (D 384) fun T496 h496 X496 e496 W496 V496 N496 => ?_
  refine s_dup X496 hx (D 385) rfl ?_
  refine s_bipush X496 hx (12 : Int32) (D 386) rfl ?_
  refine s_aloadN X496 hx (D 387) rfl rfl ?_
  refine s_bipush X496 hx (12 : Int32) (D 388) rfl ?_
  have f497 := f495.other W496 ne_ta_b469
  refine l_C X496 hx hZ e496 f497 (v := c12) (by decide) (by decide) rfl (D 389) ?_
  refine t_Cn X496 hx hZ e496 V496 12 rfl (by decide) (by decide) (Nat.le_of_ble_eq_true rfl) (own_Lnar r12) N496 gb_b469 (D 390) fun T498 h498 X498 e498 W498 V498 N498 => ?_
  refine s_dup X498 hx (D 391) rfl ?_
  refine s_bipush X498 hx (13 : Int32) (D 392) rfl ?_
  refine s_aloadN X498 hx (D 393) rfl rfl ?_
  refine s_bipush X498 hx (13 : Int32) (D 394) rfl ?_
  show own_Ok p e below _ (T498.setTop (mkF m 496 #[.val (.ref ta), .val (.int (14 : Int32))] [(.int (13 : Int32)), (.ref ta), (.int (13 : Int32)), (.ref b469), (.ref b469), (.ref b468), (.ref b468)]))
  have f499 := f497.other W498 ne_ta_b469
  refine l_C X498 hx hZ e498 f499 (v := c13) (by decide) (by decide) rfl (D 395) ?_
  refine t_Cn X498 hx hZ e498 V498 13 rfl (by decide) (by decide) (Nat.le_of_ble_eq_true rfl) (own_Lnar r13) N498 gb_b469 (D 396) fun T500 h500 X500 e500 W500 V500 N500 => ?_
  have f502 := A468.ext E469
  have f503 := f502.wr W474
  have f504 := f503.wr W476
  have f505 := f504.wr W478
  have f506 := f505.wr W480
  have f507 := f506.wr W482
  have f508 := f507.wr W484
  have f509 := f508.wr W486
  have f510 := f509.wr W488
  have f511 := f510.wr W490
  have f512 := f511.wr W492
  have f513 := f512.wr W494
  have f514 := f513.wr W496
  have f515 := f514.wr W498
  have f516 := f515.wr W500
  have f517 := F468_value.ext E469
  have f518 := f517.other W474 (Or.inl ne_b468_b469)
  have f519 := f518.other W476 (Or.inl ne_b468_b469)
  have f520 := f519.other W478 (Or.inl ne_b468_b469)
  have f521 := f520.other W480 (Or.inl ne_b468_b469)
  have f522 := f521.other W482 (Or.inl ne_b468_b469)
  have f523 := f522.other W484 (Or.inl ne_b468_b469)
  have f524 := f523.other W486 (Or.inl ne_b468_b469)
  have f525 := f524.other W488 (Or.inl ne_b468_b469)
  have f526 := f525.other W490 (Or.inl ne_b468_b469)
  have f527 := f526.other W492 (Or.inl ne_b468_b469)
  have f528 := f527.other W494 (Or.inl ne_b468_b469)
  have f529 := f528.other W496 (Or.inl ne_b468_b469)
  have f530 := f529.other W498 (Or.inl ne_b468_b469)
  have f531 := f530.other W500 (Or.inl ne_b468_b469)
  have f532 := F468_coder.ext E469
  have f533 := f532.other W474 (Or.inl ne_b468_b469)
  have f534 := f533.other W476 (Or.inl ne_b468_b469)
  have f535 := f534.other W478 (Or.inl ne_b468_b469)
  have f536 := f535.other W480 (Or.inl ne_b468_b469)
  have f537 := f536.other W482 (Or.inl ne_b468_b469)
  have f538 := f537.other W484 (Or.inl ne_b468_b469)
  have f539 := f538.other W486 (Or.inl ne_b468_b469)
  have f540 := f539.other W488 (Or.inl ne_b468_b469)
  have f541 := f540.other W490 (Or.inl ne_b468_b469)
  have f542 := f541.other W492 (Or.inl ne_b468_b469)
  have f543 := f542.other W494 (Or.inl ne_b468_b469)
  have f544 := f543.other W496 (Or.inl ne_b468_b469)
  have f545 := f544.other W498 (Or.inl ne_b468_b469)
  have f546 := f545.other W500 (Or.inl ne_b468_b469)
  have f547 := f470.ext E469
  have f548 := f547.wr W474 gb_b469
  have f549 := f548.wr W476 gb_b469
  have f550 := f549.wr W478 gb_b469
  have f551 := f550.wr W480 gb_b469
  have f552 := f551.wr W482 gb_b469
  have f553 := f552.wr W484 gb_b469
  have f554 := f553.wr W486 gb_b469
  have f555 := f554.wr W488 gb_b469
  have f556 := f555.wr W490 gb_b469
  have f557 := f556.wr W492 gb_b469
  have f558 := f557.wr W494 gb_b469
  have f559 := f558.wr W496 gb_b469
  have f560 := f559.wr W498 gb_b469
  have f561 := f560.wr W500 gb_b469
  obtain ⟨_, _, ⟨T501, L501, k501, n501⟩, -, X501, ⟨Lc501, hQ501, l501, y501, z501⟩, st501⟩ := X500.specialBack hx (y := (⟨"java/lang/String", "<init>", "([C)V"⟩ : MethodName)) rfl hown (mvT hZ (own_hw hw 32 rfl)) (mvT hZ (own_hw hw 33 rfl)) (mvT hZ (own_hw hw 34 rfl)) (by decide) (StrChars.Road.backV (W := 1) hZ hws (kI := 4) (own_hw hw 30 rfl) (cs := ([c0, c1, c2, c3, c4, c5, c6, c7, c8, c9, c10, c11, c12, c13] : List Int32)) (bs := (([c0, c1, c2, c3, c4, c5, c6, c7, c8, c9, c10, c11, c12, c13] : List Int32)).map (fun c => c.toInt8.toInt32)) (n := 14) gb_b468 (own_n0 f561) f516 f531 f546 V500 (SG1.ext f561.2) PG1 rfl rfl (by decide) (by decide) (List.forall_mem_cons.mpr ⟨r0, (List.forall_mem_cons.mpr ⟨r1, (List.forall_mem_cons.mpr ⟨r2, (List.forall_mem_cons.mpr ⟨r3, (List.forall_mem_cons.mpr ⟨r4, (List.forall_mem_cons.mpr ⟨r5, (List.forall_mem_cons.mpr ⟨r6, (List.forall_mem_cons.mpr ⟨r7, (List.forall_mem_cons.mpr ⟨r8, (List.forall_mem_cons.mpr ⟨r9, (List.forall_mem_cons.mpr ⟨r10, (List.forall_mem_cons.mpr ⟨r11, (List.forall_mem_cons.mpr ⟨r12, (List.forall_mem_cons.mpr ⟨r13, (List.forall_mem_nil _)⟩)⟩)⟩)⟩)⟩)⟩)⟩)⟩)⟩)⟩)⟩)⟩)⟩)⟩) rfl (by decide) (by decide)) (g := (mkF m 498 #[.val (.ref ta), .val (.int (14 : Int32))] [(.ref b469), (.ref b468), (.ref b468)])) rfl (by rw [hml]; rfl) (Steps.refl _) (a := b468) (argsL := [(.ref b469)]) (rest := [(.ref b468)]) (lenOf own_pd2 rfl) rfl (by show 2 * 0 + _ ≤ _; exact Nat.le_of_eq rfl) (D 397) (fun _ _ => ⟨rfl, e500, (by decide : 2 + 1 ≤ _), (by decide : 18 + 14 ≤ _)⟩)
  dsimp only [Pt.U, Pt.locs, Pt.cells, Pt.slots] at X501 l501 y501 z501 st501 hQ501
  subst l501 y501 z501
  obtain ⟨rfl, Nq501, K501, g501_0, g501_1, tS_561, kS_561, u1_561, u2_561, u3_561, vS_561, aS_561⟩ := hQ501
  have N501 := Fr.app N500 Nq501
  refine own_st (fun _ k => st501.trans k) ?_
  have gb_tS_561 : n0 ≤ tS_561 := Nat.le_trans (own_n0 f561) u2_561
  have f562 := f471.ext E469
  have f563 := f562.wr W474 (Or.inr gz_b469)
  have f564 := f563.wr W476 (Or.inr gz_b469)
  have f565 := f564.wr W478 (Or.inr gz_b469)
  have f566 := f565.wr W480 (Or.inr gz_b469)
  have f567 := f566.wr W482 (Or.inr gz_b469)
  have f568 := f567.wr W484 (Or.inr gz_b469)
  have f569 := f568.wr W486 (Or.inr gz_b469)
  have f570 := f569.wr W488 (Or.inr gz_b469)
  have f571 := f570.wr W490 (Or.inr gz_b469)
  have f572 := f571.wr W492 (Or.inr gz_b469)
  have f573 := f572.wr W494 (Or.inr gz_b469)
  have f574 := f573.wr W496 (Or.inr gz_b469)
  have f575 := f574.wr W498 (Or.inr gz_b469)
  have f576 := f575.wr W500 (Or.inr gz_b469)
  have gz_tS_561 : h0.size ≤ tS_561 := Nat.le_trans f576.1 u2_561
  have f577 := f499.other W500 ne_ta_b469
  have ne_ta_tS_561 : ta ≠ tS_561 := Nat.ne_of_lt (Nat.lt_of_lt_of_le f577.lt u2_561)
  have ne_b468_tS_561 : b468 ≠ tS_561 := Nat.ne_of_lt (Nat.lt_of_lt_of_le f516.lt u2_561)
  have ne_b469_tS_561 : b469 ≠ tS_561 := Nat.ne_of_lt (Nat.lt_of_lt_of_le V500.lt u2_561)
  have e501 : T501.heap = T501.heap := rfl
  show own_Ok p e below _ (T501.setTop (mkF m 501 #[.val (.ref ta), .val (.int (14 : Int32))] [(.ref b468)]))
  show own_Ok p e below _ (T501.setTop (mkF m 501 #[.val (.ref ta), .val (.int (14 : Int32))] [(.ref b468)]))
  have f578 := f576.trans K501 (allS (Or.inr gz_b468) all0)
  exact own_retA X501 hx hlk (t := (.object "java/lang/String")) rfl Bd.returns rfl (D 398) (by rw [e501]; exact ⟨b468, tS_561, kS_561, rfl, N501, f578, g501_0, g501_1, vS_561, aS_561, gz_b468, gz_tS_561⟩) (by decide) (by decide)
 ·skip
  subst hz
  show own_Ok p e below _ (s₁.setTop (mkF m 0 #[.val (.ref ta), .val (.int (15 : Int32))] []))
  refine s_iloadN X0 hx (D 0) rfl ?_
  refine s_bipush X0 hx (9 : Int32) (D 1) rfl ?_
  refine s_icmpYes X0 hx 78 (D 2) (XT.ii_ne_t (by decide)) (by decide) (by decide) ?_
  refine s_iloadN X0 hx (D 63) rfl ?_
  refine s_bipush X0 hx (11 : Int32) (D 64) rfl ?_
  refine s_icmpYes X0 hx 172 (D 65) (XT.ii_ne_t (by decide)) (by decide) (by decide) ?_
  refine s_iloadN X0 hx (D 138) rfl ?_
  refine s_bipush X0 hx (12 : Int32) (D 139) rfl ?_
  refine s_icmpYes X0 hx 274 (D 140) (XT.ii_ne_t (by decide)) (by decide) (by decide) ?_
  refine s_iloadN X0 hx (D 219) rfl ?_
  refine s_bipush X0 hx (13 : Int32) (D 220) rfl ?_
  refine s_icmpYes X0 hx 384 (D 221) (XT.ii_ne_t (by decide)) (by decide) (by decide) ?_
  refine s_iloadN X0 hx (D 306) rfl ?_
  refine s_bipush X0 hx (14 : Int32) (D 307) rfl ?_
  refine s_icmpYes X0 hx 502 (D 308) (XT.ii_ne_t (by decide)) (by decide) (by decide) ?_
  refine s_iloadN X0 hx (D 399) rfl ?_
  refine s_bipush X0 hx (15 : Int32) (D 400) rfl ?_
  refine s_icmpNo X0 hx (D 401) (XT.ii_ne_f (by decide)) ?_
  obtain ⟨T579, h579, X579, e579, E579, A579, D579, -, st579⟩ := newO X0 hx hZ hown (own_hw hw 29 rfl) (own_hw hw 30 rfl) (own_hw hw 31 rfl) e0 (g := (mkF m 508 #[.val (.ref ta), .val (.int (15 : Int32))] [])) rfl (D 402) (by decide) (by decide)
  obtain ⟨b579, g579⟩ : ∃ z, z = h0.size := ⟨_, rfl⟩
  rw [← g579] at A579 D579 st579
  refine own_st st579 ?_
  have gb_b579 : n0 ≤ b579 := Nat.le_trans (own_n0 O0) (Nat.le_of_eq g579.symm)
  have gz_b579 : h0.size ≤ b579 := Nat.le_trans (Keep.refl h0 []).1 (Nat.le_of_eq g579.symm)
  have ne_ta_b579 : ta ≠ b579 := Nat.ne_of_lt (Nat.lt_of_lt_of_le VA.lt (Nat.le_of_eq g579.symm))
  have F579_coder : Fld Z h579 b579 "java/lang/String" "coder" "B" (.int (0 : Int32)) := D579 (Or.inr (own_hw hw 55 rfl)) (ty := .byte) (by decide)
  have F579_value : Fld Z h579 b579 "java/lang/String" "value" "[B" .null := D579 (Or.inr (own_hw hw 57 rfl)) (ty := (.array .byte)) (by decide)
  show own_Ok p e below _ (T579.setTop (mkF m 511 #[.val (.ref ta), .val (.int (15 : Int32))] [(.ref b579)]))
  refine s_dup X579 hx (D 403) rfl ?_
  refine s_bipush X579 hx (15 : Int32) (D 404) rfl ?_
  obtain ⟨T580, h580, k580, X580, e580, E580, A580, st580⟩ := newP X579 hx hZ (own_hw hw 19 rfl) e579 (g := (mkF m 514 #[.val (.ref ta), .val (.int (15 : Int32))] [(.int (15 : Int32)), (.ref b579), (.ref b579)])) rfl (D 405) rfl (by decide) (cap := 15) (by decide) (by decide) (by decide) (by decide)
  obtain ⟨b580, g580⟩ : ∃ z, z = h579.size := ⟨_, rfl⟩
  rw [← g580] at A580 st580
  refine own_st st580 ?_
  have f581 := O0.ext E579
  have gb_b580 : n0 ≤ b580 := Nat.le_trans (own_n0 f581) (Nat.le_of_eq g580.symm)
  have f582 := (Keep.refl h0 []).ext E579
  have gz_b580 : h0.size ≤ b580 := Nat.le_trans f582.1 (Nat.le_of_eq g580.symm)
  have f583 := VA.ext E579
  have ne_ta_b580 : ta ≠ b580 := Nat.ne_of_lt (Nat.lt_of_lt_of_le f583.lt (Nat.le_of_eq g580.symm))
  have ne_b579_b580 : b579 ≠ b580 := Nat.ne_of_lt (Nat.lt_of_lt_of_le A579.lt (Nat.le_of_eq g580.symm))
  have V580 : Arv Z h580 b580 k580 .char (15 : Int32) [(.int (0 : Int32)), (.int (0 : Int32)), (.int (0 : Int32)), (.int (0 : Int32)), (.int (0 : Int32)), (.int (0 : Int32)), (.int (0 : Int32)), (.int (0 : Int32)), (.int (0 : Int32)), (.int (0 : Int32)), (.int (0 : Int32)), (.int (0 : Int32)), (.int (0 : Int32)), (.int (0 : Int32)), (.int (0 : Int32))] (.int (0 : Int32)) := (Arv.new A580 (by decide)).pad (pad_rep [] (.int (0 : Int32)) 15)
  show own_Ok p e below _ (T580.setTop (mkF m 516 #[.val (.ref ta), .val (.int (15 : Int32))] [(.ref b580), (.ref b579), (.ref b579)]))
  refine s_dup X580 hx (D 406) rfl ?_
  refine s_iconst X580 hx (0 : Int32) (D 407) rfl ?_
  refine s_aloadN X580 hx (D 408) rfl rfl ?_
  refine s_iconst X580 hx (0 : Int32) (D 409) rfl ?_
  have f584 := f583.ext E580
  refine l_C X580 hx hZ e580 f584 (v := c0) (by decide) (by decide) rfl (D 410) ?_
  refine t_Cn X580 hx hZ e580 V580 0 rfl (by decide) (by decide) (Nat.le_of_ble_eq_true rfl) (own_Lnar r0) N0 gb_b580 (D 411) fun T585 h585 X585 e585 W585 V585 N585 => ?_
  refine s_dup X585 hx (D 412) rfl ?_
  refine s_iconst X585 hx (1 : Int32) (D 413) rfl ?_
  refine s_aloadN X585 hx (D 414) rfl rfl ?_
  refine s_iconst X585 hx (1 : Int32) (D 415) rfl ?_
  have f586 := f584.other W585 ne_ta_b580
  refine l_C X585 hx hZ e585 f586 (v := c1) (by decide) (by decide) rfl (D 416) ?_
  refine t_Cn X585 hx hZ e585 V585 1 rfl (by decide) (by decide) (Nat.le_of_ble_eq_true rfl) (own_Lnar r1) N585 gb_b580 (D 417) fun T587 h587 X587 e587 W587 V587 N587 => ?_
  refine s_dup X587 hx (D 418) rfl ?_
  refine s_iconst X587 hx (2 : Int32) (D 419) rfl ?_
  refine s_aloadN X587 hx (D 420) rfl rfl ?_
  refine s_iconst X587 hx (2 : Int32) (D 421) rfl ?_
  have f588 := f586.other W587 ne_ta_b580
  refine l_C X587 hx hZ e587 f588 (v := c2) (by decide) (by decide) rfl (D 422) ?_
  refine t_Cn X587 hx hZ e587 V587 2 rfl (by decide) (by decide) (Nat.le_of_ble_eq_true rfl) (own_Lnar r2) N587 gb_b580 (D 423) fun T589 h589 X589 e589 W589 V589 N589 => ?_
  refine s_dup X589 hx (D 424) rfl ?_
  refine s_iconst X589 hx (3 : Int32) (D 425) rfl ?_
  refine s_aloadN X589 hx (D 426) rfl rfl ?_
  refine s_iconst X589 hx (3 : Int32) (D 427) rfl ?_
  have f590 := f588.other W589 ne_ta_b580
  refine l_C X589 hx hZ e589 f590 (v := c3) (by decide) (by decide) rfl (D 428) ?_
  refine t_Cn X589 hx hZ e589 V589 3 rfl (by decide) (by decide) (Nat.le_of_ble_eq_true rfl) (own_Lnar r3) N589 gb_b580 (D 429) fun T591 h591 X591 e591 W591 V591 N591 => ?_
  refine s_dup X591 hx (D 430) rfl ?_
  refine s_iconst X591 hx (4 : Int32) (D 431) rfl ?_
  refine s_aloadN X591 hx (D 432) rfl rfl ?_
  refine s_iconst X591 hx (4 : Int32) (D 433) rfl ?_
  have f592 := f590.other W591 ne_ta_b580
  refine l_C X591 hx hZ e591 f592 (v := c4) (by decide) (by decide) rfl (D 434) ?_
  refine t_Cn X591 hx hZ e591 V591 4 rfl (by decide) (by decide) (Nat.le_of_ble_eq_true rfl) (own_Lnar r4) N591 gb_b580 (D 435) fun T593 h593 X593 e593 W593 V593 N593 => ?_
  refine s_dup X593 hx (D 436) rfl ?_
  refine s_iconst X593 hx (5 : Int32) (D 437) rfl ?_
  refine s_aloadN X593 hx (D 438) rfl rfl ?_
  refine s_iconst X593 hx (5 : Int32) (D 439) rfl ?_
  have f594 := f592.other W593 ne_ta_b580
  refine l_C X593 hx hZ e593 f594 (v := c5) (by decide) (by decide) rfl (D 440) ?_
  refine t_Cn X593 hx hZ e593 V593 5 rfl (by decide) (by decide) (Nat.le_of_ble_eq_true rfl) (own_Lnar r5) N593 gb_b580 (D 441) fun T595 h595 X595 e595 W595 V595 N595 => ?_
  refine s_dup X595 hx (D 442) rfl ?_
  refine s_bipush X595 hx (6 : Int32) (D 443) rfl ?_
  refine s_aloadN X595 hx (D 444) rfl rfl ?_
  refine s_bipush X595 hx (6 : Int32) (D 445) rfl ?_
  have f596 := f594.other W595 ne_ta_b580
  refine l_C X595 hx hZ e595 f596 (v := c6) (by decide) (by decide) rfl (D 446) ?_
  show own_Ok p e below _ (T595.setTop (mkF m 559 #[.val (.ref ta), .val (.int (15 : Int32))] [(.int c6), (.int (6 : Int32)), (.ref b580), (.ref b580), (.ref b579), (.ref b579)]))
  refine t_Cn X595 hx hZ e595 V595 6 rfl (by decide) (by decide) (Nat.le_of_ble_eq_true rfl) (own_Lnar r6) N595 gb_b580 (D 447) fun T597 h597 X597 e597 W597 V597 N597 => ?_
  refine s_dup X597 hx (D 448) rfl ?_
  refine s_bipush X597 hx (7 : Int32) (D 449) rfl ?_
  refine s_aloadN X597 hx (D 450) rfl rfl ?_
  refine s_bipush X597 hx (7 : Int32) (D 451) rfl ?_
  have f598 := f596.other W597 ne_ta_b580
  refine l_C X597 hx hZ e597 f598 (v := c7) (by decide) (by decide) rfl (D 452) ?_
  refine t_Cn X597 hx hZ e597 V597 7 rfl (by decide) (by decide) (Nat.le_of_ble_eq_true rfl) (own_Lnar r7) N597 gb_b580 (D 453) fun T599 h599 X599 e599 W599 V599 N599 => ?_
  refine s_dup X599 hx (D 454) rfl ?_
  refine s_bipush X599 hx (8 : Int32) (D 455) rfl ?_
  refine s_aloadN X599 hx (D 456) rfl rfl ?_
  refine s_bipush X599 hx (8 : Int32) (D 457) rfl ?_
  have f600 := f598.other W599 ne_ta_b580
  refine l_C X599 hx hZ e599 f600 (v := c8) (by decide) (by decide) rfl (D 458) ?_
  refine t_Cn X599 hx hZ e599 V599 8 rfl (by decide) (by decide) (Nat.le_of_ble_eq_true rfl) (own_Lnar r8) N599 gb_b580 (D 459) fun T601 h601 X601 e601 W601 V601 N601 => ?_
  refine s_dup X601 hx (D 460) rfl ?_
  refine s_bipush X601 hx (9 : Int32) (D 461) rfl ?_
  refine s_aloadN X601 hx (D 462) rfl rfl ?_
  refine s_bipush X601 hx (9 : Int32) (D 463) rfl ?_
  have f602 := f600.other W601 ne_ta_b580
  refine l_C X601 hx hZ e601 f602 (v := c9) (by decide) (by decide) rfl (D 464) ?_
  refine t_Cn X601 hx hZ e601 V601 9 rfl (by decide) (by decide) (Nat.le_of_ble_eq_true rfl) (own_Lnar r9) N601 gb_b580 (D 465) fun T603 h603 X603 e603 W603 V603 N603 => ?_
  refine s_dup X603 hx (D 466) rfl ?_
  refine s_bipush X603 hx (10 : Int32) (D 467) rfl ?_
  refine s_aloadN X603 hx (D 468) rfl rfl ?_
  refine s_bipush X603 hx (10 : Int32) (D 469) rfl ?_
  have f604 := f602.other W603 ne_ta_b580
  refine l_C X603 hx hZ e603 f604 (v := c10) (by decide) (by decide) rfl (D 470) ?_
  refine t_Cn X603 hx hZ e603 V603 10 rfl (by decide) (by decide) (Nat.le_of_ble_eq_true rfl) (own_Lnar r10) N603 gb_b580 (D 471) fun T605 h605 X605 e605 W605 V605 N605 => ?_
  refine s_dup X605 hx (D 472) rfl ?_
  refine s_bipush X605 hx (11 : Int32) (D 473) rfl ?_
  refine s_aloadN X605 hx (D 474) rfl rfl ?_
  refine s_bipush X605 hx (11 : Int32) (D 475) rfl ?_
  have f606 := f604.other W605 ne_ta_b580
  refine l_C X605 hx hZ e605 f606 (v := c11) (by decide) (by decide) rfl (D 476) ?_
  refine t_Cn X605 hx hZ e605 V605 11 rfl (by decide) (by decide) (Nat.le_of_ble_eq_true rfl) (own_Lnar r11) N605 gb_b580 (D 477) fun T607 h607 X607 e607 W607 V607 N607 => ?_
  refine s_dup X607 hx (D 478) rfl ?_
  refine s_bipush X607 hx (12 : Int32) (D 479) rfl ?_
  refine s_aloadN X607 hx (D 480) rfl rfl ?_
  refine s_bipush X607 hx (12 : Int32) (D 481) rfl ?_
  have f608 := f606.other W607 ne_ta_b580
  refine l_C X607 hx hZ e607 f608 (v := c12) (by decide) (by decide) rfl (D 482) ?_
  refine t_Cn X607 hx hZ e607 V607 12 rfl (by decide) (by decide) (Nat.le_of_ble_eq_true rfl) (own_Lnar r12) N607 gb_b580 (D 483) fun T609 h609 X609 e609 W609 V609 N609 => ?_
  refine s_dup X609 hx (D 484) rfl ?_
  refine s_bipush X609 hx (13 : Int32) (D 485) rfl ?_
  refine s_aloadN X609 hx (D 486) rfl rfl ?_
  refine s_bipush X609 hx (13 : Int32) (D 487) rfl ?_
  show own_Ok p e below _ (T609.setTop (mkF m 614 #[.val (.ref ta), .val (.int (15 : Int32))] [(.int (13 : Int32)), (.ref ta), (.int (13 : Int32)), (.ref b580), (.ref b580), (.ref b579), (.ref b579)]))
  have f610 := f608.other W609 ne_ta_b580
  refine l_C X609 hx hZ e609 f610 (v := c13) (by decide) (by decide) rfl (D 488) ?_
  refine t_Cn X609 hx hZ e609 V609 13 rfl (by decide) (by decide) (Nat.le_of_ble_eq_true rfl) (own_Lnar r13) N609 gb_b580 (D 489) fun T611 h611 X611 e611 W611 V611 N611 => ?_
  refine s_dup X611 hx (D 490) rfl ?_
  refine s_bipush X611 hx (14 : Int32) (D 491) rfl ?_
  refine s_aloadN X611 hx (D 492) rfl rfl ?_
  refine s_bipush X611 hx (14 : Int32) (D 493) rfl ?_
  have f612 := f610.other W611 ne_ta_b580
  refine l_C X611 hx hZ e611 f612 (v := c14) (by decide) (by decide) rfl (D 494) ?_
  refine t_Cn X611 hx hZ e611 V611 14 rfl (by decide) (by decide) (Nat.le_of_ble_eq_true rfl) (own_Lnar r14) N611 gb_b580 (D 495) fun T613 h613 X613 e613 W613 V613 N613 => ?_
  have f615 := A579.ext E580
  have f616 := f615.wr W585
  have f617 := f616.wr W587
  have f618 := f617.wr W589
  have f619 := f618.wr W591
  have f620 := f619.wr W593
  have f621 := f620.wr W595
  have f622 := f621.wr W597
  have f623 := f622.wr W599
  have f624 := f623.wr W601
  have f625 := f624.wr W603
  have f626 := f625.wr W605
  have f627 := f626.wr W607
  have f628 := f627.wr W609
  have f629 := f628.wr W611
  have f630 := f629.wr W613
  have f631 := F579_value.ext E580
  have f632 := f631.other W585 (Or.inl ne_b579_b580)
  have f633 := f632.other W587 (Or.inl ne_b579_b580)
  have f634 := f633.other W589 (Or.inl ne_b579_b580)
  have f635 := f634.other W591 (Or.inl ne_b579_b580)
  have f636 := f635.other W593 (Or.inl ne_b579_b580)
  have f637 := f636.other W595 (Or.inl ne_b579_b580)
  have f638 := f637.other W597 (Or.inl ne_b579_b580)
  have f639 := f638.other W599 (Or.inl ne_b579_b580)
  have f640 := f639.other W601 (Or.inl ne_b579_b580)
  have f641 := f640.other W603 (Or.inl ne_b579_b580)
  have f642 := f641.other W605 (Or.inl ne_b579_b580)
  have f643 := f642.other W607 (Or.inl ne_b579_b580)
  have f644 := f643.other W609 (Or.inl ne_b579_b580)
  have f645 := f644.other W611 (Or.inl ne_b579_b580)
  have f646 := f645.other W613 (Or.inl ne_b579_b580)
  have f647 := F579_coder.ext E580
  have f648 := f647.other W585 (Or.inl ne_b579_b580)
  have f649 := f648.other W587 (Or.inl ne_b579_b580)
  have f650 := f649.other W589 (Or.inl ne_b579_b580)
  have f651 := f650.other W591 (Or.inl ne_b579_b580)
  have f652 := f651.other W593 (Or.inl ne_b579_b580)
  have f653 := f652.other W595 (Or.inl ne_b579_b580)
  have f654 := f653.other W597 (Or.inl ne_b579_b580)
  have f655 := f654.other W599 (Or.inl ne_b579_b580)
  have f656 := f655.other W601 (Or.inl ne_b579_b580)
  have f657 := f656.other W603 (Or.inl ne_b579_b580)
  have f658 := f657.other W605 (Or.inl ne_b579_b580)
  have f659 := f658.other W607 (Or.inl ne_b579_b580)
  have f660 := f659.other W609 (Or.inl ne_b579_b580)
  have f661 := f660.other W611 (Or.inl ne_b579_b580)
  have f662 := f661.other W613 (Or.inl ne_b579_b580)
  have f663 := f581.ext E580
  have f664 := f663.wr W585 gb_b580
  have f665 := f664.wr W587 gb_b580
  have f666 := f665.wr W589 gb_b580
  have f667 := f666.wr W591 gb_b580
  have f668 := f667.wr W593 gb_b580
  have f669 := f668.wr W595 gb_b580
  have f670 := f669.wr W597 gb_b580
  have f671 := f670.wr W599 gb_b580
  have f672 := f671.wr W601 gb_b580
  have f673 := f672.wr W603 gb_b580
  have f674 := f673.wr W605 gb_b580
  have f675 := f674.wr W607 gb_b580
  have f676 := f675.wr W609 gb_b580
  have f677 := f676.wr W611 gb_b580
  have f678 := f677.wr W613 gb_b580
  obtain ⟨_, _, ⟨T614, L614, k614, n614⟩, -, X614, ⟨Lc614, hQ614, l614, y614, z614⟩, st614⟩ := X613.specialBack hx (y := (⟨"java/lang/String", "<init>", "([C)V"⟩ : MethodName)) rfl hown (mvT hZ (own_hw hw 32 rfl)) (mvT hZ (own_hw hw 33 rfl)) (mvT hZ (own_hw hw 34 rfl)) (by decide) (StrChars.Road.backV (W := 1) hZ hws (kI := 4) (own_hw hw 30 rfl) (cs := ([c0, c1, c2, c3, c4, c5, c6, c7, c8, c9, c10, c11, c12, c13, c14] : List Int32)) (bs := (([c0, c1, c2, c3, c4, c5, c6, c7, c8, c9, c10, c11, c12, c13, c14] : List Int32)).map (fun c => c.toInt8.toInt32)) (n := 15) gb_b579 (own_n0 f678) f630 f646 f662 V613 (SG1.ext f678.2) PG1 rfl rfl (by decide) (by decide) (List.forall_mem_cons.mpr ⟨r0, (List.forall_mem_cons.mpr ⟨r1, (List.forall_mem_cons.mpr ⟨r2, (List.forall_mem_cons.mpr ⟨r3, (List.forall_mem_cons.mpr ⟨r4, (List.forall_mem_cons.mpr ⟨r5, (List.forall_mem_cons.mpr ⟨r6, (List.forall_mem_cons.mpr ⟨r7, (List.forall_mem_cons.mpr ⟨r8, (List.forall_mem_cons.mpr ⟨r9, (List.forall_mem_cons.mpr ⟨r10, (List.forall_mem_cons.mpr ⟨r11, (List.forall_mem_cons.mpr ⟨r12, (List.forall_mem_cons.mpr ⟨r13, (List.forall_mem_cons.mpr ⟨r14, (List.forall_mem_nil _)⟩)⟩)⟩)⟩)⟩)⟩)⟩)⟩)⟩)⟩)⟩)⟩)⟩)⟩)⟩) rfl (by decide) (by decide)) (g := (mkF m 624 #[.val (.ref ta), .val (.int (15 : Int32))] [(.ref b580), (.ref b579), (.ref b579)])) rfl (by rw [hml]; rfl) (Steps.refl _) (a := b579) (argsL := [(.ref b580)]) (rest := [(.ref b579)]) (lenOf own_pd2 rfl) rfl (by show 2 * 0 + _ ≤ _; exact Nat.le_of_eq rfl) (D 496) (fun _ _ => ⟨rfl, e613, (by decide : 2 + 1 ≤ _), (by decide : 19 + 15 ≤ _)⟩)
  dsimp only [Pt.U, Pt.locs, Pt.cells, Pt.slots] at X614 l614 y614 z614 st614 hQ614
  subst l614 y614 z614
  obtain ⟨rfl, Nq614, K614, g614_0, g614_1, tS_678, kS_678, u1_678, u2_678, u3_678, vS_678, aS_678⟩ := hQ614
  have N614 := Fr.app N613 Nq614
  refine own_st (fun _ k => st614.trans k) ?_
  have gb_tS_678 : n0 ≤ tS_678 := Nat.le_trans (own_n0 f678) u2_678
  have f679 := f582.ext E580
  have f680 := f679.wr W585 (Or.inr gz_b580)
  have f681 := f680.wr W587 (Or.inr gz_b580)
  have f682 := f681.wr W589 (Or.inr gz_b580)
  have f683 := f682.wr W591 (Or.inr gz_b580)
  have f684 := f683.wr W593 (Or.inr gz_b580)
  have f685 := f684.wr W595 (Or.inr gz_b580)
  have f686 := f685.wr W597 (Or.inr gz_b580)
  have f687 := f686.wr W599 (Or.inr gz_b580)
  have f688 := f687.wr W601 (Or.inr gz_b580)
  have f689 := f688.wr W603 (Or.inr gz_b580)
  have f690 := f689.wr W605 (Or.inr gz_b580)
  have f691 := f690.wr W607 (Or.inr gz_b580)
  have f692 := f691.wr W609 (Or.inr gz_b580)
  have f693 := f692.wr W611 (Or.inr gz_b580)
  have f694 := f693.wr W613 (Or.inr gz_b580)
  have gz_tS_678 : h0.size ≤ tS_678 := Nat.le_trans f694.1 u2_678
  have f695 := f612.other W613 ne_ta_b580
  have ne_ta_tS_678 : ta ≠ tS_678 := Nat.ne_of_lt (Nat.lt_of_lt_of_le f695.lt u2_678)
  have ne_b579_tS_678 : b579 ≠ tS_678 := Nat.ne_of_lt (Nat.lt_of_lt_of_le f630.lt u2_678)
  have ne_b580_tS_678 : b580 ≠ tS_678 := Nat.ne_of_lt (Nat.lt_of_lt_of_le V613.lt u2_678)
  have e614 : T614.heap = T614.heap := rfl
  show own_Ok p e below _ (T614.setTop (mkF m 627 #[.val (.ref ta), .val (.int (15 : Int32))] [(.ref b579)]))
  show own_Ok p e below _ (T614.setTop (mkF m 627 #[.val (.ref ta), .val (.int (15 : Int32))] [(.ref b579)]))
  have f696 := f694.trans K614 (allS (Or.inr gz_b579) all0)
  exact own_retA X614 hx hlk (t := (.object "java/lang/String")) rfl Bd.returns rfl (D 497) (by rw [e614]; exact ⟨b579, tS_678, kS_678, rfl, N614, f696, g614_0, g614_1, vS_678, aS_678, gz_b579, gz_tS_678⟩) (by decide) (by decide)
 ·skip
  subst hz
  show own_Ok p e below _ (s₁.setTop (mkF m 0 #[.val (.ref ta), .val (.int (16 : Int32))] []))
  refine s_iloadN X0 hx (D 0) rfl ?_
  refine s_bipush X0 hx (9 : Int32) (D 1) rfl ?_
  refine s_icmpYes X0 hx 78 (D 2) (XT.ii_ne_t (by decide)) (by decide) (by decide) ?_
  refine s_iloadN X0 hx (D 63) rfl ?_
  refine s_bipush X0 hx (11 : Int32) (D 64) rfl ?_
  refine s_icmpYes X0 hx 172 (D 65) (XT.ii_ne_t (by decide)) (by decide) (by decide) ?_
  refine s_iloadN X0 hx (D 138) rfl ?_
  refine s_bipush X0 hx (12 : Int32) (D 139) rfl ?_
  refine s_icmpYes X0 hx 274 (D 140) (XT.ii_ne_t (by decide)) (by decide) (by decide) ?_
  refine s_iloadN X0 hx (D 219) rfl ?_
  refine s_bipush X0 hx (13 : Int32) (D 220) rfl ?_
  refine s_icmpYes X0 hx 384 (D 221) (XT.ii_ne_t (by decide)) (by decide) (by decide) ?_
  refine s_iloadN X0 hx (D 306) rfl ?_
  refine s_bipush X0 hx (14 : Int32) (D 307) rfl ?_
  refine s_icmpYes X0 hx 502 (D 308) (XT.ii_ne_t (by decide)) (by decide) (by decide) ?_
  refine s_iloadN X0 hx (D 399) rfl ?_
  refine s_bipush X0 hx (15 : Int32) (D 400) rfl ?_
  refine s_icmpYes X0 hx 628 (D 401) (XT.ii_ne_t (by decide)) (by decide) (by decide) ?_
  obtain ⟨T697, h697, X697, e697, E697, A697, D697, -, st697⟩ := newO X0 hx hZ hown (own_hw hw 29 rfl) (own_hw hw 30 rfl) (own_hw hw 31 rfl) e0 (g := (mkF m 628 #[.val (.ref ta), .val (.int (16 : Int32))] [])) rfl (D 498) (by decide) (by decide)
  obtain ⟨b697, g697⟩ : ∃ z, z = h0.size := ⟨_, rfl⟩
  rw [← g697] at A697 D697 st697
  refine own_st st697 ?_
  have gb_b697 : n0 ≤ b697 := Nat.le_trans (own_n0 O0) (Nat.le_of_eq g697.symm)
  have gz_b697 : h0.size ≤ b697 := Nat.le_trans (Keep.refl h0 []).1 (Nat.le_of_eq g697.symm)
  have ne_ta_b697 : ta ≠ b697 := Nat.ne_of_lt (Nat.lt_of_lt_of_le VA.lt (Nat.le_of_eq g697.symm))
  have F697_coder : Fld Z h697 b697 "java/lang/String" "coder" "B" (.int (0 : Int32)) := D697 (Or.inr (own_hw hw 55 rfl)) (ty := .byte) (by decide)
  have F697_value : Fld Z h697 b697 "java/lang/String" "value" "[B" .null := D697 (Or.inr (own_hw hw 57 rfl)) (ty := (.array .byte)) (by decide)
  show own_Ok p e below _ (T697.setTop (mkF m 631 #[.val (.ref ta), .val (.int (16 : Int32))] [(.ref b697)]))
  refine s_dup X697 hx (D 499) rfl ?_
  refine s_aloadN X697 hx (D 500) rfl rfl ?_
  have f699 := VA.ext E697
  have f700 := O0.ext E697
  obtain ⟨_, _, ⟨T698, L698, k698, n698⟩, -, X698, ⟨Lc698, hQ698, l698, y698, z698⟩, st698⟩ := X697.specialBack hx (y := (⟨"java/lang/String", "<init>", "([C)V"⟩ : MethodName)) rfl hown (mvT hZ (own_hw hw 32 rfl)) (mvT hZ (own_hw hw 33 rfl)) (mvT hZ (own_hw hw 34 rfl)) (by decide) (StrChars.Road.backV (W := 1) hZ hws (kI := 4) (own_hw hw 30 rfl) (cs := ([c0, c1, c2, c3, c4, c5, c6, c7, c8, c9, c10, c11, c12, c13, c14, c15] : List Int32)) (bs := (([c0, c1, c2, c3, c4, c5, c6, c7, c8, c9, c10, c11, c12, c13, c14, c15] : List Int32)).map (fun c => c.toInt8.toInt32)) (n := 16) gb_b697 (own_n0 f700) A697 F697_value F697_coder f699 (SG1.ext f700.2) PG1 rfl rfl (by decide) (by decide) (List.forall_mem_cons.mpr ⟨r0, (List.forall_mem_cons.mpr ⟨r1, (List.forall_mem_cons.mpr ⟨r2, (List.forall_mem_cons.mpr ⟨r3, (List.forall_mem_cons.mpr ⟨r4, (List.forall_mem_cons.mpr ⟨r5, (List.forall_mem_cons.mpr ⟨r6, (List.forall_mem_cons.mpr ⟨r7, (List.forall_mem_cons.mpr ⟨r8, (List.forall_mem_cons.mpr ⟨r9, (List.forall_mem_cons.mpr ⟨r10, (List.forall_mem_cons.mpr ⟨r11, (List.forall_mem_cons.mpr ⟨r12, (List.forall_mem_cons.mpr ⟨r13, (List.forall_mem_cons.mpr ⟨r14, (List.forall_mem_cons.mpr ⟨r15, (List.forall_mem_nil _)⟩)⟩)⟩)⟩)⟩)⟩)⟩)⟩)⟩)⟩)⟩)⟩)⟩)⟩)⟩)⟩) rfl (by decide) (by decide)) (g := (mkF m 633 #[.val (.ref ta), .val (.int (16 : Int32))] [(.ref ta), (.ref b697), (.ref b697)])) rfl (by rw [hml]; rfl) (Steps.refl _) (a := b697) (argsL := [(.ref ta)]) (rest := [(.ref b697)]) (lenOf own_pd2 rfl) rfl (by show 2 * 0 + _ ≤ _; exact Nat.le_of_eq rfl) (D 501) (fun _ _ => ⟨rfl, e697, (by decide : 1 + 1 ≤ _), (by decide : 4 + 16 ≤ _)⟩)
  dsimp only [Pt.U, Pt.locs, Pt.cells, Pt.slots] at X698 l698 y698 z698 st698 hQ698
  subst l698 y698 z698
  obtain ⟨rfl, Nq698, K698, g698_0, g698_1, tS_700, kS_700, u1_700, u2_700, u3_700, vS_700, aS_700⟩ := hQ698
  have N698 := Fr.app N0 Nq698
  refine own_st (fun _ k => st698.trans k) ?_
  have gb_tS_700 : n0 ≤ tS_700 := Nat.le_trans (own_n0 f700) u2_700
  have f701 := (Keep.refl h0 []).ext E697
  have gz_tS_700 : h0.size ≤ tS_700 := Nat.le_trans f701.1 u2_700
  have ne_ta_tS_700 : ta ≠ tS_700 := Nat.ne_of_lt (Nat.lt_of_lt_of_le f699.lt u2_700)
  have ne_b697_tS_700 : b697 ≠ tS_700 := Nat.ne_of_lt (Nat.lt_of_lt_of_le A697.lt u2_700)
  have e698 : T698.heap = T698.heap := rfl
  show own_Ok p e below _ (T698.setTop (mkF m 636 #[.val (.ref ta), .val (.int (16 : Int32))] [(.ref b697)]))
  show own_Ok p e below _ (T698.setTop (mkF m 636 #[.val (.ref ta), .val (.int (16 : Int32))] [(.ref b697)]))
  have f702 := f701.trans K698 (allS (Or.inr gz_b697) all0)
  exact own_retA X698 hx hlk (t := (.object "java/lang/String")) rfl Bd.returns rfl (D 502) (by rw [e698]; exact ⟨b697, tS_700, kS_700, rfl, N698, f702, g698_0, g698_1, vS_700, aS_700, gz_b697, gz_tS_700⟩) (by decide) (by decide)
theorem own_pd3 : parseMethodDescriptor "(JII)C" = some ⟨[.long, .int, .int], some .char⟩ := by decide +kernel
theorem own_pd4 : parseMethodDescriptor "([CI)Ljava/lang/String;" = some ⟨[(.array .char), .int], some (.object "java/lang/String")⟩ := by decide +kernel
theorem own_ef_rm_txt (m : MethodId) (vv : Int64) (ff : Int64) (dd : Int32) : entryFrame m #[(.long vv), (.long ff), (.int dd)] 6 = mkF m 0 #[.val (.long vv), .second, .val (.long ff), .second, .val (.int dd), .unset] [] := by first | (simp [entryFrame, mkF, argsToLocals, Value.category]; done) | rfl
def t_rm_txt : List (Nat × Instr × Nat) := [(0, .bipush 16, 2), (2, .newarray .char, 2), (4, .astore 5, 2), (6, .aload 5, 2), (8, .iconst 0, 1), (9, .lload_n 0, 1), (10, .bipush 8, 2), (12, .invokestatic 59, 3), (15, .castore, 1), (16, .aload 5, 2), (18, .iconst 1, 1), (19, .lload_n 0, 1), (20, .bipush 7, 2), (22, .invokestatic 59, 3), (25, .castore, 1), (26, .aload 5, 2), (28, .iconst 2, 1), (29, .lload_n 0, 1), (30, .bipush 6, 2), (32, .invokestatic 59, 3), (35, .castore, 1), (36, .aload 5, 2), (38, .iconst 3, 1), (39, .lload_n 0, 1), (40, .iconst 5, 1), (41, .invokestatic 59, 3), (44, .castore, 1), (45, .aload 5, 2), (47, .iconst 4, 1), (48, .lload_n 0, 1), (49, .iconst 4, 1), (50, .invokestatic 59, 3), (53, .castore, 1), (54, .aload 5, 2), (56, .iconst 5, 1), (57, .lload_n 0, 1), (58, .iconst 3, 1), (59, .invokestatic 59, 3), (62, .castore, 1), (63, .aload 5, 2), (65, .bipush 6, 2), (67, .lload_n 0, 1), (68, .iconst 2, 1), (69, .invokestatic 59, 3), (72, .castore, 1), (73, .aload 5, 2), (75, .bipush 7, 2), (77, .lload_n 0, 1), (78, .iconst 1, 1), (79, .invokestatic 59, 3), (82, .castore, 1), (83, .aload 5, 2), (85, .bipush 8, 2), (87, .lload_n 0, 1), (88, .iconst 0, 1), (89, .invokestatic 59, 3), (92, .castore, 1), (93, .aload 5, 2), (95, .bipush 9, 2), (97, .bipush 46, 2), (99, .castore, 1), (100, .aload 5, 2), (102, .bipush 10, 2), (104, .lload_n 2, 1), (105, .iload 4, 2), (107, .iconst 0, 1), (108, .invokestatic 79, 3), (111, .castore, 1), (112, .aload 5, 2), (114, .bipush 11, 2), (116, .lload_n 2, 1), (117, .iload 4, 2), (119, .iconst 1, 1), (120, .invokestatic 79, 3), (123, .castore, 1), (124, .aload 5, 2), (126, .bipush 12, 2), (128, .lload_n 2, 1), (129, .iload 4, 2), (131, .iconst 2, 1), (132, .invokestatic 79, 3), (135, .castore, 1), (136, .aload 5, 2), (138, .bipush 13, 2), (140, .lload_n 2, 1), (141, .iload 4, 2), (143, .iconst 3, 1), (144, .invokestatic 79, 3), (147, .castore, 1), (148, .aload 5, 2), (150, .bipush 14, 2), (152, .lload_n 2, 1), (153, .iload 4, 2), (155, .iconst 4, 1), (156, .invokestatic 79, 3), (159, .castore, 1), (160, .aload 5, 2), (162, .bipush 15, 2), (164, .lload_n 2, 1), (165, .iload 4, 2), (167, .iconst 5, 1), (168, .invokestatic 79, 3), (171, .castore, 1), (172, .aload 5, 2), (174, .iload 4, 2), (176, .ifCond .ne 8, 3), (179, .bipush 9, 2), (181, .goto 8, 3), (189, .invokestatic 83, 3), (192, .areturn, 1), (184, .bipush 10, 2), (186, .iload 4, 2), (188, .iadd, 1)]
theorem d_rm_txt (i : Nat) : decode method_10_code (t_rm_txt.getD i (0, .bipush 16, 2)).1 = .ok (t_rm_txt.getD i (0, .bipush 16, 2)).2 := own_dt (by decide +kernel) (List.mem_cons_self ..) i
def Q_rm_txt (Z : State) (G1 : Int32) (vv : Int64) (vn : Nat) (ff : Int64) (fn : Nat) (dd : Int32) (d : Nat) (h0 : Heap) (n0 : Nat) (v : Option Value) (h : Heap) (L : List Loc) : Prop := ∃ (az : Addr), ∃ (tz : Addr), ∃ (kz : ClassId), v = some (.ref az) ∧ Fr n0 L ∧ Keep h0 h [] ∧ Exa Z h az "java/lang/String" ∧ Fld Z h az "java/lang/String" "coder" "B" (.int (0 : Int32)) ∧ Fld Z h az "java/lang/String" "value" "[B" (.ref tz) ∧ Arv Z h tz kz .byte (Int32.ofNat (own_tx vn fn d).length) (own_bv (own_tx vn fn d)) (.int (0 : Int32)) ∧ h0.size ≤ az ∧ h0.size ≤ tz
set_option maxRecDepth 65536 in
set_option maxHeartbeats 40000000 in
theorem rm_txt (l : Launch) (Z : State) (a0 : Array Value) (hw : ∀ d ∈ tables_1, d.before a0 Z = true) (ws : List Jvm.Cond) (G1 : Int32) (vv : Int64) (vn : Nat) (ff : Int64) (fn : Nat) (dd : Int32) (d : Nat) (h0 : Heap) (n0 : Nat) (O0 : Old Z n0 h0) (SG1 : Sta Z Z.heap "java/lang/String" "COMPACT_STRINGS" "Z" (.int G1)) (PG1 : ¬ (G1 = (0 : Int32))) (hv : vv.toInt = (vn : Int)) (hf : ff.toInt = (fn : Int)) (hd : dd.toInt = (d : Int)) (hd6 : d ≤ 6) :
    own_Met l Z (⟨"com/example/tickfence/tickfence/PriceParsePinLaw", "textOf", "(JJI)Ljava/lang/String;"⟩ : MethodName) method_10_code 6 (some (.object "java/lang/String")) ws ({ frames := 5, cells := 19, slots := 185, locals := 79 } : Room) #[(.long vv), (.long ff), (.int dd)] h0 (Q_rm_txt Z G1 vv vn ff fn dd d h0 n0) := by
 refine MetFree.of_bodySF (plainFor_of_name own_pn0) hisR ?_
 intro p e s m args below meth c s₁ Bd hml0 hP hK
 obtain ⟨rfl, hZ, hh⟩ := hP
 have hx := Bd.exec
 have hby := Bd.bytes
 have D := fun i => hb hby (d_rm_txt i)
 have hml : c.maxLocals = 6 := hml0
 have hown : s.vm.findClass "com/example/tickfence/tickfence/PriceParsePinLaw" = some m.cls := findClass_of_methodNamed Bd.named
 have hnm := (name_of_methodNamed Bd.named Bd.method).1
 have hlk : meth.locks = false := Bd.notSynchronized
 have X0 : Stand p l e ({ frames := 5, cells := 19, slots := 185, locals := 79 } : Room) s m #[(.long vv), (.long ff), (.int dd)] below meth c s₁ [] 0 0 := Stand.of_body Bd
 have e0 : s₁.heap = h0 := by rw [← hh, Bd.state]; rfl
 have N0 := Fr.nil n0
 suffices hgo : own_Ok p e below (own_Qx s (Q_rm_txt Z G1 vv vn ff fn dd d h0 n0) 19 185) (s₁.setTop (mkF m 0 #[.val (.long vv), .second, .val (.long ff), .second, .val (.int dd), .unset] [])) from by
   obtain ⟨s₂, o, h1, h2⟩ := hgo
   exact ⟨s₂, o, castTop (own_ef_rm_txt m vv ff dd) h1, h2⟩
 show own_Ok p e below _ (s₁.setTop (mkF m 0 #[.val (.long vv), .second, .val (.long ff), .second, .val (.int dd), .unset] []))
 refine s_bipush X0 hx (16 : Int32) (D 0) rfl ?_
 obtain ⟨T101, h101, k101, X101, e101, E101, A101, st101⟩ := newP X0 hx hZ (own_hw hw 19 rfl) e0 (g := (mkF m 2 #[.val (.long vv), .second, .val (.long ff), .second, .val (.int dd), .unset] [(.int (16 : Int32))])) rfl (D 1) rfl (by decide) (cap := 16) (by decide) (by decide) (by decide) (by decide)
 obtain ⟨b101, g101⟩ : ∃ z, z = h0.size := ⟨_, rfl⟩
 rw [← g101] at A101 st101
 refine own_st st101 ?_
 have gb_b101 : n0 ≤ b101 := Nat.le_trans (own_n0 O0) (Nat.le_of_eq g101.symm)
 have gz_b101 : h0.size ≤ b101 := Nat.le_trans (Keep.refl h0 []).1 (Nat.le_of_eq g101.symm)
 have V101 : Arv Z h101 b101 k101 .char (16 : Int32) [(.int (0 : Int32)), (.int (0 : Int32)), (.int (0 : Int32)), (.int (0 : Int32)), (.int (0 : Int32)), (.int (0 : Int32)), (.int (0 : Int32)), (.int (0 : Int32)), (.int (0 : Int32)), (.int (0 : Int32)), (.int (0 : Int32)), (.int (0 : Int32)), (.int (0 : Int32)), (.int (0 : Int32)), (.int (0 : Int32)), (.int (0 : Int32))] (.int (0 : Int32)) := (Arv.new A101 (by decide)).pad (pad_rep [] (.int (0 : Int32)) 16)
 show own_Ok p e below _ (T101.setTop (mkF m 4 #[.val (.long vv), .second, .val (.long ff), .second, .val (.int dd), .unset] [(.ref b101)]))
 refine s_astore X101 hx (D 2) rfl #[.val (.long vv), .second, .val (.long ff), .second, .val (.int dd), .val (.ref b101)] rfl ?_
 refine s_aload X101 hx (D 3) rfl rfl ?_
 refine s_iconst X101 hx (0 : Int32) (D 4) rfl ?_
 refine s_lloadN X101 hx (D 5) rfl ?_
 refine s_bipush X101 hx (8 : Int32) (D 6) rfl ?_
 have f103 := O0.ext E101
 obtain ⟨_, T102, Lc102, X102, hQ102, st102⟩ := own_callS X101 hx hZ hown (own_hw hw 20 rfl) (own_hw hw 21 rfl) (own_hw hw 5 rfl) (own_hw hw 22 rfl) (rm_dig l Z a0 hw [] vv vn ((8 : Int32)) 8 h101 n0 f103 hv rfl (by decide)) (by decide) e101 (Ls := #[.val (.long vv), .second, .val (.long ff), .second, .val (.int dd), .val (.ref b101)]) [(.long vv), (.int (8 : Int32))] [(.int (0 : Int32)), (.ref b101)] rfl (by rw [hml]; rfl) (lenOf own_pd1 rfl) (D 7) (by decide) 2 rfl (by decide) (by decide) (by decide)
 obtain ⟨rfl, Nq102, K102⟩ := hQ102
 have N102 := Fr.app N0 Nq102
 refine st102 _ ?_
 have e102 : T102.heap = T102.heap := rfl
 have f104 := V101.keep K102 nin0
 refine t_Cn X102 hx hZ e102 f104 0 rfl (by decide) (by decide) (Nat.le_of_ble_eq_true rfl) (own_Lnar (own_Ldg _ _)) N102 gb_b101 (D 8) fun T105 h105 X105 e105 W105 V105 N105 => ?_
 refine s_aload X105 hx (D 9) rfl rfl ?_
 refine s_iconst X105 hx (1 : Int32) (D 10) rfl ?_
 refine s_lloadN X105 hx (D 11) rfl ?_
 refine s_bipush X105 hx (7 : Int32) (D 12) rfl ?_
 have f107 := f103.keep K102 all0
 have f108 := f107.wr W105 gb_b101
 obtain ⟨_, T106, Lc106, X106, hQ106, st106⟩ := own_callS X105 hx hZ hown (own_hw hw 20 rfl) (own_hw hw 21 rfl) (own_hw hw 5 rfl) (own_hw hw 22 rfl) (rm_dig l Z a0 hw [] vv vn ((7 : Int32)) 7 h105 n0 f108 hv rfl (by decide)) (by decide) e105 (Ls := #[.val (.long vv), .second, .val (.long ff), .second, .val (.int dd), .val (.ref b101)]) [(.long vv), (.int (7 : Int32))] [(.int (1 : Int32)), (.ref b101)] rfl (by rw [hml]; rfl) (lenOf own_pd1 rfl) (D 13) (by decide) 2 rfl (by decide) (by decide) (by decide)
 obtain ⟨rfl, Nq106, K106⟩ := hQ106
 have N106 := Fr.app N105 Nq106
 refine st106 _ ?_
 have e106 : T106.heap = T106.heap := rfl
 have f109 := V105.keep K106 nin0
 refine t_Cn X106 hx hZ e106 f109 1 rfl (by decide) (by decide) (Nat.le_of_ble_eq_true rfl) (own_Lnar (own_Ldg _ _)) N106 gb_b101 (D 14) fun T110 h110 X110 e110 W110 V110 N110 => ?_
 refine s_aload X110 hx (D 15) rfl rfl ?_
 refine s_iconst X110 hx (2 : Int32) (D 16) rfl ?_
 refine s_lloadN X110 hx (D 17) rfl ?_
 refine s_bipush X110 hx (6 : Int32) (D 18) rfl ?_
 have f112 := f108.keep K106 all0
 have f113 := f112.wr W110 gb_b101
 obtain ⟨_, T111, Lc111, X111, hQ111, st111⟩ := own_callS X110 hx hZ hown (own_hw hw 20 rfl) (own_hw hw 21 rfl) (own_hw hw 5 rfl) (own_hw hw 22 rfl) (rm_dig l Z a0 hw [] vv vn ((6 : Int32)) 6 h110 n0 f113 hv rfl (by decide)) (by decide) e110 (Ls := #[.val (.long vv), .second, .val (.long ff), .second, .val (.int dd), .val (.ref b101)]) [(.long vv), (.int (6 : Int32))] [(.int (2 : Int32)), (.ref b101)] rfl (by rw [hml]; rfl) (lenOf own_pd1 rfl) (D 19) (by decide) 2 rfl (by decide) (by decide) (by decide)
 obtain ⟨rfl, Nq111, K111⟩ := hQ111
 have N111 := Fr.app N110 Nq111
 refine st111 _ ?_
 have e111 : T111.heap = T111.heap := rfl
 have f114 := V110.keep K111 nin0
 refine t_Cn X111 hx hZ e111 f114 2 rfl (by decide) (by decide) (Nat.le_of_ble_eq_true rfl) (own_Lnar (own_Ldg _ _)) N111 gb_b101 (D 20) fun T115 h115 X115 e115 W115 V115 N115 => ?_
 refine s_aload X115 hx (D 21) rfl rfl ?_
 refine s_iconst X115 hx (3 : Int32) (D 22) rfl ?_
 refine s_lloadN X115 hx (D 23) rfl ?_
 refine s_iconst X115 hx (5 : Int32) (D 24) rfl ?_
 have f117 := f113.keep K111 all0
 have f118 := f117.wr W115 gb_b101
 obtain ⟨_, T116, Lc116, X116, hQ116, st116⟩ := own_callS X115 hx hZ hown (own_hw hw 20 rfl) (own_hw hw 21 rfl) (own_hw hw 5 rfl) (own_hw hw 22 rfl) (rm_dig l Z a0 hw [] vv vn ((5 : Int32)) 5 h115 n0 f118 hv rfl (by decide)) (by decide) e115 (Ls := #[.val (.long vv), .second, .val (.long ff), .second, .val (.int dd), .val (.ref b101)]) [(.long vv), (.int (5 : Int32))] [(.int (3 : Int32)), (.ref b101)] rfl (by rw [hml]; rfl) (lenOf own_pd1 rfl) (D 25) (by decide) 2 rfl (by decide) (by decide) (by decide)
 obtain ⟨rfl, Nq116, K116⟩ := hQ116
 have N116 := Fr.app N115 Nq116
 refine st116 _ ?_
 have e116 : T116.heap = T116.heap := rfl
 have f119 := V115.keep K116 nin0
 refine t_Cn X116 hx hZ e116 f119 3 rfl (by decide) (by decide) (Nat.le_of_ble_eq_true rfl) (own_Lnar (own_Ldg _ _)) N116 gb_b101 (D 26) fun T120 h120 X120 e120 W120 V120 N120 => ?_
 refine s_aload X120 hx (D 27) rfl rfl ?_
 refine s_iconst X120 hx (4 : Int32) (D 28) rfl ?_
 refine s_lloadN X120 hx (D 29) rfl ?_
 refine s_iconst X120 hx (4 : Int32) (D 30) rfl ?_
 have f122 := f118.keep K116 all0
 have f123 := f122.wr W120 gb_b101
 obtain ⟨_, T121, Lc121, X121, hQ121, st121⟩ := own_callS X120 hx hZ hown (own_hw hw 20 rfl) (own_hw hw 21 rfl) (own_hw hw 5 rfl) (own_hw hw 22 rfl) (rm_dig l Z a0 hw [] vv vn ((4 : Int32)) 4 h120 n0 f123 hv rfl (by decide)) (by decide) e120 (Ls := #[.val (.long vv), .second, .val (.long ff), .second, .val (.int dd), .val (.ref b101)]) [(.long vv), (.int (4 : Int32))] [(.int (4 : Int32)), (.ref b101)] rfl (by rw [hml]; rfl) (lenOf own_pd1 rfl) (D 31) (by decide) 2 rfl (by decide) (by decide) (by decide)
 obtain ⟨rfl, Nq121, K121⟩ := hQ121
 have N121 := Fr.app N120 Nq121
 refine st121 _ ?_
 have e121 : T121.heap = T121.heap := rfl
 have f124 := V120.keep K121 nin0
 refine t_Cn X121 hx hZ e121 f124 4 rfl (by decide) (by decide) (Nat.le_of_ble_eq_true rfl) (own_Lnar (own_Ldg _ _)) N121 gb_b101 (D 32) fun T125 h125 X125 e125 W125 V125 N125 => ?_
 refine s_aload X125 hx (D 33) rfl rfl ?_
 refine s_iconst X125 hx (5 : Int32) (D 34) rfl ?_
 refine s_lloadN X125 hx (D 35) rfl ?_
 refine s_iconst X125 hx (3 : Int32) (D 36) rfl ?_
 have f127 := f123.keep K121 all0
 have f128 := f127.wr W125 gb_b101
 obtain ⟨_, T126, Lc126, X126, hQ126, st126⟩ := own_callS X125 hx hZ hown (own_hw hw 20 rfl) (own_hw hw 21 rfl) (own_hw hw 5 rfl) (own_hw hw 22 rfl) (rm_dig l Z a0 hw [] vv vn ((3 : Int32)) 3 h125 n0 f128 hv rfl (by decide)) (by decide) e125 (Ls := #[.val (.long vv), .second, .val (.long ff), .second, .val (.int dd), .val (.ref b101)]) [(.long vv), (.int (3 : Int32))] [(.int (5 : Int32)), (.ref b101)] rfl (by rw [hml]; rfl) (lenOf own_pd1 rfl) (D 37) (by decide) 2 rfl (by decide) (by decide) (by decide)
 obtain ⟨rfl, Nq126, K126⟩ := hQ126
 have N126 := Fr.app N125 Nq126
 refine st126 _ ?_
 have e126 : T126.heap = T126.heap := rfl
 have f129 := V125.keep K126 nin0
 refine t_Cn X126 hx hZ e126 f129 5 rfl (by decide) (by decide) (Nat.le_of_ble_eq_true rfl) (own_Lnar (own_Ldg _ _)) N126 gb_b101 (D 38) fun T130 h130 X130 e130 W130 V130 N130 => ?_
 refine s_aload X130 hx (D 39) rfl rfl ?_
 refine s_bipush X130 hx (6 : Int32) (D 40) rfl ?_
 refine s_lloadN X130 hx (D 41) rfl ?_
 refine s_iconst X130 hx (2 : Int32) (D 42) rfl ?_
 show own_Ok p e below _ (T130.setTop (mkF m 69 #[.val (.long vv), .second, .val (.long ff), .second, .val (.int dd), .val (.ref b101)] [(.int (2 : Int32)), (.long vv), (.int (6 : Int32)), (.ref b101)]))
 have f132 := f128.keep K126 all0
 have f133 := f132.wr W130 gb_b101
 obtain ⟨_, T131, Lc131, X131, hQ131, st131⟩ := own_callS X130 hx hZ hown (own_hw hw 20 rfl) (own_hw hw 21 rfl) (own_hw hw 5 rfl) (own_hw hw 22 rfl) (rm_dig l Z a0 hw [] vv vn ((2 : Int32)) 2 h130 n0 f133 hv rfl (by decide)) (by decide) e130 (Ls := #[.val (.long vv), .second, .val (.long ff), .second, .val (.int dd), .val (.ref b101)]) [(.long vv), (.int (2 : Int32))] [(.int (6 : Int32)), (.ref b101)] rfl (by rw [hml]; rfl) (lenOf own_pd1 rfl) (D 43) (by decide) 2 rfl (by decide) (by decide) (by decide)
 obtain ⟨rfl, Nq131, K131⟩ := hQ131
 have N131 := Fr.app N130 Nq131
 refine st131 _ ?_
 have e131 : T131.heap = T131.heap := rfl
 have f134 := V130.keep K131 nin0
 refine t_Cn X131 hx hZ e131 f134 6 rfl (by decide) (by decide) (Nat.le_of_ble_eq_true rfl) (own_Lnar (own_Ldg _ _)) N131 gb_b101 (D 44) fun T135 h135 X135 e135 W135 V135 N135 => ?_
 refine s_aload X135 hx (D 45) rfl rfl ?_
 refine s_bipush X135 hx (7 : Int32) (D 46) rfl ?_
 refine s_lloadN X135 hx (D 47) rfl ?_
 refine s_iconst X135 hx (1 : Int32) (D 48) rfl ?_
 have f137 := f133.keep K131 all0
 have f138 := f137.wr W135 gb_b101
 obtain ⟨_, T136, Lc136, X136, hQ136, st136⟩ := own_callS X135 hx hZ hown (own_hw hw 20 rfl) (own_hw hw 21 rfl) (own_hw hw 5 rfl) (own_hw hw 22 rfl) (rm_dig l Z a0 hw [] vv vn ((1 : Int32)) 1 h135 n0 f138 hv rfl (by decide)) (by decide) e135 (Ls := #[.val (.long vv), .second, .val (.long ff), .second, .val (.int dd), .val (.ref b101)]) [(.long vv), (.int (1 : Int32))] [(.int (7 : Int32)), (.ref b101)] rfl (by rw [hml]; rfl) (lenOf own_pd1 rfl) (D 49) (by decide) 2 rfl (by decide) (by decide) (by decide)
 obtain ⟨rfl, Nq136, K136⟩ := hQ136
 have N136 := Fr.app N135 Nq136
 refine st136 _ ?_
 have e136 : T136.heap = T136.heap := rfl
 have f139 := V135.keep K136 nin0
 refine t_Cn X136 hx hZ e136 f139 7 rfl (by decide) (by decide) (Nat.le_of_ble_eq_true rfl) (own_Lnar (own_Ldg _ _)) N136 gb_b101 (D 50) fun T140 h140 X140 e140 W140 V140 N140 => ?_
 refine s_aload X140 hx (D 51) rfl rfl ?_
 refine s_bipush X140 hx (8 : Int32) (D 52) rfl ?_
 refine s_lloadN X140 hx (D 53) rfl ?_
 refine s_iconst X140 hx (0 : Int32) (D 54) rfl ?_
 have f142 := f138.keep K136 all0
 have f143 := f142.wr W140 gb_b101
 obtain ⟨_, T141, Lc141, X141, hQ141, st141⟩ := own_callS X140 hx hZ hown (own_hw hw 20 rfl) (own_hw hw 21 rfl) (own_hw hw 5 rfl) (own_hw hw 22 rfl) (rm_dig l Z a0 hw [] vv vn ((0 : Int32)) 0 h140 n0 f143 hv rfl (by decide)) (by decide) e140 (Ls := #[.val (.long vv), .second, .val (.long ff), .second, .val (.int dd), .val (.ref b101)]) [(.long vv), (.int (0 : Int32))] [(.int (8 : Int32)), (.ref b101)] rfl (by rw [hml]; rfl) (lenOf own_pd1 rfl) (D 55) (by decide) 2 rfl (by decide) (by decide) (by decide)
 obtain ⟨rfl, Nq141, K141⟩ := hQ141
 have N141 := Fr.app N140 Nq141
 refine st141 _ ?_
 have e141 : T141.heap = T141.heap := rfl
 have f144 := V140.keep K141 nin0
 refine t_Cn X141 hx hZ e141 f144 8 rfl (by decide) (by decide) (Nat.le_of_ble_eq_true rfl) (own_Lnar (own_Ldg _ _)) N141 gb_b101 (D 56) fun T145 h145 X145 e145 W145 V145 N145 => ?_
 refine s_aload X145 hx (D 57) rfl rfl ?_
 refine s_bipush X145 hx (9 : Int32) (D 58) rfl ?_
 refine s_bipush X145 hx (46 : Int32) (D 59) rfl ?_
 refine t_C X145 hx hZ e145 V145 9 rfl (by decide) (by decide) (Nat.le_of_ble_eq_true rfl) N145 gb_b101 (D 60) fun T146 h146 X146 e146 W146 V146 N146 => ?_
 refine s_aload X146 hx (D 61) rfl rfl ?_
 refine s_bipush X146 hx (10 : Int32) (D 62) rfl ?_
 refine s_lloadN X146 hx (D 63) rfl ?_
 refine s_iload X146 hx (D 64) rfl ?_
 refine s_iconst X146 hx (0 : Int32) (D 65) rfl ?_
 have f148 := f143.keep K141 all0
 have f149 := f148.wr W145 gb_b101
 have f150 := f149.wr W146 gb_b101
 obtain ⟨_, T147, Lc147, X147, hQ147, st147⟩ := own_callS X146 hx hZ hown (own_hw hw 23 rfl) (own_hw hw 24 rfl) (own_hw hw 5 rfl) (own_hw hw 25 rfl) (rm_fdg l Z a0 hw [] ff fn dd d ((0 : Int32)) 0 h146 n0 f150 hf hd hd6 rfl) (by decide) e146 (Ls := #[.val (.long vv), .second, .val (.long ff), .second, .val (.int dd), .val (.ref b101)]) [(.long ff), (.int dd), (.int (0 : Int32))] [(.int (10 : Int32)), (.ref b101)] rfl (by rw [hml]; rfl) (lenOf own_pd3 rfl) (D 66) (by decide) 2 rfl (by decide) (by decide) (by decide)
 obtain ⟨rfl, Nq147, K147⟩ := hQ147
 have N147 := Fr.app N146 Nq147
 refine st147 _ ?_
 have e147 : T147.heap = T147.heap := rfl
 have f151 := V146.keep K147 nin0
 refine t_Cn X147 hx hZ e147 f151 10 rfl (by decide) (by decide) (Nat.le_of_ble_eq_true rfl) (own_Lnar (own_Lfd _ _ _)) N147 gb_b101 (D 67) fun T152 h152 X152 e152 W152 V152 N152 => ?_
 refine s_aload X152 hx (D 68) rfl rfl ?_
 refine s_bipush X152 hx (11 : Int32) (D 69) rfl ?_
 refine s_lloadN X152 hx (D 70) rfl ?_
 refine s_iload X152 hx (D 71) rfl ?_
 refine s_iconst X152 hx (1 : Int32) (D 72) rfl ?_
 have f154 := f150.keep K147 all0
 have f155 := f154.wr W152 gb_b101
 obtain ⟨_, T153, Lc153, X153, hQ153, st153⟩ := own_callS X152 hx hZ hown (own_hw hw 23 rfl) (own_hw hw 24 rfl) (own_hw hw 5 rfl) (own_hw hw 25 rfl) (rm_fdg l Z a0 hw [] ff fn dd d ((1 : Int32)) 1 h152 n0 f155 hf hd hd6 rfl) (by decide) e152 (Ls := #[.val (.long vv), .second, .val (.long ff), .second, .val (.int dd), .val (.ref b101)]) [(.long ff), (.int dd), (.int (1 : Int32))] [(.int (11 : Int32)), (.ref b101)] rfl (by rw [hml]; rfl) (lenOf own_pd3 rfl) (D 73) (by decide) 2 rfl (by decide) (by decide) (by decide)
 obtain ⟨rfl, Nq153, K153⟩ := hQ153
 have N153 := Fr.app N152 Nq153
 refine st153 _ ?_
 have e153 : T153.heap = T153.heap := rfl
 have f156 := V152.keep K153 nin0
 refine t_Cn X153 hx hZ e153 f156 11 rfl (by decide) (by decide) (Nat.le_of_ble_eq_true rfl) (own_Lnar (own_Lfd _ _ _)) N153 gb_b101 (D 74) fun T157 h157 X157 e157 W157 V157 N157 => ?_
 refine s_aload X157 hx (D 75) rfl rfl ?_
 refine s_bipush X157 hx (12 : Int32) (D 76) rfl ?_
 refine s_lloadN X157 hx (D 77) rfl ?_
 refine s_iload X157 hx (D 78) rfl ?_
 refine s_iconst X157 hx (2 : Int32) (D 79) rfl ?_
 have f159 := f155.keep K153 all0
 have f160 := f159.wr W157 gb_b101
 obtain ⟨_, T158, Lc158, X158, hQ158, st158⟩ := own_callS X157 hx hZ hown (own_hw hw 23 rfl) (own_hw hw 24 rfl) (own_hw hw 5 rfl) (own_hw hw 25 rfl) (rm_fdg l Z a0 hw [] ff fn dd d ((2 : Int32)) 2 h157 n0 f160 hf hd hd6 rfl) (by decide) e157 (Ls := #[.val (.long vv), .second, .val (.long ff), .second, .val (.int dd), .val (.ref b101)]) [(.long ff), (.int dd), (.int (2 : Int32))] [(.int (12 : Int32)), (.ref b101)] rfl (by rw [hml]; rfl) (lenOf own_pd3 rfl) (D 80) (by decide) 2 rfl (by decide) (by decide) (by decide)
 obtain ⟨rfl, Nq158, K158⟩ := hQ158
 have N158 := Fr.app N157 Nq158
 refine st158 _ ?_
 have e158 : T158.heap = T158.heap := rfl
 have f161 := V157.keep K158 nin0
 refine t_Cn X158 hx hZ e158 f161 12 rfl (by decide) (by decide) (Nat.le_of_ble_eq_true rfl) (own_Lnar (own_Lfd _ _ _)) N158 gb_b101 (D 81) fun T162 h162 X162 e162 W162 V162 N162 => ?_
 refine s_aload X162 hx (D 82) rfl rfl ?_
 refine s_bipush X162 hx (13 : Int32) (D 83) rfl ?_
 show own_Ok p e below _ (T162.setTop (mkF m 140 #[.val (.long vv), .second, .val (.long ff), .second, .val (.int dd), .val (.ref b101)] [(.int (13 : Int32)), (.ref b101)]))
 refine s_lloadN X162 hx (D 84) rfl ?_
 refine s_iload X162 hx (D 85) rfl ?_
 refine s_iconst X162 hx (3 : Int32) (D 86) rfl ?_
 have f164 := f160.keep K158 all0
 have f165 := f164.wr W162 gb_b101
 obtain ⟨_, T163, Lc163, X163, hQ163, st163⟩ := own_callS X162 hx hZ hown (own_hw hw 23 rfl) (own_hw hw 24 rfl) (own_hw hw 5 rfl) (own_hw hw 25 rfl) (rm_fdg l Z a0 hw [] ff fn dd d ((3 : Int32)) 3 h162 n0 f165 hf hd hd6 rfl) (by decide) e162 (Ls := #[.val (.long vv), .second, .val (.long ff), .second, .val (.int dd), .val (.ref b101)]) [(.long ff), (.int dd), (.int (3 : Int32))] [(.int (13 : Int32)), (.ref b101)] rfl (by rw [hml]; rfl) (lenOf own_pd3 rfl) (D 87) (by decide) 2 rfl (by decide) (by decide) (by decide)
 obtain ⟨rfl, Nq163, K163⟩ := hQ163
 have N163 := Fr.app N162 Nq163
 refine st163 _ ?_
 have e163 : T163.heap = T163.heap := rfl
 have f166 := V162.keep K163 nin0
 refine t_Cn X163 hx hZ e163 f166 13 rfl (by decide) (by decide) (Nat.le_of_ble_eq_true rfl) (own_Lnar (own_Lfd _ _ _)) N163 gb_b101 (D 88) fun T167 h167 X167 e167 W167 V167 N167 => ?_
 refine s_aload X167 hx (D 89) rfl rfl ?_
 refine s_bipush X167 hx (14 : Int32) (D 90) rfl ?_
 refine s_lloadN X167 hx (D 91) rfl ?_
 refine s_iload X167 hx (D 92) rfl ?_
 refine s_iconst X167 hx (4 : Int32) (D 93) rfl ?_
 have f169 := f165.keep K163 all0
 have f170 := f169.wr W167 gb_b101
 obtain ⟨_, T168, Lc168, X168, hQ168, st168⟩ := own_callS X167 hx hZ hown (own_hw hw 23 rfl) (own_hw hw 24 rfl) (own_hw hw 5 rfl) (own_hw hw 25 rfl) (rm_fdg l Z a0 hw [] ff fn dd d ((4 : Int32)) 4 h167 n0 f170 hf hd hd6 rfl) (by decide) e167 (Ls := #[.val (.long vv), .second, .val (.long ff), .second, .val (.int dd), .val (.ref b101)]) [(.long ff), (.int dd), (.int (4 : Int32))] [(.int (14 : Int32)), (.ref b101)] rfl (by rw [hml]; rfl) (lenOf own_pd3 rfl) (D 94) (by decide) 2 rfl (by decide) (by decide) (by decide)
 obtain ⟨rfl, Nq168, K168⟩ := hQ168
 have N168 := Fr.app N167 Nq168
 refine st168 _ ?_
 have e168 : T168.heap = T168.heap := rfl
 have f171 := V167.keep K168 nin0
 refine t_Cn X168 hx hZ e168 f171 14 rfl (by decide) (by decide) (Nat.le_of_ble_eq_true rfl) (own_Lnar (own_Lfd _ _ _)) N168 gb_b101 (D 95) fun T172 h172 X172 e172 W172 V172 N172 => ?_
 refine s_aload X172 hx (D 96) rfl rfl ?_
 refine s_bipush X172 hx (15 : Int32) (D 97) rfl ?_
 refine s_lloadN X172 hx (D 98) rfl ?_
 refine s_iload X172 hx (D 99) rfl ?_
 refine s_iconst X172 hx (5 : Int32) (D 100) rfl ?_
 have f174 := f170.keep K168 all0
 have f175 := f174.wr W172 gb_b101
 obtain ⟨_, T173, Lc173, X173, hQ173, st173⟩ := own_callS X172 hx hZ hown (own_hw hw 23 rfl) (own_hw hw 24 rfl) (own_hw hw 5 rfl) (own_hw hw 25 rfl) (rm_fdg l Z a0 hw [] ff fn dd d ((5 : Int32)) 5 h172 n0 f175 hf hd hd6 rfl) (by decide) e172 (Ls := #[.val (.long vv), .second, .val (.long ff), .second, .val (.int dd), .val (.ref b101)]) [(.long ff), (.int dd), (.int (5 : Int32))] [(.int (15 : Int32)), (.ref b101)] rfl (by rw [hml]; rfl) (lenOf own_pd3 rfl) (D 101) (by decide) 2 rfl (by decide) (by decide) (by decide)
 obtain ⟨rfl, Nq173, K173⟩ := hQ173
 have N173 := Fr.app N172 Nq173
 refine st173 _ ?_
 have e173 : T173.heap = T173.heap := rfl
 have f176 := V172.keep K173 nin0
 refine t_Cn X173 hx hZ e173 f176 15 rfl (by decide) (by decide) (Nat.le_of_ble_eq_true rfl) (own_Lnar (own_Lfd _ _ _)) N173 gb_b101 (D 102) fun T177 h177 X177 e177 W177 V177 N177 => ?_
 refine s_aload X177 hx (D 103) rfl rfl ?_
 refine s_iload X177 hx (D 104) rfl ?_
 by_cases c176_178 : dd = (0 : Int32)
 ·skip
  refine s_ifNo X177 hx (D 105) (XT.i0_ne_f c176_178) ?_
  refine s_bipush X177 hx (9 : Int32) (D 106) rfl ?_
  refine s_goto X177 hx 189 (D 107) (by decide) (by decide) ?_
  have f180 := f175.keep K173 all0
  have f181 := f180.wr W177 gb_b101
  obtain ⟨_, T179, Lc179, X179, hQ179, st179⟩ := own_callS X177 hx hZ hown (own_hw hw 26 rfl) (own_hw hw 27 rfl) (own_hw hw 5 rfl) (own_hw hw 28 rfl) (rm_cut l Z a0 hw [] G1 b101 k101 ((9 : Int32)) ((own_tn d)) ((own_dg vn 8)) ((own_dg vn 7)) ((own_dg vn 6)) ((own_dg vn 5)) ((own_dg vn 4)) ((own_dg vn 3)) ((own_dg vn 2)) ((own_dg vn 1)) ((own_dg vn 0)) ((46 : Int32)) ((own_fd fn d 0)) ((own_fd fn d 1)) ((own_fd fn d 2)) ((own_fd fn d 3)) ((own_fd fn d 4)) ((own_fd fn d 5)) h177 n0 f181 SG1 PG1 V177 (own_tn0 hd c176_178) (own_tnS hd6) (own_Ldg _ _) (own_Ldg _ _) (own_Ldg _ _) (own_Ldg _ _) (own_Ldg _ _) (own_Ldg _ _) (own_Ldg _ _) (own_Ldg _ _) (own_Ldg _ _) own_L46 (own_Lfd _ _ _) (own_Lfd _ _ _) (own_Lfd _ _ _) (own_Lfd _ _ _) (own_Lfd _ _ _) (own_Lfd _ _ _)) (by decide) e177 (Ls := #[.val (.long vv), .second, .val (.long ff), .second, .val (.int dd), .val (.ref b101)]) [(.ref b101), (.int (9 : Int32))] [] rfl (by rw [hml]; rfl) (lenOf own_pd4 rfl) (D 108) (by decide) 0 rfl (by decide) (by decide) (by decide)
  obtain ⟨az_179, tz_179, kz_179, rfl, Nq179, K179, g179_0, g179_1, g179_2, g179_3, gs_az_179, gs_tz_179⟩ := hQ179
  have N179 := Fr.app N177 Nq179
  refine st179 _ ?_
  have gb_az_179 : n0 ≤ az_179 := Nat.le_trans (own_n0 f181) gs_az_179
  have f182 := (Keep.refl h0 []).ext E101
  have f183 := f182.trans K102 all0
  have f184 := f183.wr W105 (Or.inr gz_b101)
  have f185 := f184.trans K106 all0
  have f186 := f185.wr W110 (Or.inr gz_b101)
  have f187 := f186.trans K111 all0
  have f188 := f187.wr W115 (Or.inr gz_b101)
  have f189 := f188.trans K116 all0
  have f190 := f189.wr W120 (Or.inr gz_b101)
  have f191 := f190.trans K121 all0
  have f192 := f191.wr W125 (Or.inr gz_b101)
  have f193 := f192.trans K126 all0
  have f194 := f193.wr W130 (Or.inr gz_b101)
  have f195 := f194.trans K131 all0
  have f196 := f195.wr W135 (Or.inr gz_b101)
  have f197 := f196.trans K136 all0
  have f198 := f197.wr W140 (Or.inr gz_b101)
  have f199 := f198.trans K141 all0
  have f200 := f199.wr W145 (Or.inr gz_b101)
  have f201 := f200.wr W146 (Or.inr gz_b101)
  have f202 := f201.trans K147 all0
  have f203 := f202.wr W152 (Or.inr gz_b101)
  have f204 := f203.trans K153 all0
  have f205 := f204.wr W157 (Or.inr gz_b101)
  have f206 := f205.trans K158 all0
  have f207 := f206.wr W162 (Or.inr gz_b101)
  have f208 := f207.trans K163 all0
  have f209 := f208.wr W167 (Or.inr gz_b101)
  have f210 := f209.trans K168 all0
  have f211 := f210.wr W172 (Or.inr gz_b101)
  have f212 := f211.trans K173 all0
  have f213 := f212.wr W177 (Or.inr gz_b101)
  have gz_az_179 : h0.size ≤ az_179 := Nat.le_trans f213.1 gs_az_179
  have ne_b101_az_179 : b101 ≠ az_179 := Nat.ne_of_lt (Nat.lt_of_lt_of_le V177.lt gs_az_179)
  have gb_tz_179 : n0 ≤ tz_179 := Nat.le_trans (own_n0 f181) gs_tz_179
  have gz_tz_179 : h0.size ≤ tz_179 := Nat.le_trans f213.1 gs_tz_179
  have ne_b101_tz_179 : b101 ≠ tz_179 := Nat.ne_of_lt (Nat.lt_of_lt_of_le V177.lt gs_tz_179)
  have e179 : T179.heap = T179.heap := rfl
  have VX : Arv Z T179.heap tz_179 kz_179 .byte (Int32.ofNat (own_tx vn fn d).length) (own_bv (own_tx vn fn d)) (.int (0 : Int32)) := by rw [own_txl hd6, ← (own_tn0 hd c176_178)]; exact g179_3
  have f214 := f213.trans K179 all0
  exact own_retA X179 hx hlk (t := (.object "java/lang/String")) rfl Bd.returns rfl (D 109) (by rw [e179]; exact ⟨az_179, tz_179, kz_179, rfl, N179, f214, g179_0, g179_1, g179_2, VX, gz_az_179, gz_tz_179⟩) (by decide) (by decide)
 ·skip
  refine s_ifYes X177 hx 184 (D 105) (XT.i0_ne_t c176_178) (by decide) (by decide) ?_
  refine s_bipush X177 hx (10 : Int32) (D 110) rfl ?_
  refine s_iload X177 hx (D 111) rfl ?_
  refine s_iadd X177 hx (D 112) ?_
  have f216 := f175.keep K173 all0
  have f217 := f216.wr W177 gb_b101
  obtain ⟨_, T215, Lc215, X215, hQ215, st215⟩ := own_callS X177 hx hZ hown (own_hw hw 26 rfl) (own_hw hw 27 rfl) (own_hw hw 5 rfl) (own_hw hw 28 rfl) (rm_cut l Z a0 hw [] G1 b101 k101 (((10 : Int32) + dd)) ((own_tn d)) ((own_dg vn 8)) ((own_dg vn 7)) ((own_dg vn 6)) ((own_dg vn 5)) ((own_dg vn 4)) ((own_dg vn 3)) ((own_dg vn 2)) ((own_dg vn 1)) ((own_dg vn 0)) ((46 : Int32)) ((own_fd fn d 0)) ((own_fd fn d 1)) ((own_fd fn d 2)) ((own_fd fn d 3)) ((own_fd fn d 4)) ((own_fd fn d 5)) h177 n0 f217 SG1 PG1 V177 (own_tn1 hd hd6 c176_178) (own_tnS hd6) (own_Ldg _ _) (own_Ldg _ _) (own_Ldg _ _) (own_Ldg _ _) (own_Ldg _ _) (own_Ldg _ _) (own_Ldg _ _) (own_Ldg _ _) (own_Ldg _ _) own_L46 (own_Lfd _ _ _) (own_Lfd _ _ _) (own_Lfd _ _ _) (own_Lfd _ _ _) (own_Lfd _ _ _) (own_Lfd _ _ _)) (by decide) e177 (Ls := #[.val (.long vv), .second, .val (.long ff), .second, .val (.int dd), .val (.ref b101)]) [(.ref b101), (.int ((10 : Int32) + dd))] [] rfl (by rw [hml]; rfl) (lenOf own_pd4 rfl) (D 108) (by decide) 0 rfl (by decide) (by decide) (by decide)
  obtain ⟨az_215, tz_215, kz_215, rfl, Nq215, K215, g215_0, g215_1, g215_2, g215_3, gs_az_215, gs_tz_215⟩ := hQ215
  have N215 := Fr.app N177 Nq215
  refine st215 _ ?_
  have gb_az_215 : n0 ≤ az_215 := Nat.le_trans (own_n0 f217) gs_az_215
  have f218 := (Keep.refl h0 []).ext E101
  have f219 := f218.trans K102 all0
  have f220 := f219.wr W105 (Or.inr gz_b101)
  have f221 := f220.trans K106 all0
  have f222 := f221.wr W110 (Or.inr gz_b101)
  have f223 := f222.trans K111 all0
  have f224 := f223.wr W115 (Or.inr gz_b101)
  have f225 := f224.trans K116 all0
  have f226 := f225.wr W120 (Or.inr gz_b101)
  have f227 := f226.trans K121 all0
  have f228 := f227.wr W125 (Or.inr gz_b101)
  have f229 := f228.trans K126 all0
  have f230 := f229.wr W130 (Or.inr gz_b101)
  have f231 := f230.trans K131 all0
  have f232 := f231.wr W135 (Or.inr gz_b101)
  have f233 := f232.trans K136 all0
  have f234 := f233.wr W140 (Or.inr gz_b101)
  have f235 := f234.trans K141 all0
  have f236 := f235.wr W145 (Or.inr gz_b101)
  have f237 := f236.wr W146 (Or.inr gz_b101)
  have f238 := f237.trans K147 all0
  have f239 := f238.wr W152 (Or.inr gz_b101)
  have f240 := f239.trans K153 all0
  have f241 := f240.wr W157 (Or.inr gz_b101)
  have f242 := f241.trans K158 all0
  have f243 := f242.wr W162 (Or.inr gz_b101)
  have f244 := f243.trans K163 all0
  have f245 := f244.wr W167 (Or.inr gz_b101)
  have f246 := f245.trans K168 all0
  have f247 := f246.wr W172 (Or.inr gz_b101)
  have f248 := f247.trans K173 all0
  have f249 := f248.wr W177 (Or.inr gz_b101)
  have gz_az_215 : h0.size ≤ az_215 := Nat.le_trans f249.1 gs_az_215
  have ne_b101_az_215 : b101 ≠ az_215 := Nat.ne_of_lt (Nat.lt_of_lt_of_le V177.lt gs_az_215)
  have gb_tz_215 : n0 ≤ tz_215 := Nat.le_trans (own_n0 f217) gs_tz_215
  have gz_tz_215 : h0.size ≤ tz_215 := Nat.le_trans f249.1 gs_tz_215
  have ne_b101_tz_215 : b101 ≠ tz_215 := Nat.ne_of_lt (Nat.lt_of_lt_of_le V177.lt gs_tz_215)
  have e215 : T215.heap = T215.heap := rfl
  have VX : Arv Z T215.heap tz_215 kz_215 .byte (Int32.ofNat (own_tx vn fn d).length) (own_bv (own_tx vn fn d)) (.int (0 : Int32)) := by rw [own_txl hd6, ← (own_tn1 hd hd6 c176_178)]; exact g215_3
  have f250 := f249.trans K215 all0
  exact own_retA X215 hx hlk (t := (.object "java/lang/String")) rfl Bd.returns rfl (D 109) (by rw [e215]; exact ⟨az_215, tz_215, kz_215, rfl, N215, f250, g215_0, g215_1, g215_2, VX, gz_az_215, gz_tz_215⟩) (by decide) (by decide)
theorem own_ef_rm_isl (m : MethodId) (a1 : Addr) : entryFrame m #[(.ref a1)] 1 = mkF m 0 #[.val (.ref a1)] [] := by first | (simp [entryFrame, mkF, argsToLocals, Value.category]; done) | rfl
def t_rm_isl : List (Nat × Instr × Nat) := [(0, .getstatic 38, 3), (3, .ifCond .eq 14, 3), (6, .aload_n 0, 1), (7, .getfield 15, 3), (10, .ifCond .ne 7, 3), (13, .iconst 1, 1), (14, .goto 4, 3), (18, .ireturn, 1)]
theorem d_rm_isl (i : Nat) : decode jdk_42_method_154_code (t_rm_isl.getD i (0, .getstatic 38, 3)).1 = .ok (t_rm_isl.getD i (0, .getstatic 38, 3)).2 := own_dt (by decide +kernel) (List.mem_cons_self ..) i
def Q_rm_isl (Z : State) (G1 : Int32) (a1 : Addr) (h0 : Heap) (n0 : Nat) (v : Option Value) (h : Heap) (L : List Loc) : Prop := v = some (.int (1 : Int32)) ∧ Fr n0 L ∧ h = h0
theorem own_pn1 : plainName "java/lang/String" = true := by first | (simp [plainName, overriddenIn]; done) | decide +kernel
set_option maxRecDepth 65536 in
set_option maxHeartbeats 40000000 in
theorem rm_isl (l : Launch) (Z : State) (a0 : Array Value) (hw : ∀ d ∈ tables_1, d.before a0 Z = true) (ws : List Jvm.Cond) (G1 : Int32) (a1 : Addr) (h0 : Heap) (n0 : Nat) (O0 : Old Z n0 h0) (SG1 : Sta Z Z.heap "java/lang/String" "COMPACT_STRINGS" "Z" (.int G1)) (PG1 : ¬ (G1 = (0 : Int32))) (F1 : Fld Z h0 a1 "java/lang/String" "coder" "B" (.int (0 : Int32))) :
    own_Met l Z (⟨"java/lang/String", "isLatin1", "()Z"⟩ : MethodName) jdk_42_method_154_code 1 (some .boolean) ws ({ frames := 0, cells := 0, slots := 0, locals := 0 } : Room) #[(.ref a1)] h0 (Q_rm_isl Z G1 a1 h0 n0) := by
 refine MetFree.of_bodySF (plainFor_of_name own_pn1) hisR ?_
 intro p e s m args below meth c s₁ Bd hml0 hP hK
 obtain ⟨rfl, hZ, hh⟩ := hP
 have hx := Bd.exec
 have hby := Bd.bytes
 have D := fun i => hb hby (d_rm_isl i)
 have hml : c.maxLocals = 1 := hml0
 have hown : s.vm.findClass "java/lang/String" = some m.cls := findClass_of_methodNamed Bd.named
 have hnm := (name_of_methodNamed Bd.named Bd.method).1
 have hlk : meth.locks = false := Bd.notSynchronized
 have X0 : Stand p l e ({ frames := 0, cells := 0, slots := 0, locals := 0 } : Room) s m #[(.ref a1)] below meth c s₁ [] 0 0 := Stand.of_body Bd
 have e0 : s₁.heap = h0 := by rw [← hh, Bd.state]; rfl
 have N0 := Fr.nil n0
 suffices hgo : own_Ok p e below (own_Qx s (Q_rm_isl Z G1 a1 h0 n0) 0 0) (s₁.setTop (mkF m 0 #[.val (.ref a1)] [])) from by
   obtain ⟨s₂, o, h1, h2⟩ := hgo
   exact ⟨s₂, o, castTop (own_ef_rm_isl m a1) h1, h2⟩
 show own_Ok p e below _ (s₁.setTop (mkF m 0 #[.val (.ref a1)] []))
 obtain ⟨T101, X101, e101, st101⟩ := getS2 X0 hx hZ hown (host := "") (Or.inl (own_hw hw 42 rfl)) Via.refl e0 (SG1.ext O0.2) (g := (mkF m 0 #[.val (.ref a1)] [])) rfl (D 0)
 refine own_st st101 ?_
 show own_Ok p e below _ (T101.setTop (mkF m 3 #[.val (.ref a1)] [(.int G1)]))
 refine s_ifNo X101 hx (D 1) (XT.i0_eq_f PG1) ?_
 refine s_aloadN X101 hx (D 2) rfl rfl ?_
 obtain ⟨T102, X102, e102, st102⟩ := getF X101 hx hZ hown (host := "") (Or.inl (own_hw hw 54 rfl)) Via.refl e101 F1 (g := (mkF m 7 #[.val (.ref a1)] [(.ref a1)])) rfl rfl (D 3)
 refine own_st st102 ?_
 show own_Ok p e below _ (T102.setTop (mkF m 10 #[.val (.ref a1)] [(.int (0 : Int32))]))
 refine s_ifNo X102 hx (D 4) (XT.i0_ne_f (by decide)) ?_
 refine s_iconst X102 hx (1 : Int32) (D 5) rfl ?_
 refine s_goto X102 hx 18 (D 6) (by decide) (by decide) ?_
 exact own_retN X102 hx hlk (t := .boolean) Bd.returns (by simp) (D 7) (by rw [e102]; exact ⟨rfl, N0, rfl⟩) (by decide) (by decide)
theorem own_ef_rm_enc (m : MethodId) : entryFrame m #[(.int (46 : Int32))] 1 = mkF m 0 #[.val (.int (46 : Int32))] [] := by first | (simp [entryFrame, mkF, argsToLocals, Value.category]; done) | rfl
def t_rm_enc : List (Nat × Instr × Nat) := [(0, .iload_n 0, 1), (1, .ifCond .lt 14, 3), (4, .iload_n 0, 1), (5, .sipush 255, 3), (8, .if_icmp .gt 7, 3), (11, .iconst 1, 1), (12, .goto 4, 3), (16, .ireturn, 1)]
theorem d_rm_enc (i : Nat) : decode jdk_43_method_4_code (t_rm_enc.getD i (0, .iload_n 0, 1)).1 = .ok (t_rm_enc.getD i (0, .iload_n 0, 1)).2 := own_dt (by decide +kernel) (List.mem_cons_self ..) i
def Q_rm_enc (Z : State) (h0 : Heap) (n0 : Nat) (v : Option Value) (h : Heap) (L : List Loc) : Prop := v = some (.int (1 : Int32)) ∧ Fr n0 L ∧ h = h0
theorem own_pn2 : plainName "java/lang/StringLatin1" = true := by first | (simp [plainName, overriddenIn]; done) | decide +kernel
set_option maxRecDepth 65536 in
set_option maxHeartbeats 40000000 in
theorem rm_enc (l : Launch) (Z : State) (a0 : Array Value) (hw : ∀ d ∈ tables_1, d.before a0 Z = true) (ws : List Jvm.Cond) (h0 : Heap) (n0 : Nat) (O0 : Old Z n0 h0) :
    own_Met l Z (⟨"java/lang/StringLatin1", "canEncode", "(I)Z"⟩ : MethodName) jdk_43_method_4_code 1 (some .boolean) ws ({ frames := 0, cells := 0, slots := 0, locals := 0 } : Room) #[(.int (46 : Int32))] h0 (Q_rm_enc Z h0 n0) := by
 refine MetFree.of_bodySF (plainFor_of_name own_pn2) hisR ?_
 intro p e s m args below meth c s₁ Bd hml0 hP hK
 obtain ⟨rfl, hZ, hh⟩ := hP
 have hx := Bd.exec
 have hby := Bd.bytes
 have D := fun i => hb hby (d_rm_enc i)
 have hml : c.maxLocals = 1 := hml0
 have hown : s.vm.findClass "java/lang/StringLatin1" = some m.cls := findClass_of_methodNamed Bd.named
 have hnm := (name_of_methodNamed Bd.named Bd.method).1
 have hlk : meth.locks = false := Bd.notSynchronized
 have X0 : Stand p l e ({ frames := 0, cells := 0, slots := 0, locals := 0 } : Room) s m #[(.int (46 : Int32))] below meth c s₁ [] 0 0 := Stand.of_body Bd
 have e0 : s₁.heap = h0 := by rw [← hh, Bd.state]; rfl
 have N0 := Fr.nil n0
 suffices hgo : own_Ok p e below (own_Qx s (Q_rm_enc Z h0 n0) 0 0) (s₁.setTop (mkF m 0 #[.val (.int (46 : Int32))] [])) from by
   obtain ⟨s₂, o, h1, h2⟩ := hgo
   exact ⟨s₂, o, castTop (own_ef_rm_enc m) h1, h2⟩
 show own_Ok p e below _ (s₁.setTop (mkF m 0 #[.val (.int (46 : Int32))] []))
 refine s_iloadN X0 hx (D 0) rfl ?_
 refine s_ifNo X0 hx (D 1) (XT.i0_lt_f (by decide)) ?_
 refine s_iloadN X0 hx (D 2) rfl ?_
 refine s_sipush X0 hx (255 : Int32) (D 3) rfl ?_
 refine s_icmpNo X0 hx (D 4) (XT.ii_gt_f (by decide)) ?_
 refine s_iconst X0 hx (1 : Int32) (D 5) rfl ?_
 refine s_goto X0 hx 16 (D 6) (by decide) (by decide) ?_
 exact own_retN X0 hx hlk (t := .boolean) Bd.returns (by simp) (D 7) (by rw [e0]; exact ⟨rfl, N0, rfl⟩) (by decide) (by decide)
theorem own_ef_rm_mx0 (m : MethodId) : entryFrame m #[(.int (0 : Int32)), (.int (0 : Int32))] 2 = mkF m 0 #[.val (.int (0 : Int32)), .val (.int (0 : Int32))] [] := by first | (simp [entryFrame, mkF, argsToLocals, Value.category]; done) | rfl
def t_rm_mx0 : List (Nat × Instr × Nat) := [(0, .iload_n 0, 1), (1, .iload_n 1, 1), (2, .if_icmp .lt 7, 3), (5, .iload_n 0, 1), (6, .goto 4, 3), (10, .ireturn, 1)]
theorem d_rm_mx0 (i : Nat) : decode jdk_29_method_65_code (t_rm_mx0.getD i (0, .iload_n 0, 1)).1 = .ok (t_rm_mx0.getD i (0, .iload_n 0, 1)).2 := own_dt (by decide +kernel) (List.mem_cons_self ..) i
def Q_rm_mx0 (Z : State) (h0 : Heap) (n0 : Nat) (v : Option Value) (h : Heap) (L : List Loc) : Prop := v = some (.int (0 : Int32)) ∧ Fr n0 L ∧ h = h0
set_option maxRecDepth 65536 in
set_option maxHeartbeats 40000000 in
theorem rm_mx0 (l : Launch) (Z : State) (a0 : Array Value) (hw : ∀ d ∈ tables_1, d.before a0 Z = true) (ws : List Jvm.Cond) (h0 : Heap) (n0 : Nat) (O0 : Old Z n0 h0) :
    own_Met l Z (⟨"java/lang/Math", "max", "(II)I"⟩ : MethodName) jdk_29_method_65_code 2 (some .int) ws ({ frames := 0, cells := 0, slots := 0, locals := 0 } : Room) #[(.int (0 : Int32)), (.int (0 : Int32))] h0 (Q_rm_mx0 Z h0 n0) := by
 refine MetFree.of_bodySF (Jvm.Free.JP.mathPlain rfl (by decide +kernel)) hisR ?_
 intro p e s m args below meth c s₁ Bd hml0 hP hK
 obtain ⟨rfl, hZ, hh⟩ := hP
 have hx := Bd.exec
 have hby := Bd.bytes
 have D := fun i => hb hby (d_rm_mx0 i)
 have hml : c.maxLocals = 2 := hml0
 have hown : s.vm.findClass "java/lang/Math" = some m.cls := findClass_of_methodNamed Bd.named
 have hnm := (name_of_methodNamed Bd.named Bd.method).1
 have hlk : meth.locks = false := Bd.notSynchronized
 have X0 : Stand p l e ({ frames := 0, cells := 0, slots := 0, locals := 0 } : Room) s m #[(.int (0 : Int32)), (.int (0 : Int32))] below meth c s₁ [] 0 0 := Stand.of_body Bd
 have e0 : s₁.heap = h0 := by rw [← hh, Bd.state]; rfl
 have N0 := Fr.nil n0
 suffices hgo : own_Ok p e below (own_Qx s (Q_rm_mx0 Z h0 n0) 0 0) (s₁.setTop (mkF m 0 #[.val (.int (0 : Int32)), .val (.int (0 : Int32))] [])) from by
   obtain ⟨s₂, o, h1, h2⟩ := hgo
   exact ⟨s₂, o, castTop (own_ef_rm_mx0 m) h1, h2⟩
 show own_Ok p e below _ (s₁.setTop (mkF m 0 #[.val (.int (0 : Int32)), .val (.int (0 : Int32))] []))
 refine s_iloadN X0 hx (D 0) rfl ?_
 refine s_iloadN X0 hx (D 1) rfl ?_
 refine s_icmpNo X0 hx (D 2) (XT.ii_lt_f (by decide)) ?_
 refine s_iloadN X0 hx (D 3) rfl ?_
 refine s_goto X0 hx 10 (D 4) (by decide) (by decide) ?_
 exact own_retI X0 hx hlk Bd.returns (D 5) (by rw [e0]; exact ⟨rfl, N0, rfl⟩) (by decide) (by decide)
theorem own_ef_rm_mns (m : MethodId) (nn : Int32) : entryFrame m #[(.int nn), (.int nn)] 2 = mkF m 0 #[.val (.int nn), .val (.int nn)] [] := by first | (simp [entryFrame, mkF, argsToLocals, Value.category]; done) | rfl
def t_rm_mns : List (Nat × Instr × Nat) := [(0, .iload_n 0, 1), (1, .iload_n 1, 1), (2, .if_icmp .gt 7, 3), (5, .iload_n 0, 1), (6, .goto 4, 3), (10, .ireturn, 1)]
theorem d_rm_mns (i : Nat) : decode jdk_29_method_69_code (t_rm_mns.getD i (0, .iload_n 0, 1)).1 = .ok (t_rm_mns.getD i (0, .iload_n 0, 1)).2 := own_dt (by decide +kernel) (List.mem_cons_self ..) i
def Q_rm_mns (Z : State) (nn : Int32) (h0 : Heap) (n0 : Nat) (v : Option Value) (h : Heap) (L : List Loc) : Prop := v = some (.int nn) ∧ Fr n0 L ∧ h = h0
set_option maxRecDepth 65536 in
set_option maxHeartbeats 40000000 in
theorem rm_mns (l : Launch) (Z : State) (a0 : Array Value) (hw : ∀ d ∈ tables_1, d.before a0 Z = true) (ws : List Jvm.Cond) (nn : Int32) (h0 : Heap) (n0 : Nat) (O0 : Old Z n0 h0) :
    own_Met l Z (⟨"java/lang/Math", "min", "(II)I"⟩ : MethodName) jdk_29_method_69_code 2 (some .int) ws ({ frames := 0, cells := 0, slots := 0, locals := 0 } : Room) #[(.int nn), (.int nn)] h0 (Q_rm_mns Z nn h0 n0) := by
 refine MetFree.of_bodySF (Jvm.Free.JP.mathPlain rfl (by decide +kernel)) hisR ?_
 intro p e s m args below meth c s₁ Bd hml0 hP hK
 obtain ⟨rfl, hZ, hh⟩ := hP
 have hx := Bd.exec
 have hby := Bd.bytes
 have D := fun i => hb hby (d_rm_mns i)
 have hml : c.maxLocals = 2 := hml0
 have hown : s.vm.findClass "java/lang/Math" = some m.cls := findClass_of_methodNamed Bd.named
 have hnm := (name_of_methodNamed Bd.named Bd.method).1
 have hlk : meth.locks = false := Bd.notSynchronized
 have X0 : Stand p l e ({ frames := 0, cells := 0, slots := 0, locals := 0 } : Room) s m #[(.int nn), (.int nn)] below meth c s₁ [] 0 0 := Stand.of_body Bd
 have e0 : s₁.heap = h0 := by rw [← hh, Bd.state]; rfl
 have N0 := Fr.nil n0
 suffices hgo : own_Ok p e below (own_Qx s (Q_rm_mns Z nn h0 n0) 0 0) (s₁.setTop (mkF m 0 #[.val (.int nn), .val (.int nn)] [])) from by
   obtain ⟨s₂, o, h1, h2⟩ := hgo
   exact ⟨s₂, o, castTop (own_ef_rm_mns m nn) h1, h2⟩
 show own_Ok p e below _ (s₁.setTop (mkF m 0 #[.val (.int nn), .val (.int nn)] []))
 refine s_iloadN X0 hx (D 0) rfl ?_
 refine s_iloadN X0 hx (D 1) rfl ?_
 refine s_icmpNo X0 hx (D 2) (XT.ii_gt_f Int32.lt_irrefl) ?_
 refine s_iloadN X0 hx (D 3) rfl ?_
 refine s_goto X0 hx 10 (D 4) (by decide) (by decide) ?_
 exact own_retI X0 hx hlk Bd.returns (D 5) (by rw [e0]; exact ⟨rfl, N0, rfl⟩) (by decide) (by decide)
theorem own_ef_rm_ixc (m : MethodId) (t1 : Addr) (bs : List Int32) : entryFrame m #[(.ref t1), (.int (46 : Int32)), (.int (0 : Int32)), (.int (Int32.ofNat bs.length))] 6 = mkF m 0 #[.val (.ref t1), .val (.int (46 : Int32)), .val (.int (0 : Int32)), .val (.int (Int32.ofNat bs.length)), .unset, .unset] [] := by first | (simp [entryFrame, mkF, argsToLocals, Value.category]; done) | rfl
def t_rm_ixc : List (Nat × Instr × Nat) := [(7, .iload 5, 2), (9, .iload_n 3, 1), (10, .if_icmp .ge 21, 3), (13, .aload_n 0, 1), (14, .iload 5, 2), (16, .baload, 1), (17, .iload 4, 2), (19, .if_icmp .ne 6, 3), (22, .iload 5, 2), (24, .ireturn, 1), (25, .iinc 5 1, 3), (28, .goto (-21), 3), (31, .iconst (-1), 1), (32, .ireturn, 1), (0, .iload_n 1, 1), (1, .i2b, 1), (2, .istore 4, 2), (4, .iload_n 2, 1), (5, .istore 5, 2)]
theorem d_rm_ixc (i : Nat) : decode jdk_43_method_23_code (t_rm_ixc.getD i (7, .iload 5, 2)).1 = .ok (t_rm_ixc.getD i (7, .iload 5, 2)).2 := own_dt (by decide +kernel) (List.mem_cons_self ..) i
def Q_rm_ixc (Z : State) (t1 : Addr) (k1 : ClassId) (bs : List Int32) (h0 : Heap) (n0 : Nat) (v : Option Value) (h : Heap) (L : List Loc) : Prop := ∃ (rz : Int32), v = some (.int rz) ∧ Fr n0 L ∧ h = h0 ∧ own_ix bs rz
set_option maxRecDepth 65536 in
set_option maxHeartbeats 40000000 in
theorem rm_ixc (l : Launch) (Z : State) (a0 : Array Value) (hw : ∀ d ∈ tables_1, d.before a0 Z = true) (ws : List Jvm.Cond) (t1 : Addr) (k1 : ClassId) (bs : List Int32) (h0 : Heap) (n0 : Nat) (O0 : Old Z n0 h0) (VB : Arv Z h0 t1 k1 .byte (Int32.ofNat bs.length) (bs.map Value.int) (.int (0 : Int32))) (hn3 : bs.length < 2147483648) :
    own_Met l Z (⟨"java/lang/StringLatin1", "indexOfChar", "([BIII)I"⟩ : MethodName) jdk_43_method_23_code 6 (some .int) ws ({ frames := 0, cells := 0, slots := 0, locals := 0 } : Room) #[(.ref t1), (.int (46 : Int32)), (.int (0 : Int32)), (.int (Int32.ofNat bs.length))] h0 (Q_rm_ixc Z t1 k1 bs h0 n0) := by
 refine MetFree.of_bodySF (plainFor_of_name own_pn2) hisR ?_
 intro p e s m args below meth c s₁ Bd hml0 hP hK
 obtain ⟨rfl, hZ, hh⟩ := hP
 have hx := Bd.exec
 have hby := Bd.bytes
 have D := fun i => hb hby (d_rm_ixc i)
 have hml : c.maxLocals = 6 := hml0
 have hown : s.vm.findClass "java/lang/StringLatin1" = some m.cls := findClass_of_methodNamed Bd.named
 have hnm := (name_of_methodNamed Bd.named Bd.method).1
 have hlk : meth.locks = false := Bd.notSynchronized
 have X0 : Stand p l e ({ frames := 0, cells := 0, slots := 0, locals := 0 } : Room) s m #[(.ref t1), (.int (46 : Int32)), (.int (0 : Int32)), (.int (Int32.ofNat bs.length))] below meth c s₁ [] 0 0 := Stand.of_body Bd
 have e0 : s₁.heap = h0 := by rw [← hh, Bd.state]; rfl
 have N0 := Fr.nil n0
 suffices hgo : own_Ok p e below (own_Qx s (Q_rm_ixc Z t1 k1 bs h0 n0) 0 0) (s₁.setTop (mkF m 0 #[.val (.ref t1), .val (.int (46 : Int32)), .val (.int (0 : Int32)), .val (.int (Int32.ofNat bs.length)), .unset, .unset] [])) from by
   obtain ⟨s₂, o, h1, h2⟩ := hgo
   exact ⟨s₂, o, castTop (own_ef_rm_ixc m t1 bs) h1, h2⟩
 have cut7 : ∀ (fuel : Nat), ∀ (T : State) (locs : List Loc) (q : Nat) (X : Stand p l e ({ frames := 0, cells := 0, slots := 0, locals := 0 } : Room) s m #[(.ref t1), (.int (46 : Int32)), (.int (0 : Int32)), (.int (Int32.ofNat bs.length))] below meth c T locs 0 0) (eh : T.heap = h0) (N : Fr n0 locs) (hq : q ≤ bs.length) (hne : ∀ k, k < q → bs.getD k 0 ≠ 46) (hms : bs.length - q = fuel), own_Ok p e below (own_Qx s (Q_rm_ixc Z t1 k1 bs h0 n0) 0 0) (T.setTop (mkF m 7 #[.val (.ref t1), .val (.int (46 : Int32)), .val (.int (0 : Int32)), .val (.int (Int32.ofNat bs.length)), .val (.int (46 : Int32)), .val (.int (Int32.ofNat q))] [])) := by
  intro fuel
  induction fuel using Nat.strongRecOn with
  | ind fuel ih =>
   intro T locs q X eh N hq hne hms
   show own_Ok p e below _ (T.setTop (mkF m 7 #[.val (.ref t1), .val (.int (46 : Int32)), .val (.int (0 : Int32)), .val (.int (Int32.ofNat bs.length)), .val (.int (46 : Int32)), .val (.int (Int32.ofNat q))] []))
   refine s_iload X hx (D 0) rfl ?_
   refine s_iloadN X hx (D 1) rfl ?_
   by_cases c10_101 : (Int32.ofNat q) < (Int32.ofNat bs.length)
   ·skip
    refine s_icmpNo X hx (D 2) (XT.ii_ge_f c10_101) ?_
    have hqn := own_ltN (by omega) hn3 c10_101
    refine s_aloadN X hx (D 3) rfl rfl ?_
    refine s_iload X hx (D 4) rfl ?_
    refine l_B X hx hZ eh VB (v := (bs.getD q 0)) (own_n0N (by omega)) (own_Nlt (by omega) hn3 hqn) (own_gv (by omega)) (D 5) ?_
    refine s_iload X hx (D 6) rfl ?_
    by_cases c19_102 : (bs.getD q 0) = (46 : Int32)
    ·skip
     refine s_icmpNo X hx (D 7) (XT.ii_ne_f c19_102) ?_
     refine s_iload X hx (D 8) rfl ?_
     exact own_retI X hx hlk Bd.returns (D 9) (by rw [eh]; exact ⟨_, rfl, N, rfl, Or.inr ⟨q, rfl, hqn, c19_102, hne⟩⟩) (by decide) (by decide)
    ·skip
     refine s_icmpYes X hx 25 (D 7) (XT.ii_ne_t c19_102) (by decide) (by decide) ?_
     refine s_iinc X hx (1 : Int32) (D 10) rfl rfl #[.val (.ref t1), .val (.int (46 : Int32)), .val (.int (0 : Int32)), .val (.int (Int32.ofNat bs.length)), .val (.int (46 : Int32)), .val (.int ((Int32.ofNat q) + (1 : Int32)))] rfl ?_
     refine s_goto X hx 7 (D 11) (by decide) (by decide) ?_
     rw [show ((Int32.ofNat q) + (1 : Int32)) = (Int32.ofNat (q + 1)) from own_suc q]
     show own_Ok p e below _ (T.setTop (mkF m 7 #[.val (.ref t1), .val (.int (46 : Int32)), .val (.int (0 : Int32)), .val (.int (Int32.ofNat bs.length)), .val (.int (46 : Int32)), .val (.int (Int32.ofNat (q + 1)))] []))
     exact ih _ (by omega) _ _ ((q + 1)) X eh N hqn (own_ext hne c19_102) rfl
   ·skip
    refine s_icmpYes X hx 31 (D 2) (XT.ii_ge_t c10_101) (by decide) (by decide) ?_
    have hqn := own_geN (by omega) hn3 c10_101
    refine s_iconst X hx (-1 : Int32) (D 12) rfl ?_
    exact own_retI X hx hlk Bd.returns (D 13) (by rw [eh]; exact ⟨_, rfl, N, rfl, Or.inl ⟨rfl, fun k hk => hne k (Nat.lt_of_lt_of_le hk hqn)⟩⟩) (by decide) (by decide)
 show own_Ok p e below _ (s₁.setTop (mkF m 0 #[.val (.ref t1), .val (.int (46 : Int32)), .val (.int (0 : Int32)), .val (.int (Int32.ofNat bs.length)), .unset, .unset] []))
 refine s_iloadN X0 hx (D 14) rfl ?_
 refine s_i2b X0 hx (D 15) ?_
 show own_Ok p e below _ (s₁.setTop (mkF m 2 #[.val (.ref t1), .val (.int (46 : Int32)), .val (.int (0 : Int32)), .val (.int (Int32.ofNat bs.length)), .unset, .unset] [(.int (46 : Int32))]))
 refine s_istore X0 hx (D 16) #[.val (.ref t1), .val (.int (46 : Int32)), .val (.int (0 : Int32)), .val (.int (Int32.ofNat bs.length)), .val (.int (46 : Int32)), .unset] rfl ?_
 refine s_iloadN X0 hx (D 17) rfl ?_
 refine s_istore X0 hx (D 18) #[.val (.ref t1), .val (.int (46 : Int32)), .val (.int (0 : Int32)), .val (.int (Int32.ofNat bs.length)), .val (.int (46 : Int32)), .val (.int (0 : Int32))] rfl ?_
 exact cut7 _ _ _ 0 X0 e0 N0 (Nat.zero_le _) (fun k hk => absurd hk (Nat.not_lt_zero _)) rfl
theorem own_pd5 : parseMethodDescriptor "(I)Z" = some ⟨[.int], some .boolean⟩ := by decide +kernel
theorem own_pd6 : parseMethodDescriptor "(II)I" = some ⟨[.int, .int], some .int⟩ := by decide +kernel
theorem own_pd7 : parseMethodDescriptor "([BIII)I" = some ⟨[(.array .byte), .int, .int, .int], some .int⟩ := by decide +kernel
theorem own_ef_rm_lix (m : MethodId) (t1 : Addr) (bs : List Int32) : entryFrame m #[(.ref t1), (.int (46 : Int32)), (.int (0 : Int32)), (.int (Int32.ofNat bs.length))] 4 = mkF m 0 #[.val (.ref t1), .val (.int (46 : Int32)), .val (.int (0 : Int32)), .val (.int (Int32.ofNat bs.length))] [] := by first | (simp [entryFrame, mkF, argsToLocals, Value.category]; done) | rfl
def t_rm_lix : List (Nat × Instr × Nat) := [(0, .iload_n 1, 1), (1, .invokestatic 88, 3), (4, .ifCond .ne 5, 3), (9, .iload_n 2, 1), (10, .iconst 0, 1), (11, .invokestatic 92, 3), (14, .istore_n 2, 1), (15, .iload_n 3, 1), (16, .aload_n 0, 1), (17, .arraylength, 1), (18, .invokestatic 38, 3), (21, .istore_n 3, 1), (22, .iload_n 2, 1), (23, .iload_n 3, 1), (24, .if_icmp .lt 5, 3), (29, .aload_n 0, 1), (30, .iload_n 1, 1), (31, .iload_n 2, 1), (32, .iload_n 3, 1), (33, .invokestatic 95, 3), (36, .ireturn, 1)]
theorem d_rm_lix (i : Nat) : decode jdk_43_method_22_code (t_rm_lix.getD i (0, .iload_n 1, 1)).1 = .ok (t_rm_lix.getD i (0, .iload_n 1, 1)).2 := own_dt (by decide +kernel) (List.mem_cons_self ..) i
def Q_rm_lix (Z : State) (t1 : Addr) (k1 : ClassId) (bs : List Int32) (h0 : Heap) (n0 : Nat) (v : Option Value) (h : Heap) (L : List Loc) : Prop := ∃ (rz : Int32), v = some (.int rz) ∧ Fr n0 L ∧ h = h0 ∧ own_ix bs rz
set_option maxRecDepth 65536 in
set_option maxHeartbeats 40000000 in
theorem rm_lix (l : Launch) (Z : State) (a0 : Array Value) (hw : ∀ d ∈ tables_1, d.before a0 Z = true) (ws : List Jvm.Cond) (t1 : Addr) (k1 : ClassId) (bs : List Int32) (h0 : Heap) (n0 : Nat) (O0 : Old Z n0 h0) (VB : Arv Z h0 t1 k1 .byte (Int32.ofNat bs.length) (bs.map Value.int) (.int (0 : Int32))) (hn3 : bs.length < 2147483648) (hn1 : 0 < bs.length) :
    own_Met l Z (⟨"java/lang/StringLatin1", "indexOf", "([BIII)I"⟩ : MethodName) jdk_43_method_22_code 4 (some .int) ws ({ frames := 1, cells := 0, slots := 0, locals := 17 } : Room) #[(.ref t1), (.int (46 : Int32)), (.int (0 : Int32)), (.int (Int32.ofNat bs.length))] h0 (Q_rm_lix Z t1 k1 bs h0 n0) := by
 refine MetFree.of_bodySF (plainFor_of_name own_pn2) hisR ?_
 intro p e s m args below meth c s₁ Bd hml0 hP hK
 obtain ⟨rfl, hZ, hh⟩ := hP
 have hx := Bd.exec
 have hby := Bd.bytes
 have D := fun i => hb hby (d_rm_lix i)
 have hml : c.maxLocals = 4 := hml0
 have hown : s.vm.findClass "java/lang/StringLatin1" = some m.cls := findClass_of_methodNamed Bd.named
 have hnm := (name_of_methodNamed Bd.named Bd.method).1
 have hlk : meth.locks = false := Bd.notSynchronized
 have X0 : Stand p l e ({ frames := 1, cells := 0, slots := 0, locals := 17 } : Room) s m #[(.ref t1), (.int (46 : Int32)), (.int (0 : Int32)), (.int (Int32.ofNat bs.length))] below meth c s₁ [] 0 0 := Stand.of_body Bd
 have e0 : s₁.heap = h0 := by rw [← hh, Bd.state]; rfl
 have N0 := Fr.nil n0
 suffices hgo : own_Ok p e below (own_Qx s (Q_rm_lix Z t1 k1 bs h0 n0) 0 0) (s₁.setTop (mkF m 0 #[.val (.ref t1), .val (.int (46 : Int32)), .val (.int (0 : Int32)), .val (.int (Int32.ofNat bs.length))] [])) from by
   obtain ⟨s₂, o, h1, h2⟩ := hgo
   exact ⟨s₂, o, castTop (own_ef_rm_lix m t1 bs) h1, h2⟩
 show own_Ok p e below _ (s₁.setTop (mkF m 0 #[.val (.ref t1), .val (.int (46 : Int32)), .val (.int (0 : Int32)), .val (.int (Int32.ofNat bs.length))] []))
 refine s_iloadN X0 hx (D 0) rfl ?_
 obtain ⟨_, T101, Lc101, X101, hQ101, st101⟩ := own_callS X0 hx hZ hown (own_hw hw 94 rfl) (own_hw hw 95 rfl) (own_hw hw 92 rfl) (own_hw hw 96 rfl) (rm_enc l Z a0 hw [] h0 n0 O0) (by decide) e0 (Ls := #[.val (.ref t1), .val (.int (46 : Int32)), .val (.int (0 : Int32)), .val (.int (Int32.ofNat bs.length))]) [(.int (46 : Int32))] [] rfl (by rw [hml]; rfl) (lenOf own_pd5 rfl) (D 1) (by decide) 0 rfl (by decide) (by decide) (by decide)
 obtain ⟨rfl, Nq101, e101⟩ := hQ101
 have N101 := Fr.app N0 Nq101
 refine st101 _ ?_
 refine s_ifYes X101 hx 9 (D 2) (XT.i0_ne_t (by decide)) (by decide) (by decide) ?_
 refine s_iloadN X101 hx (D 3) rfl ?_
 refine s_iconst X101 hx (0 : Int32) (D 4) rfl ?_
 obtain ⟨_, T102, Lc102, X102, hQ102, st102⟩ := own_callS X101 hx hZ hown (own_hw hw 97 rfl) (own_hw hw 98 rfl) (own_hw hw 99 rfl) (own_hw hw 100 rfl) (rm_mx0 l Z a0 hw [] h0 n0 O0) (by decide) e101 (Ls := #[.val (.ref t1), .val (.int (46 : Int32)), .val (.int (0 : Int32)), .val (.int (Int32.ofNat bs.length))]) [(.int (0 : Int32)), (.int (0 : Int32))] [] rfl (by rw [hml]; rfl) (lenOf own_pd6 rfl) (D 5) (by decide) 0 rfl (by decide) (by decide) (by decide)
 obtain ⟨rfl, Nq102, e102⟩ := hQ102
 have N102 := Fr.app N101 Nq102
 refine st102 _ ?_
 refine s_istoreN X102 hx (D 6) #[.val (.ref t1), .val (.int (46 : Int32)), .val (.int (0 : Int32)), .val (.int (Int32.ofNat bs.length))] rfl ?_
 refine s_iloadN X102 hx (D 7) rfl ?_
 refine s_aloadN X102 hx (D 8) rfl rfl ?_
 refine own_st (own_len X102 hx hZ e102 VB (g := (mkF m 17 #[.val (.ref t1), .val (.int (46 : Int32)), .val (.int (0 : Int32)), .val (.int (Int32.ofNat bs.length))] [(.ref t1), (.int (Int32.ofNat bs.length))])) rfl rfl (D 9)) ?_
 show own_Ok p e below _ (T102.setTop (mkF m 18 #[.val (.ref t1), .val (.int (46 : Int32)), .val (.int (0 : Int32)), .val (.int (Int32.ofNat bs.length))] [(.int (Int32.ofNat bs.length)), (.int (Int32.ofNat bs.length))]))
 obtain ⟨_, T103, Lc103, X103, hQ103, st103⟩ := own_callS X102 hx hZ hown (own_hw hw 101 rfl) (own_hw hw 102 rfl) (own_hw hw 99 rfl) (own_hw hw 103 rfl) (rm_mns l Z a0 hw [] ((Int32.ofNat bs.length)) h0 n0 O0) (by decide) e102 (Ls := #[.val (.ref t1), .val (.int (46 : Int32)), .val (.int (0 : Int32)), .val (.int (Int32.ofNat bs.length))]) [(.int (Int32.ofNat bs.length)), (.int (Int32.ofNat bs.length))] [] rfl (by rw [hml]; rfl) (lenOf own_pd6 rfl) (D 10) (by decide) 0 rfl (by decide) (by decide) (by decide)
 obtain ⟨rfl, Nq103, e103⟩ := hQ103
 have N103 := Fr.app N102 Nq103
 refine st103 _ ?_
 refine s_istoreN X103 hx (D 11) #[.val (.ref t1), .val (.int (46 : Int32)), .val (.int (0 : Int32)), .val (.int (Int32.ofNat bs.length))] rfl ?_
 refine s_iloadN X103 hx (D 12) rfl ?_
 refine s_iloadN X103 hx (D 13) rfl ?_
 refine s_icmpYes X103 hx 29 (D 14) (XT.ii_lt_t (own_Nlt (a := 0) (by decide) hn3 hn1)) (by decide) (by decide) ?_
 refine s_aloadN X103 hx (D 15) rfl rfl ?_
 refine s_iloadN X103 hx (D 16) rfl ?_
 refine s_iloadN X103 hx (D 17) rfl ?_
 refine s_iloadN X103 hx (D 18) rfl ?_
 obtain ⟨_, T104, Lc104, X104, hQ104, st104⟩ := own_callS X103 hx hZ hown (own_hw hw 104 rfl) (own_hw hw 105 rfl) (own_hw hw 92 rfl) (own_hw hw 106 rfl) (rm_ixc l Z a0 hw [] t1 k1 bs h0 n0 O0 VB hn3) (by decide) e103 (Ls := #[.val (.ref t1), .val (.int (46 : Int32)), .val (.int (0 : Int32)), .val (.int (Int32.ofNat bs.length))]) [(.ref t1), (.int (46 : Int32)), (.int (0 : Int32)), (.int (Int32.ofNat bs.length))] [] rfl (by rw [hml]; rfl) (lenOf own_pd7 rfl) (D 19) (by decide) 0 rfl (by decide) (by decide) (by decide)
 obtain ⟨rz_104, rfl, Nq104, e104, hix_104⟩ := hQ104
 have N104 := Fr.app N103 Nq104
 refine st104 _ ?_
 show own_Ok p e below _ (T104.setTop (mkF m 36 #[.val (.ref t1), .val (.int (46 : Int32)), .val (.int (0 : Int32)), .val (.int (Int32.ofNat bs.length))] [(.int rz_104)]))
 have hixx := hix_104
 show own_Ok p e below _ (T104.setTop (mkF m 36 #[.val (.ref t1), .val (.int (46 : Int32)), .val (.int (0 : Int32)), .val (.int (Int32.ofNat bs.length))] [(.int rz_104)]))
 exact own_retI X104 hx hlk Bd.returns (D 20) (by rw [e104]; exact ⟨_, rfl, N104, rfl, hixx⟩) (by decide) (by decide)
theorem own_pd8 : parseMethodDescriptor "()Z" = some ⟨[], some .boolean⟩ := by decide +kernel
theorem own_pd9 : parseMethodDescriptor "()I" = some ⟨[], some .int⟩ := by decide +kernel
theorem own_ef_rm_ix2 (m : MethodId) (a1 : Addr) : entryFrame m #[(.ref a1), (.int (46 : Int32)), (.int (0 : Int32))] 3 = mkF m 0 #[.val (.ref a1), .val (.int (46 : Int32)), .val (.int (0 : Int32))] [] := by first | (simp [entryFrame, mkF, argsToLocals, Value.category]; done) | rfl
def t_rm_ix2 : List (Nat × Instr × Nat) := [(0, .aload_n 0, 1), (1, .invokevirtual 492, 3), (4, .ifCond .eq 19, 3), (7, .aload_n 0, 1), (8, .getfield 9, 3), (11, .iload_n 1, 1), (12, .iload_n 2, 1), (13, .aload_n 0, 1), (14, .invokevirtual 505, 3), (17, .invokestatic 637, 3), (20, .goto 16, 3), (36, .ireturn, 1)]
theorem d_rm_ix2 (i : Nat) : decode jdk_42_method_80_code (t_rm_ix2.getD i (0, .aload_n 0, 1)).1 = .ok (t_rm_ix2.getD i (0, .aload_n 0, 1)).2 := own_dt (by decide +kernel) (List.mem_cons_self ..) i
def Q_rm_ix2 (Z : State) (G1 : Int32) (a1 : Addr) (t1 : Addr) (k1 : ClassId) (cs : List Int32) (h0 : Heap) (n0 : Nat) (v : Option Value) (h : Heap) (L : List Loc) : Prop := ∃ (rz : Int32), v = some (.int rz) ∧ Fr n0 L ∧ h = h0 ∧ own_ix (cs.map (fun c => c.toInt8.toInt32)) rz
set_option maxRecDepth 65536 in
set_option maxHeartbeats 40000000 in
theorem rm_ix2 (l : Launch) (Z : State) (a0 : Array Value) (hw : ∀ d ∈ tables_1, d.before a0 Z = true) (ws : List Jvm.Cond) (G1 : Int32) (a1 : Addr) (t1 : Addr) (k1 : ClassId) (cs : List Int32) (h0 : Heap) (n0 : Nat) (O0 : Old Z n0 h0) (SG1 : Sta Z Z.heap "java/lang/String" "COMPACT_STRINGS" "Z" (.int G1)) (PG1 : ¬ (G1 = (0 : Int32))) (Qa10 : Exa Z h0 a1 "java/lang/String") (Qa11 : Fld Z h0 a1 "java/lang/String" "coder" "B" (.int (0 : Int32))) (Qa12 : Fld Z h0 a1 "java/lang/String" "value" "[B" (.ref t1)) (Qa13 : Arv Z h0 t1 k1 .byte (Int32.ofNat cs.length) (own_bv cs) (.int (0 : Int32))) (hL : ∀ c ∈ cs, own_L c) (hl4 : cs.length ≤ 4000) (hn1 : 0 < cs.length) :
    own_Met l Z (⟨"java/lang/String", "indexOf", "(II)I"⟩ : MethodName) jdk_42_method_80_code 3 (some .int) ws ({ frames := 2, cells := 0, slots := 0, locals := 32 } : Room) #[(.ref a1), (.int (46 : Int32)), (.int (0 : Int32))] h0 (Q_rm_ix2 Z G1 a1 t1 k1 cs h0 n0) := by
 refine MetFree.of_bodySF (plainFor_of_name own_pn1) hisR ?_
 intro p e s m args below meth c s₁ Bd hml0 hP hK
 obtain ⟨rfl, hZ, hh⟩ := hP
 have hx := Bd.exec
 have hby := Bd.bytes
 have D := fun i => hb hby (d_rm_ix2 i)
 have hml : c.maxLocals = 3 := hml0
 have hown : s.vm.findClass "java/lang/String" = some m.cls := findClass_of_methodNamed Bd.named
 have hnm := (name_of_methodNamed Bd.named Bd.method).1
 have hlk : meth.locks = false := Bd.notSynchronized
 have X0 : Stand p l e ({ frames := 2, cells := 0, slots := 0, locals := 32 } : Room) s m #[(.ref a1), (.int (46 : Int32)), (.int (0 : Int32))] below meth c s₁ [] 0 0 := Stand.of_body Bd
 have e0 : s₁.heap = h0 := by rw [← hh, Bd.state]; rfl
 have N0 := Fr.nil n0
 suffices hgo : own_Ok p e below (own_Qx s (Q_rm_ix2 Z G1 a1 t1 k1 cs h0 n0) 0 0) (s₁.setTop (mkF m 0 #[.val (.ref a1), .val (.int (46 : Int32)), .val (.int (0 : Int32))] [])) from by
   obtain ⟨s₂, o, h1, h2⟩ := hgo
   exact ⟨s₂, o, castTop (own_ef_rm_ix2 m a1) h1, h2⟩
 have hln : ∀ d ∈ StrChars.Road.wordsLen, d.before a0 Z = true := fun d hd => hw d ((by decide +kernel : ∀ d ∈ StrChars.Road.wordsLen, d ∈ tables_1) d hd)
 show own_Ok p e below _ (s₁.setTop (mkF m 0 #[.val (.ref a1), .val (.int (46 : Int32)), .val (.int (0 : Int32))] []))
 refine s_aloadN X0 hx (D 0) rfl rfl ?_
 obtain ⟨_, T101, Lc101, X101, hQ101, st101⟩ := own_callV X0 hx hZ hown (own_hw hw 75 rfl) (own_hw hw 76 rfl) (own_hw hw 78 rfl) rfl (own_hw hw 78 rfl) (own_hw hw 77 rfl) (own_hw hw 31 rfl) (own_hw hw 79 rfl) (rm_isl l Z a0 hw [] G1 a1 h0 n0 O0 SG1 PG1 Qa11) (by decide) e0 Qa10 (Ls := #[.val (.ref a1), .val (.int (46 : Int32)), .val (.int (0 : Int32))]) [] [] rfl (by rw [hml]; rfl) (lenOf own_pd8 rfl) (D 1) (by decide) 0 rfl (by decide) (by decide) (by decide)
 obtain ⟨rfl, Nq101, e101⟩ := hQ101
 have N101 := Fr.app N0 Nq101
 refine st101 _ ?_
 refine s_ifNo X101 hx (D 2) (XT.i0_eq_f (by decide)) ?_
 refine s_aloadN X101 hx (D 3) rfl rfl ?_
 obtain ⟨T102, X102, e102, st102⟩ := getF X101 hx hZ hown (host := "") (Or.inl (own_hw hw 56 rfl)) Via.refl e101 Qa12 (g := (mkF m 8 #[.val (.ref a1), .val (.int (46 : Int32)), .val (.int (0 : Int32))] [(.ref a1)])) rfl rfl (D 4)
 refine own_st st102 ?_
 show own_Ok p e below _ (T102.setTop (mkF m 11 #[.val (.ref a1), .val (.int (46 : Int32)), .val (.int (0 : Int32))] [(.ref t1)]))
 refine s_iloadN X102 hx (D 5) rfl ?_
 refine s_iloadN X102 hx (D 6) rfl ?_
 refine s_aloadN X102 hx (D 7) rfl rfl ?_
 obtain ⟨cq103, kq103, q103a, q103b, q103c⟩ := isOf hZ e102 Qa10
 obtain ⟨_, _, ⟨T103, L103, k103, n103⟩, -, X103, ⟨Lc103, hQ103, l103, y103, z103⟩, st103⟩ := X102.virtualBack hx (y := (⟨"java/lang/String", "length", "()I"⟩ : MethodName)) (z := (⟨"java/lang/String", "length", "()I"⟩ : MethodName)) hown (mvT hZ (own_hw hw 80 rfl)) (mvT hZ (own_hw hw 81 rfl)) (notFace_of_selects (args := #[]) (mvT hZ (own_hw hw 83 rfl))) (mvT hZ (own_hw hw 83 rfl)) (mvT hZ (own_hw hw 82 rfl)) (by decide) (StrChars.Road.lenW (W := 3) hZ hln (kI := 4) (own_hw hw 30 rfl) Qa10 Qa12 Qa11 Qa13 (StrChars.Road.codOf (cs := cs) (n := (cs).length) rfl (fun c hc => (hL c hc).2)) (own_up hL) (SG1.ext O0.2) PG1 hl4 (by decide) (by decide)) q103a q103c (g := (mkF m 14 #[.val (.ref a1), .val (.int (46 : Int32)), .val (.int (0 : Int32))] [(.ref a1), (.int (0 : Int32)), (.int (46 : Int32)), (.ref t1)])) rfl (by rw [hml]; rfl) (Steps.refl _) (argsL := []) (rest := [(.int (0 : Int32)), (.int (46 : Int32)), (.ref t1)]) (lenOf own_pd9 rfl) rfl (by show 2 * 0 + _ ≤ _; exact Nat.le_of_eq rfl) (D 8) (fun _ _ => ⟨rfl, e102, (by decide : 0 + 0 ≤ _), (by decide : 0 + 0 ≤ _)⟩)
 dsimp only [Pt.U, Pt.locs, Pt.cells, Pt.slots] at X103 l103 y103 z103 st103 hQ103
 subst l103 y103 z103
 obtain ⟨rfl, rfl, e103⟩ := hQ103
 have Nq103 : Fr n0 ([] : List Loc) := Fr.nil n0
 have N103 := Fr.app N101 Nq103
 refine own_st (fun _ k => st103.trans k) ?_
 show own_Ok p e below _ (T103.setTop (mkF m 17 #[.val (.ref a1), .val (.int (46 : Int32)), .val (.int (0 : Int32))] [(.int (Int32.ofNat cs.length)), (.int (0 : Int32)), (.int (46 : Int32)), (.ref t1)]))
 rw [show (Int32.ofNat cs.length) = (Int32.ofNat (cs.map (fun c => c.toInt8.toInt32)).length) from by rw [List.length_map]]
 show own_Ok p e below _ (T103.setTop (mkF m 17 #[.val (.ref a1), .val (.int (46 : Int32)), .val (.int (0 : Int32))] [(.int (Int32.ofNat (cs.map (fun c => c.toInt8.toInt32)).length)), (.int (0 : Int32)), (.int (46 : Int32)), (.ref t1)]))
 have VC : Arv Z h0 t1 k1 .byte (Int32.ofNat (cs.map (fun c => c.toInt8.toInt32)).length) ((cs.map (fun c => c.toInt8.toInt32)).map Value.int) (.int (0 : Int32)) := by rw [List.length_map]; exact Qa13
 have hlm : (cs.map (fun c => c.toInt8.toInt32)).length = cs.length := List.length_map _
 obtain ⟨_, T104, Lc104, X104, hQ104, st104⟩ := own_callS X103 hx hZ hown (own_hw hw 90 rfl) (own_hw hw 91 rfl) (own_hw hw 92 rfl) (own_hw hw 93 rfl) (rm_lix l Z a0 hw [] t1 k1 ((cs.map (fun c => c.toInt8.toInt32))) h0 n0 O0 VC (by omega) (by omega)) (by decide) e103 (Ls := #[.val (.ref a1), .val (.int (46 : Int32)), .val (.int (0 : Int32))]) [(.ref t1), (.int (46 : Int32)), (.int (0 : Int32)), (.int (Int32.ofNat (cs.map (fun c => c.toInt8.toInt32)).length))] [] rfl (by rw [hml]; rfl) (lenOf own_pd7 rfl) (D 9) (by decide) 0 rfl (by decide) (by decide) (by decide)
 obtain ⟨rz_104, rfl, Nq104, e104, hix_104⟩ := hQ104
 have N104 := Fr.app N103 Nq104
 refine st104 _ ?_
 show own_Ok p e below _ (T104.setTop (mkF m 20 #[.val (.ref a1), .val (.int (46 : Int32)), .val (.int (0 : Int32))] [(.int rz_104)]))
 have hixx := hix_104
 show own_Ok p e below _ (T104.setTop (mkF m 20 #[.val (.ref a1), .val (.int (46 : Int32)), .val (.int (0 : Int32))] [(.int rz_104)]))
 refine s_goto X104 hx 36 (D 10) (by decide) (by decide) ?_
 exact own_retI X104 hx hlk Bd.returns (D 11) (by rw [e104]; exact ⟨_, rfl, N104, rfl, hixx⟩) (by decide) (by decide)
theorem own_ef_rm_ix1 (m : MethodId) (a1 : Addr) : entryFrame m #[(.ref a1), (.int (46 : Int32))] 2 = mkF m 0 #[.val (.ref a1), .val (.int (46 : Int32))] [] := by first | (simp [entryFrame, mkF, argsToLocals, Value.category]; done) | rfl
def t_rm_ix1 : List (Nat × Instr × Nat) := [(0, .aload_n 0, 1), (1, .iload_n 1, 1), (2, .iconst 0, 1), (3, .invokevirtual 633, 3), (6, .ireturn, 1)]
theorem d_rm_ix1 (i : Nat) : decode jdk_42_method_79_code (t_rm_ix1.getD i (0, .aload_n 0, 1)).1 = .ok (t_rm_ix1.getD i (0, .aload_n 0, 1)).2 := own_dt (by decide +kernel) (List.mem_cons_self ..) i
def Q_rm_ix1 (Z : State) (G1 : Int32) (a1 : Addr) (t1 : Addr) (k1 : ClassId) (vn : Nat) (fn : Nat) (d : Nat) (h0 : Heap) (n0 : Nat) (v : Option Value) (h : Heap) (L : List Loc) : Prop := v = some (.int (own_ri d)) ∧ Fr n0 L ∧ h = h0
set_option maxRecDepth 65536 in
set_option maxHeartbeats 40000000 in
theorem rm_ix1 (l : Launch) (Z : State) (a0 : Array Value) (hw : ∀ d ∈ tables_1, d.before a0 Z = true) (ws : List Jvm.Cond) (G1 : Int32) (a1 : Addr) (t1 : Addr) (k1 : ClassId) (vn : Nat) (fn : Nat) (d : Nat) (h0 : Heap) (n0 : Nat) (O0 : Old Z n0 h0) (SG1 : Sta Z Z.heap "java/lang/String" "COMPACT_STRINGS" "Z" (.int G1)) (PG1 : ¬ (G1 = (0 : Int32))) (Qa10 : Exa Z h0 a1 "java/lang/String") (Qa11 : Fld Z h0 a1 "java/lang/String" "coder" "B" (.int (0 : Int32))) (Qa12 : Fld Z h0 a1 "java/lang/String" "value" "[B" (.ref t1)) (Qa13 : Arv Z h0 t1 k1 .byte (Int32.ofNat (own_tx vn fn d).length) (own_bv (own_tx vn fn d)) (.int (0 : Int32))) (hd6 : d ≤ 6) :
    own_Met l Z (⟨"java/lang/String", "indexOf", "(I)I"⟩ : MethodName) jdk_42_method_79_code 2 (some .int) ws ({ frames := 3, cells := 0, slots := 0, locals := 46 } : Room) #[(.ref a1), (.int (46 : Int32))] h0 (Q_rm_ix1 Z G1 a1 t1 k1 vn fn d h0 n0) := by
 refine MetFree.of_bodySF (plainFor_of_name own_pn1) hisR ?_
 intro p e s m args below meth c s₁ Bd hml0 hP hK
 obtain ⟨rfl, hZ, hh⟩ := hP
 have hx := Bd.exec
 have hby := Bd.bytes
 have D := fun i => hb hby (d_rm_ix1 i)
 have hml : c.maxLocals = 2 := hml0
 have hown : s.vm.findClass "java/lang/String" = some m.cls := findClass_of_methodNamed Bd.named
 have hnm := (name_of_methodNamed Bd.named Bd.method).1
 have hlk : meth.locks = false := Bd.notSynchronized
 have X0 : Stand p l e ({ frames := 3, cells := 0, slots := 0, locals := 46 } : Room) s m #[(.ref a1), (.int (46 : Int32))] below meth c s₁ [] 0 0 := Stand.of_body Bd
 have e0 : s₁.heap = h0 := by rw [← hh, Bd.state]; rfl
 have N0 := Fr.nil n0
 suffices hgo : own_Ok p e below (own_Qx s (Q_rm_ix1 Z G1 a1 t1 k1 vn fn d h0 n0) 0 0) (s₁.setTop (mkF m 0 #[.val (.ref a1), .val (.int (46 : Int32))] [])) from by
   obtain ⟨s₂, o, h1, h2⟩ := hgo
   exact ⟨s₂, o, castTop (own_ef_rm_ix1 m a1) h1, h2⟩
 show own_Ok p e below _ (s₁.setTop (mkF m 0 #[.val (.ref a1), .val (.int (46 : Int32))] []))
 refine s_aloadN X0 hx (D 0) rfl rfl ?_
 refine s_iloadN X0 hx (D 1) rfl ?_
 refine s_iconst X0 hx (0 : Int32) (D 2) rfl ?_
 obtain ⟨_, T101, Lc101, X101, hQ101, st101⟩ := own_callV X0 hx hZ hown (own_hw hw 70 rfl) (own_hw hw 71 rfl) (own_hw hw 73 rfl) rfl (own_hw hw 73 rfl) (own_hw hw 72 rfl) (own_hw hw 31 rfl) (own_hw hw 74 rfl) (rm_ix2 l Z a0 hw [] G1 a1 t1 k1 ((own_tx vn fn d)) h0 n0 O0 SG1 PG1 Qa10 Qa11 Qa12 Qa13 (own_txL _ _ _) (own_tx4 hd6) (own_tx1 hd6)) (by decide) e0 Qa10 (Ls := #[.val (.ref a1), .val (.int (46 : Int32))]) [(.int (46 : Int32)), (.int (0 : Int32))] [] rfl (by rw [hml]; rfl) (lenOf own_pd6 rfl) (D 3) (by decide) 0 rfl (by decide) (by decide) (by decide)
 obtain ⟨rz_101, rfl, Nq101, e101, hix_101⟩ := hQ101
 have N101 := Fr.app N0 Nq101
 refine st101 _ ?_
 show own_Ok p e below _ (T101.setTop (mkF m 6 #[.val (.ref a1), .val (.int (46 : Int32))] [(.int rz_101)]))
 have hixx := hix_101
 show own_Ok p e below _ (T101.setTop (mkF m 6 #[.val (.ref a1), .val (.int (46 : Int32))] [(.int rz_101)]))
 exact own_retI X101 hx hlk Bd.returns (D 4) (by rw [e101]; exact ⟨congrArg (fun z => some (Value.int z)) (own_ixT hd6 hixx), N101, rfl⟩) (by decide) (by decide)
theorem own_pd10 : parseMethodDescriptor "(I)C" = some ⟨[.int], some .char⟩ := by decide +kernel
theorem own_ef_rm_dgs (m : MethodId) (a1 : Addr) (i : Nat) (j : Nat) : entryFrame m #[(.ref a1), (.int (Int32.ofNat i)), (.int (Int32.ofNat j))] 5 = mkF m 0 #[.val (.ref a1), .val (.int (Int32.ofNat i)), .val (.int (Int32.ofNat j)), .unset, .unset] [] := by first | (simp [entryFrame, mkF, argsToLocals, Value.category]; done) | rfl
def t_rm_dgs : List (Nat × Instr × Nat) := [(2, .iload_n 3, 1), (3, .iload_n 2, 1), (4, .if_icmp .ge 32, 3), (7, .aload_n 0, 1), (8, .iload_n 3, 1), (9, .invokevirtual 130, 3), (12, .istore 4, 2), (14, .iload 4, 2), (16, .bipush 48, 2), (18, .if_icmp .lt 10, 3), (21, .iload 4, 2), (23, .bipush 57, 2), (25, .if_icmp .le 5, 3), (30, .iinc 3 1, 3), (33, .goto (-31), 3), (36, .iconst 1, 1), (37, .ireturn, 1), (0, .iload_n 1, 1), (1, .istore_n 3, 1)]
theorem d_rm_dgs (i : Nat) : decode prog_19_method_13_code (t_rm_dgs.getD i (2, .iload_n 3, 1)).1 = .ok (t_rm_dgs.getD i (2, .iload_n 3, 1)).2 := own_dt (by decide +kernel) (List.mem_cons_self ..) i
def Q_rm_dgs (Z : State) (G1 : Int32) (G3 : Value) (a1 : Addr) (t1 : Addr) (k1 : ClassId) (cs : List Int32) (i : Nat) (j : Nat) (h0 : Heap) (n0 : Nat) (v : Option Value) (h : Heap) (L : List Loc) : Prop := v = some (.int (1 : Int32)) ∧ Fr n0 L ∧ h = h0
theorem own_pn3 : plainName "com/example/tickfence/tickfence/Price" = true := by first | (simp [plainName, overriddenIn]; done) | decide +kernel
set_option maxRecDepth 65536 in
set_option maxHeartbeats 40000000 in
theorem rm_dgs (l : Launch) (Z : State) (a0 : Array Value) (hw : ∀ d ∈ tables_1, d.before a0 Z = true) (ws : List Jvm.Cond) (G1 : Int32) (G3 : Value) (a1 : Addr) (t1 : Addr) (k1 : ClassId) (cs : List Int32) (i : Nat) (j : Nat) (h0 : Heap) (n0 : Nat) (O0 : Old Z n0 h0) (SG1 : Sta Z Z.heap "java/lang/String" "COMPACT_STRINGS" "Z" (.int G1)) (PG1 : ¬ (G1 = (0 : Int32))) (SG3 : Sta Z Z.heap "jdk/internal/util/Preconditions" "SIOOBE_FORMATTER" "Ljava/util/function/BiFunction;" G3) (rG3 : G3.isRef = true) (Qa10 : Exa Z h0 a1 "java/lang/String") (Qa11 : Fld Z h0 a1 "java/lang/String" "coder" "B" (.int (0 : Int32))) (Qa12 : Fld Z h0 a1 "java/lang/String" "value" "[B" (.ref t1)) (Qa13 : Arv Z h0 t1 k1 .byte (Int32.ofNat cs.length) (own_bv cs) (.int (0 : Int32))) (hL : ∀ c ∈ cs, own_L c) (hl4 : cs.length ≤ 4000) (hij : i ≤ j) (hjl : j ≤ cs.length) (hD : own_isD cs i j) :
    own_Met l Z (⟨"com/example/tickfence/tickfence/Price", "isDigits", "(Ljava/lang/String;II)Z"⟩ : MethodName) prog_19_method_13_code 5 (some .boolean) ws ({ frames := 4, cells := 0, slots := 0, locals := 53 } : Room) #[(.ref a1), (.int (Int32.ofNat i)), (.int (Int32.ofNat j))] h0 (Q_rm_dgs Z G1 G3 a1 t1 k1 cs i j h0 n0) := by
 refine MetFree.of_bodySF (plainFor_of_name own_pn3) hisR ?_
 intro p e s m args below meth c s₁ Bd hml0 hP hK
 obtain ⟨rfl, hZ, hh⟩ := hP
 have hx := Bd.exec
 have hby := Bd.bytes
 have D := fun i => hb hby (d_rm_dgs i)
 have hml : c.maxLocals = 5 := hml0
 have hown : s.vm.findClass "com/example/tickfence/tickfence/Price" = some m.cls := findClass_of_methodNamed Bd.named
 have hnm := (name_of_methodNamed Bd.named Bd.method).1
 have hlk : meth.locks = false := Bd.notSynchronized
 have X0 : Stand p l e ({ frames := 4, cells := 0, slots := 0, locals := 53 } : Room) s m #[(.ref a1), (.int (Int32.ofNat i)), (.int (Int32.ofNat j))] below meth c s₁ [] 0 0 := Stand.of_body Bd
 have e0 : s₁.heap = h0 := by rw [← hh, Bd.state]; rfl
 have N0 := Fr.nil n0
 suffices hgo : own_Ok p e below (own_Qx s (Q_rm_dgs Z G1 G3 a1 t1 k1 cs i j h0 n0) 0 0) (s₁.setTop (mkF m 0 #[.val (.ref a1), .val (.int (Int32.ofNat i)), .val (.int (Int32.ofNat j)), .unset, .unset] [])) from by
   obtain ⟨s₂, o, h1, h2⟩ := hgo
   exact ⟨s₂, o, castTop (own_ef_rm_dgs m a1 i j) h1, h2⟩
 have hch : ∀ d ∈ StrChars.Road.wordsChN, d.before a0 Z = true := fun d hd => hw d ((by decide +kernel : ∀ d ∈ StrChars.Road.wordsChN, d ∈ tables_1) d hd)
 have cut2 : ∀ (fuel : Nat), ∀ (T : State) (locs : List Loc) (q : Nat) (sl : Slot) (X : Stand p l e ({ frames := 4, cells := 0, slots := 0, locals := 53 } : Room) s m #[(.ref a1), (.int (Int32.ofNat i)), (.int (Int32.ofNat j))] below meth c T locs 0 0) (eh : T.heap = h0) (N : Fr n0 locs) (hiq : i ≤ q) (hqj0 : q ≤ j) (hsl : sl = .unset ∨ ∃ w, sl = .val w ∧ w.category = 1) (hms : j - q = fuel), own_Ok p e below (own_Qx s (Q_rm_dgs Z G1 G3 a1 t1 k1 cs i j h0 n0) 0 0) (T.setTop (mkF m 2 #[.val (.ref a1), .val (.int (Int32.ofNat i)), .val (.int (Int32.ofNat j)), .val (.int (Int32.ofNat q)), sl] [])) := by
  intro fuel
  induction fuel using Nat.strongRecOn with
  | ind fuel ih =>
   intro T locs q sl X eh N hiq hqj0 hsl hms
   show own_Ok p e below _ (T.setTop (mkF m 2 #[.val (.ref a1), .val (.int (Int32.ofNat i)), .val (.int (Int32.ofNat j)), .val (.int (Int32.ofNat q)), sl] []))
   refine s_iloadN X hx (D 0) rfl ?_
   refine s_iloadN X hx (D 1) rfl ?_
   by_cases c4_101 : (Int32.ofNat q) < (Int32.ofNat j)
   ·skip
    refine s_icmpNo X hx (D 2) (XT.ii_ge_f c4_101) ?_
    have hqj := own_ltN (by omega) (by omega) c4_101
    have hDq := hD q hiq hqj
    refine s_aloadN X hx (D 3) rfl rfl ?_
    refine s_iloadN X hx (D 4) rfl ?_
    obtain ⟨cq102, kq102, q102a, q102b, q102c⟩ := isOf hZ eh Qa10
    obtain ⟨_, _, ⟨T102, L102, k102, n102⟩, -, X102, ⟨Lc102, hQ102, l102, y102, z102⟩, st102⟩ := X.virtualBack hx (y := (⟨"java/lang/String", "charAt", "(I)C"⟩ : MethodName)) (z := (⟨"java/lang/String", "charAt", "(I)C"⟩ : MethodName)) hown (mvT hZ (own_hw hw 111 rfl)) (mvT hZ (own_hw hw 112 rfl)) (notFace_of_selects (args := #[]) (mvT hZ (own_hw hw 114 rfl))) (mvT hZ (own_hw hw 114 rfl)) (mvT hZ (own_hw hw 113 rfl)) (by decide) (StrChars.Road.chN (W := 0) hZ hch (kI := 4) (own_hw hw 30 rfl) Qa10 Qa12 Qa11 Qa13 (StrChars.Road.codOf (cs := cs) (n := (cs).length) rfl (fun c hc => (hL c hc).2)) (own_up hL) (SG1.ext O0.2) PG1 (SG3.ext O0.2) rG3 hl4 (i := q) (Nat.lt_of_lt_of_le hqj hjl) (j := (Int32.ofNat q)) rfl (by decide) (by decide)) q102a q102c (g := (mkF m 9 #[.val (.ref a1), .val (.int (Int32.ofNat i)), .val (.int (Int32.ofNat j)), .val (.int (Int32.ofNat q)), sl] [(.int (Int32.ofNat q)), (.ref a1)])) rfl (by rw [hml]; rfl) (Steps.refl _) (argsL := [(.int (Int32.ofNat q))]) (rest := []) (lenOf own_pd10 rfl) rfl (by show 2 * 0 + _ ≤ _; exact Nat.le_of_eq rfl) (D 5) (fun _ _ => ⟨rfl, eh, (by decide : 0 + 0 ≤ _), (by decide : 0 + 0 ≤ _)⟩)
    dsimp only [Pt.U, Pt.locs, Pt.cells, Pt.slots] at X102 l102 y102 z102 st102 hQ102
    subst l102 y102 z102
    obtain ⟨rfl, rfl, e102⟩ := hQ102
    have Nq102 : Fr n0 ([] : List Loc) := Fr.nil n0
    have N102 := Fr.app N Nq102
    refine own_st (fun _ k => st102.trans k) ?_
    show own_Ok p e below _ (T102.setTop (mkF m 12 #[.val (.ref a1), .val (.int (Int32.ofNat i)), .val (.int (Int32.ofNat j)), .val (.int (Int32.ofNat q)), sl] [(.int (cs.getD q 0))]))
    refine own_st (fun _ k => XS.istoreS X102.here hx rfl (D 6) rfl (o := sl) rfl hsl k) ?_
    show own_Ok p e below _ (T102.setTop (mkF m 14 #[.val (.ref a1), .val (.int (Int32.ofNat i)), .val (.int (Int32.ofNat j)), .val (.int (Int32.ofNat q)), .val (.int (cs.getD q 0))] []))
    refine s_iload X102 hx (D 7) rfl ?_
    refine s_bipush X102 hx (48 : Int32) (D 8) rfl ?_
    refine s_icmpNo X102 hx (D 9) (XT.ii_lt_f hDq.1) ?_
    refine s_iload X102 hx (D 10) rfl ?_
    refine s_bipush X102 hx (57 : Int32) (D 11) rfl ?_
    refine s_icmpYes X102 hx 30 (D 12) (XT.ii_le_t hDq.2) (by decide) (by decide) ?_
    refine s_iinc X102 hx (1 : Int32) (D 13) rfl rfl #[.val (.ref a1), .val (.int (Int32.ofNat i)), .val (.int (Int32.ofNat j)), .val (.int ((Int32.ofNat q) + (1 : Int32))), .val (.int (cs.getD q 0))] rfl ?_
    refine s_goto X102 hx 2 (D 14) (by decide) (by decide) ?_
    rw [show ((Int32.ofNat q) + (1 : Int32)) = (Int32.ofNat (q + 1)) from own_suc q]
    show own_Ok p e below _ (T102.setTop (mkF m 2 #[.val (.ref a1), .val (.int (Int32.ofNat i)), .val (.int (Int32.ofNat j)), .val (.int (Int32.ofNat (q + 1))), .val (.int (cs.getD q 0))] []))
    exact ih _ (by omega) _ _ ((q + 1)) ((.val (.int (cs.getD q 0)))) X102 e102 N102 ((Nat.le_succ_of_le hiq)) hqj ((Or.inr ⟨_, rfl, rfl⟩)) rfl
   ·skip
    refine s_icmpYes X hx 36 (D 2) (XT.ii_ge_t c4_101) (by decide) (by decide) ?_
    refine s_iconst X hx (1 : Int32) (D 15) rfl ?_
    exact own_retN X hx hlk (t := .boolean) Bd.returns (by simp) (D 16) (by rw [eh]; exact ⟨rfl, N, rfl⟩) (by decide) (by decide)
 show own_Ok p e below _ (s₁.setTop (mkF m 0 #[.val (.ref a1), .val (.int (Int32.ofNat i)), .val (.int (Int32.ofNat j)), .unset, .unset] []))
 refine s_iloadN X0 hx (D 17) rfl ?_
 refine s_istoreN X0 hx (D 18) #[.val (.ref a1), .val (.int (Int32.ofNat i)), .val (.int (Int32.ofNat j)), .val (.int (Int32.ofNat i)), .unset] rfl ?_
 exact cut2 _ _ _ i .unset X0 e0 N0 (Nat.le_refl _) hij ((Or.inl rfl)) rfl
theorem own_ef_rm_dvl (m : MethodId) (a1 : Addr) (i : Nat) (j : Nat) (M : Nat) : entryFrame m #[(.ref a1), (.int (Int32.ofNat i)), (.int (Int32.ofNat j)), (.long (Int64.ofNat M))] 8 = mkF m 0 #[.val (.ref a1), .val (.int (Int32.ofNat i)), .val (.int (Int32.ofNat j)), .val (.long (Int64.ofNat M)), .second, .unset, .unset, .unset] [] := by first | (simp [entryFrame, mkF, argsToLocals, Value.category]; done) | rfl
def t_rm_dvl : List (Nat × Instr × Nat) := [(6, .iload 7, 2), (8, .iload_n 2, 1), (9, .if_icmp .ge 39, 3), (12, .lload 5, 2), (14, .ldc2_w 61, 3), (17, .lmul, 1), (18, .aload_n 0, 1), (19, .iload 7, 2), (21, .invokevirtual 130, 3), (24, .bipush 48, 2), (26, .isub, 1), (27, .i2l, 1), (28, .ladd, 1), (29, .lstore 5, 2), (31, .lload 5, 2), (33, .lload_n 3, 1), (34, .lcmp, 1), (35, .ifCond .le 7, 3), (42, .iinc 7 1, 3), (45, .goto (-39), 3), (48, .lload 5, 2), (50, .lreturn, 1), (0, .lconst 0, 1), (1, .lstore 5, 2), (3, .iload_n 1, 1), (4, .istore 7, 2)]
theorem d_rm_dvl (i : Nat) : decode prog_19_method_14_code (t_rm_dvl.getD i (6, .iload 7, 2)).1 = .ok (t_rm_dvl.getD i (6, .iload 7, 2)).2 := own_dt (by decide +kernel) (List.mem_cons_self ..) i
def Q_rm_dvl (Z : State) (G1 : Int32) (G3 : Value) (a1 : Addr) (t1 : Addr) (k1 : ClassId) (cs : List Int32) (i : Nat) (j : Nat) (M : Nat) (h0 : Heap) (n0 : Nat) (v : Option Value) (h : Heap) (L : List Loc) : Prop := v = some (.long (Int64.ofNat (own_hv cs i (j - i)))) ∧ Fr n0 L ∧ h = h0
set_option maxRecDepth 65536 in
set_option maxHeartbeats 40000000 in
theorem rm_dvl (l : Launch) (Z : State) (a0 : Array Value) (hw : ∀ d ∈ tables_1, d.before a0 Z = true) (ws : List Jvm.Cond) (G1 : Int32) (G3 : Value) (a1 : Addr) (t1 : Addr) (k1 : ClassId) (cs : List Int32) (i : Nat) (j : Nat) (M : Nat) (h0 : Heap) (n0 : Nat) (O0 : Old Z n0 h0) (SG1 : Sta Z Z.heap "java/lang/String" "COMPACT_STRINGS" "Z" (.int G1)) (PG1 : ¬ (G1 = (0 : Int32))) (SG3 : Sta Z Z.heap "jdk/internal/util/Preconditions" "SIOOBE_FORMATTER" "Ljava/util/function/BiFunction;" G3) (rG3 : G3.isRef = true) (Qa10 : Exa Z h0 a1 "java/lang/String") (Qa11 : Fld Z h0 a1 "java/lang/String" "coder" "B" (.int (0 : Int32))) (Qa12 : Fld Z h0 a1 "java/lang/String" "value" "[B" (.ref t1)) (Qa13 : Arv Z h0 t1 k1 .byte (Int32.ofNat cs.length) (own_bv cs) (.int (0 : Int32))) (hL : ∀ c ∈ cs, own_L c) (hl4 : cs.length ≤ 4000) (hij : i ≤ j) (hjl : j ≤ cs.length) (hD : own_isD cs i j) (hM : M ≤ 1000000000) (hb9 : ∀ t, t ≤ j - i → own_hv cs i t ≤ M) :
    own_Met l Z (⟨"com/example/tickfence/tickfence/Price", "digitsValue", "(Ljava/lang/String;IIJ)J"⟩ : MethodName) prog_19_method_14_code 8 (some .long) ws ({ frames := 4, cells := 0, slots := 0, locals := 55 } : Room) #[(.ref a1), (.int (Int32.ofNat i)), (.int (Int32.ofNat j)), (.long (Int64.ofNat M))] h0 (Q_rm_dvl Z G1 G3 a1 t1 k1 cs i j M h0 n0) := by
 refine MetFree.of_bodySF (plainFor_of_name own_pn3) hisR ?_
 intro p e s m args below meth c s₁ Bd hml0 hP hK
 obtain ⟨rfl, hZ, hh⟩ := hP
 have hx := Bd.exec
 have hby := Bd.bytes
 have D := fun i => hb hby (d_rm_dvl i)
 have hml : c.maxLocals = 8 := hml0
 have hown : s.vm.findClass "com/example/tickfence/tickfence/Price" = some m.cls := findClass_of_methodNamed Bd.named
 have hnm := (name_of_methodNamed Bd.named Bd.method).1
 have hlk : meth.locks = false := Bd.notSynchronized
 have X0 : Stand p l e ({ frames := 4, cells := 0, slots := 0, locals := 55 } : Room) s m #[(.ref a1), (.int (Int32.ofNat i)), (.int (Int32.ofNat j)), (.long (Int64.ofNat M))] below meth c s₁ [] 0 0 := Stand.of_body Bd
 have e0 : s₁.heap = h0 := by rw [← hh, Bd.state]; rfl
 have N0 := Fr.nil n0
 suffices hgo : own_Ok p e below (own_Qx s (Q_rm_dvl Z G1 G3 a1 t1 k1 cs i j M h0 n0) 0 0) (s₁.setTop (mkF m 0 #[.val (.ref a1), .val (.int (Int32.ofNat i)), .val (.int (Int32.ofNat j)), .val (.long (Int64.ofNat M)), .second, .unset, .unset, .unset] [])) from by
   obtain ⟨s₂, o, h1, h2⟩ := hgo
   exact ⟨s₂, o, castTop (own_ef_rm_dvl m a1 i j M) h1, h2⟩
 have hch : ∀ d ∈ StrChars.Road.wordsChN, d.before a0 Z = true := fun d hd => hw d ((by decide +kernel : ∀ d ∈ StrChars.Road.wordsChN, d ∈ tables_1) d hd)
 have cut6 : ∀ (fuel : Nat), ∀ (T : State) (locs : List Loc) (t : Nat) (X : Stand p l e ({ frames := 4, cells := 0, slots := 0, locals := 55 } : Room) s m #[(.ref a1), (.int (Int32.ofNat i)), (.int (Int32.ofNat j)), (.long (Int64.ofNat M))] below meth c T locs 0 0) (eh : T.heap = h0) (N : Fr n0 locs) (ht : t ≤ j - i) (hms : j - i - t = fuel), own_Ok p e below (own_Qx s (Q_rm_dvl Z G1 G3 a1 t1 k1 cs i j M h0 n0) 0 0) (T.setTop (mkF m 6 #[.val (.ref a1), .val (.int (Int32.ofNat i)), .val (.int (Int32.ofNat j)), .val (.long (Int64.ofNat M)), .second, .val (.long (Int64.ofNat (own_hv cs i t))), .second, .val (.int (Int32.ofNat (i + t)))] [])) := by
  intro fuel
  induction fuel using Nat.strongRecOn with
  | ind fuel ih =>
   intro T locs t X eh N ht hms
   show own_Ok p e below _ (T.setTop (mkF m 6 #[.val (.ref a1), .val (.int (Int32.ofNat i)), .val (.int (Int32.ofNat j)), .val (.long (Int64.ofNat M)), .second, .val (.long (Int64.ofNat (own_hv cs i t))), .second, .val (.int (Int32.ofNat (i + t)))] []))
   refine s_iload X hx (D 0) rfl ?_
   refine s_iloadN X hx (D 1) rfl ?_
   by_cases c9_101 : (Int32.ofNat (i + t)) < (Int32.ofNat j)
   ·skip
    refine s_icmpNo X hx (D 2) (XT.ii_ge_f c9_101) ?_
    have htj : t + 1 ≤ j - i := by have := own_ltN (by omega) (by omega) c9_101; omega
    have hDq := hD (i + t) (by omega) (by omega)
    refine s_lload X hx (D 3) rfl ?_
    refine own_st (fun _ k => Jvm.Stand.ldc2J X hx hown (mvT hZ (own_hw hw 131 rfl)) rfl (D 4) k) ?_
    show own_Ok p e below _ (T.setTop (mkF m 17 #[.val (.ref a1), .val (.int (Int32.ofNat i)), .val (.int (Int32.ofNat j)), .val (.long (Int64.ofNat M)), .second, .val (.long (Int64.ofNat (own_hv cs i t))), .second, .val (.int (Int32.ofNat (i + t)))] [(.long (10 : Int64)), (.long (Int64.ofNat (own_hv cs i t)))]))
    refine s_lmul X hx (D 5) ?_
    refine s_aloadN X hx (D 6) rfl rfl ?_
    refine s_iload X hx (D 7) rfl ?_
    obtain ⟨cq102, kq102, q102a, q102b, q102c⟩ := isOf hZ eh Qa10
    obtain ⟨_, _, ⟨T102, L102, k102, n102⟩, -, X102, ⟨Lc102, hQ102, l102, y102, z102⟩, st102⟩ := X.virtualBack hx (y := (⟨"java/lang/String", "charAt", "(I)C"⟩ : MethodName)) (z := (⟨"java/lang/String", "charAt", "(I)C"⟩ : MethodName)) hown (mvT hZ (own_hw hw 111 rfl)) (mvT hZ (own_hw hw 112 rfl)) (notFace_of_selects (args := #[]) (mvT hZ (own_hw hw 114 rfl))) (mvT hZ (own_hw hw 114 rfl)) (mvT hZ (own_hw hw 113 rfl)) (by decide) (StrChars.Road.chN (W := 2) hZ hch (kI := 4) (own_hw hw 30 rfl) Qa10 Qa12 Qa11 Qa13 (StrChars.Road.codOf (cs := cs) (n := (cs).length) rfl (fun c hc => (hL c hc).2)) (own_up hL) (SG1.ext O0.2) PG1 (SG3.ext O0.2) rG3 hl4 (i := (i + t)) (by omega) (j := (Int32.ofNat (i + t))) rfl (by decide) (by decide)) q102a q102c (g := (mkF m 21 #[.val (.ref a1), .val (.int (Int32.ofNat i)), .val (.int (Int32.ofNat j)), .val (.long (Int64.ofNat M)), .second, .val (.long (Int64.ofNat (own_hv cs i t))), .second, .val (.int (Int32.ofNat (i + t)))] [(.int (Int32.ofNat (i + t))), (.ref a1), (.long ((Int64.ofNat (own_hv cs i t)) * (10 : Int64)))])) rfl (by rw [hml]; rfl) (Steps.refl _) (argsL := [(.int (Int32.ofNat (i + t)))]) (rest := [(.long ((Int64.ofNat (own_hv cs i t)) * (10 : Int64)))]) (lenOf own_pd10 rfl) rfl (by show 2 * 0 + _ ≤ _; exact Nat.le_of_eq rfl) (D 8) (fun _ _ => ⟨rfl, eh, (by decide : 0 + 0 ≤ _), (by decide : 0 + 0 ≤ _)⟩)
    dsimp only [Pt.U, Pt.locs, Pt.cells, Pt.slots] at X102 l102 y102 z102 st102 hQ102
    subst l102 y102 z102
    obtain ⟨rfl, rfl, e102⟩ := hQ102
    have Nq102 : Fr n0 ([] : List Loc) := Fr.nil n0
    have N102 := Fr.app N Nq102
    refine own_st (fun _ k => st102.trans k) ?_
    show own_Ok p e below _ (T102.setTop (mkF m 24 #[.val (.ref a1), .val (.int (Int32.ofNat i)), .val (.int (Int32.ofNat j)), .val (.long (Int64.ofNat M)), .second, .val (.long (Int64.ofNat (own_hv cs i t))), .second, .val (.int (Int32.ofNat (i + t)))] [(.int (cs.getD (i + t) 0)), (.long ((Int64.ofNat (own_hv cs i t)) * (10 : Int64)))]))
    refine s_bipush X102 hx (48 : Int32) (D 9) rfl ?_
    refine s_isub X102 hx (D 10) ?_
    refine s_i2l X102 hx (D 11) ?_
    refine s_ladd X102 hx (D 12) ?_
    rw [show (((Int64.ofNat (own_hv cs i t)) * (10 : Int64)) + (((cs.getD (i + t) 0) - (48 : Int32)).toInt64)) = (Int64.ofNat (own_hv cs i (t + 1))) from own_hvS hM (hb9 t ht) hDq]
    show own_Ok p e below _ (T102.setTop (mkF m 29 #[.val (.ref a1), .val (.int (Int32.ofNat i)), .val (.int (Int32.ofNat j)), .val (.long (Int64.ofNat M)), .second, .val (.long (Int64.ofNat (own_hv cs i t))), .second, .val (.int (Int32.ofNat (i + t)))] [(.long (Int64.ofNat (own_hv cs i (t + 1))))]))
    refine s_lstore X102 hx (D 13) #[.val (.ref a1), .val (.int (Int32.ofNat i)), .val (.int (Int32.ofNat j)), .val (.long (Int64.ofNat M)), .second, .val (.long (Int64.ofNat (own_hv cs i (t + 1)))), .second, .val (.int (Int32.ofNat (i + t)))] rfl ?_
    refine s_lload X102 hx (D 14) rfl ?_
    refine s_lloadN X102 hx (D 15) rfl ?_
    refine s_lcmp X102 hx (D 16) ?_
    refine s_ifYes X102 hx 42 (D 17) (XT.ll_le_t (own_lgN hM (hb9 (t + 1) htj))) (by decide) (by decide) ?_
    refine s_iinc X102 hx (1 : Int32) (D 18) rfl rfl #[.val (.ref a1), .val (.int (Int32.ofNat i)), .val (.int (Int32.ofNat j)), .val (.long (Int64.ofNat M)), .second, .val (.long (Int64.ofNat (own_hv cs i (t + 1)))), .second, .val (.int ((Int32.ofNat (i + t)) + (1 : Int32)))] rfl ?_
    refine s_goto X102 hx 6 (D 19) (by decide) (by decide) ?_
    rw [show ((Int32.ofNat (i + t)) + (1 : Int32)) = (Int32.ofNat (i + (t + 1))) from own_suc (i + t)]
    show own_Ok p e below _ (T102.setTop (mkF m 6 #[.val (.ref a1), .val (.int (Int32.ofNat i)), .val (.int (Int32.ofNat j)), .val (.long (Int64.ofNat M)), .second, .val (.long (Int64.ofNat (own_hv cs i (t + 1)))), .second, .val (.int (Int32.ofNat (i + (t + 1))))] []))
    exact ih _ (by omega) _ _ ((t + 1)) X102 e102 N102 htj rfl
   ·skip
    refine s_icmpYes X hx 48 (D 2) (XT.ii_ge_t c9_101) (by decide) (by decide) ?_
    have hte : t = j - i := by have := own_geN (by omega) (by omega) c9_101; omega
    refine s_lload X hx (D 20) rfl ?_
    exact own_retJ X hx hlk Bd.returns (D 21) (by rw [eh]; exact ⟨by rw [hte], N, rfl⟩) (by decide) (by decide)
 show own_Ok p e below _ (s₁.setTop (mkF m 0 #[.val (.ref a1), .val (.int (Int32.ofNat i)), .val (.int (Int32.ofNat j)), .val (.long (Int64.ofNat M)), .second, .unset, .unset, .unset] []))
 refine s_lconst X0 hx (0 : Int64) (D 22) rfl ?_
 refine s_lstore X0 hx (D 23) #[.val (.ref a1), .val (.int (Int32.ofNat i)), .val (.int (Int32.ofNat j)), .val (.long (Int64.ofNat M)), .second, .val (.long (0 : Int64)), .second, .unset] rfl ?_
 refine s_iloadN X0 hx (D 24) rfl ?_
 refine s_istore X0 hx (D 25) #[.val (.ref a1), .val (.int (Int32.ofNat i)), .val (.int (Int32.ofNat j)), .val (.long (Int64.ofNat M)), .second, .val (.long (0 : Int64)), .second, .val (.int (Int32.ofNat i))] rfl ?_
 exact cut6 _ _ _ 0 X0 e0 N0 (Nat.zero_le _) rfl
theorem own_pd11 : parseMethodDescriptor "(I)I" = some ⟨[.int], some .int⟩ := by decide +kernel
theorem own_pd12 : parseMethodDescriptor "(Ljava/lang/String;II)Z" = some ⟨[(.object "java/lang/String"), .int, .int], some .boolean⟩ := by decide +kernel
theorem own_ef_rm_req (m : MethodId) (a1 : Addr) : entryFrame m #[(.ref a1)] 5 = mkF m 0 #[.val (.ref a1), .unset, .unset, .unset, .unset] [] := by first | (simp [entryFrame, mkF, argsToLocals, Value.category]; done) | rfl
def t_rm_req : List (Nat × Instr × Nat) := [(0, .aload_n 0, 1), (1, .bipush 46, 2), (3, .invokevirtual 17, 3), (6, .istore_n 1, 1), (7, .iload_n 1, 1), (8, .ifCond .ge 10, 3), (11, .aload_n 0, 1), (12, .invokevirtual 23, 3), (15, .goto 4, 3), (19, .istore_n 2, 1), (20, .iload_n 1, 1), (21, .ifCond .ge 7, 3), (24, .iconst 0, 1), (25, .goto 11, 3), (36, .istore_n 3, 1), (37, .iload_n 2, 1), (38, .ifCond .le 38, 3), (41, .aload_n 0, 1), (42, .iconst 0, 1), (43, .iload_n 2, 1), (44, .invokestatic 70, 3), (47, .ifCond .eq 29, 3), (50, .iload_n 1, 1), (51, .ifCond .lt 21, 3), (72, .iconst 1, 1), (73, .goto 4, 3), (77, .istore 4, 2), (79, .iload 4, 2), (81, .ifCond .ne 35, 3), (116, .iload_n 3, 1), (117, .bipush 6, 2), (119, .if_icmp .le 45, 3), (164, .return_, 1), (18, .iload_n 1, 1), (28, .aload_n 0, 1), (29, .invokevirtual 23, 3), (32, .iload_n 1, 1), (33, .isub, 1), (34, .iconst 1, 1), (35, .isub, 1), (54, .iload_n 3, 1), (55, .ifCond .le 21, 3), (58, .aload_n 0, 1), (59, .iload_n 1, 1), (60, .iconst 1, 1), (61, .iadd, 1), (62, .aload_n 0, 1), (63, .invokevirtual 23, 3), (66, .invokestatic 70, 3), (69, .ifCond .eq 7, 3)]
theorem d_rm_req (i : Nat) : decode prog_19_method_3_code (t_rm_req.getD i (0, .aload_n 0, 1)).1 = .ok (t_rm_req.getD i (0, .aload_n 0, 1)).2 := own_dt (by decide +kernel) (List.mem_cons_self ..) i
def Q_rm_req (Z : State) (G1 : Int32) (G3 : Value) (a1 : Addr) (t1 : Addr) (k1 : ClassId) (vn : Nat) (fn : Nat) (d : Nat) (h0 : Heap) (n0 : Nat) (v : Option Value) (h : Heap) (L : List Loc) : Prop := v = none ∧ Fr n0 L ∧ h = h0
set_option maxRecDepth 65536 in
set_option maxHeartbeats 40000000 in
theorem rm_req (l : Launch) (Z : State) (a0 : Array Value) (hw : ∀ d ∈ tables_1, d.before a0 Z = true) (ws : List Jvm.Cond) (G1 : Int32) (G3 : Value) (a1 : Addr) (t1 : Addr) (k1 : ClassId) (vn : Nat) (fn : Nat) (d : Nat) (h0 : Heap) (n0 : Nat) (O0 : Old Z n0 h0) (SG1 : Sta Z Z.heap "java/lang/String" "COMPACT_STRINGS" "Z" (.int G1)) (PG1 : ¬ (G1 = (0 : Int32))) (SG3 : Sta Z Z.heap "jdk/internal/util/Preconditions" "SIOOBE_FORMATTER" "Ljava/util/function/BiFunction;" G3) (rG3 : G3.isRef = true) (Qa10 : Exa Z h0 a1 "java/lang/String") (Qa11 : Fld Z h0 a1 "java/lang/String" "coder" "B" (.int (0 : Int32))) (Qa12 : Fld Z h0 a1 "java/lang/String" "value" "[B" (.ref t1)) (Qa13 : Arv Z h0 t1 k1 .byte (Int32.ofNat (own_tx vn fn d).length) (own_bv (own_tx vn fn d)) (.int (0 : Int32))) (hd6 : d ≤ 6) :
    own_Met l Z (⟨"com/example/tickfence/tickfence/Price", "requireWritten", "(Ljava/lang/String;)V"⟩ : MethodName) prog_19_method_3_code 5 none ws ({ frames := 5, cells := 0, slots := 0, locals := 69 } : Room) #[(.ref a1)] h0 (Q_rm_req Z G1 G3 a1 t1 k1 vn fn d h0 n0) := by
 refine MetFree.of_bodySF (plainFor_of_name own_pn3) hisR ?_
 intro p e s m args below meth c s₁ Bd hml0 hP hK
 obtain ⟨rfl, hZ, hh⟩ := hP
 have hx := Bd.exec
 have hby := Bd.bytes
 have D := fun i => hb hby (d_rm_req i)
 have hml : c.maxLocals = 5 := hml0
 have hown : s.vm.findClass "com/example/tickfence/tickfence/Price" = some m.cls := findClass_of_methodNamed Bd.named
 have hnm := (name_of_methodNamed Bd.named Bd.method).1
 have hlk : meth.locks = false := Bd.notSynchronized
 have X0 : Stand p l e ({ frames := 5, cells := 0, slots := 0, locals := 69 } : Room) s m #[(.ref a1)] below meth c s₁ [] 0 0 := Stand.of_body Bd
 have e0 : s₁.heap = h0 := by rw [← hh, Bd.state]; rfl
 have N0 := Fr.nil n0
 suffices hgo : own_Ok p e below (own_Qx s (Q_rm_req Z G1 G3 a1 t1 k1 vn fn d h0 n0) 0 0) (s₁.setTop (mkF m 0 #[.val (.ref a1), .unset, .unset, .unset, .unset] [])) from by
   obtain ⟨s₂, o, h1, h2⟩ := hgo
   exact ⟨s₂, o, castTop (own_ef_rm_req m a1) h1, h2⟩
 have hln : ∀ d ∈ StrChars.Road.wordsLen, d.before a0 Z = true := fun d hd => hw d ((by decide +kernel : ∀ d ∈ StrChars.Road.wordsLen, d ∈ tables_1) d hd)
 show own_Ok p e below _ (s₁.setTop (mkF m 0 #[.val (.ref a1), .unset, .unset, .unset, .unset] []))
 refine s_aloadN X0 hx (D 0) rfl rfl ?_
 refine s_bipush X0 hx (46 : Int32) (D 1) rfl ?_
 obtain ⟨_, T101, Lc101, X101, hQ101, st101⟩ := own_callV X0 hx hZ hown (own_hw hw 65 rfl) (own_hw hw 66 rfl) (own_hw hw 68 rfl) rfl (own_hw hw 68 rfl) (own_hw hw 67 rfl) (own_hw hw 31 rfl) (own_hw hw 69 rfl) (rm_ix1 l Z a0 hw [] G1 a1 t1 k1 vn fn d h0 n0 O0 SG1 PG1 Qa10 Qa11 Qa12 Qa13 hd6) (by decide) e0 Qa10 (Ls := #[.val (.ref a1), .unset, .unset, .unset, .unset]) [(.int (46 : Int32))] [] rfl (by rw [hml]; rfl) (lenOf own_pd11 rfl) (D 2) (by decide) 0 rfl (by decide) (by decide) (by decide)
 obtain ⟨rfl, Nq101, e101⟩ := hQ101
 have N101 := Fr.app N0 Nq101
 refine st101 _ ?_
 by_cases hd0 : d = 0
 ·skip
  rw [show (own_ri d) = (-1 : Int32) from if_pos hd0]
  show own_Ok p e below _ (T101.setTop (mkF m 6 #[.val (.ref a1), .unset, .unset, .unset, .unset] [(.int (-1 : Int32))]))
  refine s_istoreN X101 hx (D 3) #[.val (.ref a1), .val (.int (-1 : Int32)), .unset, .unset, .unset] rfl ?_
  refine s_iloadN X101 hx (D 4) rfl ?_
  refine s_ifNo X101 hx (D 5) (XT.i0_ge_f (by decide)) ?_
  refine s_aloadN X101 hx (D 6) rfl rfl ?_
  obtain ⟨cq102, kq102, q102a, q102b, q102c⟩ := isOf hZ e101 Qa10
  obtain ⟨_, _, ⟨T102, L102, k102, n102⟩, -, X102, ⟨Lc102, hQ102, l102, y102, z102⟩, st102⟩ := X101.virtualBack hx (y := (⟨"java/lang/String", "length", "()I"⟩ : MethodName)) (z := (⟨"java/lang/String", "length", "()I"⟩ : MethodName)) hown (mvT hZ (own_hw hw 107 rfl)) (mvT hZ (own_hw hw 81 rfl)) (notFace_of_selects (args := #[]) (mvT hZ (own_hw hw 83 rfl))) (mvT hZ (own_hw hw 83 rfl)) (mvT hZ (own_hw hw 82 rfl)) (by decide) (StrChars.Road.lenW (W := 0) hZ hln (kI := 4) (own_hw hw 30 rfl) Qa10 Qa12 Qa11 Qa13 (StrChars.Road.codOf (cs := (own_tx vn fn d)) (n := ((own_tx vn fn d)).length) rfl (fun c hc => ((own_txL _ _ _) c hc).2)) (own_up (own_txL _ _ _)) (SG1.ext O0.2) PG1 (own_tx4 hd6) (by decide) (by decide)) q102a q102c (g := (mkF m 12 #[.val (.ref a1), .val (.int (-1 : Int32)), .unset, .unset, .unset] [(.ref a1)])) rfl (by rw [hml]; rfl) (Steps.refl _) (argsL := []) (rest := []) (lenOf own_pd9 rfl) rfl (by show 2 * 0 + _ ≤ _; exact Nat.le_of_eq rfl) (D 7) (fun _ _ => ⟨rfl, e101, (by decide : 0 + 0 ≤ _), (by decide : 0 + 0 ≤ _)⟩)
  dsimp only [Pt.U, Pt.locs, Pt.cells, Pt.slots] at X102 l102 y102 z102 st102 hQ102
  subst l102 y102 z102
  obtain ⟨rfl, rfl, e102⟩ := hQ102
  have Nq102 : Fr n0 ([] : List Loc) := Fr.nil n0
  have N102 := Fr.app N101 Nq102
  refine own_st (fun _ k => st102.trans k) ?_
  show own_Ok p e below _ (T102.setTop (mkF m 15 #[.val (.ref a1), .val (.int (-1 : Int32)), .unset, .unset, .unset] [(.int (Int32.ofNat (own_tx vn fn d).length))]))
  rw [show (Int32.ofNat (own_tx vn fn d).length) = (9 : Int32) from own_lenA hd6 hd0]
  show own_Ok p e below _ (T102.setTop (mkF m 15 #[.val (.ref a1), .val (.int (-1 : Int32)), .unset, .unset, .unset] [(.int (9 : Int32))]))
  show own_Ok p e below _ (T102.setTop (mkF m 15 #[.val (.ref a1), .val (.int (-1 : Int32)), .unset, .unset, .unset] [(.int (9 : Int32))]))
  refine s_goto X102 hx 19 (D 8) (by decide) (by decide) ?_
  refine s_istoreN X102 hx (D 9) #[.val (.ref a1), .val (.int (-1 : Int32)), .val (.int (9 : Int32)), .unset, .unset] rfl ?_
  refine s_iloadN X102 hx (D 10) rfl ?_
  refine s_ifNo X102 hx (D 11) (XT.i0_ge_f (by decide)) ?_
  refine s_iconst X102 hx (0 : Int32) (D 12) rfl ?_
  refine s_goto X102 hx 36 (D 13) (by decide) (by decide) ?_
  refine s_istoreN X102 hx (D 14) #[.val (.ref a1), .val (.int (-1 : Int32)), .val (.int (9 : Int32)), .val (.int (0 : Int32)), .unset] rfl ?_
  refine s_iloadN X102 hx (D 15) rfl ?_
  refine s_ifNo X102 hx (D 16) (XT.i0_le_f (by decide)) ?_
  refine s_aloadN X102 hx (D 17) rfl rfl ?_
  refine s_iconst X102 hx (0 : Int32) (D 18) rfl ?_
  refine s_iloadN X102 hx (D 19) rfl ?_
  obtain ⟨_, T103, Lc103, X103, hQ103, st103⟩ := own_callS X102 hx hZ hown (own_hw hw 108 rfl) (own_hw hw 109 rfl) (own_hw hw 60 rfl) (own_hw hw 110 rfl) (rm_dgs l Z a0 hw [] G1 G3 a1 t1 k1 ((own_tx vn fn d)) 0 9 h0 n0 O0 SG1 PG1 SG3 rG3 Qa10 Qa11 Qa12 Qa13 (own_txL _ _ _) (own_tx4 hd6) (by decide) (own_tx9 hd6) own_tD1) (by decide) e102 (Ls := #[.val (.ref a1), .val (.int (-1 : Int32)), .val (.int (9 : Int32)), .val (.int (0 : Int32)), .unset]) [(.ref a1), (.int (0 : Int32)), (.int (9 : Int32))] [] rfl (by rw [hml]; rfl) (lenOf own_pd12 rfl) (D 20) (by decide) 0 rfl (by decide) (by decide) (by decide)
  obtain ⟨rfl, Nq103, e103⟩ := hQ103
  have N103 := Fr.app N102 Nq103
  refine st103 _ ?_
  refine s_ifNo X103 hx (D 21) (XT.i0_eq_f (by decide)) ?_
  refine s_iloadN X103 hx (D 22) rfl ?_
  refine s_ifYes X103 hx 72 (D 23) (XT.i0_lt_t (by decide)) (by decide) (by decide) ?_
  refine s_iconst X103 hx (1 : Int32) (D 24) rfl ?_
  refine s_goto X103 hx 77 (D 25) (by decide) (by decide) ?_
  refine s_istore X103 hx (D 26) #[.val (.ref a1), .val (.int (-1 : Int32)), .val (.int (9 : Int32)), .val (.int (0 : Int32)), .val (.int (1 : Int32))] rfl ?_
  refine s_iload X103 hx (D 27) rfl ?_
  refine s_ifYes X103 hx 116 (D 28) (XT.i0_ne_t (by decide)) (by decide) (by decide) ?_
  refine s_iloadN X103 hx (D 29) rfl ?_
  refine s_bipush X103 hx (6 : Int32) (D 30) rfl ?_
  refine s_icmpYes X103 hx 164 (D 31) (XT.ii_le_t (by decide)) (by decide) (by decide) ?_
  exact own_retV X103 hx hlk Bd.returns (D 32) (by rw [e103]; exact ⟨rfl, N103, rfl⟩) (by decide) (by decide)
 ·skip
  rw [show (own_ri d) = (9 : Int32) from if_neg hd0]
  show own_Ok p e below _ (T101.setTop (mkF m 6 #[.val (.ref a1), .unset, .unset, .unset, .unset] [(.int (9 : Int32))]))
  refine s_istoreN X101 hx (D 3) #[.val (.ref a1), .val (.int (9 : Int32)), .unset, .unset, .unset] rfl ?_
  refine s_iloadN X101 hx (D 4) rfl ?_
  refine s_ifYes X101 hx 18 (D 5) (XT.i0_ge_t (by decide)) (by decide) (by decide) ?_
  refine s_iloadN X101 hx (D 33) rfl ?_
  refine s_istoreN X101 hx (D 9) #[.val (.ref a1), .val (.int (9 : Int32)), .val (.int (9 : Int32)), .unset, .unset] rfl ?_
  refine s_iloadN X101 hx (D 10) rfl ?_
  refine s_ifYes X101 hx 28 (D 11) (XT.i0_ge_t (by decide)) (by decide) (by decide) ?_
  refine s_aloadN X101 hx (D 34) rfl rfl ?_
  obtain ⟨cq104, kq104, q104a, q104b, q104c⟩ := isOf hZ e101 Qa10
  obtain ⟨_, _, ⟨T104, L104, k104, n104⟩, -, X104, ⟨Lc104, hQ104, l104, y104, z104⟩, st104⟩ := X101.virtualBack hx (y := (⟨"java/lang/String", "length", "()I"⟩ : MethodName)) (z := (⟨"java/lang/String", "length", "()I"⟩ : MethodName)) hown (mvT hZ (own_hw hw 107 rfl)) (mvT hZ (own_hw hw 81 rfl)) (notFace_of_selects (args := #[]) (mvT hZ (own_hw hw 83 rfl))) (mvT hZ (own_hw hw 83 rfl)) (mvT hZ (own_hw hw 82 rfl)) (by decide) (StrChars.Road.lenW (W := 0) hZ hln (kI := 4) (own_hw hw 30 rfl) Qa10 Qa12 Qa11 Qa13 (StrChars.Road.codOf (cs := (own_tx vn fn d)) (n := ((own_tx vn fn d)).length) rfl (fun c hc => ((own_txL _ _ _) c hc).2)) (own_up (own_txL _ _ _)) (SG1.ext O0.2) PG1 (own_tx4 hd6) (by decide) (by decide)) q104a q104c (g := (mkF m 29 #[.val (.ref a1), .val (.int (9 : Int32)), .val (.int (9 : Int32)), .unset, .unset] [(.ref a1)])) rfl (by rw [hml]; rfl) (Steps.refl _) (argsL := []) (rest := []) (lenOf own_pd9 rfl) rfl (by show 2 * 0 + _ ≤ _; exact Nat.le_of_eq rfl) (D 35) (fun _ _ => ⟨rfl, e101, (by decide : 0 + 0 ≤ _), (by decide : 0 + 0 ≤ _)⟩)
  dsimp only [Pt.U, Pt.locs, Pt.cells, Pt.slots] at X104 l104 y104 z104 st104 hQ104
  subst l104 y104 z104
  obtain ⟨rfl, rfl, e104⟩ := hQ104
  have Nq104 : Fr n0 ([] : List Loc) := Fr.nil n0
  have N104 := Fr.app N101 Nq104
  refine own_st (fun _ k => st104.trans k) ?_
  show own_Ok p e below _ (T104.setTop (mkF m 32 #[.val (.ref a1), .val (.int (9 : Int32)), .val (.int (9 : Int32)), .unset, .unset] [(.int (Int32.ofNat (own_tx vn fn d).length))]))
  rw [show (Int32.ofNat (own_tx vn fn d).length) = (Int32.ofNat (10 + d)) from own_lenB hd6 hd0]
  show own_Ok p e below _ (T104.setTop (mkF m 32 #[.val (.ref a1), .val (.int (9 : Int32)), .val (.int (9 : Int32)), .unset, .unset] [(.int (Int32.ofNat (10 + d)))]))
  show own_Ok p e below _ (T104.setTop (mkF m 32 #[.val (.ref a1), .val (.int (9 : Int32)), .val (.int (9 : Int32)), .unset, .unset] [(.int (Int32.ofNat (10 + d)))]))
  refine s_iloadN X104 hx (D 36) rfl ?_
  refine s_isub X104 hx (D 37) ?_
  refine s_iconst X104 hx (1 : Int32) (D 38) rfl ?_
  refine s_isub X104 hx (D 39) ?_
  rw [show (((Int32.ofNat (10 + d)) - (9 : Int32)) - (1 : Int32)) = (Int32.ofNat d) from own_subB hd6]
  show own_Ok p e below _ (T104.setTop (mkF m 36 #[.val (.ref a1), .val (.int (9 : Int32)), .val (.int (9 : Int32)), .unset, .unset] [(.int (Int32.ofNat d))]))
  refine s_istoreN X104 hx (D 14) #[.val (.ref a1), .val (.int (9 : Int32)), .val (.int (9 : Int32)), .val (.int (Int32.ofNat d)), .unset] rfl ?_
  refine s_iloadN X104 hx (D 15) rfl ?_
  refine s_ifNo X104 hx (D 16) (XT.i0_le_f (by decide)) ?_
  refine s_aloadN X104 hx (D 17) rfl rfl ?_
  refine s_iconst X104 hx (0 : Int32) (D 18) rfl ?_
  refine s_iloadN X104 hx (D 19) rfl ?_
  obtain ⟨_, T105, Lc105, X105, hQ105, st105⟩ := own_callS X104 hx hZ hown (own_hw hw 108 rfl) (own_hw hw 109 rfl) (own_hw hw 60 rfl) (own_hw hw 110 rfl) (rm_dgs l Z a0 hw [] G1 G3 a1 t1 k1 ((own_tx vn fn d)) 0 9 h0 n0 O0 SG1 PG1 SG3 rG3 Qa10 Qa11 Qa12 Qa13 (own_txL _ _ _) (own_tx4 hd6) (by decide) (own_tx9 hd6) own_tD1) (by decide) e104 (Ls := #[.val (.ref a1), .val (.int (9 : Int32)), .val (.int (9 : Int32)), .val (.int (Int32.ofNat d)), .unset]) [(.ref a1), (.int (0 : Int32)), (.int (9 : Int32))] [] rfl (by rw [hml]; rfl) (lenOf own_pd12 rfl) (D 20) (by decide) 0 rfl (by decide) (by decide) (by decide)
  obtain ⟨rfl, Nq105, e105⟩ := hQ105
  have N105 := Fr.app N104 Nq105
  refine st105 _ ?_
  refine s_ifNo X105 hx (D 21) (XT.i0_eq_f (by decide)) ?_
  refine s_iloadN X105 hx (D 22) rfl ?_
  refine s_ifNo X105 hx (D 23) (XT.i0_lt_f (by decide)) ?_
  refine s_iloadN X105 hx (D 40) rfl ?_
  refine s_ifNo X105 hx (D 41) (XT.i0_le_f (own_Nlt (a := 0) (by decide) (by omega) (by omega))) ?_
  refine s_aloadN X105 hx (D 42) rfl rfl ?_
  refine s_iloadN X105 hx (D 43) rfl ?_
  refine s_iconst X105 hx (1 : Int32) (D 44) rfl ?_
  refine s_iadd X105 hx (D 45) ?_
  show own_Ok p e below _ (T105.setTop (mkF m 62 #[.val (.ref a1), .val (.int (9 : Int32)), .val (.int (9 : Int32)), .val (.int (Int32.ofNat d)), .unset] [(.int (10 : Int32)), (.ref a1)]))
  refine s_aloadN X105 hx (D 46) rfl rfl ?_
  obtain ⟨cq106, kq106, q106a, q106b, q106c⟩ := isOf hZ e105 Qa10
  obtain ⟨_, _, ⟨T106, L106, k106, n106⟩, -, X106, ⟨Lc106, hQ106, l106, y106, z106⟩, st106⟩ := X105.virtualBack hx (y := (⟨"java/lang/String", "length", "()I"⟩ : MethodName)) (z := (⟨"java/lang/String", "length", "()I"⟩ : MethodName)) hown (mvT hZ (own_hw hw 107 rfl)) (mvT hZ (own_hw hw 81 rfl)) (notFace_of_selects (args := #[]) (mvT hZ (own_hw hw 83 rfl))) (mvT hZ (own_hw hw 83 rfl)) (mvT hZ (own_hw hw 82 rfl)) (by decide) (StrChars.Road.lenW (W := 2) hZ hln (kI := 4) (own_hw hw 30 rfl) Qa10 Qa12 Qa11 Qa13 (StrChars.Road.codOf (cs := (own_tx vn fn d)) (n := ((own_tx vn fn d)).length) rfl (fun c hc => ((own_txL _ _ _) c hc).2)) (own_up (own_txL _ _ _)) (SG1.ext O0.2) PG1 (own_tx4 hd6) (by decide) (by decide)) q106a q106c (g := (mkF m 63 #[.val (.ref a1), .val (.int (9 : Int32)), .val (.int (9 : Int32)), .val (.int (Int32.ofNat d)), .unset] [(.ref a1), (.int (10 : Int32)), (.ref a1)])) rfl (by rw [hml]; rfl) (Steps.refl _) (argsL := []) (rest := [(.int (10 : Int32)), (.ref a1)]) (lenOf own_pd9 rfl) rfl (by show 2 * 0 + _ ≤ _; exact Nat.le_of_eq rfl) (D 47) (fun _ _ => ⟨rfl, e105, (by decide : 0 + 0 ≤ _), (by decide : 0 + 0 ≤ _)⟩)
  dsimp only [Pt.U, Pt.locs, Pt.cells, Pt.slots] at X106 l106 y106 z106 st106 hQ106
  subst l106 y106 z106
  obtain ⟨rfl, rfl, e106⟩ := hQ106
  have Nq106 : Fr n0 ([] : List Loc) := Fr.nil n0
  have N106 := Fr.app N105 Nq106
  refine own_st (fun _ k => st106.trans k) ?_
  show own_Ok p e below _ (T106.setTop (mkF m 66 #[.val (.ref a1), .val (.int (9 : Int32)), .val (.int (9 : Int32)), .val (.int (Int32.ofNat d)), .unset] [(.int (Int32.ofNat (own_tx vn fn d).length)), (.int (10 : Int32)), (.ref a1)]))
  rw [show (Int32.ofNat (own_tx vn fn d).length) = (Int32.ofNat (10 + d)) from own_lenB hd6 hd0]
  show own_Ok p e below _ (T106.setTop (mkF m 66 #[.val (.ref a1), .val (.int (9 : Int32)), .val (.int (9 : Int32)), .val (.int (Int32.ofNat d)), .unset] [(.int (Int32.ofNat (10 + d))), (.int (10 : Int32)), (.ref a1)]))
  show own_Ok p e below _ (T106.setTop (mkF m 66 #[.val (.ref a1), .val (.int (9 : Int32)), .val (.int (9 : Int32)), .val (.int (Int32.ofNat d)), .unset] [(.int (Int32.ofNat (10 + d))), (.int (10 : Int32)), (.ref a1)]))
  obtain ⟨_, T107, Lc107, X107, hQ107, st107⟩ := own_callS X106 hx hZ hown (own_hw hw 108 rfl) (own_hw hw 109 rfl) (own_hw hw 60 rfl) (own_hw hw 110 rfl) (rm_dgs l Z a0 hw [] G1 G3 a1 t1 k1 ((own_tx vn fn d)) 10 ((10 + d)) h0 n0 O0 SG1 PG1 SG3 rG3 Qa10 Qa11 Qa12 Qa13 (own_txL _ _ _) (own_tx4 hd6) (Nat.le_add_right 10 d) (own_txB hd6 hd0) (own_tD2 hd0 hd6)) (by decide) e106 (Ls := #[.val (.ref a1), .val (.int (9 : Int32)), .val (.int (9 : Int32)), .val (.int (Int32.ofNat d)), .unset]) [(.ref a1), (.int (10 : Int32)), (.int (Int32.ofNat (10 + d)))] [] rfl (by rw [hml]; rfl) (lenOf own_pd12 rfl) (D 48) (by decide) 0 rfl (by decide) (by decide) (by decide)
  obtain ⟨rfl, Nq107, e107⟩ := hQ107
  have N107 := Fr.app N106 Nq107
  refine st107 _ ?_
  refine s_ifNo X107 hx (D 49) (XT.i0_eq_f (by decide)) ?_
  refine s_iconst X107 hx (1 : Int32) (D 24) rfl ?_
  refine s_goto X107 hx 77 (D 25) (by decide) (by decide) ?_
  refine s_istore X107 hx (D 26) #[.val (.ref a1), .val (.int (9 : Int32)), .val (.int (9 : Int32)), .val (.int (Int32.ofNat d)), .val (.int (1 : Int32))] rfl ?_
  refine s_iload X107 hx (D 27) rfl ?_
  refine s_ifYes X107 hx 116 (D 28) (XT.i0_ne_t (by decide)) (by decide) (by decide) ?_
  refine s_iloadN X107 hx (D 29) rfl ?_
  refine s_bipush X107 hx (6 : Int32) (D 30) rfl ?_
  refine s_icmpYes X107 hx 164 (D 31) (XT.ii_le_t (own_Nge (a := 6) (by decide) (by omega) hd6)) (by decide) (by decide) ?_
  exact own_retV X107 hx hlk Bd.returns (D 32) (by rw [e107]; exact ⟨rfl, N107, rfl⟩) (by decide) (by decide)
theorem own_ef_rm_pin (m : MethodId) (a1 : Addr) (mv : Int64) : entryFrame m #[(.ref a1), (.long mv)] 3 = mkF m 0 #[.val (.ref a1), .val (.long mv), .second] [] := by first | (simp [entryFrame, mkF, argsToLocals, Value.category]; done) | rfl
def t_rm_pin : List (Nat × Instr × Nat) := [(0, .aload_n 0, 1), (1, .invokespecial 3, 3), (4, .aload_n 0, 1), (5, .lload_n 1, 1), (6, .putfield 9, 3), (9, .return_, 1)]
theorem d_rm_pin (i : Nat) : decode prog_19_method_1_code (t_rm_pin.getD i (0, .aload_n 0, 1)).1 = .ok (t_rm_pin.getD i (0, .aload_n 0, 1)).2 := own_dt (by decide +kernel) (List.mem_cons_self ..) i
def Q_rm_pin (Z : State) (a1 : Addr) (mv : Int64) (h0 : Heap) (n0 : Nat) (v : Option Value) (h : Heap) (L : List Loc) : Prop := v = none ∧ Fr n0 L ∧ Keep h0 h [a1] ∧ Exa Z h a1 "com/example/tickfence/tickfence/Price" ∧ Fld Z h a1 "com/example/tickfence/tickfence/Price" "micros" "J" (.long mv)
set_option maxRecDepth 65536 in
set_option maxHeartbeats 40000000 in
theorem rm_pin (l : Launch) (Z : State) (a0 : Array Value) (hw : ∀ d ∈ tables_1, d.before a0 Z = true) (ws : List Jvm.Cond) (a1 : Addr) (mv : Int64) (h0 : Heap) (n0 : Nat) (O0 : Old Z n0 h0) (E1 : Exa Z h0 a1 "com/example/tickfence/tickfence/Price") (F1 : Fld Z h0 a1 "com/example/tickfence/tickfence/Price" "micros" "J" (.long (0 : Int64))) (g1 : n0 ≤ a1) :
    own_Met l Z (⟨"com/example/tickfence/tickfence/Price", "<init>", "(J)V"⟩ : MethodName) prog_19_method_1_code 3 none ws ({ frames := 1, cells := 0, slots := 0, locals := 12 } : Room) #[(.ref a1), (.long mv)] h0 (Q_rm_pin Z a1 mv h0 n0) := by
 refine MetFree.of_bodySF (plainFor_of_name own_pn3) hisR ?_
 intro p e s m args below meth c s₁ Bd hml0 hP hK
 obtain ⟨rfl, hZ, hh⟩ := hP
 have hx := Bd.exec
 have hby := Bd.bytes
 have D := fun i => hb hby (d_rm_pin i)
 have hml : c.maxLocals = 3 := hml0
 have hown : s.vm.findClass "com/example/tickfence/tickfence/Price" = some m.cls := findClass_of_methodNamed Bd.named
 have hnm := (name_of_methodNamed Bd.named Bd.method).1
 have hlk : meth.locks = false := Bd.notSynchronized
 have X0 : Stand p l e ({ frames := 1, cells := 0, slots := 0, locals := 12 } : Room) s m #[(.ref a1), (.long mv)] below meth c s₁ [] 0 0 := Stand.of_body Bd
 have e0 : s₁.heap = h0 := by rw [← hh, Bd.state]; rfl
 have N0 := Fr.nil n0
 suffices hgo : own_Ok p e below (own_Qx s (Q_rm_pin Z a1 mv h0 n0) 0 0) (s₁.setTop (mkF m 0 #[.val (.ref a1), .val (.long mv), .second] [])) from by
   obtain ⟨s₂, o, h1, h2⟩ := hgo
   exact ⟨s₂, o, castTop (own_ef_rm_pin m a1 mv) h1, h2⟩
 show own_Ok p e below _ (s₁.setTop (mkF m 0 #[.val (.ref a1), .val (.long mv), .second] []))
 refine s_aloadN X0 hx (D 0) rfl rfl ?_
 obtain ⟨T101, X101, e101, st101⟩ := initO X0 hx hZ hown (own_hw hw 138 rfl) (own_hw hw 40 rfl) (own_hw hw 41 rfl) e0 (g := (mkF m 1 #[.val (.ref a1), .val (.long mv), .second] [(.ref a1)])) rfl (by rw [hml]; rfl) rfl (D 1) (by decide) (W := 0) (by show 2 * 0 + _ ≤ _; exact Nat.le_of_eq rfl) (by decide)
 refine own_st st101 ?_
 show own_Ok p e below _ (T101.setTop (mkF m 4 #[.val (.ref a1), .val (.long mv), .second] []))
 refine s_aloadN X101 hx (D 2) rfl rfl ?_
 refine s_lloadN X101 hx (D 3) rfl ?_
 obtain ⟨T102, h102, X102, e102, W102, st102⟩ := putF X101 hx hZ hown (host := "") (Or.inl (own_hw hw 139 rfl)) Via.refl e101 F1 E1 (Or.inr ⟨(own_hw hw 140 rfl), rfl, hnm⟩) (own_hw hw 134 rfl) (ty := .long) (by decide) rfl rfl (g := (mkF m 6 #[.val (.ref a1), .val (.long mv), .second] [(.long mv), (.ref a1)])) rfl rfl (D 4)
 refine own_st st102 ?_
 have F102 := F1.same W102
 have N102 := Fr.snoc X102 N0 g1
 show own_Ok p e below _ (T102.setTop (mkF m 9 #[.val (.ref a1), .val (.long mv), .second] []))
 have f103 := (Keep.refl h0 [a1]).wr W102 (Or.inl (by simp))
 have f104 := E1.wr W102
 exact own_retV X102 hx hlk Bd.returns (D 5) (by rw [e102]; exact ⟨rfl, N102, f103, f104, F102⟩) (by decide) (by decide)
theorem own_pd13 : parseMethodDescriptor "(J)V" = some ⟨[.long], none⟩ := by decide +kernel
theorem own_pd14 : parseMethodDescriptor "(Ljava/lang/String;)V" = some ⟨[(.object "java/lang/String")], none⟩ := by decide +kernel
theorem own_pd15 : parseMethodDescriptor "(Ljava/lang/String;IIJ)J" = some ⟨[(.object "java/lang/String"), .int, .int, .long], some .long⟩ := by decide +kernel
theorem own_ef_rm_prs (m : MethodId) (a1 : Addr) : entryFrame m #[(.ref a1)] 10 = mkF m 0 #[.val (.ref a1), .unset, .unset, .unset, .unset, .unset, .unset, .unset, .unset, .unset] [] := by first | (simp [entryFrame, mkF, argsToLocals, Value.category]; done) | rfl
def t_rm_prs : List (Nat × Instr × Nat) := [(126, .iload 8, 2), (128, .bipush 6, 2), (130, .if_icmp .ge 17, 3), (133, .lload 6, 2), (135, .ldc2_w 61, 3), (138, .lmul, 1), (139, .lstore 6, 2), (141, .iinc 8 1, 3), (144, .goto (-18), 3), (147, .lload 4, 2), (149, .ldc2_w 59, 3), (152, .lmul, 1), (153, .lload 6, 2), (155, .ladd, 1), (156, .lstore 8, 2), (158, .lload 8, 2), (160, .lconst 0, 1), (161, .lcmp, 1), (162, .ifCond .ne 8, 3), (170, .new 1, 3), (173, .dup, 1), (174, .lload 8, 2), (176, .invokespecial 67, 3), (179, .areturn, 1), (0, .aload_n 0, 1), (1, .invokestatic 13, 3), (4, .aload_n 0, 1), (5, .bipush 46, 2), (7, .invokevirtual 17, 3), (10, .istore_n 1, 1), (11, .iload_n 1, 1), (12, .ifCond .ge 10, 3), (15, .aload_n 0, 1), (16, .invokevirtual 23, 3), (19, .goto 4, 3), (23, .istore_n 2, 1), (24, .iload_n 1, 1), (25, .ifCond .ge 7, 3), (28, .iconst 0, 1), (29, .goto 11, 3), (40, .istore_n 3, 1), (41, .aload_n 0, 1), (42, .iconst 0, 1), (43, .iload_n 2, 1), (44, .ldc2_w 27, 3), (47, .invokestatic 29, 3), (50, .lstore 4, 2), (52, .lload 4, 2), (54, .ldc2_w 27, 3), (57, .lcmp, 1), (58, .ifCond .le 41, 3), (99, .iload_n 1, 1), (100, .ifCond .ge 7, 3), (103, .lconst 0, 1), (104, .goto 17, 3), (121, .lstore 6, 2), (123, .iload_n 3, 1), (124, .istore 8, 2), (22, .iload_n 1, 1), (32, .aload_n 0, 1), (33, .invokevirtual 23, 3), (36, .iload_n 1, 1), (37, .isub, 1), (38, .iconst 1, 1), (39, .isub, 1), (107, .aload_n 0, 1), (108, .iload_n 1, 1), (109, .iconst 1, 1), (110, .iadd, 1), (111, .aload_n 0, 1), (112, .invokevirtual 23, 3), (115, .ldc2_w 59, 3), (118, .invokestatic 29, 3)]
theorem d_rm_prs (i : Nat) : decode prog_19_method_2_code (t_rm_prs.getD i (126, .iload 8, 2)).1 = .ok (t_rm_prs.getD i (126, .iload 8, 2)).2 := own_dt (by decide +kernel) (List.mem_cons_self ..) i
def Q_rm_prs (Z : State) (G1 : Int32) (G3 : Value) (a1 : Addr) (t1 : Addr) (k1 : ClassId) (vn : Nat) (fn : Nat) (d : Nat) (h0 : Heap) (n0 : Nat) (v : Option Value) (h : Heap) (L : List Loc) : Prop := ∃ (pz : Addr), v = some (.ref pz) ∧ Fr n0 L ∧ Keep h0 h [] ∧ Exa Z h pz "com/example/tickfence/tickfence/Price" ∧ Fld Z h pz "com/example/tickfence/tickfence/Price" "micros" "J" (.long (Int64.ofNat (own_mi vn fn d))) ∧ h0.size ≤ pz
set_option maxRecDepth 65536 in
set_option maxHeartbeats 40000000 in
theorem rm_prs (l : Launch) (Z : State) (a0 : Array Value) (hw : ∀ d ∈ tables_1, d.before a0 Z = true) (ws : List Jvm.Cond) (G1 : Int32) (G3 : Value) (a1 : Addr) (t1 : Addr) (k1 : ClassId) (vn : Nat) (fn : Nat) (d : Nat) (h0 : Heap) (n0 : Nat) (O0 : Old Z n0 h0) (SG1 : Sta Z Z.heap "java/lang/String" "COMPACT_STRINGS" "Z" (.int G1)) (PG1 : ¬ (G1 = (0 : Int32))) (SG3 : Sta Z Z.heap "jdk/internal/util/Preconditions" "SIOOBE_FORMATTER" "Ljava/util/function/BiFunction;" G3) (rG3 : G3.isRef = true) (Qa10 : Exa Z h0 a1 "java/lang/String") (Qa11 : Fld Z h0 a1 "java/lang/String" "coder" "B" (.int (0 : Int32))) (Qa12 : Fld Z h0 a1 "java/lang/String" "value" "[B" (.ref t1)) (Qa13 : Arv Z h0 t1 k1 .byte (Int32.ofNat (own_tx vn fn d).length) (own_bv (own_tx vn fn d)) (.int (0 : Int32))) (hd6 : d ≤ 6) (hv9 : vn ≤ 999999999) (hf : fn < 10 ^ d) (hnz : ¬ (vn = 0 ∧ fn = 0)) :
    own_Met l Z (⟨"com/example/tickfence/tickfence/Price", "parse", "(Ljava/lang/String;)Lcom/example/tickfence/tickfence/Price;"⟩ : MethodName) prog_19_method_2_code 10 (some (.object "com/example/tickfence/tickfence/Price")) ws ({ frames := 6, cells := 1, slots := 1, locals := 85 } : Room) #[(.ref a1)] h0 (Q_rm_prs Z G1 G3 a1 t1 k1 vn fn d h0 n0) := by
 refine MetFree.of_bodySF (plainFor_of_name own_pn3) hisR ?_
 intro p e s m args below meth c s₁ Bd hml0 hP hK
 obtain ⟨rfl, hZ, hh⟩ := hP
 have hx := Bd.exec
 have hby := Bd.bytes
 have D := fun i => hb hby (d_rm_prs i)
 have hml : c.maxLocals = 10 := hml0
 have hown : s.vm.findClass "com/example/tickfence/tickfence/Price" = some m.cls := findClass_of_methodNamed Bd.named
 have hnm := (name_of_methodNamed Bd.named Bd.method).1
 have hlk : meth.locks = false := Bd.notSynchronized
 have X0 : Stand p l e ({ frames := 6, cells := 1, slots := 1, locals := 85 } : Room) s m #[(.ref a1)] below meth c s₁ [] 0 0 := Stand.of_body Bd
 have e0 : s₁.heap = h0 := by rw [← hh, Bd.state]; rfl
 have N0 := Fr.nil n0
 suffices hgo : own_Ok p e below (own_Qx s (Q_rm_prs Z G1 G3 a1 t1 k1 vn fn d h0 n0) 1 1) (s₁.setTop (mkF m 0 #[.val (.ref a1), .unset, .unset, .unset, .unset, .unset, .unset, .unset, .unset, .unset] [])) from by
   obtain ⟨s₂, o, h1, h2⟩ := hgo
   exact ⟨s₂, o, castTop (own_ef_rm_prs m a1) h1, h2⟩
 have hln : ∀ d ∈ StrChars.Road.wordsLen, d.before a0 Z = true := fun d hd => hw d ((by decide +kernel : ∀ d ∈ StrChars.Road.wordsLen, d ∈ tables_1) d hd)
 have cut126 : ∀ (fuel : Nat), ∀ (T : State) (locs : List Loc) (h : Heap) (r1 : Int32) (r2 : Int32) (dz : Int32) (q : Nat) (X : Stand p l e ({ frames := 6, cells := 1, slots := 1, locals := 85 } : Room) s m #[(.ref a1)] below meth c T locs 0 0) (eh : T.heap = h) (N : Fr n0 locs) (O : Old Z n0 h) (KK : Keep h0 h []) (hdq : d ≤ q) (hq60 : q ≤ 6) (hms : 6 - q = fuel), own_Ok p e below (own_Qx s (Q_rm_prs Z G1 G3 a1 t1 k1 vn fn d h0 n0) 1 1) (T.setTop (mkF m 126 #[.val (.ref a1), .val (.int r1), .val (.int r2), .val (.int dz), .val (.long (Int64.ofNat vn)), .second, .val (.long (Int64.ofNat (fn * 10 ^ (q - d)))), .second, .val (.int (Int32.ofNat q)), .unset] [])) := by
  intro fuel
  induction fuel using Nat.strongRecOn with
  | ind fuel ih =>
   intro T locs h r1 r2 dz q X eh N O KK hdq hq60 hms
   show own_Ok p e below _ (T.setTop (mkF m 126 #[.val (.ref a1), .val (.int r1), .val (.int r2), .val (.int dz), .val (.long (Int64.ofNat vn)), .second, .val (.long (Int64.ofNat (fn * 10 ^ (q - d)))), .second, .val (.int (Int32.ofNat q)), .unset] []))
   refine s_iload X hx (D 0) rfl ?_
   refine s_bipush X hx (6 : Int32) (D 1) rfl ?_
   by_cases c130_101 : (Int32.ofNat q) < (6 : Int32)
   ·skip
    refine s_icmpNo X hx (D 2) (XT.ii_ge_f c130_101) ?_
    have hq6 : q + 1 ≤ 6 := own_ltN (b := 6) (by omega) (by decide) c130_101
    refine s_lload X hx (D 3) rfl ?_
    refine own_st (fun _ k => Jvm.Stand.ldc2J X hx hown (mvT hZ (own_hw hw 131 rfl)) rfl (D 4) k) ?_
    show own_Ok p e below _ (T.setTop (mkF m 138 #[.val (.ref a1), .val (.int r1), .val (.int r2), .val (.int dz), .val (.long (Int64.ofNat vn)), .second, .val (.long (Int64.ofNat (fn * 10 ^ (q - d)))), .second, .val (.int (Int32.ofNat q)), .unset] [(.long (10 : Int64)), (.long (Int64.ofNat (fn * 10 ^ (q - d))))]))
    refine s_lmul X hx (D 5) ?_
    rw [show ((Int64.ofNat (fn * 10 ^ (q - d))) * (10 : Int64)) = (Int64.ofNat (fn * 10 ^ (q + 1 - d))) from own_mulT hdq hq6 hf]
    show own_Ok p e below _ (T.setTop (mkF m 139 #[.val (.ref a1), .val (.int r1), .val (.int r2), .val (.int dz), .val (.long (Int64.ofNat vn)), .second, .val (.long (Int64.ofNat (fn * 10 ^ (q - d)))), .second, .val (.int (Int32.ofNat q)), .unset] [(.long (Int64.ofNat (fn * 10 ^ (q + 1 - d))))]))
    refine s_lstore X hx (D 6) #[.val (.ref a1), .val (.int r1), .val (.int r2), .val (.int dz), .val (.long (Int64.ofNat vn)), .second, .val (.long (Int64.ofNat (fn * 10 ^ (q + 1 - d)))), .second, .val (.int (Int32.ofNat q)), .unset] rfl ?_
    refine s_iinc X hx (1 : Int32) (D 7) rfl rfl #[.val (.ref a1), .val (.int r1), .val (.int r2), .val (.int dz), .val (.long (Int64.ofNat vn)), .second, .val (.long (Int64.ofNat (fn * 10 ^ (q + 1 - d)))), .second, .val (.int ((Int32.ofNat q) + (1 : Int32))), .unset] rfl ?_
    refine s_goto X hx 126 (D 8) (by decide) (by decide) ?_
    rw [show ((Int32.ofNat q) + (1 : Int32)) = (Int32.ofNat (q + 1)) from own_suc q]
    show own_Ok p e below _ (T.setTop (mkF m 126 #[.val (.ref a1), .val (.int r1), .val (.int r2), .val (.int dz), .val (.long (Int64.ofNat vn)), .second, .val (.long (Int64.ofNat (fn * 10 ^ (q + 1 - d)))), .second, .val (.int (Int32.ofNat (q + 1))), .unset] []))
    exact ih _ (by omega) _ _ _ r1 r2 dz ((q + 1)) X eh N O KK (Nat.le_succ_of_le hdq) hq6 rfl
   ·skip
    refine s_icmpYes X hx 147 (D 2) (XT.ii_ge_t c130_101) (by decide) (by decide) ?_
    have hq6 : q = 6 := by have := own_geN (b := 6) (by omega) (by decide) c130_101; omega
    rw [show (Int64.ofNat (fn * 10 ^ (q - d))) = (Int64.ofNat (fn * 10 ^ (6 - d))) from by rw [hq6]]
    show own_Ok p e below _ (T.setTop (mkF m 147 #[.val (.ref a1), .val (.int r1), .val (.int r2), .val (.int dz), .val (.long (Int64.ofNat vn)), .second, .val (.long (Int64.ofNat (fn * 10 ^ (6 - d)))), .second, .val (.int (Int32.ofNat q)), .unset] []))
    refine s_lload X hx (D 9) rfl ?_
    refine own_st (fun _ k => Jvm.Stand.ldc2J X hx hown (mvT hZ (own_hw hw 132 rfl)) rfl (D 10) k) ?_
    show own_Ok p e below _ (T.setTop (mkF m 152 #[.val (.ref a1), .val (.int r1), .val (.int r2), .val (.int dz), .val (.long (Int64.ofNat vn)), .second, .val (.long (Int64.ofNat (fn * 10 ^ (6 - d)))), .second, .val (.int (Int32.ofNat q)), .unset] [(.long (1000000 : Int64)), (.long (Int64.ofNat vn))]))
    refine s_lmul X hx (D 11) ?_
    refine s_lload X hx (D 12) rfl ?_
    refine s_ladd X hx (D 13) ?_
    rw [show (((Int64.ofNat vn) * (1000000 : Int64)) + (Int64.ofNat (fn * 10 ^ (6 - d)))) = (Int64.ofNat (own_mi vn fn d)) from own_miE hv9 hd6 hf]
    show own_Ok p e below _ (T.setTop (mkF m 156 #[.val (.ref a1), .val (.int r1), .val (.int r2), .val (.int dz), .val (.long (Int64.ofNat vn)), .second, .val (.long (Int64.ofNat (fn * 10 ^ (6 - d)))), .second, .val (.int (Int32.ofNat q)), .unset] [(.long (Int64.ofNat (own_mi vn fn d)))]))
    refine s_lstore X hx (D 14) #[.val (.ref a1), .val (.int r1), .val (.int r2), .val (.int dz), .val (.long (Int64.ofNat vn)), .second, .val (.long (Int64.ofNat (fn * 10 ^ (6 - d)))), .second, .val (.long (Int64.ofNat (own_mi vn fn d))), .second] rfl ?_
    refine s_lload X hx (D 15) rfl ?_
    refine s_lconst X hx (0 : Int64) (D 16) rfl ?_
    refine s_lcmp X hx (D 17) ?_
    refine s_ifYes X hx 170 (D 18) (XT.ll_ne_t (own_miZ hv9 hd6 hf hnz)) (by decide) (by decide) ?_
    obtain ⟨T102, h102, X102, e102, E102, A102, D102, -, st102⟩ := newO X hx hZ hown (own_hw hw 133 rfl) (own_hw hw 134 rfl) (own_hw hw 60 rfl) eh (g := (mkF m 170 #[.val (.ref a1), .val (.int r1), .val (.int r2), .val (.int dz), .val (.long (Int64.ofNat vn)), .second, .val (.long (Int64.ofNat (fn * 10 ^ (6 - d)))), .second, .val (.long (Int64.ofNat (own_mi vn fn d))), .second] [])) rfl (D 19) (by decide) (by decide)
    obtain ⟨b102, g102⟩ : ∃ z, z = h.size := ⟨_, rfl⟩
    rw [← g102] at A102 D102 st102
    refine own_st st102 ?_
    have gb_b102 : n0 ≤ b102 := Nat.le_trans (own_n0 O) (Nat.le_of_eq g102.symm)
    have gz_b102 : h0.size ≤ b102 := Nat.le_trans KK.1 (Nat.le_of_eq g102.symm)
    have F102_micros : Fld Z h102 b102 "com/example/tickfence/tickfence/Price" "micros" "J" (.long (0 : Int64)) := D102 (Or.inr (own_hw hw 140 rfl)) (ty := .long) (by decide)
    show own_Ok p e below _ (T102.setTop (mkF m 173 #[.val (.ref a1), .val (.int r1), .val (.int r2), .val (.int dz), .val (.long (Int64.ofNat vn)), .second, .val (.long (Int64.ofNat (fn * 10 ^ (6 - d)))), .second, .val (.long (Int64.ofNat (own_mi vn fn d))), .second] [(.ref b102)]))
    refine s_dup X102 hx (D 20) rfl ?_
    refine s_lload X102 hx (D 21) rfl ?_
    have f104 := O.ext E102
    obtain ⟨_, T103, Lc103, X103, hQ103, st103⟩ := own_callN X102 hx hZ hown (own_hw hw 135 rfl) (own_hw hw 136 rfl) (own_hw hw 60 rfl) (own_hw hw 137 rfl) (rm_pin l Z a0 hw [] b102 ((Int64.ofNat (own_mi vn fn d))) h102 n0 f104 A102 F102_micros gb_b102) rfl (by decide) e102 (Ls := #[.val (.ref a1), .val (.int r1), .val (.int r2), .val (.int dz), .val (.long (Int64.ofNat vn)), .second, .val (.long (Int64.ofNat (fn * 10 ^ (6 - d)))), .second, .val (.long (Int64.ofNat (own_mi vn fn d))), .second]) b102 [(.long (Int64.ofNat (own_mi vn fn d)))] [(.ref b102)] rfl (by rw [hml]; rfl) (lenOf own_pd13 rfl) (D 22) (by decide) 1 rfl (by decide) (by decide) (by decide)
    obtain ⟨rfl, Nq103, K103, g103_0, g103_1⟩ := hQ103
    have N103 := Fr.app N Nq103
    refine st103 _ ?_
    have e103 : T103.heap = T103.heap := rfl
    have f105 := KK.ext E102
    have f106 := f105.trans K103 (allS (Or.inr gz_b102) all0)
    exact own_retA X103 hx hlk (t := (.object "com/example/tickfence/tickfence/Price")) rfl Bd.returns rfl (D 23) (by rw [e103]; exact ⟨b102, rfl, N103, f106, g103_0, g103_1, gz_b102⟩) (by decide) (by decide)
 show own_Ok p e below _ (s₁.setTop (mkF m 0 #[.val (.ref a1), .unset, .unset, .unset, .unset, .unset, .unset, .unset, .unset, .unset] []))
 refine s_aloadN X0 hx (D 24) rfl rfl ?_
 obtain ⟨_, T107, Lc107, X107, hQ107, st107⟩ := own_callS X0 hx hZ hown (own_hw hw 62 rfl) (own_hw hw 63 rfl) (own_hw hw 60 rfl) (own_hw hw 64 rfl) (rm_req l Z a0 hw [] G1 G3 a1 t1 k1 vn fn d h0 n0 O0 SG1 PG1 SG3 rG3 Qa10 Qa11 Qa12 Qa13 hd6) (by decide) e0 (Ls := #[.val (.ref a1), .unset, .unset, .unset, .unset, .unset, .unset, .unset, .unset, .unset]) [(.ref a1)] [] rfl (by rw [hml]; rfl) (lenOf own_pd14 rfl) (D 25) (by decide) 0 rfl (by decide) (by decide) (by decide)
 obtain ⟨rfl, Nq107, e107⟩ := hQ107
 have N107 := Fr.app N0 Nq107
 refine st107 _ ?_
 refine s_aloadN X107 hx (D 26) rfl rfl ?_
 refine s_bipush X107 hx (46 : Int32) (D 27) rfl ?_
 obtain ⟨_, T108, Lc108, X108, hQ108, st108⟩ := own_callV X107 hx hZ hown (own_hw hw 65 rfl) (own_hw hw 66 rfl) (own_hw hw 68 rfl) rfl (own_hw hw 68 rfl) (own_hw hw 67 rfl) (own_hw hw 31 rfl) (own_hw hw 69 rfl) (rm_ix1 l Z a0 hw [] G1 a1 t1 k1 vn fn d h0 n0 O0 SG1 PG1 Qa10 Qa11 Qa12 Qa13 hd6) (by decide) e107 Qa10 (Ls := #[.val (.ref a1), .unset, .unset, .unset, .unset, .unset, .unset, .unset, .unset, .unset]) [(.int (46 : Int32))] [] rfl (by rw [hml]; rfl) (lenOf own_pd11 rfl) (D 28) (by decide) 0 rfl (by decide) (by decide) (by decide)
 obtain ⟨rfl, Nq108, e108⟩ := hQ108
 have N108 := Fr.app N107 Nq108
 refine st108 _ ?_
 by_cases hd0 : d = 0
 ·skip
  rw [show (own_ri d) = (-1 : Int32) from if_pos hd0]
  show own_Ok p e below _ (T108.setTop (mkF m 10 #[.val (.ref a1), .unset, .unset, .unset, .unset, .unset, .unset, .unset, .unset, .unset] [(.int (-1 : Int32))]))
  refine s_istoreN X108 hx (D 29) #[.val (.ref a1), .val (.int (-1 : Int32)), .unset, .unset, .unset, .unset, .unset, .unset, .unset, .unset] rfl ?_
  refine s_iloadN X108 hx (D 30) rfl ?_
  refine s_ifNo X108 hx (D 31) (XT.i0_ge_f (by decide)) ?_
  refine s_aloadN X108 hx (D 32) rfl rfl ?_
  obtain ⟨cq109, kq109, q109a, q109b, q109c⟩ := isOf hZ e108 Qa10
  obtain ⟨_, _, ⟨T109, L109, k109, n109⟩, -, X109, ⟨Lc109, hQ109, l109, y109, z109⟩, st109⟩ := X108.virtualBack hx (y := (⟨"java/lang/String", "length", "()I"⟩ : MethodName)) (z := (⟨"java/lang/String", "length", "()I"⟩ : MethodName)) hown (mvT hZ (own_hw hw 107 rfl)) (mvT hZ (own_hw hw 81 rfl)) (notFace_of_selects (args := #[]) (mvT hZ (own_hw hw 83 rfl))) (mvT hZ (own_hw hw 83 rfl)) (mvT hZ (own_hw hw 82 rfl)) (by decide) (StrChars.Road.lenW (W := 0) hZ hln (kI := 4) (own_hw hw 30 rfl) Qa10 Qa12 Qa11 Qa13 (StrChars.Road.codOf (cs := (own_tx vn fn d)) (n := ((own_tx vn fn d)).length) rfl (fun c hc => ((own_txL _ _ _) c hc).2)) (own_up (own_txL _ _ _)) (SG1.ext O0.2) PG1 (own_tx4 hd6) (by decide) (by decide)) q109a q109c (g := (mkF m 16 #[.val (.ref a1), .val (.int (-1 : Int32)), .unset, .unset, .unset, .unset, .unset, .unset, .unset, .unset] [(.ref a1)])) rfl (by rw [hml]; rfl) (Steps.refl _) (argsL := []) (rest := []) (lenOf own_pd9 rfl) rfl (by show 2 * 0 + _ ≤ _; exact Nat.le_of_eq rfl) (D 33) (fun _ _ => ⟨rfl, e108, (by decide : 0 + 0 ≤ _), (by decide : 0 + 0 ≤ _)⟩)
  dsimp only [Pt.U, Pt.locs, Pt.cells, Pt.slots] at X109 l109 y109 z109 st109 hQ109
  subst l109 y109 z109
  obtain ⟨rfl, rfl, e109⟩ := hQ109
  have Nq109 : Fr n0 ([] : List Loc) := Fr.nil n0
  have N109 := Fr.app N108 Nq109
  refine own_st (fun _ k => st109.trans k) ?_
  show own_Ok p e below _ (T109.setTop (mkF m 19 #[.val (.ref a1), .val (.int (-1 : Int32)), .unset, .unset, .unset, .unset, .unset, .unset, .unset, .unset] [(.int (Int32.ofNat (own_tx vn fn d).length))]))
  rw [show (Int32.ofNat (own_tx vn fn d).length) = (9 : Int32) from own_lenA hd6 hd0]
  show own_Ok p e below _ (T109.setTop (mkF m 19 #[.val (.ref a1), .val (.int (-1 : Int32)), .unset, .unset, .unset, .unset, .unset, .unset, .unset, .unset] [(.int (9 : Int32))]))
  show own_Ok p e below _ (T109.setTop (mkF m 19 #[.val (.ref a1), .val (.int (-1 : Int32)), .unset, .unset, .unset, .unset, .unset, .unset, .unset, .unset] [(.int (9 : Int32))]))
  refine s_goto X109 hx 23 (D 34) (by decide) (by decide) ?_
  refine s_istoreN X109 hx (D 35) #[.val (.ref a1), .val (.int (-1 : Int32)), .val (.int (9 : Int32)), .unset, .unset, .unset, .unset, .unset, .unset, .unset] rfl ?_
  refine s_iloadN X109 hx (D 36) rfl ?_
  refine s_ifNo X109 hx (D 37) (XT.i0_ge_f (by decide)) ?_
  refine s_iconst X109 hx (0 : Int32) (D 38) rfl ?_
  refine s_goto X109 hx 40 (D 39) (by decide) (by decide) ?_
  refine s_istoreN X109 hx (D 40) #[.val (.ref a1), .val (.int (-1 : Int32)), .val (.int (9 : Int32)), .val (.int (0 : Int32)), .unset, .unset, .unset, .unset, .unset, .unset] rfl ?_
  refine s_aloadN X109 hx (D 41) rfl rfl ?_
  refine s_iconst X109 hx (0 : Int32) (D 42) rfl ?_
  refine s_iloadN X109 hx (D 43) rfl ?_
  refine own_st (fun _ k => Jvm.Stand.ldc2J X109 hx hown (mvT hZ (own_hw hw 127 rfl)) rfl (D 44) k) ?_
  show own_Ok p e below _ (T109.setTop (mkF m 47 #[.val (.ref a1), .val (.int (-1 : Int32)), .val (.int (9 : Int32)), .val (.int (0 : Int32)), .unset, .unset, .unset, .unset, .unset, .unset] [(.long (999999999 : Int64)), (.int (9 : Int32)), (.int (0 : Int32)), (.ref a1)]))
  obtain ⟨_, T110, Lc110, X110, hQ110, st110⟩ := own_callS X109 hx hZ hown (own_hw hw 128 rfl) (own_hw hw 129 rfl) (own_hw hw 60 rfl) (own_hw hw 130 rfl) (rm_dvl l Z a0 hw [] G1 G3 a1 t1 k1 ((own_tx vn fn d)) 0 9 999999999 h0 n0 O0 SG1 PG1 SG3 rG3 Qa10 Qa11 Qa12 Qa13 (own_txL _ _ _) (own_tx4 hd6) (by decide) (own_tx9 hd6) own_tD1 (by decide) (fun t ht => Nat.le_trans (own_hvM ht) (Nat.le_trans (Nat.le_of_eq (own_hvA hv9)) hv9))) (by decide) e109 (Ls := #[.val (.ref a1), .val (.int (-1 : Int32)), .val (.int (9 : Int32)), .val (.int (0 : Int32)), .unset, .unset, .unset, .unset, .unset, .unset]) [(.ref a1), (.int (0 : Int32)), (.int (9 : Int32)), (.long (999999999 : Int64))] [] rfl (by rw [hml]; rfl) (lenOf own_pd15 rfl) (D 45) (by decide) 0 rfl (by decide) (by decide) (by decide)
  obtain ⟨rfl, Nq110, e110⟩ := hQ110
  have N110 := Fr.app N109 Nq110
  refine st110 _ ?_
  show own_Ok p e below _ (T110.setTop (mkF m 50 #[.val (.ref a1), .val (.int (-1 : Int32)), .val (.int (9 : Int32)), .val (.int (0 : Int32)), .unset, .unset, .unset, .unset, .unset, .unset] [(.long (Int64.ofNat (own_hv (own_tx vn fn d) 0 (9 - 0))))]))
  rw [show (Int64.ofNat (own_hv (own_tx vn fn d) 0 (9 - 0))) = (Int64.ofNat vn) from congrArg Int64.ofNat (own_hvA hv9)]
  show own_Ok p e below _ (T110.setTop (mkF m 50 #[.val (.ref a1), .val (.int (-1 : Int32)), .val (.int (9 : Int32)), .val (.int (0 : Int32)), .unset, .unset, .unset, .unset, .unset, .unset] [(.long (Int64.ofNat vn))]))
  show own_Ok p e below _ (T110.setTop (mkF m 50 #[.val (.ref a1), .val (.int (-1 : Int32)), .val (.int (9 : Int32)), .val (.int (0 : Int32)), .unset, .unset, .unset, .unset, .unset, .unset] [(.long (Int64.ofNat vn))]))
  refine s_lstore X110 hx (D 46) #[.val (.ref a1), .val (.int (-1 : Int32)), .val (.int (9 : Int32)), .val (.int (0 : Int32)), .val (.long (Int64.ofNat vn)), .second, .unset, .unset, .unset, .unset] rfl ?_
  refine s_lload X110 hx (D 47) rfl ?_
  refine own_st (fun _ k => Jvm.Stand.ldc2J X110 hx hown (mvT hZ (own_hw hw 127 rfl)) rfl (D 48) k) ?_
  show own_Ok p e below _ (T110.setTop (mkF m 57 #[.val (.ref a1), .val (.int (-1 : Int32)), .val (.int (9 : Int32)), .val (.int (0 : Int32)), .val (.long (Int64.ofNat vn)), .second, .unset, .unset, .unset, .unset] [(.long (999999999 : Int64)), (.long (Int64.ofNat vn))]))
  refine s_lcmp X110 hx (D 49) ?_
  refine s_ifYes X110 hx 99 (D 50) (XT.ll_le_t (own_lgN (M := 999999999) (by decide) hv9)) (by decide) (by decide) ?_
  refine s_iloadN X110 hx (D 51) rfl ?_
  refine s_ifNo X110 hx (D 52) (XT.i0_ge_f (by decide)) ?_
  refine s_lconst X110 hx (0 : Int64) (D 53) rfl ?_
  refine s_goto X110 hx 121 (D 54) (by decide) (by decide) ?_
  refine s_lstore X110 hx (D 55) #[.val (.ref a1), .val (.int (-1 : Int32)), .val (.int (9 : Int32)), .val (.int (0 : Int32)), .val (.long (Int64.ofNat vn)), .second, .val (.long (0 : Int64)), .second, .unset, .unset] rfl ?_
  refine s_iloadN X110 hx (D 56) rfl ?_
  refine s_istore X110 hx (D 57) #[.val (.ref a1), .val (.int (-1 : Int32)), .val (.int (9 : Int32)), .val (.int (0 : Int32)), .val (.long (Int64.ofNat vn)), .second, .val (.long (0 : Int64)), .second, .val (.int (0 : Int32)), .unset] rfl ?_
  rw [show (0 : Int64) = (Int64.ofNat (fn * 10 ^ (0 - d))) from own_zA hd0 hf]
  show own_Ok p e below _ (T110.setTop (mkF m 126 #[.val (.ref a1), .val (.int (-1 : Int32)), .val (.int (9 : Int32)), .val (.int (0 : Int32)), .val (.long (Int64.ofNat vn)), .second, .val (.long (Int64.ofNat (fn * 10 ^ (0 - d)))), .second, .val (.int (0 : Int32)), .unset] []))
  exact cut126 _ _ _ _ ((-1 : Int32)) ((9 : Int32)) ((0 : Int32)) 0 X110 e110 N110 O0 ((Keep.refl h0 [])) (Nat.le_of_eq hd0) (by decide) rfl
 ·skip
  rw [show (own_ri d) = (9 : Int32) from if_neg hd0]
  show own_Ok p e below _ (T108.setTop (mkF m 10 #[.val (.ref a1), .unset, .unset, .unset, .unset, .unset, .unset, .unset, .unset, .unset] [(.int (9 : Int32))]))
  refine s_istoreN X108 hx (D 29) #[.val (.ref a1), .val (.int (9 : Int32)), .unset, .unset, .unset, .unset, .unset, .unset, .unset, .unset] rfl ?_
  refine s_iloadN X108 hx (D 30) rfl ?_
  refine s_ifYes X108 hx 22 (D 31) (XT.i0_ge_t (by decide)) (by decide) (by decide) ?_
  refine s_iloadN X108 hx (D 58) rfl ?_
  refine s_istoreN X108 hx (D 35) #[.val (.ref a1), .val (.int (9 : Int32)), .val (.int (9 : Int32)), .unset, .unset, .unset, .unset, .unset, .unset, .unset] rfl ?_
  refine s_iloadN X108 hx (D 36) rfl ?_
  refine s_ifYes X108 hx 32 (D 37) (XT.i0_ge_t (by decide)) (by decide) (by decide) ?_
  refine s_aloadN X108 hx (D 59) rfl rfl ?_
  obtain ⟨cq111, kq111, q111a, q111b, q111c⟩ := isOf hZ e108 Qa10
  obtain ⟨_, _, ⟨T111, L111, k111, n111⟩, -, X111, ⟨Lc111, hQ111, l111, y111, z111⟩, st111⟩ := X108.virtualBack hx (y := (⟨"java/lang/String", "length", "()I"⟩ : MethodName)) (z := (⟨"java/lang/String", "length", "()I"⟩ : MethodName)) hown (mvT hZ (own_hw hw 107 rfl)) (mvT hZ (own_hw hw 81 rfl)) (notFace_of_selects (args := #[]) (mvT hZ (own_hw hw 83 rfl))) (mvT hZ (own_hw hw 83 rfl)) (mvT hZ (own_hw hw 82 rfl)) (by decide) (StrChars.Road.lenW (W := 0) hZ hln (kI := 4) (own_hw hw 30 rfl) Qa10 Qa12 Qa11 Qa13 (StrChars.Road.codOf (cs := (own_tx vn fn d)) (n := ((own_tx vn fn d)).length) rfl (fun c hc => ((own_txL _ _ _) c hc).2)) (own_up (own_txL _ _ _)) (SG1.ext O0.2) PG1 (own_tx4 hd6) (by decide) (by decide)) q111a q111c (g := (mkF m 33 #[.val (.ref a1), .val (.int (9 : Int32)), .val (.int (9 : Int32)), .unset, .unset, .unset, .unset, .unset, .unset, .unset] [(.ref a1)])) rfl (by rw [hml]; rfl) (Steps.refl _) (argsL := []) (rest := []) (lenOf own_pd9 rfl) rfl (by show 2 * 0 + _ ≤ _; exact Nat.le_of_eq rfl) (D 60) (fun _ _ => ⟨rfl, e108, (by decide : 0 + 0 ≤ _), (by decide : 0 + 0 ≤ _)⟩)
  dsimp only [Pt.U, Pt.locs, Pt.cells, Pt.slots] at X111 l111 y111 z111 st111 hQ111
  subst l111 y111 z111
  obtain ⟨rfl, rfl, e111⟩ := hQ111
  have Nq111 : Fr n0 ([] : List Loc) := Fr.nil n0
  have N111 := Fr.app N108 Nq111
  refine own_st (fun _ k => st111.trans k) ?_
  show own_Ok p e below _ (T111.setTop (mkF m 36 #[.val (.ref a1), .val (.int (9 : Int32)), .val (.int (9 : Int32)), .unset, .unset, .unset, .unset, .unset, .unset, .unset] [(.int (Int32.ofNat (own_tx vn fn d).length))]))
  rw [show (Int32.ofNat (own_tx vn fn d).length) = (Int32.ofNat (10 + d)) from own_lenB hd6 hd0]
  show own_Ok p e below _ (T111.setTop (mkF m 36 #[.val (.ref a1), .val (.int (9 : Int32)), .val (.int (9 : Int32)), .unset, .unset, .unset, .unset, .unset, .unset, .unset] [(.int (Int32.ofNat (10 + d)))]))
  show own_Ok p e below _ (T111.setTop (mkF m 36 #[.val (.ref a1), .val (.int (9 : Int32)), .val (.int (9 : Int32)), .unset, .unset, .unset, .unset, .unset, .unset, .unset] [(.int (Int32.ofNat (10 + d)))]))
  refine s_iloadN X111 hx (D 61) rfl ?_
  refine s_isub X111 hx (D 62) ?_
  refine s_iconst X111 hx (1 : Int32) (D 63) rfl ?_
  refine s_isub X111 hx (D 64) ?_
  rw [show (((Int32.ofNat (10 + d)) - (9 : Int32)) - (1 : Int32)) = (Int32.ofNat d) from own_subB hd6]
  show own_Ok p e below _ (T111.setTop (mkF m 40 #[.val (.ref a1), .val (.int (9 : Int32)), .val (.int (9 : Int32)), .unset, .unset, .unset, .unset, .unset, .unset, .unset] [(.int (Int32.ofNat d))]))
  refine s_istoreN X111 hx (D 40) #[.val (.ref a1), .val (.int (9 : Int32)), .val (.int (9 : Int32)), .val (.int (Int32.ofNat d)), .unset, .unset, .unset, .unset, .unset, .unset] rfl ?_
  refine s_aloadN X111 hx (D 41) rfl rfl ?_
  refine s_iconst X111 hx (0 : Int32) (D 42) rfl ?_
  refine s_iloadN X111 hx (D 43) rfl ?_
  refine own_st (fun _ k => Jvm.Stand.ldc2J X111 hx hown (mvT hZ (own_hw hw 127 rfl)) rfl (D 44) k) ?_
  show own_Ok p e below _ (T111.setTop (mkF m 47 #[.val (.ref a1), .val (.int (9 : Int32)), .val (.int (9 : Int32)), .val (.int (Int32.ofNat d)), .unset, .unset, .unset, .unset, .unset, .unset] [(.long (999999999 : Int64)), (.int (9 : Int32)), (.int (0 : Int32)), (.ref a1)]))
  obtain ⟨_, T112, Lc112, X112, hQ112, st112⟩ := own_callS X111 hx hZ hown (own_hw hw 128 rfl) (own_hw hw 129 rfl) (own_hw hw 60 rfl) (own_hw hw 130 rfl) (rm_dvl l Z a0 hw [] G1 G3 a1 t1 k1 ((own_tx vn fn d)) 0 9 999999999 h0 n0 O0 SG1 PG1 SG3 rG3 Qa10 Qa11 Qa12 Qa13 (own_txL _ _ _) (own_tx4 hd6) (by decide) (own_tx9 hd6) own_tD1 (by decide) (fun t ht => Nat.le_trans (own_hvM ht) (Nat.le_trans (Nat.le_of_eq (own_hvA hv9)) hv9))) (by decide) e111 (Ls := #[.val (.ref a1), .val (.int (9 : Int32)), .val (.int (9 : Int32)), .val (.int (Int32.ofNat d)), .unset, .unset, .unset, .unset, .unset, .unset]) [(.ref a1), (.int (0 : Int32)), (.int (9 : Int32)), (.long (999999999 : Int64))] [] rfl (by rw [hml]; rfl) (lenOf own_pd15 rfl) (D 45) (by decide) 0 rfl (by decide) (by decide) (by decide)
  obtain ⟨rfl, Nq112, e112⟩ := hQ112
  have N112 := Fr.app N111 Nq112
  refine st112 _ ?_
  show own_Ok p e below _ (T112.setTop (mkF m 50 #[.val (.ref a1), .val (.int (9 : Int32)), .val (.int (9 : Int32)), .val (.int (Int32.ofNat d)), .unset, .unset, .unset, .unset, .unset, .unset] [(.long (Int64.ofNat (own_hv (own_tx vn fn d) 0 (9 - 0))))]))
  rw [show (Int64.ofNat (own_hv (own_tx vn fn d) 0 (9 - 0))) = (Int64.ofNat vn) from congrArg Int64.ofNat (own_hvA hv9)]
  show own_Ok p e below _ (T112.setTop (mkF m 50 #[.val (.ref a1), .val (.int (9 : Int32)), .val (.int (9 : Int32)), .val (.int (Int32.ofNat d)), .unset, .unset, .unset, .unset, .unset, .unset] [(.long (Int64.ofNat vn))]))
  show own_Ok p e below _ (T112.setTop (mkF m 50 #[.val (.ref a1), .val (.int (9 : Int32)), .val (.int (9 : Int32)), .val (.int (Int32.ofNat d)), .unset, .unset, .unset, .unset, .unset, .unset] [(.long (Int64.ofNat vn))]))
  refine s_lstore X112 hx (D 46) #[.val (.ref a1), .val (.int (9 : Int32)), .val (.int (9 : Int32)), .val (.int (Int32.ofNat d)), .val (.long (Int64.ofNat vn)), .second, .unset, .unset, .unset, .unset] rfl ?_
  refine s_lload X112 hx (D 47) rfl ?_
  refine own_st (fun _ k => Jvm.Stand.ldc2J X112 hx hown (mvT hZ (own_hw hw 127 rfl)) rfl (D 48) k) ?_
  show own_Ok p e below _ (T112.setTop (mkF m 57 #[.val (.ref a1), .val (.int (9 : Int32)), .val (.int (9 : Int32)), .val (.int (Int32.ofNat d)), .val (.long (Int64.ofNat vn)), .second, .unset, .unset, .unset, .unset] [(.long (999999999 : Int64)), (.long (Int64.ofNat vn))]))
  refine s_lcmp X112 hx (D 49) ?_
  refine s_ifYes X112 hx 99 (D 50) (XT.ll_le_t (own_lgN (M := 999999999) (by decide) hv9)) (by decide) (by decide) ?_
  refine s_iloadN X112 hx (D 51) rfl ?_
  refine s_ifYes X112 hx 107 (D 52) (XT.i0_ge_t (by decide)) (by decide) (by decide) ?_
  refine s_aloadN X112 hx (D 65) rfl rfl ?_
  refine s_iloadN X112 hx (D 66) rfl ?_
  refine s_iconst X112 hx (1 : Int32) (D 67) rfl ?_
  refine s_iadd X112 hx (D 68) ?_
  show own_Ok p e below _ (T112.setTop (mkF m 111 #[.val (.ref a1), .val (.int (9 : Int32)), .val (.int (9 : Int32)), .val (.int (Int32.ofNat d)), .val (.long (Int64.ofNat vn)), .second, .unset, .unset, .unset, .unset] [(.int (10 : Int32)), (.ref a1)]))
  refine s_aloadN X112 hx (D 69) rfl rfl ?_
  obtain ⟨cq113, kq113, q113a, q113b, q113c⟩ := isOf hZ e112 Qa10
  obtain ⟨_, _, ⟨T113, L113, k113, n113⟩, -, X113, ⟨Lc113, hQ113, l113, y113, z113⟩, st113⟩ := X112.virtualBack hx (y := (⟨"java/lang/String", "length", "()I"⟩ : MethodName)) (z := (⟨"java/lang/String", "length", "()I"⟩ : MethodName)) hown (mvT hZ (own_hw hw 107 rfl)) (mvT hZ (own_hw hw 81 rfl)) (notFace_of_selects (args := #[]) (mvT hZ (own_hw hw 83 rfl))) (mvT hZ (own_hw hw 83 rfl)) (mvT hZ (own_hw hw 82 rfl)) (by decide) (StrChars.Road.lenW (W := 2) hZ hln (kI := 4) (own_hw hw 30 rfl) Qa10 Qa12 Qa11 Qa13 (StrChars.Road.codOf (cs := (own_tx vn fn d)) (n := ((own_tx vn fn d)).length) rfl (fun c hc => ((own_txL _ _ _) c hc).2)) (own_up (own_txL _ _ _)) (SG1.ext O0.2) PG1 (own_tx4 hd6) (by decide) (by decide)) q113a q113c (g := (mkF m 112 #[.val (.ref a1), .val (.int (9 : Int32)), .val (.int (9 : Int32)), .val (.int (Int32.ofNat d)), .val (.long (Int64.ofNat vn)), .second, .unset, .unset, .unset, .unset] [(.ref a1), (.int (10 : Int32)), (.ref a1)])) rfl (by rw [hml]; rfl) (Steps.refl _) (argsL := []) (rest := [(.int (10 : Int32)), (.ref a1)]) (lenOf own_pd9 rfl) rfl (by show 2 * 0 + _ ≤ _; exact Nat.le_of_eq rfl) (D 70) (fun _ _ => ⟨rfl, e112, (by decide : 0 + 0 ≤ _), (by decide : 0 + 0 ≤ _)⟩)
  dsimp only [Pt.U, Pt.locs, Pt.cells, Pt.slots] at X113 l113 y113 z113 st113 hQ113
  subst l113 y113 z113
  obtain ⟨rfl, rfl, e113⟩ := hQ113
  have Nq113 : Fr n0 ([] : List Loc) := Fr.nil n0
  have N113 := Fr.app N112 Nq113
  refine own_st (fun _ k => st113.trans k) ?_
  show own_Ok p e below _ (T113.setTop (mkF m 115 #[.val (.ref a1), .val (.int (9 : Int32)), .val (.int (9 : Int32)), .val (.int (Int32.ofNat d)), .val (.long (Int64.ofNat vn)), .second, .unset, .unset, .unset, .unset] [(.int (Int32.ofNat (own_tx vn fn d).length)), (.int (10 : Int32)), (.ref a1)]))
  rw [show (Int32.ofNat (own_tx vn fn d).length) = (Int32.ofNat (10 + d)) from own_lenB hd6 hd0]
  show own_Ok p e below _ (T113.setTop (mkF m 115 #[.val (.ref a1), .val (.int (9 : Int32)), .val (.int (9 : Int32)), .val (.int (Int32.ofNat d)), .val (.long (Int64.ofNat vn)), .second, .unset, .unset, .unset, .unset] [(.int (Int32.ofNat (10 + d))), (.int (10 : Int32)), (.ref a1)]))
  show own_Ok p e below _ (T113.setTop (mkF m 115 #[.val (.ref a1), .val (.int (9 : Int32)), .val (.int (9 : Int32)), .val (.int (Int32.ofNat d)), .val (.long (Int64.ofNat vn)), .second, .unset, .unset, .unset, .unset] [(.int (Int32.ofNat (10 + d))), (.int (10 : Int32)), (.ref a1)]))
  refine own_st (fun _ k => Jvm.Stand.ldc2J X113 hx hown (mvT hZ (own_hw hw 132 rfl)) rfl (D 71) k) ?_
  show own_Ok p e below _ (T113.setTop (mkF m 118 #[.val (.ref a1), .val (.int (9 : Int32)), .val (.int (9 : Int32)), .val (.int (Int32.ofNat d)), .val (.long (Int64.ofNat vn)), .second, .unset, .unset, .unset, .unset] [(.long (1000000 : Int64)), (.int (Int32.ofNat (10 + d))), (.int (10 : Int32)), (.ref a1)]))
  obtain ⟨_, T114, Lc114, X114, hQ114, st114⟩ := own_callS X113 hx hZ hown (own_hw hw 128 rfl) (own_hw hw 129 rfl) (own_hw hw 60 rfl) (own_hw hw 130 rfl) (rm_dvl l Z a0 hw [] G1 G3 a1 t1 k1 ((own_tx vn fn d)) 10 ((10 + d)) 1000000 h0 n0 O0 SG1 PG1 SG3 rG3 Qa10 Qa11 Qa12 Qa13 (own_txL _ _ _) (own_tx4 hd6) (Nat.le_add_right 10 d) (own_txB hd6 hd0) (own_tD2 hd0 hd6) (by decide) (fun t ht => Nat.le_trans (own_hvM ht) (Nat.le_trans (Nat.le_of_eq (own_hvB hd6 hd0 hf)) (Nat.le_of_lt (own_f6 hd6 hf))))) (by decide) e113 (Ls := #[.val (.ref a1), .val (.int (9 : Int32)), .val (.int (9 : Int32)), .val (.int (Int32.ofNat d)), .val (.long (Int64.ofNat vn)), .second, .unset, .unset, .unset, .unset]) [(.ref a1), (.int (10 : Int32)), (.int (Int32.ofNat (10 + d))), (.long (1000000 : Int64))] [] rfl (by rw [hml]; rfl) (lenOf own_pd15 rfl) (D 72) (by decide) 0 rfl (by decide) (by decide) (by decide)
  obtain ⟨rfl, Nq114, e114⟩ := hQ114
  have N114 := Fr.app N113 Nq114
  refine st114 _ ?_
  show own_Ok p e below _ (T114.setTop (mkF m 121 #[.val (.ref a1), .val (.int (9 : Int32)), .val (.int (9 : Int32)), .val (.int (Int32.ofNat d)), .val (.long (Int64.ofNat vn)), .second, .unset, .unset, .unset, .unset] [(.long (Int64.ofNat (own_hv (own_tx vn fn d) 10 ((10 + d) - 10))))]))
  rw [show (Int64.ofNat (own_hv (own_tx vn fn d) 10 ((10 + d) - 10))) = (Int64.ofNat fn) from congrArg Int64.ofNat (own_hvB hd6 hd0 hf)]
  show own_Ok p e below _ (T114.setTop (mkF m 121 #[.val (.ref a1), .val (.int (9 : Int32)), .val (.int (9 : Int32)), .val (.int (Int32.ofNat d)), .val (.long (Int64.ofNat vn)), .second, .unset, .unset, .unset, .unset] [(.long (Int64.ofNat fn))]))
  show own_Ok p e below _ (T114.setTop (mkF m 121 #[.val (.ref a1), .val (.int (9 : Int32)), .val (.int (9 : Int32)), .val (.int (Int32.ofNat d)), .val (.long (Int64.ofNat vn)), .second, .unset, .unset, .unset, .unset] [(.long (Int64.ofNat fn))]))
  refine s_lstore X114 hx (D 55) #[.val (.ref a1), .val (.int (9 : Int32)), .val (.int (9 : Int32)), .val (.int (Int32.ofNat d)), .val (.long (Int64.ofNat vn)), .second, .val (.long (Int64.ofNat fn)), .second, .unset, .unset] rfl ?_
  refine s_iloadN X114 hx (D 56) rfl ?_
  refine s_istore X114 hx (D 57) #[.val (.ref a1), .val (.int (9 : Int32)), .val (.int (9 : Int32)), .val (.int (Int32.ofNat d)), .val (.long (Int64.ofNat vn)), .second, .val (.long (Int64.ofNat fn)), .second, .val (.int (Int32.ofNat d)), .unset] rfl ?_
  rw [show (Int64.ofNat fn) = (Int64.ofNat (fn * 10 ^ (d - d))) from own_zB]
  show own_Ok p e below _ (T114.setTop (mkF m 126 #[.val (.ref a1), .val (.int (9 : Int32)), .val (.int (9 : Int32)), .val (.int (Int32.ofNat d)), .val (.long (Int64.ofNat vn)), .second, .val (.long (Int64.ofNat (fn * 10 ^ (d - d)))), .second, .val (.int (Int32.ofNat d)), .unset] []))
  exact cut126 _ _ _ _ ((9 : Int32)) ((9 : Int32)) ((Int32.ofNat d)) d X114 e114 N114 O0 ((Keep.refl h0 [])) (Nat.le_refl _) hd6 rfl
theorem own_ef_rm_ssz (m : MethodId) (vn : Nat) : entryFrame m #[(.long (Int64.ofNat vn))] 6 = mkF m 0 #[.val (.long (Int64.ofNat vn)), .second, .unset, .unset, .unset, .unset] [] := by first | (simp [entryFrame, mkF, argsToLocals, Value.category]; done) | rfl
def t_rm_ssz : List (Nat × Instr × Nat) := [(0, .iconst 1, 1), (1, .istore_n 2, 1), (2, .lload_n 0, 1), (3, .lconst 0, 1), (4, .lcmp, 1), (5, .ifCond .lt 8, 3), (8, .iconst 0, 1), (9, .istore_n 2, 1), (10, .lload_n 0, 1), (11, .lneg, 1), (12, .lstore_n 0, 1), (13, .ldc2_w 140, 3), (16, .lstore_n 3, 1), (17, .iconst 1, 1), (18, .istore 5, 2), (20, .iload 5, 2), (22, .bipush 19, 2), (24, .if_icmp .ge 26, 3), (27, .lload_n 0, 1), (28, .lload_n 3, 1), (29, .lcmp, 1), (30, .ifCond .le 8, 3), (33, .iload 5, 2), (35, .iload_n 2, 1), (36, .iadd, 1), (37, .ireturn, 1), (38, .ldc2_w 53, 3), (41, .lload_n 3, 1), (42, .lmul, 1), (43, .lstore_n 3, 1), (44, .iinc 5 1, 3), (47, .goto (-27), 3)]
theorem d_rm_ssz (i : Nat) : decode jdk_35_method_15_code (t_rm_ssz.getD i (0, .iconst 1, 1)).1 = .ok (t_rm_ssz.getD i (0, .iconst 1, 1)).2 := own_dt (by decide +kernel) (List.mem_cons_self ..) i
def Q_rm_ssz (Z : State) (vn : Nat) (nb : Nat) (h0 : Heap) (n0 : Nat) (v : Option Value) (h : Heap) (L : List Loc) : Prop := v = some (.int (Int32.ofNat (own_dl vn).length)) ∧ Fr nb L ∧ h = h0
theorem own_pn4 : plainName "java/lang/Long" = true := by first | (simp [plainName, overriddenIn]; done) | decide +kernel
set_option maxRecDepth 65536 in
set_option maxHeartbeats 40000000 in
theorem rm_ssz (l : Launch) (Z : State) (a0 : Array Value) (hw : ∀ d ∈ tables_1, d.before a0 Z = true) (ws : List Jvm.Cond) (vn : Nat) (nb : Nat) (h0 : Heap) (n0 : Nat) (O0 : Old Z n0 h0) (hv : vn ≤ 999999999) (hnb : nb ≤ h0.size) (hnn : n0 ≤ nb) :
    own_Met l Z (⟨"java/lang/Long", "stringSize", "(J)I"⟩ : MethodName) jdk_35_method_15_code 6 (some .int) ws ({ frames := 0, cells := 0, slots := 0, locals := 0 } : Room) #[(.long (Int64.ofNat vn))] h0 (Q_rm_ssz Z vn nb h0 n0) := by
 refine MetFree.of_bodySF (plainFor_of_name own_pn4) hisR ?_
 intro p e s m args below meth c s₁ Bd hml0 hP hK
 obtain ⟨rfl, hZ, hh⟩ := hP
 have hx := Bd.exec
 have hby := Bd.bytes
 have D := fun i => hb hby (d_rm_ssz i)
 have hml : c.maxLocals = 6 := hml0
 have hown : s.vm.findClass "java/lang/Long" = some m.cls := findClass_of_methodNamed Bd.named
 have hnm := (name_of_methodNamed Bd.named Bd.method).1
 have hlk : meth.locks = false := Bd.notSynchronized
 have X0 : Stand p l e ({ frames := 0, cells := 0, slots := 0, locals := 0 } : Room) s m #[(.long (Int64.ofNat vn))] below meth c s₁ [] 0 0 := Stand.of_body Bd
 have e0 : s₁.heap = h0 := by rw [← hh, Bd.state]; rfl
 have N0 := Fr.nil nb
 suffices hgo : own_Ok p e below (own_Qx s (Q_rm_ssz Z vn nb h0 n0) 0 0) (s₁.setTop (mkF m 0 #[.val (.long (Int64.ofNat vn)), .second, .unset, .unset, .unset, .unset] [])) from by
   obtain ⟨s₂, o, h1, h2⟩ := hgo
   exact ⟨s₂, o, castTop (own_ef_rm_ssz m vn) h1, h2⟩
 show own_Ok p e below _ (s₁.setTop (mkF m 0 #[.val (.long (Int64.ofNat vn)), .second, .unset, .unset, .unset, .unset] []))
 refine s_iconst X0 hx (1 : Int32) (D 0) rfl ?_
 refine s_istoreN X0 hx (D 1) #[.val (.long (Int64.ofNat vn)), .second, .val (.int (1 : Int32)), .unset, .unset, .unset] rfl ?_
 refine s_lloadN X0 hx (D 2) rfl ?_
 refine s_lconst X0 hx (0 : Int64) (D 3) rfl ?_
 refine s_lcmp X0 hx (D 4) ?_
 refine s_ifNo X0 hx (D 5) (XT.ll_lt_f (own_nn hv)) ?_
 refine s_iconst X0 hx (0 : Int32) (D 6) rfl ?_
 refine s_istoreN X0 hx (D 7) #[.val (.long (Int64.ofNat vn)), .second, .val (.int (0 : Int32)), .unset, .unset, .unset] rfl ?_
 refine s_lloadN X0 hx (D 8) rfl ?_
 refine s_lneg X0 hx (D 9) ?_
 refine s_lstoreN X0 hx (D 10) #[.val (.long ((-(Int64.ofNat vn)))), .second, .val (.int (0 : Int32)), .unset, .unset, .unset] rfl ?_
 refine own_st (fun _ k => Jvm.Stand.ldc2J X0 hx hown (mvT hZ (own_hw hw 153 rfl)) rfl (D 11) k) ?_
 show own_Ok p e below _ (s₁.setTop (mkF m 16 #[.val (.long ((-(Int64.ofNat vn)))), .second, .val (.int (0 : Int32)), .unset, .unset, .unset] [(.long (-10 : Int64))]))
 refine s_lstoreN X0 hx (D 12) #[.val (.long ((-(Int64.ofNat vn)))), .second, .val (.int (0 : Int32)), .val (.long (-10 : Int64)), .second, .unset] rfl ?_
 refine s_iconst X0 hx (1 : Int32) (D 13) rfl ?_
 refine s_istore X0 hx (D 14) #[.val (.long ((-(Int64.ofNat vn)))), .second, .val (.int (0 : Int32)), .val (.long (-10 : Int64)), .second, .val (.int (1 : Int32))] rfl ?_
 refine s_iload X0 hx (D 15) rfl ?_
 refine s_bipush X0 hx (19 : Int32) (D 16) rfl ?_
 refine s_icmpNo X0 hx (D 17) (XT.ii_ge_f (by decide)) ?_
 refine s_lloadN X0 hx (D 18) rfl ?_
 refine s_lloadN X0 hx (D 19) rfl ?_
 refine s_lcmp X0 hx (D 20) ?_
 by_cases c30_101 : (-10 : Int64) < ((-(Int64.ofNat vn)))
 ·skip
  refine s_ifNo X0 hx (D 21) (XT.ll_le_f c30_101) ?_
  refine s_iload X0 hx (D 22) rfl ?_
  refine s_iloadN X0 hx (D 23) rfl ?_
  refine s_iadd X0 hx (D 24) ?_
  show own_Ok p e below _ (s₁.setTop (mkF m 37 #[.val (.long ((-(Int64.ofNat vn)))), .second, .val (.int (0 : Int32)), .val (.long (-10 : Int64)), .second, .val (.int (1 : Int32))] [(.int (1 : Int32))]))
  exact own_retI X0 hx hlk Bd.returns (D 25) (by rw [e0]; exact ⟨congrArg (fun z => some (Value.int z)) (own_ssz (k := 0) (a := (-1 : Int64)) hv rfl rfl (Or.inl rfl) c30_101 rfl), N0, rfl⟩) (by decide) (by decide)
 ·skip
  refine s_ifYes X0 hx 38 (D 21) (XT.ll_le_t c30_101) (by decide) (by decide) ?_
  refine own_st (fun _ k => Jvm.Stand.ldc2J X0 hx hown (mvT hZ (own_hw hw 154 rfl)) rfl (D 26) k) ?_
  show own_Ok p e below _ (s₁.setTop (mkF m 41 #[.val (.long ((-(Int64.ofNat vn)))), .second, .val (.int (0 : Int32)), .val (.long (-10 : Int64)), .second, .val (.int (1 : Int32))] [(.long (10 : Int64))]))
  refine s_lloadN X0 hx (D 27) rfl ?_
  refine s_lmul X0 hx (D 28) ?_
  show own_Ok p e below _ (s₁.setTop (mkF m 43 #[.val (.long ((-(Int64.ofNat vn)))), .second, .val (.int (0 : Int32)), .val (.long (-10 : Int64)), .second, .val (.int (1 : Int32))] [(.long (-100 : Int64))]))
  refine s_lstoreN X0 hx (D 29) #[.val (.long ((-(Int64.ofNat vn)))), .second, .val (.int (0 : Int32)), .val (.long (-100 : Int64)), .second, .val (.int (1 : Int32))] rfl ?_
  refine s_iinc X0 hx (1 : Int32) (D 30) rfl rfl #[.val (.long ((-(Int64.ofNat vn)))), .second, .val (.int (0 : Int32)), .val (.long (-100 : Int64)), .second, .val (.int (2 : Int32))] rfl ?_
  refine s_goto X0 hx 20 (D 31) (by decide) (by decide) ?_
  refine s_iload X0 hx (D 15) rfl ?_
  refine s_bipush X0 hx (19 : Int32) (D 16) rfl ?_
  refine s_icmpNo X0 hx (D 17) (XT.ii_ge_f (by decide)) ?_
  refine s_lloadN X0 hx (D 18) rfl ?_
  refine s_lloadN X0 hx (D 19) rfl ?_
  refine s_lcmp X0 hx (D 20) ?_
  by_cases c30_102 : (-100 : Int64) < ((-(Int64.ofNat vn)))
  ·skip
   refine s_ifNo X0 hx (D 21) (XT.ll_le_f c30_102) ?_
   refine s_iload X0 hx (D 22) rfl ?_
   refine s_iloadN X0 hx (D 23) rfl ?_
   refine s_iadd X0 hx (D 24) ?_
   show own_Ok p e below _ (s₁.setTop (mkF m 37 #[.val (.long ((-(Int64.ofNat vn)))), .second, .val (.int (0 : Int32)), .val (.long (-100 : Int64)), .second, .val (.int (2 : Int32))] [(.int (2 : Int32))]))
   exact own_retI X0 hx hlk Bd.returns (D 25) (by rw [e0]; exact ⟨congrArg (fun z => some (Value.int z)) (own_ssz (k := 1) (a := (-10 : Int64)) hv rfl rfl (Or.inr c30_101) c30_102 rfl), N0, rfl⟩) (by decide) (by decide)
  ·skip
   refine s_ifYes X0 hx 38 (D 21) (XT.ll_le_t c30_102) (by decide) (by decide) ?_
   refine own_st (fun _ k => Jvm.Stand.ldc2J X0 hx hown (mvT hZ (own_hw hw 154 rfl)) rfl (D 26) k) ?_
   show own_Ok p e below _ (s₁.setTop (mkF m 41 #[.val (.long ((-(Int64.ofNat vn)))), .second, .val (.int (0 : Int32)), .val (.long (-100 : Int64)), .second, .val (.int (2 : Int32))] [(.long (10 : Int64))]))
   refine s_lloadN X0 hx (D 27) rfl ?_
   refine s_lmul X0 hx (D 28) ?_
   show own_Ok p e below _ (s₁.setTop (mkF m 43 #[.val (.long ((-(Int64.ofNat vn)))), .second, .val (.int (0 : Int32)), .val (.long (-100 : Int64)), .second, .val (.int (2 : Int32))] [(.long (-1000 : Int64))]))
   refine s_lstoreN X0 hx (D 29) #[.val (.long ((-(Int64.ofNat vn)))), .second, .val (.int (0 : Int32)), .val (.long (-1000 : Int64)), .second, .val (.int (2 : Int32))] rfl ?_
   refine s_iinc X0 hx (1 : Int32) (D 30) rfl rfl #[.val (.long ((-(Int64.ofNat vn)))), .second, .val (.int (0 : Int32)), .val (.long (-1000 : Int64)), .second, .val (.int (3 : Int32))] rfl ?_
   refine s_goto X0 hx 20 (D 31) (by decide) (by decide) ?_
   refine s_iload X0 hx (D 15) rfl ?_
   refine s_bipush X0 hx (19 : Int32) (D 16) rfl ?_
   refine s_icmpNo X0 hx (D 17) (XT.ii_ge_f (by decide)) ?_
   refine s_lloadN X0 hx (D 18) rfl ?_
   refine s_lloadN X0 hx (D 19) rfl ?_
   refine s_lcmp X0 hx (D 20) ?_
   by_cases c30_103 : (-1000 : Int64) < ((-(Int64.ofNat vn)))
   ·skip
    refine s_ifNo X0 hx (D 21) (XT.ll_le_f c30_103) ?_
    refine s_iload X0 hx (D 22) rfl ?_
    refine s_iloadN X0 hx (D 23) rfl ?_
    refine s_iadd X0 hx (D 24) ?_
    show own_Ok p e below _ (s₁.setTop (mkF m 37 #[.val (.long ((-(Int64.ofNat vn)))), .second, .val (.int (0 : Int32)), .val (.long (-1000 : Int64)), .second, .val (.int (3 : Int32))] [(.int (3 : Int32))]))
    exact own_retI X0 hx hlk Bd.returns (D 25) (by rw [e0]; exact ⟨congrArg (fun z => some (Value.int z)) (own_ssz (k := 2) (a := (-100 : Int64)) hv rfl rfl (Or.inr c30_102) c30_103 rfl), N0, rfl⟩) (by decide) (by decide)
   ·skip
    refine s_ifYes X0 hx 38 (D 21) (XT.ll_le_t c30_103) (by decide) (by decide) ?_
    refine own_st (fun _ k => Jvm.Stand.ldc2J X0 hx hown (mvT hZ (own_hw hw 154 rfl)) rfl (D 26) k) ?_
    show own_Ok p e below _ (s₁.setTop (mkF m 41 #[.val (.long ((-(Int64.ofNat vn)))), .second, .val (.int (0 : Int32)), .val (.long (-1000 : Int64)), .second, .val (.int (3 : Int32))] [(.long (10 : Int64))]))
    refine s_lloadN X0 hx (D 27) rfl ?_
    refine s_lmul X0 hx (D 28) ?_
    show own_Ok p e below _ (s₁.setTop (mkF m 43 #[.val (.long ((-(Int64.ofNat vn)))), .second, .val (.int (0 : Int32)), .val (.long (-1000 : Int64)), .second, .val (.int (3 : Int32))] [(.long (-10000 : Int64))]))
    refine s_lstoreN X0 hx (D 29) #[.val (.long ((-(Int64.ofNat vn)))), .second, .val (.int (0 : Int32)), .val (.long (-10000 : Int64)), .second, .val (.int (3 : Int32))] rfl ?_
    refine s_iinc X0 hx (1 : Int32) (D 30) rfl rfl #[.val (.long ((-(Int64.ofNat vn)))), .second, .val (.int (0 : Int32)), .val (.long (-10000 : Int64)), .second, .val (.int (4 : Int32))] rfl ?_
    refine s_goto X0 hx 20 (D 31) (by decide) (by decide) ?_
    refine s_iload X0 hx (D 15) rfl ?_
    refine s_bipush X0 hx (19 : Int32) (D 16) rfl ?_
    refine s_icmpNo X0 hx (D 17) (XT.ii_ge_f (by decide)) ?_
    refine s_lloadN X0 hx (D 18) rfl ?_
    refine s_lloadN X0 hx (D 19) rfl ?_
    refine s_lcmp X0 hx (D 20) ?_
    by_cases c30_104 : (-10000 : Int64) < ((-(Int64.ofNat vn)))
    ·skip
     refine s_ifNo X0 hx (D 21) (XT.ll_le_f c30_104) ?_
     refine s_iload X0 hx (D 22) rfl ?_
     refine s_iloadN X0 hx (D 23) rfl ?_
     refine s_iadd X0 hx (D 24) ?_
     show own_Ok p e below _ (s₁.setTop (mkF m 37 #[.val (.long ((-(Int64.ofNat vn)))), .second, .val (.int (0 : Int32)), .val (.long (-10000 : Int64)), .second, .val (.int (4 : Int32))] [(.int (4 : Int32))]))
     exact own_retI X0 hx hlk Bd.returns (D 25) (by rw [e0]; exact ⟨congrArg (fun z => some (Value.int z)) (own_ssz (k := 3) (a := (-1000 : Int64)) hv rfl rfl (Or.inr c30_103) c30_104 rfl), N0, rfl⟩) (by decide) (by decide)
    ·skip
     refine s_ifYes X0 hx 38 (D 21) (XT.ll_le_t c30_104) (by decide) (by decide) ?_
     refine own_st (fun _ k => Jvm.Stand.ldc2J X0 hx hown (mvT hZ (own_hw hw 154 rfl)) rfl (D 26) k) ?_
     show own_Ok p e below _ (s₁.setTop (mkF m 41 #[.val (.long ((-(Int64.ofNat vn)))), .second, .val (.int (0 : Int32)), .val (.long (-10000 : Int64)), .second, .val (.int (4 : Int32))] [(.long (10 : Int64))]))
     refine s_lloadN X0 hx (D 27) rfl ?_
     refine s_lmul X0 hx (D 28) ?_
     show own_Ok p e below _ (s₁.setTop (mkF m 43 #[.val (.long ((-(Int64.ofNat vn)))), .second, .val (.int (0 : Int32)), .val (.long (-10000 : Int64)), .second, .val (.int (4 : Int32))] [(.long (-100000 : Int64))]))
     refine s_lstoreN X0 hx (D 29) #[.val (.long ((-(Int64.ofNat vn)))), .second, .val (.int (0 : Int32)), .val (.long (-100000 : Int64)), .second, .val (.int (4 : Int32))] rfl ?_
     refine s_iinc X0 hx (1 : Int32) (D 30) rfl rfl #[.val (.long ((-(Int64.ofNat vn)))), .second, .val (.int (0 : Int32)), .val (.long (-100000 : Int64)), .second, .val (.int (5 : Int32))] rfl ?_
     refine s_goto X0 hx 20 (D 31) (by decide) (by decide) ?_
     refine s_iload X0 hx (D 15) rfl ?_
     refine s_bipush X0 hx (19 : Int32) (D 16) rfl ?_
     refine s_icmpNo X0 hx (D 17) (XT.ii_ge_f (by decide)) ?_
     refine s_lloadN X0 hx (D 18) rfl ?_
     refine s_lloadN X0 hx (D 19) rfl ?_
     refine s_lcmp X0 hx (D 20) ?_
     by_cases c30_105 : (-100000 : Int64) < ((-(Int64.ofNat vn)))
     ·skip
      refine s_ifNo X0 hx (D 21) (XT.ll_le_f c30_105) ?_
      refine s_iload X0 hx (D 22) rfl ?_
      refine s_iloadN X0 hx (D 23) rfl ?_
      refine s_iadd X0 hx (D 24) ?_
      show own_Ok p e below _ (s₁.setTop (mkF m 37 #[.val (.long ((-(Int64.ofNat vn)))), .second, .val (.int (0 : Int32)), .val (.long (-100000 : Int64)), .second, .val (.int (5 : Int32))] [(.int (5 : Int32))]))
      exact own_retI X0 hx hlk Bd.returns (D 25) (by rw [e0]; exact ⟨congrArg (fun z => some (Value.int z)) (own_ssz (k := 4) (a := (-10000 : Int64)) hv rfl rfl (Or.inr c30_104) c30_105 rfl), N0, rfl⟩) (by decide) (by decide)
     ·skip
      refine s_ifYes X0 hx 38 (D 21) (XT.ll_le_t c30_105) (by decide) (by decide) ?_
      refine own_st (fun _ k => Jvm.Stand.ldc2J X0 hx hown (mvT hZ (own_hw hw 154 rfl)) rfl (D 26) k) ?_
      show own_Ok p e below _ (s₁.setTop (mkF m 41 #[.val (.long ((-(Int64.ofNat vn)))), .second, .val (.int (0 : Int32)), .val (.long (-100000 : Int64)), .second, .val (.int (5 : Int32))] [(.long (10 : Int64))]))
      refine s_lloadN X0 hx (D 27) rfl ?_
      refine s_lmul X0 hx (D 28) ?_
      show own_Ok p e below _ (s₁.setTop (mkF m 43 #[.val (.long ((-(Int64.ofNat vn)))), .second, .val (.int (0 : Int32)), .val (.long (-100000 : Int64)), .second, .val (.int (5 : Int32))] [(.long (-1000000 : Int64))]))
      refine s_lstoreN X0 hx (D 29) #[.val (.long ((-(Int64.ofNat vn)))), .second, .val (.int (0 : Int32)), .val (.long (-1000000 : Int64)), .second, .val (.int (5 : Int32))] rfl ?_
      refine s_iinc X0 hx (1 : Int32) (D 30) rfl rfl #[.val (.long ((-(Int64.ofNat vn)))), .second, .val (.int (0 : Int32)), .val (.long (-1000000 : Int64)), .second, .val (.int (6 : Int32))] rfl ?_
      refine s_goto X0 hx 20 (D 31) (by decide) (by decide) ?_
      refine s_iload X0 hx (D 15) rfl ?_
      refine s_bipush X0 hx (19 : Int32) (D 16) rfl ?_
      refine s_icmpNo X0 hx (D 17) (XT.ii_ge_f (by decide)) ?_
      refine s_lloadN X0 hx (D 18) rfl ?_
      refine s_lloadN X0 hx (D 19) rfl ?_
      refine s_lcmp X0 hx (D 20) ?_
      by_cases c30_106 : (-1000000 : Int64) < ((-(Int64.ofNat vn)))
      ·skip
       refine s_ifNo X0 hx (D 21) (XT.ll_le_f c30_106) ?_
       refine s_iload X0 hx (D 22) rfl ?_
       refine s_iloadN X0 hx (D 23) rfl ?_
       refine s_iadd X0 hx (D 24) ?_
       show own_Ok p e below _ (s₁.setTop (mkF m 37 #[.val (.long ((-(Int64.ofNat vn)))), .second, .val (.int (0 : Int32)), .val (.long (-1000000 : Int64)), .second, .val (.int (6 : Int32))] [(.int (6 : Int32))]))
       exact own_retI X0 hx hlk Bd.returns (D 25) (by rw [e0]; exact ⟨congrArg (fun z => some (Value.int z)) (own_ssz (k := 5) (a := (-100000 : Int64)) hv rfl rfl (Or.inr c30_105) c30_106 rfl), N0, rfl⟩) (by decide) (by decide)
      ·skip
       refine s_ifYes X0 hx 38 (D 21) (XT.ll_le_t c30_106) (by decide) (by decide) ?_
       refine own_st (fun _ k => Jvm.Stand.ldc2J X0 hx hown (mvT hZ (own_hw hw 154 rfl)) rfl (D 26) k) ?_
       show own_Ok p e below _ (s₁.setTop (mkF m 41 #[.val (.long ((-(Int64.ofNat vn)))), .second, .val (.int (0 : Int32)), .val (.long (-1000000 : Int64)), .second, .val (.int (6 : Int32))] [(.long (10 : Int64))]))
       refine s_lloadN X0 hx (D 27) rfl ?_
       refine s_lmul X0 hx (D 28) ?_
       show own_Ok p e below _ (s₁.setTop (mkF m 43 #[.val (.long ((-(Int64.ofNat vn)))), .second, .val (.int (0 : Int32)), .val (.long (-1000000 : Int64)), .second, .val (.int (6 : Int32))] [(.long (-10000000 : Int64))]))
       refine s_lstoreN X0 hx (D 29) #[.val (.long ((-(Int64.ofNat vn)))), .second, .val (.int (0 : Int32)), .val (.long (-10000000 : Int64)), .second, .val (.int (6 : Int32))] rfl ?_
       refine s_iinc X0 hx (1 : Int32) (D 30) rfl rfl #[.val (.long ((-(Int64.ofNat vn)))), .second, .val (.int (0 : Int32)), .val (.long (-10000000 : Int64)), .second, .val (.int (7 : Int32))] rfl ?_
       refine s_goto X0 hx 20 (D 31) (by decide) (by decide) ?_
       refine s_iload X0 hx (D 15) rfl ?_
       refine s_bipush X0 hx (19 : Int32) (D 16) rfl ?_
       refine s_icmpNo X0 hx (D 17) (XT.ii_ge_f (by decide)) ?_
       refine s_lloadN X0 hx (D 18) rfl ?_
       refine s_lloadN X0 hx (D 19) rfl ?_
       refine s_lcmp X0 hx (D 20) ?_
       by_cases c30_107 : (-10000000 : Int64) < ((-(Int64.ofNat vn)))
       ·skip
        refine s_ifNo X0 hx (D 21) (XT.ll_le_f c30_107) ?_
        refine s_iload X0 hx (D 22) rfl ?_
        refine s_iloadN X0 hx (D 23) rfl ?_
        refine s_iadd X0 hx (D 24) ?_
        show own_Ok p e below _ (s₁.setTop (mkF m 37 #[.val (.long ((-(Int64.ofNat vn)))), .second, .val (.int (0 : Int32)), .val (.long (-10000000 : Int64)), .second, .val (.int (7 : Int32))] [(.int (7 : Int32))]))
        exact own_retI X0 hx hlk Bd.returns (D 25) (by rw [e0]; exact ⟨congrArg (fun z => some (Value.int z)) (own_ssz (k := 6) (a := (-1000000 : Int64)) hv rfl rfl (Or.inr c30_106) c30_107 rfl), N0, rfl⟩) (by decide) (by decide)
       ·skip
        refine s_ifYes X0 hx 38 (D 21) (XT.ll_le_t c30_107) (by decide) (by decide) ?_
        refine own_st (fun _ k => Jvm.Stand.ldc2J X0 hx hown (mvT hZ (own_hw hw 154 rfl)) rfl (D 26) k) ?_
        show own_Ok p e below _ (s₁.setTop (mkF m 41 #[.val (.long ((-(Int64.ofNat vn)))), .second, .val (.int (0 : Int32)), .val (.long (-10000000 : Int64)), .second, .val (.int (7 : Int32))] [(.long (10 : Int64))]))
        refine s_lloadN X0 hx (D 27) rfl ?_
        refine s_lmul X0 hx (D 28) ?_
        show own_Ok p e below _ (s₁.setTop (mkF m 43 #[.val (.long ((-(Int64.ofNat vn)))), .second, .val (.int (0 : Int32)), .val (.long (-10000000 : Int64)), .second, .val (.int (7 : Int32))] [(.long (-100000000 : Int64))]))
        refine s_lstoreN X0 hx (D 29) #[.val (.long ((-(Int64.ofNat vn)))), .second, .val (.int (0 : Int32)), .val (.long (-100000000 : Int64)), .second, .val (.int (7 : Int32))] rfl ?_
        refine s_iinc X0 hx (1 : Int32) (D 30) rfl rfl #[.val (.long ((-(Int64.ofNat vn)))), .second, .val (.int (0 : Int32)), .val (.long (-100000000 : Int64)), .second, .val (.int (8 : Int32))] rfl ?_
        refine s_goto X0 hx 20 (D 31) (by decide) (by decide) ?_
        refine s_iload X0 hx (D 15) rfl ?_
        refine s_bipush X0 hx (19 : Int32) (D 16) rfl ?_
        refine s_icmpNo X0 hx (D 17) (XT.ii_ge_f (by decide)) ?_
        refine s_lloadN X0 hx (D 18) rfl ?_
        refine s_lloadN X0 hx (D 19) rfl ?_
        refine s_lcmp X0 hx (D 20) ?_
        by_cases c30_108 : (-100000000 : Int64) < ((-(Int64.ofNat vn)))
        ·skip
         refine s_ifNo X0 hx (D 21) (XT.ll_le_f c30_108) ?_
         refine s_iload X0 hx (D 22) rfl ?_
         refine s_iloadN X0 hx (D 23) rfl ?_
         refine s_iadd X0 hx (D 24) ?_
         show own_Ok p e below _ (s₁.setTop (mkF m 37 #[.val (.long ((-(Int64.ofNat vn)))), .second, .val (.int (0 : Int32)), .val (.long (-100000000 : Int64)), .second, .val (.int (8 : Int32))] [(.int (8 : Int32))]))
         exact own_retI X0 hx hlk Bd.returns (D 25) (by rw [e0]; exact ⟨congrArg (fun z => some (Value.int z)) (own_ssz (k := 7) (a := (-10000000 : Int64)) hv rfl rfl (Or.inr c30_107) c30_108 rfl), N0, rfl⟩) (by decide) (by decide)
        ·skip
         refine s_ifYes X0 hx 38 (D 21) (XT.ll_le_t c30_108) (by decide) (by decide) ?_
         refine own_st (fun _ k => Jvm.Stand.ldc2J X0 hx hown (mvT hZ (own_hw hw 154 rfl)) rfl (D 26) k) ?_
         show own_Ok p e below _ (s₁.setTop (mkF m 41 #[.val (.long ((-(Int64.ofNat vn)))), .second, .val (.int (0 : Int32)), .val (.long (-100000000 : Int64)), .second, .val (.int (8 : Int32))] [(.long (10 : Int64))]))
         refine s_lloadN X0 hx (D 27) rfl ?_
         refine s_lmul X0 hx (D 28) ?_
         show own_Ok p e below _ (s₁.setTop (mkF m 43 #[.val (.long ((-(Int64.ofNat vn)))), .second, .val (.int (0 : Int32)), .val (.long (-100000000 : Int64)), .second, .val (.int (8 : Int32))] [(.long (-1000000000 : Int64))]))
         refine s_lstoreN X0 hx (D 29) #[.val (.long ((-(Int64.ofNat vn)))), .second, .val (.int (0 : Int32)), .val (.long (-1000000000 : Int64)), .second, .val (.int (8 : Int32))] rfl ?_
         refine s_iinc X0 hx (1 : Int32) (D 30) rfl rfl #[.val (.long ((-(Int64.ofNat vn)))), .second, .val (.int (0 : Int32)), .val (.long (-1000000000 : Int64)), .second, .val (.int (9 : Int32))] rfl ?_
         refine s_goto X0 hx 20 (D 31) (by decide) (by decide) ?_
         refine s_iload X0 hx (D 15) rfl ?_
         refine s_bipush X0 hx (19 : Int32) (D 16) rfl ?_
         refine s_icmpNo X0 hx (D 17) (XT.ii_ge_f (by decide)) ?_
         refine s_lloadN X0 hx (D 18) rfl ?_
         refine s_lloadN X0 hx (D 19) rfl ?_
         refine s_lcmp X0 hx (D 20) ?_
         refine s_ifNo X0 hx (D 21) (XT.ll_le_f (own_ss9 hv)) ?_
         refine s_iload X0 hx (D 22) rfl ?_
         refine s_iloadN X0 hx (D 23) rfl ?_
         refine s_iadd X0 hx (D 24) ?_
         show own_Ok p e below _ (s₁.setTop (mkF m 37 #[.val (.long ((-(Int64.ofNat vn)))), .second, .val (.int (0 : Int32)), .val (.long (-1000000000 : Int64)), .second, .val (.int (9 : Int32))] [(.int (9 : Int32))]))
         exact own_retI X0 hx hlk Bd.returns (D 25) (by rw [e0]; exact ⟨congrArg (fun z => some (Value.int z)) (own_ssz (k := 8) (a := (-100000000 : Int64)) hv rfl rfl (Or.inr c30_108) (own_ss9 hv) rfl), N0, rfl⟩) (by decide) (by decide)
theorem own_ef_rm_gch (m : MethodId) (vn : Nat) (bz : Addr) : entryFrame m #[(.long (Int64.ofNat vn)), (.int (Int32.ofNat (own_dl vn).length)), (.ref bz)] 11 = mkF m 0 #[.val (.long (Int64.ofNat vn)), .second, .val (.int (Int32.ofNat (own_dl vn).length)), .val (.ref bz), .unset, .unset, .unset, .unset, .unset, .unset, .unset] [] := by first | (simp [entryFrame, mkF, argsToLocals, Value.category]; done) | rfl
def t_rm_gch : List (Nat × Instr × Nat) := [(86, .iload 10, 2), (88, .bipush (-100), 2), (90, .if_icmp .gt 53, 3), (143, .aload_n 3, 1), (144, .iinc 7 (-1), 3), (147, .iload 7, 2), (149, .getstatic 133, 3), (152, .iload 10, 2), (154, .ineg, 1), (155, .baload, 1), (156, .bastore, 1), (157, .iload 10, 2), (159, .bipush (-9), 2), (161, .if_icmp .ge 17, 3), (178, .iload 8, 2), (180, .ifCond .eq 12, 3), (192, .iload 7, 2), (194, .ireturn, 1), (164, .aload_n 3, 1), (165, .iinc 7 (-1), 3), (168, .iload 7, 2), (170, .getstatic 137, 3), (173, .iload 10, 2), (175, .ineg, 1), (176, .baload, 1), (177, .bastore, 1), (93, .iload 10, 2), (95, .bipush 100, 2), (97, .idiv, 1), (98, .istore 9, 2), (100, .iload 9, 2), (102, .bipush 100, 2), (104, .imul, 1), (105, .iload 10, 2), (107, .isub, 1), (108, .istore 6, 2), (110, .iload 9, 2), (112, .istore 10, 2), (114, .aload_n 3, 1), (115, .iinc 7 (-1), 3), (118, .iload 7, 2), (120, .getstatic 133, 3), (123, .iload 6, 2), (125, .baload, 1), (126, .bastore, 1), (127, .aload_n 3, 1), (128, .iinc 7 (-1), 3), (131, .iload 7, 2), (133, .getstatic 137, 3), (136, .iload 6, 2), (138, .baload, 1), (139, .bastore, 1), (140, .goto (-54), 3), (0, .iload_n 2, 1), (1, .istore 7, 2), (3, .lload_n 0, 1), (4, .lconst 0, 1), (5, .lcmp, 1), (6, .ifCond .ge 7, 3), (13, .iconst 0, 1), (14, .istore 8, 2), (16, .iload 8, 2), (18, .ifCond .ne 6, 3), (21, .lload_n 0, 1), (22, .lneg, 1), (23, .lstore_n 0, 1), (24, .lload_n 0, 1), (25, .ldc2_w 129, 3), (28, .lcmp, 1), (29, .ifCond .gt 53, 3), (82, .lload_n 0, 1), (83, .l2i, 1), (84, .istore 10, 2)]
theorem d_rm_gch (i : Nat) : decode jdk_35_method_14_code (t_rm_gch.getD i (86, .iload 10, 2)).1 = .ok (t_rm_gch.getD i (86, .iload 10, 2)).2 := own_dt (by decide +kernel) (List.mem_cons_self ..) i
def Q_rm_gch (Z : State) (od : Addr) (ko : ClassId) (dt : Addr) (kt : ClassId) (vn : Nat) (bz : Addr) (kz : ClassId) (M : Nat) (vs : List Value) (nb : Nat) (h0 : Heap) (n0 : Nat) (v : Option Value) (h : Heap) (L : List Loc) : Prop := v = some (.int (0 : Int32)) ∧ Fr nb L ∧ Keep h0 h [bz] ∧ Arv Z h bz kz .byte (Int32.ofNat M) (own_seg vs 0 (own_dl vn)) (.int (0 : Int32))
set_option maxRecDepth 65536 in
set_option maxHeartbeats 40000000 in
theorem rm_gch (l : Launch) (Z : State) (a0 : Array Value) (hw : ∀ d ∈ tables_1, d.before a0 Z = true) (ws : List Jvm.Cond) (od : Addr) (ko : ClassId) (dt : Addr) (kt : ClassId) (vn : Nat) (bz : Addr) (kz : ClassId) (M : Nat) (vs : List Value) (nb : Nat) (h0 : Heap) (n0 : Nat) (O0 : Old Z n0 h0) (SDO : Sta Z Z.heap "java/lang/Integer" "DigitOnes" "[B" (.ref od)) (VDO : Arv Z Z.heap od ko .byte (100 : Int32) own_ones (.int (0 : Int32))) (SDT : Sta Z Z.heap "java/lang/Integer" "DigitTens" "[B" (.ref dt)) (VDT : Arv Z Z.heap dt kt .byte (100 : Int32) own_tens (.int (0 : Int32))) (hv : vn ≤ 999999999) (VZ : Arv Z h0 bz kz .byte (Int32.ofNat M) vs (.int (0 : Int32))) (hM : vs.length = M) (hM9 : M < 2147483648) (hs : (own_dl vn).length ≤ M) (g1 : nb ≤ bz) (hnb : nb ≤ h0.size) (hnn : n0 ≤ nb) :
    own_Met l Z (⟨"java/lang/Long", "getChars", "(JI[B)I"⟩ : MethodName) jdk_35_method_14_code 11 (some .int) ws ({ frames := 0, cells := 0, slots := 0, locals := 0 } : Room) #[(.long (Int64.ofNat vn)), (.int (Int32.ofNat (own_dl vn).length)), (.ref bz)] h0 (Q_rm_gch Z od ko dt kt vn bz kz M vs nb h0 n0) := by
 refine MetFree.of_bodySF (plainFor_of_name own_pn4) hisR ?_
 intro p e s m args below meth c s₁ Bd hml0 hP hK
 obtain ⟨rfl, hZ, hh⟩ := hP
 have hx := Bd.exec
 have hby := Bd.bytes
 have D := fun i => hb hby (d_rm_gch i)
 have hml : c.maxLocals = 11 := hml0
 have hown : s.vm.findClass "java/lang/Long" = some m.cls := findClass_of_methodNamed Bd.named
 have hnm := (name_of_methodNamed Bd.named Bd.method).1
 have hlk : meth.locks = false := Bd.notSynchronized
 have X0 : Stand p l e ({ frames := 0, cells := 0, slots := 0, locals := 0 } : Room) s m #[(.long (Int64.ofNat vn)), (.int (Int32.ofNat (own_dl vn).length)), (.ref bz)] below meth c s₁ [] 0 0 := Stand.of_body Bd
 have e0 : s₁.heap = h0 := by rw [← hh, Bd.state]; rfl
 have N0 := Fr.nil nb
 suffices hgo : own_Ok p e below (own_Qx s (Q_rm_gch Z od ko dt kt vn bz kz M vs nb h0 n0) 0 0) (s₁.setTop (mkF m 0 #[.val (.long (Int64.ofNat vn)), .second, .val (.int (Int32.ofNat (own_dl vn).length)), .val (.ref bz), .unset, .unset, .unset, .unset, .unset, .unset, .unset] [])) from by
   obtain ⟨s₂, o, h1, h2⟩ := hgo
   exact ⟨s₂, o, castTop (own_ef_rm_gch m vn bz) h1, h2⟩
 have cut86 : ∀ (fuel : Nat), ∀ (T : State) (locs : List Loc) (h : Heap) (wn : Nat) (tl : List Int32) (s6 : Slot) (s9 : Slot) (X : Stand p l e ({ frames := 0, cells := 0, slots := 0, locals := 0 } : Room) s m #[(.long (Int64.ofNat vn)), (.int (Int32.ofNat (own_dl vn).length)), (.ref bz)] below meth c T locs 0 0) (eh : T.heap = h) (N : Fr nb locs) (O : Old Z n0 h) (KK : Keep h0 h [bz]) (cf0 : Arv Z h bz kz .byte (Int32.ofNat M) (own_seg vs (own_dl wn).length tl) (.int (0 : Int32))) (hdl : own_dl vn = own_dl wn ++ tl) (hw9 : wn ≤ 999999999) (hs6 : s6 = .unset ∨ ∃ w, s6 = .val w ∧ w.category = 1) (hs9 : s9 = .unset ∨ ∃ w, s9 = .val w ∧ w.category = 1) (hms : wn = fuel), own_Ok p e below (own_Qx s (Q_rm_gch Z od ko dt kt vn bz kz M vs nb h0 n0) 0 0) (T.setTop (mkF m 86 #[.val (.long ((-(Int64.ofNat vn)))), .second, .val (.int (Int32.ofNat (own_dl vn).length)), .val (.ref bz), .unset, .unset, s6, .val (.int (Int32.ofNat (own_dl wn).length)), .val (.int (0 : Int32)), s9, .val (.int (-(Int32.ofNat wn)))] [])) := by
  intro fuel
  induction fuel using Nat.strongRecOn with
  | ind fuel ih =>
   intro T locs h wn tl s6 s9 X eh N O KK cf0 hdl hw9 hs6 hs9 hms
   show own_Ok p e below _ (T.setTop (mkF m 86 #[.val (.long ((-(Int64.ofNat vn)))), .second, .val (.int (Int32.ofNat (own_dl vn).length)), .val (.ref bz), .unset, .unset, s6, .val (.int (Int32.ofNat (own_dl wn).length)), .val (.int (0 : Int32)), s9, .val (.int (-(Int32.ofNat wn)))] []))
   refine s_iload X hx (D 0) rfl ?_
   refine s_bipush X hx (-100 : Int32) (D 1) rfl ?_
   by_cases c90_101 : (-100 : Int32) < (-(Int32.ofNat wn))
   ·skip
    refine s_icmpYes X hx 143 (D 2) (XT.ii_gt_t c90_101) (by decide) (by decide) ?_
    have hw1 : wn < 100 := (own_lt100 hw9).mp c90_101
    by_cases hw10 : wn < 10
    ·skip
     have hl1 : (own_dl wn).length = 1 := by rw [own_dl1 hw10]; rfl
     rw [show (Int32.ofNat (own_dl wn).length) = (1 : Int32) from by rw [hl1]; rfl]
     show own_Ok p e below _ (T.setTop (mkF m 143 #[.val (.long ((-(Int64.ofNat vn)))), .second, .val (.int (Int32.ofNat (own_dl vn).length)), .val (.ref bz), .unset, .unset, s6, .val (.int (1 : Int32)), .val (.int (0 : Int32)), s9, .val (.int (-(Int32.ofNat wn)))] []))
     have VS102 : Arv Z h bz kz .byte (Int32.ofNat M) (own_seg vs 1 tl) (.int (0 : Int32)) := by rw [← hl1]; exact cf0
     have hsl := hdl ▸ hs
     rw [List.length_append, hl1] at hsl
     refine s_aloadN X hx (D 3) rfl rfl ?_
     refine s_iinc X hx (-1 : Int32) (D 4) rfl rfl #[.val (.long ((-(Int64.ofNat vn)))), .second, .val (.int (Int32.ofNat (own_dl vn).length)), .val (.ref bz), .unset, .unset, s6, .val (.int (0 : Int32)), .val (.int (0 : Int32)), s9, .val (.int (-(Int32.ofNat wn)))] rfl ?_
     refine s_iload X hx (D 5) rfl ?_
     obtain ⟨T103, X103, e103, st103⟩ := getS2 X hx hZ hown (host := "") (Or.inl (own_hw hw 160 rfl)) Via.refl eh (SDO.ext O.2) (g := (mkF m 149 #[.val (.long ((-(Int64.ofNat vn)))), .second, .val (.int (Int32.ofNat (own_dl vn).length)), .val (.ref bz), .unset, .unset, s6, .val (.int (0 : Int32)), .val (.int (0 : Int32)), s9, .val (.int (-(Int32.ofNat wn)))] [(.int (0 : Int32)), (.ref bz)])) rfl (D 6)
     refine own_st st103 ?_
     show own_Ok p e below _ (T103.setTop (mkF m 152 #[.val (.long ((-(Int64.ofNat vn)))), .second, .val (.int (Int32.ofNat (own_dl vn).length)), .val (.ref bz), .unset, .unset, s6, .val (.int (0 : Int32)), .val (.int (0 : Int32)), s9, .val (.int (-(Int32.ofNat wn)))] [(.ref od), (.int (0 : Int32)), (.ref bz)]))
     refine s_iload X103 hx (D 7) rfl ?_
     refine s_ineg X103 hx (D 8) ?_
     rw [show ((-(-(Int32.ofNat wn)))) = (Int32.ofNat wn) from own_nneg hw9]
     show own_Ok p e below _ (T103.setTop (mkF m 155 #[.val (.long ((-(Int64.ofNat vn)))), .second, .val (.int (Int32.ofNat (own_dl vn).length)), .val (.ref bz), .unset, .unset, s6, .val (.int (0 : Int32)), .val (.int (0 : Int32)), s9, .val (.int (-(Int32.ofNat wn)))] [(.int (Int32.ofNat wn)), (.ref od), (.int (0 : Int32)), (.ref bz)]))
     refine l_B X103 hx hZ e103 (VDO.ext O.2) (v := (Int32.ofNat (48 + wn % 10))) (own_n0N (by omega)) (own_Nlt (b := 100) (by omega) (by decide) (by omega)) (own_onesG (by omega)) (D 9) ?_
     refine t_Bn X103 hx hZ e103 VS102 0 rfl (by decide) (own_Nlt (a := 0) (by decide) hM9 (by omega)) (by rw [own_segl (by omega)]; omega) (own_narb (by omega)) N g1 (D 10) fun T104 h104 X104 e104 W104 V104 N104 => ?_
     have VS105 : Arv Z h104 bz kz .byte (Int32.ofNat M) (own_seg vs 0 ((Int32.ofNat (48 + wn % 10)) :: tl)) (.int (0 : Int32)) := by rw [← own_segS (p := 1) rfl (by omega)]; exact V104
     refine s_iload X104 hx (D 11) rfl ?_
     refine s_bipush X104 hx (-9 : Int32) (D 12) rfl ?_
     refine s_icmpYes X104 hx 178 (D 13) (XT.ii_ge_t (fun q => (own_lt9 hw9).mp q hw10)) (by decide) (by decide) ?_
     refine s_iload X104 hx (D 14) rfl ?_
     refine s_ifYes X104 hx 192 (D 15) (XT.i0_eq_t (by decide)) (by decide) (by decide) ?_
     refine s_iload X104 hx (D 16) rfl ?_
     have hfin : own_dl vn = ((Int32.ofNat (48 + wn % 10)) :: tl) := by rw [hdl, own_dl1 hw10, show wn % 10 = wn by omega]; rfl
     have VF : Arv Z h104 bz kz .byte (Int32.ofNat M) (own_seg vs 0 (own_dl vn)) (.int (0 : Int32)) := by rw [hfin]; exact VS105
     have f106 := KK.wr W104 (Or.inl (by simp))
     exact own_retI X104 hx hlk Bd.returns (D 17) (by rw [e104]; exact ⟨rfl, N104, f106, VF⟩) (by decide) (by decide)
    ·skip
     have hl1 : (own_dl wn).length = 2 := by rw [own_dlB hw10 hw1]; rfl
     rw [show (Int32.ofNat (own_dl wn).length) = (2 : Int32) from by rw [hl1]; rfl]
     show own_Ok p e below _ (T.setTop (mkF m 143 #[.val (.long ((-(Int64.ofNat vn)))), .second, .val (.int (Int32.ofNat (own_dl vn).length)), .val (.ref bz), .unset, .unset, s6, .val (.int (2 : Int32)), .val (.int (0 : Int32)), s9, .val (.int (-(Int32.ofNat wn)))] []))
     have VS107 : Arv Z h bz kz .byte (Int32.ofNat M) (own_seg vs 2 tl) (.int (0 : Int32)) := by rw [← hl1]; exact cf0
     have hsl := hdl ▸ hs
     rw [List.length_append, hl1] at hsl
     refine s_aloadN X hx (D 3) rfl rfl ?_
     refine s_iinc X hx (-1 : Int32) (D 4) rfl rfl #[.val (.long ((-(Int64.ofNat vn)))), .second, .val (.int (Int32.ofNat (own_dl vn).length)), .val (.ref bz), .unset, .unset, s6, .val (.int (1 : Int32)), .val (.int (0 : Int32)), s9, .val (.int (-(Int32.ofNat wn)))] rfl ?_
     refine s_iload X hx (D 5) rfl ?_
     obtain ⟨T108, X108, e108, st108⟩ := getS2 X hx hZ hown (host := "") (Or.inl (own_hw hw 160 rfl)) Via.refl eh (SDO.ext O.2) (g := (mkF m 149 #[.val (.long ((-(Int64.ofNat vn)))), .second, .val (.int (Int32.ofNat (own_dl vn).length)), .val (.ref bz), .unset, .unset, s6, .val (.int (1 : Int32)), .val (.int (0 : Int32)), s9, .val (.int (-(Int32.ofNat wn)))] [(.int (1 : Int32)), (.ref bz)])) rfl (D 6)
     refine own_st st108 ?_
     show own_Ok p e below _ (T108.setTop (mkF m 152 #[.val (.long ((-(Int64.ofNat vn)))), .second, .val (.int (Int32.ofNat (own_dl vn).length)), .val (.ref bz), .unset, .unset, s6, .val (.int (1 : Int32)), .val (.int (0 : Int32)), s9, .val (.int (-(Int32.ofNat wn)))] [(.ref od), (.int (1 : Int32)), (.ref bz)]))
     refine s_iload X108 hx (D 7) rfl ?_
     refine s_ineg X108 hx (D 8) ?_
     rw [show ((-(-(Int32.ofNat wn)))) = (Int32.ofNat wn) from own_nneg hw9]
     show own_Ok p e below _ (T108.setTop (mkF m 155 #[.val (.long ((-(Int64.ofNat vn)))), .second, .val (.int (Int32.ofNat (own_dl vn).length)), .val (.ref bz), .unset, .unset, s6, .val (.int (1 : Int32)), .val (.int (0 : Int32)), s9, .val (.int (-(Int32.ofNat wn)))] [(.int (Int32.ofNat wn)), (.ref od), (.int (1 : Int32)), (.ref bz)]))
     refine l_B X108 hx hZ e108 (VDO.ext O.2) (v := (Int32.ofNat (48 + wn % 10))) (own_n0N (by omega)) (own_Nlt (b := 100) (by omega) (by decide) (by omega)) (own_onesG (by omega)) (D 9) ?_
     refine t_Bn X108 hx hZ e108 VS107 1 rfl (by decide) (own_Nlt (a := 1) (by decide) hM9 (by omega)) (by rw [own_segl (by omega)]; omega) (own_narb (by omega)) N g1 (D 10) fun T109 h109 X109 e109 W109 V109 N109 => ?_
     have VS110 : Arv Z h109 bz kz .byte (Int32.ofNat M) (own_seg vs 1 ((Int32.ofNat (48 + wn % 10)) :: tl)) (.int (0 : Int32)) := by rw [← own_segS (p := 2) rfl (by omega)]; exact V109
     refine s_iload X109 hx (D 11) rfl ?_
     refine s_bipush X109 hx (-9 : Int32) (D 12) rfl ?_
     refine s_icmpNo X109 hx (D 13) (XT.ii_ge_f ((own_lt9 hw9).mpr hw10)) ?_
     refine s_aloadN X109 hx (D 18) rfl rfl ?_
     refine s_iinc X109 hx (-1 : Int32) (D 19) rfl rfl #[.val (.long ((-(Int64.ofNat vn)))), .second, .val (.int (Int32.ofNat (own_dl vn).length)), .val (.ref bz), .unset, .unset, s6, .val (.int (0 : Int32)), .val (.int (0 : Int32)), s9, .val (.int (-(Int32.ofNat wn)))] rfl ?_
     refine s_iload X109 hx (D 20) rfl ?_
     have f112 := O.wr W109 (Nat.le_trans hnn g1)
     obtain ⟨T111, X111, e111, st111⟩ := getS2 X109 hx hZ hown (host := "") (Or.inl (own_hw hw 162 rfl)) Via.refl e109 (SDT.ext f112.2) (g := (mkF m 170 #[.val (.long ((-(Int64.ofNat vn)))), .second, .val (.int (Int32.ofNat (own_dl vn).length)), .val (.ref bz), .unset, .unset, s6, .val (.int (0 : Int32)), .val (.int (0 : Int32)), s9, .val (.int (-(Int32.ofNat wn)))] [(.int (0 : Int32)), (.ref bz)])) rfl (D 21)
     refine own_st st111 ?_
     show own_Ok p e below _ (T111.setTop (mkF m 173 #[.val (.long ((-(Int64.ofNat vn)))), .second, .val (.int (Int32.ofNat (own_dl vn).length)), .val (.ref bz), .unset, .unset, s6, .val (.int (0 : Int32)), .val (.int (0 : Int32)), s9, .val (.int (-(Int32.ofNat wn)))] [(.ref dt), (.int (0 : Int32)), (.ref bz)]))
     refine s_iload X111 hx (D 22) rfl ?_
     refine s_ineg X111 hx (D 23) ?_
     rw [show ((-(-(Int32.ofNat wn)))) = (Int32.ofNat wn) from own_nneg hw9]
     show own_Ok p e below _ (T111.setTop (mkF m 176 #[.val (.long ((-(Int64.ofNat vn)))), .second, .val (.int (Int32.ofNat (own_dl vn).length)), .val (.ref bz), .unset, .unset, s6, .val (.int (0 : Int32)), .val (.int (0 : Int32)), s9, .val (.int (-(Int32.ofNat wn)))] [(.int (Int32.ofNat wn)), (.ref dt), (.int (0 : Int32)), (.ref bz)]))
     refine l_B X111 hx hZ e111 (VDT.ext f112.2) (v := (Int32.ofNat (48 + wn / 10))) (own_n0N (by omega)) (own_Nlt (b := 100) (by omega) (by decide) (by omega)) (own_tensG (by omega)) (D 24) ?_
     refine t_Bn X111 hx hZ e111 VS110 0 rfl (by decide) (own_Nlt (a := 0) (by decide) hM9 (by omega)) (by rw [own_segl (by simp only [List.length_cons]; omega)]; omega) (own_narb (by omega)) N109 g1 (D 25) fun T113 h113 X113 e113 W113 V113 N113 => ?_
     have VS114 : Arv Z h113 bz kz .byte (Int32.ofNat M) (own_seg vs 0 ((Int32.ofNat (48 + wn / 10)) :: (Int32.ofNat (48 + wn % 10)) :: tl)) (.int (0 : Int32)) := by rw [← own_segS (p := 1) rfl (by simp only [List.length_cons]; omega)]; exact V113
     refine s_iload X113 hx (D 14) rfl ?_
     refine s_ifYes X113 hx 192 (D 15) (XT.i0_eq_t (by decide)) (by decide) (by decide) ?_
     refine s_iload X113 hx (D 16) rfl ?_
     have hfin : own_dl vn = ((Int32.ofNat (48 + wn / 10)) :: (Int32.ofNat (48 + wn % 10)) :: tl) := by rw [hdl, own_dlB hw10 hw1]; rfl
     have VF : Arv Z h113 bz kz .byte (Int32.ofNat M) (own_seg vs 0 (own_dl vn)) (.int (0 : Int32)) := by rw [hfin]; exact VS114
     have f115 := KK.wr W109 (Or.inl (by simp))
     have f116 := f115.wr W113 (Or.inl (by simp))
     exact own_retI X113 hx hlk Bd.returns (D 17) (by rw [e113]; exact ⟨rfl, N113, f116, VF⟩) (by decide) (by decide)
   ·skip
    refine s_icmpNo X hx (D 2) (XT.ii_gt_f c90_101) ?_
    have hw1 : ¬ wn < 100 := fun q => c90_101 ((own_lt100 hw9).mpr q)
    have hl1 := own_dlT (w := wn) (by omega)
    have hl2 := own_dlH hw1
    have hsl := hdl ▸ hs
    rw [List.length_append] at hsl
    refine s_iload X hx (D 26) rfl ?_
    refine s_bipush X hx (100 : Int32) (D 27) rfl ?_
    refine s_idiv X hx (D 28) (by decide) ?_
    rw [show ((-(Int32.ofNat wn)) / (100 : Int32)) = (-(Int32.ofNat (wn / 100))) from own_q100 hw9]
    show own_Ok p e below _ (T.setTop (mkF m 98 #[.val (.long ((-(Int64.ofNat vn)))), .second, .val (.int (Int32.ofNat (own_dl vn).length)), .val (.ref bz), .unset, .unset, s6, .val (.int (Int32.ofNat (own_dl wn).length)), .val (.int (0 : Int32)), s9, .val (.int (-(Int32.ofNat wn)))] [(.int (-(Int32.ofNat (wn / 100))))]))
    refine own_st (fun _ k => XS.istoreS X.here hx rfl (D 29) rfl (o := s9) rfl hs9 k) ?_
    show own_Ok p e below _ (T.setTop (mkF m 100 #[.val (.long ((-(Int64.ofNat vn)))), .second, .val (.int (Int32.ofNat (own_dl vn).length)), .val (.ref bz), .unset, .unset, s6, .val (.int (Int32.ofNat (own_dl wn).length)), .val (.int (0 : Int32)), .val (.int (-(Int32.ofNat (wn / 100)))), .val (.int (-(Int32.ofNat wn)))] []))
    refine s_iload X hx (D 30) rfl ?_
    refine s_bipush X hx (100 : Int32) (D 31) rfl ?_
    refine s_imul X hx (D 32) ?_
    refine s_iload X hx (D 33) rfl ?_
    refine s_isub X hx (D 34) ?_
    rw [show (((-(Int32.ofNat (wn / 100))) * (100 : Int32)) - (-(Int32.ofNat wn))) = (Int32.ofNat (wn % 100)) from own_r100 hw9]
    show own_Ok p e below _ (T.setTop (mkF m 108 #[.val (.long ((-(Int64.ofNat vn)))), .second, .val (.int (Int32.ofNat (own_dl vn).length)), .val (.ref bz), .unset, .unset, s6, .val (.int (Int32.ofNat (own_dl wn).length)), .val (.int (0 : Int32)), .val (.int (-(Int32.ofNat (wn / 100)))), .val (.int (-(Int32.ofNat wn)))] [(.int (Int32.ofNat (wn % 100)))]))
    refine own_st (fun _ k => XS.istoreS X.here hx rfl (D 35) rfl (o := s6) rfl hs6 k) ?_
    show own_Ok p e below _ (T.setTop (mkF m 110 #[.val (.long ((-(Int64.ofNat vn)))), .second, .val (.int (Int32.ofNat (own_dl vn).length)), .val (.ref bz), .unset, .unset, .val (.int (Int32.ofNat (wn % 100))), .val (.int (Int32.ofNat (own_dl wn).length)), .val (.int (0 : Int32)), .val (.int (-(Int32.ofNat (wn / 100)))), .val (.int (-(Int32.ofNat wn)))] []))
    refine s_iload X hx (D 36) rfl ?_
    refine s_istore X hx (D 37) #[.val (.long ((-(Int64.ofNat vn)))), .second, .val (.int (Int32.ofNat (own_dl vn).length)), .val (.ref bz), .unset, .unset, .val (.int (Int32.ofNat (wn % 100))), .val (.int (Int32.ofNat (own_dl wn).length)), .val (.int (0 : Int32)), .val (.int (-(Int32.ofNat (wn / 100)))), .val (.int (-(Int32.ofNat (wn / 100))))] rfl ?_
    refine s_aloadN X hx (D 38) rfl rfl ?_
    refine s_iinc X hx (-1 : Int32) (D 39) rfl rfl #[.val (.long ((-(Int64.ofNat vn)))), .second, .val (.int (Int32.ofNat (own_dl vn).length)), .val (.ref bz), .unset, .unset, .val (.int (Int32.ofNat (wn % 100))), .val (.int ((Int32.ofNat (own_dl wn).length) + (-1 : Int32))), .val (.int (0 : Int32)), .val (.int (-(Int32.ofNat (wn / 100)))), .val (.int (-(Int32.ofNat (wn / 100))))] rfl ?_
    rw [show ((Int32.ofNat (own_dl wn).length) + (-1 : Int32)) = (Int32.ofNat (own_dl (wn / 10)).length) from own_decN hl1 (by omega)]
    show own_Ok p e below _ (T.setTop (mkF m 118 #[.val (.long ((-(Int64.ofNat vn)))), .second, .val (.int (Int32.ofNat (own_dl vn).length)), .val (.ref bz), .unset, .unset, .val (.int (Int32.ofNat (wn % 100))), .val (.int (Int32.ofNat (own_dl (wn / 10)).length)), .val (.int (0 : Int32)), .val (.int (-(Int32.ofNat (wn / 100)))), .val (.int (-(Int32.ofNat (wn / 100))))] [(.ref bz)]))
    refine s_iload X hx (D 40) rfl ?_
    obtain ⟨T117, X117, e117, st117⟩ := getS2 X hx hZ hown (host := "") (Or.inl (own_hw hw 160 rfl)) Via.refl eh (SDO.ext O.2) (g := (mkF m 120 #[.val (.long ((-(Int64.ofNat vn)))), .second, .val (.int (Int32.ofNat (own_dl vn).length)), .val (.ref bz), .unset, .unset, .val (.int (Int32.ofNat (wn % 100))), .val (.int (Int32.ofNat (own_dl (wn / 10)).length)), .val (.int (0 : Int32)), .val (.int (-(Int32.ofNat (wn / 100)))), .val (.int (-(Int32.ofNat (wn / 100))))] [(.int (Int32.ofNat (own_dl (wn / 10)).length)), (.ref bz)])) rfl (D 41)
    refine own_st st117 ?_
    show own_Ok p e below _ (T117.setTop (mkF m 123 #[.val (.long ((-(Int64.ofNat vn)))), .second, .val (.int (Int32.ofNat (own_dl vn).length)), .val (.ref bz), .unset, .unset, .val (.int (Int32.ofNat (wn % 100))), .val (.int (Int32.ofNat (own_dl (wn / 10)).length)), .val (.int (0 : Int32)), .val (.int (-(Int32.ofNat (wn / 100)))), .val (.int (-(Int32.ofNat (wn / 100))))] [(.ref od), (.int (Int32.ofNat (own_dl (wn / 10)).length)), (.ref bz)]))
    refine s_iload X117 hx (D 42) rfl ?_
    refine l_B X117 hx hZ e117 (VDO.ext O.2) (v := (Int32.ofNat (48 + wn % 100 % 10))) (own_n0N (by omega)) (own_Nlt (b := 100) (by omega) (by decide) (by omega)) (own_onesG (by omega)) (D 43) ?_
    refine t_Bn X117 hx hZ e117 cf0 (own_dl (wn / 10)).length (own_tnc (own_oN (by omega))) (own_n0N (by omega)) (own_Nlt (by omega) hM9 (by omega)) (by rw [own_segl (by omega)]; omega) (own_narb (by omega)) N g1 (D 44) fun T118 h118 X118 e118 W118 V118 N118 => ?_
    have VS119 : Arv Z h118 bz kz .byte (Int32.ofNat M) (own_seg vs (own_dl (wn / 10)).length ((Int32.ofNat (48 + wn % 100 % 10)) :: tl)) (.int (0 : Int32)) := by rw [← own_segS hl1 (by omega)]; exact V118
    refine s_aloadN X118 hx (D 45) rfl rfl ?_
    refine s_iinc X118 hx (-1 : Int32) (D 46) rfl rfl #[.val (.long ((-(Int64.ofNat vn)))), .second, .val (.int (Int32.ofNat (own_dl vn).length)), .val (.ref bz), .unset, .unset, .val (.int (Int32.ofNat (wn % 100))), .val (.int ((Int32.ofNat (own_dl (wn / 10)).length) + (-1 : Int32))), .val (.int (0 : Int32)), .val (.int (-(Int32.ofNat (wn / 100)))), .val (.int (-(Int32.ofNat (wn / 100))))] rfl ?_
    rw [show ((Int32.ofNat (own_dl (wn / 10)).length) + (-1 : Int32)) = (Int32.ofNat (own_dl (wn / 100)).length) from own_decN hl2 (by omega)]
    show own_Ok p e below _ (T118.setTop (mkF m 131 #[.val (.long ((-(Int64.ofNat vn)))), .second, .val (.int (Int32.ofNat (own_dl vn).length)), .val (.ref bz), .unset, .unset, .val (.int (Int32.ofNat (wn % 100))), .val (.int (Int32.ofNat (own_dl (wn / 100)).length)), .val (.int (0 : Int32)), .val (.int (-(Int32.ofNat (wn / 100)))), .val (.int (-(Int32.ofNat (wn / 100))))] [(.ref bz)]))
    refine s_iload X118 hx (D 47) rfl ?_
    have f121 := O.wr W118 (Nat.le_trans hnn g1)
    obtain ⟨T120, X120, e120, st120⟩ := getS2 X118 hx hZ hown (host := "") (Or.inl (own_hw hw 162 rfl)) Via.refl e118 (SDT.ext f121.2) (g := (mkF m 133 #[.val (.long ((-(Int64.ofNat vn)))), .second, .val (.int (Int32.ofNat (own_dl vn).length)), .val (.ref bz), .unset, .unset, .val (.int (Int32.ofNat (wn % 100))), .val (.int (Int32.ofNat (own_dl (wn / 100)).length)), .val (.int (0 : Int32)), .val (.int (-(Int32.ofNat (wn / 100)))), .val (.int (-(Int32.ofNat (wn / 100))))] [(.int (Int32.ofNat (own_dl (wn / 100)).length)), (.ref bz)])) rfl (D 48)
    refine own_st st120 ?_
    show own_Ok p e below _ (T120.setTop (mkF m 136 #[.val (.long ((-(Int64.ofNat vn)))), .second, .val (.int (Int32.ofNat (own_dl vn).length)), .val (.ref bz), .unset, .unset, .val (.int (Int32.ofNat (wn % 100))), .val (.int (Int32.ofNat (own_dl (wn / 100)).length)), .val (.int (0 : Int32)), .val (.int (-(Int32.ofNat (wn / 100)))), .val (.int (-(Int32.ofNat (wn / 100))))] [(.ref dt), (.int (Int32.ofNat (own_dl (wn / 100)).length)), (.ref bz)]))
    refine s_iload X120 hx (D 49) rfl ?_
    refine l_B X120 hx hZ e120 (VDT.ext f121.2) (v := (Int32.ofNat (48 + wn % 100 / 10))) (own_n0N (by omega)) (own_Nlt (b := 100) (by omega) (by decide) (by omega)) (own_tensG (by omega)) (D 50) ?_
    refine t_Bn X120 hx hZ e120 VS119 (own_dl (wn / 100)).length (own_tnc (own_oN (by omega))) (own_n0N (by omega)) (own_Nlt (by omega) hM9 (by omega)) (by rw [own_segl (by simp only [List.length_cons]; omega)]; omega) (own_narb (by omega)) N118 g1 (D 51) fun T122 h122 X122 e122 W122 V122 N122 => ?_
    have VS123 : Arv Z h122 bz kz .byte (Int32.ofNat M) (own_seg vs (own_dl (wn / 100)).length ((Int32.ofNat (48 + wn % 100 / 10)) :: (Int32.ofNat (48 + wn % 100 % 10)) :: tl)) (.int (0 : Int32)) := by rw [← own_segS hl2 (by simp only [List.length_cons]; omega)]; exact V122
    refine s_goto X122 hx 86 (D 52) (by decide) (by decide) ?_
    have f124 := f121.wr W122 (Nat.le_trans hnn g1)
    have f125 := KK.wr W118 (Or.inl (by simp))
    have f126 := f125.wr W122 (Or.inl (by simp))
    exact ih _ (by omega) _ _ _ ((wn / 100)) (((Int32.ofNat (48 + wn % 100 / 10)) :: (Int32.ofNat (48 + wn % 100 % 10)) :: tl)) ((.val (.int (Int32.ofNat (wn % 100))))) ((.val (.int (-(Int32.ofNat (wn / 100)))))) X122 e122 N122 f124 f126 VS123 (by rw [hdl, own_dl100 hw1, List.append_assoc]; rfl) (by omega) ((Or.inr ⟨_, rfl, rfl⟩)) ((Or.inr ⟨_, rfl, rfl⟩)) rfl
 show own_Ok p e below _ (s₁.setTop (mkF m 0 #[.val (.long (Int64.ofNat vn)), .second, .val (.int (Int32.ofNat (own_dl vn).length)), .val (.ref bz), .unset, .unset, .unset, .unset, .unset, .unset, .unset] []))
 refine s_iloadN X0 hx (D 53) rfl ?_
 refine s_istore X0 hx (D 54) #[.val (.long (Int64.ofNat vn)), .second, .val (.int (Int32.ofNat (own_dl vn).length)), .val (.ref bz), .unset, .unset, .unset, .val (.int (Int32.ofNat (own_dl vn).length)), .unset, .unset, .unset] rfl ?_
 refine s_lloadN X0 hx (D 55) rfl ?_
 refine s_lconst X0 hx (0 : Int64) (D 56) rfl ?_
 refine s_lcmp X0 hx (D 57) ?_
 refine s_ifYes X0 hx 13 (D 58) (XT.ll_ge_t (own_nn hv)) (by decide) (by decide) ?_
 refine s_iconst X0 hx (0 : Int32) (D 59) rfl ?_
 refine s_istore X0 hx (D 60) #[.val (.long (Int64.ofNat vn)), .second, .val (.int (Int32.ofNat (own_dl vn).length)), .val (.ref bz), .unset, .unset, .unset, .val (.int (Int32.ofNat (own_dl vn).length)), .val (.int (0 : Int32)), .unset, .unset] rfl ?_
 refine s_iload X0 hx (D 61) rfl ?_
 refine s_ifNo X0 hx (D 62) (XT.i0_ne_f (by decide)) ?_
 refine s_lloadN X0 hx (D 63) rfl ?_
 refine s_lneg X0 hx (D 64) ?_
 refine s_lstoreN X0 hx (D 65) #[.val (.long ((-(Int64.ofNat vn)))), .second, .val (.int (Int32.ofNat (own_dl vn).length)), .val (.ref bz), .unset, .unset, .unset, .val (.int (Int32.ofNat (own_dl vn).length)), .val (.int (0 : Int32)), .unset, .unset] rfl ?_
 refine s_lloadN X0 hx (D 66) rfl ?_
 refine own_st (fun _ k => Jvm.Stand.ldc2J X0 hx hown (mvT hZ (own_hw hw 159 rfl)) rfl (D 67) k) ?_
 show own_Ok p e below _ (s₁.setTop (mkF m 28 #[.val (.long ((-(Int64.ofNat vn)))), .second, .val (.int (Int32.ofNat (own_dl vn).length)), .val (.ref bz), .unset, .unset, .unset, .val (.int (Int32.ofNat (own_dl vn).length)), .val (.int (0 : Int32)), .unset, .unset] [(.long (-2147483648 : Int64)), (.long ((-(Int64.ofNat vn))))]))
 refine s_lcmp X0 hx (D 68) ?_
 refine s_ifYes X0 hx 82 (D 69) (XT.ll_gt_t (own_ltmin hv)) (by decide) (by decide) ?_
 refine s_lloadN X0 hx (D 70) rfl ?_
 refine s_l2i X0 hx (D 71) ?_
 rw [show (((-(Int64.ofNat vn))).toInt32) = (-(Int32.ofNat vn)) from own_i2n hv]
 show own_Ok p e below _ (s₁.setTop (mkF m 84 #[.val (.long ((-(Int64.ofNat vn)))), .second, .val (.int (Int32.ofNat (own_dl vn).length)), .val (.ref bz), .unset, .unset, .unset, .val (.int (Int32.ofNat (own_dl vn).length)), .val (.int (0 : Int32)), .unset, .unset] [(.int (-(Int32.ofNat vn)))]))
 refine s_istore X0 hx (D 72) #[.val (.long ((-(Int64.ofNat vn)))), .second, .val (.int (Int32.ofNat (own_dl vn).length)), .val (.ref bz), .unset, .unset, .unset, .val (.int (Int32.ofNat (own_dl vn).length)), .val (.int (0 : Int32)), .unset, .val (.int (-(Int32.ofNat vn)))] rfl ?_
 have hz0 := own_seg0 vs (own_dl vn).length
 have VS127 : Arv Z h0 bz kz .byte (Int32.ofNat M) (own_seg vs (own_dl vn).length ([] : List Int32)) (.int (0 : Int32)) := by rw [hz0]; exact VZ
 exact cut86 _ _ _ _ vn (([] : List Int32)) .unset .unset X0 e0 N0 O0 ((Keep.refl h0 [bz])) VS127 ((List.append_nil _).symm) hv ((Or.inl rfl)) ((Or.inl rfl)) rfl
theorem own_ef_rm_ibb (m : MethodId) (a1 : Addr) (t1 : Addr) : entryFrame m #[(.ref a1), (.ref t1), (.int (0 : Int32))] 3 = mkF m 0 #[.val (.ref a1), .val (.ref t1), .val (.int (0 : Int32))] [] := by first | (simp [entryFrame, mkF, argsToLocals, Value.category]; done) | rfl
def t_rm_ibb : List (Nat × Instr × Nat) := [(0, .aload_n 0, 1), (1, .invokespecial 1, 3), (4, .aload_n 0, 1), (5, .aload_n 1, 1), (6, .putfield 9, 3), (9, .aload_n 0, 1), (10, .iload_n 2, 1), (11, .putfield 15, 3), (14, .return_, 1)]
theorem d_rm_ibb (i : Nat) : decode jdk_42_method_151_code (t_rm_ibb.getD i (0, .aload_n 0, 1)).1 = .ok (t_rm_ibb.getD i (0, .aload_n 0, 1)).2 := own_dt (by decide +kernel) (List.mem_cons_self ..) i
def Q_rm_ibb (Z : State) (a1 : Addr) (t1 : Addr) (nb : Nat) (h0 : Heap) (n0 : Nat) (v : Option Value) (h : Heap) (L : List Loc) : Prop := v = none ∧ Fr nb L ∧ Keep h0 h [a1] ∧ Exa Z h a1 "java/lang/String" ∧ Fld Z h a1 "java/lang/String" "coder" "B" (.int (0 : Int32)) ∧ Fld Z h a1 "java/lang/String" "value" "[B" (.ref t1)
set_option maxRecDepth 65536 in
set_option maxHeartbeats 40000000 in
theorem rm_ibb (l : Launch) (Z : State) (a0 : Array Value) (hw : ∀ d ∈ tables_1, d.before a0 Z = true) (ws : List Jvm.Cond) (a1 : Addr) (t1 : Addr) (nb : Nat) (h0 : Heap) (n0 : Nat) (O0 : Old Z n0 h0) (E1 : Exa Z h0 a1 "java/lang/String") (F1 : Fld Z h0 a1 "java/lang/String" "coder" "B" (.int (0 : Int32))) (F2 : Fld Z h0 a1 "java/lang/String" "value" "[B" .null) (g1 : nb ≤ a1) (hnb : nb ≤ h0.size) (hnn : n0 ≤ nb) :
    own_Met l Z (⟨"java/lang/String", "<init>", "([BB)V"⟩ : MethodName) jdk_42_method_151_code 3 none ws ({ frames := 1, cells := 0, slots := 0, locals := 12 } : Room) #[(.ref a1), (.ref t1), (.int (0 : Int32))] h0 (Q_rm_ibb Z a1 t1 nb h0 n0) := by
 refine MetFree.of_bodySF (plainFor_of_name own_pn1) hisR ?_
 intro p e s m args below meth c s₁ Bd hml0 hP hK
 obtain ⟨rfl, hZ, hh⟩ := hP
 have hx := Bd.exec
 have hby := Bd.bytes
 have D := fun i => hb hby (d_rm_ibb i)
 have hml : c.maxLocals = 3 := hml0
 have hown : s.vm.findClass "java/lang/String" = some m.cls := findClass_of_methodNamed Bd.named
 have hnm := (name_of_methodNamed Bd.named Bd.method).1
 have hlk : meth.locks = false := Bd.notSynchronized
 have X0 : Stand p l e ({ frames := 1, cells := 0, slots := 0, locals := 12 } : Room) s m #[(.ref a1), (.ref t1), (.int (0 : Int32))] below meth c s₁ [] 0 0 := Stand.of_body Bd
 have e0 : s₁.heap = h0 := by rw [← hh, Bd.state]; rfl
 have N0 := Fr.nil nb
 suffices hgo : own_Ok p e below (own_Qx s (Q_rm_ibb Z a1 t1 nb h0 n0) 0 0) (s₁.setTop (mkF m 0 #[.val (.ref a1), .val (.ref t1), .val (.int (0 : Int32))] [])) from by
   obtain ⟨s₂, o, h1, h2⟩ := hgo
   exact ⟨s₂, o, castTop (own_ef_rm_ibb m a1 t1) h1, h2⟩
 show own_Ok p e below _ (s₁.setTop (mkF m 0 #[.val (.ref a1), .val (.ref t1), .val (.int (0 : Int32))] []))
 refine s_aloadN X0 hx (D 0) rfl rfl ?_
 obtain ⟨T101, X101, e101, st101⟩ := initO X0 hx hZ hown (own_hw hw 39 rfl) (own_hw hw 40 rfl) (own_hw hw 41 rfl) e0 (g := (mkF m 1 #[.val (.ref a1), .val (.ref t1), .val (.int (0 : Int32))] [(.ref a1)])) rfl (by rw [hml]; rfl) rfl (D 1) (by decide) (W := 0) (by show 2 * 0 + _ ≤ _; exact Nat.le_of_eq rfl) (by decide)
 refine own_st st101 ?_
 show own_Ok p e below _ (T101.setTop (mkF m 4 #[.val (.ref a1), .val (.ref t1), .val (.int (0 : Int32))] []))
 refine s_aloadN X101 hx (D 2) rfl rfl ?_
 refine s_aloadN X101 hx (D 3) rfl rfl ?_
 obtain ⟨T102, h102, X102, e102, W102, st102⟩ := putF X101 hx hZ hown (host := "") (Or.inl (own_hw hw 56 rfl)) Via.refl e101 F2 E1 (Or.inr ⟨(own_hw hw 57 rfl), rfl, hnm⟩) (own_hw hw 30 rfl) (ty := (.array .byte)) (by decide) rfl rfl (g := (mkF m 6 #[.val (.ref a1), .val (.ref t1), .val (.int (0 : Int32))] [(.ref t1), (.ref a1)])) rfl rfl (D 4)
 refine own_st st102 ?_
 have F102 := F2.same W102
 have N102 := Fr.snoc X102 N0 g1
 show own_Ok p e below _ (T102.setTop (mkF m 9 #[.val (.ref a1), .val (.ref t1), .val (.int (0 : Int32))] []))
 refine s_aloadN X102 hx (D 5) rfl rfl ?_
 refine s_iloadN X102 hx (D 6) rfl ?_
 have f103 := E1.wr W102
 have f104 := F1.other W102 (Or.inr (slot_ne (Or.inr (own_hw hw 55 rfl)) (Or.inr (own_hw hw 57 rfl)) (by decide) (t := .byte) (t' := (.array .byte)) (by decide) (by decide)))
 obtain ⟨T105, h105, X105, e105, W105, st105⟩ := putFN X102 hx hZ hown (own_hw hw 54 rfl) Via.refl e102 f104 f103 (Or.inr ⟨(own_hw hw 55 rfl), rfl, hnm⟩) (own_hw hw 30 rfl) (ty := .byte) (v' := (.int (0 : Int32))) (by decide) rfl (by decide) (g := (mkF m 11 #[.val (.ref a1), .val (.ref t1), .val (.int (0 : Int32))] [(.int (0 : Int32)), (.ref a1)])) rfl rfl (D 7)
 refine own_st st105 ?_
 have F105 := f104.same W105
 have N105 := Fr.snoc X105 N102 g1
 show own_Ok p e below _ (T105.setTop (mkF m 14 #[.val (.ref a1), .val (.ref t1), .val (.int (0 : Int32))] []))
 have f106 := (Keep.refl h0 [a1]).wr W102 (Or.inl (by simp))
 have f107 := f106.wr W105 (Or.inl (by simp))
 have f108 := f103.wr W105
 have f109 := F102.other W105 (Or.inr (slot_ne (Or.inr (own_hw hw 57 rfl)) (Or.inr (own_hw hw 55 rfl)) (by decide) (t := (.array .byte)) (t' := .byte) (by decide) (by decide)))
 exact own_retV X105 hx hlk Bd.returns (D 8) (by rw [e105]; exact ⟨rfl, N105, f107, f108, F105, f109⟩) (by decide) (by decide)
theorem own_pd16 : parseMethodDescriptor "(J)I" = some ⟨[.long], some .int⟩ := by decide +kernel
theorem own_pd17 : parseMethodDescriptor "(JI[B)I" = some ⟨[.long, .int, (.array .byte)], some .int⟩ := by decide +kernel
theorem own_pd18 : parseMethodDescriptor "([BB)V" = some ⟨[(.array .byte), .byte], none⟩ := by decide +kernel
theorem own_ef_rm_lts (m : MethodId) (vn : Nat) : entryFrame m #[(.long (Int64.ofNat vn))] 4 = mkF m 0 #[.val (.long (Int64.ofNat vn)), .second, .unset, .unset] [] := by first | (simp [entryFrame, mkF, argsToLocals, Value.category]; done) | rfl
def t_rm_lts : List (Nat × Instr × Nat) := [(0, .lload_n 0, 1), (1, .invokestatic 118, 3), (4, .istore_n 2, 1), (5, .getstatic 13, 3), (8, .ifCond .eq 24, 3), (11, .iload_n 2, 1), (12, .newarray .byte, 2), (14, .astore_n 3, 1), (15, .lload_n 0, 1), (16, .iload_n 2, 1), (17, .aload_n 3, 1), (18, .invokestatic 121, 3), (21, .pop, 1), (22, .new 5, 3), (25, .dup, 1), (26, .aload_n 3, 1), (27, .iconst 0, 1), (28, .invokespecial 112, 3), (31, .areturn, 1)]
theorem d_rm_lts (i : Nat) : decode jdk_35_method_12_code (t_rm_lts.getD i (0, .lload_n 0, 1)).1 = .ok (t_rm_lts.getD i (0, .lload_n 0, 1)).2 := own_dt (by decide +kernel) (List.mem_cons_self ..) i
def Q_rm_lts (Z : State) (G1 : Int32) (od : Addr) (ko : ClassId) (dt : Addr) (kt : ClassId) (vn : Nat) (nb : Nat) (h0 : Heap) (n0 : Nat) (v : Option Value) (h : Heap) (L : List Loc) : Prop := ∃ (az : Addr), ∃ (tz : Addr), ∃ (kz : ClassId), v = some (.ref az) ∧ Fr nb L ∧ Keep h0 h [] ∧ Exa Z h az "java/lang/String" ∧ Fld Z h az "java/lang/String" "coder" "B" (.int (0 : Int32)) ∧ Fld Z h az "java/lang/String" "value" "[B" (.ref tz) ∧ Arv Z h tz kz .byte (Int32.ofNat (own_dl vn).length) ((own_dl vn).map Value.int) (.int (0 : Int32)) ∧ h0.size ≤ az ∧ h0.size ≤ tz
set_option maxRecDepth 65536 in
set_option maxHeartbeats 40000000 in
theorem rm_lts (l : Launch) (Z : State) (a0 : Array Value) (hw : ∀ d ∈ tables_1, d.before a0 Z = true) (ws : List Jvm.Cond) (G1 : Int32) (od : Addr) (ko : ClassId) (dt : Addr) (kt : ClassId) (vn : Nat) (nb : Nat) (h0 : Heap) (n0 : Nat) (O0 : Old Z n0 h0) (SG1 : Sta Z Z.heap "java/lang/String" "COMPACT_STRINGS" "Z" (.int G1)) (PG1 : ¬ (G1 = (0 : Int32))) (SDO : Sta Z Z.heap "java/lang/Integer" "DigitOnes" "[B" (.ref od)) (VDO : Arv Z Z.heap od ko .byte (100 : Int32) own_ones (.int (0 : Int32))) (SDT : Sta Z Z.heap "java/lang/Integer" "DigitTens" "[B" (.ref dt)) (VDT : Arv Z Z.heap dt kt .byte (100 : Int32) own_tens (.int (0 : Int32))) (hv : vn ≤ 999999999) (hnb : nb ≤ h0.size) (hnn : n0 ≤ nb) :
    own_Met l Z (⟨"java/lang/Long", "toString", "(J)Ljava/lang/String;"⟩ : MethodName) jdk_35_method_12_code 4 (some (.object "java/lang/String")) ws ({ frames := 2, cells := 2, slots := 13, locals := 27 } : Room) #[(.long (Int64.ofNat vn))] h0 (Q_rm_lts Z G1 od ko dt kt vn nb h0 n0) := by
 refine MetFree.of_bodySF (plainFor_of_name own_pn4) hisR ?_
 intro p e s m args below meth c s₁ Bd hml0 hP hK
 obtain ⟨rfl, hZ, hh⟩ := hP
 have hx := Bd.exec
 have hby := Bd.bytes
 have D := fun i => hb hby (d_rm_lts i)
 have hml : c.maxLocals = 4 := hml0
 have hown : s.vm.findClass "java/lang/Long" = some m.cls := findClass_of_methodNamed Bd.named
 have hnm := (name_of_methodNamed Bd.named Bd.method).1
 have hlk : meth.locks = false := Bd.notSynchronized
 have X0 : Stand p l e ({ frames := 2, cells := 2, slots := 13, locals := 27 } : Room) s m #[(.long (Int64.ofNat vn))] below meth c s₁ [] 0 0 := Stand.of_body Bd
 have e0 : s₁.heap = h0 := by rw [← hh, Bd.state]; rfl
 have N0 := Fr.nil nb
 suffices hgo : own_Ok p e below (own_Qx s (Q_rm_lts Z G1 od ko dt kt vn nb h0 n0) 2 13) (s₁.setTop (mkF m 0 #[.val (.long (Int64.ofNat vn)), .second, .unset, .unset] [])) from by
   obtain ⟨s₂, o, h1, h2⟩ := hgo
   exact ⟨s₂, o, castTop (own_ef_rm_lts m vn) h1, h2⟩
 have hd9 := own_dl9 hv
 show own_Ok p e below _ (s₁.setTop (mkF m 0 #[.val (.long (Int64.ofNat vn)), .second, .unset, .unset] []))
 refine s_lloadN X0 hx (D 0) rfl ?_
 obtain ⟨_, T101, Lc101, X101, hQ101, st101⟩ := own_callS X0 hx hZ hown (own_hw hw 150 rfl) (own_hw hw 151 rfl) (own_hw hw 148 rfl) (own_hw hw 152 rfl) (rm_ssz l Z a0 hw [] vn nb h0 n0 O0 hv (Nat.le_trans hnb (Keep.refl h0 []).1) hnn) (by decide) e0 (Ls := #[.val (.long (Int64.ofNat vn)), .second, .unset, .unset]) [(.long (Int64.ofNat vn))] [] rfl (by rw [hml]; rfl) (lenOf own_pd16 rfl) (D 1) (by decide) 0 rfl (by decide) (by decide) (by decide)
 obtain ⟨rfl, Nq101, e101⟩ := hQ101
 have N101 := Fr.app N0 Nq101
 refine st101 _ ?_
 refine s_istoreN X101 hx (D 2) #[.val (.long (Int64.ofNat vn)), .second, .val (.int (Int32.ofNat (own_dl vn).length)), .unset] rfl ?_
 obtain ⟨T102, X102, e102, st102⟩ := getS2 X101 hx hZ hown (host := "") (Or.inl (own_hw hw 155 rfl)) Via.refl e101 (SG1.ext O0.2) (g := (mkF m 5 #[.val (.long (Int64.ofNat vn)), .second, .val (.int (Int32.ofNat (own_dl vn).length)), .unset] [])) rfl (D 3)
 refine own_st st102 ?_
 show own_Ok p e below _ (T102.setTop (mkF m 8 #[.val (.long (Int64.ofNat vn)), .second, .val (.int (Int32.ofNat (own_dl vn).length)), .unset] [(.int G1)]))
 refine s_ifNo X102 hx (D 4) (XT.i0_eq_f PG1) ?_
 refine s_iloadN X102 hx (D 5) rfl ?_
 obtain ⟨T103, h103, k103, X103, e103, E103, A103, st103⟩ := newP X102 hx hZ (own_hw hw 47 rfl) e102 (g := (mkF m 12 #[.val (.long (Int64.ofNat vn)), .second, .val (.int (Int32.ofNat (own_dl vn).length)), .unset] [(.int (Int32.ofNat (own_dl vn).length))])) rfl (D 6) rfl (own_n0N (by omega)) (cap := 9) (by rw [own_tnc (own_oN (by omega))]; exact hd9) (by decide) (by decide) (by decide)
 obtain ⟨b103, g103⟩ : ∃ z, z = h0.size := ⟨_, rfl⟩
 rw [← g103] at A103 st103
 refine own_st st103 ?_
 have gb_b103 : n0 ≤ b103 := Nat.le_trans (own_n0 O0) (Nat.le_of_eq g103.symm)
 have gz_b103 : h0.size ≤ b103 := Nat.le_trans (Keep.refl h0 []).1 (Nat.le_of_eq g103.symm)
 have ne_od_b103 : od ≠ b103 := Old.ne O0 VDO.lt gb_b103
 have ne_dt_b103 : dt ≠ b103 := Old.ne O0 VDT.lt gb_b103
 have V103 : Arv Z h103 b103 k103 .byte (Int32.ofNat (own_dl vn).length) (List.replicate ((Int32.ofNat (own_dl vn).length)).toNatClampNeg (.int (0 : Int32))) (.int (0 : Int32)) := (Arv.new A103 (own_n0N (by omega))).pad (pad_rep [] (.int (0 : Int32)) _)
 show own_Ok p e below _ (T103.setTop (mkF m 14 #[.val (.long (Int64.ofNat vn)), .second, .val (.int (Int32.ofNat (own_dl vn).length)), .unset] [(.ref b103)]))
 refine s_astoreN X103 hx (D 7) rfl #[.val (.long (Int64.ofNat vn)), .second, .val (.int (Int32.ofNat (own_dl vn).length)), .val (.ref b103)] rfl ?_
 refine s_lloadN X103 hx (D 8) rfl ?_
 refine s_iloadN X103 hx (D 9) rfl ?_
 refine s_aloadN X103 hx (D 10) rfl rfl ?_
 have hrl : ((List.replicate ((Int32.ofNat (own_dl vn).length)).toNatClampNeg (.int (0 : Int32))) : List Value).length = (own_dl vn).length := by rw [List.length_replicate, own_tnc (own_oN (by omega))]
 have f105 := (Keep.refl h0 []).ext E103
 have f106 := O0.ext E103
 obtain ⟨_, T104, Lc104, X104, hQ104, st104⟩ := own_callS X103 hx hZ hown (own_hw hw 156 rfl) (own_hw hw 157 rfl) (own_hw hw 148 rfl) (own_hw hw 158 rfl) (rm_gch l Z a0 hw [] od ko dt kt vn b103 k103 ((own_dl vn).length) ((List.replicate ((Int32.ofNat (own_dl vn).length)).toNatClampNeg (.int (0 : Int32)))) nb h103 n0 f106 SDO VDO SDT VDT hv V103 hrl (by omega) (Nat.le_refl _) (Nat.le_trans hnb gz_b103) (Nat.le_trans hnb f105.1) hnn) (by decide) e103 (Ls := #[.val (.long (Int64.ofNat vn)), .second, .val (.int (Int32.ofNat (own_dl vn).length)), .val (.ref b103)]) [(.long (Int64.ofNat vn)), (.int (Int32.ofNat (own_dl vn).length)), (.ref b103)] [] rfl (by rw [hml]; rfl) (lenOf own_pd17 rfl) (D 11) (by decide) 0 rfl (by decide) (by decide) (by decide)
 obtain ⟨rfl, Nq104, K104, g104_0⟩ := hQ104
 have N104 := Fr.app N101 Nq104
 refine st104 _ ?_
 have e104 : T104.heap = T104.heap := rfl
 show own_Ok p e below _ (T104.setTop (mkF m 21 #[.val (.long (Int64.ofNat vn)), .second, .val (.int (Int32.ofNat (own_dl vn).length)), .val (.ref b103)] [(.int (0 : Int32))]))
 have VL : Arv Z T104.heap b103 k103 .byte (Int32.ofNat (own_dl vn).length) ((own_dl vn).map Value.int) (.int (0 : Int32)) := by rw [← own_segF (hrl.symm)]; exact g104_0
 show own_Ok p e below _ (T104.setTop (mkF m 21 #[.val (.long (Int64.ofNat vn)), .second, .val (.int (Int32.ofNat (own_dl vn).length)), .val (.ref b103)] [(.int (0 : Int32))]))
 refine s_pop X104 hx (D 12) rfl ?_
 obtain ⟨T107, h107, X107, e107, E107, A107, D107, -, st107⟩ := newO X104 hx hZ hown (own_hw hw 163 rfl) (own_hw hw 30 rfl) (own_hw hw 31 rfl) e104 (g := (mkF m 22 #[.val (.long (Int64.ofNat vn)), .second, .val (.int (Int32.ofNat (own_dl vn).length)), .val (.ref b103)] [])) rfl (D 13) (by decide) (by decide)
 obtain ⟨b107, g107⟩ : ∃ z, z = T104.heap.size := ⟨_, rfl⟩
 rw [← g107] at A107 D107 st107
 refine own_st st107 ?_
 have f108 := f106.keep K104 (allS gb_b103 all0)
 have gb_b107 : n0 ≤ b107 := Nat.le_trans (own_n0 f108) (Nat.le_of_eq g107.symm)
 have f109 := f105.trans K104 (allS (Or.inr gz_b103) all0)
 have gz_b107 : h0.size ≤ b107 := Nat.le_trans f109.1 (Nat.le_of_eq g107.symm)
 have ne_b103_b107 : b103 ≠ b107 := Nat.ne_of_lt (Nat.lt_of_lt_of_le VL.lt (Nat.le_of_eq g107.symm))
 have ne_od_b107 : od ≠ b107 := Old.ne f108 VDO.lt gb_b107
 have ne_dt_b107 : dt ≠ b107 := Old.ne f108 VDT.lt gb_b107
 have F107_coder : Fld Z h107 b107 "java/lang/String" "coder" "B" (.int (0 : Int32)) := D107 (Or.inr (own_hw hw 55 rfl)) (ty := .byte) (by decide)
 have F107_value : Fld Z h107 b107 "java/lang/String" "value" "[B" .null := D107 (Or.inr (own_hw hw 57 rfl)) (ty := (.array .byte)) (by decide)
 show own_Ok p e below _ (T107.setTop (mkF m 25 #[.val (.long (Int64.ofNat vn)), .second, .val (.int (Int32.ofNat (own_dl vn).length)), .val (.ref b103)] [(.ref b107)]))
 refine s_dup X107 hx (D 14) rfl ?_
 refine s_aloadN X107 hx (D 15) rfl rfl ?_
 refine s_iconst X107 hx (0 : Int32) (D 16) rfl ?_
 have f111 := f109.ext E107
 have f112 := f108.ext E107
 obtain ⟨_, T110, Lc110, X110, hQ110, st110⟩ := own_callN X107 hx hZ hown (own_hw hw 164 rfl) (own_hw hw 165 rfl) (own_hw hw 31 rfl) (own_hw hw 166 rfl) (rm_ibb l Z a0 hw [] b107 b103 nb h107 n0 f112 A107 F107_coder F107_value (Nat.le_trans hnb gz_b107) (Nat.le_trans hnb f111.1) hnn) rfl (by decide) e107 (Ls := #[.val (.long (Int64.ofNat vn)), .second, .val (.int (Int32.ofNat (own_dl vn).length)), .val (.ref b103)]) b107 [(.ref b103), (.int (0 : Int32))] [(.ref b107)] rfl (by rw [hml]; rfl) (lenOf own_pd18 rfl) (D 17) (by decide) 1 rfl (by decide) (by decide) (by decide)
 obtain ⟨rfl, Nq110, K110, g110_0, g110_1, g110_2⟩ := hQ110
 have N110 := Fr.app N104 Nq110
 refine st110 _ ?_
 have e110 : T110.heap = T110.heap := rfl
 have f113 := f111.trans K110 (allS (Or.inr gz_b107) all0)
 have f114 := VL.ext E107
 have f115 := f114.keep K110 (ninS ne_b103_b107 nin0)
 exact own_retA X110 hx hlk (t := (.object "java/lang/String")) rfl Bd.returns rfl (D 18) (by rw [e110]; exact ⟨b107, b103, k103, rfl, N110, f113, g110_0, g110_1, g110_2, f115, gz_b107, gz_b103⟩) (by decide) (by decide)
theorem own_ef_rm_asi (m : MethodId) (a1 : Addr) : entryFrame m #[(.ref a1), (.int (16 : Int32))] 2 = mkF m 0 #[.val (.ref a1), .val (.int (16 : Int32))] [] := by first | (simp [entryFrame, mkF, argsToLocals, Value.category]; done) | rfl
def t_rm_asi : List (Nat × Instr × Nat) := [(0, .aload_n 0, 1), (1, .invokespecial 3, 3), (4, .getstatic 18, 3), (7, .ifCond .eq 18, 3), (10, .aload_n 0, 1), (11, .iload_n 1, 1), (12, .newarray .byte, 2), (14, .putfield 15, 3), (17, .aload_n 0, 1), (18, .iconst 0, 1), (19, .putfield 22, 3), (22, .goto 16, 3), (38, .return_, 1)]
theorem d_rm_asi (i : Nat) : decode jdk_68_method_2_code (t_rm_asi.getD i (0, .aload_n 0, 1)).1 = .ok (t_rm_asi.getD i (0, .aload_n 0, 1)).2 := own_dt (by decide +kernel) (List.mem_cons_self ..) i
def Q_rm_asi (Z : State) (G1 : Int32) (a1 : Addr) (nb : Nat) (h0 : Heap) (n0 : Nat) (v : Option Value) (h : Heap) (L : List Loc) : Prop := ∃ (bz : Addr), ∃ (kz : ClassId), v = none ∧ Fr nb L ∧ Keep h0 h [a1] ∧ Exa Z h a1 "java/lang/StringBuilder" ∧ Fld Z h a1 "java/lang/AbstractStringBuilder" "value" "[B" (.ref bz) ∧ Fld Z h a1 "java/lang/AbstractStringBuilder" "coder" "B" (.int (0 : Int32)) ∧ Fld Z h a1 "java/lang/AbstractStringBuilder" "count" "I" (.int (0 : Int32)) ∧ Exa Z h bz "[B" ∧ Arv Z h bz kz .byte (16 : Int32) (own_sb ([] : List Int32)) (.int (0 : Int32)) ∧ h0.size ≤ bz
theorem own_pn5 : plainName "java/lang/AbstractStringBuilder" = true := by first | (simp [plainName, overriddenIn]; done) | decide +kernel
set_option maxRecDepth 65536 in
set_option maxHeartbeats 40000000 in
theorem rm_asi (l : Launch) (Z : State) (a0 : Array Value) (hw : ∀ d ∈ tables_1, d.before a0 Z = true) (ws : List Jvm.Cond) (G1 : Int32) (a1 : Addr) (nb : Nat) (h0 : Heap) (n0 : Nat) (O0 : Old Z n0 h0) (SG1 : Sta Z Z.heap "java/lang/String" "COMPACT_STRINGS" "Z" (.int G1)) (PG1 : ¬ (G1 = (0 : Int32))) (E1 : Exa Z h0 a1 "java/lang/StringBuilder") (F1 : Fld Z h0 a1 "java/lang/AbstractStringBuilder" "coder" "B" (.int (0 : Int32))) (F2 : Fld Z h0 a1 "java/lang/AbstractStringBuilder" "value" "[B" .null) (F3 : Fld Z h0 a1 "java/lang/AbstractStringBuilder" "count" "I" (.int (0 : Int32))) (g1 : nb ≤ a1) (hnb : nb ≤ h0.size) (hnn : n0 ≤ nb) :
    own_Met l Z (⟨"java/lang/AbstractStringBuilder", "<init>", "(I)V"⟩ : MethodName) jdk_68_method_2_code 2 none ws ({ frames := 1, cells := 1, slots := 16, locals := 12 } : Room) #[(.ref a1), (.int (16 : Int32))] h0 (Q_rm_asi Z G1 a1 nb h0 n0) := by
 refine MetFree.of_bodySF (plainFor_of_name own_pn5) hisR ?_
 intro p e s m args below meth c s₁ Bd hml0 hP hK
 obtain ⟨rfl, hZ, hh⟩ := hP
 have hx := Bd.exec
 have hby := Bd.bytes
 have D := fun i => hb hby (d_rm_asi i)
 have hml : c.maxLocals = 2 := hml0
 have hown : s.vm.findClass "java/lang/AbstractStringBuilder" = some m.cls := findClass_of_methodNamed Bd.named
 have hnm := (name_of_methodNamed Bd.named Bd.method).1
 have hlk : meth.locks = false := Bd.notSynchronized
 have X0 : Stand p l e ({ frames := 1, cells := 1, slots := 16, locals := 12 } : Room) s m #[(.ref a1), (.int (16 : Int32))] below meth c s₁ [] 0 0 := Stand.of_body Bd
 have e0 : s₁.heap = h0 := by rw [← hh, Bd.state]; rfl
 have N0 := Fr.nil nb
 suffices hgo : own_Ok p e below (own_Qx s (Q_rm_asi Z G1 a1 nb h0 n0) 1 16) (s₁.setTop (mkF m 0 #[.val (.ref a1), .val (.int (16 : Int32))] [])) from by
   obtain ⟨s₂, o, h1, h2⟩ := hgo
   exact ⟨s₂, o, castTop (own_ef_rm_asi m a1) h1, h2⟩
 show own_Ok p e below _ (s₁.setTop (mkF m 0 #[.val (.ref a1), .val (.int (16 : Int32))] []))
 refine s_aloadN X0 hx (D 0) rfl rfl ?_
 obtain ⟨T101, X101, e101, st101⟩ := initO X0 hx hZ hown (own_hw hw 179 rfl) (own_hw hw 40 rfl) (own_hw hw 41 rfl) e0 (g := (mkF m 1 #[.val (.ref a1), .val (.int (16 : Int32))] [(.ref a1)])) rfl (by rw [hml]; rfl) rfl (D 1) (by decide) (W := 0) (by show 2 * 0 + _ ≤ _; exact Nat.le_of_eq rfl) (by decide)
 refine own_st st101 ?_
 show own_Ok p e below _ (T101.setTop (mkF m 4 #[.val (.ref a1), .val (.int (16 : Int32))] []))
 obtain ⟨T102, X102, e102, st102⟩ := getS2 X101 hx hZ hown (host := "") (Or.inl (own_hw hw 180 rfl)) Via.refl e101 (SG1.ext O0.2) (g := (mkF m 4 #[.val (.ref a1), .val (.int (16 : Int32))] [])) rfl (D 2)
 refine own_st st102 ?_
 show own_Ok p e below _ (T102.setTop (mkF m 7 #[.val (.ref a1), .val (.int (16 : Int32))] [(.int G1)]))
 refine s_ifNo X102 hx (D 3) (XT.i0_eq_f PG1) ?_
 refine s_aloadN X102 hx (D 4) rfl rfl ?_
 refine s_iloadN X102 hx (D 5) rfl ?_
 obtain ⟨T103, h103, k103, X103, e103, E103, A103, Y103, st103⟩ := newPE X102 hx hZ (own_hw hw 47 rfl) e102 (g := (mkF m 12 #[.val (.ref a1), .val (.int (16 : Int32))] [(.int (16 : Int32)), (.ref a1)])) rfl (D 6) rfl (by decide) (cap := 16) (by decide) (by decide) (by decide) (by decide) (ad := "[B") (by decide)
 obtain ⟨b103, g103⟩ : ∃ z, z = h0.size := ⟨_, rfl⟩
 rw [← g103] at A103 Y103 st103
 refine own_st st103 ?_
 have gb_b103 : n0 ≤ b103 := Nat.le_trans (own_n0 O0) (Nat.le_of_eq g103.symm)
 have gz_b103 : h0.size ≤ b103 := Nat.le_trans (Keep.refl h0 [a1]).1 (Nat.le_of_eq g103.symm)
 have ne_a1_b103 : a1 ≠ b103 := Nat.ne_of_lt (Nat.lt_of_lt_of_le E1.lt (Nat.le_of_eq g103.symm))
 have V103 : Arv Z h103 b103 k103 .byte (16 : Int32) [(.int (0 : Int32)), (.int (0 : Int32)), (.int (0 : Int32)), (.int (0 : Int32)), (.int (0 : Int32)), (.int (0 : Int32)), (.int (0 : Int32)), (.int (0 : Int32)), (.int (0 : Int32)), (.int (0 : Int32)), (.int (0 : Int32)), (.int (0 : Int32)), (.int (0 : Int32)), (.int (0 : Int32)), (.int (0 : Int32)), (.int (0 : Int32))] (.int (0 : Int32)) := (Arv.new A103 (by decide)).pad (pad_rep [] (.int (0 : Int32)) 16)
 show own_Ok p e below _ (T103.setTop (mkF m 14 #[.val (.ref a1), .val (.int (16 : Int32))] [(.ref b103), (.ref a1)]))
 have f104 := E1.ext E103
 have f105 := F2.ext E103
 obtain ⟨T106, h106, X106, e106, W106, st106⟩ := putF X103 hx hZ hown (host := "") (Or.inl (own_hw hw 181 rfl)) Via.refl e103 f105 f104 (Or.inl (own_hw hw 182 rfl)) (own_hw hw 168 rfl) (ty := (.array .byte)) (by decide) rfl rfl (g := (mkF m 14 #[.val (.ref a1), .val (.int (16 : Int32))] [(.ref b103), (.ref a1)])) rfl rfl (D 7)
 refine own_st st106 ?_
 have F106 := f105.same W106
 have N106 := Fr.snoc X106 N0 g1
 show own_Ok p e below _ (T106.setTop (mkF m 17 #[.val (.ref a1), .val (.int (16 : Int32))] []))
 refine s_aloadN X106 hx (D 8) rfl rfl ?_
 refine s_iconst X106 hx (0 : Int32) (D 9) rfl ?_
 have f107 := f104.wr W106
 have f108 := F1.ext E103
 have f109 := f108.other W106 (Or.inr (slot_ne (Or.inl (own_hw hw 184 rfl)) (Or.inl (own_hw hw 182 rfl)) (by decide) (t := .byte) (t' := (.array .byte)) (by decide) (by decide)))
 obtain ⟨T110, h110, X110, e110, W110, st110⟩ := putFN X106 hx hZ hown (own_hw hw 183 rfl) Via.refl e106 f109 f107 (Or.inl (own_hw hw 184 rfl)) (own_hw hw 168 rfl) (ty := .byte) (v' := (.int (0 : Int32))) (by decide) rfl (by decide) (g := (mkF m 19 #[.val (.ref a1), .val (.int (16 : Int32))] [(.int (0 : Int32)), (.ref a1)])) rfl rfl (D 10)
 refine own_st st110 ?_
 have F110 := f109.same W110
 have N110 := Fr.snoc X110 N106 g1
 show own_Ok p e below _ (T110.setTop (mkF m 22 #[.val (.ref a1), .val (.int (16 : Int32))] []))
 refine s_goto X110 hx 38 (D 11) (by decide) (by decide) ?_
 have f111 := (Keep.refl h0 [a1]).ext E103
 have f112 := f111.wr W106 (Or.inl (by simp))
 have f113 := f112.wr W110 (Or.inl (by simp))
 have f114 := f107.wr W110
 have f115 := F106.other W110 (Or.inr (slot_ne (Or.inl (own_hw hw 182 rfl)) (Or.inl (own_hw hw 184 rfl)) (by decide) (t := (.array .byte)) (t' := .byte) (by decide) (by decide)))
 have f116 := F3.ext E103
 have f117 := f116.other W106 (Or.inr (slot_ne (Or.inl (own_hw hw 196 rfl)) (Or.inl (own_hw hw 182 rfl)) (by decide) (t := .int) (t' := (.array .byte)) (by decide) (by decide)))
 have f118 := f117.other W110 (Or.inr (slot_ne (Or.inl (own_hw hw 196 rfl)) (Or.inl (own_hw hw 184 rfl)) (by decide) (t := .int) (t' := .byte) (by decide) (by decide)))
 have f119 := Y103.wr W106
 have f120 := f119.wr W110
 have f121 := V103.other W106 (Ne.symm ne_a1_b103)
 have f122 := f121.other W110 (Ne.symm ne_a1_b103)
 exact own_retV X110 hx hlk Bd.returns (D 12) (by rw [e110]; exact ⟨b103, k103, rfl, N110, f113, f114, f115, F110, f118, f120, f122, gz_b103⟩) (by decide) (by decide)
theorem own_pd19 : parseMethodDescriptor "(I)V" = some ⟨[.int], none⟩ := by decide +kernel
theorem own_ef_rm_sbi (m : MethodId) (a1 : Addr) : entryFrame m #[(.ref a1)] 1 = mkF m 0 #[.val (.ref a1)] [] := by first | (simp [entryFrame, mkF, argsToLocals, Value.category]; done) | rfl
def t_rm_sbi : List (Nat × Instr × Nat) := [(0, .aload_n 0, 1), (1, .bipush 16, 2), (3, .invokespecial 1, 3), (6, .return_, 1)]
theorem d_rm_sbi (i : Nat) : decode jdk_67_method_1_code (t_rm_sbi.getD i (0, .aload_n 0, 1)).1 = .ok (t_rm_sbi.getD i (0, .aload_n 0, 1)).2 := own_dt (by decide +kernel) (List.mem_cons_self ..) i
def Q_rm_sbi (Z : State) (G1 : Int32) (a1 : Addr) (nb : Nat) (h0 : Heap) (n0 : Nat) (v : Option Value) (h : Heap) (L : List Loc) : Prop := ∃ (bz : Addr), ∃ (kz : ClassId), v = none ∧ Fr nb L ∧ Keep h0 h [a1] ∧ Exa Z h a1 "java/lang/StringBuilder" ∧ Fld Z h a1 "java/lang/AbstractStringBuilder" "value" "[B" (.ref bz) ∧ Fld Z h a1 "java/lang/AbstractStringBuilder" "coder" "B" (.int (0 : Int32)) ∧ Fld Z h a1 "java/lang/AbstractStringBuilder" "count" "I" (.int (0 : Int32)) ∧ Exa Z h bz "[B" ∧ Arv Z h bz kz .byte (16 : Int32) (own_sb ([] : List Int32)) (.int (0 : Int32)) ∧ h0.size ≤ bz
theorem own_pn6 : plainName "java/lang/StringBuilder" = true := by first | (simp [plainName, overriddenIn]; done) | decide +kernel
set_option maxRecDepth 65536 in
set_option maxHeartbeats 40000000 in
theorem rm_sbi (l : Launch) (Z : State) (a0 : Array Value) (hw : ∀ d ∈ tables_1, d.before a0 Z = true) (ws : List Jvm.Cond) (G1 : Int32) (a1 : Addr) (nb : Nat) (h0 : Heap) (n0 : Nat) (O0 : Old Z n0 h0) (SG1 : Sta Z Z.heap "java/lang/String" "COMPACT_STRINGS" "Z" (.int G1)) (PG1 : ¬ (G1 = (0 : Int32))) (E1 : Exa Z h0 a1 "java/lang/StringBuilder") (F1 : Fld Z h0 a1 "java/lang/AbstractStringBuilder" "coder" "B" (.int (0 : Int32))) (F2 : Fld Z h0 a1 "java/lang/AbstractStringBuilder" "value" "[B" .null) (F3 : Fld Z h0 a1 "java/lang/AbstractStringBuilder" "count" "I" (.int (0 : Int32))) (g1 : nb ≤ a1) (hnb : nb ≤ h0.size) (hnn : n0 ≤ nb) :
    own_Met l Z (⟨"java/lang/StringBuilder", "<init>", "()V"⟩ : MethodName) jdk_67_method_1_code 1 none ws ({ frames := 2, cells := 1, slots := 16, locals := 25 } : Room) #[(.ref a1)] h0 (Q_rm_sbi Z G1 a1 nb h0 n0) := by
 refine MetFree.of_bodySF (plainFor_of_name own_pn6) hisR ?_
 intro p e s m args below meth c s₁ Bd hml0 hP hK
 obtain ⟨rfl, hZ, hh⟩ := hP
 have hx := Bd.exec
 have hby := Bd.bytes
 have D := fun i => hb hby (d_rm_sbi i)
 have hml : c.maxLocals = 1 := hml0
 have hown : s.vm.findClass "java/lang/StringBuilder" = some m.cls := findClass_of_methodNamed Bd.named
 have hnm := (name_of_methodNamed Bd.named Bd.method).1
 have hlk : meth.locks = false := Bd.notSynchronized
 have X0 : Stand p l e ({ frames := 2, cells := 1, slots := 16, locals := 25 } : Room) s m #[(.ref a1)] below meth c s₁ [] 0 0 := Stand.of_body Bd
 have e0 : s₁.heap = h0 := by rw [← hh, Bd.state]; rfl
 have N0 := Fr.nil nb
 suffices hgo : own_Ok p e below (own_Qx s (Q_rm_sbi Z G1 a1 nb h0 n0) 1 16) (s₁.setTop (mkF m 0 #[.val (.ref a1)] [])) from by
   obtain ⟨s₂, o, h1, h2⟩ := hgo
   exact ⟨s₂, o, castTop (own_ef_rm_sbi m a1) h1, h2⟩
 show own_Ok p e below _ (s₁.setTop (mkF m 0 #[.val (.ref a1)] []))
 refine s_aloadN X0 hx (D 0) rfl rfl ?_
 refine s_bipush X0 hx (16 : Int32) (D 1) rfl ?_
 obtain ⟨_, T101, Lc101, X101, hQ101, st101⟩ := own_callN X0 hx hZ hown (own_hw hw 173 rfl) (own_hw hw 174 rfl) (own_hw hw 177 rfl) (own_hw hw 178 rfl) (rm_asi l Z a0 hw [] G1 a1 nb h0 n0 O0 SG1 PG1 E1 F1 F2 F3 g1 (Nat.le_trans hnb (Keep.refl h0 [a1]).1) hnn) rfl (by decide) e0 (Ls := #[.val (.ref a1)]) a1 [(.int (16 : Int32))] [] rfl (by rw [hml]; rfl) (lenOf own_pd19 rfl) (D 2) (by decide) 0 rfl (by decide) (by decide) (by decide)
 obtain ⟨bz_101, kz_101, rfl, Nq101, K101, g101_0, g101_1, g101_2, g101_3, g101_4, g101_5, gs_bz_101⟩ := hQ101
 have N101 := Fr.app N0 Nq101
 refine st101 _ ?_
 have gb_bz_101 : n0 ≤ bz_101 := Nat.le_trans (own_n0 O0) gs_bz_101
 have gz_bz_101 : h0.size ≤ bz_101 := Nat.le_trans (Keep.refl h0 [a1]).1 gs_bz_101
 have ne_a1_bz_101 : a1 ≠ bz_101 := Nat.ne_of_lt (Nat.lt_of_lt_of_le E1.lt gs_bz_101)
 have e101 : T101.heap = T101.heap := rfl
 have f102 := (Keep.refl h0 [a1]).trans K101 (allS (Or.inl (by simp)) all0)
 exact own_retV X101 hx hlk Bd.returns (D 3) (by rw [e101]; exact ⟨bz_101, kz_101, rfl, N101, f102, g101_0, g101_1, g101_2, g101_3, g101_4, g101_5, gz_bz_101⟩) (by decide) (by decide)
theorem own_ef_rm_ens (m : MethodId) (a1 : Addr) (mm : Nat) : entryFrame m #[(.ref a1), (.int (Int32.ofNat mm))] 3 = mkF m 0 #[.val (.ref a1), .val (.int (Int32.ofNat mm)), .unset] [] := by first | (simp [entryFrame, mkF, argsToLocals, Value.category]; done) | rfl
def t_rm_ens : List (Nat × Instr × Nat) := [(0, .aload_n 0, 1), (1, .getfield 15, 3), (4, .arraylength, 1), (5, .aload_n 0, 1), (6, .getfield 22, 3), (9, .ishr, 1), (10, .istore_n 2, 1), (11, .iload_n 1, 1), (12, .iload_n 2, 1), (13, .isub, 1), (14, .ifCond .le 24, 3), (38, .return_, 1)]
theorem d_rm_ens (i : Nat) : decode jdk_68_method_9_code (t_rm_ens.getD i (0, .aload_n 0, 1)).1 = .ok (t_rm_ens.getD i (0, .aload_n 0, 1)).2 := own_dt (by decide +kernel) (List.mem_cons_self ..) i
def Q_rm_ens (Z : State) (a1 : Addr) (b1 : Addr) (k1 : ClassId) (vs : List Value) (mm : Nat) (nb : Nat) (h0 : Heap) (n0 : Nat) (v : Option Value) (h : Heap) (L : List Loc) : Prop := v = none ∧ Fr nb L ∧ h = h0
set_option maxRecDepth 65536 in
set_option maxHeartbeats 40000000 in
theorem rm_ens (l : Launch) (Z : State) (a0 : Array Value) (hw : ∀ d ∈ tables_1, d.before a0 Z = true) (ws : List Jvm.Cond) (a1 : Addr) (b1 : Addr) (k1 : ClassId) (vs : List Value) (mm : Nat) (nb : Nat) (h0 : Heap) (n0 : Nat) (O0 : Old Z n0 h0) (FV : Fld Z h0 a1 "java/lang/AbstractStringBuilder" "value" "[B" (.ref b1)) (FC : Fld Z h0 a1 "java/lang/AbstractStringBuilder" "coder" "B" (.int (0 : Int32))) (VB : Arv Z h0 b1 k1 .byte (16 : Int32) vs (.int (0 : Int32))) (hm : mm ≤ 16) (hnb : nb ≤ h0.size) (hnn : n0 ≤ nb) :
    own_Met l Z (⟨"java/lang/AbstractStringBuilder", "ensureCapacityInternal", "(I)V"⟩ : MethodName) jdk_68_method_9_code 3 none ws ({ frames := 0, cells := 0, slots := 0, locals := 0 } : Room) #[(.ref a1), (.int (Int32.ofNat mm))] h0 (Q_rm_ens Z a1 b1 k1 vs mm nb h0 n0) := by
 refine MetFree.of_bodySF (plainFor_of_name own_pn5) hisR ?_
 intro p e s m args below meth c s₁ Bd hml0 hP hK
 obtain ⟨rfl, hZ, hh⟩ := hP
 have hx := Bd.exec
 have hby := Bd.bytes
 have D := fun i => hb hby (d_rm_ens i)
 have hml : c.maxLocals = 3 := hml0
 have hown : s.vm.findClass "java/lang/AbstractStringBuilder" = some m.cls := findClass_of_methodNamed Bd.named
 have hnm := (name_of_methodNamed Bd.named Bd.method).1
 have hlk : meth.locks = false := Bd.notSynchronized
 have X0 : Stand p l e ({ frames := 0, cells := 0, slots := 0, locals := 0 } : Room) s m #[(.ref a1), (.int (Int32.ofNat mm))] below meth c s₁ [] 0 0 := Stand.of_body Bd
 have e0 : s₁.heap = h0 := by rw [← hh, Bd.state]; rfl
 have N0 := Fr.nil nb
 suffices hgo : own_Ok p e below (own_Qx s (Q_rm_ens Z a1 b1 k1 vs mm nb h0 n0) 0 0) (s₁.setTop (mkF m 0 #[.val (.ref a1), .val (.int (Int32.ofNat mm)), .unset] [])) from by
   obtain ⟨s₂, o, h1, h2⟩ := hgo
   exact ⟨s₂, o, castTop (own_ef_rm_ens m a1 mm) h1, h2⟩
 show own_Ok p e below _ (s₁.setTop (mkF m 0 #[.val (.ref a1), .val (.int (Int32.ofNat mm)), .unset] []))
 refine s_aloadN X0 hx (D 0) rfl rfl ?_
 obtain ⟨T101, X101, e101, st101⟩ := getF X0 hx hZ hown (host := "") (Or.inl (own_hw hw 181 rfl)) Via.refl e0 FV (g := (mkF m 1 #[.val (.ref a1), .val (.int (Int32.ofNat mm)), .unset] [(.ref a1)])) rfl rfl (D 1)
 refine own_st st101 ?_
 show own_Ok p e below _ (T101.setTop (mkF m 4 #[.val (.ref a1), .val (.int (Int32.ofNat mm)), .unset] [(.ref b1)]))
 refine own_st (own_len X101 hx hZ e101 VB (g := (mkF m 4 #[.val (.ref a1), .val (.int (Int32.ofNat mm)), .unset] [(.ref b1)])) rfl rfl (D 2)) ?_
 show own_Ok p e below _ (T101.setTop (mkF m 5 #[.val (.ref a1), .val (.int (Int32.ofNat mm)), .unset] [(.int (16 : Int32))]))
 refine s_aloadN X101 hx (D 3) rfl rfl ?_
 obtain ⟨T102, X102, e102, st102⟩ := getF X101 hx hZ hown (host := "") (Or.inl (own_hw hw 183 rfl)) Via.refl e101 FC (g := (mkF m 6 #[.val (.ref a1), .val (.int (Int32.ofNat mm)), .unset] [(.ref a1), (.int (16 : Int32))])) rfl rfl (D 4)
 refine own_st st102 ?_
 show own_Ok p e below _ (T102.setTop (mkF m 9 #[.val (.ref a1), .val (.int (Int32.ofNat mm)), .unset] [(.int (0 : Int32)), (.int (16 : Int32))]))
 refine s_ishr X102 hx (D 5) ?_
 show own_Ok p e below _ (T102.setTop (mkF m 10 #[.val (.ref a1), .val (.int (Int32.ofNat mm)), .unset] [(.int (16 : Int32))]))
 refine s_istoreN X102 hx (D 6) #[.val (.ref a1), .val (.int (Int32.ofNat mm)), .val (.int (16 : Int32))] rfl ?_
 refine s_iloadN X102 hx (D 7) rfl ?_
 refine s_iloadN X102 hx (D 8) rfl ?_
 refine s_isub X102 hx (D 9) ?_
 refine s_ifYes X102 hx 38 (D 10) (XT.i0_le_t (own_ens hm)) (by decide) (by decide) ?_
 exact own_retV X102 hx hlk Bd.returns (D 11) (by rw [e102]; exact ⟨rfl, N0, rfl⟩) (by decide) (by decide)
theorem own_ef_rm_ail (m : MethodId) (a1 : Addr) : entryFrame m #[(.ref a1)] 1 = mkF m 0 #[.val (.ref a1)] [] := by first | (simp [entryFrame, mkF, argsToLocals, Value.category]; done) | rfl
def t_rm_ail : List (Nat × Instr × Nat) := [(0, .getstatic 18, 3), (3, .ifCond .eq 14, 3), (6, .aload_n 0, 1), (7, .getfield 22, 3), (10, .ifCond .ne 7, 3), (13, .iconst 1, 1), (14, .goto 4, 3), (18, .ireturn, 1)]
theorem d_rm_ail (i : Nat) : decode jdk_68_method_68_code (t_rm_ail.getD i (0, .getstatic 18, 3)).1 = .ok (t_rm_ail.getD i (0, .getstatic 18, 3)).2 := own_dt (by decide +kernel) (List.mem_cons_self ..) i
def Q_rm_ail (Z : State) (G1 : Int32) (a1 : Addr) (nb : Nat) (h0 : Heap) (n0 : Nat) (v : Option Value) (h : Heap) (L : List Loc) : Prop := v = some (.int (1 : Int32)) ∧ Fr nb L ∧ h = h0
set_option maxRecDepth 65536 in
set_option maxHeartbeats 40000000 in
theorem rm_ail (l : Launch) (Z : State) (a0 : Array Value) (hw : ∀ d ∈ tables_1, d.before a0 Z = true) (ws : List Jvm.Cond) (G1 : Int32) (a1 : Addr) (nb : Nat) (h0 : Heap) (n0 : Nat) (O0 : Old Z n0 h0) (SG1 : Sta Z Z.heap "java/lang/String" "COMPACT_STRINGS" "Z" (.int G1)) (PG1 : ¬ (G1 = (0 : Int32))) (FC : Fld Z h0 a1 "java/lang/AbstractStringBuilder" "coder" "B" (.int (0 : Int32))) (hnb : nb ≤ h0.size) (hnn : n0 ≤ nb) :
    own_Met l Z (⟨"java/lang/AbstractStringBuilder", "isLatin1", "()Z"⟩ : MethodName) jdk_68_method_68_code 1 (some .boolean) ws ({ frames := 0, cells := 0, slots := 0, locals := 0 } : Room) #[(.ref a1)] h0 (Q_rm_ail Z G1 a1 nb h0 n0) := by
 refine MetFree.of_bodySF (plainFor_of_name own_pn5) hisR ?_
 intro p e s m args below meth c s₁ Bd hml0 hP hK
 obtain ⟨rfl, hZ, hh⟩ := hP
 have hx := Bd.exec
 have hby := Bd.bytes
 have D := fun i => hb hby (d_rm_ail i)
 have hml : c.maxLocals = 1 := hml0
 have hown : s.vm.findClass "java/lang/AbstractStringBuilder" = some m.cls := findClass_of_methodNamed Bd.named
 have hnm := (name_of_methodNamed Bd.named Bd.method).1
 have hlk : meth.locks = false := Bd.notSynchronized
 have X0 : Stand p l e ({ frames := 0, cells := 0, slots := 0, locals := 0 } : Room) s m #[(.ref a1)] below meth c s₁ [] 0 0 := Stand.of_body Bd
 have e0 : s₁.heap = h0 := by rw [← hh, Bd.state]; rfl
 have N0 := Fr.nil nb
 suffices hgo : own_Ok p e below (own_Qx s (Q_rm_ail Z G1 a1 nb h0 n0) 0 0) (s₁.setTop (mkF m 0 #[.val (.ref a1)] [])) from by
   obtain ⟨s₂, o, h1, h2⟩ := hgo
   exact ⟨s₂, o, castTop (own_ef_rm_ail m a1) h1, h2⟩
 show own_Ok p e below _ (s₁.setTop (mkF m 0 #[.val (.ref a1)] []))
 obtain ⟨T101, X101, e101, st101⟩ := getS2 X0 hx hZ hown (host := "") (Or.inl (own_hw hw 180 rfl)) Via.refl e0 (SG1.ext O0.2) (g := (mkF m 0 #[.val (.ref a1)] [])) rfl (D 0)
 refine own_st st101 ?_
 show own_Ok p e below _ (T101.setTop (mkF m 3 #[.val (.ref a1)] [(.int G1)]))
 refine s_ifNo X101 hx (D 1) (XT.i0_eq_f PG1) ?_
 refine s_aloadN X101 hx (D 2) rfl rfl ?_
 obtain ⟨T102, X102, e102, st102⟩ := getF X101 hx hZ hown (host := "") (Or.inl (own_hw hw 183 rfl)) Via.refl e101 FC (g := (mkF m 7 #[.val (.ref a1)] [(.ref a1)])) rfl rfl (D 3)
 refine own_st st102 ?_
 show own_Ok p e below _ (T102.setTop (mkF m 10 #[.val (.ref a1)] [(.int (0 : Int32))]))
 refine s_ifNo X102 hx (D 4) (XT.i0_ne_f (by decide)) ?_
 refine s_iconst X102 hx (1 : Int32) (D 5) rfl ?_
 refine s_goto X102 hx 18 (D 6) (by decide) (by decide) ?_
 exact own_retN X102 hx hlk (t := .boolean) Bd.returns (by simp) (D 7) (by rw [e102]; exact ⟨rfl, N0, rfl⟩) (by decide) (by decide)
theorem own_ef_rm_aaj (m : MethodId) (a1 : Addr) (vn : Nat) : entryFrame m #[(.ref a1), (.long (Int64.ofNat vn))] 5 = mkF m 0 #[.val (.ref a1), .val (.long (Int64.ofNat vn)), .second, .unset, .unset] [] := by first | (simp [entryFrame, mkF, argsToLocals, Value.category]; done) | rfl
def t_rm_aaj : List (Nat × Instr × Nat) := [(0, .aload_n 0, 1), (1, .getfield 79, 3), (4, .istore_n 3, 1), (5, .iload_n 3, 1), (6, .lload_n 1, 1), (7, .invokestatic 254, 3), (10, .iadd, 1), (11, .istore 4, 2), (13, .aload_n 0, 1), (14, .iload 4, 2), (16, .invokevirtual 100, 3), (19, .aload_n 0, 1), (20, .invokevirtual 83, 3), (23, .ifCond .eq 17, 3), (26, .lload_n 1, 1), (27, .iload 4, 2), (29, .aload_n 0, 1), (30, .getfield 15, 3), (33, .invokestatic 259, 3), (36, .pop, 1), (37, .goto 15, 3), (52, .aload_n 0, 1), (53, .iload 4, 2), (55, .putfield 79, 3), (58, .aload_n 0, 1), (59, .areturn, 1)]
theorem d_rm_aaj (i : Nat) : decode jdk_68_method_33_code (t_rm_aaj.getD i (0, .aload_n 0, 1)).1 = .ok (t_rm_aaj.getD i (0, .aload_n 0, 1)).2 := own_dt (by decide +kernel) (List.mem_cons_self ..) i
def Q_rm_aaj (Z : State) (G1 : Int32) (od : Addr) (ko : ClassId) (dt : Addr) (kt : ClassId) (a1 : Addr) (b1 : Addr) (k1 : ClassId) (vn : Nat) (nb : Nat) (h0 : Heap) (n0 : Nat) (v : Option Value) (h : Heap) (L : List Loc) : Prop := v = some (.ref a1) ∧ Fr nb L ∧ Keep h0 h [a1, b1] ∧ Exa Z h a1 "java/lang/StringBuilder" ∧ Fld Z h a1 "java/lang/AbstractStringBuilder" "value" "[B" (.ref b1) ∧ Fld Z h a1 "java/lang/AbstractStringBuilder" "coder" "B" (.int (0 : Int32)) ∧ Fld Z h a1 "java/lang/AbstractStringBuilder" "count" "I" (.int (Int32.ofNat (own_dl vn).length)) ∧ Exa Z h b1 "[B" ∧ Arv Z h b1 k1 .byte (16 : Int32) (own_sb (own_dl vn)) (.int (0 : Int32))
set_option maxRecDepth 65536 in
set_option maxHeartbeats 40000000 in
theorem rm_aaj (l : Launch) (Z : State) (a0 : Array Value) (hw : ∀ d ∈ tables_1, d.before a0 Z = true) (ws : List Jvm.Cond) (G1 : Int32) (od : Addr) (ko : ClassId) (dt : Addr) (kt : ClassId) (a1 : Addr) (b1 : Addr) (k1 : ClassId) (vn : Nat) (nb : Nat) (h0 : Heap) (n0 : Nat) (O0 : Old Z n0 h0) (SG1 : Sta Z Z.heap "java/lang/String" "COMPACT_STRINGS" "Z" (.int G1)) (PG1 : ¬ (G1 = (0 : Int32))) (SDO : Sta Z Z.heap "java/lang/Integer" "DigitOnes" "[B" (.ref od)) (VDO : Arv Z Z.heap od ko .byte (100 : Int32) own_ones (.int (0 : Int32))) (SDT : Sta Z Z.heap "java/lang/Integer" "DigitTens" "[B" (.ref dt)) (VDT : Arv Z Z.heap dt kt .byte (100 : Int32) own_tens (.int (0 : Int32))) (Pa10 : Exa Z h0 a1 "java/lang/StringBuilder") (Pa11 : Fld Z h0 a1 "java/lang/AbstractStringBuilder" "value" "[B" (.ref b1)) (Pa12 : Fld Z h0 a1 "java/lang/AbstractStringBuilder" "coder" "B" (.int (0 : Int32))) (Pa13 : Fld Z h0 a1 "java/lang/AbstractStringBuilder" "count" "I" (.int (0 : Int32))) (Pa14 : Exa Z h0 b1 "[B") (Pa15 : Arv Z h0 b1 k1 .byte (16 : Int32) (own_sb ([] : List Int32)) (.int (0 : Int32))) (g1 : nb ≤ a1) (g2 : nb ≤ b1) (ne1 : a1 ≠ b1) (hv : vn ≤ 999999999) (hnb : nb ≤ h0.size) (hnn : n0 ≤ nb) :
    own_Met l Z (⟨"java/lang/AbstractStringBuilder", "append", "(J)Ljava/lang/AbstractStringBuilder;"⟩ : MethodName) jdk_68_method_33_code 5 (some (.object "java/lang/AbstractStringBuilder")) ws ({ frames := 1, cells := 0, slots := 0, locals := 22 } : Room) #[(.ref a1), (.long (Int64.ofNat vn))] h0 (Q_rm_aaj Z G1 od ko dt kt a1 b1 k1 vn nb h0 n0) := by
 refine MetFree.of_bodySF (plainFor_of_name own_pn5) hisR ?_
 intro p e s m args below meth c s₁ Bd hml0 hP hK
 obtain ⟨rfl, hZ, hh⟩ := hP
 have hx := Bd.exec
 have hby := Bd.bytes
 have D := fun i => hb hby (d_rm_aaj i)
 have hml : c.maxLocals = 5 := hml0
 have hown : s.vm.findClass "java/lang/AbstractStringBuilder" = some m.cls := findClass_of_methodNamed Bd.named
 have hnm := (name_of_methodNamed Bd.named Bd.method).1
 have hlk : meth.locks = false := Bd.notSynchronized
 have X0 : Stand p l e ({ frames := 1, cells := 0, slots := 0, locals := 22 } : Room) s m #[(.ref a1), (.long (Int64.ofNat vn))] below meth c s₁ [] 0 0 := Stand.of_body Bd
 have e0 : s₁.heap = h0 := by rw [← hh, Bd.state]; rfl
 have N0 := Fr.nil nb
 suffices hgo : own_Ok p e below (own_Qx s (Q_rm_aaj Z G1 od ko dt kt a1 b1 k1 vn nb h0 n0) 0 0) (s₁.setTop (mkF m 0 #[.val (.ref a1), .val (.long (Int64.ofNat vn)), .second, .unset, .unset] [])) from by
   obtain ⟨s₂, o, h1, h2⟩ := hgo
   exact ⟨s₂, o, castTop (own_ef_rm_aaj m a1 vn) h1, h2⟩
 have hd9 := own_dl9 hv
 show own_Ok p e below _ (s₁.setTop (mkF m 0 #[.val (.ref a1), .val (.long (Int64.ofNat vn)), .second, .unset, .unset] []))
 refine s_aloadN X0 hx (D 0) rfl rfl ?_
 obtain ⟨T101, X101, e101, st101⟩ := getF X0 hx hZ hown (host := "") (Or.inl (own_hw hw 195 rfl)) Via.refl e0 Pa13 (g := (mkF m 1 #[.val (.ref a1), .val (.long (Int64.ofNat vn)), .second, .unset, .unset] [(.ref a1)])) rfl rfl (D 1)
 refine own_st st101 ?_
 show own_Ok p e below _ (T101.setTop (mkF m 4 #[.val (.ref a1), .val (.long (Int64.ofNat vn)), .second, .unset, .unset] [(.int (0 : Int32))]))
 refine s_istoreN X101 hx (D 2) #[.val (.ref a1), .val (.long (Int64.ofNat vn)), .second, .val (.int (0 : Int32)), .unset] rfl ?_
 refine s_iloadN X101 hx (D 3) rfl ?_
 refine s_lloadN X101 hx (D 4) rfl ?_
 obtain ⟨_, T102, Lc102, X102, hQ102, st102⟩ := own_callS X101 hx hZ hown (own_hw hw 197 rfl) (own_hw hw 151 rfl) (own_hw hw 148 rfl) (own_hw hw 152 rfl) (rm_ssz l Z a0 hw [] vn nb h0 n0 O0 hv (Nat.le_trans hnb (Keep.refl h0 [a1, b1]).1) hnn) (by decide) e101 (Ls := #[.val (.ref a1), .val (.long (Int64.ofNat vn)), .second, .val (.int (0 : Int32)), .unset]) [(.long (Int64.ofNat vn))] [(.int (0 : Int32))] rfl (by rw [hml]; rfl) (lenOf own_pd16 rfl) (D 5) (by decide) 1 rfl (by decide) (by decide) (by decide)
 obtain ⟨rfl, Nq102, e102⟩ := hQ102
 have N102 := Fr.app N0 Nq102
 refine st102 _ ?_
 refine s_iadd X102 hx (D 6) ?_
 rw [show ((0 : Int32) + (Int32.ofNat (own_dl vn).length)) = (Int32.ofNat (own_dl vn).length) from Int32.zero_add _]
 show own_Ok p e below _ (T102.setTop (mkF m 11 #[.val (.ref a1), .val (.long (Int64.ofNat vn)), .second, .val (.int (0 : Int32)), .unset] [(.int (Int32.ofNat (own_dl vn).length))]))
 refine s_istore X102 hx (D 7) #[.val (.ref a1), .val (.long (Int64.ofNat vn)), .second, .val (.int (0 : Int32)), .val (.int (Int32.ofNat (own_dl vn).length))] rfl ?_
 refine s_aloadN X102 hx (D 8) rfl rfl ?_
 refine s_iload X102 hx (D 9) rfl ?_
 obtain ⟨_, T103, Lc103, X103, hQ103, st103⟩ := own_callV X102 hx hZ hown (own_hw hw 198 rfl) (own_decl (own_hw hw 199 rfl) (own_hw hw 202 rfl)) (own_hw hw 201 rfl) rfl (own_hw hw 201 rfl) (own_hw hw 199 rfl) (own_hw hw 177 rfl) (own_hw hw 202 rfl) (rm_ens l Z a0 hw [] a1 b1 k1 ((own_sb ([] : List Int32))) ((own_dl vn).length) nb h0 n0 O0 Pa11 Pa12 Pa15 (by omega) (Nat.le_trans hnb (Keep.refl h0 [a1, b1]).1) hnn) (by decide) e102 Pa10 (Ls := #[.val (.ref a1), .val (.long (Int64.ofNat vn)), .second, .val (.int (0 : Int32)), .val (.int (Int32.ofNat (own_dl vn).length))]) [(.int (Int32.ofNat (own_dl vn).length))] [] rfl (by rw [hml]; rfl) (lenOf own_pd19 rfl) (D 10) (by decide) 0 rfl (by decide) (by decide) (by decide)
 obtain ⟨rfl, Nq103, e103⟩ := hQ103
 have N103 := Fr.app N102 Nq103
 refine st103 _ ?_
 refine s_aloadN X103 hx (D 11) rfl rfl ?_
 obtain ⟨_, T104, Lc104, X104, hQ104, st104⟩ := own_callV X103 hx hZ hown (own_hw hw 203 rfl) (own_hw hw 204 rfl) (own_hw hw 206 rfl) rfl (own_hw hw 206 rfl) (own_hw hw 205 rfl) (own_hw hw 177 rfl) (own_hw hw 207 rfl) (rm_ail l Z a0 hw [] G1 a1 nb h0 n0 O0 SG1 PG1 Pa12 (Nat.le_trans hnb (Keep.refl h0 [a1, b1]).1) hnn) (by decide) e103 Pa10 (Ls := #[.val (.ref a1), .val (.long (Int64.ofNat vn)), .second, .val (.int (0 : Int32)), .val (.int (Int32.ofNat (own_dl vn).length))]) [] [] rfl (by rw [hml]; rfl) (lenOf own_pd8 rfl) (D 12) (by decide) 0 rfl (by decide) (by decide) (by decide)
 obtain ⟨rfl, Nq104, e104⟩ := hQ104
 have N104 := Fr.app N103 Nq104
 refine st104 _ ?_
 refine s_ifNo X104 hx (D 13) (XT.i0_eq_f (by decide)) ?_
 refine s_lloadN X104 hx (D 14) rfl ?_
 refine s_iload X104 hx (D 15) rfl ?_
 refine s_aloadN X104 hx (D 16) rfl rfl ?_
 obtain ⟨T105, X105, e105, st105⟩ := getF X104 hx hZ hown (host := "") (Or.inl (own_hw hw 181 rfl)) Via.refl e104 Pa11 (g := (mkF m 30 #[.val (.ref a1), .val (.long (Int64.ofNat vn)), .second, .val (.int (0 : Int32)), .val (.int (Int32.ofNat (own_dl vn).length))] [(.ref a1), (.int (Int32.ofNat (own_dl vn).length)), (.long (Int64.ofNat vn))])) rfl rfl (D 17)
 refine own_st st105 ?_
 show own_Ok p e below _ (T105.setTop (mkF m 33 #[.val (.ref a1), .val (.long (Int64.ofNat vn)), .second, .val (.int (0 : Int32)), .val (.int (Int32.ofNat (own_dl vn).length))] [(.ref b1), (.int (Int32.ofNat (own_dl vn).length)), (.long (Int64.ofNat vn))]))
 obtain ⟨_, T106, Lc106, X106, hQ106, st106⟩ := own_callS X105 hx hZ hown (own_hw hw 208 rfl) (own_hw hw 157 rfl) (own_hw hw 148 rfl) (own_hw hw 158 rfl) (rm_gch l Z a0 hw [] od ko dt kt vn b1 k1 16 ((own_sb ([] : List Int32))) nb h0 n0 O0 SDO VDO SDT VDT hv Pa15 rfl (by decide) (by omega) g2 (Nat.le_trans hnb (Keep.refl h0 [a1, b1]).1) hnn) (by decide) e105 (Ls := #[.val (.ref a1), .val (.long (Int64.ofNat vn)), .second, .val (.int (0 : Int32)), .val (.int (Int32.ofNat (own_dl vn).length))]) [(.long (Int64.ofNat vn)), (.int (Int32.ofNat (own_dl vn).length)), (.ref b1)] [] rfl (by rw [hml]; rfl) (lenOf own_pd17 rfl) (D 18) (by decide) 0 rfl (by decide) (by decide) (by decide)
 obtain ⟨rfl, Nq106, K106, g106_0⟩ := hQ106
 have N106 := Fr.app N104 Nq106
 refine st106 _ ?_
 have e106 : T106.heap = T106.heap := rfl
 show own_Ok p e below _ (T106.setTop (mkF m 36 #[.val (.ref a1), .val (.long (Int64.ofNat vn)), .second, .val (.int (0 : Int32)), .val (.int (Int32.ofNat (own_dl vn).length))] [(.int (0 : Int32))]))
 have VL : Arv Z T106.heap b1 k1 .byte (16 : Int32) (own_sb (own_dl vn)) (.int (0 : Int32)) := by rw [← own_sbD]; exact g106_0
 show own_Ok p e below _ (T106.setTop (mkF m 36 #[.val (.ref a1), .val (.long (Int64.ofNat vn)), .second, .val (.int (0 : Int32)), .val (.int (Int32.ofNat (own_dl vn).length))] [(.int (0 : Int32))]))
 refine s_pop X106 hx (D 19) rfl ?_
 refine s_goto X106 hx 52 (D 20) (by decide) (by decide) ?_
 refine s_aloadN X106 hx (D 21) rfl rfl ?_
 refine s_iload X106 hx (D 22) rfl ?_
 have f107 := Pa10.keep K106
 have f108 := Pa13.keep K106 (ninS ne1 nin0)
 obtain ⟨T109, h109, X109, e109, W109, st109⟩ := putF X106 hx hZ hown (host := "") (Or.inl (own_hw hw 195 rfl)) Via.refl e106 f108 f107 (Or.inl (own_hw hw 196 rfl)) (own_hw hw 168 rfl) (ty := .int) (by decide) rfl rfl (g := (mkF m 55 #[.val (.ref a1), .val (.long (Int64.ofNat vn)), .second, .val (.int (0 : Int32)), .val (.int (Int32.ofNat (own_dl vn).length))] [(.int (Int32.ofNat (own_dl vn).length)), (.ref a1)])) rfl rfl (D 23)
 refine own_st st109 ?_
 have F109 := f108.same W109
 have N109 := Fr.snoc X109 N106 g1
 show own_Ok p e below _ (T109.setTop (mkF m 58 #[.val (.ref a1), .val (.long (Int64.ofNat vn)), .second, .val (.int (0 : Int32)), .val (.int (Int32.ofNat (own_dl vn).length))] []))
 refine s_aloadN X109 hx (D 24) rfl rfl ?_
 have f110 := (Keep.refl h0 [a1, b1]).trans K106 (allS (Or.inl (by simp)) all0)
 have f111 := f110.wr W109 (Or.inl (by simp))
 have f112 := f107.wr W109
 have f113 := Pa11.keep K106 (ninS ne1 nin0)
 have f114 := f113.other W109 (Or.inr (slot_ne (Or.inl (own_hw hw 182 rfl)) (Or.inl (own_hw hw 196 rfl)) (by decide) (t := (.array .byte)) (t' := .int) (by decide) (by decide)))
 have f115 := Pa12.keep K106 (ninS ne1 nin0)
 have f116 := f115.other W109 (Or.inr (slot_ne (Or.inl (own_hw hw 184 rfl)) (Or.inl (own_hw hw 196 rfl)) (by decide) (t := .byte) (t' := .int) (by decide) (by decide)))
 have f117 := Pa14.keep K106
 have f118 := f117.wr W109
 have f119 := VL.other W109 (Ne.symm ne1)
 exact own_retA X109 hx hlk (t := (.object "java/lang/AbstractStringBuilder")) rfl Bd.returns rfl (D 25) (by rw [e109]; exact ⟨rfl, N109, f111, f112, f114, f116, F109, f118, f119⟩) (by decide) (by decide)
theorem own_pd20 : parseMethodDescriptor "(J)Ljava/lang/AbstractStringBuilder;" = some ⟨[.long], some (.object "java/lang/AbstractStringBuilder")⟩ := by decide +kernel
theorem own_ef_rm_baj (m : MethodId) (a1 : Addr) (vn : Nat) : entryFrame m #[(.ref a1), (.long (Int64.ofNat vn))] 3 = mkF m 0 #[.val (.ref a1), .val (.long (Int64.ofNat vn)), .second] [] := by first | (simp [entryFrame, mkF, argsToLocals, Value.category]; done) | rfl
def t_rm_baj : List (Nat × Instr × Nat) := [(0, .aload_n 0, 1), (1, .lload_n 1, 1), (2, .invokespecial 56, 3), (5, .pop, 1), (6, .aload_n 0, 1), (7, .areturn, 1)]
theorem d_rm_baj (i : Nat) : decode jdk_67_method_16_code (t_rm_baj.getD i (0, .aload_n 0, 1)).1 = .ok (t_rm_baj.getD i (0, .aload_n 0, 1)).2 := own_dt (by decide +kernel) (List.mem_cons_self ..) i
def Q_rm_baj (Z : State) (G1 : Int32) (od : Addr) (ko : ClassId) (dt : Addr) (kt : ClassId) (a1 : Addr) (b1 : Addr) (k1 : ClassId) (vn : Nat) (nb : Nat) (h0 : Heap) (n0 : Nat) (v : Option Value) (h : Heap) (L : List Loc) : Prop := v = some (.ref a1) ∧ Fr nb L ∧ Keep h0 h [a1, b1] ∧ Exa Z h a1 "java/lang/StringBuilder" ∧ Fld Z h a1 "java/lang/AbstractStringBuilder" "value" "[B" (.ref b1) ∧ Fld Z h a1 "java/lang/AbstractStringBuilder" "coder" "B" (.int (0 : Int32)) ∧ Fld Z h a1 "java/lang/AbstractStringBuilder" "count" "I" (.int (Int32.ofNat (own_dl vn).length)) ∧ Exa Z h b1 "[B" ∧ Arv Z h b1 k1 .byte (16 : Int32) (own_sb (own_dl vn)) (.int (0 : Int32))
set_option maxRecDepth 65536 in
set_option maxHeartbeats 40000000 in
theorem rm_baj (l : Launch) (Z : State) (a0 : Array Value) (hw : ∀ d ∈ tables_1, d.before a0 Z = true) (ws : List Jvm.Cond) (G1 : Int32) (od : Addr) (ko : ClassId) (dt : Addr) (kt : ClassId) (a1 : Addr) (b1 : Addr) (k1 : ClassId) (vn : Nat) (nb : Nat) (h0 : Heap) (n0 : Nat) (O0 : Old Z n0 h0) (SG1 : Sta Z Z.heap "java/lang/String" "COMPACT_STRINGS" "Z" (.int G1)) (PG1 : ¬ (G1 = (0 : Int32))) (SDO : Sta Z Z.heap "java/lang/Integer" "DigitOnes" "[B" (.ref od)) (VDO : Arv Z Z.heap od ko .byte (100 : Int32) own_ones (.int (0 : Int32))) (SDT : Sta Z Z.heap "java/lang/Integer" "DigitTens" "[B" (.ref dt)) (VDT : Arv Z Z.heap dt kt .byte (100 : Int32) own_tens (.int (0 : Int32))) (Pa10 : Exa Z h0 a1 "java/lang/StringBuilder") (Pa11 : Fld Z h0 a1 "java/lang/AbstractStringBuilder" "value" "[B" (.ref b1)) (Pa12 : Fld Z h0 a1 "java/lang/AbstractStringBuilder" "coder" "B" (.int (0 : Int32))) (Pa13 : Fld Z h0 a1 "java/lang/AbstractStringBuilder" "count" "I" (.int (0 : Int32))) (Pa14 : Exa Z h0 b1 "[B") (Pa15 : Arv Z h0 b1 k1 .byte (16 : Int32) (own_sb ([] : List Int32)) (.int (0 : Int32))) (g1 : nb ≤ a1) (g2 : nb ≤ b1) (ne1 : a1 ≠ b1) (hv : vn ≤ 999999999) (hnb : nb ≤ h0.size) (hnn : n0 ≤ nb) :
    own_Met l Z (⟨"java/lang/StringBuilder", "append", "(J)Ljava/lang/StringBuilder;"⟩ : MethodName) jdk_67_method_16_code 3 (some (.object "java/lang/StringBuilder")) ws ({ frames := 2, cells := 0, slots := 0, locals := 38 } : Room) #[(.ref a1), (.long (Int64.ofNat vn))] h0 (Q_rm_baj Z G1 od ko dt kt a1 b1 k1 vn nb h0 n0) := by
 refine MetFree.of_bodySF (plainFor_of_name own_pn6) hisR ?_
 intro p e s m args below meth c s₁ Bd hml0 hP hK
 obtain ⟨rfl, hZ, hh⟩ := hP
 have hx := Bd.exec
 have hby := Bd.bytes
 have D := fun i => hb hby (d_rm_baj i)
 have hml : c.maxLocals = 3 := hml0
 have hown : s.vm.findClass "java/lang/StringBuilder" = some m.cls := findClass_of_methodNamed Bd.named
 have hnm := (name_of_methodNamed Bd.named Bd.method).1
 have hlk : meth.locks = false := Bd.notSynchronized
 have X0 : Stand p l e ({ frames := 2, cells := 0, slots := 0, locals := 38 } : Room) s m #[(.ref a1), (.long (Int64.ofNat vn))] below meth c s₁ [] 0 0 := Stand.of_body Bd
 have e0 : s₁.heap = h0 := by rw [← hh, Bd.state]; rfl
 have N0 := Fr.nil nb
 suffices hgo : own_Ok p e below (own_Qx s (Q_rm_baj Z G1 od ko dt kt a1 b1 k1 vn nb h0 n0) 0 0) (s₁.setTop (mkF m 0 #[.val (.ref a1), .val (.long (Int64.ofNat vn)), .second] [])) from by
   obtain ⟨s₂, o, h1, h2⟩ := hgo
   exact ⟨s₂, o, castTop (own_ef_rm_baj m a1 vn) h1, h2⟩
 show own_Ok p e below _ (s₁.setTop (mkF m 0 #[.val (.ref a1), .val (.long (Int64.ofNat vn)), .second] []))
 refine s_aloadN X0 hx (D 0) rfl rfl ?_
 refine s_lloadN X0 hx (D 1) rfl ?_
 obtain ⟨_, T101, Lc101, X101, hQ101, st101⟩ := own_callU X0 hx hZ hown (own_hw hw 190 rfl) (own_hw hw 193 rfl) (own_hw hw 201 rfl) rfl (own_hw hw 192 rfl) (own_hw hw 191 rfl) (own_hw hw 177 rfl) (own_hw hw 194 rfl) (rm_aaj l Z a0 hw [] G1 od ko dt kt a1 b1 k1 vn nb h0 n0 O0 SG1 PG1 SDO VDO SDT VDT Pa10 Pa11 Pa12 Pa13 Pa14 Pa15 g1 g2 ne1 hv (Nat.le_trans hnb (Keep.refl h0 [a1, b1]).1) hnn) (by decide) (by decide) e0 Pa10 (Ls := #[.val (.ref a1), .val (.long (Int64.ofNat vn)), .second]) [(.long (Int64.ofNat vn))] [] rfl (by rw [hml]; rfl) (lenOf own_pd20 rfl) (D 2) (by decide) 0 rfl (by decide) (by decide) (by decide)
 obtain ⟨rfl, Nq101, K101, g101_0, g101_1, g101_2, g101_3, g101_4, g101_5⟩ := hQ101
 have N101 := Fr.app N0 Nq101
 refine st101 _ ?_
 have e101 : T101.heap = T101.heap := rfl
 refine s_pop X101 hx (D 3) rfl ?_
 refine s_aloadN X101 hx (D 4) rfl rfl ?_
 have f102 := (Keep.refl h0 [a1, b1]).trans K101 (allS (Or.inl (by simp)) (allS (Or.inl (by simp)) all0))
 exact own_retA X101 hx hlk (t := (.object "java/lang/StringBuilder")) rfl Bd.returns rfl (D 5) (by rw [e101]; exact ⟨rfl, N101, f102, g101_0, g101_1, g101_2, g101_3, g101_4, g101_5⟩) (by decide) (by decide)
theorem own_ef_rm_scd (m : MethodId) (s1 : Addr) : entryFrame m #[(.ref s1)] 1 = mkF m 0 #[.val (.ref s1)] [] := by first | (simp [entryFrame, mkF, argsToLocals, Value.category]; done) | rfl
def t_rm_scd : List (Nat × Instr × Nat) := [(0, .getstatic 38, 3), (3, .ifCond .eq 10, 3), (6, .aload_n 0, 1), (7, .getfield 15, 3), (10, .goto 4, 3), (14, .ireturn, 1)]
theorem d_rm_scd (i : Nat) : decode jdk_42_method_152_code (t_rm_scd.getD i (0, .getstatic 38, 3)).1 = .ok (t_rm_scd.getD i (0, .getstatic 38, 3)).2 := own_dt (by decide +kernel) (List.mem_cons_self ..) i
def Q_rm_scd (Z : State) (G1 : Int32) (s1 : Addr) (nb : Nat) (h0 : Heap) (n0 : Nat) (v : Option Value) (h : Heap) (L : List Loc) : Prop := v = some (.int (0 : Int32)) ∧ Fr nb L ∧ h = h0
set_option maxRecDepth 65536 in
set_option maxHeartbeats 40000000 in
theorem rm_scd (l : Launch) (Z : State) (a0 : Array Value) (hw : ∀ d ∈ tables_1, d.before a0 Z = true) (ws : List Jvm.Cond) (G1 : Int32) (s1 : Addr) (nb : Nat) (h0 : Heap) (n0 : Nat) (O0 : Old Z n0 h0) (SG1 : Sta Z Z.heap "java/lang/String" "COMPACT_STRINGS" "Z" (.int G1)) (PG1 : ¬ (G1 = (0 : Int32))) (F1 : Fld Z h0 s1 "java/lang/String" "coder" "B" (.int (0 : Int32))) (hnb : nb ≤ h0.size) (hnn : n0 ≤ nb) :
    own_Met l Z (⟨"java/lang/String", "coder", "()B"⟩ : MethodName) jdk_42_method_152_code 1 (some .byte) ws ({ frames := 0, cells := 0, slots := 0, locals := 0 } : Room) #[(.ref s1)] h0 (Q_rm_scd Z G1 s1 nb h0 n0) := by
 refine MetFree.of_bodySF (plainFor_of_name own_pn1) hisR ?_
 intro p e s m args below meth c s₁ Bd hml0 hP hK
 obtain ⟨rfl, hZ, hh⟩ := hP
 have hx := Bd.exec
 have hby := Bd.bytes
 have D := fun i => hb hby (d_rm_scd i)
 have hml : c.maxLocals = 1 := hml0
 have hown : s.vm.findClass "java/lang/String" = some m.cls := findClass_of_methodNamed Bd.named
 have hnm := (name_of_methodNamed Bd.named Bd.method).1
 have hlk : meth.locks = false := Bd.notSynchronized
 have X0 : Stand p l e ({ frames := 0, cells := 0, slots := 0, locals := 0 } : Room) s m #[(.ref s1)] below meth c s₁ [] 0 0 := Stand.of_body Bd
 have e0 : s₁.heap = h0 := by rw [← hh, Bd.state]; rfl
 have N0 := Fr.nil nb
 suffices hgo : own_Ok p e below (own_Qx s (Q_rm_scd Z G1 s1 nb h0 n0) 0 0) (s₁.setTop (mkF m 0 #[.val (.ref s1)] [])) from by
   obtain ⟨s₂, o, h1, h2⟩ := hgo
   exact ⟨s₂, o, castTop (own_ef_rm_scd m s1) h1, h2⟩
 show own_Ok p e below _ (s₁.setTop (mkF m 0 #[.val (.ref s1)] []))
 obtain ⟨T101, X101, e101, st101⟩ := getS2 X0 hx hZ hown (host := "") (Or.inl (own_hw hw 42 rfl)) Via.refl e0 (SG1.ext O0.2) (g := (mkF m 0 #[.val (.ref s1)] [])) rfl (D 0)
 refine own_st st101 ?_
 show own_Ok p e below _ (T101.setTop (mkF m 3 #[.val (.ref s1)] [(.int G1)]))
 refine s_ifNo X101 hx (D 1) (XT.i0_eq_f PG1) ?_
 refine s_aloadN X101 hx (D 2) rfl rfl ?_
 obtain ⟨T102, X102, e102, st102⟩ := getF X101 hx hZ hown (host := "") (Or.inl (own_hw hw 54 rfl)) Via.refl e101 F1 (g := (mkF m 7 #[.val (.ref s1)] [(.ref s1)])) rfl rfl (D 3)
 refine own_st st102 ?_
 show own_Ok p e below _ (T102.setTop (mkF m 10 #[.val (.ref s1)] [(.int (0 : Int32))]))
 refine s_goto X102 hx 14 (D 4) (by decide) (by decide) ?_
 exact own_retN X102 hx hlk (t := .byte) Bd.returns (by simp) (D 5) (by rw [e102]; exact ⟨rfl, N0, rfl⟩) (by decide) (by decide)
theorem own_pd21 : parseMethodDescriptor "()B" = some ⟨[], some .byte⟩ := by decide +kernel
theorem own_ef_rm_ifl (m : MethodId) (a1 : Addr) (s1 : Addr) : entryFrame m #[(.ref a1), (.ref s1)] 2 = mkF m 0 #[.val (.ref a1), .val (.ref s1)] [] := by first | (simp [entryFrame, mkF, argsToLocals, Value.category]; done) | rfl
def t_rm_ifl : List (Nat × Instr × Nat) := [(0, .getstatic 18, 3), (3, .ifCond .eq 18, 3), (6, .aload_n 0, 1), (7, .getfield 22, 3), (10, .aload_n 1, 1), (11, .invokevirtual 40, 3), (14, .if_icmp .eq 7, 3), (21, .return_, 1)]
theorem d_rm_ifl (i : Nat) : decode jdk_68_method_71_code (t_rm_ifl.getD i (0, .getstatic 18, 3)).1 = .ok (t_rm_ifl.getD i (0, .getstatic 18, 3)).2 := own_dt (by decide +kernel) (List.mem_cons_self ..) i
def Q_rm_ifl (Z : State) (G1 : Int32) (a1 : Addr) (s1 : Addr) (nb : Nat) (h0 : Heap) (n0 : Nat) (v : Option Value) (h : Heap) (L : List Loc) : Prop := v = none ∧ Fr nb L ∧ h = h0
set_option maxRecDepth 65536 in
set_option maxHeartbeats 40000000 in
theorem rm_ifl (l : Launch) (Z : State) (a0 : Array Value) (hw : ∀ d ∈ tables_1, d.before a0 Z = true) (ws : List Jvm.Cond) (G1 : Int32) (a1 : Addr) (s1 : Addr) (nb : Nat) (h0 : Heap) (n0 : Nat) (O0 : Old Z n0 h0) (SG1 : Sta Z Z.heap "java/lang/String" "COMPACT_STRINGS" "Z" (.int G1)) (PG1 : ¬ (G1 = (0 : Int32))) (FC : Fld Z h0 a1 "java/lang/AbstractStringBuilder" "coder" "B" (.int (0 : Int32))) (E2 : Exa Z h0 s1 "java/lang/String") (F1 : Fld Z h0 s1 "java/lang/String" "coder" "B" (.int (0 : Int32))) (hnb : nb ≤ h0.size) (hnn : n0 ≤ nb) :
    own_Met l Z (⟨"java/lang/AbstractStringBuilder", "inflateIfNeededFor", "(Ljava/lang/String;)V"⟩ : MethodName) jdk_68_method_71_code 2 none ws ({ frames := 1, cells := 0, slots := 0, locals := 13 } : Room) #[(.ref a1), (.ref s1)] h0 (Q_rm_ifl Z G1 a1 s1 nb h0 n0) := by
 refine MetFree.of_bodySF (plainFor_of_name own_pn5) hisR ?_
 intro p e s m args below meth c s₁ Bd hml0 hP hK
 obtain ⟨rfl, hZ, hh⟩ := hP
 have hx := Bd.exec
 have hby := Bd.bytes
 have D := fun i => hb hby (d_rm_ifl i)
 have hml : c.maxLocals = 2 := hml0
 have hown : s.vm.findClass "java/lang/AbstractStringBuilder" = some m.cls := findClass_of_methodNamed Bd.named
 have hnm := (name_of_methodNamed Bd.named Bd.method).1
 have hlk : meth.locks = false := Bd.notSynchronized
 have X0 : Stand p l e ({ frames := 1, cells := 0, slots := 0, locals := 13 } : Room) s m #[(.ref a1), (.ref s1)] below meth c s₁ [] 0 0 := Stand.of_body Bd
 have e0 : s₁.heap = h0 := by rw [← hh, Bd.state]; rfl
 have N0 := Fr.nil nb
 suffices hgo : own_Ok p e below (own_Qx s (Q_rm_ifl Z G1 a1 s1 nb h0 n0) 0 0) (s₁.setTop (mkF m 0 #[.val (.ref a1), .val (.ref s1)] [])) from by
   obtain ⟨s₂, o, h1, h2⟩ := hgo
   exact ⟨s₂, o, castTop (own_ef_rm_ifl m a1 s1) h1, h2⟩
 show own_Ok p e below _ (s₁.setTop (mkF m 0 #[.val (.ref a1), .val (.ref s1)] []))
 obtain ⟨T101, X101, e101, st101⟩ := getS2 X0 hx hZ hown (host := "") (Or.inl (own_hw hw 180 rfl)) Via.refl e0 (SG1.ext O0.2) (g := (mkF m 0 #[.val (.ref a1), .val (.ref s1)] [])) rfl (D 0)
 refine own_st st101 ?_
 show own_Ok p e below _ (T101.setTop (mkF m 3 #[.val (.ref a1), .val (.ref s1)] [(.int G1)]))
 refine s_ifNo X101 hx (D 1) (XT.i0_eq_f PG1) ?_
 refine s_aloadN X101 hx (D 2) rfl rfl ?_
 obtain ⟨T102, X102, e102, st102⟩ := getF X101 hx hZ hown (host := "") (Or.inl (own_hw hw 183 rfl)) Via.refl e101 FC (g := (mkF m 7 #[.val (.ref a1), .val (.ref s1)] [(.ref a1)])) rfl rfl (D 3)
 refine own_st st102 ?_
 show own_Ok p e below _ (T102.setTop (mkF m 10 #[.val (.ref a1), .val (.ref s1)] [(.int (0 : Int32))]))
 refine s_aloadN X102 hx (D 4) rfl rfl ?_
 obtain ⟨_, T103, Lc103, X103, hQ103, st103⟩ := own_callV X102 hx hZ hown (own_hw hw 232 rfl) (own_hw hw 86 rfl) (own_hw hw 88 rfl) rfl (own_hw hw 88 rfl) (own_hw hw 87 rfl) (own_hw hw 31 rfl) (own_hw hw 89 rfl) (rm_scd l Z a0 hw [] G1 s1 nb h0 n0 O0 SG1 PG1 F1 (Nat.le_trans hnb (Nat.le_refl _)) hnn) (by decide) e102 E2 (Ls := #[.val (.ref a1), .val (.ref s1)]) [] [(.int (0 : Int32))] rfl (by rw [hml]; rfl) (lenOf own_pd21 rfl) (D 5) (by decide) 1 rfl (by decide) (by decide) (by decide)
 obtain ⟨rfl, Nq103, e103⟩ := hQ103
 have N103 := Fr.app N0 Nq103
 refine st103 _ ?_
 refine s_icmpYes X103 hx 21 (D 6) (XT.ii_eq_t (by decide)) (by decide) (by decide) ?_
 exact own_retV X103 hx hlk Bd.returns (D 7) (by rw [e103]; exact ⟨rfl, N103, rfl⟩) (by decide) (by decide)
theorem own_ef_rm_sgb (m : MethodId) (s1 : Addr) (b1 : Addr) (cs : List Int32) : entryFrame m #[(.ref s1), (.ref b1), (.int (Int32.ofNat cs.length)), (.int (0 : Int32))] 4 = mkF m 0 #[.val (.ref s1), .val (.ref b1), .val (.int (Int32.ofNat cs.length)), .val (.int (0 : Int32))] [] := by first | (simp [entryFrame, mkF, argsToLocals, Value.category]; done) | rfl
def t_rm_sgb : List (Nat × Instr × Nat) := [(0, .aload_n 0, 1), (1, .invokevirtual 335, 3), (4, .iload_n 3, 1), (5, .if_icmp .ne 23, 3), (8, .aload_n 0, 1), (9, .getfield 9, 3), (12, .iconst 0, 1), (13, .aload_n 1, 1), (14, .iload_n 2, 1), (15, .iload_n 3, 1), (16, .ishl, 1), (17, .aload_n 0, 1), (18, .getfield 9, 3), (21, .arraylength, 1), (22, .invokestatic 212, 3), (25, .goto 18, 3), (43, .return_, 1)]
theorem d_rm_sgb (i : Nat) : decode jdk_42_method_147_code (t_rm_sgb.getD i (0, .aload_n 0, 1)).1 = .ok (t_rm_sgb.getD i (0, .aload_n 0, 1)).2 := own_dt (by decide +kernel) (List.mem_cons_self ..) i
def Q_rm_sgb (Z : State) (G1 : Int32) (s1 : Addr) (t2 : Addr) (k2 : ClassId) (us : List Int32) (b1 : Addr) (k1 : ClassId) (cs : List Int32) (nb : Nat) (h0 : Heap) (n0 : Nat) (v : Option Value) (h : Heap) (L : List Loc) : Prop := v = none ∧ Fr nb L ∧ Keep h0 h [b1] ∧ Arv Z h b1 k1 .byte (16 : Int32) (own_sb (cs ++ us)) (.int (0 : Int32))
set_option maxRecDepth 65536 in
set_option maxHeartbeats 40000000 in
theorem rm_sgb (l : Launch) (Z : State) (a0 : Array Value) (hw : ∀ d ∈ tables_1, d.before a0 Z = true) (ws : List Jvm.Cond) (G1 : Int32) (s1 : Addr) (t2 : Addr) (k2 : ClassId) (us : List Int32) (b1 : Addr) (k1 : ClassId) (cs : List Int32) (nb : Nat) (h0 : Heap) (n0 : Nat) (O0 : Old Z n0 h0) (SG1 : Sta Z Z.heap "java/lang/String" "COMPACT_STRINGS" "Z" (.int G1)) (PG1 : ¬ (G1 = (0 : Int32))) (Qs10 : Exa Z h0 s1 "java/lang/String") (Qs11 : Fld Z h0 s1 "java/lang/String" "coder" "B" (.int (0 : Int32))) (Qs12 : Fld Z h0 s1 "java/lang/String" "value" "[B" (.ref t2)) (Qs13 : Arv Z h0 t2 k2 .byte (Int32.ofNat us.length) (us.map Value.int) (.int (0 : Int32))) (VB : Arv Z h0 b1 k1 .byte (16 : Int32) (own_sb cs) (.int (0 : Int32))) (g2 : nb ≤ b1) (h16 : cs.length + us.length ≤ 16) (hnb : nb ≤ h0.size) (hnn : n0 ≤ nb) :
    own_Met l Z (⟨"java/lang/String", "getBytes", "([BIB)V"⟩ : MethodName) jdk_42_method_147_code 4 none ws ({ frames := 1, cells := 0, slots := 0, locals := 18 } : Room) #[(.ref s1), (.ref b1), (.int (Int32.ofNat cs.length)), (.int (0 : Int32))] h0 (Q_rm_sgb Z G1 s1 t2 k2 us b1 k1 cs nb h0 n0) := by
 refine MetFree.of_bodySF (plainFor_of_name own_pn1) hisR ?_
 intro p e s m args below meth c s₁ Bd hml0 hP hK
 obtain ⟨rfl, hZ, hh⟩ := hP
 have hx := Bd.exec
 have hby := Bd.bytes
 have D := fun i => hb hby (d_rm_sgb i)
 have hml : c.maxLocals = 4 := hml0
 have hown : s.vm.findClass "java/lang/String" = some m.cls := findClass_of_methodNamed Bd.named
 have hnm := (name_of_methodNamed Bd.named Bd.method).1
 have hlk : meth.locks = false := Bd.notSynchronized
 have X0 : Stand p l e ({ frames := 1, cells := 0, slots := 0, locals := 18 } : Room) s m #[(.ref s1), (.ref b1), (.int (Int32.ofNat cs.length)), (.int (0 : Int32))] below meth c s₁ [] 0 0 := Stand.of_body Bd
 have e0 : s₁.heap = h0 := by rw [← hh, Bd.state]; rfl
 have N0 := Fr.nil nb
 suffices hgo : own_Ok p e below (own_Qx s (Q_rm_sgb Z G1 s1 t2 k2 us b1 k1 cs nb h0 n0) 0 0) (s₁.setTop (mkF m 0 #[.val (.ref s1), .val (.ref b1), .val (.int (Int32.ofNat cs.length)), .val (.int (0 : Int32))] [])) from by
   obtain ⟨s₂, o, h1, h2⟩ := hgo
   exact ⟨s₂, o, castTop (own_ef_rm_sgb m s1 b1 cs) h1, h2⟩
 have htc : (Int32.ofNat cs.length).toNatClampNeg = cs.length := own_tnc (own_oN (by omega))
 have htu : (Int32.ofNat us.length).toNatClampNeg = us.length := own_tnc (own_oN (by omega))
 show own_Ok p e below _ (s₁.setTop (mkF m 0 #[.val (.ref s1), .val (.ref b1), .val (.int (Int32.ofNat cs.length)), .val (.int (0 : Int32))] []))
 refine s_aloadN X0 hx (D 0) rfl rfl ?_
 obtain ⟨_, T101, Lc101, X101, hQ101, st101⟩ := own_callV X0 hx hZ hown (own_hw hw 85 rfl) (own_hw hw 86 rfl) (own_hw hw 88 rfl) rfl (own_hw hw 88 rfl) (own_hw hw 87 rfl) (own_hw hw 31 rfl) (own_hw hw 89 rfl) (rm_scd l Z a0 hw [] G1 s1 nb h0 n0 O0 SG1 PG1 Qs11 (Nat.le_trans hnb (Keep.refl h0 [b1]).1) hnn) (by decide) e0 Qs10 (Ls := #[.val (.ref s1), .val (.ref b1), .val (.int (Int32.ofNat cs.length)), .val (.int (0 : Int32))]) [] [] rfl (by rw [hml]; rfl) (lenOf own_pd21 rfl) (D 1) (by decide) 0 rfl (by decide) (by decide) (by decide)
 obtain ⟨rfl, Nq101, e101⟩ := hQ101
 have N101 := Fr.app N0 Nq101
 refine st101 _ ?_
 refine s_iloadN X101 hx (D 2) rfl ?_
 refine s_icmpNo X101 hx (D 3) (XT.ii_ne_f (by decide)) ?_
 refine s_aloadN X101 hx (D 4) rfl rfl ?_
 obtain ⟨T102, X102, e102, st102⟩ := getF X101 hx hZ hown (host := "") (Or.inl (own_hw hw 56 rfl)) Via.refl e101 Qs12 (g := (mkF m 9 #[.val (.ref s1), .val (.ref b1), .val (.int (Int32.ofNat cs.length)), .val (.int (0 : Int32))] [(.ref s1)])) rfl rfl (D 5)
 refine own_st st102 ?_
 show own_Ok p e below _ (T102.setTop (mkF m 12 #[.val (.ref s1), .val (.ref b1), .val (.int (Int32.ofNat cs.length)), .val (.int (0 : Int32))] [(.ref t2)]))
 refine s_iconst X102 hx (0 : Int32) (D 6) rfl ?_
 refine s_aloadN X102 hx (D 7) rfl rfl ?_
 refine s_iloadN X102 hx (D 8) rfl ?_
 refine s_iloadN X102 hx (D 9) rfl ?_
 refine s_ishl X102 hx (D 10) ?_
 rw [show ((Int32.ofNat cs.length) <<< ((0 : Int32) &&& 31)) = (Int32.ofNat cs.length) from own_shl0 _]
 show own_Ok p e below _ (T102.setTop (mkF m 17 #[.val (.ref s1), .val (.ref b1), .val (.int (Int32.ofNat cs.length)), .val (.int (0 : Int32))] [(.int (Int32.ofNat cs.length)), (.ref b1), (.int (0 : Int32)), (.ref t2)]))
 refine s_aloadN X102 hx (D 11) rfl rfl ?_
 obtain ⟨T103, X103, e103, st103⟩ := getF X102 hx hZ hown (host := "") (Or.inl (own_hw hw 56 rfl)) Via.refl e102 Qs12 (g := (mkF m 18 #[.val (.ref s1), .val (.ref b1), .val (.int (Int32.ofNat cs.length)), .val (.int (0 : Int32))] [(.ref s1), (.int (Int32.ofNat cs.length)), (.ref b1), (.int (0 : Int32)), (.ref t2)])) rfl rfl (D 12)
 refine own_st st103 ?_
 show own_Ok p e below _ (T103.setTop (mkF m 21 #[.val (.ref s1), .val (.ref b1), .val (.int (Int32.ofNat cs.length)), .val (.int (0 : Int32))] [(.ref t2), (.int (Int32.ofNat cs.length)), (.ref b1), (.int (0 : Int32)), (.ref t2)]))
 refine own_st (own_len X103 hx hZ e103 Qs13 (g := (mkF m 21 #[.val (.ref s1), .val (.ref b1), .val (.int (Int32.ofNat cs.length)), .val (.int (0 : Int32))] [(.ref t2), (.int (Int32.ofNat cs.length)), (.ref b1), (.int (0 : Int32)), (.ref t2)])) rfl rfl (D 13)) ?_
 show own_Ok p e below _ (T103.setTop (mkF m 22 #[.val (.ref s1), .val (.ref b1), .val (.int (Int32.ofNat cs.length)), .val (.int (0 : Int32))] [(.int (Int32.ofNat us.length)), (.int (Int32.ofNat cs.length)), (.ref b1), (.int (0 : Int32)), (.ref t2)]))
 obtain ⟨T104, h104, L104, X104, e104, N104, K104, V104, st104⟩ := cpA X103 hx hZ hown (own_hw hw 238 rfl) (own_hw hw 241 rfl) (own_hw hw 239 rfl) (own_hw hw 240 rfl) e103 Qs13 VB (Or.inl ⟨rfl, rfl⟩) (by decide) (own_n0N (by omega)) (own_n0N (by omega)) (by rw [show (0 : Int32).toNatClampNeg = 0 from rfl]; omega) (by rw [htc, htu]; exact h16) rfl (by rw [htc, htu, own_sbl (by omega)]; exact h16) N101 g2 (g := (mkF m 22 #[.val (.ref s1), .val (.ref b1), .val (.int (Int32.ofNat cs.length)), .val (.int (0 : Int32))] [(.int (Int32.ofNat us.length)), (.int (Int32.ofNat cs.length)), (.ref b1), (.int (0 : Int32)), (.ref t2)])) rfl (by rw [hml]; rfl) rfl (D 14) (by decide) (W := 0) (by show 2 * 0 + _ ≤ _; exact Nat.le_of_eq rfl) (by decide)
 refine own_st st104 ?_
 have VC104 : Arv Z h104 b1 k1 .byte (16 : Int32) (own_sb (cs ++ us)) (.int (0 : Int32)) := by rw [← own_cp' htc htu h16]; exact V104
 show own_Ok p e below _ (T104.setTop (mkF m 25 #[.val (.ref s1), .val (.ref b1), .val (.int (Int32.ofNat cs.length)), .val (.int (0 : Int32))] []))
 refine s_goto X104 hx 43 (D 15) (by decide) (by decide) ?_
 have f105 := (Keep.refl h0 [b1]).trans K104 (allS (Or.inl (by simp)) all0)
 exact own_retV X104 hx hlk Bd.returns (D 16) (by rw [e104]; exact ⟨rfl, N104, f105, VC104⟩) (by decide) (by decide)
theorem own_pd22 : parseMethodDescriptor "([BIB)V" = some ⟨[(.array .byte), .int, .byte], none⟩ := by decide +kernel
theorem own_ef_rm_pst (m : MethodId) (a1 : Addr) (cs : List Int32) (s1 : Addr) : entryFrame m #[(.ref a1), (.int (Int32.ofNat cs.length)), (.ref s1)] 3 = mkF m 0 #[.val (.ref a1), .val (.int (Int32.ofNat cs.length)), .val (.ref s1)] [] := by first | (simp [entryFrame, mkF, argsToLocals, Value.category]; done) | rfl
def t_rm_pst : List (Nat × Instr × Nat) := [(0, .aload_n 0, 1), (1, .aload_n 2, 1), (2, .invokevirtual 397, 3), (5, .aload_n 2, 1), (6, .aload_n 0, 1), (7, .getfield 15, 3), (10, .iload_n 1, 1), (11, .aload_n 0, 1), (12, .getfield 22, 3), (15, .invokevirtual 399, 3), (18, .return_, 1)]
theorem d_rm_pst (i : Nat) : decode jdk_68_method_73_code (t_rm_pst.getD i (0, .aload_n 0, 1)).1 = .ok (t_rm_pst.getD i (0, .aload_n 0, 1)).2 := own_dt (by decide +kernel) (List.mem_cons_self ..) i
def Q_rm_pst (Z : State) (G1 : Int32) (a1 : Addr) (b1 : Addr) (k1 : ClassId) (cs : List Int32) (s1 : Addr) (t2 : Addr) (k2 : ClassId) (us : List Int32) (nb : Nat) (h0 : Heap) (n0 : Nat) (v : Option Value) (h : Heap) (L : List Loc) : Prop := v = none ∧ Fr nb L ∧ Keep h0 h [b1] ∧ Arv Z h b1 k1 .byte (16 : Int32) (own_sb (cs ++ us)) (.int (0 : Int32))
set_option maxRecDepth 65536 in
set_option maxHeartbeats 40000000 in
theorem rm_pst (l : Launch) (Z : State) (a0 : Array Value) (hw : ∀ d ∈ tables_1, d.before a0 Z = true) (ws : List Jvm.Cond) (G1 : Int32) (a1 : Addr) (b1 : Addr) (k1 : ClassId) (cs : List Int32) (s1 : Addr) (t2 : Addr) (k2 : ClassId) (us : List Int32) (nb : Nat) (h0 : Heap) (n0 : Nat) (O0 : Old Z n0 h0) (SG1 : Sta Z Z.heap "java/lang/String" "COMPACT_STRINGS" "Z" (.int G1)) (PG1 : ¬ (G1 = (0 : Int32))) (E1 : Exa Z h0 a1 "java/lang/StringBuilder") (FV : Fld Z h0 a1 "java/lang/AbstractStringBuilder" "value" "[B" (.ref b1)) (FC : Fld Z h0 a1 "java/lang/AbstractStringBuilder" "coder" "B" (.int (0 : Int32))) (VB : Arv Z h0 b1 k1 .byte (16 : Int32) (own_sb cs) (.int (0 : Int32))) (Qs10 : Exa Z h0 s1 "java/lang/String") (Qs11 : Fld Z h0 s1 "java/lang/String" "coder" "B" (.int (0 : Int32))) (Qs12 : Fld Z h0 s1 "java/lang/String" "value" "[B" (.ref t2)) (Qs13 : Arv Z h0 t2 k2 .byte (Int32.ofNat us.length) (us.map Value.int) (.int (0 : Int32))) (g2 : nb ≤ b1) (h16 : cs.length + us.length ≤ 16) (hnb : nb ≤ h0.size) (hnn : n0 ≤ nb) :
    own_Met l Z (⟨"java/lang/AbstractStringBuilder", "putStringAt", "(ILjava/lang/String;)V"⟩ : MethodName) jdk_68_method_73_code 3 none ws ({ frames := 2, cells := 0, slots := 0, locals := 33 } : Room) #[(.ref a1), (.int (Int32.ofNat cs.length)), (.ref s1)] h0 (Q_rm_pst Z G1 a1 b1 k1 cs s1 t2 k2 us nb h0 n0) := by
 refine MetFree.of_bodySF (plainFor_of_name own_pn5) hisR ?_
 intro p e s m args below meth c s₁ Bd hml0 hP hK
 obtain ⟨rfl, hZ, hh⟩ := hP
 have hx := Bd.exec
 have hby := Bd.bytes
 have D := fun i => hb hby (d_rm_pst i)
 have hml : c.maxLocals = 3 := hml0
 have hown : s.vm.findClass "java/lang/AbstractStringBuilder" = some m.cls := findClass_of_methodNamed Bd.named
 have hnm := (name_of_methodNamed Bd.named Bd.method).1
 have hlk : meth.locks = false := Bd.notSynchronized
 have X0 : Stand p l e ({ frames := 2, cells := 0, slots := 0, locals := 33 } : Room) s m #[(.ref a1), (.int (Int32.ofNat cs.length)), (.ref s1)] below meth c s₁ [] 0 0 := Stand.of_body Bd
 have e0 : s₁.heap = h0 := by rw [← hh, Bd.state]; rfl
 have N0 := Fr.nil nb
 suffices hgo : own_Ok p e below (own_Qx s (Q_rm_pst Z G1 a1 b1 k1 cs s1 t2 k2 us nb h0 n0) 0 0) (s₁.setTop (mkF m 0 #[.val (.ref a1), .val (.int (Int32.ofNat cs.length)), .val (.ref s1)] [])) from by
   obtain ⟨s₂, o, h1, h2⟩ := hgo
   exact ⟨s₂, o, castTop (own_ef_rm_pst m a1 cs s1) h1, h2⟩
 show own_Ok p e below _ (s₁.setTop (mkF m 0 #[.val (.ref a1), .val (.int (Int32.ofNat cs.length)), .val (.ref s1)] []))
 refine s_aloadN X0 hx (D 0) rfl rfl ?_
 refine s_aloadN X0 hx (D 1) rfl rfl ?_
 obtain ⟨_, T101, Lc101, X101, hQ101, st101⟩ := own_callV X0 hx hZ hown (own_hw hw 227 rfl) (own_decl (own_hw hw 228 rfl) (own_hw hw 231 rfl)) (own_hw hw 230 rfl) rfl (own_hw hw 230 rfl) (own_hw hw 228 rfl) (own_hw hw 177 rfl) (own_hw hw 231 rfl) (rm_ifl l Z a0 hw [] G1 a1 s1 nb h0 n0 O0 SG1 PG1 FC Qs10 Qs11 (Nat.le_trans hnb (Keep.refl h0 [b1]).1) hnn) (by decide) e0 E1 (Ls := #[.val (.ref a1), .val (.int (Int32.ofNat cs.length)), .val (.ref s1)]) [(.ref s1)] [] rfl (by rw [hml]; rfl) (lenOf own_pd14 rfl) (D 2) (by decide) 0 rfl (by decide) (by decide) (by decide)
 obtain ⟨rfl, Nq101, e101⟩ := hQ101
 have N101 := Fr.app N0 Nq101
 refine st101 _ ?_
 refine s_aloadN X101 hx (D 3) rfl rfl ?_
 refine s_aloadN X101 hx (D 4) rfl rfl ?_
 obtain ⟨T102, X102, e102, st102⟩ := getF X101 hx hZ hown (host := "") (Or.inl (own_hw hw 181 rfl)) Via.refl e101 FV (g := (mkF m 7 #[.val (.ref a1), .val (.int (Int32.ofNat cs.length)), .val (.ref s1)] [(.ref a1), (.ref s1)])) rfl rfl (D 5)
 refine own_st st102 ?_
 show own_Ok p e below _ (T102.setTop (mkF m 10 #[.val (.ref a1), .val (.int (Int32.ofNat cs.length)), .val (.ref s1)] [(.ref b1), (.ref s1)]))
 refine s_iloadN X102 hx (D 6) rfl ?_
 refine s_aloadN X102 hx (D 7) rfl rfl ?_
 obtain ⟨T103, X103, e103, st103⟩ := getF X102 hx hZ hown (host := "") (Or.inl (own_hw hw 183 rfl)) Via.refl e102 FC (g := (mkF m 12 #[.val (.ref a1), .val (.int (Int32.ofNat cs.length)), .val (.ref s1)] [(.ref a1), (.int (Int32.ofNat cs.length)), (.ref b1), (.ref s1)])) rfl rfl (D 8)
 refine own_st st103 ?_
 show own_Ok p e below _ (T103.setTop (mkF m 15 #[.val (.ref a1), .val (.int (Int32.ofNat cs.length)), .val (.ref s1)] [(.int (0 : Int32)), (.int (Int32.ofNat cs.length)), (.ref b1), (.ref s1)]))
 obtain ⟨_, T104, Lc104, X104, hQ104, st104⟩ := own_callV X103 hx hZ hown (own_hw hw 233 rfl) (own_hw hw 234 rfl) (own_hw hw 236 rfl) rfl (own_hw hw 236 rfl) (own_hw hw 235 rfl) (own_hw hw 31 rfl) (own_hw hw 237 rfl) (rm_sgb l Z a0 hw [] G1 s1 t2 k2 us b1 k1 cs nb h0 n0 O0 SG1 PG1 Qs10 Qs11 Qs12 Qs13 VB g2 h16 (Nat.le_trans hnb (Keep.refl h0 [b1]).1) hnn) (by decide) e103 Qs10 (Ls := #[.val (.ref a1), .val (.int (Int32.ofNat cs.length)), .val (.ref s1)]) [(.ref b1), (.int (Int32.ofNat cs.length)), (.int (0 : Int32))] [] rfl (by rw [hml]; rfl) (lenOf own_pd22 rfl) (D 9) (by decide) 0 rfl (by decide) (by decide) (by decide)
 obtain ⟨rfl, Nq104, K104, g104_0⟩ := hQ104
 have N104 := Fr.app N101 Nq104
 refine st104 _ ?_
 have e104 : T104.heap = T104.heap := rfl
 have f105 := (Keep.refl h0 [b1]).trans K104 (allS (Or.inl (by simp)) all0)
 exact own_retV X104 hx hlk Bd.returns (D 10) (by rw [e104]; exact ⟨rfl, N104, f105, g104_0⟩) (by decide) (by decide)
theorem own_pd23 : parseMethodDescriptor "(ILjava/lang/String;)V" = some ⟨[.int, (.object "java/lang/String")], none⟩ := by decide +kernel
theorem own_ef_rm_aas (m : MethodId) (a1 : Addr) (s1 : Addr) : entryFrame m #[(.ref a1), (.ref s1)] 3 = mkF m 0 #[.val (.ref a1), .val (.ref s1), .unset] [] := by first | (simp [entryFrame, mkF, argsToLocals, Value.category]; done) | rfl
def t_rm_aas : List (Nat × Instr × Nat) := [(0, .aload_n 1, 1), (1, .ifnonnull 8, 3), (9, .aload_n 1, 1), (10, .invokevirtual 32, 3), (13, .istore_n 2, 1), (14, .aload_n 0, 1), (15, .aload_n 0, 1), (16, .getfield 79, 3), (19, .iload_n 2, 1), (20, .iadd, 1), (21, .invokevirtual 100, 3), (24, .aload_n 0, 1), (25, .aload_n 0, 1), (26, .getfield 79, 3), (29, .aload_n 1, 1), (30, .invokevirtual 208, 3), (33, .aload_n 0, 1), (34, .dup, 1), (35, .getfield 79, 3), (38, .iload_n 2, 1), (39, .iadd, 1), (40, .putfield 79, 3), (43, .aload_n 0, 1), (44, .areturn, 1)]
theorem d_rm_aas (i : Nat) : decode jdk_68_method_22_code (t_rm_aas.getD i (0, .aload_n 1, 1)).1 = .ok (t_rm_aas.getD i (0, .aload_n 1, 1)).2 := own_dt (by decide +kernel) (List.mem_cons_self ..) i
def Q_rm_aas (Z : State) (G1 : Int32) (a1 : Addr) (b1 : Addr) (k1 : ClassId) (cs : List Int32) (s1 : Addr) (t2 : Addr) (k2 : ClassId) (us : List Int32) (nb : Nat) (h0 : Heap) (n0 : Nat) (v : Option Value) (h : Heap) (L : List Loc) : Prop := v = some (.ref a1) ∧ Fr nb L ∧ Keep h0 h [a1, b1] ∧ Exa Z h a1 "java/lang/StringBuilder" ∧ Fld Z h a1 "java/lang/AbstractStringBuilder" "value" "[B" (.ref b1) ∧ Fld Z h a1 "java/lang/AbstractStringBuilder" "coder" "B" (.int (0 : Int32)) ∧ Fld Z h a1 "java/lang/AbstractStringBuilder" "count" "I" (.int (Int32.ofNat (cs ++ us).length)) ∧ Exa Z h b1 "[B" ∧ Arv Z h b1 k1 .byte (16 : Int32) (own_sb (cs ++ us)) (.int (0 : Int32))
set_option maxRecDepth 65536 in
set_option maxHeartbeats 40000000 in
theorem rm_aas (l : Launch) (Z : State) (a0 : Array Value) (hw : ∀ d ∈ tables_1, d.before a0 Z = true) (ws : List Jvm.Cond) (G1 : Int32) (a1 : Addr) (b1 : Addr) (k1 : ClassId) (cs : List Int32) (s1 : Addr) (t2 : Addr) (k2 : ClassId) (us : List Int32) (nb : Nat) (h0 : Heap) (n0 : Nat) (O0 : Old Z n0 h0) (SG1 : Sta Z Z.heap "java/lang/String" "COMPACT_STRINGS" "Z" (.int G1)) (PG1 : ¬ (G1 = (0 : Int32))) (Pa10 : Exa Z h0 a1 "java/lang/StringBuilder") (Pa11 : Fld Z h0 a1 "java/lang/AbstractStringBuilder" "value" "[B" (.ref b1)) (Pa12 : Fld Z h0 a1 "java/lang/AbstractStringBuilder" "coder" "B" (.int (0 : Int32))) (Pa13 : Fld Z h0 a1 "java/lang/AbstractStringBuilder" "count" "I" (.int (Int32.ofNat cs.length))) (Pa14 : Exa Z h0 b1 "[B") (Pa15 : Arv Z h0 b1 k1 .byte (16 : Int32) (own_sb cs) (.int (0 : Int32))) (g1 : nb ≤ a1) (g2 : nb ≤ b1) (ne1 : a1 ≠ b1) (Qs10 : Exa Z h0 s1 "java/lang/String") (Qs11 : Fld Z h0 s1 "java/lang/String" "coder" "B" (.int (0 : Int32))) (Qs12 : Fld Z h0 s1 "java/lang/String" "value" "[B" (.ref t2)) (Qs13 : Arv Z h0 t2 k2 .byte (Int32.ofNat us.length) (us.map Value.int) (.int (0 : Int32))) (hA : own_A us) (h16 : cs.length + us.length ≤ 16) (hnb : nb ≤ h0.size) (hnn : n0 ≤ nb) :
    own_Met l Z (⟨"java/lang/AbstractStringBuilder", "append", "(Ljava/lang/String;)Ljava/lang/AbstractStringBuilder;"⟩ : MethodName) jdk_68_method_22_code 3 (some (.object "java/lang/AbstractStringBuilder")) ws ({ frames := 3, cells := 0, slots := 0, locals := 47 } : Room) #[(.ref a1), (.ref s1)] h0 (Q_rm_aas Z G1 a1 b1 k1 cs s1 t2 k2 us nb h0 n0) := by
 refine MetFree.of_bodySF (plainFor_of_name own_pn5) hisR ?_
 intro p e s m args below meth c s₁ Bd hml0 hP hK
 obtain ⟨rfl, hZ, hh⟩ := hP
 have hx := Bd.exec
 have hby := Bd.bytes
 have D := fun i => hb hby (d_rm_aas i)
 have hml : c.maxLocals = 3 := hml0
 have hown : s.vm.findClass "java/lang/AbstractStringBuilder" = some m.cls := findClass_of_methodNamed Bd.named
 have hnm := (name_of_methodNamed Bd.named Bd.method).1
 have hlk : meth.locks = false := Bd.notSynchronized
 have X0 : Stand p l e ({ frames := 3, cells := 0, slots := 0, locals := 47 } : Room) s m #[(.ref a1), (.ref s1)] below meth c s₁ [] 0 0 := Stand.of_body Bd
 have e0 : s₁.heap = h0 := by rw [← hh, Bd.state]; rfl
 have N0 := Fr.nil nb
 suffices hgo : own_Ok p e below (own_Qx s (Q_rm_aas Z G1 a1 b1 k1 cs s1 t2 k2 us nb h0 n0) 0 0) (s₁.setTop (mkF m 0 #[.val (.ref a1), .val (.ref s1), .unset] [])) from by
   obtain ⟨s₂, o, h1, h2⟩ := hgo
   exact ⟨s₂, o, castTop (own_ef_rm_aas m a1 s1) h1, h2⟩
 have hln : ∀ d ∈ StrChars.Road.wordsLen, d.before a0 Z = true := fun d hd => hw d ((by decide +kernel : ∀ d ∈ StrChars.Road.wordsLen, d ∈ tables_1) d hd)
 show own_Ok p e below _ (s₁.setTop (mkF m 0 #[.val (.ref a1), .val (.ref s1), .unset] []))
 refine s_aloadN X0 hx (D 0) rfl rfl ?_
 refine own_st (fun _ k => XS.ifnonnullYes X0.here hx rfl (pc0 := 1) (pc' := 9) rfl (D 1) rfl (by decide) (by decide) k) ?_
 show own_Ok p e below _ (s₁.setTop (mkF m 9 #[.val (.ref a1), .val (.ref s1), .unset] []))
 refine s_aloadN X0 hx (D 2) rfl rfl ?_
 obtain ⟨cq101, kq101, q101a, q101b, q101c⟩ := isOf hZ e0 Qs10
 obtain ⟨_, _, ⟨T101, L101, k101, n101⟩, -, X101, ⟨Lc101, hQ101, l101, y101, z101⟩, st101⟩ := X0.virtualBack hx (y := (⟨"java/lang/String", "length", "()I"⟩ : MethodName)) (z := (⟨"java/lang/String", "length", "()I"⟩ : MethodName)) hown (mvT hZ (own_hw hw 221 rfl)) (mvT hZ (own_hw hw 81 rfl)) (notFace_of_selects (args := #[]) (mvT hZ (own_hw hw 83 rfl))) (mvT hZ (own_hw hw 83 rfl)) (mvT hZ (own_hw hw 82 rfl)) (by decide) (StrChars.Road.lenW (W := 0) hZ hln (kI := 4) (own_hw hw 30 rfl) Qs10 Qs12 Qs11 Qs13 (own_codA hA) (own_upA hA) (SG1.ext O0.2) PG1 (by omega) (by decide) (by decide)) q101a q101c (g := (mkF m 10 #[.val (.ref a1), .val (.ref s1), .unset] [(.ref s1)])) rfl (by rw [hml]; rfl) (Steps.refl _) (argsL := []) (rest := []) (lenOf own_pd9 rfl) rfl (by show 2 * 0 + _ ≤ _; exact Nat.le_of_eq rfl) (D 3) (fun _ _ => ⟨rfl, e0, (by decide : 0 + 0 ≤ _), (by decide : 0 + 0 ≤ _)⟩)
 dsimp only [Pt.U, Pt.locs, Pt.cells, Pt.slots] at X101 l101 y101 z101 st101 hQ101
 subst l101 y101 z101
 obtain ⟨rfl, rfl, e101⟩ := hQ101
 have Nq101 : Fr nb ([] : List Loc) := Fr.nil nb
 have N101 := Fr.app N0 Nq101
 refine own_st (fun _ k => st101.trans k) ?_
 show own_Ok p e below _ (T101.setTop (mkF m 13 #[.val (.ref a1), .val (.ref s1), .unset] [(.int (Int32.ofNat us.length))]))
 refine s_istoreN X101 hx (D 4) #[.val (.ref a1), .val (.ref s1), .val (.int (Int32.ofNat us.length))] rfl ?_
 refine s_aloadN X101 hx (D 5) rfl rfl ?_
 refine s_aloadN X101 hx (D 6) rfl rfl ?_
 obtain ⟨T102, X102, e102, st102⟩ := getF X101 hx hZ hown (host := "") (Or.inl (own_hw hw 195 rfl)) Via.refl e101 Pa13 (g := (mkF m 16 #[.val (.ref a1), .val (.ref s1), .val (.int (Int32.ofNat us.length))] [(.ref a1), (.ref a1)])) rfl rfl (D 7)
 refine own_st st102 ?_
 show own_Ok p e below _ (T102.setTop (mkF m 19 #[.val (.ref a1), .val (.ref s1), .val (.int (Int32.ofNat us.length))] [(.int (Int32.ofNat cs.length)), (.ref a1)]))
 refine s_iloadN X102 hx (D 8) rfl ?_
 refine s_iadd X102 hx (D 9) ?_
 rw [show ((Int32.ofNat cs.length) + (Int32.ofNat us.length)) = (Int32.ofNat (cs.length + us.length)) from (Int32.ofNat_add _ _).symm]
 show own_Ok p e below _ (T102.setTop (mkF m 21 #[.val (.ref a1), .val (.ref s1), .val (.int (Int32.ofNat us.length))] [(.int (Int32.ofNat (cs.length + us.length))), (.ref a1)]))
 obtain ⟨_, T103, Lc103, X103, hQ103, st103⟩ := own_callV X102 hx hZ hown (own_hw hw 198 rfl) (own_decl (own_hw hw 199 rfl) (own_hw hw 202 rfl)) (own_hw hw 201 rfl) rfl (own_hw hw 201 rfl) (own_hw hw 199 rfl) (own_hw hw 177 rfl) (own_hw hw 202 rfl) (rm_ens l Z a0 hw [] a1 b1 k1 ((own_sb cs)) ((cs.length + us.length)) nb h0 n0 O0 Pa11 Pa12 Pa15 h16 (Nat.le_trans hnb (Keep.refl h0 [a1, b1]).1) hnn) (by decide) e102 Pa10 (Ls := #[.val (.ref a1), .val (.ref s1), .val (.int (Int32.ofNat us.length))]) [(.int (Int32.ofNat (cs.length + us.length)))] [] rfl (by rw [hml]; rfl) (lenOf own_pd19 rfl) (D 10) (by decide) 0 rfl (by decide) (by decide) (by decide)
 obtain ⟨rfl, Nq103, e103⟩ := hQ103
 have N103 := Fr.app N101 Nq103
 refine st103 _ ?_
 refine s_aloadN X103 hx (D 11) rfl rfl ?_
 refine s_aloadN X103 hx (D 12) rfl rfl ?_
 obtain ⟨T104, X104, e104, st104⟩ := getF X103 hx hZ hown (host := "") (Or.inl (own_hw hw 195 rfl)) Via.refl e103 Pa13 (g := (mkF m 26 #[.val (.ref a1), .val (.ref s1), .val (.int (Int32.ofNat us.length))] [(.ref a1), (.ref a1)])) rfl rfl (D 13)
 refine own_st st104 ?_
 show own_Ok p e below _ (T104.setTop (mkF m 29 #[.val (.ref a1), .val (.ref s1), .val (.int (Int32.ofNat us.length))] [(.int (Int32.ofNat cs.length)), (.ref a1)]))
 refine s_aloadN X104 hx (D 14) rfl rfl ?_
 obtain ⟨_, T105, Lc105, X105, hQ105, st105⟩ := own_callV X104 hx hZ hown (own_hw hw 222 rfl) (own_decl (own_hw hw 223 rfl) (own_hw hw 226 rfl)) (own_hw hw 225 rfl) rfl (own_hw hw 225 rfl) (own_hw hw 223 rfl) (own_hw hw 177 rfl) (own_hw hw 226 rfl) (rm_pst l Z a0 hw [] G1 a1 b1 k1 cs s1 t2 k2 us nb h0 n0 O0 SG1 PG1 Pa10 Pa11 Pa12 Pa15 Qs10 Qs11 Qs12 Qs13 g2 h16 (Nat.le_trans hnb (Keep.refl h0 [a1, b1]).1) hnn) (by decide) e104 Pa10 (Ls := #[.val (.ref a1), .val (.ref s1), .val (.int (Int32.ofNat us.length))]) [(.int (Int32.ofNat cs.length)), (.ref s1)] [] rfl (by rw [hml]; rfl) (lenOf own_pd23 rfl) (D 15) (by decide) 0 rfl (by decide) (by decide) (by decide)
 obtain ⟨rfl, Nq105, K105, g105_0⟩ := hQ105
 have N105 := Fr.app N103 Nq105
 refine st105 _ ?_
 have e105 : T105.heap = T105.heap := rfl
 refine s_aloadN X105 hx (D 16) rfl rfl ?_
 refine s_dup X105 hx (D 17) rfl ?_
 have f107 := Pa13.keep K105 (ninS ne1 nin0)
 obtain ⟨T106, X106, e106, st106⟩ := getF X105 hx hZ hown (host := "") (Or.inl (own_hw hw 195 rfl)) Via.refl e105 f107 (g := (mkF m 35 #[.val (.ref a1), .val (.ref s1), .val (.int (Int32.ofNat us.length))] [(.ref a1), (.ref a1)])) rfl rfl (D 18)
 refine own_st st106 ?_
 show own_Ok p e below _ (T106.setTop (mkF m 38 #[.val (.ref a1), .val (.ref s1), .val (.int (Int32.ofNat us.length))] [(.int (Int32.ofNat cs.length)), (.ref a1)]))
 refine s_iloadN X106 hx (D 19) rfl ?_
 refine s_iadd X106 hx (D 20) ?_
 rw [show ((Int32.ofNat cs.length) + (Int32.ofNat us.length)) = (Int32.ofNat (cs.length + us.length)) from (Int32.ofNat_add _ _).symm]
 show own_Ok p e below _ (T106.setTop (mkF m 40 #[.val (.ref a1), .val (.ref s1), .val (.int (Int32.ofNat us.length))] [(.int (Int32.ofNat (cs.length + us.length))), (.ref a1)]))
 have f108 := Pa10.keep K105
 obtain ⟨T109, h109, X109, e109, W109, st109⟩ := putF X106 hx hZ hown (host := "") (Or.inl (own_hw hw 195 rfl)) Via.refl e106 f107 f108 (Or.inl (own_hw hw 196 rfl)) (own_hw hw 168 rfl) (ty := .int) (by decide) rfl rfl (g := (mkF m 40 #[.val (.ref a1), .val (.ref s1), .val (.int (Int32.ofNat us.length))] [(.int (Int32.ofNat (cs.length + us.length))), (.ref a1)])) rfl rfl (D 21)
 refine own_st st109 ?_
 have F109 := f107.same W109
 have N109 := Fr.snoc X109 N105 g1
 show own_Ok p e below _ (T109.setTop (mkF m 43 #[.val (.ref a1), .val (.ref s1), .val (.int (Int32.ofNat us.length))] []))
 refine s_aloadN X109 hx (D 22) rfl rfl ?_
 have FX : Fld Z h109 a1 "java/lang/AbstractStringBuilder" "count" "I" (.int (Int32.ofNat (cs ++ us).length)) := by rw [List.length_append]; exact F109
 have f110 := (Keep.refl h0 [a1, b1]).trans K105 (allS (Or.inl (by simp)) all0)
 have f111 := f110.wr W109 (Or.inl (by simp))
 have f112 := f108.wr W109
 have f113 := Pa11.keep K105 (ninS ne1 nin0)
 have f114 := f113.other W109 (Or.inr (slot_ne (Or.inl (own_hw hw 182 rfl)) (Or.inl (own_hw hw 196 rfl)) (by decide) (t := (.array .byte)) (t' := .int) (by decide) (by decide)))
 have f115 := Pa12.keep K105 (ninS ne1 nin0)
 have f116 := f115.other W109 (Or.inr (slot_ne (Or.inl (own_hw hw 184 rfl)) (Or.inl (own_hw hw 196 rfl)) (by decide) (t := .byte) (t' := .int) (by decide) (by decide)))
 have f117 := Pa14.keep K105
 have f118 := f117.wr W109
 have f119 := g105_0.other W109 (Ne.symm ne1)
 exact own_retA X109 hx hlk (t := (.object "java/lang/AbstractStringBuilder")) rfl Bd.returns rfl (D 23) (by rw [e109]; exact ⟨rfl, N109, f111, f112, f114, f116, FX, f118, f119⟩) (by decide) (by decide)
theorem own_pd24 : parseMethodDescriptor "(Ljava/lang/String;)Ljava/lang/AbstractStringBuilder;" = some ⟨[(.object "java/lang/String")], some (.object "java/lang/AbstractStringBuilder")⟩ := by decide +kernel
theorem own_ef_rm_bas (m : MethodId) (a1 : Addr) (s1 : Addr) : entryFrame m #[(.ref a1), (.ref s1)] 2 = mkF m 0 #[.val (.ref a1), .val (.ref s1)] [] := by first | (simp [entryFrame, mkF, argsToLocals, Value.category]; done) | rfl
def t_rm_bas : List (Nat × Instr × Nat) := [(0, .aload_n 0, 1), (1, .aload_n 1, 1), (2, .invokespecial 29, 3), (5, .pop, 1), (6, .aload_n 0, 1), (7, .areturn, 1)]
theorem d_rm_bas (i : Nat) : decode jdk_67_method_7_code (t_rm_bas.getD i (0, .aload_n 0, 1)).1 = .ok (t_rm_bas.getD i (0, .aload_n 0, 1)).2 := own_dt (by decide +kernel) (List.mem_cons_self ..) i
def Q_rm_bas (Z : State) (G1 : Int32) (a1 : Addr) (b1 : Addr) (k1 : ClassId) (cs : List Int32) (s1 : Addr) (t2 : Addr) (k2 : ClassId) (us : List Int32) (nb : Nat) (h0 : Heap) (n0 : Nat) (v : Option Value) (h : Heap) (L : List Loc) : Prop := v = some (.ref a1) ∧ Fr nb L ∧ Keep h0 h [a1, b1] ∧ Exa Z h a1 "java/lang/StringBuilder" ∧ Fld Z h a1 "java/lang/AbstractStringBuilder" "value" "[B" (.ref b1) ∧ Fld Z h a1 "java/lang/AbstractStringBuilder" "coder" "B" (.int (0 : Int32)) ∧ Fld Z h a1 "java/lang/AbstractStringBuilder" "count" "I" (.int (Int32.ofNat (cs ++ us).length)) ∧ Exa Z h b1 "[B" ∧ Arv Z h b1 k1 .byte (16 : Int32) (own_sb (cs ++ us)) (.int (0 : Int32))
set_option maxRecDepth 65536 in
set_option maxHeartbeats 40000000 in
theorem rm_bas (l : Launch) (Z : State) (a0 : Array Value) (hw : ∀ d ∈ tables_1, d.before a0 Z = true) (ws : List Jvm.Cond) (G1 : Int32) (a1 : Addr) (b1 : Addr) (k1 : ClassId) (cs : List Int32) (s1 : Addr) (t2 : Addr) (k2 : ClassId) (us : List Int32) (nb : Nat) (h0 : Heap) (n0 : Nat) (O0 : Old Z n0 h0) (SG1 : Sta Z Z.heap "java/lang/String" "COMPACT_STRINGS" "Z" (.int G1)) (PG1 : ¬ (G1 = (0 : Int32))) (Pa10 : Exa Z h0 a1 "java/lang/StringBuilder") (Pa11 : Fld Z h0 a1 "java/lang/AbstractStringBuilder" "value" "[B" (.ref b1)) (Pa12 : Fld Z h0 a1 "java/lang/AbstractStringBuilder" "coder" "B" (.int (0 : Int32))) (Pa13 : Fld Z h0 a1 "java/lang/AbstractStringBuilder" "count" "I" (.int (Int32.ofNat cs.length))) (Pa14 : Exa Z h0 b1 "[B") (Pa15 : Arv Z h0 b1 k1 .byte (16 : Int32) (own_sb cs) (.int (0 : Int32))) (g1 : nb ≤ a1) (g2 : nb ≤ b1) (ne1 : a1 ≠ b1) (Qs10 : Exa Z h0 s1 "java/lang/String") (Qs11 : Fld Z h0 s1 "java/lang/String" "coder" "B" (.int (0 : Int32))) (Qs12 : Fld Z h0 s1 "java/lang/String" "value" "[B" (.ref t2)) (Qs13 : Arv Z h0 t2 k2 .byte (Int32.ofNat us.length) (us.map Value.int) (.int (0 : Int32))) (hA : own_A us) (h16 : cs.length + us.length ≤ 16) (hnb : nb ≤ h0.size) (hnn : n0 ≤ nb) :
    own_Met l Z (⟨"java/lang/StringBuilder", "append", "(Ljava/lang/String;)Ljava/lang/StringBuilder;"⟩ : MethodName) jdk_67_method_7_code 2 (some (.object "java/lang/StringBuilder")) ws ({ frames := 4, cells := 0, slots := 0, locals := 61 } : Room) #[(.ref a1), (.ref s1)] h0 (Q_rm_bas Z G1 a1 b1 k1 cs s1 t2 k2 us nb h0 n0) := by
 refine MetFree.of_bodySF (plainFor_of_name own_pn6) hisR ?_
 intro p e s m args below meth c s₁ Bd hml0 hP hK
 obtain ⟨rfl, hZ, hh⟩ := hP
 have hx := Bd.exec
 have hby := Bd.bytes
 have D := fun i => hb hby (d_rm_bas i)
 have hml : c.maxLocals = 2 := hml0
 have hown : s.vm.findClass "java/lang/StringBuilder" = some m.cls := findClass_of_methodNamed Bd.named
 have hnm := (name_of_methodNamed Bd.named Bd.method).1
 have hlk : meth.locks = false := Bd.notSynchronized
 have X0 : Stand p l e ({ frames := 4, cells := 0, slots := 0, locals := 61 } : Room) s m #[(.ref a1), (.ref s1)] below meth c s₁ [] 0 0 := Stand.of_body Bd
 have e0 : s₁.heap = h0 := by rw [← hh, Bd.state]; rfl
 have N0 := Fr.nil nb
 suffices hgo : own_Ok p e below (own_Qx s (Q_rm_bas Z G1 a1 b1 k1 cs s1 t2 k2 us nb h0 n0) 0 0) (s₁.setTop (mkF m 0 #[.val (.ref a1), .val (.ref s1)] [])) from by
   obtain ⟨s₂, o, h1, h2⟩ := hgo
   exact ⟨s₂, o, castTop (own_ef_rm_bas m a1 s1) h1, h2⟩
 show own_Ok p e below _ (s₁.setTop (mkF m 0 #[.val (.ref a1), .val (.ref s1)] []))
 refine s_aloadN X0 hx (D 0) rfl rfl ?_
 refine s_aloadN X0 hx (D 1) rfl rfl ?_
 obtain ⟨_, T101, Lc101, X101, hQ101, st101⟩ := own_callU X0 hx hZ hown (own_hw hw 217 rfl) (own_hw hw 219 rfl) (own_hw hw 201 rfl) rfl (own_hw hw 192 rfl) (own_hw hw 218 rfl) (own_hw hw 177 rfl) (own_hw hw 220 rfl) (rm_aas l Z a0 hw [] G1 a1 b1 k1 cs s1 t2 k2 us nb h0 n0 O0 SG1 PG1 Pa10 Pa11 Pa12 Pa13 Pa14 Pa15 g1 g2 ne1 Qs10 Qs11 Qs12 Qs13 hA h16 (Nat.le_trans hnb (Keep.refl h0 [a1, b1]).1) hnn) (by decide) (by decide) e0 Pa10 (Ls := #[.val (.ref a1), .val (.ref s1)]) [(.ref s1)] [] rfl (by rw [hml]; rfl) (lenOf own_pd24 rfl) (D 2) (by decide) 0 rfl (by decide) (by decide) (by decide)
 obtain ⟨rfl, Nq101, K101, g101_0, g101_1, g101_2, g101_3, g101_4, g101_5⟩ := hQ101
 have N101 := Fr.app N0 Nq101
 refine st101 _ ?_
 have e101 : T101.heap = T101.heap := rfl
 refine s_pop X101 hx (D 3) rfl ?_
 refine s_aloadN X101 hx (D 4) rfl rfl ?_
 have f102 := (Keep.refl h0 [a1, b1]).trans K101 (allS (Or.inl (by simp)) (allS (Or.inl (by simp)) all0))
 exact own_retA X101 hx hlk (t := (.object "java/lang/StringBuilder")) rfl Bd.returns rfl (D 5) (by rw [e101]; exact ⟨rfl, N101, f102, g101_0, g101_1, g101_2, g101_3, g101_4, g101_5⟩) (by decide) (by decide)
theorem own_ef_rm_fil (m : MethodId) (bz : Addr) : entryFrame m #[(.ref bz), (.int (48 : Int32))] 4 = mkF m 0 #[.val (.ref bz), .val (.int (48 : Int32)), .unset, .unset] [] := by first | (simp [entryFrame, mkF, argsToLocals, Value.category]; done) | rfl
def t_rm_fil : List (Nat × Instr × Nat) := [(5, .iload_n 2, 1), (6, .iload_n 3, 1), (7, .if_icmp .ge 13, 3), (10, .aload_n 0, 1), (11, .iload_n 2, 1), (12, .iload_n 1, 1), (13, .bastore, 1), (14, .iinc 2 1, 3), (17, .goto (-12), 3), (20, .return_, 1), (0, .iconst 0, 1), (1, .istore_n 2, 1), (2, .aload_n 0, 1), (3, .arraylength, 1), (4, .istore_n 3, 1)]
theorem d_rm_fil (i : Nat) : decode jdk_65_method_109_code (t_rm_fil.getD i (5, .iload_n 2, 1)).1 = .ok (t_rm_fil.getD i (5, .iload_n 2, 1)).2 := own_dt (by decide +kernel) (List.mem_cons_self ..) i
def Q_rm_fil (Z : State) (bz : Addr) (kz : ClassId) (mm : Nat) (vs : List Value) (nb : Nat) (h0 : Heap) (n0 : Nat) (v : Option Value) (h : Heap) (L : List Loc) : Prop := v = none ∧ Fr nb L ∧ Keep h0 h [bz] ∧ Arv Z h bz kz .byte (Int32.ofNat mm) ((List.replicate mm (48 : Int32)).map Value.int) (.int (0 : Int32))
theorem own_pn7 : plainName "java/util/Arrays" = true := by first | (simp [plainName, overriddenIn]; done) | decide +kernel
set_option maxRecDepth 65536 in
set_option maxHeartbeats 40000000 in
theorem rm_fil (l : Launch) (Z : State) (a0 : Array Value) (hw : ∀ d ∈ tables_1, d.before a0 Z = true) (ws : List Jvm.Cond) (bz : Addr) (kz : ClassId) (mm : Nat) (vs : List Value) (nb : Nat) (h0 : Heap) (n0 : Nat) (O0 : Old Z n0 h0) (VZ : Arv Z h0 bz kz .byte (Int32.ofNat mm) vs (.int (0 : Int32))) (hm : vs.length = mm) (hm9 : mm ≤ 4000) (g1 : nb ≤ bz) (hnb : nb ≤ h0.size) (hnn : n0 ≤ nb) :
    own_Met l Z (⟨"java/util/Arrays", "fill", "([BB)V"⟩ : MethodName) jdk_65_method_109_code 4 none ws ({ frames := 0, cells := 0, slots := 0, locals := 0 } : Room) #[(.ref bz), (.int (48 : Int32))] h0 (Q_rm_fil Z bz kz mm vs nb h0 n0) := by
 refine MetFree.of_bodySF (plainFor_of_name own_pn7) hisR ?_
 intro p e s m args below meth c s₁ Bd hml0 hP hK
 obtain ⟨rfl, hZ, hh⟩ := hP
 have hx := Bd.exec
 have hby := Bd.bytes
 have D := fun i => hb hby (d_rm_fil i)
 have hml : c.maxLocals = 4 := hml0
 have hown : s.vm.findClass "java/util/Arrays" = some m.cls := findClass_of_methodNamed Bd.named
 have hnm := (name_of_methodNamed Bd.named Bd.method).1
 have hlk : meth.locks = false := Bd.notSynchronized
 have X0 : Stand p l e ({ frames := 0, cells := 0, slots := 0, locals := 0 } : Room) s m #[(.ref bz), (.int (48 : Int32))] below meth c s₁ [] 0 0 := Stand.of_body Bd
 have e0 : s₁.heap = h0 := by rw [← hh, Bd.state]; rfl
 have N0 := Fr.nil nb
 suffices hgo : own_Ok p e below (own_Qx s (Q_rm_fil Z bz kz mm vs nb h0 n0) 0 0) (s₁.setTop (mkF m 0 #[.val (.ref bz), .val (.int (48 : Int32)), .unset, .unset] [])) from by
   obtain ⟨s₂, o, h1, h2⟩ := hgo
   exact ⟨s₂, o, castTop (own_ef_rm_fil m bz) h1, h2⟩
 have cut5 : ∀ (fuel : Nat), ∀ (T : State) (locs : List Loc) (h : Heap) (q : Nat) (X : Stand p l e ({ frames := 0, cells := 0, slots := 0, locals := 0 } : Room) s m #[(.ref bz), (.int (48 : Int32))] below meth c T locs 0 0) (eh : T.heap = h) (N : Fr nb locs) (O : Old Z n0 h) (KK : Keep h0 h [bz]) (cf0 : Arv Z h bz kz .byte (Int32.ofNat mm) (own_fl vs q) (.int (0 : Int32))) (hq : q ≤ mm) (hms : mm - q = fuel), own_Ok p e below (own_Qx s (Q_rm_fil Z bz kz mm vs nb h0 n0) 0 0) (T.setTop (mkF m 5 #[.val (.ref bz), .val (.int (48 : Int32)), .val (.int (Int32.ofNat q)), .val (.int (Int32.ofNat mm))] [])) := by
  intro fuel
  induction fuel using Nat.strongRecOn with
  | ind fuel ih =>
   intro T locs h q X eh N O KK cf0 hq hms
   show own_Ok p e below _ (T.setTop (mkF m 5 #[.val (.ref bz), .val (.int (48 : Int32)), .val (.int (Int32.ofNat q)), .val (.int (Int32.ofNat mm))] []))
   refine s_iloadN X hx (D 0) rfl ?_
   refine s_iloadN X hx (D 1) rfl ?_
   by_cases c7_101 : (Int32.ofNat q) < (Int32.ofNat mm)
   ·skip
    refine s_icmpNo X hx (D 2) (XT.ii_ge_f c7_101) ?_
    have hq1 : q + 1 ≤ mm := own_ltN (by omega) (by omega) c7_101
    refine s_aloadN X hx (D 3) rfl rfl ?_
    refine s_iloadN X hx (D 4) rfl ?_
    refine s_iloadN X hx (D 5) rfl ?_
    refine t_B X hx hZ eh cf0 q (own_tnc (own_oN (by omega))) (own_n0N (by omega)) (own_Nlt (by omega) (by omega) (by omega)) (by rw [own_fll (by omega)]; omega) N g1 (D 6) fun T102 h102 X102 e102 W102 V102 N102 => ?_
    refine s_iinc X102 hx (1 : Int32) (D 7) rfl rfl #[.val (.ref bz), .val (.int (48 : Int32)), .val (.int ((Int32.ofNat q) + (1 : Int32))), .val (.int (Int32.ofNat mm))] rfl ?_
    refine s_goto X102 hx 5 (D 8) (by decide) (by decide) ?_
    rw [show ((Int32.ofNat q) + (1 : Int32)) = (Int32.ofNat (q + 1)) from own_suc q]
    show own_Ok p e below _ (T102.setTop (mkF m 5 #[.val (.ref bz), .val (.int (48 : Int32)), .val (.int (Int32.ofNat (q + 1))), .val (.int (Int32.ofNat mm))] []))
    have VQ : Arv Z h102 bz kz .byte (Int32.ofNat mm) (own_fl vs (q + 1)) (.int (0 : Int32)) := by rw [← own_flS (by omega)]; exact V102
    have f103 := O.wr W102 (Nat.le_trans hnn g1)
    have f104 := KK.wr W102 (Or.inl (by simp))
    exact ih _ (by omega) _ _ _ ((q + 1)) X102 e102 N102 f103 f104 VQ hq1 rfl
   ·skip
    refine s_icmpYes X hx 20 (D 2) (XT.ii_ge_t c7_101) (by decide) (by decide) ?_
    have hq1 : q = mm := by have := own_geN (by omega) (by omega) c7_101; omega
    have VF : Arv Z h bz kz .byte (Int32.ofNat mm) ((List.replicate mm (48 : Int32)).map Value.int) (.int (0 : Int32)) := by rw [← own_flE hm]; have q_ := cf0; rw [hq1] at q_; exact q_
    exact own_retV X hx hlk Bd.returns (D 9) (by rw [eh]; exact ⟨rfl, N, KK, VF⟩) (by decide) (by decide)
 show own_Ok p e below _ (s₁.setTop (mkF m 0 #[.val (.ref bz), .val (.int (48 : Int32)), .unset, .unset] []))
 refine s_iconst X0 hx (0 : Int32) (D 10) rfl ?_
 refine s_istoreN X0 hx (D 11) #[.val (.ref bz), .val (.int (48 : Int32)), .val (.int (0 : Int32)), .unset] rfl ?_
 refine s_aloadN X0 hx (D 12) rfl rfl ?_
 refine own_st (own_len X0 hx hZ e0 VZ (g := (mkF m 3 #[.val (.ref bz), .val (.int (48 : Int32)), .val (.int (0 : Int32)), .unset] [(.ref bz)])) rfl rfl (D 13)) ?_
 show own_Ok p e below _ (s₁.setTop (mkF m 4 #[.val (.ref bz), .val (.int (48 : Int32)), .val (.int (0 : Int32)), .unset] [(.int (Int32.ofNat mm))]))
 refine s_istoreN X0 hx (D 14) #[.val (.ref bz), .val (.int (48 : Int32)), .val (.int (0 : Int32)), .val (.int (Int32.ofNat mm))] rfl ?_
 exact cut5 _ _ _ _ 0 X0 e0 N0 O0 ((Keep.refl h0 [bz])) VZ (Nat.zero_le _) rfl
theorem own_ef_rm_rep (m : MethodId) (a1 : Addr) (rk : Nat) : entryFrame m #[(.ref a1), (.int (Int32.ofNat rk))] 5 = mkF m 0 #[.val (.ref a1), .val (.int (Int32.ofNat rk)), .unset, .unset, .unset] [] := by first | (simp [entryFrame, mkF, argsToLocals, Value.category]; done) | rfl
def t_rm_rep : List (Nat × Instr × Nat) := [(0, .iload_n 1, 1), (1, .ifCond .ge 31, 3), (32, .iload_n 1, 1), (33, .iconst 1, 1), (34, .if_icmp .ne 5, 3), (39, .aload_n 0, 1), (40, .getfield 9, 3), (43, .arraylength, 1), (44, .istore_n 2, 1), (45, .iload_n 2, 1), (46, .ifCond .eq 7, 3), (49, .iload_n 1, 1), (50, .ifCond .ne 6, 3), (53, .ldc 7, 2), (55, .areturn, 1), (37, .aload_n 0, 1), (38, .areturn, 1), (56, .ldc_w 943, 3), (59, .iload_n 1, 1), (60, .idiv, 1), (61, .iload_n 2, 1), (62, .if_icmp .ge 14, 3), (76, .iload_n 2, 1), (77, .iconst 1, 1), (78, .if_icmp .ne 30, 3), (81, .iload_n 1, 1), (82, .newarray .byte, 2), (84, .astore_n 3, 1), (85, .aload_n 3, 1), (86, .aload_n 0, 1), (87, .getfield 9, 3), (90, .iconst 0, 1), (91, .baload, 1), (92, .invokestatic 1041, 3), (95, .new 10, 3), (98, .dup, 1), (99, .aload_n 3, 1), (100, .aload_n 0, 1), (101, .getfield 15, 3), (104, .invokespecial 209, 3), (107, .areturn, 1)]
theorem d_rm_rep (i : Nat) : decode jdk_42_method_145_code (t_rm_rep.getD i (0, .iload_n 1, 1)).1 = .ok (t_rm_rep.getD i (0, .iload_n 1, 1)).2 := own_dt (by decide +kernel) (List.mem_cons_self ..) i
def Q_rm_rep (Z : State) (a1 : Addr) (t1 : Addr) (k1 : ClassId) (rk : Nat) (nb : Nat) (h0 : Heap) (n0 : Nat) (v : Option Value) (h : Heap) (L : List Loc) : Prop := ∃ (az : Addr), ∃ (tz : Addr), ∃ (kz : ClassId), v = some (.ref az) ∧ Fr nb L ∧ Keep h0 h [] ∧ Exa Z h az "java/lang/String" ∧ Fld Z h az "java/lang/String" "coder" "B" (.int (0 : Int32)) ∧ Fld Z h az "java/lang/String" "value" "[B" (.ref tz) ∧ Arv Z h tz kz .byte (Int32.ofNat (List.replicate rk (48 : Int32)).length) ((List.replicate rk (48 : Int32)).map Value.int) (.int (0 : Int32))
set_option maxRecDepth 65536 in
set_option maxHeartbeats 40000000 in
theorem rm_rep (l : Launch) (Z : State) (a0 : Array Value) (hw : ∀ d ∈ tables_1, d.before a0 Z = true) (ws : List Jvm.Cond) (a1 : Addr) (t1 : Addr) (k1 : ClassId) (rk : Nat) (nb : Nat) (h0 : Heap) (n0 : Nat) (O0 : Old Z n0 h0) (hc3 : Jvm.Lit.constHeld Z "java/lang/String" 7) (hcw : Jvm.Lit.compactW.before a0 Z = true) (Qa0 : Exa Z h0 a1 "java/lang/String") (Qa1 : Fld Z h0 a1 "java/lang/String" "coder" "B" (.int (0 : Int32))) (Qa2 : Fld Z h0 a1 "java/lang/String" "value" "[B" (.ref t1)) (Qa3 : Arv Z h0 t1 k1 .byte (1 : Int32) [(.int (48 : Int32))] (.int (0 : Int32))) (hrk : rk ≤ 6) (hnb : nb ≤ h0.size) (hnn : n0 ≤ nb) :
    own_MetI l Z (⟨"java/lang/String", "repeat", "(I)Ljava/lang/String;"⟩ : MethodName) jdk_42_method_145_code 5 (some (.object "java/lang/String")) ws ({ frames := 2, cells := 2, slots := 10, locals := 27 } : Room) #[(.ref a1), (.int (Int32.ofNat rk))] h0 (Q_rm_rep Z a1 t1 k1 rk nb h0 n0) (["0", "."] : List String) := by
 refine MetFree.of_bodySF (plainFor_of_name own_pn1) hisR ?_
 intro p e s m args below meth c s₁ Bd hml0 hP hK
 obtain ⟨rfl, hZ, hh, hIB⟩ := hP
 have hx := Bd.exec
 have hby := Bd.bytes
 have D := fun i => hb hby (d_rm_rep i)
 have hml : c.maxLocals = 5 := hml0
 have hown : s.vm.findClass "java/lang/String" = some m.cls := findClass_of_methodNamed Bd.named
 have hnm := (name_of_methodNamed Bd.named Bd.method).1
 have hlk : meth.locks = false := Bd.notSynchronized
 have X0 : Stand p l e ({ frames := 2, cells := 2, slots := 10, locals := 27 } : Room) (s.setVm s.vm) m #[(.ref a1), (.int (Int32.ofNat rk))] below meth c s₁ [] 0 0 := Stand.of_body Bd
 have hS : s.Since s.vm 0 := (State.WarmedH.refl s).since 0
 have hk0 : 0 ≤ h0.size := Nat.zero_le _
 have e0 : s₁.heap = h0 := by rw [← hh, Bd.state]; rfl
 have N0 := Fr.nil nb
 suffices hgo : own_Ok p e below (own_QxW s (Q_rm_rep Z a1 t1 k1 rk nb h0 n0) 2 10) (s₁.setTop (mkF m 0 #[.val (.ref a1), .val (.int (Int32.ofNat rk)), .unset, .unset, .unset] [])) from by
   obtain ⟨s₂, o, h1, h2⟩ := hgo
   exact ⟨s₂, o, castTop (own_ef_rm_rep m a1 rk) h1, h2⟩
 have hwS : ∀ d ∈ Bundle.stringAtoms, d.before a0 Z = true := fun d hd => hw d ((by decide +kernel : ∀ d ∈ Bundle.stringAtoms, d ∈ tables_1) d hd)
 show own_Ok p e below _ (s₁.setTop (mkF m 0 #[.val (.ref a1), .val (.int (Int32.ofNat rk)), .unset, .unset, .unset] []))
 have hcase : rk = 0 ∨ rk = 1 ∨ 2 ≤ rk := by omega
 rcases hcase with rfl | rfl | hk2
 ·skip
  show own_Ok p e below _ (s₁.setTop (mkF m 0 #[.val (.ref a1), .val (.int (0 : Int32)), .unset, .unset, .unset] []))
  refine s_iloadN X0 hx (D 0) rfl ?_
  refine s_ifYes X0 hx 32 (D 1) (XT.i0_ge_t (by decide)) (by decide) (by decide) ?_
  refine s_iloadN X0 hx (D 2) rfl ?_
  refine s_iconst X0 hx (1 : Int32) (D 3) rfl ?_
  refine s_icmpYes X0 hx 39 (D 4) (XT.ii_ne_t (by decide)) (by decide) (by decide) ?_
  refine s_aloadN X0 hx (D 5) rfl rfl ?_
  obtain ⟨T101, X101, e101, st101⟩ := getF X0 hx hZ hown (host := "") (Or.inl (own_hw hw 56 rfl)) Via.refl e0 Qa2 (g := (mkF m 40 #[.val (.ref a1), .val (.int (0 : Int32)), .unset, .unset, .unset] [(.ref a1)])) rfl rfl (D 6)
  refine own_st st101 ?_
  show own_Ok p e below _ (T101.setTop (mkF m 43 #[.val (.ref a1), .val (.int (0 : Int32)), .unset, .unset, .unset] [(.ref t1)]))
  refine own_st (own_len X101 hx hZ e101 Qa3 (g := (mkF m 43 #[.val (.ref a1), .val (.int (0 : Int32)), .unset, .unset, .unset] [(.ref t1)])) rfl rfl (D 7)) ?_
  show own_Ok p e below _ (T101.setTop (mkF m 44 #[.val (.ref a1), .val (.int (0 : Int32)), .unset, .unset, .unset] [(.int (1 : Int32))]))
  refine s_istoreN X101 hx (D 8) #[.val (.ref a1), .val (.int (0 : Int32)), .val (.int (1 : Int32)), .unset, .unset] rfl ?_
  refine s_iloadN X101 hx (D 9) rfl ?_
  refine s_ifNo X101 hx (D 10) (XT.i0_eq_f (by decide)) ?_
  refine s_iloadN X101 hx (D 11) rfl ?_
  refine s_ifNo X101 hx (D 12) (XT.i0_ne_f (by decide)) ?_
  obtain ⟨aS102, T102, h102, kk102, bS102, kS102, X102, e102, E102, hS102, hk102, hZ102, hown102, gE102, gC102, gV102, gA102, ga102, gb102, IB102, LT102, st102⟩ := ldcSVL X101 hx hZ hown (own_hw hw 248 rfl) hwS e101 hS hk0 (Fr.nil _) (fun b cl q => by rw [hh]; exact O0.2.2 b cl q) hIB (by decide) hc3 hcw (vs := []) (z := (0 : Int32)) ⟨by decide, rfl⟩ (by decide) rfl (g := (mkF m 53 #[.val (.ref a1), .val (.int (0 : Int32)), .val (.int (1 : Int32)), .unset, .unset] [])) rfl (D 13) (n := 0) (by decide) (by decide) (by decide) (by decide)
  refine own_st st102 ?_
  show own_Ok p e below _ (T102.setTop (mkF m 55 #[.val (.ref a1), .val (.int (0 : Int32)), .val (.int (1 : Int32)), .unset, .unset] [(.ref aS102)]))
  have f103 := (Keep.refl h0 []).ext E102
  exact own_retAW X102 hS102 (by rw [e102]; exact hk102) hx hlk (t := (.object "java/lang/String")) rfl Bd.returns rfl (D 14) (by rw [e102]; exact ⟨aS102, bS102, kS102, rfl, N0, f103, gE102, gC102, gV102, gA102⟩) (by decide) (by decide)
 ·skip
  show own_Ok p e below _ (s₁.setTop (mkF m 0 #[.val (.ref a1), .val (.int (1 : Int32)), .unset, .unset, .unset] []))
  refine s_iloadN X0 hx (D 0) rfl ?_
  refine s_ifYes X0 hx 32 (D 1) (XT.i0_ge_t (by decide)) (by decide) (by decide) ?_
  refine s_iloadN X0 hx (D 2) rfl ?_
  refine s_iconst X0 hx (1 : Int32) (D 3) rfl ?_
  refine s_icmpNo X0 hx (D 4) (XT.ii_ne_f (by decide)) ?_
  refine s_aloadN X0 hx (D 15) rfl rfl ?_
  exact own_retAW X0 hS (by rw [e0]; exact hk0) hx hlk (t := (.object "java/lang/String")) rfl Bd.returns rfl (D 16) (by rw [e0]; exact ⟨a1, t1, k1, rfl, N0, (Keep.refl h0 []), Qa0, Qa1, Qa2, Qa3⟩) (by decide) (by decide)
 ·skip
  obtain ⟨hkz, hk1, hkd⟩ := own_rk0 hk2 hrk
  refine s_iloadN X0 hx (D 0) rfl ?_
  refine s_ifYes X0 hx 32 (D 1) (XT.i0_ge_t (own_n0N (by omega))) (by decide) (by decide) ?_
  refine s_iloadN X0 hx (D 2) rfl ?_
  refine s_iconst X0 hx (1 : Int32) (D 3) rfl ?_
  refine s_icmpYes X0 hx 39 (D 4) (XT.ii_ne_t hk1) (by decide) (by decide) ?_
  refine s_aloadN X0 hx (D 5) rfl rfl ?_
  obtain ⟨T104, X104, e104, st104⟩ := getF X0 hx hZ hown (host := "") (Or.inl (own_hw hw 56 rfl)) Via.refl e0 Qa2 (g := (mkF m 40 #[.val (.ref a1), .val (.int (Int32.ofNat rk)), .unset, .unset, .unset] [(.ref a1)])) rfl rfl (D 6)
  refine own_st st104 ?_
  show own_Ok p e below _ (T104.setTop (mkF m 43 #[.val (.ref a1), .val (.int (Int32.ofNat rk)), .unset, .unset, .unset] [(.ref t1)]))
  refine own_st (own_len X104 hx hZ e104 Qa3 (g := (mkF m 43 #[.val (.ref a1), .val (.int (Int32.ofNat rk)), .unset, .unset, .unset] [(.ref t1)])) rfl rfl (D 7)) ?_
  show own_Ok p e below _ (T104.setTop (mkF m 44 #[.val (.ref a1), .val (.int (Int32.ofNat rk)), .unset, .unset, .unset] [(.int (1 : Int32))]))
  refine s_istoreN X104 hx (D 8) #[.val (.ref a1), .val (.int (Int32.ofNat rk)), .val (.int (1 : Int32)), .unset, .unset] rfl ?_
  refine s_iloadN X104 hx (D 9) rfl ?_
  refine s_ifNo X104 hx (D 10) (XT.i0_eq_f (by decide)) ?_
  refine s_iloadN X104 hx (D 11) rfl ?_
  refine s_ifYes X104 hx 56 (D 12) (XT.i0_ne_t hkz) (by decide) (by decide) ?_
  refine own_st (fun _ k => Jvm.Stand.ldcWI X104 hx hown (mvT hZ (own_hw hw 310 rfl)) rfl (D 17) k) ?_
  show own_Ok p e below _ (T104.setTop (mkF m 59 #[.val (.ref a1), .val (.int (Int32.ofNat rk)), .val (.int (1 : Int32)), .unset, .unset] [(.int (2147483647 : Int32))]))
  refine s_iloadN X104 hx (D 18) rfl ?_
  refine s_idiv X104 hx (D 19) hkz ?_
  refine s_iloadN X104 hx (D 20) rfl ?_
  refine s_icmpYes X104 hx 76 (D 21) (XT.ii_ge_t hkd) (by decide) (by decide) ?_
  refine s_iloadN X104 hx (D 22) rfl ?_
  refine s_iconst X104 hx (1 : Int32) (D 23) rfl ?_
  refine s_icmpNo X104 hx (D 24) (XT.ii_ne_f (by decide)) ?_
  refine s_iloadN X104 hx (D 25) rfl ?_
  obtain ⟨T105, h105, k105, X105, e105, E105, A105, st105⟩ := newP X104 hx hZ (own_hw hw 47 rfl) e104 (g := (mkF m 82 #[.val (.ref a1), .val (.int (Int32.ofNat rk)), .val (.int (1 : Int32)), .unset, .unset] [(.int (Int32.ofNat rk))])) rfl (D 26) rfl (own_n0N (by omega)) (cap := 6) (by rw [own_tnc (own_oN (by omega))]; exact hrk) (by decide) (by decide) (by decide)
  obtain ⟨b105, g105⟩ : ∃ z, z = h0.size := ⟨_, rfl⟩
  rw [← g105] at A105 st105
  refine own_st st105 ?_
  have gb_b105 : n0 ≤ b105 := Nat.le_trans (own_n0 O0) (Nat.le_of_eq g105.symm)
  have gz_b105 : h0.size ≤ b105 := Nat.le_trans (Keep.refl h0 []).1 (Nat.le_of_eq g105.symm)
  have ne_a1_b105 : a1 ≠ b105 := Nat.ne_of_lt (Nat.lt_of_lt_of_le Qa0.lt (Nat.le_of_eq g105.symm))
  have ne_t1_b105 : t1 ≠ b105 := Nat.ne_of_lt (Nat.lt_of_lt_of_le Qa3.lt (Nat.le_of_eq g105.symm))
  have V105 : Arv Z h105 b105 k105 .byte (Int32.ofNat rk) (List.replicate ((Int32.ofNat rk)).toNatClampNeg (.int (0 : Int32))) (.int (0 : Int32)) := (Arv.new A105 (own_n0N (by omega))).pad (pad_rep [] (.int (0 : Int32)) _)
  show own_Ok p e below _ (T105.setTop (mkF m 84 #[.val (.ref a1), .val (.int (Int32.ofNat rk)), .val (.int (1 : Int32)), .unset, .unset] [(.ref b105)]))
  refine s_astoreN X105 hx (D 27) rfl #[.val (.ref a1), .val (.int (Int32.ofNat rk)), .val (.int (1 : Int32)), .val (.ref b105), .unset] rfl ?_
  refine s_aloadN X105 hx (D 28) rfl rfl ?_
  refine s_aloadN X105 hx (D 29) rfl rfl ?_
  have f107 := Qa2.ext E105
  obtain ⟨T106, X106, e106, st106⟩ := getF X105 hx hZ hown (host := "") (Or.inl (own_hw hw 56 rfl)) Via.refl e105 f107 (g := (mkF m 87 #[.val (.ref a1), .val (.int (Int32.ofNat rk)), .val (.int (1 : Int32)), .val (.ref b105), .unset] [(.ref a1), (.ref b105)])) rfl rfl (D 30)
  refine own_st st106 ?_
  show own_Ok p e below _ (T106.setTop (mkF m 90 #[.val (.ref a1), .val (.int (Int32.ofNat rk)), .val (.int (1 : Int32)), .val (.ref b105), .unset] [(.ref t1), (.ref b105)]))
  refine s_iconst X106 hx (0 : Int32) (D 31) rfl ?_
  have f108 := Qa3.ext E105
  refine l_B X106 hx hZ e106 f108 (v := (48 : Int32)) (by decide) (by decide) rfl (D 32) ?_
  have hrl : ((List.replicate ((Int32.ofNat rk)).toNatClampNeg (.int (0 : Int32))) : List Value).length = rk := by rw [List.length_replicate, own_tnc (own_oN (by omega))]
  have f110 := (Keep.refl h0 []).ext E105
  have f111 := O0.ext E105
  obtain ⟨_, T109, Lc109, X109, hQ109, st109⟩ := own_callS X106 hx hZ hown (own_hw hw 311 rfl) (own_hw hw 312 rfl) (own_hw hw 277 rfl) (own_hw hw 313 rfl) (rm_fil l Z a0 hw [] b105 k105 rk ((List.replicate ((Int32.ofNat rk)).toNatClampNeg (.int (0 : Int32)))) nb h105 n0 f111 V105 hrl (by omega) (Nat.le_trans hnb gz_b105) (Nat.le_trans hnb f110.1) hnn) (by decide) e106 (Ls := #[.val (.ref a1), .val (.int (Int32.ofNat rk)), .val (.int (1 : Int32)), .val (.ref b105), .unset]) [(.ref b105), (.int (48 : Int32))] [] rfl (by rw [hml]; rfl) (lenOf own_pd18 rfl) (D 33) (by decide) 0 rfl (by decide) (by decide) (by decide)
  obtain ⟨rfl, Nq109, K109, g109_0⟩ := hQ109
  have N109 := Fr.app N0 Nq109
  refine st109 _ ?_
  have e109 : T109.heap = T109.heap := rfl
  obtain ⟨T112, h112, X112, e112, E112, A112, D112, -, st112⟩ := newO X109 hx hZ hown (own_hw hw 314 rfl) (own_hw hw 30 rfl) (own_hw hw 31 rfl) e109 (g := (mkF m 95 #[.val (.ref a1), .val (.int (Int32.ofNat rk)), .val (.int (1 : Int32)), .val (.ref b105), .unset] [])) rfl (D 34) (by decide) (by decide)
  obtain ⟨b112, g112⟩ : ∃ z, z = T109.heap.size := ⟨_, rfl⟩
  rw [← g112] at A112 D112 st112
  refine own_st st112 ?_
  have f113 := f111.keep K109 (allS gb_b105 all0)
  have gb_b112 : n0 ≤ b112 := Nat.le_trans (own_n0 f113) (Nat.le_of_eq g112.symm)
  have f114 := f110.trans K109 (allS (Or.inr gz_b105) all0)
  have gz_b112 : h0.size ≤ b112 := Nat.le_trans f114.1 (Nat.le_of_eq g112.symm)
  have f115 := Qa0.ext E105
  have f116 := f115.keep K109
  have ne_a1_b112 : a1 ≠ b112 := Nat.ne_of_lt (Nat.lt_of_lt_of_le f116.lt (Nat.le_of_eq g112.symm))
  have f117 := f108.keep K109 (ninS ne_t1_b105 nin0)
  have ne_t1_b112 : t1 ≠ b112 := Nat.ne_of_lt (Nat.lt_of_lt_of_le f117.lt (Nat.le_of_eq g112.symm))
  have ne_b105_b112 : b105 ≠ b112 := Nat.ne_of_lt (Nat.lt_of_lt_of_le g109_0.lt (Nat.le_of_eq g112.symm))
  have F112_coder : Fld Z h112 b112 "java/lang/String" "coder" "B" (.int (0 : Int32)) := D112 (Or.inr (own_hw hw 55 rfl)) (ty := .byte) (by decide)
  have F112_value : Fld Z h112 b112 "java/lang/String" "value" "[B" .null := D112 (Or.inr (own_hw hw 57 rfl)) (ty := (.array .byte)) (by decide)
  show own_Ok p e below _ (T112.setTop (mkF m 98 #[.val (.ref a1), .val (.int (Int32.ofNat rk)), .val (.int (1 : Int32)), .val (.ref b105), .unset] [(.ref b112)]))
  refine s_dup X112 hx (D 35) rfl ?_
  refine s_aloadN X112 hx (D 36) rfl rfl ?_
  refine s_aloadN X112 hx (D 37) rfl rfl ?_
  have f119 := Qa1.ext E105
  have f120 := f119.keep K109 (ninS ne_a1_b105 nin0)
  have f121 := f120.ext E112
  obtain ⟨T118, X118, e118, st118⟩ := getF X112 hx hZ hown (host := "") (Or.inl (own_hw hw 54 rfl)) Via.refl e112 f121 (g := (mkF m 101 #[.val (.ref a1), .val (.int (Int32.ofNat rk)), .val (.int (1 : Int32)), .val (.ref b105), .unset] [(.ref a1), (.ref b105), (.ref b112), (.ref b112)])) rfl rfl (D 38)
  refine own_st st118 ?_
  show own_Ok p e below _ (T118.setTop (mkF m 104 #[.val (.ref a1), .val (.int (Int32.ofNat rk)), .val (.int (1 : Int32)), .val (.ref b105), .unset] [(.int (0 : Int32)), (.ref b105), (.ref b112), (.ref b112)]))
  have f123 := f114.ext E112
  have f124 := f113.ext E112
  obtain ⟨_, T122, Lc122, X122, hQ122, st122⟩ := own_callN X118 hx hZ hown (own_hw hw 315 rfl) (own_hw hw 165 rfl) (own_hw hw 31 rfl) (own_hw hw 166 rfl) (rm_ibb l Z a0 hw [] b112 b105 nb h112 n0 f124 A112 F112_coder F112_value (Nat.le_trans hnb gz_b112) (Nat.le_trans hnb f123.1) hnn) rfl (by decide) e118 (Ls := #[.val (.ref a1), .val (.int (Int32.ofNat rk)), .val (.int (1 : Int32)), .val (.ref b105), .unset]) b112 [(.ref b105), (.int (0 : Int32))] [(.ref b112)] rfl (by rw [hml]; rfl) (lenOf own_pd18 rfl) (D 39) (by decide) 1 rfl (by decide) (by decide) (by decide)
  obtain ⟨rfl, Nq122, K122, g122_0, g122_1, g122_2⟩ := hQ122
  have N122 := Fr.app N109 Nq122
  refine st122 _ ?_
  have e122 : T122.heap = T122.heap := rfl
  have f125 := g109_0.ext E112
  have f126 := f125.keep K122 (ninS ne_b105_b112 nin0)
  have VR : Arv Z T122.heap b105 k105 .byte (Int32.ofNat (List.replicate rk (48 : Int32)).length) ((List.replicate rk (48 : Int32)).map Value.int) (.int (0 : Int32)) := by rw [List.length_replicate]; exact f126
  have f127 := f123.trans K122 (allS (Or.inr gz_b112) all0)
  have f128 := Nat.le_trans hk0 E105.1
  have f129 := Nat.le_trans f128 K109.1
  have f130 := Nat.le_trans f129 E112.1
  have f131 := Nat.le_trans f130 K122.1
  exact own_retAW X122 hS (by rw [e122]; exact f131) hx hlk (t := (.object "java/lang/String")) rfl Bd.returns rfl (D 40) (by rw [e122]; exact ⟨b112, b105, k105, rfl, N122, f127, g122_0, g122_1, g122_2, VR⟩) (by decide) (by decide)
theorem own_ef_rm_gvl (m : MethodId) (a1 : Addr) : entryFrame m #[(.ref a1)] 1 = mkF m 0 #[.val (.ref a1)] [] := by first | (simp [entryFrame, mkF, argsToLocals, Value.category]; done) | rfl
def t_rm_gvl : List (Nat × Instr × Nat) := [(0, .aload_n 0, 1), (1, .getfield 15, 3), (4, .areturn, 1)]
theorem d_rm_gvl (i : Nat) : decode jdk_68_method_64_code (t_rm_gvl.getD i (0, .aload_n 0, 1)).1 = .ok (t_rm_gvl.getD i (0, .aload_n 0, 1)).2 := own_dt (by decide +kernel) (List.mem_cons_self ..) i
def Q_rm_gvl (Z : State) (a1 : Addr) (b1 : Addr) (nb : Nat) (h0 : Heap) (n0 : Nat) (v : Option Value) (h : Heap) (L : List Loc) : Prop := v = some (.ref b1) ∧ Fr nb L ∧ h = h0
set_option maxRecDepth 65536 in
set_option maxHeartbeats 40000000 in
theorem rm_gvl (l : Launch) (Z : State) (a0 : Array Value) (hw : ∀ d ∈ tables_1, d.before a0 Z = true) (ws : List Jvm.Cond) (a1 : Addr) (b1 : Addr) (nb : Nat) (h0 : Heap) (n0 : Nat) (O0 : Old Z n0 h0) (FV : Fld Z h0 a1 "java/lang/AbstractStringBuilder" "value" "[B" (.ref b1)) (hnb : nb ≤ h0.size) (hnn : n0 ≤ nb) :
    own_Met l Z (⟨"java/lang/AbstractStringBuilder", "getValue", "()[B"⟩ : MethodName) jdk_68_method_64_code 1 (some (.array .byte)) ws ({ frames := 0, cells := 0, slots := 0, locals := 0 } : Room) #[(.ref a1)] h0 (Q_rm_gvl Z a1 b1 nb h0 n0) := by
 refine MetFree.of_bodySF (plainFor_of_name own_pn5) hisR ?_
 intro p e s m args below meth c s₁ Bd hml0 hP hK
 obtain ⟨rfl, hZ, hh⟩ := hP
 have hx := Bd.exec
 have hby := Bd.bytes
 have D := fun i => hb hby (d_rm_gvl i)
 have hml : c.maxLocals = 1 := hml0
 have hown : s.vm.findClass "java/lang/AbstractStringBuilder" = some m.cls := findClass_of_methodNamed Bd.named
 have hnm := (name_of_methodNamed Bd.named Bd.method).1
 have hlk : meth.locks = false := Bd.notSynchronized
 have X0 : Stand p l e ({ frames := 0, cells := 0, slots := 0, locals := 0 } : Room) s m #[(.ref a1)] below meth c s₁ [] 0 0 := Stand.of_body Bd
 have e0 : s₁.heap = h0 := by rw [← hh, Bd.state]; rfl
 have N0 := Fr.nil nb
 suffices hgo : own_Ok p e below (own_Qx s (Q_rm_gvl Z a1 b1 nb h0 n0) 0 0) (s₁.setTop (mkF m 0 #[.val (.ref a1)] [])) from by
   obtain ⟨s₂, o, h1, h2⟩ := hgo
   exact ⟨s₂, o, castTop (own_ef_rm_gvl m a1) h1, h2⟩
 show own_Ok p e below _ (s₁.setTop (mkF m 0 #[.val (.ref a1)] []))
 refine s_aloadN X0 hx (D 0) rfl rfl ?_
 obtain ⟨T101, X101, e101, st101⟩ := getF X0 hx hZ hown (host := "") (Or.inl (own_hw hw 181 rfl)) Via.refl e0 FV (g := (mkF m 1 #[.val (.ref a1)] [(.ref a1)])) rfl rfl (D 1)
 refine own_st st101 ?_
 show own_Ok p e below _ (T101.setTop (mkF m 4 #[.val (.ref a1)] [(.ref b1)]))
 exact own_retA X101 hx hlk (t := (.array .byte)) rfl Bd.returns rfl (D 2) (by rw [e101]; exact ⟨rfl, N0, rfl⟩) (by decide) (by decide)
theorem own_ef_rm_aln (m : MethodId) (a1 : Addr) : entryFrame m #[(.ref a1)] 1 = mkF m 0 #[.val (.ref a1)] [] := by first | (simp [entryFrame, mkF, argsToLocals, Value.category]; done) | rfl
def t_rm_aln : List (Nat × Instr × Nat) := [(0, .aload_n 0, 1), (1, .getfield 79, 3), (4, .ireturn, 1)]
theorem d_rm_aln (i : Nat) : decode jdk_68_method_6_code (t_rm_aln.getD i (0, .aload_n 0, 1)).1 = .ok (t_rm_aln.getD i (0, .aload_n 0, 1)).2 := own_dt (by decide +kernel) (List.mem_cons_self ..) i
def Q_rm_aln (Z : State) (a1 : Addr) (nc : Int32) (nb : Nat) (h0 : Heap) (n0 : Nat) (v : Option Value) (h : Heap) (L : List Loc) : Prop := v = some (.int nc) ∧ Fr nb L ∧ h = h0
set_option maxRecDepth 65536 in
set_option maxHeartbeats 40000000 in
theorem rm_aln (l : Launch) (Z : State) (a0 : Array Value) (hw : ∀ d ∈ tables_1, d.before a0 Z = true) (ws : List Jvm.Cond) (a1 : Addr) (nc : Int32) (nb : Nat) (h0 : Heap) (n0 : Nat) (O0 : Old Z n0 h0) (FN : Fld Z h0 a1 "java/lang/AbstractStringBuilder" "count" "I" (.int nc)) (hnb : nb ≤ h0.size) (hnn : n0 ≤ nb) :
    own_Met l Z (⟨"java/lang/AbstractStringBuilder", "length", "()I"⟩ : MethodName) jdk_68_method_6_code 1 (some .int) ws ({ frames := 0, cells := 0, slots := 0, locals := 0 } : Room) #[(.ref a1)] h0 (Q_rm_aln Z a1 nc nb h0 n0) := by
 refine MetFree.of_bodySF (plainFor_of_name own_pn5) hisR ?_
 intro p e s m args below meth c s₁ Bd hml0 hP hK
 obtain ⟨rfl, hZ, hh⟩ := hP
 have hx := Bd.exec
 have hby := Bd.bytes
 have D := fun i => hb hby (d_rm_aln i)
 have hml : c.maxLocals = 1 := hml0
 have hown : s.vm.findClass "java/lang/AbstractStringBuilder" = some m.cls := findClass_of_methodNamed Bd.named
 have hnm := (name_of_methodNamed Bd.named Bd.method).1
 have hlk : meth.locks = false := Bd.notSynchronized
 have X0 : Stand p l e ({ frames := 0, cells := 0, slots := 0, locals := 0 } : Room) s m #[(.ref a1)] below meth c s₁ [] 0 0 := Stand.of_body Bd
 have e0 : s₁.heap = h0 := by rw [← hh, Bd.state]; rfl
 have N0 := Fr.nil nb
 suffices hgo : own_Ok p e below (own_Qx s (Q_rm_aln Z a1 nc nb h0 n0) 0 0) (s₁.setTop (mkF m 0 #[.val (.ref a1)] [])) from by
   obtain ⟨s₂, o, h1, h2⟩ := hgo
   exact ⟨s₂, o, castTop (own_ef_rm_aln m a1) h1, h2⟩
 show own_Ok p e below _ (s₁.setTop (mkF m 0 #[.val (.ref a1)] []))
 refine s_aloadN X0 hx (D 0) rfl rfl ?_
 obtain ⟨T101, X101, e101, st101⟩ := getF X0 hx hZ hown (host := "") (Or.inl (own_hw hw 195 rfl)) Via.refl e0 FN (g := (mkF m 1 #[.val (.ref a1)] [(.ref a1)])) rfl rfl (D 1)
 refine own_st st101 ?_
 show own_Ok p e below _ (T101.setTop (mkF m 4 #[.val (.ref a1)] [(.int nc)]))
 exact own_retI X101 hx hlk Bd.returns (D 2) (by rw [e101]; exact ⟨rfl, N0, rfl⟩) (by decide) (by decide)
theorem own_ef_rm_bln (m : MethodId) (a1 : Addr) : entryFrame m #[(.ref a1)] 1 = mkF m 0 #[.val (.ref a1)] [] := by first | (simp [entryFrame, mkF, argsToLocals, Value.category]; done) | rfl
def t_rm_bln : List (Nat × Instr × Nat) := [(0, .aload_n 0, 1), (1, .invokespecial 343, 3), (4, .ireturn, 1)]
theorem d_rm_bln (i : Nat) : decode jdk_67_method_93_code (t_rm_bln.getD i (0, .aload_n 0, 1)).1 = .ok (t_rm_bln.getD i (0, .aload_n 0, 1)).2 := own_dt (by decide +kernel) (List.mem_cons_self ..) i
def Q_rm_bln (Z : State) (a1 : Addr) (nc : Int32) (nb : Nat) (h0 : Heap) (n0 : Nat) (v : Option Value) (h : Heap) (L : List Loc) : Prop := v = some (.int nc) ∧ Fr nb L ∧ h = h0
set_option maxRecDepth 65536 in
set_option maxHeartbeats 40000000 in
theorem rm_bln (l : Launch) (Z : State) (a0 : Array Value) (hw : ∀ d ∈ tables_1, d.before a0 Z = true) (ws : List Jvm.Cond) (a1 : Addr) (nc : Int32) (nb : Nat) (h0 : Heap) (n0 : Nat) (O0 : Old Z n0 h0) (E1 : Exa Z h0 a1 "java/lang/StringBuilder") (FN : Fld Z h0 a1 "java/lang/AbstractStringBuilder" "count" "I" (.int nc)) (hnb : nb ≤ h0.size) (hnn : n0 ≤ nb) :
    own_Met l Z (⟨"java/lang/StringBuilder", "length", "()I"⟩ : MethodName) jdk_67_method_93_code 1 (some .int) ws ({ frames := 1, cells := 0, slots := 0, locals := 12 } : Room) #[(.ref a1)] h0 (Q_rm_bln Z a1 nc nb h0 n0) := by
 refine MetFree.of_bodySF (plainFor_of_name own_pn6) hisR ?_
 intro p e s m args below meth c s₁ Bd hml0 hP hK
 obtain ⟨rfl, hZ, hh⟩ := hP
 have hx := Bd.exec
 have hby := Bd.bytes
 have D := fun i => hb hby (d_rm_bln i)
 have hml : c.maxLocals = 1 := hml0
 have hown : s.vm.findClass "java/lang/StringBuilder" = some m.cls := findClass_of_methodNamed Bd.named
 have hnm := (name_of_methodNamed Bd.named Bd.method).1
 have hlk : meth.locks = false := Bd.notSynchronized
 have X0 : Stand p l e ({ frames := 1, cells := 0, slots := 0, locals := 12 } : Room) s m #[(.ref a1)] below meth c s₁ [] 0 0 := Stand.of_body Bd
 have e0 : s₁.heap = h0 := by rw [← hh, Bd.state]; rfl
 have N0 := Fr.nil nb
 suffices hgo : own_Ok p e below (own_Qx s (Q_rm_bln Z a1 nc nb h0 n0) 0 0) (s₁.setTop (mkF m 0 #[.val (.ref a1)] [])) from by
   obtain ⟨s₂, o, h1, h2⟩ := hgo
   exact ⟨s₂, o, castTop (own_ef_rm_bln m a1) h1, h2⟩
 show own_Ok p e below _ (s₁.setTop (mkF m 0 #[.val (.ref a1)] []))
 refine s_aloadN X0 hx (D 0) rfl rfl ?_
 obtain ⟨_, T101, Lc101, X101, hQ101, st101⟩ := own_callU X0 hx hZ hown (own_hw hw 272 rfl) (own_hw hw 267 rfl) (own_hw hw 201 rfl) rfl (own_hw hw 192 rfl) (own_hw hw 268 rfl) (own_hw hw 177 rfl) (own_hw hw 273 rfl) (rm_aln l Z a0 hw [] a1 nc nb h0 n0 O0 FN (Nat.le_trans hnb (Nat.le_refl _)) hnn) (by decide) (by decide) e0 E1 (Ls := #[.val (.ref a1)]) [] [] rfl (by rw [hml]; rfl) (lenOf own_pd9 rfl) (D 1) (by decide) 0 rfl (by decide) (by decide) (by decide)
 obtain ⟨rfl, Nq101, e101⟩ := hQ101
 have N101 := Fr.app N0 Nq101
 refine st101 _ ?_
 exact own_retI X101 hx hlk Bd.returns (D 2) (by rw [e101]; exact ⟨rfl, N101, rfl⟩) (by decide) (by decide)
theorem own_ef_rm_ckl (m : MethodId) (mm : Nat) : entryFrame m #[(.int (0 : Int32)), (.int (Int32.ofNat mm))] 2 = mkF m 0 #[.val (.int (0 : Int32)), .val (.int (Int32.ofNat mm))] [] := by first | (simp [entryFrame, mkF, argsToLocals, Value.category]; done) | rfl
def t_rm_ckl : List (Nat × Instr × Nat) := [(0, .iload_n 1, 1), (1, .iload_n 0, 1), (2, .if_icmp .ge 35, 3), (37, .return_, 1)]
theorem d_rm_ckl (i : Nat) : decode jdk_65_method_131_code (t_rm_ckl.getD i (0, .iload_n 1, 1)).1 = .ok (t_rm_ckl.getD i (0, .iload_n 1, 1)).2 := own_dt (by decide +kernel) (List.mem_cons_self ..) i
def Q_rm_ckl (Z : State) (mm : Nat) (nb : Nat) (h0 : Heap) (n0 : Nat) (v : Option Value) (h : Heap) (L : List Loc) : Prop := v = none ∧ Fr nb L ∧ h = h0
set_option maxRecDepth 65536 in
set_option maxHeartbeats 40000000 in
theorem rm_ckl (l : Launch) (Z : State) (a0 : Array Value) (hw : ∀ d ∈ tables_1, d.before a0 Z = true) (ws : List Jvm.Cond) (mm : Nat) (nb : Nat) (h0 : Heap) (n0 : Nat) (O0 : Old Z n0 h0) (hm : mm ≤ 16) (hnb : nb ≤ h0.size) (hnn : n0 ≤ nb) :
    own_Met l Z (⟨"java/util/Arrays", "checkLength", "(II)V"⟩ : MethodName) jdk_65_method_131_code 2 none ws ({ frames := 0, cells := 0, slots := 0, locals := 0 } : Room) #[(.int (0 : Int32)), (.int (Int32.ofNat mm))] h0 (Q_rm_ckl Z mm nb h0 n0) := by
 refine MetFree.of_bodySF (plainFor_of_name own_pn7) hisR ?_
 intro p e s m args below meth c s₁ Bd hml0 hP hK
 obtain ⟨rfl, hZ, hh⟩ := hP
 have hx := Bd.exec
 have hby := Bd.bytes
 have D := fun i => hb hby (d_rm_ckl i)
 have hml : c.maxLocals = 2 := hml0
 have hown : s.vm.findClass "java/util/Arrays" = some m.cls := findClass_of_methodNamed Bd.named
 have hnm := (name_of_methodNamed Bd.named Bd.method).1
 have hlk : meth.locks = false := Bd.notSynchronized
 have X0 : Stand p l e ({ frames := 0, cells := 0, slots := 0, locals := 0 } : Room) s m #[(.int (0 : Int32)), (.int (Int32.ofNat mm))] below meth c s₁ [] 0 0 := Stand.of_body Bd
 have e0 : s₁.heap = h0 := by rw [← hh, Bd.state]; rfl
 have N0 := Fr.nil nb
 suffices hgo : own_Ok p e below (own_Qx s (Q_rm_ckl Z mm nb h0 n0) 0 0) (s₁.setTop (mkF m 0 #[.val (.int (0 : Int32)), .val (.int (Int32.ofNat mm))] [])) from by
   obtain ⟨s₂, o, h1, h2⟩ := hgo
   exact ⟨s₂, o, castTop (own_ef_rm_ckl m mm) h1, h2⟩
 show own_Ok p e below _ (s₁.setTop (mkF m 0 #[.val (.int (0 : Int32)), .val (.int (Int32.ofNat mm))] []))
 refine s_iloadN X0 hx (D 0) rfl ?_
 refine s_iloadN X0 hx (D 1) rfl ?_
 refine s_icmpYes X0 hx 37 (D 2) (XT.ii_ge_t (own_n0N (by omega))) (by decide) (by decide) ?_
 exact own_retV X0 hx hlk Bd.returns (D 3) (by rw [e0]; exact ⟨rfl, N0, rfl⟩) (by decide) (by decide)
theorem own_ef_rm_mnb (m : MethodId) (mm : Nat) : entryFrame m #[(.int (16 : Int32)), (.int (Int32.ofNat mm))] 2 = mkF m 0 #[.val (.int (16 : Int32)), .val (.int (Int32.ofNat mm))] [] := by first | (simp [entryFrame, mkF, argsToLocals, Value.category]; done) | rfl
def t_rm_mnb : List (Nat × Instr × Nat) := [(0, .iload_n 0, 1), (1, .iload_n 1, 1), (2, .if_icmp .gt 7, 3), (9, .iload_n 1, 1), (10, .ireturn, 1), (5, .iload_n 0, 1), (6, .goto 4, 3)]
theorem d_rm_mnb (i : Nat) : decode jdk_29_method_69_code (t_rm_mnb.getD i (0, .iload_n 0, 1)).1 = .ok (t_rm_mnb.getD i (0, .iload_n 0, 1)).2 := own_dt (by decide +kernel) (List.mem_cons_self ..) i
def Q_rm_mnb (Z : State) (mm : Nat) (nb : Nat) (h0 : Heap) (n0 : Nat) (v : Option Value) (h : Heap) (L : List Loc) : Prop := v = some (.int (Int32.ofNat mm)) ∧ Fr nb L ∧ h = h0
set_option maxRecDepth 65536 in
set_option maxHeartbeats 40000000 in
theorem rm_mnb (l : Launch) (Z : State) (a0 : Array Value) (hw : ∀ d ∈ tables_1, d.before a0 Z = true) (ws : List Jvm.Cond) (mm : Nat) (nb : Nat) (h0 : Heap) (n0 : Nat) (O0 : Old Z n0 h0) (hm : mm ≤ 16) (hnb : nb ≤ h0.size) (hnn : n0 ≤ nb) :
    own_Met l Z (⟨"java/lang/Math", "min", "(II)I"⟩ : MethodName) jdk_29_method_69_code 2 (some .int) ws ({ frames := 0, cells := 0, slots := 0, locals := 0 } : Room) #[(.int (16 : Int32)), (.int (Int32.ofNat mm))] h0 (Q_rm_mnb Z mm nb h0 n0) := by
 refine MetFree.of_bodySF (Jvm.Free.JP.mathPlain rfl (by decide +kernel)) hisR ?_
 intro p e s m args below meth c s₁ Bd hml0 hP hK
 obtain ⟨rfl, hZ, hh⟩ := hP
 have hx := Bd.exec
 have hby := Bd.bytes
 have D := fun i => hb hby (d_rm_mnb i)
 have hml : c.maxLocals = 2 := hml0
 have hown : s.vm.findClass "java/lang/Math" = some m.cls := findClass_of_methodNamed Bd.named
 have hnm := (name_of_methodNamed Bd.named Bd.method).1
 have hlk : meth.locks = false := Bd.notSynchronized
 have X0 : Stand p l e ({ frames := 0, cells := 0, slots := 0, locals := 0 } : Room) s m #[(.int (16 : Int32)), (.int (Int32.ofNat mm))] below meth c s₁ [] 0 0 := Stand.of_body Bd
 have e0 : s₁.heap = h0 := by rw [← hh, Bd.state]; rfl
 have N0 := Fr.nil nb
 suffices hgo : own_Ok p e below (own_Qx s (Q_rm_mnb Z mm nb h0 n0) 0 0) (s₁.setTop (mkF m 0 #[.val (.int (16 : Int32)), .val (.int (Int32.ofNat mm))] [])) from by
   obtain ⟨s₂, o, h1, h2⟩ := hgo
   exact ⟨s₂, o, castTop (own_ef_rm_mnb m mm) h1, h2⟩
 show own_Ok p e below _ (s₁.setTop (mkF m 0 #[.val (.int (16 : Int32)), .val (.int (Int32.ofNat mm))] []))
 refine s_iloadN X0 hx (D 0) rfl ?_
 refine s_iloadN X0 hx (D 1) rfl ?_
 by_cases c2_101 : (Int32.ofNat mm) < (16 : Int32)
 ·skip
  refine s_icmpYes X0 hx 9 (D 2) (XT.ii_gt_t c2_101) (by decide) (by decide) ?_
  refine s_iloadN X0 hx (D 3) rfl ?_
  exact own_retI X0 hx hlk Bd.returns (D 4) (by rw [e0]; exact ⟨rfl, N0, rfl⟩) (by decide) (by decide)
 ·skip
  refine s_icmpNo X0 hx (D 2) (XT.ii_gt_f c2_101) ?_
  refine s_iloadN X0 hx (D 5) rfl ?_
  refine s_goto X0 hx 10 (D 6) (by decide) (by decide) ?_
  exact own_retI X0 hx hlk Bd.returns (D 4) (by rw [e0]; exact ⟨(congrArg (fun z => some (Value.int (Int32.ofNat z))) (show 16 = mm from Nat.le_antisymm (own_geN (b := 16) (by omega) (by decide) c2_101) hm)), N0, rfl⟩) (by decide) (by decide)
theorem own_pd25 : parseMethodDescriptor "(II)V" = some ⟨[.int, .int], none⟩ := by decide +kernel
theorem own_ef_rm_cob (m : MethodId) (b1 : Addr) (cs : List Int32) : entryFrame m #[(.ref b1), (.int (0 : Int32)), (.int (Int32.ofNat cs.length))] 5 = mkF m 0 #[.val (.ref b1), .val (.int (0 : Int32)), .val (.int (Int32.ofNat cs.length)), .unset, .unset] [] := by first | (simp [entryFrame, mkF, argsToLocals, Value.category]; done) | rfl
def t_rm_cob : List (Nat × Instr × Nat) := [(0, .iload_n 1, 1), (1, .iload_n 2, 1), (2, .invokestatic 343, 3), (5, .iload_n 2, 1), (6, .iload_n 1, 1), (7, .isub, 1), (8, .istore_n 3, 1), (9, .iload_n 3, 1), (10, .newarray .byte, 2), (12, .astore 4, 2), (14, .aload_n 0, 1), (15, .iload_n 1, 1), (16, .aload 4, 2), (18, .iconst 0, 1), (19, .aload_n 0, 1), (20, .arraylength, 1), (21, .iload_n 1, 1), (22, .isub, 1), (23, .iload_n 3, 1), (24, .invokestatic 304, 3), (27, .invokestatic 150, 3), (30, .aload 4, 2), (32, .areturn, 1)]
theorem d_rm_cob (i : Nat) : decode jdk_65_method_133_code (t_rm_cob.getD i (0, .iload_n 1, 1)).1 = .ok (t_rm_cob.getD i (0, .iload_n 1, 1)).2 := own_dt (by decide +kernel) (List.mem_cons_self ..) i
def Q_rm_cob (Z : State) (b1 : Addr) (k1 : ClassId) (cs : List Int32) (nb : Nat) (h0 : Heap) (n0 : Nat) (v : Option Value) (h : Heap) (L : List Loc) : Prop := ∃ (tz : Addr), ∃ (kz : ClassId), v = some (.ref tz) ∧ Fr nb L ∧ Keep h0 h [] ∧ Arv Z h tz kz .byte (Int32.ofNat cs.length) (cs.map Value.int) (.int (0 : Int32)) ∧ h0.size ≤ tz
set_option maxRecDepth 65536 in
set_option maxHeartbeats 40000000 in
theorem rm_cob (l : Launch) (Z : State) (a0 : Array Value) (hw : ∀ d ∈ tables_1, d.before a0 Z = true) (ws : List Jvm.Cond) (b1 : Addr) (k1 : ClassId) (cs : List Int32) (nb : Nat) (h0 : Heap) (n0 : Nat) (O0 : Old Z n0 h0) (VB : Arv Z h0 b1 k1 .byte (16 : Int32) (own_sb cs) (.int (0 : Int32))) (hc16 : cs.length ≤ 16) (hnb : nb ≤ h0.size) (hnn : n0 ≤ nb) :
    own_Met l Z (⟨"java/util/Arrays", "copyOfRangeByte", "([BII)[B"⟩ : MethodName) jdk_65_method_133_code 5 (some (.array .byte)) ws ({ frames := 1, cells := 1, slots := 16, locals := 18 } : Room) #[(.ref b1), (.int (0 : Int32)), (.int (Int32.ofNat cs.length))] h0 (Q_rm_cob Z b1 k1 cs nb h0 n0) := by
 refine MetFree.of_bodySF (plainFor_of_name own_pn7) hisR ?_
 intro p e s m args below meth c s₁ Bd hml0 hP hK
 obtain ⟨rfl, hZ, hh⟩ := hP
 have hx := Bd.exec
 have hby := Bd.bytes
 have D := fun i => hb hby (d_rm_cob i)
 have hml : c.maxLocals = 5 := hml0
 have hown : s.vm.findClass "java/util/Arrays" = some m.cls := findClass_of_methodNamed Bd.named
 have hnm := (name_of_methodNamed Bd.named Bd.method).1
 have hlk : meth.locks = false := Bd.notSynchronized
 have X0 : Stand p l e ({ frames := 1, cells := 1, slots := 16, locals := 18 } : Room) s m #[(.ref b1), (.int (0 : Int32)), (.int (Int32.ofNat cs.length))] below meth c s₁ [] 0 0 := Stand.of_body Bd
 have e0 : s₁.heap = h0 := by rw [← hh, Bd.state]; rfl
 have N0 := Fr.nil nb
 suffices hgo : own_Ok p e below (own_Qx s (Q_rm_cob Z b1 k1 cs nb h0 n0) 1 16) (s₁.setTop (mkF m 0 #[.val (.ref b1), .val (.int (0 : Int32)), .val (.int (Int32.ofNat cs.length)), .unset, .unset] [])) from by
   obtain ⟨s₂, o, h1, h2⟩ := hgo
   exact ⟨s₂, o, castTop (own_ef_rm_cob m b1 cs) h1, h2⟩
 have htc : (Int32.ofNat cs.length).toNatClampNeg = cs.length := own_tnc (own_oN (by omega))
 show own_Ok p e below _ (s₁.setTop (mkF m 0 #[.val (.ref b1), .val (.int (0 : Int32)), .val (.int (Int32.ofNat cs.length)), .unset, .unset] []))
 refine s_iloadN X0 hx (D 0) rfl ?_
 refine s_iloadN X0 hx (D 1) rfl ?_
 obtain ⟨_, T101, Lc101, X101, hQ101, st101⟩ := own_callS X0 hx hZ hown (own_hw hw 282 rfl) (own_hw hw 283 rfl) (own_hw hw 277 rfl) (own_hw hw 284 rfl) (rm_ckl l Z a0 hw [] cs.length nb h0 n0 O0 hc16 (Nat.le_trans hnb (Keep.refl h0 []).1) hnn) (by decide) e0 (Ls := #[.val (.ref b1), .val (.int (0 : Int32)), .val (.int (Int32.ofNat cs.length)), .unset, .unset]) [(.int (0 : Int32)), (.int (Int32.ofNat cs.length))] [] rfl (by rw [hml]; rfl) (lenOf own_pd25 rfl) (D 2) (by decide) 0 rfl (by decide) (by decide) (by decide)
 obtain ⟨rfl, Nq101, e101⟩ := hQ101
 have N101 := Fr.app N0 Nq101
 refine st101 _ ?_
 refine s_iloadN X101 hx (D 3) rfl ?_
 refine s_iloadN X101 hx (D 4) rfl ?_
 refine s_isub X101 hx (D 5) ?_
 rw [show ((Int32.ofNat cs.length) - (0 : Int32)) = (Int32.ofNat cs.length) from own_sb0 _]
 show own_Ok p e below _ (T101.setTop (mkF m 8 #[.val (.ref b1), .val (.int (0 : Int32)), .val (.int (Int32.ofNat cs.length)), .unset, .unset] [(.int (Int32.ofNat cs.length))]))
 refine s_istoreN X101 hx (D 6) #[.val (.ref b1), .val (.int (0 : Int32)), .val (.int (Int32.ofNat cs.length)), .val (.int (Int32.ofNat cs.length)), .unset] rfl ?_
 refine s_iloadN X101 hx (D 7) rfl ?_
 obtain ⟨T102, h102, k102, X102, e102, E102, A102, st102⟩ := newP X101 hx hZ (own_hw hw 47 rfl) e101 (g := (mkF m 10 #[.val (.ref b1), .val (.int (0 : Int32)), .val (.int (Int32.ofNat cs.length)), .val (.int (Int32.ofNat cs.length)), .unset] [(.int (Int32.ofNat cs.length))])) rfl (D 8) rfl (own_n0N (by omega)) (cap := 16) (by rw [htc]; exact hc16) (by decide) (by decide) (by decide)
 obtain ⟨b102, g102⟩ : ∃ z, z = h0.size := ⟨_, rfl⟩
 rw [← g102] at A102 st102
 refine own_st st102 ?_
 have gb_b102 : n0 ≤ b102 := Nat.le_trans (own_n0 O0) (Nat.le_of_eq g102.symm)
 have gz_b102 : h0.size ≤ b102 := Nat.le_trans (Keep.refl h0 []).1 (Nat.le_of_eq g102.symm)
 have ne_b1_b102 : b1 ≠ b102 := Nat.ne_of_lt (Nat.lt_of_lt_of_le VB.lt (Nat.le_of_eq g102.symm))
 have V102 : Arv Z h102 b102 k102 .byte (Int32.ofNat cs.length) (List.replicate ((Int32.ofNat cs.length)).toNatClampNeg (.int (0 : Int32))) (.int (0 : Int32)) := (Arv.new A102 (own_n0N (by omega))).pad (pad_rep [] (.int (0 : Int32)) _)
 show own_Ok p e below _ (T102.setTop (mkF m 12 #[.val (.ref b1), .val (.int (0 : Int32)), .val (.int (Int32.ofNat cs.length)), .val (.int (Int32.ofNat cs.length)), .unset] [(.ref b102)]))
 refine s_astore X102 hx (D 9) rfl #[.val (.ref b1), .val (.int (0 : Int32)), .val (.int (Int32.ofNat cs.length)), .val (.int (Int32.ofNat cs.length)), .val (.ref b102)] rfl ?_
 refine s_aloadN X102 hx (D 10) rfl rfl ?_
 refine s_iloadN X102 hx (D 11) rfl ?_
 refine s_aload X102 hx (D 12) rfl rfl ?_
 refine s_iconst X102 hx (0 : Int32) (D 13) rfl ?_
 refine s_aloadN X102 hx (D 14) rfl rfl ?_
 have f103 := VB.ext E102
 refine own_st (own_len X102 hx hZ e102 f103 (g := (mkF m 20 #[.val (.ref b1), .val (.int (0 : Int32)), .val (.int (Int32.ofNat cs.length)), .val (.int (Int32.ofNat cs.length)), .val (.ref b102)] [(.ref b1), (.int (0 : Int32)), (.ref b102), (.int (0 : Int32)), (.ref b1)])) rfl rfl (D 15)) ?_
 show own_Ok p e below _ (T102.setTop (mkF m 21 #[.val (.ref b1), .val (.int (0 : Int32)), .val (.int (Int32.ofNat cs.length)), .val (.int (Int32.ofNat cs.length)), .val (.ref b102)] [(.int (16 : Int32)), (.int (0 : Int32)), (.ref b102), (.int (0 : Int32)), (.ref b1)]))
 refine s_iloadN X102 hx (D 16) rfl ?_
 refine s_isub X102 hx (D 17) ?_
 show own_Ok p e below _ (T102.setTop (mkF m 23 #[.val (.ref b1), .val (.int (0 : Int32)), .val (.int (Int32.ofNat cs.length)), .val (.int (Int32.ofNat cs.length)), .val (.ref b102)] [(.int (16 : Int32)), (.int (0 : Int32)), (.ref b102), (.int (0 : Int32)), (.ref b1)]))
 refine s_iloadN X102 hx (D 18) rfl ?_
 have f105 := (Keep.refl h0 []).ext E102
 have f106 := O0.ext E102
 obtain ⟨_, T104, Lc104, X104, hQ104, st104⟩ := own_callS X102 hx hZ hown (own_hw hw 285 rfl) (own_hw hw 102 rfl) (own_hw hw 99 rfl) (own_hw hw 103 rfl) (rm_mnb l Z a0 hw [] cs.length nb h102 n0 f106 hc16 (Nat.le_trans hnb f105.1) hnn) (by decide) e102 (Ls := #[.val (.ref b1), .val (.int (0 : Int32)), .val (.int (Int32.ofNat cs.length)), .val (.int (Int32.ofNat cs.length)), .val (.ref b102)]) [(.int (16 : Int32)), (.int (Int32.ofNat cs.length))] [(.int (0 : Int32)), (.ref b102), (.int (0 : Int32)), (.ref b1)] rfl (by rw [hml]; rfl) (lenOf own_pd6 rfl) (D 19) (by decide) 4 rfl (by decide) (by decide) (by decide)
 obtain ⟨rfl, Nq104, e104⟩ := hQ104
 have N104 := Fr.app N101 Nq104
 refine st104 _ ?_
 have hrl : ((List.replicate ((Int32.ofNat cs.length)).toNatClampNeg (.int (0 : Int32))) : List Value).length = cs.length := by rw [List.length_replicate, htc]
 obtain ⟨T107, h107, L107, X107, e107, N107, K107, V107, st107⟩ := cpA X104 hx hZ hown (own_hw hw 286 rfl) (own_hw hw 241 rfl) (own_hw hw 239 rfl) (own_hw hw 240 rfl) e104 f103 V102 (Or.inl ⟨rfl, rfl⟩) (by decide) (by decide) (own_n0N (by omega)) (by rw [htc]; show 0 + cs.length ≤ 16; omega) (by rw [htc]; show 0 + cs.length ≤ cs.length; omega) rfl (by rw [hrl, htc]; show 0 + cs.length ≤ cs.length; omega) N104 (Nat.le_trans hnb gz_b102) (g := (mkF m 27 #[.val (.ref b1), .val (.int (0 : Int32)), .val (.int (Int32.ofNat cs.length)), .val (.int (Int32.ofNat cs.length)), .val (.ref b102)] [(.int (Int32.ofNat cs.length)), (.int (0 : Int32)), (.ref b102), (.int (0 : Int32)), (.ref b1)])) rfl (by rw [hml]; rfl) rfl (D 20) (by decide) (W := 0) (by show 2 * 0 + _ ≤ _; exact Nat.le_of_eq rfl) (by decide)
 refine own_st st107 ?_
 have VC107 : Arv Z h107 b102 k102 .byte (Int32.ofNat cs.length) (cs.map Value.int) (.int (0 : Int32)) := by rw [← own_cpB htc hc16 _ hrl]; exact V107
 show own_Ok p e below _ (T107.setTop (mkF m 30 #[.val (.ref b1), .val (.int (0 : Int32)), .val (.int (Int32.ofNat cs.length)), .val (.int (Int32.ofNat cs.length)), .val (.ref b102)] []))
 refine s_aload X107 hx (D 21) rfl rfl ?_
 have f108 := f105.trans K107 (allS (Or.inr gz_b102) all0)
 exact own_retA X107 hx hlk (t := (.array .byte)) rfl Bd.returns rfl (D 22) (by rw [e107]; exact ⟨b102, k102, rfl, N107, f108, VC107, gz_b102⟩) (by decide) (by decide)
theorem own_pd26 : parseMethodDescriptor "([BII)[B" = some ⟨[(.array .byte), .int, .int], some (.array .byte)⟩ := by decide +kernel
theorem own_ef_rm_cor (m : MethodId) (b1 : Addr) (cs : List Int32) : entryFrame m #[(.ref b1), (.int (0 : Int32)), (.int (Int32.ofNat cs.length))] 3 = mkF m 0 #[.val (.ref b1), .val (.int (0 : Int32)), .val (.int (Int32.ofNat cs.length))] [] := by first | (simp [entryFrame, mkF, argsToLocals, Value.category]; done) | rfl
def t_rm_cor : List (Nat × Instr × Nat) := [(0, .iload_n 1, 1), (1, .ifCond .ne 9, 3), (4, .iload_n 2, 1), (5, .aload_n 0, 1), (6, .arraylength, 1), (7, .if_icmp .eq 10, 3), (17, .aload_n 0, 1), (18, .invokevirtual 310, 3), (21, .checkcast 311, 3), (24, .areturn, 1), (10, .aload_n 0, 1), (11, .iload_n 1, 1), (12, .iload_n 2, 1), (13, .invokestatic 339, 3), (16, .areturn, 1)]
theorem d_rm_cor (i : Nat) : decode jdk_65_method_132_code (t_rm_cor.getD i (0, .iload_n 1, 1)).1 = .ok (t_rm_cor.getD i (0, .iload_n 1, 1)).2 := own_dt (by decide +kernel) (List.mem_cons_self ..) i
def Q_rm_cor (Z : State) (b1 : Addr) (k1 : ClassId) (cs : List Int32) (nb : Nat) (h0 : Heap) (n0 : Nat) (v : Option Value) (h : Heap) (L : List Loc) : Prop := ∃ (tz : Addr), ∃ (kz : ClassId), v = some (.ref tz) ∧ Fr nb L ∧ Keep h0 h [] ∧ Arv Z h tz kz .byte (Int32.ofNat cs.length) (cs.map Value.int) (.int (0 : Int32)) ∧ h0.size ≤ tz
set_option maxRecDepth 65536 in
set_option maxHeartbeats 40000000 in
theorem rm_cor (l : Launch) (Z : State) (a0 : Array Value) (hw : ∀ d ∈ tables_1, d.before a0 Z = true) (ws : List Jvm.Cond) (b1 : Addr) (k1 : ClassId) (cs : List Int32) (nb : Nat) (h0 : Heap) (n0 : Nat) (O0 : Old Z n0 h0) (EB : Exa Z h0 b1 "[B") (VB : Arv Z h0 b1 k1 .byte (16 : Int32) (own_sb cs) (.int (0 : Int32))) (hc16 : cs.length ≤ 16) (hnb : nb ≤ h0.size) (hnn : n0 ≤ nb) :
    own_Met l Z (⟨"java/util/Arrays", "copyOfRange", "([BII)[B"⟩ : MethodName) jdk_65_method_132_code 3 (some (.array .byte)) ws ({ frames := 2, cells := 1, slots := 16, locals := 34 } : Room) #[(.ref b1), (.int (0 : Int32)), (.int (Int32.ofNat cs.length))] h0 (Q_rm_cor Z b1 k1 cs nb h0 n0) := by
 refine MetFree.of_bodySF (plainFor_of_name own_pn7) hisR ?_
 intro p e s m args below meth c s₁ Bd hml0 hP hK
 obtain ⟨rfl, hZ, hh⟩ := hP
 have hx := Bd.exec
 have hby := Bd.bytes
 have D := fun i => hb hby (d_rm_cor i)
 have hml : c.maxLocals = 3 := hml0
 have hown : s.vm.findClass "java/util/Arrays" = some m.cls := findClass_of_methodNamed Bd.named
 have hnm := (name_of_methodNamed Bd.named Bd.method).1
 have hlk : meth.locks = false := Bd.notSynchronized
 have X0 : Stand p l e ({ frames := 2, cells := 1, slots := 16, locals := 34 } : Room) s m #[(.ref b1), (.int (0 : Int32)), (.int (Int32.ofNat cs.length))] below meth c s₁ [] 0 0 := Stand.of_body Bd
 have e0 : s₁.heap = h0 := by rw [← hh, Bd.state]; rfl
 have N0 := Fr.nil nb
 suffices hgo : own_Ok p e below (own_Qx s (Q_rm_cor Z b1 k1 cs nb h0 n0) 1 16) (s₁.setTop (mkF m 0 #[.val (.ref b1), .val (.int (0 : Int32)), .val (.int (Int32.ofNat cs.length))] [])) from by
   obtain ⟨s₂, o, h1, h2⟩ := hgo
   exact ⟨s₂, o, castTop (own_ef_rm_cor m b1 cs) h1, h2⟩
 show own_Ok p e below _ (s₁.setTop (mkF m 0 #[.val (.ref b1), .val (.int (0 : Int32)), .val (.int (Int32.ofNat cs.length))] []))
 refine s_iloadN X0 hx (D 0) rfl ?_
 refine s_ifNo X0 hx (D 1) (XT.i0_ne_f (by decide)) ?_
 refine s_iloadN X0 hx (D 2) rfl ?_
 refine s_aloadN X0 hx (D 3) rfl rfl ?_
 refine own_st (own_len X0 hx hZ e0 VB (g := (mkF m 6 #[.val (.ref b1), .val (.int (0 : Int32)), .val (.int (Int32.ofNat cs.length))] [(.ref b1), (.int (Int32.ofNat cs.length))])) rfl rfl (D 4)) ?_
 show own_Ok p e below _ (s₁.setTop (mkF m 7 #[.val (.ref b1), .val (.int (0 : Int32)), .val (.int (Int32.ofNat cs.length))] [(.int (16 : Int32)), (.int (Int32.ofNat cs.length))]))
 by_cases c7_101 : (Int32.ofNat cs.length) = (16 : Int32)
 ·skip
  refine s_icmpYes X0 hx 17 (D 5) (XT.ii_eq_t c7_101) (by decide) (by decide) ?_
  refine s_aloadN X0 hx (D 6) rfl rfl ?_
  obtain ⟨T102, h102, X102, e102, E102, A102, Y102, st102⟩ := cloneH X0 hx hZ hown (own_hw hw 301 rfl) (own_hw hw 302 rfl) (own_hw hw 306 rfl) (own_hw hw 304 rfl) (own_hw hw 305 rfl) (own_hw hw 307 rfl) e0 (Arv.arh VB) EB (g := (mkF m 18 #[.val (.ref b1), .val (.int (0 : Int32)), .val (.int (Int32.ofNat cs.length))] [(.ref b1)])) rfl (by rw [hml]; rfl) rfl (D 7) (by decide) (W := 0) (cap := 16) (by show 2 * 0 + _ ≤ _; exact Nat.le_of_eq rfl) (by decide) (by decide) (by decide) (by decide)
  obtain ⟨b102, g102⟩ : ∃ z, z = h0.size := ⟨_, rfl⟩
  rw [← g102] at A102 Y102 st102
  refine own_st st102 ?_
  have gb_b102 : n0 ≤ b102 := Nat.le_trans (own_n0 O0) (Nat.le_of_eq g102.symm)
  have gz_b102 : h0.size ≤ b102 := Nat.le_trans (Keep.refl h0 []).1 (Nat.le_of_eq g102.symm)
  have ne_b1_b102 : b1 ≠ b102 := Nat.ne_of_lt (Nat.lt_of_lt_of_le EB.lt (Nat.le_of_eq g102.symm))
  have he16 := own_e16 hc16 c7_101
  have V102 : Arv Z h102 b102 k1 .byte (Int32.ofNat cs.length) (cs.map Value.int) (.int (0 : Int32)) := by rw [c7_101, ← own_sb16 he16]; exact A102
  show own_Ok p e below _ (T102.setTop (mkF m 21 #[.val (.ref b1), .val (.int (0 : Int32)), .val (.int (Int32.ofNat cs.length))] [(.ref b102)]))
  obtain ⟨T103, X103, e103, st103⟩ := castY X102 hx hZ hown (own_hw hw 308 rfl) e102 (Ins.self Y102) (g := (mkF m 21 #[.val (.ref b1), .val (.int (0 : Int32)), .val (.int (Int32.ofNat cs.length))] [(.ref b102)])) rfl rfl (D 8)
  refine own_st st103 ?_
  show own_Ok p e below _ (T103.setTop (mkF m 24 #[.val (.ref b1), .val (.int (0 : Int32)), .val (.int (Int32.ofNat cs.length))] [(.ref b102)]))
  have f104 := (Keep.refl h0 []).ext E102
  exact own_retA X103 hx hlk (t := (.array .byte)) rfl Bd.returns rfl (D 9) (by rw [e103]; exact ⟨b102, k1, rfl, N0, f104, V102, gz_b102⟩) (by decide) (by decide)
 ·skip
  refine s_icmpNo X0 hx (D 5) (XT.ii_eq_f c7_101) ?_
  refine s_aloadN X0 hx (D 10) rfl rfl ?_
  refine s_iloadN X0 hx (D 11) rfl ?_
  refine s_iloadN X0 hx (D 12) rfl ?_
  obtain ⟨_, T105, Lc105, X105, hQ105, st105⟩ := own_callS X0 hx hZ hown (own_hw hw 279 rfl) (own_hw hw 280 rfl) (own_hw hw 277 rfl) (own_hw hw 281 rfl) (rm_cob l Z a0 hw [] b1 k1 cs nb h0 n0 O0 VB hc16 (Nat.le_trans hnb (Keep.refl h0 []).1) hnn) (by decide) e0 (Ls := #[.val (.ref b1), .val (.int (0 : Int32)), .val (.int (Int32.ofNat cs.length))]) [(.ref b1), (.int (0 : Int32)), (.int (Int32.ofNat cs.length))] [] rfl (by rw [hml]; rfl) (lenOf own_pd26 rfl) (D 13) (by decide) 0 rfl (by decide) (by decide) (by decide)
  obtain ⟨tz_105, kz_105, rfl, Nq105, K105, g105_0, gs_tz_105⟩ := hQ105
  have N105 := Fr.app N0 Nq105
  refine st105 _ ?_
  have gb_tz_105 : n0 ≤ tz_105 := Nat.le_trans (own_n0 O0) gs_tz_105
  have gz_tz_105 : h0.size ≤ tz_105 := Nat.le_trans (Keep.refl h0 []).1 gs_tz_105
  have ne_b1_tz_105 : b1 ≠ tz_105 := Nat.ne_of_lt (Nat.lt_of_lt_of_le EB.lt gs_tz_105)
  have e105 : T105.heap = T105.heap := rfl
  have f106 := (Keep.refl h0 []).trans K105 all0
  exact own_retA X105 hx hlk (t := (.array .byte)) rfl Bd.returns rfl (D 14) (by rw [e105]; exact ⟨tz_105, kz_105, rfl, N105, f106, g105_0, gz_tz_105⟩) (by decide) (by decide)
theorem own_pd27 : parseMethodDescriptor "()[B" = some ⟨[], some (.array .byte)⟩ := by decide +kernel
theorem own_ef_rm_xia (m : MethodId) (x1 : Addr) (a1 : Addr) : entryFrame m #[(.ref x1), (.ref a1), .null] 5 = mkF m 0 #[.val (.ref x1), .val (.ref a1), .val .null, .unset, .unset] [] := by first | (simp [entryFrame, mkF, argsToLocals, Value.category]; done) | rfl
def t_rm_xia : List (Nat × Instr × Nat) := [(0, .aload_n 0, 1), (1, .invokespecial 1, 3), (4, .aload_n 1, 1), (5, .invokevirtual 552, 3), (8, .astore_n 3, 1), (9, .aload_n 1, 1), (10, .invokevirtual 549, 3), (13, .istore 4, 2), (15, .aload_n 1, 1), (16, .invokevirtual 1047, 3), (19, .ifCond .eq 22, 3), (22, .aload_n 0, 1), (23, .iconst 0, 1), (24, .putfield 15, 3), (27, .aload_n 0, 1), (28, .aload_n 3, 1), (29, .iconst 0, 1), (30, .iload 4, 2), (32, .invokestatic 54, 3), (35, .putfield 9, 3), (38, .goto 59, 3), (97, .return_, 1)]
theorem d_rm_xia (i : Nat) : decode jdk_42_method_150_code (t_rm_xia.getD i (0, .aload_n 0, 1)).1 = .ok (t_rm_xia.getD i (0, .aload_n 0, 1)).2 := own_dt (by decide +kernel) (List.mem_cons_self ..) i
def Q_rm_xia (Z : State) (G1 : Int32) (x1 : Addr) (a1 : Addr) (b1 : Addr) (k1 : ClassId) (cs : List Int32) (nb : Nat) (h0 : Heap) (n0 : Nat) (v : Option Value) (h : Heap) (L : List Loc) : Prop := ∃ (tz : Addr), ∃ (kz : ClassId), v = none ∧ Fr nb L ∧ Keep h0 h [x1] ∧ Exa Z h x1 "java/lang/String" ∧ Fld Z h x1 "java/lang/String" "coder" "B" (.int (0 : Int32)) ∧ Fld Z h x1 "java/lang/String" "value" "[B" (.ref tz) ∧ Arv Z h tz kz .byte (Int32.ofNat cs.length) (cs.map Value.int) (.int (0 : Int32)) ∧ h0.size ≤ tz
set_option maxRecDepth 65536 in
set_option maxHeartbeats 40000000 in
theorem rm_xia (l : Launch) (Z : State) (a0 : Array Value) (hw : ∀ d ∈ tables_1, d.before a0 Z = true) (ws : List Jvm.Cond) (G1 : Int32) (x1 : Addr) (a1 : Addr) (b1 : Addr) (k1 : ClassId) (cs : List Int32) (nb : Nat) (h0 : Heap) (n0 : Nat) (O0 : Old Z n0 h0) (SG1 : Sta Z Z.heap "java/lang/String" "COMPACT_STRINGS" "Z" (.int G1)) (PG1 : ¬ (G1 = (0 : Int32))) (E9 : Exa Z h0 x1 "java/lang/String") (F8 : Fld Z h0 x1 "java/lang/String" "coder" "B" (.int (0 : Int32))) (F9 : Fld Z h0 x1 "java/lang/String" "value" "[B" .null) (g9 : nb ≤ x1) (ne9 : a1 ≠ x1) (ne8 : b1 ≠ x1) (Pa10 : Exa Z h0 a1 "java/lang/StringBuilder") (Pa11 : Fld Z h0 a1 "java/lang/AbstractStringBuilder" "value" "[B" (.ref b1)) (Pa12 : Fld Z h0 a1 "java/lang/AbstractStringBuilder" "coder" "B" (.int (0 : Int32))) (Pa13 : Fld Z h0 a1 "java/lang/AbstractStringBuilder" "count" "I" (.int (Int32.ofNat cs.length))) (Pa14 : Exa Z h0 b1 "[B") (Pa15 : Arv Z h0 b1 k1 .byte (16 : Int32) (own_sb cs) (.int (0 : Int32))) (hc16 : cs.length ≤ 16) (hnb : nb ≤ h0.size) (hnn : n0 ≤ nb) :
    own_Met l Z (⟨"java/lang/String", "<init>", "(Ljava/lang/AbstractStringBuilder;Ljava/lang/Void;)V"⟩ : MethodName) jdk_42_method_150_code 5 none ws ({ frames := 3, cells := 1, slots := 16, locals := 49 } : Room) #[(.ref x1), (.ref a1), .null] h0 (Q_rm_xia Z G1 x1 a1 b1 k1 cs nb h0 n0) := by
 refine MetFree.of_bodySF (plainFor_of_name own_pn1) hisR ?_
 intro p e s m args below meth c s₁ Bd hml0 hP hK
 obtain ⟨rfl, hZ, hh⟩ := hP
 have hx := Bd.exec
 have hby := Bd.bytes
 have D := fun i => hb hby (d_rm_xia i)
 have hml : c.maxLocals = 5 := hml0
 have hown : s.vm.findClass "java/lang/String" = some m.cls := findClass_of_methodNamed Bd.named
 have hnm := (name_of_methodNamed Bd.named Bd.method).1
 have hlk : meth.locks = false := Bd.notSynchronized
 have X0 : Stand p l e ({ frames := 3, cells := 1, slots := 16, locals := 49 } : Room) s m #[(.ref x1), (.ref a1), .null] below meth c s₁ [] 0 0 := Stand.of_body Bd
 have e0 : s₁.heap = h0 := by rw [← hh, Bd.state]; rfl
 have N0 := Fr.nil nb
 suffices hgo : own_Ok p e below (own_Qx s (Q_rm_xia Z G1 x1 a1 b1 k1 cs nb h0 n0) 1 16) (s₁.setTop (mkF m 0 #[.val (.ref x1), .val (.ref a1), .val .null, .unset, .unset] [])) from by
   obtain ⟨s₂, o, h1, h2⟩ := hgo
   exact ⟨s₂, o, castTop (own_ef_rm_xia m x1 a1) h1, h2⟩
 show own_Ok p e below _ (s₁.setTop (mkF m 0 #[.val (.ref x1), .val (.ref a1), .val .null, .unset, .unset] []))
 refine s_aloadN X0 hx (D 0) rfl rfl ?_
 obtain ⟨T101, X101, e101, st101⟩ := initO X0 hx hZ hown (own_hw hw 39 rfl) (own_hw hw 40 rfl) (own_hw hw 41 rfl) e0 (g := (mkF m 1 #[.val (.ref x1), .val (.ref a1), .val .null, .unset, .unset] [(.ref x1)])) rfl (by rw [hml]; rfl) rfl (D 1) (by decide) (W := 0) (by show 2 * 0 + _ ≤ _; exact Nat.le_of_eq rfl) (by decide)
 refine own_st st101 ?_
 show own_Ok p e below _ (T101.setTop (mkF m 4 #[.val (.ref x1), .val (.ref a1), .val .null, .unset, .unset] []))
 refine s_aloadN X101 hx (D 2) rfl rfl ?_
 obtain ⟨_, T102, Lc102, X102, hQ102, st102⟩ := own_callV X101 hx hZ hown (own_hw hw 261 rfl) (own_hw hw 262 rfl) (own_hw hw 264 rfl) rfl (own_hw hw 264 rfl) (own_hw hw 263 rfl) (own_hw hw 177 rfl) (own_hw hw 265 rfl) (rm_gvl l Z a0 hw [] a1 b1 nb h0 n0 O0 Pa11 (Nat.le_trans hnb (Keep.refl h0 [x1]).1) hnn) (by decide) e101 Pa10 (Ls := #[.val (.ref x1), .val (.ref a1), .val .null, .unset, .unset]) [] [] rfl (by rw [hml]; rfl) (lenOf own_pd27 rfl) (D 3) (by decide) 0 rfl (by decide) (by decide) (by decide)
 obtain ⟨rfl, Nq102, e102⟩ := hQ102
 have N102 := Fr.app N0 Nq102
 refine st102 _ ?_
 refine s_astoreN X102 hx (D 4) rfl #[.val (.ref x1), .val (.ref a1), .val .null, .val (.ref b1), .unset] rfl ?_
 refine s_aloadN X102 hx (D 5) rfl rfl ?_
 obtain ⟨_, T103, Lc103, X103, hQ103, st103⟩ := own_callV X102 hx hZ hown (own_hw hw 266 rfl) (own_hw hw 267 rfl) (own_hw hw 201 rfl) rfl (own_hw hw 269 rfl) (own_hw hw 270 rfl) (own_hw hw 169 rfl) (own_hw hw 271 rfl) (rm_bln l Z a0 hw [] a1 ((Int32.ofNat cs.length)) nb h0 n0 O0 Pa10 Pa13 (Nat.le_trans hnb (Keep.refl h0 [x1]).1) hnn) (by decide) e102 Pa10 (Ls := #[.val (.ref x1), .val (.ref a1), .val .null, .val (.ref b1), .unset]) [] [] rfl (by rw [hml]; rfl) (lenOf own_pd9 rfl) (D 6) (by decide) 0 rfl (by decide) (by decide) (by decide)
 obtain ⟨rfl, Nq103, e103⟩ := hQ103
 have N103 := Fr.app N102 Nq103
 refine st103 _ ?_
 refine s_istore X103 hx (D 7) #[.val (.ref x1), .val (.ref a1), .val .null, .val (.ref b1), .val (.int (Int32.ofNat cs.length))] rfl ?_
 refine s_aloadN X103 hx (D 8) rfl rfl ?_
 obtain ⟨_, T104, Lc104, X104, hQ104, st104⟩ := own_callV X103 hx hZ hown (own_hw hw 274 rfl) (own_hw hw 204 rfl) (own_hw hw 206 rfl) rfl (own_hw hw 206 rfl) (own_hw hw 205 rfl) (own_hw hw 177 rfl) (own_hw hw 207 rfl) (rm_ail l Z a0 hw [] G1 a1 nb h0 n0 O0 SG1 PG1 Pa12 (Nat.le_trans hnb (Keep.refl h0 [x1]).1) hnn) (by decide) e103 Pa10 (Ls := #[.val (.ref x1), .val (.ref a1), .val .null, .val (.ref b1), .val (.int (Int32.ofNat cs.length))]) [] [] rfl (by rw [hml]; rfl) (lenOf own_pd8 rfl) (D 9) (by decide) 0 rfl (by decide) (by decide) (by decide)
 obtain ⟨rfl, Nq104, e104⟩ := hQ104
 have N104 := Fr.app N103 Nq104
 refine st104 _ ?_
 refine s_ifNo X104 hx (D 10) (XT.i0_eq_f (by decide)) ?_
 refine s_aloadN X104 hx (D 11) rfl rfl ?_
 refine s_iconst X104 hx (0 : Int32) (D 12) rfl ?_
 obtain ⟨T105, h105, X105, e105, W105, st105⟩ := putFN X104 hx hZ hown (own_hw hw 54 rfl) Via.refl e104 F8 E9 (Or.inr ⟨(own_hw hw 55 rfl), rfl, hnm⟩) (own_hw hw 30 rfl) (ty := .byte) (v' := (.int (0 : Int32))) (by decide) rfl (by decide) (g := (mkF m 24 #[.val (.ref x1), .val (.ref a1), .val .null, .val (.ref b1), .val (.int (Int32.ofNat cs.length))] [(.int (0 : Int32)), (.ref x1)])) rfl rfl (D 13)
 refine own_st st105 ?_
 have F105 := F8.same W105
 have N105 := Fr.snoc X105 N104 g9
 show own_Ok p e below _ (T105.setTop (mkF m 27 #[.val (.ref x1), .val (.ref a1), .val .null, .val (.ref b1), .val (.int (Int32.ofNat cs.length))] []))
 refine s_aloadN X105 hx (D 14) rfl rfl ?_
 refine s_aloadN X105 hx (D 15) rfl rfl ?_
 refine s_iconst X105 hx (0 : Int32) (D 16) rfl ?_
 refine s_iload X105 hx (D 17) rfl ?_
 have f107 := (Keep.refl h0 [x1]).wr W105 (Or.inl (by simp))
 have f108 := Pa14.wr W105
 have f109 := Pa15.other W105 ne8
 have f110 := O0.wr W105 (Nat.le_trans hnn g9)
 obtain ⟨_, T106, Lc106, X106, hQ106, st106⟩ := own_callS X105 hx hZ hown (own_hw hw 275 rfl) (own_hw hw 276 rfl) (own_hw hw 277 rfl) (own_hw hw 278 rfl) (rm_cor l Z a0 hw [] b1 k1 cs nb h105 n0 f110 f108 f109 hc16 (Nat.le_trans hnb f107.1) hnn) (by decide) e105 (Ls := #[.val (.ref x1), .val (.ref a1), .val .null, .val (.ref b1), .val (.int (Int32.ofNat cs.length))]) [(.ref b1), (.int (0 : Int32)), (.int (Int32.ofNat cs.length))] [(.ref x1)] rfl (by rw [hml]; rfl) (lenOf own_pd26 rfl) (D 18) (by decide) 1 rfl (by decide) (by decide) (by decide)
 obtain ⟨tz_106, kz_106, rfl, Nq106, K106, g106_0, gs_tz_106⟩ := hQ106
 have N106 := Fr.app N105 Nq106
 refine st106 _ ?_
 have gb_tz_106 : n0 ≤ tz_106 := Nat.le_trans (own_n0 f110) gs_tz_106
 have gz_tz_106 : h0.size ≤ tz_106 := Nat.le_trans f107.1 gs_tz_106
 have f111 := E9.wr W105
 have ne_x1_tz_106 : x1 ≠ tz_106 := Nat.ne_of_lt (Nat.lt_of_lt_of_le f111.lt gs_tz_106)
 have f112 := Pa10.wr W105
 have ne_a1_tz_106 : a1 ≠ tz_106 := Nat.ne_of_lt (Nat.lt_of_lt_of_le f112.lt gs_tz_106)
 have ne_b1_tz_106 : b1 ≠ tz_106 := Nat.ne_of_lt (Nat.lt_of_lt_of_le f108.lt gs_tz_106)
 have e106 : T106.heap = T106.heap := rfl
 have f113 := f111.keep K106
 have f114 := F9.other W105 (Or.inr (slot_ne (Or.inr (own_hw hw 57 rfl)) (Or.inr (own_hw hw 55 rfl)) (by decide) (t := (.array .byte)) (t' := .byte) (by decide) (by decide)))
 have f115 := f114.keep K106 nin0
 obtain ⟨T116, h116, X116, e116, W116, st116⟩ := putF X106 hx hZ hown (host := "") (Or.inl (own_hw hw 56 rfl)) Via.refl e106 f115 f113 (Or.inr ⟨(own_hw hw 57 rfl), rfl, hnm⟩) (own_hw hw 30 rfl) (ty := (.array .byte)) (by decide) rfl rfl (g := (mkF m 35 #[.val (.ref x1), .val (.ref a1), .val .null, .val (.ref b1), .val (.int (Int32.ofNat cs.length))] [(.ref tz_106), (.ref x1)])) rfl rfl (D 19)
 refine own_st st116 ?_
 have F116 := f115.same W116
 have N116 := Fr.snoc X116 N106 g9
 show own_Ok p e below _ (T116.setTop (mkF m 38 #[.val (.ref x1), .val (.ref a1), .val .null, .val (.ref b1), .val (.int (Int32.ofNat cs.length))] []))
 refine s_goto X116 hx 97 (D 20) (by decide) (by decide) ?_
 have f117 := f107.trans K106 all0
 have f118 := f117.wr W116 (Or.inl (by simp))
 have f119 := f113.wr W116
 have f120 := F105.keep K106 nin0
 have f121 := f120.other W116 (Or.inr (slot_ne (Or.inr (own_hw hw 55 rfl)) (Or.inr (own_hw hw 57 rfl)) (by decide) (t := .byte) (t' := (.array .byte)) (by decide) (by decide)))
 have f122 := g106_0.other W116 (Ne.symm ne_x1_tz_106)
 exact own_retV X116 hx hlk Bd.returns (D 21) (by rw [e116]; exact ⟨tz_106, kz_106, rfl, N116, f118, f119, f121, F116, f122, gz_tz_106⟩) (by decide) (by decide)
theorem own_pd28 : parseMethodDescriptor "(Ljava/lang/AbstractStringBuilder;Ljava/lang/Void;)V" = some ⟨[(.object "java/lang/AbstractStringBuilder"), (.object "java/lang/Void")], none⟩ := by decide +kernel
theorem own_ef_rm_xib (m : MethodId) (x1 : Addr) (a1 : Addr) : entryFrame m #[(.ref x1), (.ref a1)] 2 = mkF m 0 #[.val (.ref x1), .val (.ref a1)] [] := by first | (simp [entryFrame, mkF, argsToLocals, Value.category]; done) | rfl
def t_rm_xib : List (Nat × Instr × Nat) := [(0, .aload_n 0, 1), (1, .aload_n 1, 1), (2, .aconst_null, 1), (3, .invokespecial 489, 3), (6, .return_, 1)]
theorem d_rm_xib (i : Nat) : decode jdk_42_method_53_code (t_rm_xib.getD i (0, .aload_n 0, 1)).1 = .ok (t_rm_xib.getD i (0, .aload_n 0, 1)).2 := own_dt (by decide +kernel) (List.mem_cons_self ..) i
def Q_rm_xib (Z : State) (G1 : Int32) (x1 : Addr) (a1 : Addr) (b1 : Addr) (k1 : ClassId) (cs : List Int32) (nb : Nat) (h0 : Heap) (n0 : Nat) (v : Option Value) (h : Heap) (L : List Loc) : Prop := ∃ (tz : Addr), ∃ (kz : ClassId), v = none ∧ Fr nb L ∧ Keep h0 h [x1] ∧ Exa Z h x1 "java/lang/String" ∧ Fld Z h x1 "java/lang/String" "coder" "B" (.int (0 : Int32)) ∧ Fld Z h x1 "java/lang/String" "value" "[B" (.ref tz) ∧ Arv Z h tz kz .byte (Int32.ofNat cs.length) (cs.map Value.int) (.int (0 : Int32)) ∧ h0.size ≤ tz
set_option maxRecDepth 65536 in
set_option maxHeartbeats 40000000 in
theorem rm_xib (l : Launch) (Z : State) (a0 : Array Value) (hw : ∀ d ∈ tables_1, d.before a0 Z = true) (ws : List Jvm.Cond) (G1 : Int32) (x1 : Addr) (a1 : Addr) (b1 : Addr) (k1 : ClassId) (cs : List Int32) (nb : Nat) (h0 : Heap) (n0 : Nat) (O0 : Old Z n0 h0) (SG1 : Sta Z Z.heap "java/lang/String" "COMPACT_STRINGS" "Z" (.int G1)) (PG1 : ¬ (G1 = (0 : Int32))) (E9 : Exa Z h0 x1 "java/lang/String") (F8 : Fld Z h0 x1 "java/lang/String" "coder" "B" (.int (0 : Int32))) (F9 : Fld Z h0 x1 "java/lang/String" "value" "[B" .null) (g9 : nb ≤ x1) (ne9 : a1 ≠ x1) (ne8 : b1 ≠ x1) (Pa10 : Exa Z h0 a1 "java/lang/StringBuilder") (Pa11 : Fld Z h0 a1 "java/lang/AbstractStringBuilder" "value" "[B" (.ref b1)) (Pa12 : Fld Z h0 a1 "java/lang/AbstractStringBuilder" "coder" "B" (.int (0 : Int32))) (Pa13 : Fld Z h0 a1 "java/lang/AbstractStringBuilder" "count" "I" (.int (Int32.ofNat cs.length))) (Pa14 : Exa Z h0 b1 "[B") (Pa15 : Arv Z h0 b1 k1 .byte (16 : Int32) (own_sb cs) (.int (0 : Int32))) (hc16 : cs.length ≤ 16) (hnb : nb ≤ h0.size) (hnn : n0 ≤ nb) :
    own_Met l Z (⟨"java/lang/String", "<init>", "(Ljava/lang/StringBuilder;)V"⟩ : MethodName) jdk_42_method_53_code 2 none ws ({ frames := 4, cells := 1, slots := 16, locals := 65 } : Room) #[(.ref x1), (.ref a1)] h0 (Q_rm_xib Z G1 x1 a1 b1 k1 cs nb h0 n0) := by
 refine MetFree.of_bodySF (plainFor_of_name own_pn1) hisR ?_
 intro p e s m args below meth c s₁ Bd hml0 hP hK
 obtain ⟨rfl, hZ, hh⟩ := hP
 have hx := Bd.exec
 have hby := Bd.bytes
 have D := fun i => hb hby (d_rm_xib i)
 have hml : c.maxLocals = 2 := hml0
 have hown : s.vm.findClass "java/lang/String" = some m.cls := findClass_of_methodNamed Bd.named
 have hnm := (name_of_methodNamed Bd.named Bd.method).1
 have hlk : meth.locks = false := Bd.notSynchronized
 have X0 : Stand p l e ({ frames := 4, cells := 1, slots := 16, locals := 65 } : Room) s m #[(.ref x1), (.ref a1)] below meth c s₁ [] 0 0 := Stand.of_body Bd
 have e0 : s₁.heap = h0 := by rw [← hh, Bd.state]; rfl
 have N0 := Fr.nil nb
 suffices hgo : own_Ok p e below (own_Qx s (Q_rm_xib Z G1 x1 a1 b1 k1 cs nb h0 n0) 1 16) (s₁.setTop (mkF m 0 #[.val (.ref x1), .val (.ref a1)] [])) from by
   obtain ⟨s₂, o, h1, h2⟩ := hgo
   exact ⟨s₂, o, castTop (own_ef_rm_xib m x1 a1) h1, h2⟩
 show own_Ok p e below _ (s₁.setTop (mkF m 0 #[.val (.ref x1), .val (.ref a1)] []))
 refine s_aloadN X0 hx (D 0) rfl rfl ?_
 refine s_aloadN X0 hx (D 1) rfl rfl ?_
 refine s_aconstNull X0 hx (D 2) ?_
 obtain ⟨_, T101, Lc101, X101, hQ101, st101⟩ := own_callN X0 hx hZ hown (own_hw hw 258 rfl) (own_hw hw 259 rfl) (own_hw hw 31 rfl) (own_hw hw 260 rfl) (rm_xia l Z a0 hw [] G1 x1 a1 b1 k1 cs nb h0 n0 O0 SG1 PG1 E9 F8 F9 g9 ne9 ne8 Pa10 Pa11 Pa12 Pa13 Pa14 Pa15 hc16 (Nat.le_trans hnb (Keep.refl h0 [x1]).1) hnn) rfl (by decide) e0 (Ls := #[.val (.ref x1), .val (.ref a1)]) x1 [(.ref a1), .null] [] rfl (by rw [hml]; rfl) (lenOf own_pd28 rfl) (D 3) (by decide) 0 rfl (by decide) (by decide) (by decide)
 obtain ⟨tz_101, kz_101, rfl, Nq101, K101, g101_0, g101_1, g101_2, g101_3, gs_tz_101⟩ := hQ101
 have N101 := Fr.app N0 Nq101
 refine st101 _ ?_
 have gb_tz_101 : n0 ≤ tz_101 := Nat.le_trans (own_n0 O0) gs_tz_101
 have gz_tz_101 : h0.size ≤ tz_101 := Nat.le_trans (Keep.refl h0 [x1]).1 gs_tz_101
 have ne_x1_tz_101 : x1 ≠ tz_101 := Nat.ne_of_lt (Nat.lt_of_lt_of_le E9.lt gs_tz_101)
 have ne_a1_tz_101 : a1 ≠ tz_101 := Nat.ne_of_lt (Nat.lt_of_lt_of_le Pa10.lt gs_tz_101)
 have ne_b1_tz_101 : b1 ≠ tz_101 := Nat.ne_of_lt (Nat.lt_of_lt_of_le Pa14.lt gs_tz_101)
 have e101 : T101.heap = T101.heap := rfl
 have f102 := (Keep.refl h0 [x1]).trans K101 (allS (Or.inl (by simp)) all0)
 exact own_retV X101 hx hlk Bd.returns (D 4) (by rw [e101]; exact ⟨tz_101, kz_101, rfl, N101, f102, g101_0, g101_1, g101_2, g101_3, gz_tz_101⟩) (by decide) (by decide)
theorem own_pd29 : parseMethodDescriptor "(Ljava/lang/StringBuilder;)V" = some ⟨[(.object "java/lang/StringBuilder")], none⟩ := by decide +kernel
theorem own_ef_rm_bts (m : MethodId) (a1 : Addr) : entryFrame m #[(.ref a1)] 1 = mkF m 0 #[.val (.ref a1)] [] := by first | (simp [entryFrame, mkF, argsToLocals, Value.category]; done) | rfl
def t_rm_bts : List (Nat × Instr × Nat) := [(0, .new 18, 3), (3, .dup, 1), (4, .aload_n 0, 1), (5, .invokespecial 137, 3), (8, .areturn, 1)]
theorem d_rm_bts (i : Nat) : decode jdk_67_method_42_code (t_rm_bts.getD i (0, .new 18, 3)).1 = .ok (t_rm_bts.getD i (0, .new 18, 3)).2 := own_dt (by decide +kernel) (List.mem_cons_self ..) i
def Q_rm_bts (Z : State) (G1 : Int32) (a1 : Addr) (b1 : Addr) (k1 : ClassId) (cs : List Int32) (nb : Nat) (h0 : Heap) (n0 : Nat) (v : Option Value) (h : Heap) (L : List Loc) : Prop := ∃ (az : Addr), ∃ (tz : Addr), ∃ (kz : ClassId), v = some (.ref az) ∧ Fr nb L ∧ Keep h0 h [] ∧ Exa Z h az "java/lang/String" ∧ Fld Z h az "java/lang/String" "coder" "B" (.int (0 : Int32)) ∧ Fld Z h az "java/lang/String" "value" "[B" (.ref tz) ∧ Arv Z h tz kz .byte (Int32.ofNat cs.length) (cs.map Value.int) (.int (0 : Int32)) ∧ h0.size ≤ az ∧ h0.size ≤ tz
set_option maxRecDepth 65536 in
set_option maxHeartbeats 40000000 in
theorem rm_bts (l : Launch) (Z : State) (a0 : Array Value) (hw : ∀ d ∈ tables_1, d.before a0 Z = true) (ws : List Jvm.Cond) (G1 : Int32) (a1 : Addr) (b1 : Addr) (k1 : ClassId) (cs : List Int32) (nb : Nat) (h0 : Heap) (n0 : Nat) (O0 : Old Z n0 h0) (SG1 : Sta Z Z.heap "java/lang/String" "COMPACT_STRINGS" "Z" (.int G1)) (PG1 : ¬ (G1 = (0 : Int32))) (Pa10 : Exa Z h0 a1 "java/lang/StringBuilder") (Pa11 : Fld Z h0 a1 "java/lang/AbstractStringBuilder" "value" "[B" (.ref b1)) (Pa12 : Fld Z h0 a1 "java/lang/AbstractStringBuilder" "coder" "B" (.int (0 : Int32))) (Pa13 : Fld Z h0 a1 "java/lang/AbstractStringBuilder" "count" "I" (.int (Int32.ofNat cs.length))) (Pa14 : Exa Z h0 b1 "[B") (Pa15 : Arv Z h0 b1 k1 .byte (16 : Int32) (own_sb cs) (.int (0 : Int32))) (hc16 : cs.length ≤ 16) (hnb : nb ≤ h0.size) (hnn : n0 ≤ nb) :
    own_Met l Z (⟨"java/lang/StringBuilder", "toString", "()Ljava/lang/String;"⟩ : MethodName) jdk_67_method_42_code 1 (some (.object "java/lang/String")) ws ({ frames := 5, cells := 2, slots := 20, locals := 79 } : Room) #[(.ref a1)] h0 (Q_rm_bts Z G1 a1 b1 k1 cs nb h0 n0) := by
 refine MetFree.of_bodySF (plainFor_of_name own_pn6) hisR ?_
 intro p e s m args below meth c s₁ Bd hml0 hP hK
 obtain ⟨rfl, hZ, hh⟩ := hP
 have hx := Bd.exec
 have hby := Bd.bytes
 have D := fun i => hb hby (d_rm_bts i)
 have hml : c.maxLocals = 1 := hml0
 have hown : s.vm.findClass "java/lang/StringBuilder" = some m.cls := findClass_of_methodNamed Bd.named
 have hnm := (name_of_methodNamed Bd.named Bd.method).1
 have hlk : meth.locks = false := Bd.notSynchronized
 have X0 : Stand p l e ({ frames := 5, cells := 2, slots := 20, locals := 79 } : Room) s m #[(.ref a1)] below meth c s₁ [] 0 0 := Stand.of_body Bd
 have e0 : s₁.heap = h0 := by rw [← hh, Bd.state]; rfl
 have N0 := Fr.nil nb
 suffices hgo : own_Ok p e below (own_Qx s (Q_rm_bts Z G1 a1 b1 k1 cs nb h0 n0) 2 20) (s₁.setTop (mkF m 0 #[.val (.ref a1)] [])) from by
   obtain ⟨s₂, o, h1, h2⟩ := hgo
   exact ⟨s₂, o, castTop (own_ef_rm_bts m a1) h1, h2⟩
 show own_Ok p e below _ (s₁.setTop (mkF m 0 #[.val (.ref a1)] []))
 obtain ⟨T101, h101, X101, e101, E101, A101, D101, -, st101⟩ := newO X0 hx hZ hown (own_hw hw 254 rfl) (own_hw hw 30 rfl) (own_hw hw 31 rfl) e0 (g := (mkF m 0 #[.val (.ref a1)] [])) rfl (D 0) (by decide) (by decide)
 obtain ⟨b101, g101⟩ : ∃ z, z = h0.size := ⟨_, rfl⟩
 rw [← g101] at A101 D101 st101
 refine own_st st101 ?_
 have gb_b101 : n0 ≤ b101 := Nat.le_trans (own_n0 O0) (Nat.le_of_eq g101.symm)
 have gz_b101 : h0.size ≤ b101 := Nat.le_trans (Keep.refl h0 []).1 (Nat.le_of_eq g101.symm)
 have ne_a1_b101 : a1 ≠ b101 := Nat.ne_of_lt (Nat.lt_of_lt_of_le Pa10.lt (Nat.le_of_eq g101.symm))
 have ne_b1_b101 : b1 ≠ b101 := Nat.ne_of_lt (Nat.lt_of_lt_of_le Pa14.lt (Nat.le_of_eq g101.symm))
 have F101_coder : Fld Z h101 b101 "java/lang/String" "coder" "B" (.int (0 : Int32)) := D101 (Or.inr (own_hw hw 55 rfl)) (ty := .byte) (by decide)
 have F101_value : Fld Z h101 b101 "java/lang/String" "value" "[B" .null := D101 (Or.inr (own_hw hw 57 rfl)) (ty := (.array .byte)) (by decide)
 show own_Ok p e below _ (T101.setTop (mkF m 3 #[.val (.ref a1)] [(.ref b101)]))
 refine s_dup X101 hx (D 1) rfl ?_
 refine s_aloadN X101 hx (D 2) rfl rfl ?_
 have f103 := (Keep.refl h0 []).ext E101
 have f104 := Pa10.ext E101
 have f105 := Pa11.ext E101
 have f106 := Pa12.ext E101
 have f107 := Pa13.ext E101
 have f108 := Pa14.ext E101
 have f109 := Pa15.ext E101
 have f110 := O0.ext E101
 obtain ⟨_, T102, Lc102, X102, hQ102, st102⟩ := own_callN X101 hx hZ hown (own_hw hw 255 rfl) (own_hw hw 256 rfl) (own_hw hw 31 rfl) (own_hw hw 257 rfl) (rm_xib l Z a0 hw [] G1 b101 a1 b1 k1 cs nb h101 n0 f110 SG1 PG1 A101 F101_coder F101_value (Nat.le_trans hnb gz_b101) ne_a1_b101 ne_b1_b101 f104 f105 f106 f107 f108 f109 hc16 (Nat.le_trans hnb f103.1) hnn) rfl (by decide) e101 (Ls := #[.val (.ref a1)]) b101 [(.ref a1)] [(.ref b101)] rfl (by rw [hml]; rfl) (lenOf own_pd29 rfl) (D 3) (by decide) 1 rfl (by decide) (by decide) (by decide)
 obtain ⟨tz_102, kz_102, rfl, Nq102, K102, g102_0, g102_1, g102_2, g102_3, gs_tz_102⟩ := hQ102
 have N102 := Fr.app N0 Nq102
 refine st102 _ ?_
 have gb_tz_102 : n0 ≤ tz_102 := Nat.le_trans (own_n0 f110) gs_tz_102
 have gz_tz_102 : h0.size ≤ tz_102 := Nat.le_trans f103.1 gs_tz_102
 have ne_a1_tz_102 : a1 ≠ tz_102 := Nat.ne_of_lt (Nat.lt_of_lt_of_le f104.lt gs_tz_102)
 have ne_b1_tz_102 : b1 ≠ tz_102 := Nat.ne_of_lt (Nat.lt_of_lt_of_le f108.lt gs_tz_102)
 have ne_b101_tz_102 : b101 ≠ tz_102 := Nat.ne_of_lt (Nat.lt_of_lt_of_le A101.lt gs_tz_102)
 have e102 : T102.heap = T102.heap := rfl
 have f111 := f103.trans K102 (allS (Or.inr gz_b101) all0)
 exact own_retA X102 hx hlk (t := (.object "java/lang/String")) rfl Bd.returns rfl (D 4) (by rw [e102]; exact ⟨b101, tz_102, kz_102, rfl, N102, f111, g102_0, g102_1, g102_2, g102_3, gz_b101, gz_tz_102⟩) (by decide) (by decide)
theorem own_pd30 : parseMethodDescriptor "(J)Ljava/lang/String;" = some ⟨[.long], some (.object "java/lang/String")⟩ := by decide +kernel
theorem own_pd31 : parseMethodDescriptor "()V" = some ⟨[], none⟩ := by decide +kernel
theorem own_pd32 : parseMethodDescriptor "(J)Ljava/lang/StringBuilder;" = some ⟨[.long], some (.object "java/lang/StringBuilder")⟩ := by decide +kernel
theorem own_pd33 : parseMethodDescriptor "(Ljava/lang/String;)Ljava/lang/StringBuilder;" = some ⟨[(.object "java/lang/String")], some (.object "java/lang/StringBuilder")⟩ := by decide +kernel
theorem own_pd34 : parseMethodDescriptor "(I)Ljava/lang/String;" = some ⟨[.int], some (.object "java/lang/String")⟩ := by decide +kernel
theorem own_pd35 : parseMethodDescriptor "()Ljava/lang/String;" = some ⟨[], some (.object "java/lang/String")⟩ := by decide +kernel
theorem own_ef_rm_pts (m : MethodId) (a1 : Addr) : entryFrame m #[(.ref a1)] 5 = mkF m 0 #[.val (.ref a1), .unset, .unset, .unset, .unset] [] := by first | (simp [entryFrame, mkF, argsToLocals, Value.category]; done) | rfl
def t_rm_pts : List (Nat × Instr × Nat) := [(39, .lload_n 1, 1), (40, .invokestatic 116, 3), (43, .astore 4, 2), (45, .new 35, 3), (48, .dup, 1), (49, .invokespecial 37, 3), (52, .aload_n 0, 1), (53, .getfield 9, 3), (56, .ldc2_w 59, 3), (59, .ldiv, 1), (60, .invokevirtual 119, 3), (63, .ldc 122, 2), (65, .invokevirtual 40, 3), (68, .ldc 124, 2), (70, .iload_n 3, 1), (71, .aload 4, 2), (73, .invokevirtual 23, 3), (76, .isub, 1), (77, .invokevirtual 126, 3), (80, .invokevirtual 40, 3), (83, .aload 4, 2), (85, .invokevirtual 40, 3), (88, .invokevirtual 53, 3), (91, .areturn, 1), (12, .iload_n 3, 1), (13, .iconst 2, 1), (14, .if_icmp .le 25, 3), (17, .lload_n 1, 1), (18, .ldc2_w 61, 3), (21, .lrem, 1), (22, .lconst 0, 1), (23, .lcmp, 1), (24, .ifCond .ne 15, 3), (27, .lload_n 1, 1), (28, .ldc2_w 61, 3), (31, .ldiv, 1), (32, .lstore_n 1, 1), (33, .iinc 3 (-1), 3), (36, .goto (-24), 3), (0, .aload_n 0, 1), (1, .getfield 9, 3), (4, .ldc2_w 59, 3), (7, .lrem, 1), (8, .lstore_n 1, 1), (9, .bipush 6, 2), (11, .istore_n 3, 1)]
theorem d_rm_pts (i : Nat) : decode prog_19_method_12_code (t_rm_pts.getD i (39, .lload_n 1, 1)).1 = .ok (t_rm_pts.getD i (39, .lload_n 1, 1)).2 := own_dt (by decide +kernel) (List.mem_cons_self ..) i
def Q_rm_pts (Z : State) (G1 : Int32) (od : Addr) (ko : ClassId) (dt : Addr) (kt : ClassId) (a1 : Addr) (mv : Nat) (h0 : Heap) (n0 : Nat) (v : Option Value) (h : Heap) (L : List Loc) : Prop := ∃ (az : Addr), ∃ (tz : Addr), ∃ (kz : ClassId), v = some (.ref az) ∧ Fr n0 L ∧ Keep h0 h [] ∧ Exa Z h az "java/lang/String" ∧ Fld Z h az "java/lang/String" "coder" "B" (.int (0 : Int32)) ∧ Fld Z h az "java/lang/String" "value" "[B" (.ref tz) ∧ Arv Z h tz kz .byte (Int32.ofNat (own_show mv).length) ((own_show mv).map Value.int) (.int (0 : Int32)) ∧ h0.size ≤ az ∧ h0.size ≤ tz
set_option maxRecDepth 65536 in
set_option maxHeartbeats 40000000 in
theorem rm_pts (l : Launch) (Z : State) (a0 : Array Value) (hw : ∀ d ∈ tables_1, d.before a0 Z = true) (ws : List Jvm.Cond) (G1 : Int32) (od : Addr) (ko : ClassId) (dt : Addr) (kt : ClassId) (a1 : Addr) (mv : Nat) (h0 : Heap) (n0 : Nat) (O0 : Old Z n0 h0) (SG1 : Sta Z Z.heap "java/lang/String" "COMPACT_STRINGS" "Z" (.int G1)) (PG1 : ¬ (G1 = (0 : Int32))) (SDO : Sta Z Z.heap "java/lang/Integer" "DigitOnes" "[B" (.ref od)) (VDO : Arv Z Z.heap od ko .byte (100 : Int32) own_ones (.int (0 : Int32))) (SDT : Sta Z Z.heap "java/lang/Integer" "DigitTens" "[B" (.ref dt)) (VDT : Arv Z Z.heap dt kt .byte (100 : Int32) own_tens (.int (0 : Int32))) (hc1 : Jvm.Lit.constHeld Z "com/example/tickfence/tickfence/Price" 122) (hc2 : Jvm.Lit.constHeld Z "com/example/tickfence/tickfence/Price" 124) (hc3 : Jvm.Lit.constHeld Z "java/lang/String" 7) (hcw : Jvm.Lit.compactW.before a0 Z = true) (E1 : Exa Z h0 a1 "com/example/tickfence/tickfence/Price") (F1 : Fld Z h0 a1 "com/example/tickfence/tickfence/Price" "micros" "J" (.long (Int64.ofNat mv))) (hmv : mv < 1000000000000000) :
    own_MetI l Z (⟨"com/example/tickfence/tickfence/Price", "toString", "()Ljava/lang/String;"⟩ : MethodName) prog_19_method_12_code 5 (some (.object "java/lang/String")) ws ({ frames := 6, cells := 12, slots := 79, locals := 91 } : Room) #[(.ref a1)] h0 (Q_rm_pts Z G1 od ko dt kt a1 mv h0 n0) ([] : List String) := by
 refine MetFree.of_bodySF (plainFor_of_name own_pn3) hisR ?_
 intro p e s m args below meth c s₁ Bd hml0 hP hK
 obtain ⟨rfl, hZ, hh, hIB⟩ := hP
 have hx := Bd.exec
 have hby := Bd.bytes
 have D := fun i => hb hby (d_rm_pts i)
 have hml : c.maxLocals = 5 := hml0
 have hown : s.vm.findClass "com/example/tickfence/tickfence/Price" = some m.cls := findClass_of_methodNamed Bd.named
 have hnm := (name_of_methodNamed Bd.named Bd.method).1
 have hlk : meth.locks = false := Bd.notSynchronized
 have X0 : Stand p l e ({ frames := 6, cells := 12, slots := 79, locals := 91 } : Room) (s.setVm s.vm) m #[(.ref a1)] below meth c s₁ [] 0 0 := Stand.of_body Bd
 have hS : s.Since s.vm 0 := (State.WarmedH.refl s).since 0
 have hk0 : 0 ≤ h0.size := Nat.zero_le _
 have e0 : s₁.heap = h0 := by rw [← hh, Bd.state]; rfl
 have N0 := Fr.nil h0.size
 suffices hgo : own_Ok p e below (own_QxW s (Q_rm_pts Z G1 od ko dt kt a1 mv h0 n0) 12 79) (s₁.setTop (mkF m 0 #[.val (.ref a1), .unset, .unset, .unset, .unset] [])) from by
   obtain ⟨s₂, o, h1, h2⟩ := hgo
   exact ⟨s₂, o, castTop (own_ef_rm_pts m a1) h1, h2⟩
 have hwS : ∀ d ∈ Bundle.stringAtoms, d.before a0 Z = true := fun d hd => hw d ((by decide +kernel : ∀ d ∈ Bundle.stringAtoms, d ∈ tables_1) d hd)
 have hln : ∀ d ∈ StrChars.Road.wordsLen, d.before a0 Z = true := fun d hd => hw d ((by decide +kernel : ∀ d ∈ StrChars.Road.wordsLen, d ∈ tables_1) d hd)
 have cut39 : ∀ (T : State) (locs : List Loc) (h : Heap) (dc : Nat) (X : Stand p l e ({ frames := 6, cells := 12, slots := 79, locals := 91 } : Room) (s.setVm s.vm) m #[(.ref a1)] below meth c T locs 0 0) (eh : T.heap = h) (N : Fr h0.size locs) (O : Old Z n0 h) (KK : Keep h0 h []) (cf0 : Exa Z h a1 "com/example/tickfence/tickfence/Price") (cf1 : Fld Z h a1 "com/example/tickfence/tickfence/Price" "micros" "J" (.long (Int64.ofNat mv))) (hdc2 : 2 ≤ dc) (hdc6 : dc ≤ 6) (hdc : dc = own_dec (mv % 1000000)), own_Ok p e below (own_QxW s (Q_rm_pts Z G1 od ko dt kt a1 mv h0 n0) 12 79) (T.setTop (mkF m 39 #[.val (.ref a1), .val (.long (Int64.ofNat (own_q mv dc))), .second, .val (.int (Int32.ofNat dc)), .unset] [])) := by
  intro T locs h dc X eh N O KK cf0 cf1 hdc2 hdc6 hdc
  have hqb := own_qlt mv dc
  have hl1 := own_dl9 (v := mv / 1000000) (by omega)
  have hl2 := own_qlen (mv := mv) hdc2 hdc6
  have hl0 := own_dlpos (own_q mv dc)
  show own_Ok p e below _ (T.setTop (mkF m 39 #[.val (.ref a1), .val (.long (Int64.ofNat (own_q mv dc))), .second, .val (.int (Int32.ofNat dc)), .unset] []))
  refine s_lloadN X hx (D 0) rfl ?_
  obtain ⟨_, T101, Lc101, X101, hQ101, st101⟩ := own_callS X hx hZ hown (own_hw hw 146 rfl) (own_hw hw 147 rfl) (own_hw hw 148 rfl) (own_hw hw 149 rfl) (rm_lts l Z a0 hw [] G1 od ko dt kt ((own_q mv dc)) h0.size h n0 O SG1 PG1 SDO VDO SDT VDT (by omega) KK.1 (own_n0 O0)) (by decide) eh (Ls := #[.val (.ref a1), .val (.long (Int64.ofNat (own_q mv dc))), .second, .val (.int (Int32.ofNat dc)), .unset]) [(.long (Int64.ofNat (own_q mv dc)))] [] rfl (by rw [hml]; rfl) (lenOf own_pd30 rfl) (D 1) (by decide) 0 rfl (by decide) (by decide) (by decide)
  obtain ⟨az_101, tz_101, kz_101, rfl, Nq101, K101, g101_0, g101_1, g101_2, g101_3, gs_az_101, gs_tz_101⟩ := hQ101
  have N101 := Fr.app N Nq101
  refine st101 _ ?_
  have gb_az_101 : n0 ≤ az_101 := Nat.le_trans (own_n0 O) gs_az_101
  have gz_az_101 : h0.size ≤ az_101 := Nat.le_trans KK.1 gs_az_101
  have ne_a1_az_101 : a1 ≠ az_101 := Nat.ne_of_lt (Nat.lt_of_lt_of_le cf0.lt gs_az_101)
  have ne_od_az_101 : od ≠ az_101 := Old.ne O VDO.lt gb_az_101
  have ne_dt_az_101 : dt ≠ az_101 := Old.ne O VDT.lt gb_az_101
  have gb_tz_101 : n0 ≤ tz_101 := Nat.le_trans (own_n0 O) gs_tz_101
  have gz_tz_101 : h0.size ≤ tz_101 := Nat.le_trans KK.1 gs_tz_101
  have ne_a1_tz_101 : a1 ≠ tz_101 := Nat.ne_of_lt (Nat.lt_of_lt_of_le cf0.lt gs_tz_101)
  have ne_od_tz_101 : od ≠ tz_101 := Old.ne O VDO.lt gb_tz_101
  have ne_dt_tz_101 : dt ≠ tz_101 := Old.ne O VDT.lt gb_tz_101
  have e101 : T101.heap = T101.heap := rfl
  refine s_astore X101 hx (D 2) rfl #[.val (.ref a1), .val (.long (Int64.ofNat (own_q mv dc))), .second, .val (.int (Int32.ofNat dc)), .val (.ref az_101)] rfl ?_
  obtain ⟨T102, h102, X102, e102, E102, A102, D102, -, st102⟩ := newO X101 hx hZ hown (own_hw hw 167 rfl) (own_hw hw 168 rfl) (own_hw hw 169 rfl) e101 (g := (mkF m 45 #[.val (.ref a1), .val (.long (Int64.ofNat (own_q mv dc))), .second, .val (.int (Int32.ofNat dc)), .val (.ref az_101)] [])) rfl (D 3) (by decide) (by decide)
  obtain ⟨b102, g102⟩ : ∃ z, z = T101.heap.size := ⟨_, rfl⟩
  rw [← g102] at A102 D102 st102
  refine own_st st102 ?_
  have f103 := O.keep K101 all0
  have gb_b102 : n0 ≤ b102 := Nat.le_trans (own_n0 f103) (Nat.le_of_eq g102.symm)
  have f104 := KK.trans K101 all0
  have gz_b102 : h0.size ≤ b102 := Nat.le_trans f104.1 (Nat.le_of_eq g102.symm)
  have f105 := cf0.keep K101
  have ne_a1_b102 : a1 ≠ b102 := Nat.ne_of_lt (Nat.lt_of_lt_of_le f105.lt (Nat.le_of_eq g102.symm))
  have ne_az_101_b102 : az_101 ≠ b102 := Nat.ne_of_lt (Nat.lt_of_lt_of_le g101_0.lt (Nat.le_of_eq g102.symm))
  have ne_tz_101_b102 : tz_101 ≠ b102 := Nat.ne_of_lt (Nat.lt_of_lt_of_le g101_3.lt (Nat.le_of_eq g102.symm))
  have ne_od_b102 : od ≠ b102 := Old.ne f103 VDO.lt gb_b102
  have ne_dt_b102 : dt ≠ b102 := Old.ne f103 VDT.lt gb_b102
  have F102_value : Fld Z h102 b102 "java/lang/AbstractStringBuilder" "value" "[B" .null := D102 (Or.inl (own_hw hw 182 rfl)) (ty := (.array .byte)) (by decide)
  have F102_coder : Fld Z h102 b102 "java/lang/AbstractStringBuilder" "coder" "B" (.int (0 : Int32)) := D102 (Or.inl (own_hw hw 184 rfl)) (ty := .byte) (by decide)
  have F102_count : Fld Z h102 b102 "java/lang/AbstractStringBuilder" "count" "I" (.int (0 : Int32)) := D102 (Or.inl (own_hw hw 196 rfl)) (ty := .int) (by decide)
  show own_Ok p e below _ (T102.setTop (mkF m 48 #[.val (.ref a1), .val (.long (Int64.ofNat (own_q mv dc))), .second, .val (.int (Int32.ofNat dc)), .val (.ref az_101)] [(.ref b102)]))
  refine s_dup X102 hx (D 4) rfl ?_
  have f107 := f104.ext E102
  have f108 := f103.ext E102
  obtain ⟨_, T106, Lc106, X106, hQ106, st106⟩ := own_callN X102 hx hZ hown (own_hw hw 170 rfl) (own_hw hw 171 rfl) (own_hw hw 169 rfl) (own_hw hw 172 rfl) (rm_sbi l Z a0 hw [] G1 b102 h0.size h102 n0 f108 SG1 PG1 A102 F102_coder F102_value F102_count gz_b102 f107.1 (own_n0 O0)) rfl (by decide) e102 (Ls := #[.val (.ref a1), .val (.long (Int64.ofNat (own_q mv dc))), .second, .val (.int (Int32.ofNat dc)), .val (.ref az_101)]) b102 [] [(.ref b102)] rfl (by rw [hml]; rfl) (lenOf own_pd31 rfl) (D 5) (by decide) 1 rfl (by decide) (by decide) (by decide)
  obtain ⟨bz_106, kz_106, rfl, Nq106, K106, g106_0, g106_1, g106_2, g106_3, g106_4, g106_5, gs_bz_106⟩ := hQ106
  have N106 := Fr.app N101 Nq106
  refine st106 _ ?_
  have gb_bz_106 : n0 ≤ bz_106 := Nat.le_trans (own_n0 f108) gs_bz_106
  have gz_bz_106 : h0.size ≤ bz_106 := Nat.le_trans f107.1 gs_bz_106
  have f109 := f105.ext E102
  have ne_a1_bz_106 : a1 ≠ bz_106 := Nat.ne_of_lt (Nat.lt_of_lt_of_le f109.lt gs_bz_106)
  have f110 := g101_0.ext E102
  have ne_az_101_bz_106 : az_101 ≠ bz_106 := Nat.ne_of_lt (Nat.lt_of_lt_of_le f110.lt gs_bz_106)
  have f111 := g101_3.ext E102
  have ne_tz_101_bz_106 : tz_101 ≠ bz_106 := Nat.ne_of_lt (Nat.lt_of_lt_of_le f111.lt gs_bz_106)
  have ne_b102_bz_106 : b102 ≠ bz_106 := Nat.ne_of_lt (Nat.lt_of_lt_of_le A102.lt gs_bz_106)
  have ne_od_bz_106 : od ≠ bz_106 := Old.ne f108 VDO.lt gb_bz_106
  have ne_dt_bz_106 : dt ≠ bz_106 := Old.ne f108 VDT.lt gb_bz_106
  have e106 : T106.heap = T106.heap := rfl
  refine s_aloadN X106 hx (D 6) rfl rfl ?_
  have f113 := cf1.keep K101 nin0
  have f114 := f113.ext E102
  have f115 := f114.keep K106 (ninS ne_a1_b102 nin0)
  obtain ⟨T112, X112, e112, st112⟩ := getF X106 hx hZ hown (host := "") (Or.inl (own_hw hw 139 rfl)) Via.refl e106 f115 (g := (mkF m 53 #[.val (.ref a1), .val (.long (Int64.ofNat (own_q mv dc))), .second, .val (.int (Int32.ofNat dc)), .val (.ref az_101)] [(.ref a1), (.ref b102)])) rfl rfl (D 7)
  refine own_st st112 ?_
  show own_Ok p e below _ (T112.setTop (mkF m 56 #[.val (.ref a1), .val (.long (Int64.ofNat (own_q mv dc))), .second, .val (.int (Int32.ofNat dc)), .val (.ref az_101)] [(.long (Int64.ofNat mv)), (.ref b102)]))
  refine own_st (fun _ k => Jvm.Stand.ldc2J X112 hx hown (mvT hZ (own_hw hw 132 rfl)) rfl (D 8) k) ?_
  show own_Ok p e below _ (T112.setTop (mkF m 59 #[.val (.ref a1), .val (.long (Int64.ofNat (own_q mv dc))), .second, .val (.int (Int32.ofNat dc)), .val (.ref az_101)] [(.long (1000000 : Int64)), (.long (Int64.ofNat mv)), (.ref b102)]))
  refine s_ldiv X112 hx (D 9) (by decide) ?_
  rw [show ((Int64.ofNat mv) / (1000000 : Int64)) = (Int64.ofNat (mv / 1000000)) from own_ldM hmv]
  show own_Ok p e below _ (T112.setTop (mkF m 60 #[.val (.ref a1), .val (.long (Int64.ofNat (own_q mv dc))), .second, .val (.int (Int32.ofNat dc)), .val (.ref az_101)] [(.long (Int64.ofNat (mv / 1000000))), (.ref b102)]))
  have f117 := f107.trans K106 (allS (Or.inr gz_b102) all0)
  have f118 := f108.keep K106 (allS gb_b102 all0)
  obtain ⟨_, T116, Lc116, X116, hQ116, st116⟩ := own_callV X112 hx hZ hown (own_hw hw 185 rfl) (own_hw hw 186 rfl) (own_hw hw 188 rfl) rfl (own_hw hw 188 rfl) (own_hw hw 187 rfl) (own_hw hw 169 rfl) (own_hw hw 189 rfl) (rm_baj l Z a0 hw [] G1 od ko dt kt b102 bz_106 kz_106 ((mv / 1000000)) h0.size T106.heap n0 f118 SG1 PG1 SDO VDO SDT VDT g106_0 g106_1 g106_2 g106_3 g106_4 g106_5 gz_b102 gz_bz_106 ne_b102_bz_106 (by omega) f117.1 (own_n0 O0)) (by decide) e112 g106_0 (Ls := #[.val (.ref a1), .val (.long (Int64.ofNat (own_q mv dc))), .second, .val (.int (Int32.ofNat dc)), .val (.ref az_101)]) [(.long (Int64.ofNat (mv / 1000000)))] [] rfl (by rw [hml]; rfl) (lenOf own_pd32 rfl) (D 10) (by decide) 0 rfl (by decide) (by decide) (by decide)
  obtain ⟨rfl, Nq116, K116, g116_0, g116_1, g116_2, g116_3, g116_4, g116_5⟩ := hQ116
  have N116 := Fr.app N106 Nq116
  refine st116 _ ?_
  have e116 : T116.heap = T116.heap := rfl
  have f120 := Nat.le_trans (Nat.zero_le _) K101.1
  have f121 := Nat.le_trans f120 E102.1
  have f122 := Nat.le_trans f121 K106.1
  have f123 := Nat.le_trans f122 K116.1
  obtain ⟨aS119, T119, h119, kk119, bS119, kS119, X119, e119, E119, hS119, hk119, hZ119, hown119, gE119, gC119, gV119, gA119, ga119, gb119, IB119, LT119, st119⟩ := ldcSVL X116 hx hZ hown (own_hw hw 209 rfl) hwS e116 hS f123 (by rw [hh]; exact N116) (fun b cl q => by rw [hh]; exact O0.2.2 b cl q) hIB (by decide) hc1 hcw (vs := [(.int (46 : Int32))]) (z := (1 : Int32)) ⟨by decide, rfl⟩ (by decide) rfl (g := (mkF m 63 #[.val (.ref a1), .val (.long (Int64.ofNat (own_q mv dc))), .second, .val (.int (Int32.ofNat dc)), .val (.ref az_101)] [(.ref b102)])) rfl (D 11) (n := 4) (by decide) (by decide) (by decide) (by decide)
  refine own_st st119 ?_
  show own_Ok p e below _ (T119.setTop (mkF m 65 #[.val (.ref a1), .val (.long (Int64.ofNat (own_q mv dc))), .second, .val (.int (Int32.ofNat dc)), .val (.ref az_101)] [(.ref aS119), (.ref b102)]))
  have f125 := f117.trans K116 (allS (Or.inr gz_b102) (allS (Or.inr gz_bz_106) all0))
  have f126 := f125.ext E119
  have f127 := g116_0.ext E119
  have f128 := g116_1.ext E119
  have f129 := g116_2.ext E119
  have f130 := g116_3.ext E119
  have f131 := g116_4.ext E119
  have f132 := g116_5.ext E119
  have f133 := f118.keep K116 (allS gb_b102 (allS gb_bz_106 all0))
  have f134 := f133.ext E119
  obtain ⟨_, T124, Lc124, X124, hQ124, st124⟩ := own_callV X119 hx hZ119 hown119 (own_hw hw 212 rfl) (own_hw hw 213 rfl) (own_hw hw 215 rfl) rfl (own_hw hw 215 rfl) (own_hw hw 214 rfl) (own_hw hw 169 rfl) (own_hw hw 216 rfl) (rm_bas l Z a0 hw [] G1 b102 bz_106 kz_106 ((own_dl (mv / 1000000))) aS119 bS119 kS119 (([46] : List Int32)) h0.size h119 n0 f134 SG1 PG1 f127 f128 f129 f130 f131 f132 gz_b102 gz_bz_106 ne_b102_bz_106 gE119 gC119 gV119 gA119 own_A46 (by simp only [List.length_append, List.length_replicate, List.length_cons, List.length_nil]; omega) f126.1 (own_n0 O0)) (by decide) e119 f127 (Ls := #[.val (.ref a1), .val (.long (Int64.ofNat (own_q mv dc))), .second, .val (.int (Int32.ofNat dc)), .val (.ref az_101)]) [(.ref aS119)] [] rfl (by rw [hml]; rfl) (lenOf own_pd33 rfl) (D 12) (by decide) 0 rfl (by decide) (by decide) (by decide)
  obtain ⟨rfl, Nq124, K124, g124_0, g124_1, g124_2, g124_3, g124_4, g124_5⟩ := hQ124
  have N124 := Fr.app N116 Nq124
  refine st124 _ ?_
  have e124 : T124.heap = T124.heap := rfl
  have f136 := Nat.le_trans hk119 K124.1
  obtain ⟨aS135, T135, h135, kk135, bS135, kS135, X135, e135, E135, hS135, hk135, hZ135, hown135, gE135, gC135, gV135, gA135, ga135, gb135, IB135, LT135, st135⟩ := ldcSVL X124 hx hZ119 hown119 (own_hw hw 242 rfl) hwS e124 hS119 f136 (by rw [hh]; exact N124) (fun b cl q => by rw [hh]; exact O0.2.2 b cl q) IB119 (by decide) hc2 hcw (vs := [(.int (48 : Int32))]) (z := (1 : Int32)) ⟨by decide, rfl⟩ (by decide) rfl (g := (mkF m 68 #[.val (.ref a1), .val (.long (Int64.ofNat (own_q mv dc))), .second, .val (.int (Int32.ofNat dc)), .val (.ref az_101)] [(.ref b102)])) rfl (D 13) (n := 4) (by decide) (by decide) (by decide) (by decide)
  refine own_st st135 ?_
  show own_Ok p e below _ (T135.setTop (mkF m 70 #[.val (.ref a1), .val (.long (Int64.ofNat (own_q mv dc))), .second, .val (.int (Int32.ofNat dc)), .val (.ref az_101)] [(.ref aS135), (.ref b102)]))
  refine s_iloadN X135 hx (D 14) rfl ?_
  refine s_aload X135 hx (D 15) rfl rfl ?_
  have f138 := f110.keep K106
  have f139 := f138.keep K116
  have f140 := f139.ext E119
  have f141 := f140.keep K124
  have f142 := f141.ext E135
  have f143 := g101_2.ext E102
  have f144 := f143.keep K106 (ninS ne_az_101_b102 nin0)
  have f145 := f144.keep K116 (ninS ne_az_101_b102 (ninS ne_az_101_bz_106 nin0))
  have f146 := f145.ext E119
  have f147 := f146.keep K124 (ninS ne_az_101_b102 (ninS ne_az_101_bz_106 nin0))
  have f148 := f147.ext E135
  have f149 := g101_1.ext E102
  have f150 := f149.keep K106 (ninS ne_az_101_b102 nin0)
  have f151 := f150.keep K116 (ninS ne_az_101_b102 (ninS ne_az_101_bz_106 nin0))
  have f152 := f151.ext E119
  have f153 := f152.keep K124 (ninS ne_az_101_b102 (ninS ne_az_101_bz_106 nin0))
  have f154 := f153.ext E135
  have f155 := f111.keep K106 (ninS ne_tz_101_b102 nin0)
  have f156 := f155.keep K116 (ninS ne_tz_101_b102 (ninS ne_tz_101_bz_106 nin0))
  have f157 := f156.ext E119
  have f158 := f157.keep K124 (ninS ne_tz_101_b102 (ninS ne_tz_101_bz_106 nin0))
  have f159 := f158.ext E135
  have f160 := f134.keep K124 (allS gb_b102 (allS gb_bz_106 all0))
  have f161 := f160.ext E135
  obtain ⟨cq137, kq137, q137a, q137b, q137c⟩ := isOf hZ135 e135 f142
  obtain ⟨_, _, ⟨T137, L137, k137, n137⟩, -, X137, ⟨Lc137, hQ137, l137, y137, z137⟩, st137⟩ := X135.virtualBack hx (y := (⟨"java/lang/String", "length", "()I"⟩ : MethodName)) (z := (⟨"java/lang/String", "length", "()I"⟩ : MethodName)) hown135 (mvT hZ135 (own_hw hw 107 rfl)) (mvT hZ135 (own_hw hw 81 rfl)) (notFace_of_selects (args := #[]) (mvT hZ135 (own_hw hw 83 rfl))) (mvT hZ135 (own_hw hw 83 rfl)) (mvT hZ135 (own_hw hw 82 rfl)) (by decide) (StrChars.Road.lenW (W := 3) hZ135 hln (kI := 4) (own_hw hw 30 rfl) f142 f148 f154 f159 (own_codA (own_Adl _)) (own_upA (own_Adl _)) (SG1.ext f161.2) PG1 (by omega) (by decide) (by decide)) q137a q137c (g := (mkF m 73 #[.val (.ref a1), .val (.long (Int64.ofNat (own_q mv dc))), .second, .val (.int (Int32.ofNat dc)), .val (.ref az_101)] [(.ref az_101), (.int (Int32.ofNat dc)), (.ref aS135), (.ref b102)])) rfl (by rw [hml]; rfl) (Steps.refl _) (argsL := []) (rest := [(.int (Int32.ofNat dc)), (.ref aS135), (.ref b102)]) (lenOf own_pd9 rfl) rfl (by show 2 * 0 + _ ≤ _; exact Nat.le_of_eq rfl) (D 16) (fun _ _ => ⟨rfl, e135, (by decide : 8 + 0 ≤ _), (by decide : 49 + 0 ≤ _)⟩)
  dsimp only [Pt.U, Pt.locs, Pt.cells, Pt.slots] at X137 l137 y137 z137 st137 hQ137
  subst l137 y137 z137
  obtain ⟨rfl, rfl, e137⟩ := hQ137
  have Nq137 : Fr h0.size ([] : List Loc) := Fr.nil h0.size
  have N137 := Fr.app N124 Nq137
  refine own_st (fun _ k => st137.trans k) ?_
  show own_Ok p e below _ (T137.setTop (mkF m 76 #[.val (.ref a1), .val (.long (Int64.ofNat (own_q mv dc))), .second, .val (.int (Int32.ofNat dc)), .val (.ref az_101)] [(.int (Int32.ofNat (own_dl (own_q mv dc)).length)), (.int (Int32.ofNat dc)), (.ref aS135), (.ref b102)]))
  refine s_isub X137 hx (D 17) ?_
  rw [show ((Int32.ofNat dc) - (Int32.ofNat (own_dl (own_q mv dc)).length)) = (Int32.ofNat (dc - (own_dl (own_q mv dc)).length)) from own_subN hl2 (by omega)]
  show own_Ok p e below _ (T137.setTop (mkF m 77 #[.val (.ref a1), .val (.long (Int64.ofNat (own_q mv dc))), .second, .val (.int (Int32.ofNat dc)), .val (.ref az_101)] [(.int (Int32.ofNat (dc - (own_dl (own_q mv dc)).length))), (.ref aS135), (.ref b102)]))
  have f163 := f126.trans K124 (allS (Or.inr gz_b102) (allS (Or.inr gz_bz_106) all0))
  have f164 := f163.ext E135
  obtain ⟨cq162, kq162, q162a, q162b, q162c⟩ := isOf hZ135 e137 gE135
  obtain ⟨_, _, ⟨T162, L162, k162, n162⟩, -, X162, S162, gg162, ⟨Lc162, hQ162, l162, y162, z162⟩, st162⟩ := X137.virtualBackS hx (y := (⟨"java/lang/String", "repeat", "(I)Ljava/lang/String;"⟩ : MethodName)) (z := (⟨"java/lang/String", "repeat", "(I)Ljava/lang/String;"⟩ : MethodName)) hown135 (mvT hZ135 (own_hw hw 243 rfl)) (mvT hZ135 (own_hw hw 244 rfl)) (notFace_of_selects (args := #[]) (mvT hZ135 (own_hw hw 246 rfl))) (mvT hZ135 (own_hw hw 246 rfl)) (mvT hZ135 (own_hw hw 245 rfl)) (by decide) (own_backOfS (W := 1) (rm_rep l Z a0 hw [] aS135 bS135 kS135 ((dc - (own_dl (own_q mv dc)).length)) h0.size h135 n0 f161 hc3 hcw gE135 gC135 gV135 gA135 (by omega) f164.1 (own_n0 O0)) IB135 hZ135 (own_hw hw 247 rfl) (own_hw hw 31 rfl) (by decide) (by decide)) q162a q162c (g := (mkF m 77 #[.val (.ref a1), .val (.long (Int64.ofNat (own_q mv dc))), .second, .val (.int (Int32.ofNat dc)), .val (.ref az_101)] [(.int (Int32.ofNat (dc - (own_dl (own_q mv dc)).length))), (.ref aS135), (.ref b102)])) rfl (by rw [hml]; rfl) (Steps.refl _) (argsL := [(.int (Int32.ofNat (dc - (own_dl (own_q mv dc)).length)))]) (rest := [(.ref b102)]) (lenOf own_pd34 rfl) rfl (by show 2 * 0 + _ ≤ _; exact Nat.le_of_eq rfl) (D 18) (fun _ _ => ⟨rfl, e137, (by decide : 8 + 2 ≤ _), (by decide : 49 + 10 ≤ _)⟩)
  dsimp only [Pt.U, Pt.locs, Pt.cells, Pt.slots] at X162 l162 y162 z162 st162 hQ162 S162 gg162
  subst l162 y162 z162
  obtain ⟨X162, hS162, hZ162, hown162⟩ := rebS hS135 (by rw [e137]; exact hk135) X162 S162 gg162 hZ135 hown135
  obtain ⟨az_162, tz_162, kz_162, rfl, Nq162, K162, g162_0, g162_1, g162_2, g162_3⟩ := hQ162
  have N162 := Fr.app N137 Nq162
  refine own_st (fun _ k => st162.trans k) ?_
  have e162 : T162.heap = T162.heap := rfl
  show own_Ok p e below _ (T162.setTop (mkF m 80 #[.val (.ref a1), .val (.long (Int64.ofNat (own_q mv dc))), .second, .val (.int (Int32.ofNat dc)), .val (.ref az_101)] [(.ref az_162), (.ref b102)]))
  have f166 := f164.trans K162 all0
  have f167 := g124_0.ext E135
  have f168 := f167.keep K162
  have f169 := g124_1.ext E135
  have f170 := f169.keep K162 nin0
  have f171 := g124_2.ext E135
  have f172 := f171.keep K162 nin0
  have f173 := g124_3.ext E135
  have f174 := f173.keep K162 nin0
  have f175 := g124_4.ext E135
  have f176 := f175.keep K162
  have f177 := g124_5.ext E135
  have f178 := f177.keep K162 nin0
  have f179 := f161.keep K162 all0
  obtain ⟨_, T165, Lc165, X165, hQ165, st165⟩ := own_callV X162 hx hZ162 hown162 (own_hw hw 212 rfl) (own_hw hw 213 rfl) (own_hw hw 215 rfl) rfl (own_hw hw 215 rfl) (own_hw hw 214 rfl) (own_hw hw 169 rfl) (own_hw hw 216 rfl) (rm_bas l Z a0 hw [] G1 b102 bz_106 kz_106 (((own_dl (mv / 1000000)) ++ ([46] : List Int32))) az_162 tz_162 kz_162 ((List.replicate (dc - (own_dl (own_q mv dc)).length) (48 : Int32))) h0.size T162.heap n0 f179 SG1 PG1 f168 f170 f172 f174 f176 f178 gz_b102 gz_bz_106 ne_b102_bz_106 g162_0 g162_1 g162_2 g162_3 (own_Arep _) (by simp only [List.length_append, List.length_replicate, List.length_cons, List.length_nil]; omega) f166.1 (own_n0 O0)) (by decide) e162 f168 (Ls := #[.val (.ref a1), .val (.long (Int64.ofNat (own_q mv dc))), .second, .val (.int (Int32.ofNat dc)), .val (.ref az_101)]) [(.ref az_162)] [] rfl (by rw [hml]; rfl) (lenOf own_pd33 rfl) (D 19) (by decide) 0 rfl (by decide) (by decide) (by decide)
  obtain ⟨rfl, Nq165, K165, g165_0, g165_1, g165_2, g165_3, g165_4, g165_5⟩ := hQ165
  have N165 := Fr.app N162 Nq165
  refine st165 _ ?_
  have e165 : T165.heap = T165.heap := rfl
  refine s_aload X165 hx (D 20) rfl rfl ?_
  have f181 := f166.trans K165 (allS (Or.inr gz_b102) (allS (Or.inr gz_bz_106) all0))
  have f182 := f142.keep K162
  have f183 := f182.keep K165
  have f184 := f154.keep K162 nin0
  have f185 := f184.keep K165 (ninS ne_az_101_b102 (ninS ne_az_101_bz_106 nin0))
  have f186 := f148.keep K162 nin0
  have f187 := f186.keep K165 (ninS ne_az_101_b102 (ninS ne_az_101_bz_106 nin0))
  have f188 := f159.keep K162 nin0
  have f189 := f188.keep K165 (ninS ne_tz_101_b102 (ninS ne_tz_101_bz_106 nin0))
  have f190 := f179.keep K165 (allS gb_b102 (allS gb_bz_106 all0))
  obtain ⟨_, T180, Lc180, X180, hQ180, st180⟩ := own_callV X165 hx hZ162 hown162 (own_hw hw 212 rfl) (own_hw hw 213 rfl) (own_hw hw 215 rfl) rfl (own_hw hw 215 rfl) (own_hw hw 214 rfl) (own_hw hw 169 rfl) (own_hw hw 216 rfl) (rm_bas l Z a0 hw [] G1 b102 bz_106 kz_106 ((((own_dl (mv / 1000000)) ++ ([46] : List Int32)) ++ (List.replicate (dc - (own_dl (own_q mv dc)).length) (48 : Int32)))) az_101 tz_101 kz_101 ((own_dl (own_q mv dc))) h0.size T165.heap n0 f190 SG1 PG1 g165_0 g165_1 g165_2 g165_3 g165_4 g165_5 gz_b102 gz_bz_106 ne_b102_bz_106 f183 f185 f187 f189 (own_Adl _) (by simp only [List.length_append, List.length_replicate, List.length_cons, List.length_nil]; omega) f181.1 (own_n0 O0)) (by decide) e165 g165_0 (Ls := #[.val (.ref a1), .val (.long (Int64.ofNat (own_q mv dc))), .second, .val (.int (Int32.ofNat dc)), .val (.ref az_101)]) [(.ref az_101)] [] rfl (by rw [hml]; rfl) (lenOf own_pd33 rfl) (D 21) (by decide) 0 rfl (by decide) (by decide) (by decide)
  obtain ⟨rfl, Nq180, K180, g180_0, g180_1, g180_2, g180_3, g180_4, g180_5⟩ := hQ180
  have N180 := Fr.app N165 Nq180
  refine st180 _ ?_
  have e180 : T180.heap = T180.heap := rfl
  have f192 := f181.trans K180 (allS (Or.inr gz_b102) (allS (Or.inr gz_bz_106) all0))
  have f193 := f190.keep K180 (allS gb_b102 (allS gb_bz_106 all0))
  obtain ⟨_, T191, Lc191, X191, hQ191, st191⟩ := own_callV X180 hx hZ162 hown162 (own_hw hw 249 rfl) (own_hw hw 250 rfl) (own_hw hw 252 rfl) rfl (own_hw hw 252 rfl) (own_hw hw 251 rfl) (own_hw hw 169 rfl) (own_hw hw 253 rfl) (rm_bts l Z a0 hw [] G1 b102 bz_106 kz_106 (((((own_dl (mv / 1000000)) ++ ([46] : List Int32)) ++ (List.replicate (dc - (own_dl (own_q mv dc)).length) (48 : Int32))) ++ (own_dl (own_q mv dc)))) h0.size T180.heap n0 f193 SG1 PG1 g180_0 g180_1 g180_2 g180_3 g180_4 g180_5 (by simp only [List.length_append, List.length_replicate, List.length_cons, List.length_nil]; omega) f192.1 (own_n0 O0)) (by decide) e180 g180_0 (Ls := #[.val (.ref a1), .val (.long (Int64.ofNat (own_q mv dc))), .second, .val (.int (Int32.ofNat dc)), .val (.ref az_101)]) [] [] rfl (by rw [hml]; rfl) (lenOf own_pd35 rfl) (D 22) (by decide) 0 rfl (by decide) (by decide) (by decide)
  obtain ⟨az_191, tz_191, kz_191, rfl, Nq191, K191, g191_0, g191_1, g191_2, g191_3, gs_az_191, gs_tz_191⟩ := hQ191
  have N191 := Fr.app N180 Nq191
  refine st191 _ ?_
  have gb_az_191 : n0 ≤ az_191 := Nat.le_trans (own_n0 f193) gs_az_191
  have gz_az_191 : h0.size ≤ az_191 := Nat.le_trans f192.1 gs_az_191
  have f194 := f109.keep K106
  have f195 := f194.keep K116
  have f196 := f195.ext E119
  have f197 := f196.keep K124
  have f198 := f197.ext E135
  have f199 := f198.keep K162
  have f200 := f199.keep K165
  have f201 := f200.keep K180
  have ne_a1_az_191 : a1 ≠ az_191 := Nat.ne_of_lt (Nat.lt_of_lt_of_le f201.lt gs_az_191)
  have f202 := f183.keep K180
  have ne_az_101_az_191 : az_101 ≠ az_191 := Nat.ne_of_lt (Nat.lt_of_lt_of_le f202.lt gs_az_191)
  have f203 := f189.keep K180 (ninS ne_tz_101_b102 (ninS ne_tz_101_bz_106 nin0))
  have ne_tz_101_az_191 : tz_101 ≠ az_191 := Nat.ne_of_lt (Nat.lt_of_lt_of_le f203.lt gs_az_191)
  have ne_b102_az_191 : b102 ≠ az_191 := Nat.ne_of_lt (Nat.lt_of_lt_of_le g180_0.lt gs_az_191)
  have ne_bz_106_az_191 : bz_106 ≠ az_191 := Nat.ne_of_lt (Nat.lt_of_lt_of_le g180_4.lt gs_az_191)
  have f204 := gE119.keep K124
  have f205 := f204.ext E135
  have f206 := f205.keep K162
  have f207 := f206.keep K165
  have f208 := f207.keep K180
  have ne_aS119_az_191 : aS119 ≠ az_191 := Nat.ne_of_lt (Nat.lt_of_lt_of_le f208.lt gs_az_191)
  have f209 := gE135.keep K162
  have f210 := f209.keep K165
  have f211 := f210.keep K180
  have ne_aS135_az_191 : aS135 ≠ az_191 := Nat.ne_of_lt (Nat.lt_of_lt_of_le f211.lt gs_az_191)
  have f212 := gA135.keep K162 nin0
  have f213 := g162_0.keep K165
  have f214 := f213.keep K180
  have ne_az_162_az_191 : az_162 ≠ az_191 := Nat.ne_of_lt (Nat.lt_of_lt_of_le f214.lt gs_az_191)
  have ne_od_az_191 : od ≠ az_191 := Old.ne f193 VDO.lt gb_az_191
  have ne_dt_az_191 : dt ≠ az_191 := Old.ne f193 VDT.lt gb_az_191
  have gb_tz_191 : n0 ≤ tz_191 := Nat.le_trans (own_n0 f193) gs_tz_191
  have gz_tz_191 : h0.size ≤ tz_191 := Nat.le_trans f192.1 gs_tz_191
  have ne_a1_tz_191 : a1 ≠ tz_191 := Nat.ne_of_lt (Nat.lt_of_lt_of_le f201.lt gs_tz_191)
  have ne_az_101_tz_191 : az_101 ≠ tz_191 := Nat.ne_of_lt (Nat.lt_of_lt_of_le f202.lt gs_tz_191)
  have ne_tz_101_tz_191 : tz_101 ≠ tz_191 := Nat.ne_of_lt (Nat.lt_of_lt_of_le f203.lt gs_tz_191)
  have ne_b102_tz_191 : b102 ≠ tz_191 := Nat.ne_of_lt (Nat.lt_of_lt_of_le g180_0.lt gs_tz_191)
  have ne_bz_106_tz_191 : bz_106 ≠ tz_191 := Nat.ne_of_lt (Nat.lt_of_lt_of_le g180_4.lt gs_tz_191)
  have ne_aS119_tz_191 : aS119 ≠ tz_191 := Nat.ne_of_lt (Nat.lt_of_lt_of_le f208.lt gs_tz_191)
  have ne_aS135_tz_191 : aS135 ≠ tz_191 := Nat.ne_of_lt (Nat.lt_of_lt_of_le f211.lt gs_tz_191)
  have ne_az_162_tz_191 : az_162 ≠ tz_191 := Nat.ne_of_lt (Nat.lt_of_lt_of_le f214.lt gs_tz_191)
  have ne_od_tz_191 : od ≠ tz_191 := Old.ne f193 VDO.lt gb_tz_191
  have ne_dt_tz_191 : dt ≠ tz_191 := Old.ne f193 VDT.lt gb_tz_191
  have e191 : T191.heap = T191.heap := rfl
  have hsh : ((((own_dl (mv / 1000000)) ++ ([46] : List Int32)) ++ (List.replicate (dc - (own_dl (own_q mv dc)).length) (48 : Int32))) ++ (own_dl (own_q mv dc))) = own_show mv := by rw [own_show, ← hdc]; rfl
  have VX : Arv Z T191.heap tz_191 kz_191 .byte (Int32.ofNat (own_show mv).length) ((own_show mv).map Value.int) (.int (0 : Int32)) := by rw [← hsh]; exact g191_3
  have f215 := f192.trans K191 all0
  have f216 := Nat.le_trans (Nat.le_refl T162.heap.size) K165.1
  have f217 := Nat.le_trans f216 K180.1
  have f218 := Nat.le_trans f217 K191.1
  exact own_retAW X191 hS162 (by rw [e191]; exact f218) hx hlk (t := (.object "java/lang/String")) rfl Bd.returns rfl (D 23) (by rw [e191]; exact ⟨az_191, tz_191, kz_191, rfl, (fun y hy => Nat.le_trans (own_n0 O0) (N191 y hy)), f215, g191_0, g191_1, g191_2, VX, gz_az_191, gz_tz_191⟩) (by decide) (by decide)
 have cut12 : ∀ (fuel : Nat), ∀ (T : State) (locs : List Loc) (h : Heap) (dc : Nat) (X : Stand p l e ({ frames := 6, cells := 12, slots := 79, locals := 91 } : Room) (s.setVm s.vm) m #[(.ref a1)] below meth c T locs 0 0) (eh : T.heap = h) (N : Fr h0.size locs) (O : Old Z n0 h) (KK : Keep h0 h []) (cf0 : Exa Z h a1 "com/example/tickfence/tickfence/Price") (cf1 : Fld Z h a1 "com/example/tickfence/tickfence/Price" "micros" "J" (.long (Int64.ofNat mv))) (hdc2 : 2 ≤ dc) (hdc6 : dc ≤ 6) (hz6 : mv % 1000000 % 10 ^ (6 - dc) = 0) (hms : dc = fuel), own_Ok p e below (own_QxW s (Q_rm_pts Z G1 od ko dt kt a1 mv h0 n0) 12 79) (T.setTop (mkF m 12 #[.val (.ref a1), .val (.long (Int64.ofNat (own_q mv dc))), .second, .val (.int (Int32.ofNat dc)), .unset] [])) := by
  intro fuel
  induction fuel using Nat.strongRecOn with
  | ind fuel ih =>
   intro T locs h dc X eh N O KK cf0 cf1 hdc2 hdc6 hz6 hms
   show own_Ok p e below _ (T.setTop (mkF m 12 #[.val (.ref a1), .val (.long (Int64.ofNat (own_q mv dc))), .second, .val (.int (Int32.ofNat dc)), .unset] []))
   refine s_iloadN X hx (D 24) rfl ?_
   refine s_iconst X hx (2 : Int32) (D 25) rfl ?_
   by_cases c14_219 : (2 : Int32) < (Int32.ofNat dc)
   ·skip
    refine s_icmpNo X hx (D 26) (XT.ii_le_f c14_219) ?_
    have hd2 : 2 < dc := own_ltN (a := 2) (by decide) (by omega) c14_219
    have hqb := own_qlt mv dc
    refine s_lloadN X hx (D 27) rfl ?_
    refine own_st (fun _ k => Jvm.Stand.ldc2J X hx hown (mvT hZ (own_hw hw 131 rfl)) rfl (D 28) k) ?_
    show own_Ok p e below _ (T.setTop (mkF m 21 #[.val (.ref a1), .val (.long (Int64.ofNat (own_q mv dc))), .second, .val (.int (Int32.ofNat dc)), .unset] [(.long (10 : Int64)), (.long (Int64.ofNat (own_q mv dc)))]))
    refine s_lrem X hx (D 29) (by decide) ?_
    rw [show ((Int64.ofNat (own_q mv dc)) - ((Int64.ofNat (own_q mv dc)) / (10 : Int64)) * (10 : Int64)) = (Int64.ofNat ((own_q mv dc) % 10)) from own_lrT (by omega)]
    show own_Ok p e below _ (T.setTop (mkF m 22 #[.val (.ref a1), .val (.long (Int64.ofNat (own_q mv dc))), .second, .val (.int (Int32.ofNat dc)), .unset] [(.long (Int64.ofNat ((own_q mv dc) % 10)))]))
    refine s_lconst X hx (0 : Int64) (D 30) rfl ?_
    refine s_lcmp X hx (D 31) ?_
    by_cases c24_220 : (Int64.ofNat ((own_q mv dc) % 10)) = (0 : Int64)
    ·skip
     refine s_ifNo X hx (D 32) (XT.ll_ne_f c24_220) ?_
     have hqs := own_qS hd2 hdc6 hz6 ((own_lz (by omega)).mp c24_220)
     refine s_lloadN X hx (D 33) rfl ?_
     refine own_st (fun _ k => Jvm.Stand.ldc2J X hx hown (mvT hZ (own_hw hw 131 rfl)) rfl (D 34) k) ?_
     show own_Ok p e below _ (T.setTop (mkF m 31 #[.val (.ref a1), .val (.long (Int64.ofNat (own_q mv dc))), .second, .val (.int (Int32.ofNat dc)), .unset] [(.long (10 : Int64)), (.long (Int64.ofNat (own_q mv dc)))]))
     refine s_ldiv X hx (D 35) (by decide) ?_
     rw [show ((Int64.ofNat (own_q mv dc)) / (10 : Int64)) = (Int64.ofNat (own_q mv (dc - 1))) from (own_ldT (by omega)).trans (congrArg Int64.ofNat hqs.1)]
     show own_Ok p e below _ (T.setTop (mkF m 32 #[.val (.ref a1), .val (.long (Int64.ofNat (own_q mv dc))), .second, .val (.int (Int32.ofNat dc)), .unset] [(.long (Int64.ofNat (own_q mv (dc - 1))))]))
     refine s_lstoreN X hx (D 36) #[.val (.ref a1), .val (.long (Int64.ofNat (own_q mv (dc - 1)))), .second, .val (.int (Int32.ofNat dc)), .unset] rfl ?_
     refine s_iinc X hx (-1 : Int32) (D 37) rfl rfl #[.val (.ref a1), .val (.long (Int64.ofNat (own_q mv (dc - 1)))), .second, .val (.int ((Int32.ofNat dc) + (-1 : Int32))), .unset] rfl ?_
     refine s_goto X hx 12 (D 38) (by decide) (by decide) ?_
     rw [show ((Int32.ofNat dc) + (-1 : Int32)) = (Int32.ofNat (dc - 1)) from own_decN (by omega) (by omega)]
     show own_Ok p e below _ (T.setTop (mkF m 12 #[.val (.ref a1), .val (.long (Int64.ofNat (own_q mv (dc - 1)))), .second, .val (.int (Int32.ofNat (dc - 1))), .unset] []))
     exact ih _ (by omega) _ _ _ ((dc - 1)) X eh N O KK cf0 cf1 (by omega) (by omega) hqs.2 rfl
    ·skip
     refine s_ifYes X hx 39 (D 32) (XT.ll_ne_t c24_220) (by decide) (by decide) ?_
     exact cut39 _ _ _ dc X eh N O KK cf0 cf1 hdc2 hdc6 (own_decX hdc2 hdc6 hz6 (Or.inr (fun q => c24_220 ((own_lz (by omega)).mpr q))))
   ·skip
    refine s_icmpYes X hx 39 (D 26) (XT.ii_le_t c14_219) (by decide) (by decide) ?_
    have hqb := own_qlt mv dc
    exact cut39 _ _ _ dc X eh N O KK cf0 cf1 hdc2 hdc6 (own_decX hdc2 hdc6 hz6 (Or.inl (by have := own_geN (a := 2) (b := dc) (by decide) (by omega) c14_219; omega)))
 show own_Ok p e below _ (s₁.setTop (mkF m 0 #[.val (.ref a1), .unset, .unset, .unset, .unset] []))
 refine s_aloadN X0 hx (D 39) rfl rfl ?_
 obtain ⟨T221, X221, e221, st221⟩ := getF X0 hx hZ hown (host := "") (Or.inl (own_hw hw 139 rfl)) Via.refl e0 F1 (g := (mkF m 1 #[.val (.ref a1), .unset, .unset, .unset, .unset] [(.ref a1)])) rfl rfl (D 40)
 refine own_st st221 ?_
 show own_Ok p e below _ (T221.setTop (mkF m 4 #[.val (.ref a1), .unset, .unset, .unset, .unset] [(.long (Int64.ofNat mv))]))
 refine own_st (fun _ k => Jvm.Stand.ldc2J X221 hx hown (mvT hZ (own_hw hw 132 rfl)) rfl (D 41) k) ?_
 show own_Ok p e below _ (T221.setTop (mkF m 7 #[.val (.ref a1), .unset, .unset, .unset, .unset] [(.long (1000000 : Int64)), (.long (Int64.ofNat mv))]))
 refine s_lrem X221 hx (D 42) (by decide) ?_
 rw [show ((Int64.ofNat mv) - ((Int64.ofNat mv) / (1000000 : Int64)) * (1000000 : Int64)) = (Int64.ofNat (mv % 1000000)) from own_lrM hmv]
 show own_Ok p e below _ (T221.setTop (mkF m 8 #[.val (.ref a1), .unset, .unset, .unset, .unset] [(.long (Int64.ofNat (mv % 1000000)))]))
 refine s_lstoreN X221 hx (D 43) #[.val (.ref a1), .val (.long (Int64.ofNat (mv % 1000000))), .second, .unset, .unset] rfl ?_
 refine s_bipush X221 hx (6 : Int32) (D 44) rfl ?_
 refine s_istoreN X221 hx (D 45) #[.val (.ref a1), .val (.long (Int64.ofNat (mv % 1000000))), .second, .val (.int (6 : Int32)), .unset] rfl ?_
 rw [show (Int64.ofNat (mv % 1000000)) = (Int64.ofNat (own_q mv 6)) from by rw [own_q6]]
 show own_Ok p e below _ (T221.setTop (mkF m 12 #[.val (.ref a1), .val (.long (Int64.ofNat (own_q mv 6))), .second, .val (.int (6 : Int32)), .unset] []))
 exact cut12 _ _ _ _ 6 X221 e221 N0 O0 ((Keep.refl h0 [])) E1 F1 (by decide) (by decide) (by simp [Nat.mod_one]) rfl
theorem own_ef_rm_dcn (m : MethodId) (vn : Nat) : entryFrame m #[(.long (Int64.ofNat vn))] 2 = mkF m 0 #[.val (.long (Int64.ofNat vn)), .second] [] := by first | (simp [entryFrame, mkF, argsToLocals, Value.category]; done) | rfl
def t_rm_dcn : List (Nat × Instr × Nat) := [(0, .lload_n 0, 1), (1, .ldc2_w 63, 3), (4, .lcmp, 1), (5, .ifCond .ge 5, 3), (8, .iconst 1, 1), (9, .ireturn, 1), (10, .lload_n 0, 1), (11, .ldc2_w 65, 3), (14, .lcmp, 1), (15, .ifCond .ge 5, 3), (18, .iconst 2, 1), (19, .ireturn, 1), (20, .lload_n 0, 1), (21, .ldc2_w 67, 3), (24, .lcmp, 1), (25, .ifCond .ge 5, 3), (28, .iconst 3, 1), (29, .ireturn, 1), (30, .lload_n 0, 1), (31, .ldc2_w 69, 3), (34, .lcmp, 1), (35, .ifCond .ge 5, 3), (38, .iconst 4, 1), (39, .ireturn, 1), (40, .lload_n 0, 1), (41, .ldc2_w 71, 3), (44, .lcmp, 1), (45, .ifCond .ge 5, 3), (48, .iconst 5, 1), (49, .ireturn, 1), (50, .lload_n 0, 1), (51, .ldc2_w 73, 3), (54, .lcmp, 1), (55, .ifCond .ge 6, 3), (58, .bipush 6, 2), (60, .ireturn, 1), (61, .lload_n 0, 1), (62, .ldc2_w 75, 3), (65, .lcmp, 1), (66, .ifCond .ge 6, 3), (69, .bipush 7, 2), (71, .ireturn, 1), (72, .lload_n 0, 1), (73, .ldc2_w 77, 3), (76, .lcmp, 1), (77, .ifCond .ge 6, 3), (80, .bipush 8, 2), (82, .ireturn, 1), (83, .bipush 9, 2), (85, .ireturn, 1)]
theorem d_rm_dcn (i : Nat) : decode method_7_code (t_rm_dcn.getD i (0, .lload_n 0, 1)).1 = .ok (t_rm_dcn.getD i (0, .lload_n 0, 1)).2 := own_dt (by decide +kernel) (List.mem_cons_self ..) i
def Q_rm_dcn (Z : State) (vn : Nat) (h0 : Heap) (n0 : Nat) (v : Option Value) (h : Heap) (L : List Loc) : Prop := v = some (.int (Int32.ofNat (own_dl vn).length)) ∧ Fr n0 L ∧ h = h0
set_option maxRecDepth 65536 in
set_option maxHeartbeats 40000000 in
theorem rm_dcn (l : Launch) (Z : State) (a0 : Array Value) (hw : ∀ d ∈ tables_1, d.before a0 Z = true) (ws : List Jvm.Cond) (vn : Nat) (h0 : Heap) (n0 : Nat) (O0 : Old Z n0 h0) (hv : vn ≤ 999999999) :
    own_Met l Z (⟨"com/example/tickfence/tickfence/PriceParsePinLaw", "digitCount", "(J)I"⟩ : MethodName) method_7_code 2 (some .int) ws ({ frames := 0, cells := 0, slots := 0, locals := 0 } : Room) #[(.long (Int64.ofNat vn))] h0 (Q_rm_dcn Z vn h0 n0) := by
 refine MetFree.of_bodySF (plainFor_of_name own_pn0) hisR ?_
 intro p e s m args below meth c s₁ Bd hml0 hP hK
 obtain ⟨rfl, hZ, hh⟩ := hP
 have hx := Bd.exec
 have hby := Bd.bytes
 have D := fun i => hb hby (d_rm_dcn i)
 have hml : c.maxLocals = 2 := hml0
 have hown : s.vm.findClass "com/example/tickfence/tickfence/PriceParsePinLaw" = some m.cls := findClass_of_methodNamed Bd.named
 have hnm := (name_of_methodNamed Bd.named Bd.method).1
 have hlk : meth.locks = false := Bd.notSynchronized
 have X0 : Stand p l e ({ frames := 0, cells := 0, slots := 0, locals := 0 } : Room) s m #[(.long (Int64.ofNat vn))] below meth c s₁ [] 0 0 := Stand.of_body Bd
 have e0 : s₁.heap = h0 := by rw [← hh, Bd.state]; rfl
 have N0 := Fr.nil n0
 suffices hgo : own_Ok p e below (own_Qx s (Q_rm_dcn Z vn h0 n0) 0 0) (s₁.setTop (mkF m 0 #[.val (.long (Int64.ofNat vn)), .second] [])) from by
   obtain ⟨s₂, o, h1, h2⟩ := hgo
   exact ⟨s₂, o, castTop (own_ef_rm_dcn m vn) h1, h2⟩
 show own_Ok p e below _ (s₁.setTop (mkF m 0 #[.val (.long (Int64.ofNat vn)), .second] []))
 refine s_lloadN X0 hx (D 0) rfl ?_
 refine own_st (fun _ k => Jvm.Stand.ldc2J X0 hx hown (mvT hZ (own_hw hw 8 rfl)) rfl (D 1) k) ?_
 show own_Ok p e below _ (s₁.setTop (mkF m 4 #[.val (.long (Int64.ofNat vn)), .second] [(.long (10 : Int64)), (.long (Int64.ofNat vn))]))
 refine s_lcmp X0 hx (D 2) ?_
 by_cases c5_101 : (Int64.ofNat vn) < (10 : Int64)
 ·skip
  refine s_ifNo X0 hx (D 3) (XT.ll_ge_f c5_101) ?_
  refine s_iconst X0 hx (1 : Int32) (D 4) rfl ?_
  exact own_retI X0 hx hlk Bd.returns (D 5) (by rw [e0]; exact ⟨(congrArg (fun z => some (Value.int z)) (own_dcn (k := 0) (Or.inl rfl) ((own_ltL (P := 10) hv rfl).mp c5_101) rfl)), N0, rfl⟩) (by decide) (by decide)
 ·skip
  refine s_ifYes X0 hx 10 (D 3) (XT.ll_ge_t c5_101) (by decide) (by decide) ?_
  refine s_lloadN X0 hx (D 6) rfl ?_
  refine own_st (fun _ k => Jvm.Stand.ldc2J X0 hx hown (mvT hZ (own_hw hw 9 rfl)) rfl (D 7) k) ?_
  show own_Ok p e below _ (s₁.setTop (mkF m 14 #[.val (.long (Int64.ofNat vn)), .second] [(.long (100 : Int64)), (.long (Int64.ofNat vn))]))
  refine s_lcmp X0 hx (D 8) ?_
  by_cases c15_102 : (Int64.ofNat vn) < (100 : Int64)
  ·skip
   refine s_ifNo X0 hx (D 9) (XT.ll_ge_f c15_102) ?_
   refine s_iconst X0 hx (2 : Int32) (D 10) rfl ?_
   exact own_retI X0 hx hlk Bd.returns (D 11) (by rw [e0]; exact ⟨(congrArg (fun z => some (Value.int z)) (own_dcn (k := 1) (Or.inr (Nat.le_of_not_lt fun q => c5_101 ((own_ltL (P := 10) hv rfl).mpr q))) ((own_ltL (P := 100) hv rfl).mp c15_102) rfl)), N0, rfl⟩) (by decide) (by decide)
  ·skip
   refine s_ifYes X0 hx 20 (D 9) (XT.ll_ge_t c15_102) (by decide) (by decide) ?_
   refine s_lloadN X0 hx (D 12) rfl ?_
   refine own_st (fun _ k => Jvm.Stand.ldc2J X0 hx hown (mvT hZ (own_hw hw 10 rfl)) rfl (D 13) k) ?_
   show own_Ok p e below _ (s₁.setTop (mkF m 24 #[.val (.long (Int64.ofNat vn)), .second] [(.long (1000 : Int64)), (.long (Int64.ofNat vn))]))
   refine s_lcmp X0 hx (D 14) ?_
   by_cases c25_103 : (Int64.ofNat vn) < (1000 : Int64)
   ·skip
    refine s_ifNo X0 hx (D 15) (XT.ll_ge_f c25_103) ?_
    refine s_iconst X0 hx (3 : Int32) (D 16) rfl ?_
    exact own_retI X0 hx hlk Bd.returns (D 17) (by rw [e0]; exact ⟨(congrArg (fun z => some (Value.int z)) (own_dcn (k := 2) (Or.inr (Nat.le_of_not_lt fun q => c15_102 ((own_ltL (P := 100) hv rfl).mpr q))) ((own_ltL (P := 1000) hv rfl).mp c25_103) rfl)), N0, rfl⟩) (by decide) (by decide)
   ·skip
    refine s_ifYes X0 hx 30 (D 15) (XT.ll_ge_t c25_103) (by decide) (by decide) ?_
    refine s_lloadN X0 hx (D 18) rfl ?_
    refine own_st (fun _ k => Jvm.Stand.ldc2J X0 hx hown (mvT hZ (own_hw hw 11 rfl)) rfl (D 19) k) ?_
    show own_Ok p e below _ (s₁.setTop (mkF m 34 #[.val (.long (Int64.ofNat vn)), .second] [(.long (10000 : Int64)), (.long (Int64.ofNat vn))]))
    refine s_lcmp X0 hx (D 20) ?_
    by_cases c35_104 : (Int64.ofNat vn) < (10000 : Int64)
    ·skip
     refine s_ifNo X0 hx (D 21) (XT.ll_ge_f c35_104) ?_
     refine s_iconst X0 hx (4 : Int32) (D 22) rfl ?_
     exact own_retI X0 hx hlk Bd.returns (D 23) (by rw [e0]; exact ⟨(congrArg (fun z => some (Value.int z)) (own_dcn (k := 3) (Or.inr (Nat.le_of_not_lt fun q => c25_103 ((own_ltL (P := 1000) hv rfl).mpr q))) ((own_ltL (P := 10000) hv rfl).mp c35_104) rfl)), N0, rfl⟩) (by decide) (by decide)
    ·skip
     refine s_ifYes X0 hx 40 (D 21) (XT.ll_ge_t c35_104) (by decide) (by decide) ?_
     refine s_lloadN X0 hx (D 24) rfl ?_
     refine own_st (fun _ k => Jvm.Stand.ldc2J X0 hx hown (mvT hZ (own_hw hw 12 rfl)) rfl (D 25) k) ?_
     show own_Ok p e below _ (s₁.setTop (mkF m 44 #[.val (.long (Int64.ofNat vn)), .second] [(.long (100000 : Int64)), (.long (Int64.ofNat vn))]))
     refine s_lcmp X0 hx (D 26) ?_
     by_cases c45_105 : (Int64.ofNat vn) < (100000 : Int64)
     ·skip
      refine s_ifNo X0 hx (D 27) (XT.ll_ge_f c45_105) ?_
      refine s_iconst X0 hx (5 : Int32) (D 28) rfl ?_
      exact own_retI X0 hx hlk Bd.returns (D 29) (by rw [e0]; exact ⟨(congrArg (fun z => some (Value.int z)) (own_dcn (k := 4) (Or.inr (Nat.le_of_not_lt fun q => c35_104 ((own_ltL (P := 10000) hv rfl).mpr q))) ((own_ltL (P := 100000) hv rfl).mp c45_105) rfl)), N0, rfl⟩) (by decide) (by decide)
     ·skip
      refine s_ifYes X0 hx 50 (D 27) (XT.ll_ge_t c45_105) (by decide) (by decide) ?_
      refine s_lloadN X0 hx (D 30) rfl ?_
      refine own_st (fun _ k => Jvm.Stand.ldc2J X0 hx hown (mvT hZ (own_hw hw 13 rfl)) rfl (D 31) k) ?_
      show own_Ok p e below _ (s₁.setTop (mkF m 54 #[.val (.long (Int64.ofNat vn)), .second] [(.long (1000000 : Int64)), (.long (Int64.ofNat vn))]))
      refine s_lcmp X0 hx (D 32) ?_
      by_cases c55_106 : (Int64.ofNat vn) < (1000000 : Int64)
      ·skip
       refine s_ifNo X0 hx (D 33) (XT.ll_ge_f c55_106) ?_
       refine s_bipush X0 hx (6 : Int32) (D 34) rfl ?_
       exact own_retI X0 hx hlk Bd.returns (D 35) (by rw [e0]; exact ⟨(congrArg (fun z => some (Value.int z)) (own_dcn (k := 5) (Or.inr (Nat.le_of_not_lt fun q => c45_105 ((own_ltL (P := 100000) hv rfl).mpr q))) ((own_ltL (P := 1000000) hv rfl).mp c55_106) rfl)), N0, rfl⟩) (by decide) (by decide)
      ·skip
       refine s_ifYes X0 hx 61 (D 33) (XT.ll_ge_t c55_106) (by decide) (by decide) ?_
       refine s_lloadN X0 hx (D 36) rfl ?_
       refine own_st (fun _ k => Jvm.Stand.ldc2J X0 hx hown (mvT hZ (own_hw hw 14 rfl)) rfl (D 37) k) ?_
       show own_Ok p e below _ (s₁.setTop (mkF m 65 #[.val (.long (Int64.ofNat vn)), .second] [(.long (10000000 : Int64)), (.long (Int64.ofNat vn))]))
       refine s_lcmp X0 hx (D 38) ?_
       by_cases c66_107 : (Int64.ofNat vn) < (10000000 : Int64)
       ·skip
        refine s_ifNo X0 hx (D 39) (XT.ll_ge_f c66_107) ?_
        refine s_bipush X0 hx (7 : Int32) (D 40) rfl ?_
        exact own_retI X0 hx hlk Bd.returns (D 41) (by rw [e0]; exact ⟨(congrArg (fun z => some (Value.int z)) (own_dcn (k := 6) (Or.inr (Nat.le_of_not_lt fun q => c55_106 ((own_ltL (P := 1000000) hv rfl).mpr q))) ((own_ltL (P := 10000000) hv rfl).mp c66_107) rfl)), N0, rfl⟩) (by decide) (by decide)
       ·skip
        refine s_ifYes X0 hx 72 (D 39) (XT.ll_ge_t c66_107) (by decide) (by decide) ?_
        refine s_lloadN X0 hx (D 42) rfl ?_
        refine own_st (fun _ k => Jvm.Stand.ldc2J X0 hx hown (mvT hZ (own_hw hw 15 rfl)) rfl (D 43) k) ?_
        show own_Ok p e below _ (s₁.setTop (mkF m 76 #[.val (.long (Int64.ofNat vn)), .second] [(.long (100000000 : Int64)), (.long (Int64.ofNat vn))]))
        refine s_lcmp X0 hx (D 44) ?_
        by_cases c77_108 : (Int64.ofNat vn) < (100000000 : Int64)
        ·skip
         refine s_ifNo X0 hx (D 45) (XT.ll_ge_f c77_108) ?_
         refine s_bipush X0 hx (8 : Int32) (D 46) rfl ?_
         exact own_retI X0 hx hlk Bd.returns (D 47) (by rw [e0]; exact ⟨(congrArg (fun z => some (Value.int z)) (own_dcn (k := 7) (Or.inr (Nat.le_of_not_lt fun q => c66_107 ((own_ltL (P := 10000000) hv rfl).mpr q))) ((own_ltL (P := 100000000) hv rfl).mp c77_108) rfl)), N0, rfl⟩) (by decide) (by decide)
        ·skip
         refine s_ifYes X0 hx 83 (D 45) (XT.ll_ge_t c77_108) (by decide) (by decide) ?_
         refine s_bipush X0 hx (9 : Int32) (D 48) rfl ?_
         exact own_retI X0 hx hlk Bd.returns (D 49) (by rw [e0]; exact ⟨(congrArg (fun z => some (Value.int z)) (own_dcn (k := 8) (Or.inr (Nat.le_of_not_lt fun q => c77_108 ((own_ltL (P := 100000000) hv rfl).mpr q))) (by show vn < 1000000000; omega) rfl)), N0, rfl⟩) (by decide) (by decide)
theorem own_ef_rm_pdc (m : MethodId) (fz : Nat) : entryFrame m #[(.long (Int64.ofNat fz))] 2 = mkF m 0 #[.val (.long (Int64.ofNat fz)), .second] [] := by first | (simp [entryFrame, mkF, argsToLocals, Value.category]; done) | rfl
def t_rm_pdc : List (Nat × Instr × Nat) := [(0, .lload_n 0, 1), (1, .ldc2_w 69, 3), (4, .lrem, 1), (5, .lconst 0, 1), (6, .lcmp, 1), (7, .ifCond .ne 5, 3), (10, .iconst 2, 1), (11, .ireturn, 1), (12, .lload_n 0, 1), (13, .ldc2_w 67, 3), (16, .lrem, 1), (17, .lconst 0, 1), (18, .lcmp, 1), (19, .ifCond .ne 5, 3), (22, .iconst 3, 1), (23, .ireturn, 1), (24, .lload_n 0, 1), (25, .ldc2_w 65, 3), (28, .lrem, 1), (29, .lconst 0, 1), (30, .lcmp, 1), (31, .ifCond .ne 5, 3), (34, .iconst 4, 1), (35, .ireturn, 1), (36, .lload_n 0, 1), (37, .ldc2_w 63, 3), (40, .lrem, 1), (41, .lconst 0, 1), (42, .lcmp, 1), (43, .ifCond .ne 5, 3), (46, .iconst 5, 1), (47, .ireturn, 1), (48, .bipush 6, 2), (50, .ireturn, 1)]
theorem d_rm_pdc (i : Nat) : decode method_8_code (t_rm_pdc.getD i (0, .lload_n 0, 1)).1 = .ok (t_rm_pdc.getD i (0, .lload_n 0, 1)).2 := own_dt (by decide +kernel) (List.mem_cons_self ..) i
def Q_rm_pdc (Z : State) (fz : Nat) (h0 : Heap) (n0 : Nat) (v : Option Value) (h : Heap) (L : List Loc) : Prop := v = some (.int (Int32.ofNat (own_dec fz))) ∧ Fr n0 L ∧ h = h0
set_option maxRecDepth 65536 in
set_option maxHeartbeats 40000000 in
theorem rm_pdc (l : Launch) (Z : State) (a0 : Array Value) (hw : ∀ d ∈ tables_1, d.before a0 Z = true) (ws : List Jvm.Cond) (fz : Nat) (h0 : Heap) (n0 : Nat) (O0 : Old Z n0 h0) (hz : fz < 1000000) :
    own_Met l Z (⟨"com/example/tickfence/tickfence/PriceParsePinLaw", "printedDecimals", "(J)I"⟩ : MethodName) method_8_code 2 (some .int) ws ({ frames := 0, cells := 0, slots := 0, locals := 0 } : Room) #[(.long (Int64.ofNat fz))] h0 (Q_rm_pdc Z fz h0 n0) := by
 refine MetFree.of_bodySF (plainFor_of_name own_pn0) hisR ?_
 intro p e s m args below meth c s₁ Bd hml0 hP hK
 obtain ⟨rfl, hZ, hh⟩ := hP
 have hx := Bd.exec
 have hby := Bd.bytes
 have D := fun i => hb hby (d_rm_pdc i)
 have hml : c.maxLocals = 2 := hml0
 have hown : s.vm.findClass "com/example/tickfence/tickfence/PriceParsePinLaw" = some m.cls := findClass_of_methodNamed Bd.named
 have hnm := (name_of_methodNamed Bd.named Bd.method).1
 have hlk : meth.locks = false := Bd.notSynchronized
 have X0 : Stand p l e ({ frames := 0, cells := 0, slots := 0, locals := 0 } : Room) s m #[(.long (Int64.ofNat fz))] below meth c s₁ [] 0 0 := Stand.of_body Bd
 have e0 : s₁.heap = h0 := by rw [← hh, Bd.state]; rfl
 have N0 := Fr.nil n0
 suffices hgo : own_Ok p e below (own_Qx s (Q_rm_pdc Z fz h0 n0) 0 0) (s₁.setTop (mkF m 0 #[.val (.long (Int64.ofNat fz)), .second] [])) from by
   obtain ⟨s₂, o, h1, h2⟩ := hgo
   exact ⟨s₂, o, castTop (own_ef_rm_pdc m fz) h1, h2⟩
 show own_Ok p e below _ (s₁.setTop (mkF m 0 #[.val (.long (Int64.ofNat fz)), .second] []))
 refine s_lloadN X0 hx (D 0) rfl ?_
 refine own_st (fun _ k => Jvm.Stand.ldc2J X0 hx hown (mvT hZ (own_hw hw 11 rfl)) rfl (D 1) k) ?_
 show own_Ok p e below _ (s₁.setTop (mkF m 4 #[.val (.long (Int64.ofNat fz)), .second] [(.long (10000 : Int64)), (.long (Int64.ofNat fz))]))
 refine s_lrem X0 hx (D 2) (by decide) ?_
 refine s_lconst X0 hx (0 : Int64) (D 3) rfl ?_
 refine s_lcmp X0 hx (D 4) ?_
 by_cases c7_101 : ((Int64.ofNat fz) - ((Int64.ofNat fz) / (10000 : Int64)) * (10000 : Int64)) = (0 : Int64)
 ·skip
  refine s_ifNo X0 hx (D 5) (XT.ll_ne_f c7_101) ?_
  refine s_iconst X0 hx (2 : Int32) (D 6) rfl ?_
  exact own_retI X0 hx hlk Bd.returns (D 7) (by rw [e0]; exact ⟨(by rw [own_dec, if_pos ((own_lrK (k := 10000) hz rfl).mp c7_101)]; rfl), N0, rfl⟩) (by decide) (by decide)
 ·skip
  refine s_ifYes X0 hx 12 (D 5) (XT.ll_ne_t c7_101) (by decide) (by decide) ?_
  refine s_lloadN X0 hx (D 8) rfl ?_
  refine own_st (fun _ k => Jvm.Stand.ldc2J X0 hx hown (mvT hZ (own_hw hw 10 rfl)) rfl (D 9) k) ?_
  show own_Ok p e below _ (s₁.setTop (mkF m 16 #[.val (.long (Int64.ofNat fz)), .second] [(.long (1000 : Int64)), (.long (Int64.ofNat fz))]))
  refine s_lrem X0 hx (D 10) (by decide) ?_
  refine s_lconst X0 hx (0 : Int64) (D 11) rfl ?_
  refine s_lcmp X0 hx (D 12) ?_
  by_cases c19_102 : ((Int64.ofNat fz) - ((Int64.ofNat fz) / (1000 : Int64)) * (1000 : Int64)) = (0 : Int64)
  ·skip
   refine s_ifNo X0 hx (D 13) (XT.ll_ne_f c19_102) ?_
   refine s_iconst X0 hx (3 : Int32) (D 14) rfl ?_
   exact own_retI X0 hx hlk Bd.returns (D 15) (by rw [e0]; exact ⟨(by rw [own_dec, if_neg (fun q => c7_101 ((own_lrK (k := 10000) hz rfl).mpr q)), if_pos ((own_lrK (k := 1000) hz rfl).mp c19_102)]; rfl), N0, rfl⟩) (by decide) (by decide)
  ·skip
   refine s_ifYes X0 hx 24 (D 13) (XT.ll_ne_t c19_102) (by decide) (by decide) ?_
   refine s_lloadN X0 hx (D 16) rfl ?_
   refine own_st (fun _ k => Jvm.Stand.ldc2J X0 hx hown (mvT hZ (own_hw hw 9 rfl)) rfl (D 17) k) ?_
   show own_Ok p e below _ (s₁.setTop (mkF m 28 #[.val (.long (Int64.ofNat fz)), .second] [(.long (100 : Int64)), (.long (Int64.ofNat fz))]))
   refine s_lrem X0 hx (D 18) (by decide) ?_
   refine s_lconst X0 hx (0 : Int64) (D 19) rfl ?_
   refine s_lcmp X0 hx (D 20) ?_
   by_cases c31_103 : ((Int64.ofNat fz) - ((Int64.ofNat fz) / (100 : Int64)) * (100 : Int64)) = (0 : Int64)
   ·skip
    refine s_ifNo X0 hx (D 21) (XT.ll_ne_f c31_103) ?_
    refine s_iconst X0 hx (4 : Int32) (D 22) rfl ?_
    exact own_retI X0 hx hlk Bd.returns (D 23) (by rw [e0]; exact ⟨(by rw [own_dec, if_neg (fun q => c7_101 ((own_lrK (k := 10000) hz rfl).mpr q)), if_neg (fun q => c19_102 ((own_lrK (k := 1000) hz rfl).mpr q)), if_pos ((own_lrK (k := 100) hz rfl).mp c31_103)]; rfl), N0, rfl⟩) (by decide) (by decide)
   ·skip
    refine s_ifYes X0 hx 36 (D 21) (XT.ll_ne_t c31_103) (by decide) (by decide) ?_
    refine s_lloadN X0 hx (D 24) rfl ?_
    refine own_st (fun _ k => Jvm.Stand.ldc2J X0 hx hown (mvT hZ (own_hw hw 8 rfl)) rfl (D 25) k) ?_
    show own_Ok p e below _ (s₁.setTop (mkF m 40 #[.val (.long (Int64.ofNat fz)), .second] [(.long (10 : Int64)), (.long (Int64.ofNat fz))]))
    refine s_lrem X0 hx (D 26) (by decide) ?_
    refine s_lconst X0 hx (0 : Int64) (D 27) rfl ?_
    refine s_lcmp X0 hx (D 28) ?_
    by_cases c43_104 : ((Int64.ofNat fz) - ((Int64.ofNat fz) / (10 : Int64)) * (10 : Int64)) = (0 : Int64)
    ·skip
     refine s_ifNo X0 hx (D 29) (XT.ll_ne_f c43_104) ?_
     refine s_iconst X0 hx (5 : Int32) (D 30) rfl ?_
     exact own_retI X0 hx hlk Bd.returns (D 31) (by rw [e0]; exact ⟨(by rw [own_dec, if_neg (fun q => c7_101 ((own_lrK (k := 10000) hz rfl).mpr q)), if_neg (fun q => c19_102 ((own_lrK (k := 1000) hz rfl).mpr q)), if_neg (fun q => c31_103 ((own_lrK (k := 100) hz rfl).mpr q)), if_pos ((own_lrK (k := 10) hz rfl).mp c43_104)]; rfl), N0, rfl⟩) (by decide) (by decide)
    ·skip
     refine s_ifYes X0 hx 48 (D 29) (XT.ll_ne_t c43_104) (by decide) (by decide) ?_
     refine s_bipush X0 hx (6 : Int32) (D 32) rfl ?_
     exact own_retI X0 hx hlk Bd.returns (D 33) (by rw [e0]; exact ⟨(by rw [own_dec, if_neg (fun q => c7_101 ((own_lrK (k := 10000) hz rfl).mpr q)), if_neg (fun q => c19_102 ((own_lrK (k := 1000) hz rfl).mpr q)), if_neg (fun q => c31_103 ((own_lrK (k := 100) hz rfl).mpr q)), if_neg (fun q => c43_104 ((own_lrK (k := 10) hz rfl).mpr q))]; rfl), N0, rfl⟩) (by decide) (by decide)
theorem own_ef_rm_exq (m : MethodId) (i : Nat) (vn : Nat) (nd : Nat) (fz : Nat) : entryFrame m #[(.int (Int32.ofNat i)), (.long (Int64.ofNat vn)), (.int (Int32.ofNat nd)), (.long (Int64.ofNat fz))] 6 = mkF m 0 #[.val (.int (Int32.ofNat i)), .val (.long (Int64.ofNat vn)), .second, .val (.int (Int32.ofNat nd)), .val (.long (Int64.ofNat fz)), .second] [] := by first | (simp [entryFrame, mkF, argsToLocals, Value.category]; done) | rfl
def t_rm_exq : List (Nat × Instr × Nat) := [(0, .iload_n 0, 1), (1, .iload_n 3, 1), (2, .if_icmp .ge 13, 3), (5, .lload_n 1, 1), (6, .iload_n 3, 1), (7, .iconst 1, 1), (8, .isub, 1), (9, .iload_n 0, 1), (10, .isub, 1), (11, .invokestatic 59, 3), (14, .ireturn, 1), (15, .iload_n 0, 1), (16, .iload_n 3, 1), (17, .if_icmp .ne 6, 3), (20, .bipush 46, 2), (22, .ireturn, 1), (23, .lload 4, 2), (25, .iconst 5, 1), (26, .iload_n 0, 1), (27, .iload_n 3, 1), (28, .isub, 1), (29, .iconst 1, 1), (30, .isub, 1), (31, .isub, 1), (32, .invokestatic 59, 3), (35, .ireturn, 1)]
theorem d_rm_exq (i : Nat) : decode method_4_code (t_rm_exq.getD i (0, .iload_n 0, 1)).1 = .ok (t_rm_exq.getD i (0, .iload_n 0, 1)).2 := own_dt (by decide +kernel) (List.mem_cons_self ..) i
def Q_rm_exq (Z : State) (i : Nat) (vn : Nat) (nd : Nat) (fz : Nat) (h0 : Heap) (n0 : Nat) (v : Option Value) (h : Heap) (L : List Loc) : Prop := v = some (.int (own_ex vn nd fz i)) ∧ Fr n0 L ∧ Keep h0 h []
set_option maxRecDepth 65536 in
set_option maxHeartbeats 40000000 in
theorem rm_exq (l : Launch) (Z : State) (a0 : Array Value) (hw : ∀ d ∈ tables_1, d.before a0 Z = true) (ws : List Jvm.Cond) (i : Nat) (vn : Nat) (nd : Nat) (fz : Nat) (h0 : Heap) (n0 : Nat) (O0 : Old Z n0 h0) (hv : vn ≤ 999999999) (hz : fz < 1000000) (hn9 : nd ≤ 9) (hi7 : i ≤ nd + 6) :
    own_Met l Z (⟨"com/example/tickfence/tickfence/PriceParsePinLaw", "expected", "(IJIJ)C"⟩ : MethodName) method_4_code 6 (some .char) ws ({ frames := 2, cells := 1, slots := 9, locals := 31 } : Room) #[(.int (Int32.ofNat i)), (.long (Int64.ofNat vn)), (.int (Int32.ofNat nd)), (.long (Int64.ofNat fz))] h0 (Q_rm_exq Z i vn nd fz h0 n0) := by
 refine MetFree.of_bodySF (plainFor_of_name own_pn0) hisR ?_
 intro p e s m args below meth c s₁ Bd hml0 hP hK
 obtain ⟨rfl, hZ, hh⟩ := hP
 have hx := Bd.exec
 have hby := Bd.bytes
 have D := fun i => hb hby (d_rm_exq i)
 have hml : c.maxLocals = 6 := hml0
 have hown : s.vm.findClass "com/example/tickfence/tickfence/PriceParsePinLaw" = some m.cls := findClass_of_methodNamed Bd.named
 have hnm := (name_of_methodNamed Bd.named Bd.method).1
 have hlk : meth.locks = false := Bd.notSynchronized
 have X0 : Stand p l e ({ frames := 2, cells := 1, slots := 9, locals := 31 } : Room) s m #[(.int (Int32.ofNat i)), (.long (Int64.ofNat vn)), (.int (Int32.ofNat nd)), (.long (Int64.ofNat fz))] below meth c s₁ [] 0 0 := Stand.of_body Bd
 have e0 : s₁.heap = h0 := by rw [← hh, Bd.state]; rfl
 have N0 := Fr.nil n0
 suffices hgo : own_Ok p e below (own_Qx s (Q_rm_exq Z i vn nd fz h0 n0) 1 9) (s₁.setTop (mkF m 0 #[.val (.int (Int32.ofNat i)), .val (.long (Int64.ofNat vn)), .second, .val (.int (Int32.ofNat nd)), .val (.long (Int64.ofNat fz)), .second] [])) from by
   obtain ⟨s₂, o, h1, h2⟩ := hgo
   exact ⟨s₂, o, castTop (own_ef_rm_exq m i vn nd fz) h1, h2⟩
 show own_Ok p e below _ (s₁.setTop (mkF m 0 #[.val (.int (Int32.ofNat i)), .val (.long (Int64.ofNat vn)), .second, .val (.int (Int32.ofNat nd)), .val (.long (Int64.ofNat fz)), .second] []))
 refine s_iloadN X0 hx (D 0) rfl ?_
 refine s_iloadN X0 hx (D 1) rfl ?_
 by_cases c2_101 : (Int32.ofNat i) < (Int32.ofNat nd)
 ·skip
  refine s_icmpNo X0 hx (D 2) (XT.ii_ge_f c2_101) ?_
  have hlt : i < nd := own_ltN (by omega) (by omega) c2_101
  refine s_lloadN X0 hx (D 3) rfl ?_
  refine s_iloadN X0 hx (D 4) rfl ?_
  refine s_iconst X0 hx (1 : Int32) (D 5) rfl ?_
  refine s_isub X0 hx (D 6) ?_
  refine s_iloadN X0 hx (D 7) rfl ?_
  refine s_isub X0 hx (D 8) ?_
  obtain ⟨_, T102, Lc102, X102, hQ102, st102⟩ := own_callS X0 hx hZ hown (own_hw hw 20 rfl) (own_hw hw 21 rfl) (own_hw hw 5 rfl) (own_hw hw 22 rfl) (rm_dig l Z a0 hw [] ((Int64.ofNat vn)) vn ((((Int32.ofNat nd) - (1 : Int32)) - (Int32.ofNat i))) ((nd - 1 - i)) h0 n0 O0 (own_oL (by omega)) (own_exk hn9 hlt) (by omega)) (by decide) e0 (Ls := #[.val (.int (Int32.ofNat i)), .val (.long (Int64.ofNat vn)), .second, .val (.int (Int32.ofNat nd)), .val (.long (Int64.ofNat fz)), .second]) [(.long (Int64.ofNat vn)), (.int (((Int32.ofNat nd) - (1 : Int32)) - (Int32.ofNat i)))] [] rfl (by rw [hml]; rfl) (lenOf own_pd1 rfl) (D 9) (by decide) 0 rfl (by decide) (by decide) (by decide)
  obtain ⟨rfl, Nq102, K102⟩ := hQ102
  have N102 := Fr.app N0 Nq102
  refine st102 _ ?_
  have e102 : T102.heap = T102.heap := rfl
  have f103 := (Keep.refl h0 []).trans K102 all0
  exact own_retN X102 hx hlk (t := .char) Bd.returns (by simp) (D 10) (by rw [e102]; exact ⟨(by rw [own_ex, if_pos hlt, own_Lnar (own_Ldg _ _)]), N102, f103⟩) (by decide) (by decide)
 ·skip
  refine s_icmpYes X0 hx 15 (D 2) (XT.ii_ge_t c2_101) (by decide) (by decide) ?_
  have hge : nd ≤ i := own_geN (by omega) (by omega) c2_101
  refine s_iloadN X0 hx (D 11) rfl ?_
  refine s_iloadN X0 hx (D 12) rfl ?_
  by_cases c17_104 : (Int32.ofNat i) = (Int32.ofNat nd)
  ·skip
   refine s_icmpNo X0 hx (D 13) (XT.ii_ne_f c17_104) ?_
   have heq : i = nd := (own_eqN (by omega) (by omega)).mp c17_104
   refine s_bipush X0 hx (46 : Int32) (D 14) rfl ?_
   exact own_retN X0 hx hlk (t := .char) Bd.returns (by simp) (D 15) (by rw [e0]; exact ⟨(by rw [own_ex, if_neg (by omega), if_pos heq]; rfl), N0, (Keep.refl h0 [])⟩) (by decide) (by decide)
  ·skip
   refine s_icmpYes X0 hx 23 (D 13) (XT.ii_ne_t c17_104) (by decide) (by decide) ?_
   have hne : ¬ i = nd := fun q => c17_104 ((own_eqN (by omega) (by omega)).mpr q)
   have hgt : nd < i := by omega
   refine s_lload X0 hx (D 16) rfl ?_
   refine s_iconst X0 hx (5 : Int32) (D 17) rfl ?_
   refine s_iloadN X0 hx (D 18) rfl ?_
   refine s_iloadN X0 hx (D 19) rfl ?_
   refine s_isub X0 hx (D 20) ?_
   refine s_iconst X0 hx (1 : Int32) (D 21) rfl ?_
   refine s_isub X0 hx (D 22) ?_
   refine s_isub X0 hx (D 23) ?_
   obtain ⟨_, T105, Lc105, X105, hQ105, st105⟩ := own_callS X0 hx hZ hown (own_hw hw 20 rfl) (own_hw hw 21 rfl) (own_hw hw 5 rfl) (own_hw hw 22 rfl) (rm_dig l Z a0 hw [] ((Int64.ofNat fz)) fz (((5 : Int32) - (((Int32.ofNat i) - (Int32.ofNat nd)) - (1 : Int32)))) ((5 - (i - nd - 1))) h0 n0 O0 (own_oL (by omega)) (own_exj hgt hi7 hn9) (by omega)) (by decide) e0 (Ls := #[.val (.int (Int32.ofNat i)), .val (.long (Int64.ofNat vn)), .second, .val (.int (Int32.ofNat nd)), .val (.long (Int64.ofNat fz)), .second]) [(.long (Int64.ofNat fz)), (.int ((5 : Int32) - (((Int32.ofNat i) - (Int32.ofNat nd)) - (1 : Int32))))] [] rfl (by rw [hml]; rfl) (lenOf own_pd1 rfl) (D 24) (by decide) 0 rfl (by decide) (by decide) (by decide)
   obtain ⟨rfl, Nq105, K105⟩ := hQ105
   have N105 := Fr.app N0 Nq105
   refine st105 _ ?_
   have e105 : T105.heap = T105.heap := rfl
   have f106 := (Keep.refl h0 []).trans K105 all0
   exact own_retN X105 hx hlk (t := .char) Bd.returns (by simp) (D 25) (by rw [e105]; exact ⟨(by rw [own_ex, if_neg (by omega), if_neg hne, own_Lnar (own_Ldg _ _)]), N105, f106⟩) (by decide) (by decide)
theorem own_pd36 : parseMethodDescriptor "(IJIJ)C" = some ⟨[.int, .long, .int, .long], some .char⟩ := by decide +kernel
theorem own_ef_rm_att (m : MethodId) (a1 : Addr) (i : Nat) (vn : Nat) (nd : Nat) (fz : Nat) : entryFrame m #[(.ref a1), (.int (Int32.ofNat i)), (.long (Int64.ofNat vn)), (.int (Int32.ofNat nd)), (.long (Int64.ofNat fz))] 7 = mkF m 0 #[.val (.ref a1), .val (.int (Int32.ofNat i)), .val (.long (Int64.ofNat vn)), .second, .val (.int (Int32.ofNat nd)), .val (.long (Int64.ofNat fz)), .second] [] := by first | (simp [entryFrame, mkF, argsToLocals, Value.category]; done) | rfl
def t_rm_att : List (Nat × Instr × Nat) := [(0, .iload_n 1, 1), (1, .aload_n 0, 1), (2, .invokevirtual 41, 3), (5, .if_icmp .lt 5, 3), (10, .aload_n 0, 1), (11, .iload_n 1, 1), (12, .invokevirtual 51, 3), (15, .iload_n 1, 1), (16, .lload_n 2, 1), (17, .iload 4, 2), (19, .lload 5, 2), (21, .invokestatic 55, 3), (24, .if_icmp .ne 7, 3), (27, .iconst 1, 1), (28, .goto 4, 3), (32, .ireturn, 1), (8, .iconst 1, 1), (9, .ireturn, 1)]
theorem d_rm_att (i : Nat) : decode method_3_code (t_rm_att.getD i (0, .iload_n 1, 1)).1 = .ok (t_rm_att.getD i (0, .iload_n 1, 1)).2 := own_dt (by decide +kernel) (List.mem_cons_self ..) i
def Q_rm_att (Z : State) (G1 : Int32) (G3 : Value) (a1 : Addr) (t1 : Addr) (k1 : ClassId) (us : List Int32) (i : Nat) (vn : Nat) (nd : Nat) (fz : Nat) (h0 : Heap) (n0 : Nat) (v : Option Value) (h : Heap) (L : List Loc) : Prop := v = some (.int (1 : Int32)) ∧ Fr n0 L ∧ Keep h0 h []
set_option maxRecDepth 65536 in
set_option maxHeartbeats 40000000 in
theorem rm_att (l : Launch) (Z : State) (a0 : Array Value) (hw : ∀ d ∈ tables_1, d.before a0 Z = true) (ws : List Jvm.Cond) (G1 : Int32) (G3 : Value) (a1 : Addr) (t1 : Addr) (k1 : ClassId) (us : List Int32) (i : Nat) (vn : Nat) (nd : Nat) (fz : Nat) (h0 : Heap) (n0 : Nat) (O0 : Old Z n0 h0) (SG1 : Sta Z Z.heap "java/lang/String" "COMPACT_STRINGS" "Z" (.int G1)) (PG1 : ¬ (G1 = (0 : Int32))) (SG3 : Sta Z Z.heap "jdk/internal/util/Preconditions" "SIOOBE_FORMATTER" "Ljava/util/function/BiFunction;" G3) (rG3 : G3.isRef = true) (Qa10 : Exa Z h0 a1 "java/lang/String") (Qa11 : Fld Z h0 a1 "java/lang/String" "coder" "B" (.int (0 : Int32))) (Qa12 : Fld Z h0 a1 "java/lang/String" "value" "[B" (.ref t1)) (Qa13 : Arv Z h0 t1 k1 .byte (Int32.ofNat us.length) (us.map Value.int) (.int (0 : Int32))) (hA : own_A us) (hul : us.length ≤ nd + 7) (hi16 : i ≤ 16) (hE : i < us.length → us.getD i 0 = own_ex vn nd fz i) (hv : vn ≤ 999999999) (hz : fz < 1000000) (hn9 : nd ≤ 9) :
    own_Met l Z (⟨"com/example/tickfence/tickfence/PriceParsePinLaw", "at", "(Ljava/lang/String;IJIJ)Z"⟩ : MethodName) method_3_code 7 (some .boolean) ws ({ frames := 4, cells := 1, slots := 9, locals := 53 } : Room) #[(.ref a1), (.int (Int32.ofNat i)), (.long (Int64.ofNat vn)), (.int (Int32.ofNat nd)), (.long (Int64.ofNat fz))] h0 (Q_rm_att Z G1 G3 a1 t1 k1 us i vn nd fz h0 n0) := by
 refine MetFree.of_bodySF (plainFor_of_name own_pn0) hisR ?_
 intro p e s m args below meth c s₁ Bd hml0 hP hK
 obtain ⟨rfl, hZ, hh⟩ := hP
 have hx := Bd.exec
 have hby := Bd.bytes
 have D := fun i => hb hby (d_rm_att i)
 have hml : c.maxLocals = 7 := hml0
 have hown : s.vm.findClass "com/example/tickfence/tickfence/PriceParsePinLaw" = some m.cls := findClass_of_methodNamed Bd.named
 have hnm := (name_of_methodNamed Bd.named Bd.method).1
 have hlk : meth.locks = false := Bd.notSynchronized
 have X0 : Stand p l e ({ frames := 4, cells := 1, slots := 9, locals := 53 } : Room) s m #[(.ref a1), (.int (Int32.ofNat i)), (.long (Int64.ofNat vn)), (.int (Int32.ofNat nd)), (.long (Int64.ofNat fz))] below meth c s₁ [] 0 0 := Stand.of_body Bd
 have e0 : s₁.heap = h0 := by rw [← hh, Bd.state]; rfl
 have N0 := Fr.nil n0
 suffices hgo : own_Ok p e below (own_Qx s (Q_rm_att Z G1 G3 a1 t1 k1 us i vn nd fz h0 n0) 1 9) (s₁.setTop (mkF m 0 #[.val (.ref a1), .val (.int (Int32.ofNat i)), .val (.long (Int64.ofNat vn)), .second, .val (.int (Int32.ofNat nd)), .val (.long (Int64.ofNat fz)), .second] [])) from by
   obtain ⟨s₂, o, h1, h2⟩ := hgo
   exact ⟨s₂, o, castTop (own_ef_rm_att m a1 i vn nd fz) h1, h2⟩
 have hln : ∀ d ∈ StrChars.Road.wordsLen, d.before a0 Z = true := fun d hd => hw d ((by decide +kernel : ∀ d ∈ StrChars.Road.wordsLen, d ∈ tables_1) d hd)
 have hch : ∀ d ∈ StrChars.Road.wordsChN, d.before a0 Z = true := fun d hd => hw d ((by decide +kernel : ∀ d ∈ StrChars.Road.wordsChN, d ∈ tables_1) d hd)
 show own_Ok p e below _ (s₁.setTop (mkF m 0 #[.val (.ref a1), .val (.int (Int32.ofNat i)), .val (.long (Int64.ofNat vn)), .second, .val (.int (Int32.ofNat nd)), .val (.long (Int64.ofNat fz)), .second] []))
 refine s_iloadN X0 hx (D 0) rfl ?_
 refine s_aloadN X0 hx (D 1) rfl rfl ?_
 obtain ⟨cq101, kq101, q101a, q101b, q101c⟩ := isOf hZ e0 Qa10
 obtain ⟨_, _, ⟨T101, L101, k101, n101⟩, -, X101, ⟨Lc101, hQ101, l101, y101, z101⟩, st101⟩ := X0.virtualBack hx (y := (⟨"java/lang/String", "length", "()I"⟩ : MethodName)) (z := (⟨"java/lang/String", "length", "()I"⟩ : MethodName)) hown (mvT hZ (own_hw hw 293 rfl)) (mvT hZ (own_hw hw 81 rfl)) (notFace_of_selects (args := #[]) (mvT hZ (own_hw hw 83 rfl))) (mvT hZ (own_hw hw 83 rfl)) (mvT hZ (own_hw hw 82 rfl)) (by decide) (StrChars.Road.lenW (W := 1) hZ hln (kI := 4) (own_hw hw 30 rfl) Qa10 Qa12 Qa11 Qa13 (own_codA hA) (own_upA hA) (SG1.ext O0.2) PG1 (by omega) (by decide) (by decide)) q101a q101c (g := (mkF m 2 #[.val (.ref a1), .val (.int (Int32.ofNat i)), .val (.long (Int64.ofNat vn)), .second, .val (.int (Int32.ofNat nd)), .val (.long (Int64.ofNat fz)), .second] [(.ref a1), (.int (Int32.ofNat i))])) rfl (by rw [hml]; rfl) (Steps.refl _) (argsL := []) (rest := [(.int (Int32.ofNat i))]) (lenOf own_pd9 rfl) rfl (by show 2 * 0 + _ ≤ _; exact Nat.le_of_eq rfl) (D 2) (fun _ _ => ⟨rfl, e0, (by decide : 0 + 0 ≤ _), (by decide : 0 + 0 ≤ _)⟩)
 dsimp only [Pt.U, Pt.locs, Pt.cells, Pt.slots] at X101 l101 y101 z101 st101 hQ101
 subst l101 y101 z101
 obtain ⟨rfl, rfl, e101⟩ := hQ101
 have Nq101 : Fr n0 ([] : List Loc) := Fr.nil n0
 have N101 := Fr.app N0 Nq101
 refine own_st (fun _ k => st101.trans k) ?_
 show own_Ok p e below _ (T101.setTop (mkF m 5 #[.val (.ref a1), .val (.int (Int32.ofNat i)), .val (.long (Int64.ofNat vn)), .second, .val (.int (Int32.ofNat nd)), .val (.long (Int64.ofNat fz)), .second] [(.int (Int32.ofNat us.length)), (.int (Int32.ofNat i))]))
 by_cases c5_102 : (Int32.ofNat i) < (Int32.ofNat us.length)
 ·skip
  refine s_icmpYes X101 hx 10 (D 3) (XT.ii_lt_t c5_102) (by decide) (by decide) ?_
  have hlt : i < us.length := own_ltN (by omega) (by omega) c5_102
  refine s_aloadN X101 hx (D 4) rfl rfl ?_
  refine s_iloadN X101 hx (D 5) rfl ?_
  obtain ⟨cq103, kq103, q103a, q103b, q103c⟩ := isOf hZ e101 Qa10
  obtain ⟨_, _, ⟨T103, L103, k103, n103⟩, -, X103, ⟨Lc103, hQ103, l103, y103, z103⟩, st103⟩ := X101.virtualBack hx (y := (⟨"java/lang/String", "charAt", "(I)C"⟩ : MethodName)) (z := (⟨"java/lang/String", "charAt", "(I)C"⟩ : MethodName)) hown (mvT hZ (own_hw hw 297 rfl)) (mvT hZ (own_hw hw 112 rfl)) (notFace_of_selects (args := #[]) (mvT hZ (own_hw hw 114 rfl))) (mvT hZ (own_hw hw 114 rfl)) (mvT hZ (own_hw hw 113 rfl)) (by decide) (StrChars.Road.chN (W := 0) hZ hch (kI := 4) (own_hw hw 30 rfl) Qa10 Qa12 Qa11 Qa13 (own_codA hA) (own_upA hA) (SG1.ext O0.2) PG1 (SG3.ext O0.2) rG3 (by omega) (i := i) hlt (j := (Int32.ofNat i)) rfl (by decide) (by decide)) q103a q103c (g := (mkF m 12 #[.val (.ref a1), .val (.int (Int32.ofNat i)), .val (.long (Int64.ofNat vn)), .second, .val (.int (Int32.ofNat nd)), .val (.long (Int64.ofNat fz)), .second] [(.int (Int32.ofNat i)), (.ref a1)])) rfl (by rw [hml]; rfl) (Steps.refl _) (argsL := [(.int (Int32.ofNat i))]) (rest := []) (lenOf own_pd10 rfl) rfl (by show 2 * 0 + _ ≤ _; exact Nat.le_of_eq rfl) (D 6) (fun _ _ => ⟨rfl, e101, (by decide : 0 + 0 ≤ _), (by decide : 0 + 0 ≤ _)⟩)
  dsimp only [Pt.U, Pt.locs, Pt.cells, Pt.slots] at X103 l103 y103 z103 st103 hQ103
  subst l103 y103 z103
  obtain ⟨rfl, rfl, e103⟩ := hQ103
  have Nq103 : Fr n0 ([] : List Loc) := Fr.nil n0
  have N103 := Fr.app N101 Nq103
  refine own_st (fun _ k => st103.trans k) ?_
  show own_Ok p e below _ (T103.setTop (mkF m 15 #[.val (.ref a1), .val (.int (Int32.ofNat i)), .val (.long (Int64.ofNat vn)), .second, .val (.int (Int32.ofNat nd)), .val (.long (Int64.ofNat fz)), .second] [(.int (us.getD i 0))]))
  refine s_iloadN X103 hx (D 7) rfl ?_
  refine s_lloadN X103 hx (D 8) rfl ?_
  refine s_iload X103 hx (D 9) rfl ?_
  refine s_lload X103 hx (D 10) rfl ?_
  obtain ⟨_, T104, Lc104, X104, hQ104, st104⟩ := own_callS X103 hx hZ hown (own_hw hw 298 rfl) (own_hw hw 299 rfl) (own_hw hw 5 rfl) (own_hw hw 300 rfl) (rm_exq l Z a0 hw [] i vn nd fz h0 n0 O0 hv hz hn9 (by omega)) (by decide) e103 (Ls := #[.val (.ref a1), .val (.int (Int32.ofNat i)), .val (.long (Int64.ofNat vn)), .second, .val (.int (Int32.ofNat nd)), .val (.long (Int64.ofNat fz)), .second]) [(.int (Int32.ofNat i)), (.long (Int64.ofNat vn)), (.int (Int32.ofNat nd)), (.long (Int64.ofNat fz))] [(.int (us.getD i 0))] rfl (by rw [hml]; rfl) (lenOf own_pd36 rfl) (D 11) (by decide) 1 rfl (by decide) (by decide) (by decide)
  obtain ⟨rfl, Nq104, K104⟩ := hQ104
  have N104 := Fr.app N103 Nq104
  refine st104 _ ?_
  have e104 : T104.heap = T104.heap := rfl
  refine s_icmpNo X104 hx (D 12) (XT.ii_ne_f (hE hlt)) ?_
  refine s_iconst X104 hx (1 : Int32) (D 13) rfl ?_
  refine s_goto X104 hx 32 (D 14) (by decide) (by decide) ?_
  have f105 := (Keep.refl h0 []).trans K104 all0
  exact own_retN X104 hx hlk (t := .boolean) Bd.returns (by simp) (D 15) (by rw [e104]; exact ⟨rfl, N104, f105⟩) (by decide) (by decide)
 ·skip
  refine s_icmpNo X101 hx (D 3) (XT.ii_lt_f c5_102) ?_
  refine s_iconst X101 hx (1 : Int32) (D 16) rfl ?_
  exact own_retN X101 hx hlk (t := .boolean) Bd.returns (by simp) (D 17) (by rw [e101]; exact ⟨rfl, N101, (Keep.refl h0 [])⟩) (by decide) (by decide)
theorem own_pd37 : parseMethodDescriptor "(JJI)Ljava/lang/String;" = some ⟨[.long, .long, .int], some (.object "java/lang/String")⟩ := by decide +kernel
theorem own_pd38 : parseMethodDescriptor "(Ljava/lang/String;)Lcom/example/tickfence/tickfence/Price;" = some ⟨[(.object "java/lang/String")], some (.object "com/example/tickfence/tickfence/Price")⟩ := by decide +kernel
theorem own_pd39 : parseMethodDescriptor "(Ljava/lang/String;IJIJ)Z" = some ⟨[(.object "java/lang/String"), .int, .long, .int, .long], some .boolean⟩ := by decide +kernel
theorem own_ef_rm_law (m : MethodId) (xa : Int64) (xb : Int32) (xc : Int32) : entryFrame m #[(.long xa), (.int xb), (.int xc)] maxLocals = mkF m 0 #[.val (.long xa), .second, .val (.int xb), .val (.int xc), .unset, .unset, .unset, .unset, .unset, .unset, .unset, .unset, .unset, .unset, .unset, .unset] [] := by first | (simp [entryFrame, mkF, argsToLocals, Value.category, maxLocals]; done) | rfl
def Q_rm_law (Z : State) (xa : Int64) (xb : Int32) (xc : Int32) (G1 : Int32) (G3 : Value) (od : Addr) (ko : ClassId) (dt : Addr) (kt : ClassId) (h0 : Heap) (n0 : Nat) (v : Option Value) (h : Heap) (L : List Loc) : Prop := v = some (.int 1) ∧ Fr n0 L
set_option maxRecDepth 65536 in
set_option maxHeartbeats 40000000 in
theorem rm_law (l : Launch) (Z : State) (a0 : Array Value) (hw : ∀ d ∈ tables_1, d.before a0 Z = true) (ws : List Jvm.Cond) (xa : Int64) (xb : Int32) (xc : Int32) (G1 : Int32) (G3 : Value) (od : Addr) (ko : ClassId) (dt : Addr) (kt : ClassId) (h0 : Heap) (n0 : Nat) (O0 : Old Z n0 h0) (SG1 : Sta Z Z.heap "java/lang/String" "COMPACT_STRINGS" "Z" (.int G1)) (PG1 : ¬ (G1 = (0 : Int32))) (SG3 : Sta Z Z.heap "jdk/internal/util/Preconditions" "SIOOBE_FORMATTER" "Ljava/util/function/BiFunction;" G3) (rG3 : G3.isRef = true) (SDO : Sta Z Z.heap "java/lang/Integer" "DigitOnes" "[B" (.ref od)) (VDO : Arv Z Z.heap od ko .byte (100 : Int32) own_ones (.int (0 : Int32))) (SDT : Sta Z Z.heap "java/lang/Integer" "DigitTens" "[B" (.ref dt)) (VDT : Arv Z Z.heap dt kt .byte (100 : Int32) own_tens (.int (0 : Int32))) (hc1 : Jvm.Lit.constHeld Z "com/example/tickfence/tickfence/Price" 122) (hc2 : Jvm.Lit.constHeld Z "com/example/tickfence/tickfence/Price" 124) (hc3 : Jvm.Lit.constHeld Z "java/lang/String" 7) (hcw : Jvm.Lit.compactW.before a0 Z = true) :
    MetFree l x (head1 (Jvm.Cond.code x code maxLocals ret :: ws) room_1) (fun a U => a = #[(.long xa), (.int xb), (.int xc)] ∧ Z.Warmed39 U.vm ∧ U.heap = h0 ∧ IB Z U.vm ([] : List String)) (fun _ _ _ _ _ => True) (fun _ U o U' => ∃ v L, o = .returned v ∧ Q_rm_law Z xa xb xc G1 G3 od ko dt kt h0 n0 v U'.heap L ∧ ReturnedEndW U o U' L 50 427) := by
 refine MetFree.of_bodySF (plainFor_of_name own_pn0) hisR ?_
 intro p e s m args below meth c s₁ Bd hml0 hP hK
 obtain ⟨rfl, hZ, hh, hIB⟩ := hP
 have hx := Bd.exec
 have hby := Bd.bytes
 skip
 have hml : c.maxLocals = 16 := hml0
 have hown : s.vm.findClass "com/example/tickfence/tickfence/PriceParsePinLaw" = some m.cls := findClass_of_methodNamed Bd.named
 have hnm := (name_of_methodNamed Bd.named Bd.method).1
 have hlk : meth.locks = false := Bd.notSynchronized
 have X0 : Stand p l e room_1 (s.setVm s.vm) m #[(.long xa), (.int xb), (.int xc)] below meth c s₁ [] 0 0 := Stand.of_body Bd
 have hS : s.Since s.vm 0 := (State.WarmedH.refl s).since 0
 have hk0 : 0 ≤ h0.size := Nat.zero_le _
 have e0 : s₁.heap = h0 := by rw [← hh, Bd.state]; rfl
 have N0 := Fr.nil n0
 suffices hgo : own_Ok p e below (own_QxW s (Q_rm_law Z xa xb xc G1 G3 od ko dt kt h0 n0) 50 427) (s₁.setTop (mkF m 0 #[.val (.long xa), .second, .val (.int xb), .val (.int xc), .unset, .unset, .unset, .unset, .unset, .unset, .unset, .unset, .unset, .unset, .unset, .unset] [])) from by
   obtain ⟨s₂, o, h1, h2⟩ := hgo
   exact ⟨s₂, o, castTop (own_ef_rm_law m xa xb xc) h1, h2⟩
 have hln : ∀ d ∈ StrChars.Road.wordsLen, d.before a0 Z = true := fun d hd => hw d ((by decide +kernel : ∀ d ∈ StrChars.Road.wordsLen, d ∈ tables_1) d hd)
 have cut50 : ∀ (T : State) (locs : List Loc) (h : Heap) (d : Nat) (vn : Nat) (fn : Nat) (X : Stand p l e room_1 (s.setVm s.vm) m #[(.long xa), (.int xb), (.int xc)] below meth c T locs 1 9) (eh : T.heap = h) (N : Fr n0 locs) (O : Old Z n0 h) (hd6 : d ≤ 6) (hv9 : vn ≤ 999999999) (hf : fn < 10 ^ d) (hnz : ¬ (vn = 0 ∧ fn = 0)), own_Ok p e below (own_QxW s (Q_rm_law Z xa xb xc G1 G3 od ko dt kt h0 n0) 50 427) (T.setTop (mkF m 50 #[.val (.long xa), .second, .val (.int xb), .val (.int xc), .val (.int (Int32.ofNat d)), .val (.long (Int64.ofNat vn)), .second, .val (.long (Int64.ofNat fn)), .second, .unset, .unset, .unset, .unset, .unset, .unset, .unset] [])) := by
  intro T locs h d vn fn X eh N O hd6 hv9 hf hnz
  have hf6 := own_f6 hd6 hf
  have hfz := own_fq hd6 (Nat.le_refl 6) hf
  have hn9 := own_dl9 hv9
  have hsl := own_shl (v := vn) hd6 hf
  have hdc := (own_dec2 (fn * 10 ^ (6 - d))).2
  have hsu : (own_show (own_mi vn fn d)).length ≤ (own_dl vn).length + 7 := by rw [hsl]; omega
  show own_Ok p e below _ (T.setTop (mkF m 50 #[.val (.long xa), .second, .val (.int xb), .val (.int xc), .val (.int (Int32.ofNat d)), .val (.long (Int64.ofNat vn)), .second, .val (.long (Int64.ofNat fn)), .second, .unset, .unset, .unset, .unset, .unset, .unset, .unset] []))
  refine s_lload X hx (hb hby at_50) rfl ?_
  refine s_lload X hx (hb hby at_52) rfl ?_
  refine s_iload X hx (hb hby at_54) rfl ?_
  obtain ⟨_, T101, Lc101, X101, hQ101, st101⟩ := own_callS X hx hZ hown (own_hw hw 16 rfl) (own_hw hw 17 rfl) (own_hw hw 5 rfl) (own_hw hw 18 rfl) (rm_txt l Z a0 hw [] G1 ((Int64.ofNat vn)) vn ((Int64.ofNat fn)) fn ((Int32.ofNat d)) d h n0 O SG1 PG1 (own_oL (by omega)) (own_oL (by omega)) (own_oN (by omega)) hd6) (by decide) eh (Ls := #[.val (.long xa), .second, .val (.int xb), .val (.int xc), .val (.int (Int32.ofNat d)), .val (.long (Int64.ofNat vn)), .second, .val (.long (Int64.ofNat fn)), .second, .unset, .unset, .unset, .unset, .unset, .unset, .unset]) [(.long (Int64.ofNat vn)), (.long (Int64.ofNat fn)), (.int (Int32.ofNat d))] [] rfl (by rw [hml]; rfl) (lenOf own_pd37 rfl) (hb hby at_56) (by decide) 0 rfl (by decide) (by decide) (by decide)
  obtain ⟨az_101, tz_101, kz_101, rfl, Nq101, K101, g101_0, g101_1, g101_2, g101_3, gs_az_101, gs_tz_101⟩ := hQ101
  have N101 := Fr.app N Nq101
  refine st101 _ ?_
  have gb_az_101 : n0 ≤ az_101 := Nat.le_trans (own_n0 O) gs_az_101
  have ne_od_az_101 : od ≠ az_101 := Old.ne O VDO.lt gb_az_101
  have ne_dt_az_101 : dt ≠ az_101 := Old.ne O VDT.lt gb_az_101
  have gb_tz_101 : n0 ≤ tz_101 := Nat.le_trans (own_n0 O) gs_tz_101
  have ne_od_tz_101 : od ≠ tz_101 := Old.ne O VDO.lt gb_tz_101
  have ne_dt_tz_101 : dt ≠ tz_101 := Old.ne O VDT.lt gb_tz_101
  have e101 : T101.heap = T101.heap := rfl
  refine s_astore X101 hx (hb hby at_59) rfl #[.val (.long xa), .second, .val (.int xb), .val (.int xc), .val (.int (Int32.ofNat d)), .val (.long (Int64.ofNat vn)), .second, .val (.long (Int64.ofNat fn)), .second, .val (.ref az_101), .unset, .unset, .unset, .unset, .unset, .unset] rfl ?_
  refine s_aload X101 hx (hb hby at_61) rfl rfl ?_
  have f103 := O.keep K101 all0
  obtain ⟨_, T102, Lc102, X102, hQ102, st102⟩ := own_callS X101 hx hZ hown (own_hw hw 58 rfl) (own_hw hw 59 rfl) (own_hw hw 60 rfl) (own_hw hw 61 rfl) (rm_prs l Z a0 hw [] G1 G3 az_101 tz_101 kz_101 vn fn d T101.heap n0 f103 SG1 PG1 SG3 rG3 g101_0 g101_1 g101_2 g101_3 hd6 hv9 hf hnz) (by decide) e101 (Ls := #[.val (.long xa), .second, .val (.int xb), .val (.int xc), .val (.int (Int32.ofNat d)), .val (.long (Int64.ofNat vn)), .second, .val (.long (Int64.ofNat fn)), .second, .val (.ref az_101), .unset, .unset, .unset, .unset, .unset, .unset]) [(.ref az_101)] [] rfl (by rw [hml]; rfl) (lenOf own_pd38 rfl) (hb hby at_63) (by decide) 0 rfl (by decide) (by decide) (by decide)
  obtain ⟨pz_102, rfl, Nq102, K102, g102_0, g102_1, gs_pz_102⟩ := hQ102
  have N102 := Fr.app N101 Nq102
  refine st102 _ ?_
  have gb_pz_102 : n0 ≤ pz_102 := Nat.le_trans (own_n0 f103) gs_pz_102
  have ne_az_101_pz_102 : az_101 ≠ pz_102 := Nat.ne_of_lt (Nat.lt_of_lt_of_le g101_0.lt gs_pz_102)
  have ne_tz_101_pz_102 : tz_101 ≠ pz_102 := Nat.ne_of_lt (Nat.lt_of_lt_of_le g101_3.lt gs_pz_102)
  have ne_od_pz_102 : od ≠ pz_102 := Old.ne f103 VDO.lt gb_pz_102
  have ne_dt_pz_102 : dt ≠ pz_102 := Old.ne f103 VDT.lt gb_pz_102
  have e102 : T102.heap = T102.heap := rfl
  have f105 := f103.keep K102 all0
  obtain ⟨cq104, kq104, q104a, q104b, q104c⟩ := isOf hZ e102 g102_0
  obtain ⟨_, _, ⟨T104, L104, k104, n104⟩, -, X104, S104, gg104, ⟨Lc104, hQ104, l104, y104, z104⟩, st104⟩ := X102.virtualBackS hx (y := (⟨"com/example/tickfence/tickfence/Price", "toString", "()Ljava/lang/String;"⟩ : MethodName)) (z := (⟨"com/example/tickfence/tickfence/Price", "toString", "()Ljava/lang/String;"⟩ : MethodName)) hown (mvT hZ (own_hw hw 141 rfl)) (mvT hZ (own_hw hw 142 rfl)) (notFace_of_selects (args := #[]) (mvT hZ (own_hw hw 144 rfl))) (mvT hZ (own_hw hw 144 rfl)) (mvT hZ (own_hw hw 143 rfl)) (by decide) (own_backOfS (W := 0) (rm_pts l Z a0 hw [] G1 od ko dt kt pz_102 ((own_mi vn fn d)) T102.heap n0 f105 SG1 PG1 SDO VDO SDT VDT hc1 hc2 hc3 hcw g102_0 g102_1 (own_miB hv9 hd6 hf)) hIB hZ (own_hw hw 145 rfl) (own_hw hw 60 rfl) (by decide) (by decide)) q104a q104c (g := (mkF m 66 #[.val (.long xa), .second, .val (.int xb), .val (.int xc), .val (.int (Int32.ofNat d)), .val (.long (Int64.ofNat vn)), .second, .val (.long (Int64.ofNat fn)), .second, .val (.ref az_101), .unset, .unset, .unset, .unset, .unset, .unset] [(.ref pz_102)])) rfl (by rw [hml]; rfl) (Steps.refl _) (argsL := []) (rest := []) (lenOf own_pd35 rfl) rfl (by show 2 * 0 + _ ≤ _; exact Nat.le_of_eq rfl) (hb hby at_66) (fun _ _ => ⟨rfl, e102, (by decide : 21 + 12 ≤ _), (by decide : 195 + 79 ≤ _)⟩)
  dsimp only [Pt.U, Pt.locs, Pt.cells, Pt.slots] at X104 l104 y104 z104 st104 hQ104 S104 gg104
  subst l104 y104 z104
  have f106 := Nat.le_trans (Nat.zero_le _) K101.1
  have f107 := Nat.le_trans f106 K102.1
  obtain ⟨X104, hS104, hZ104, hown104⟩ := rebS hS (by rw [e102]; exact f107) X104 S104 gg104 hZ hown
  obtain ⟨az_104, tz_104, kz_104, rfl, Nq104, K104, g104_0, g104_1, g104_2, g104_3, gs_az_104, gs_tz_104⟩ := hQ104
  have N104 := Fr.app N102 Nq104
  refine own_st (fun _ k => st104.trans k) ?_
  have gb_az_104 : n0 ≤ az_104 := Nat.le_trans (own_n0 f105) gs_az_104
  have f108 := g101_0.keep K102
  have ne_az_101_az_104 : az_101 ≠ az_104 := Nat.ne_of_lt (Nat.lt_of_lt_of_le f108.lt gs_az_104)
  have f109 := g101_3.keep K102 nin0
  have ne_tz_101_az_104 : tz_101 ≠ az_104 := Nat.ne_of_lt (Nat.lt_of_lt_of_le f109.lt gs_az_104)
  have ne_pz_102_az_104 : pz_102 ≠ az_104 := Nat.ne_of_lt (Nat.lt_of_lt_of_le g102_0.lt gs_az_104)
  have ne_od_az_104 : od ≠ az_104 := Old.ne f105 VDO.lt gb_az_104
  have ne_dt_az_104 : dt ≠ az_104 := Old.ne f105 VDT.lt gb_az_104
  have gb_tz_104 : n0 ≤ tz_104 := Nat.le_trans (own_n0 f105) gs_tz_104
  have ne_az_101_tz_104 : az_101 ≠ tz_104 := Nat.ne_of_lt (Nat.lt_of_lt_of_le f108.lt gs_tz_104)
  have ne_tz_101_tz_104 : tz_101 ≠ tz_104 := Nat.ne_of_lt (Nat.lt_of_lt_of_le f109.lt gs_tz_104)
  have ne_pz_102_tz_104 : pz_102 ≠ tz_104 := Nat.ne_of_lt (Nat.lt_of_lt_of_le g102_0.lt gs_tz_104)
  have ne_od_tz_104 : od ≠ tz_104 := Old.ne f105 VDO.lt gb_tz_104
  have ne_dt_tz_104 : dt ≠ tz_104 := Old.ne f105 VDT.lt gb_tz_104
  have e104 : T104.heap = T104.heap := rfl
  show own_Ok p e below _ (T104.setTop (mkF m 69 #[.val (.long xa), .second, .val (.int xb), .val (.int xc), .val (.int (Int32.ofNat d)), .val (.long (Int64.ofNat vn)), .second, .val (.long (Int64.ofNat fn)), .second, .val (.ref az_101), .unset, .unset, .unset, .unset, .unset, .unset] [(.ref az_104)]))
  refine s_astore X104 hx (hb hby at_69) rfl #[.val (.long xa), .second, .val (.int xb), .val (.int xc), .val (.int (Int32.ofNat d)), .val (.long (Int64.ofNat vn)), .second, .val (.long (Int64.ofNat fn)), .second, .val (.ref az_101), .val (.ref az_104), .unset, .unset, .unset, .unset, .unset] rfl ?_
  refine s_lload X104 hx (hb hby at_71) rfl ?_
  refine s_bipush X104 hx (6 : Int32) (hb hby at_73) rfl ?_
  refine s_iload X104 hx (hb hby at_75) rfl ?_
  refine s_isub X104 hx (hb hby at_77) ?_
  have f111 := f105.keep K104 all0
  obtain ⟨_, T110, Lc110, X110, hQ110, st110⟩ := own_callS X104 hx hZ104 hown104 (own_hw hw 3 rfl) (own_hw hw 4 rfl) (own_hw hw 5 rfl) (own_hw hw 6 rfl) (rm_p10 l Z a0 hw [] (((6 : Int32) - (Int32.ofNat d))) ((6 - d)) T104.heap n0 f111 (by rw [show (6 : Int32) - Int32.ofNat d = Int32.ofNat (6 - d) from own_subN (a := 6) hd6 (by decide)]; exact own_oN (by omega)) (by omega)) (by decide) e104 (Ls := #[.val (.long xa), .second, .val (.int xb), .val (.int xc), .val (.int (Int32.ofNat d)), .val (.long (Int64.ofNat vn)), .second, .val (.long (Int64.ofNat fn)), .second, .val (.ref az_101), .val (.ref az_104), .unset, .unset, .unset, .unset, .unset]) [(.int ((6 : Int32) - (Int32.ofNat d)))] [(.long (Int64.ofNat fn))] rfl (by rw [hml]; rfl) (lenOf own_pd0 rfl) (hb hby at_78) (by decide) 2 rfl (by decide) (by decide) (by decide)
  obtain ⟨rfl, Nq110, K110⟩ := hQ110
  have N110 := Fr.app N104 Nq110
  refine st110 _ ?_
  have e110 : T110.heap = T110.heap := rfl
  refine s_lmul X110 hx (hb hby at_81) ?_
  rw [show ((Int64.ofNat fn) * (own_p10 (6 - d))) = (Int64.ofNat (fn * 10 ^ (6 - d))) from own_mulP hd6 hf]
  show own_Ok p e below _ (T110.setTop (mkF m 82 #[.val (.long xa), .second, .val (.int xb), .val (.int xc), .val (.int (Int32.ofNat d)), .val (.long (Int64.ofNat vn)), .second, .val (.long (Int64.ofNat fn)), .second, .val (.ref az_101), .val (.ref az_104), .unset, .unset, .unset, .unset, .unset] [(.long (Int64.ofNat (fn * 10 ^ (6 - d))))]))
  refine s_lstore X110 hx (hb hby at_82) #[.val (.long xa), .second, .val (.int xb), .val (.int xc), .val (.int (Int32.ofNat d)), .val (.long (Int64.ofNat vn)), .second, .val (.long (Int64.ofNat fn)), .second, .val (.ref az_101), .val (.ref az_104), .val (.long (Int64.ofNat (fn * 10 ^ (6 - d)))), .second, .unset, .unset, .unset] rfl ?_
  refine s_lload X110 hx (hb hby at_84) rfl ?_
  have f113 := f111.keep K110 all0
  obtain ⟨_, T112, Lc112, X112, hQ112, st112⟩ := own_callS X110 hx hZ104 hown104 (own_hw hw 287 rfl) (own_hw hw 288 rfl) (own_hw hw 5 rfl) (own_hw hw 289 rfl) (rm_dcn l Z a0 hw [] vn T110.heap n0 f113 hv9) (by decide) e110 (Ls := #[.val (.long xa), .second, .val (.int xb), .val (.int xc), .val (.int (Int32.ofNat d)), .val (.long (Int64.ofNat vn)), .second, .val (.long (Int64.ofNat fn)), .second, .val (.ref az_101), .val (.ref az_104), .val (.long (Int64.ofNat (fn * 10 ^ (6 - d)))), .second, .unset, .unset, .unset]) [(.long (Int64.ofNat vn))] [] rfl (by rw [hml]; rfl) (lenOf own_pd16 rfl) (hb hby at_86) (by decide) 0 rfl (by decide) (by decide) (by decide)
  obtain ⟨rfl, Nq112, e112⟩ := hQ112
  have N112 := Fr.app N110 Nq112
  refine st112 _ ?_
  refine s_istore X112 hx (hb hby at_89) #[.val (.long xa), .second, .val (.int xb), .val (.int xc), .val (.int (Int32.ofNat d)), .val (.long (Int64.ofNat vn)), .second, .val (.long (Int64.ofNat fn)), .second, .val (.ref az_101), .val (.ref az_104), .val (.long (Int64.ofNat (fn * 10 ^ (6 - d)))), .second, .val (.int (Int32.ofNat (own_dl vn).length)), .unset, .unset] rfl ?_
  refine s_lload X112 hx (hb hby at_91) rfl ?_
  obtain ⟨_, T114, Lc114, X114, hQ114, st114⟩ := own_callS X112 hx hZ104 hown104 (own_hw hw 290 rfl) (own_hw hw 291 rfl) (own_hw hw 5 rfl) (own_hw hw 292 rfl) (rm_pdc l Z a0 hw [] ((fn * 10 ^ (6 - d))) T110.heap n0 f113 hfz) (by decide) e112 (Ls := #[.val (.long xa), .second, .val (.int xb), .val (.int xc), .val (.int (Int32.ofNat d)), .val (.long (Int64.ofNat vn)), .second, .val (.long (Int64.ofNat fn)), .second, .val (.ref az_101), .val (.ref az_104), .val (.long (Int64.ofNat (fn * 10 ^ (6 - d)))), .second, .val (.int (Int32.ofNat (own_dl vn).length)), .unset, .unset]) [(.long (Int64.ofNat (fn * 10 ^ (6 - d))))] [] rfl (by rw [hml]; rfl) (lenOf own_pd16 rfl) (hb hby at_93) (by decide) 0 rfl (by decide) (by decide) (by decide)
  obtain ⟨rfl, Nq114, e114⟩ := hQ114
  have N114 := Fr.app N112 Nq114
  refine st114 _ ?_
  refine s_istore X114 hx (hb hby at_96) #[.val (.long xa), .second, .val (.int xb), .val (.int xc), .val (.int (Int32.ofNat d)), .val (.long (Int64.ofNat vn)), .second, .val (.long (Int64.ofNat fn)), .second, .val (.ref az_101), .val (.ref az_104), .val (.long (Int64.ofNat (fn * 10 ^ (6 - d)))), .second, .val (.int (Int32.ofNat (own_dl vn).length)), .val (.int (Int32.ofNat (own_dec (fn * 10 ^ (6 - d))))), .unset] rfl ?_
  refine s_aload X114 hx (hb hby at_98) rfl rfl ?_
  have f116 := g104_0.keep K110
  have f117 := g104_2.keep K110 nin0
  have f118 := g104_1.keep K110 nin0
  have f119 := g104_3.keep K110 nin0
  obtain ⟨cq115, kq115, q115a, q115b, q115c⟩ := isOf hZ104 e114 f116
  obtain ⟨_, _, ⟨T115, L115, k115, n115⟩, -, X115, ⟨Lc115, hQ115, l115, y115, z115⟩, st115⟩ := X114.virtualBack hx (y := (⟨"java/lang/String", "length", "()I"⟩ : MethodName)) (z := (⟨"java/lang/String", "length", "()I"⟩ : MethodName)) hown104 (mvT hZ104 (own_hw hw 293 rfl)) (mvT hZ104 (own_hw hw 81 rfl)) (notFace_of_selects (args := #[]) (mvT hZ104 (own_hw hw 83 rfl))) (mvT hZ104 (own_hw hw 83 rfl)) (mvT hZ104 (own_hw hw 82 rfl)) (by decide) (StrChars.Road.lenW (W := 0) hZ104 hln (kI := 4) (own_hw hw 30 rfl) f116 f117 f118 f119 (own_codA (own_Ash _ _)) (own_upA (own_Ash _ _)) (SG1.ext f113.2) PG1 (by omega) (by decide) (by decide)) q115a q115c (g := (mkF m 100 #[.val (.long xa), .second, .val (.int xb), .val (.int xc), .val (.int (Int32.ofNat d)), .val (.long (Int64.ofNat vn)), .second, .val (.long (Int64.ofNat fn)), .second, .val (.ref az_101), .val (.ref az_104), .val (.long (Int64.ofNat (fn * 10 ^ (6 - d)))), .second, .val (.int (Int32.ofNat (own_dl vn).length)), .val (.int (Int32.ofNat (own_dec (fn * 10 ^ (6 - d))))), .unset] [(.ref az_104)])) rfl (by rw [hml]; rfl) (Steps.refl _) (argsL := []) (rest := []) (lenOf own_pd9 rfl) rfl (by show 2 * 0 + _ ≤ _; exact Nat.le_of_eq rfl) (hb hby at_100) (fun _ _ => ⟨rfl, e114, (by decide : 34 + 0 ≤ _), (by decide : 283 + 0 ≤ _)⟩)
  dsimp only [Pt.U, Pt.locs, Pt.cells, Pt.slots] at X115 l115 y115 z115 st115 hQ115
  subst l115 y115 z115
  obtain ⟨rfl, rfl, e115⟩ := hQ115
  have Nq115 : Fr n0 ([] : List Loc) := Fr.nil n0
  have N115 := Fr.app N114 Nq115
  refine own_st (fun _ k => st115.trans k) ?_
  show own_Ok p e below _ (T115.setTop (mkF m 103 #[.val (.long xa), .second, .val (.int xb), .val (.int xc), .val (.int (Int32.ofNat d)), .val (.long (Int64.ofNat vn)), .second, .val (.long (Int64.ofNat fn)), .second, .val (.ref az_101), .val (.ref az_104), .val (.long (Int64.ofNat (fn * 10 ^ (6 - d)))), .second, .val (.int (Int32.ofNat (own_dl vn).length)), .val (.int (Int32.ofNat (own_dec (fn * 10 ^ (6 - d))))), .unset] [(.int (Int32.ofNat (own_show (own_mi vn fn d)).length))]))
  refine s_iload X115 hx (hb hby at_103) rfl ?_
  refine s_iconst X115 hx (1 : Int32) (hb hby at_105) rfl ?_
  refine s_iadd X115 hx (hb hby at_106) ?_
  refine s_iload X115 hx (hb hby at_107) rfl ?_
  refine s_iadd X115 hx (hb hby at_109) ?_
  refine s_icmpYes X115 hx 115 (hb hby at_110) (XT.ii_eq_t (own_lenE hv9 hd6 hf)) (by decide) (by decide) ?_
  refine s_iconst X115 hx (1 : Int32) (hb hby at_115) rfl ?_
  refine s_istore X115 hx (hb hby at_116) #[.val (.long xa), .second, .val (.int xb), .val (.int xc), .val (.int (Int32.ofNat d)), .val (.long (Int64.ofNat vn)), .second, .val (.long (Int64.ofNat fn)), .second, .val (.ref az_101), .val (.ref az_104), .val (.long (Int64.ofNat (fn * 10 ^ (6 - d)))), .second, .val (.int (Int32.ofNat (own_dl vn).length)), .val (.int (Int32.ofNat (own_dec (fn * 10 ^ (6 - d))))), .val (.int (1 : Int32))] rfl ?_
  refine s_iload X115 hx (hb hby at_118) rfl ?_
  refine s_aload X115 hx (hb hby at_120) rfl rfl ?_
  refine s_iconst X115 hx (0 : Int32) (hb hby at_122) rfl ?_
  refine s_lload X115 hx (hb hby at_123) rfl ?_
  refine s_iload X115 hx (hb hby at_125) rfl ?_
  refine s_lload X115 hx (hb hby at_127) rfl ?_
  obtain ⟨_, T120, Lc120, X120, hQ120, st120⟩ := own_callS X115 hx hZ104 hown104 (own_hw hw 294 rfl) (own_hw hw 295 rfl) (own_hw hw 5 rfl) (own_hw hw 296 rfl) (rm_att l Z a0 hw [] G1 G3 az_104 tz_104 kz_104 ((own_show (own_mi vn fn d))) 0 vn ((own_dl vn).length) ((fn * 10 ^ (6 - d))) T110.heap n0 f113 SG1 PG1 SG3 rG3 f116 f118 f117 f119 (own_Ash _ _) hsu (by decide) (own_exE hd6 hf) hv9 hfz hn9) (by decide) e115 (Ls := #[.val (.long xa), .second, .val (.int xb), .val (.int xc), .val (.int (Int32.ofNat d)), .val (.long (Int64.ofNat vn)), .second, .val (.long (Int64.ofNat fn)), .second, .val (.ref az_101), .val (.ref az_104), .val (.long (Int64.ofNat (fn * 10 ^ (6 - d)))), .second, .val (.int (Int32.ofNat (own_dl vn).length)), .val (.int (Int32.ofNat (own_dec (fn * 10 ^ (6 - d))))), .val (.int (1 : Int32))]) [(.ref az_104), (.int (0 : Int32)), (.long (Int64.ofNat vn)), (.int (Int32.ofNat (own_dl vn).length)), (.long (Int64.ofNat (fn * 10 ^ (6 - d))))] [(.int (1 : Int32))] rfl (by rw [hml]; rfl) (lenOf own_pd39 rfl) (hb hby at_129) (by decide) 1 rfl (by decide) (by decide) (by decide)
  obtain ⟨rfl, Nq120, K120⟩ := hQ120
  have N120 := Fr.app N115 Nq120
  refine st120 _ ?_
  have e120 : T120.heap = T120.heap := rfl
  refine s_iand X120 hx (hb hby at_132) ?_
  show own_Ok p e below _ (T120.setTop (mkF m 133 #[.val (.long xa), .second, .val (.int xb), .val (.int xc), .val (.int (Int32.ofNat d)), .val (.long (Int64.ofNat vn)), .second, .val (.long (Int64.ofNat fn)), .second, .val (.ref az_101), .val (.ref az_104), .val (.long (Int64.ofNat (fn * 10 ^ (6 - d)))), .second, .val (.int (Int32.ofNat (own_dl vn).length)), .val (.int (Int32.ofNat (own_dec (fn * 10 ^ (6 - d))))), .val (.int (1 : Int32))] [(.int (1 : Int32))]))
  refine s_istore X120 hx (hb hby at_133) #[.val (.long xa), .second, .val (.int xb), .val (.int xc), .val (.int (Int32.ofNat d)), .val (.long (Int64.ofNat vn)), .second, .val (.long (Int64.ofNat fn)), .second, .val (.ref az_101), .val (.ref az_104), .val (.long (Int64.ofNat (fn * 10 ^ (6 - d)))), .second, .val (.int (Int32.ofNat (own_dl vn).length)), .val (.int (Int32.ofNat (own_dec (fn * 10 ^ (6 - d))))), .val (.int (1 : Int32))] rfl ?_
  refine s_iload X120 hx (hb hby at_135) rfl ?_
  refine s_aload X120 hx (hb hby at_137) rfl rfl ?_
  refine s_iconst X120 hx (1 : Int32) (hb hby at_139) rfl ?_
  refine s_lload X120 hx (hb hby at_140) rfl ?_
  refine s_iload X120 hx (hb hby at_142) rfl ?_
  refine s_lload X120 hx (hb hby at_144) rfl ?_
  have f122 := f116.keep K120
  have f123 := f118.keep K120 nin0
  have f124 := f117.keep K120 nin0
  have f125 := f119.keep K120 nin0
  have f126 := f113.keep K120 all0
  obtain ⟨_, T121, Lc121, X121, hQ121, st121⟩ := own_callS X120 hx hZ104 hown104 (own_hw hw 294 rfl) (own_hw hw 295 rfl) (own_hw hw 5 rfl) (own_hw hw 296 rfl) (rm_att l Z a0 hw [] G1 G3 az_104 tz_104 kz_104 ((own_show (own_mi vn fn d))) 1 vn ((own_dl vn).length) ((fn * 10 ^ (6 - d))) T120.heap n0 f126 SG1 PG1 SG3 rG3 f122 f123 f124 f125 (own_Ash _ _) hsu (by decide) (own_exE hd6 hf) hv9 hfz hn9) (by decide) e120 (Ls := #[.val (.long xa), .second, .val (.int xb), .val (.int xc), .val (.int (Int32.ofNat d)), .val (.long (Int64.ofNat vn)), .second, .val (.long (Int64.ofNat fn)), .second, .val (.ref az_101), .val (.ref az_104), .val (.long (Int64.ofNat (fn * 10 ^ (6 - d)))), .second, .val (.int (Int32.ofNat (own_dl vn).length)), .val (.int (Int32.ofNat (own_dec (fn * 10 ^ (6 - d))))), .val (.int (1 : Int32))]) [(.ref az_104), (.int (1 : Int32)), (.long (Int64.ofNat vn)), (.int (Int32.ofNat (own_dl vn).length)), (.long (Int64.ofNat (fn * 10 ^ (6 - d))))] [(.int (1 : Int32))] rfl (by rw [hml]; rfl) (lenOf own_pd39 rfl) (hb hby at_146) (by decide) 1 rfl (by decide) (by decide) (by decide)
  obtain ⟨rfl, Nq121, K121⟩ := hQ121
  have N121 := Fr.app N120 Nq121
  refine st121 _ ?_
  have e121 : T121.heap = T121.heap := rfl
  refine s_iand X121 hx (hb hby at_149) ?_
  show own_Ok p e below _ (T121.setTop (mkF m 150 #[.val (.long xa), .second, .val (.int xb), .val (.int xc), .val (.int (Int32.ofNat d)), .val (.long (Int64.ofNat vn)), .second, .val (.long (Int64.ofNat fn)), .second, .val (.ref az_101), .val (.ref az_104), .val (.long (Int64.ofNat (fn * 10 ^ (6 - d)))), .second, .val (.int (Int32.ofNat (own_dl vn).length)), .val (.int (Int32.ofNat (own_dec (fn * 10 ^ (6 - d))))), .val (.int (1 : Int32))] [(.int (1 : Int32))]))
  refine s_istore X121 hx (hb hby at_150) #[.val (.long xa), .second, .val (.int xb), .val (.int xc), .val (.int (Int32.ofNat d)), .val (.long (Int64.ofNat vn)), .second, .val (.long (Int64.ofNat fn)), .second, .val (.ref az_101), .val (.ref az_104), .val (.long (Int64.ofNat (fn * 10 ^ (6 - d)))), .second, .val (.int (Int32.ofNat (own_dl vn).length)), .val (.int (Int32.ofNat (own_dec (fn * 10 ^ (6 - d))))), .val (.int (1 : Int32))] rfl ?_
  refine s_iload X121 hx (hb hby at_152) rfl ?_
  refine s_aload X121 hx (hb hby at_154) rfl rfl ?_
  refine s_iconst X121 hx (2 : Int32) (hb hby at_156) rfl ?_
  refine s_lload X121 hx (hb hby at_157) rfl ?_
  refine s_iload X121 hx (hb hby at_159) rfl ?_
  refine s_lload X121 hx (hb hby at_161) rfl ?_
  have f128 := f122.keep K121
  have f129 := f123.keep K121 nin0
  have f130 := f124.keep K121 nin0
  have f131 := f125.keep K121 nin0
  have f132 := f126.keep K121 all0
  obtain ⟨_, T127, Lc127, X127, hQ127, st127⟩ := own_callS X121 hx hZ104 hown104 (own_hw hw 294 rfl) (own_hw hw 295 rfl) (own_hw hw 5 rfl) (own_hw hw 296 rfl) (rm_att l Z a0 hw [] G1 G3 az_104 tz_104 kz_104 ((own_show (own_mi vn fn d))) 2 vn ((own_dl vn).length) ((fn * 10 ^ (6 - d))) T121.heap n0 f132 SG1 PG1 SG3 rG3 f128 f129 f130 f131 (own_Ash _ _) hsu (by decide) (own_exE hd6 hf) hv9 hfz hn9) (by decide) e121 (Ls := #[.val (.long xa), .second, .val (.int xb), .val (.int xc), .val (.int (Int32.ofNat d)), .val (.long (Int64.ofNat vn)), .second, .val (.long (Int64.ofNat fn)), .second, .val (.ref az_101), .val (.ref az_104), .val (.long (Int64.ofNat (fn * 10 ^ (6 - d)))), .second, .val (.int (Int32.ofNat (own_dl vn).length)), .val (.int (Int32.ofNat (own_dec (fn * 10 ^ (6 - d))))), .val (.int (1 : Int32))]) [(.ref az_104), (.int (2 : Int32)), (.long (Int64.ofNat vn)), (.int (Int32.ofNat (own_dl vn).length)), (.long (Int64.ofNat (fn * 10 ^ (6 - d))))] [(.int (1 : Int32))] rfl (by rw [hml]; rfl) (lenOf own_pd39 rfl) (hb hby at_163) (by decide) 1 rfl (by decide) (by decide) (by decide)
  obtain ⟨rfl, Nq127, K127⟩ := hQ127
  have N127 := Fr.app N121 Nq127
  refine st127 _ ?_
  have e127 : T127.heap = T127.heap := rfl
  refine s_iand X127 hx (hb hby at_166) ?_
  show own_Ok p e below _ (T127.setTop (mkF m 167 #[.val (.long xa), .second, .val (.int xb), .val (.int xc), .val (.int (Int32.ofNat d)), .val (.long (Int64.ofNat vn)), .second, .val (.long (Int64.ofNat fn)), .second, .val (.ref az_101), .val (.ref az_104), .val (.long (Int64.ofNat (fn * 10 ^ (6 - d)))), .second, .val (.int (Int32.ofNat (own_dl vn).length)), .val (.int (Int32.ofNat (own_dec (fn * 10 ^ (6 - d))))), .val (.int (1 : Int32))] [(.int (1 : Int32))]))
  refine s_istore X127 hx (hb hby at_167) #[.val (.long xa), .second, .val (.int xb), .val (.int xc), .val (.int (Int32.ofNat d)), .val (.long (Int64.ofNat vn)), .second, .val (.long (Int64.ofNat fn)), .second, .val (.ref az_101), .val (.ref az_104), .val (.long (Int64.ofNat (fn * 10 ^ (6 - d)))), .second, .val (.int (Int32.ofNat (own_dl vn).length)), .val (.int (Int32.ofNat (own_dec (fn * 10 ^ (6 - d))))), .val (.int (1 : Int32))] rfl ?_
  refine s_iload X127 hx (hb hby at_169) rfl ?_
  refine s_aload X127 hx (hb hby at_171) rfl rfl ?_
  refine s_iconst X127 hx (3 : Int32) (hb hby at_173) rfl ?_
  refine s_lload X127 hx (hb hby at_174) rfl ?_
  refine s_iload X127 hx (hb hby at_176) rfl ?_
  refine s_lload X127 hx (hb hby at_178) rfl ?_
  have f134 := f128.keep K127
  have f135 := f129.keep K127 nin0
  have f136 := f130.keep K127 nin0
  have f137 := f131.keep K127 nin0
  have f138 := f132.keep K127 all0
  obtain ⟨_, T133, Lc133, X133, hQ133, st133⟩ := own_callS X127 hx hZ104 hown104 (own_hw hw 294 rfl) (own_hw hw 295 rfl) (own_hw hw 5 rfl) (own_hw hw 296 rfl) (rm_att l Z a0 hw [] G1 G3 az_104 tz_104 kz_104 ((own_show (own_mi vn fn d))) 3 vn ((own_dl vn).length) ((fn * 10 ^ (6 - d))) T127.heap n0 f138 SG1 PG1 SG3 rG3 f134 f135 f136 f137 (own_Ash _ _) hsu (by decide) (own_exE hd6 hf) hv9 hfz hn9) (by decide) e127 (Ls := #[.val (.long xa), .second, .val (.int xb), .val (.int xc), .val (.int (Int32.ofNat d)), .val (.long (Int64.ofNat vn)), .second, .val (.long (Int64.ofNat fn)), .second, .val (.ref az_101), .val (.ref az_104), .val (.long (Int64.ofNat (fn * 10 ^ (6 - d)))), .second, .val (.int (Int32.ofNat (own_dl vn).length)), .val (.int (Int32.ofNat (own_dec (fn * 10 ^ (6 - d))))), .val (.int (1 : Int32))]) [(.ref az_104), (.int (3 : Int32)), (.long (Int64.ofNat vn)), (.int (Int32.ofNat (own_dl vn).length)), (.long (Int64.ofNat (fn * 10 ^ (6 - d))))] [(.int (1 : Int32))] rfl (by rw [hml]; rfl) (lenOf own_pd39 rfl) (hb hby at_180) (by decide) 1 rfl (by decide) (by decide) (by decide)
  obtain ⟨rfl, Nq133, K133⟩ := hQ133
  have N133 := Fr.app N127 Nq133
  refine st133 _ ?_
  have e133 : T133.heap = T133.heap := rfl
  refine s_iand X133 hx (hb hby at_183) ?_
  show own_Ok p e below _ (T133.setTop (mkF m 184 #[.val (.long xa), .second, .val (.int xb), .val (.int xc), .val (.int (Int32.ofNat d)), .val (.long (Int64.ofNat vn)), .second, .val (.long (Int64.ofNat fn)), .second, .val (.ref az_101), .val (.ref az_104), .val (.long (Int64.ofNat (fn * 10 ^ (6 - d)))), .second, .val (.int (Int32.ofNat (own_dl vn).length)), .val (.int (Int32.ofNat (own_dec (fn * 10 ^ (6 - d))))), .val (.int (1 : Int32))] [(.int (1 : Int32))]))
  refine s_istore X133 hx (hb hby at_184) #[.val (.long xa), .second, .val (.int xb), .val (.int xc), .val (.int (Int32.ofNat d)), .val (.long (Int64.ofNat vn)), .second, .val (.long (Int64.ofNat fn)), .second, .val (.ref az_101), .val (.ref az_104), .val (.long (Int64.ofNat (fn * 10 ^ (6 - d)))), .second, .val (.int (Int32.ofNat (own_dl vn).length)), .val (.int (Int32.ofNat (own_dec (fn * 10 ^ (6 - d))))), .val (.int (1 : Int32))] rfl ?_
  refine s_iload X133 hx (hb hby at_186) rfl ?_
  refine s_aload X133 hx (hb hby at_188) rfl rfl ?_
  refine s_iconst X133 hx (4 : Int32) (hb hby at_190) rfl ?_
  refine s_lload X133 hx (hb hby at_191) rfl ?_
  refine s_iload X133 hx (hb hby at_193) rfl ?_
  refine s_lload X133 hx (hb hby at_195) rfl ?_
  have f140 := f134.keep K133
  have f141 := f135.keep K133 nin0
  have f142 := f136.keep K133 nin0
  have f143 := f137.keep K133 nin0
  have f144 := f138.keep K133 all0
  obtain ⟨_, T139, Lc139, X139, hQ139, st139⟩ := own_callS X133 hx hZ104 hown104 (own_hw hw 294 rfl) (own_hw hw 295 rfl) (own_hw hw 5 rfl) (own_hw hw 296 rfl) (rm_att l Z a0 hw [] G1 G3 az_104 tz_104 kz_104 ((own_show (own_mi vn fn d))) 4 vn ((own_dl vn).length) ((fn * 10 ^ (6 - d))) T133.heap n0 f144 SG1 PG1 SG3 rG3 f140 f141 f142 f143 (own_Ash _ _) hsu (by decide) (own_exE hd6 hf) hv9 hfz hn9) (by decide) e133 (Ls := #[.val (.long xa), .second, .val (.int xb), .val (.int xc), .val (.int (Int32.ofNat d)), .val (.long (Int64.ofNat vn)), .second, .val (.long (Int64.ofNat fn)), .second, .val (.ref az_101), .val (.ref az_104), .val (.long (Int64.ofNat (fn * 10 ^ (6 - d)))), .second, .val (.int (Int32.ofNat (own_dl vn).length)), .val (.int (Int32.ofNat (own_dec (fn * 10 ^ (6 - d))))), .val (.int (1 : Int32))]) [(.ref az_104), (.int (4 : Int32)), (.long (Int64.ofNat vn)), (.int (Int32.ofNat (own_dl vn).length)), (.long (Int64.ofNat (fn * 10 ^ (6 - d))))] [(.int (1 : Int32))] rfl (by rw [hml]; rfl) (lenOf own_pd39 rfl) (hb hby at_197) (by decide) 1 rfl (by decide) (by decide) (by decide)
  obtain ⟨rfl, Nq139, K139⟩ := hQ139
  have N139 := Fr.app N133 Nq139
  refine st139 _ ?_
  have e139 : T139.heap = T139.heap := rfl
  refine s_iand X139 hx (hb hby at_200) ?_
  show own_Ok p e below _ (T139.setTop (mkF m 201 #[.val (.long xa), .second, .val (.int xb), .val (.int xc), .val (.int (Int32.ofNat d)), .val (.long (Int64.ofNat vn)), .second, .val (.long (Int64.ofNat fn)), .second, .val (.ref az_101), .val (.ref az_104), .val (.long (Int64.ofNat (fn * 10 ^ (6 - d)))), .second, .val (.int (Int32.ofNat (own_dl vn).length)), .val (.int (Int32.ofNat (own_dec (fn * 10 ^ (6 - d))))), .val (.int (1 : Int32))] [(.int (1 : Int32))]))
  refine s_istore X139 hx (hb hby at_201) #[.val (.long xa), .second, .val (.int xb), .val (.int xc), .val (.int (Int32.ofNat d)), .val (.long (Int64.ofNat vn)), .second, .val (.long (Int64.ofNat fn)), .second, .val (.ref az_101), .val (.ref az_104), .val (.long (Int64.ofNat (fn * 10 ^ (6 - d)))), .second, .val (.int (Int32.ofNat (own_dl vn).length)), .val (.int (Int32.ofNat (own_dec (fn * 10 ^ (6 - d))))), .val (.int (1 : Int32))] rfl ?_
  refine s_iload X139 hx (hb hby at_203) rfl ?_
  refine s_aload X139 hx (hb hby at_205) rfl rfl ?_
  refine s_iconst X139 hx (5 : Int32) (hb hby at_207) rfl ?_
  refine s_lload X139 hx (hb hby at_208) rfl ?_
  refine s_iload X139 hx (hb hby at_210) rfl ?_
  refine s_lload X139 hx (hb hby at_212) rfl ?_
  have f146 := f140.keep K139
  have f147 := f141.keep K139 nin0
  have f148 := f142.keep K139 nin0
  have f149 := f143.keep K139 nin0
  have f150 := f144.keep K139 all0
  obtain ⟨_, T145, Lc145, X145, hQ145, st145⟩ := own_callS X139 hx hZ104 hown104 (own_hw hw 294 rfl) (own_hw hw 295 rfl) (own_hw hw 5 rfl) (own_hw hw 296 rfl) (rm_att l Z a0 hw [] G1 G3 az_104 tz_104 kz_104 ((own_show (own_mi vn fn d))) 5 vn ((own_dl vn).length) ((fn * 10 ^ (6 - d))) T139.heap n0 f150 SG1 PG1 SG3 rG3 f146 f147 f148 f149 (own_Ash _ _) hsu (by decide) (own_exE hd6 hf) hv9 hfz hn9) (by decide) e139 (Ls := #[.val (.long xa), .second, .val (.int xb), .val (.int xc), .val (.int (Int32.ofNat d)), .val (.long (Int64.ofNat vn)), .second, .val (.long (Int64.ofNat fn)), .second, .val (.ref az_101), .val (.ref az_104), .val (.long (Int64.ofNat (fn * 10 ^ (6 - d)))), .second, .val (.int (Int32.ofNat (own_dl vn).length)), .val (.int (Int32.ofNat (own_dec (fn * 10 ^ (6 - d))))), .val (.int (1 : Int32))]) [(.ref az_104), (.int (5 : Int32)), (.long (Int64.ofNat vn)), (.int (Int32.ofNat (own_dl vn).length)), (.long (Int64.ofNat (fn * 10 ^ (6 - d))))] [(.int (1 : Int32))] rfl (by rw [hml]; rfl) (lenOf own_pd39 rfl) (hb hby at_214) (by decide) 1 rfl (by decide) (by decide) (by decide)
  obtain ⟨rfl, Nq145, K145⟩ := hQ145
  have N145 := Fr.app N139 Nq145
  refine st145 _ ?_
  have e145 : T145.heap = T145.heap := rfl
  refine s_iand X145 hx (hb hby at_217) ?_
  show own_Ok p e below _ (T145.setTop (mkF m 218 #[.val (.long xa), .second, .val (.int xb), .val (.int xc), .val (.int (Int32.ofNat d)), .val (.long (Int64.ofNat vn)), .second, .val (.long (Int64.ofNat fn)), .second, .val (.ref az_101), .val (.ref az_104), .val (.long (Int64.ofNat (fn * 10 ^ (6 - d)))), .second, .val (.int (Int32.ofNat (own_dl vn).length)), .val (.int (Int32.ofNat (own_dec (fn * 10 ^ (6 - d))))), .val (.int (1 : Int32))] [(.int (1 : Int32))]))
  refine s_istore X145 hx (hb hby at_218) #[.val (.long xa), .second, .val (.int xb), .val (.int xc), .val (.int (Int32.ofNat d)), .val (.long (Int64.ofNat vn)), .second, .val (.long (Int64.ofNat fn)), .second, .val (.ref az_101), .val (.ref az_104), .val (.long (Int64.ofNat (fn * 10 ^ (6 - d)))), .second, .val (.int (Int32.ofNat (own_dl vn).length)), .val (.int (Int32.ofNat (own_dec (fn * 10 ^ (6 - d))))), .val (.int (1 : Int32))] rfl ?_
  refine s_iload X145 hx (hb hby at_220) rfl ?_
  refine s_aload X145 hx (hb hby at_222) rfl rfl ?_
  refine s_bipush X145 hx (6 : Int32) (hb hby at_224) rfl ?_
  refine s_lload X145 hx (hb hby at_226) rfl ?_
  refine s_iload X145 hx (hb hby at_228) rfl ?_
  refine s_lload X145 hx (hb hby at_230) rfl ?_
  have f152 := f146.keep K145
  have f153 := f147.keep K145 nin0
  have f154 := f148.keep K145 nin0
  have f155 := f149.keep K145 nin0
  have f156 := f150.keep K145 all0
  obtain ⟨_, T151, Lc151, X151, hQ151, st151⟩ := own_callS X145 hx hZ104 hown104 (own_hw hw 294 rfl) (own_hw hw 295 rfl) (own_hw hw 5 rfl) (own_hw hw 296 rfl) (rm_att l Z a0 hw [] G1 G3 az_104 tz_104 kz_104 ((own_show (own_mi vn fn d))) 6 vn ((own_dl vn).length) ((fn * 10 ^ (6 - d))) T145.heap n0 f156 SG1 PG1 SG3 rG3 f152 f153 f154 f155 (own_Ash _ _) hsu (by decide) (own_exE hd6 hf) hv9 hfz hn9) (by decide) e145 (Ls := #[.val (.long xa), .second, .val (.int xb), .val (.int xc), .val (.int (Int32.ofNat d)), .val (.long (Int64.ofNat vn)), .second, .val (.long (Int64.ofNat fn)), .second, .val (.ref az_101), .val (.ref az_104), .val (.long (Int64.ofNat (fn * 10 ^ (6 - d)))), .second, .val (.int (Int32.ofNat (own_dl vn).length)), .val (.int (Int32.ofNat (own_dec (fn * 10 ^ (6 - d))))), .val (.int (1 : Int32))]) [(.ref az_104), (.int (6 : Int32)), (.long (Int64.ofNat vn)), (.int (Int32.ofNat (own_dl vn).length)), (.long (Int64.ofNat (fn * 10 ^ (6 - d))))] [(.int (1 : Int32))] rfl (by rw [hml]; rfl) (lenOf own_pd39 rfl) (hb hby at_232) (by decide) 1 rfl (by decide) (by decide) (by decide)
  obtain ⟨rfl, Nq151, K151⟩ := hQ151
  have N151 := Fr.app N145 Nq151
  refine st151 _ ?_
  have e151 : T151.heap = T151.heap := rfl
  refine s_iand X151 hx (hb hby at_235) ?_
  show own_Ok p e below _ (T151.setTop (mkF m 236 #[.val (.long xa), .second, .val (.int xb), .val (.int xc), .val (.int (Int32.ofNat d)), .val (.long (Int64.ofNat vn)), .second, .val (.long (Int64.ofNat fn)), .second, .val (.ref az_101), .val (.ref az_104), .val (.long (Int64.ofNat (fn * 10 ^ (6 - d)))), .second, .val (.int (Int32.ofNat (own_dl vn).length)), .val (.int (Int32.ofNat (own_dec (fn * 10 ^ (6 - d))))), .val (.int (1 : Int32))] [(.int (1 : Int32))]))
  refine s_istore X151 hx (hb hby at_236) #[.val (.long xa), .second, .val (.int xb), .val (.int xc), .val (.int (Int32.ofNat d)), .val (.long (Int64.ofNat vn)), .second, .val (.long (Int64.ofNat fn)), .second, .val (.ref az_101), .val (.ref az_104), .val (.long (Int64.ofNat (fn * 10 ^ (6 - d)))), .second, .val (.int (Int32.ofNat (own_dl vn).length)), .val (.int (Int32.ofNat (own_dec (fn * 10 ^ (6 - d))))), .val (.int (1 : Int32))] rfl ?_
  refine s_iload X151 hx (hb hby at_238) rfl ?_
  refine s_aload X151 hx (hb hby at_240) rfl rfl ?_
  refine s_bipush X151 hx (7 : Int32) (hb hby at_242) rfl ?_
  refine s_lload X151 hx (hb hby at_244) rfl ?_
  refine s_iload X151 hx (hb hby at_246) rfl ?_
  refine s_lload X151 hx (hb hby at_248) rfl ?_
  have f158 := f152.keep K151
  have f159 := f153.keep K151 nin0
  have f160 := f154.keep K151 nin0
  have f161 := f155.keep K151 nin0
  have f162 := f156.keep K151 all0
  obtain ⟨_, T157, Lc157, X157, hQ157, st157⟩ := own_callS X151 hx hZ104 hown104 (own_hw hw 294 rfl) (own_hw hw 295 rfl) (own_hw hw 5 rfl) (own_hw hw 296 rfl) (rm_att l Z a0 hw [] G1 G3 az_104 tz_104 kz_104 ((own_show (own_mi vn fn d))) 7 vn ((own_dl vn).length) ((fn * 10 ^ (6 - d))) T151.heap n0 f162 SG1 PG1 SG3 rG3 f158 f159 f160 f161 (own_Ash _ _) hsu (by decide) (own_exE hd6 hf) hv9 hfz hn9) (by decide) e151 (Ls := #[.val (.long xa), .second, .val (.int xb), .val (.int xc), .val (.int (Int32.ofNat d)), .val (.long (Int64.ofNat vn)), .second, .val (.long (Int64.ofNat fn)), .second, .val (.ref az_101), .val (.ref az_104), .val (.long (Int64.ofNat (fn * 10 ^ (6 - d)))), .second, .val (.int (Int32.ofNat (own_dl vn).length)), .val (.int (Int32.ofNat (own_dec (fn * 10 ^ (6 - d))))), .val (.int (1 : Int32))]) [(.ref az_104), (.int (7 : Int32)), (.long (Int64.ofNat vn)), (.int (Int32.ofNat (own_dl vn).length)), (.long (Int64.ofNat (fn * 10 ^ (6 - d))))] [(.int (1 : Int32))] rfl (by rw [hml]; rfl) (lenOf own_pd39 rfl) (hb hby at_250) (by decide) 1 rfl (by decide) (by decide) (by decide)
  obtain ⟨rfl, Nq157, K157⟩ := hQ157
  have N157 := Fr.app N151 Nq157
  refine st157 _ ?_
  have e157 : T157.heap = T157.heap := rfl
  refine s_iand X157 hx (hb hby at_253) ?_
  show own_Ok p e below _ (T157.setTop (mkF m 254 #[.val (.long xa), .second, .val (.int xb), .val (.int xc), .val (.int (Int32.ofNat d)), .val (.long (Int64.ofNat vn)), .second, .val (.long (Int64.ofNat fn)), .second, .val (.ref az_101), .val (.ref az_104), .val (.long (Int64.ofNat (fn * 10 ^ (6 - d)))), .second, .val (.int (Int32.ofNat (own_dl vn).length)), .val (.int (Int32.ofNat (own_dec (fn * 10 ^ (6 - d))))), .val (.int (1 : Int32))] [(.int (1 : Int32))]))
  refine s_istore X157 hx (hb hby at_254) #[.val (.long xa), .second, .val (.int xb), .val (.int xc), .val (.int (Int32.ofNat d)), .val (.long (Int64.ofNat vn)), .second, .val (.long (Int64.ofNat fn)), .second, .val (.ref az_101), .val (.ref az_104), .val (.long (Int64.ofNat (fn * 10 ^ (6 - d)))), .second, .val (.int (Int32.ofNat (own_dl vn).length)), .val (.int (Int32.ofNat (own_dec (fn * 10 ^ (6 - d))))), .val (.int (1 : Int32))] rfl ?_
  refine s_iload X157 hx (hb hby at_256) rfl ?_
  refine s_aload X157 hx (hb hby at_258) rfl rfl ?_
  refine s_bipush X157 hx (8 : Int32) (hb hby at_260) rfl ?_
  refine s_lload X157 hx (hb hby at_262) rfl ?_
  refine s_iload X157 hx (hb hby at_264) rfl ?_
  refine s_lload X157 hx (hb hby at_266) rfl ?_
  have f164 := f158.keep K157
  have f165 := f159.keep K157 nin0
  have f166 := f160.keep K157 nin0
  have f167 := f161.keep K157 nin0
  have f168 := f162.keep K157 all0
  obtain ⟨_, T163, Lc163, X163, hQ163, st163⟩ := own_callS X157 hx hZ104 hown104 (own_hw hw 294 rfl) (own_hw hw 295 rfl) (own_hw hw 5 rfl) (own_hw hw 296 rfl) (rm_att l Z a0 hw [] G1 G3 az_104 tz_104 kz_104 ((own_show (own_mi vn fn d))) 8 vn ((own_dl vn).length) ((fn * 10 ^ (6 - d))) T157.heap n0 f168 SG1 PG1 SG3 rG3 f164 f165 f166 f167 (own_Ash _ _) hsu (by decide) (own_exE hd6 hf) hv9 hfz hn9) (by decide) e157 (Ls := #[.val (.long xa), .second, .val (.int xb), .val (.int xc), .val (.int (Int32.ofNat d)), .val (.long (Int64.ofNat vn)), .second, .val (.long (Int64.ofNat fn)), .second, .val (.ref az_101), .val (.ref az_104), .val (.long (Int64.ofNat (fn * 10 ^ (6 - d)))), .second, .val (.int (Int32.ofNat (own_dl vn).length)), .val (.int (Int32.ofNat (own_dec (fn * 10 ^ (6 - d))))), .val (.int (1 : Int32))]) [(.ref az_104), (.int (8 : Int32)), (.long (Int64.ofNat vn)), (.int (Int32.ofNat (own_dl vn).length)), (.long (Int64.ofNat (fn * 10 ^ (6 - d))))] [(.int (1 : Int32))] rfl (by rw [hml]; rfl) (lenOf own_pd39 rfl) (hb hby at_268) (by decide) 1 rfl (by decide) (by decide) (by decide)
  obtain ⟨rfl, Nq163, K163⟩ := hQ163
  have N163 := Fr.app N157 Nq163
  refine st163 _ ?_
  have e163 : T163.heap = T163.heap := rfl
  refine s_iand X163 hx (hb hby at_271) ?_
  show own_Ok p e below _ (T163.setTop (mkF m 272 #[.val (.long xa), .second, .val (.int xb), .val (.int xc), .val (.int (Int32.ofNat d)), .val (.long (Int64.ofNat vn)), .second, .val (.long (Int64.ofNat fn)), .second, .val (.ref az_101), .val (.ref az_104), .val (.long (Int64.ofNat (fn * 10 ^ (6 - d)))), .second, .val (.int (Int32.ofNat (own_dl vn).length)), .val (.int (Int32.ofNat (own_dec (fn * 10 ^ (6 - d))))), .val (.int (1 : Int32))] [(.int (1 : Int32))]))
  refine s_istore X163 hx (hb hby at_272) #[.val (.long xa), .second, .val (.int xb), .val (.int xc), .val (.int (Int32.ofNat d)), .val (.long (Int64.ofNat vn)), .second, .val (.long (Int64.ofNat fn)), .second, .val (.ref az_101), .val (.ref az_104), .val (.long (Int64.ofNat (fn * 10 ^ (6 - d)))), .second, .val (.int (Int32.ofNat (own_dl vn).length)), .val (.int (Int32.ofNat (own_dec (fn * 10 ^ (6 - d))))), .val (.int (1 : Int32))] rfl ?_
  refine s_iload X163 hx (hb hby at_274) rfl ?_
  refine s_aload X163 hx (hb hby at_276) rfl rfl ?_
  refine s_bipush X163 hx (9 : Int32) (hb hby at_278) rfl ?_
  refine s_lload X163 hx (hb hby at_280) rfl ?_
  refine s_iload X163 hx (hb hby at_282) rfl ?_
  refine s_lload X163 hx (hb hby at_284) rfl ?_
  have f170 := f164.keep K163
  have f171 := f165.keep K163 nin0
  have f172 := f166.keep K163 nin0
  have f173 := f167.keep K163 nin0
  have f174 := f168.keep K163 all0
  obtain ⟨_, T169, Lc169, X169, hQ169, st169⟩ := own_callS X163 hx hZ104 hown104 (own_hw hw 294 rfl) (own_hw hw 295 rfl) (own_hw hw 5 rfl) (own_hw hw 296 rfl) (rm_att l Z a0 hw [] G1 G3 az_104 tz_104 kz_104 ((own_show (own_mi vn fn d))) 9 vn ((own_dl vn).length) ((fn * 10 ^ (6 - d))) T163.heap n0 f174 SG1 PG1 SG3 rG3 f170 f171 f172 f173 (own_Ash _ _) hsu (by decide) (own_exE hd6 hf) hv9 hfz hn9) (by decide) e163 (Ls := #[.val (.long xa), .second, .val (.int xb), .val (.int xc), .val (.int (Int32.ofNat d)), .val (.long (Int64.ofNat vn)), .second, .val (.long (Int64.ofNat fn)), .second, .val (.ref az_101), .val (.ref az_104), .val (.long (Int64.ofNat (fn * 10 ^ (6 - d)))), .second, .val (.int (Int32.ofNat (own_dl vn).length)), .val (.int (Int32.ofNat (own_dec (fn * 10 ^ (6 - d))))), .val (.int (1 : Int32))]) [(.ref az_104), (.int (9 : Int32)), (.long (Int64.ofNat vn)), (.int (Int32.ofNat (own_dl vn).length)), (.long (Int64.ofNat (fn * 10 ^ (6 - d))))] [(.int (1 : Int32))] rfl (by rw [hml]; rfl) (lenOf own_pd39 rfl) (hb hby at_286) (by decide) 1 rfl (by decide) (by decide) (by decide)
  obtain ⟨rfl, Nq169, K169⟩ := hQ169
  have N169 := Fr.app N163 Nq169
  refine st169 _ ?_
  have e169 : T169.heap = T169.heap := rfl
  refine s_iand X169 hx (hb hby at_289) ?_
  show own_Ok p e below _ (T169.setTop (mkF m 290 #[.val (.long xa), .second, .val (.int xb), .val (.int xc), .val (.int (Int32.ofNat d)), .val (.long (Int64.ofNat vn)), .second, .val (.long (Int64.ofNat fn)), .second, .val (.ref az_101), .val (.ref az_104), .val (.long (Int64.ofNat (fn * 10 ^ (6 - d)))), .second, .val (.int (Int32.ofNat (own_dl vn).length)), .val (.int (Int32.ofNat (own_dec (fn * 10 ^ (6 - d))))), .val (.int (1 : Int32))] [(.int (1 : Int32))]))
  refine s_istore X169 hx (hb hby at_290) #[.val (.long xa), .second, .val (.int xb), .val (.int xc), .val (.int (Int32.ofNat d)), .val (.long (Int64.ofNat vn)), .second, .val (.long (Int64.ofNat fn)), .second, .val (.ref az_101), .val (.ref az_104), .val (.long (Int64.ofNat (fn * 10 ^ (6 - d)))), .second, .val (.int (Int32.ofNat (own_dl vn).length)), .val (.int (Int32.ofNat (own_dec (fn * 10 ^ (6 - d))))), .val (.int (1 : Int32))] rfl ?_
  refine s_iload X169 hx (hb hby at_292) rfl ?_
  refine s_aload X169 hx (hb hby at_294) rfl rfl ?_
  refine s_bipush X169 hx (10 : Int32) (hb hby at_296) rfl ?_
  refine s_lload X169 hx (hb hby at_298) rfl ?_
  refine s_iload X169 hx (hb hby at_300) rfl ?_
  refine s_lload X169 hx (hb hby at_302) rfl ?_
  have f176 := f170.keep K169
  have f177 := f171.keep K169 nin0
  have f178 := f172.keep K169 nin0
  have f179 := f173.keep K169 nin0
  have f180 := f174.keep K169 all0
  obtain ⟨_, T175, Lc175, X175, hQ175, st175⟩ := own_callS X169 hx hZ104 hown104 (own_hw hw 294 rfl) (own_hw hw 295 rfl) (own_hw hw 5 rfl) (own_hw hw 296 rfl) (rm_att l Z a0 hw [] G1 G3 az_104 tz_104 kz_104 ((own_show (own_mi vn fn d))) 10 vn ((own_dl vn).length) ((fn * 10 ^ (6 - d))) T169.heap n0 f180 SG1 PG1 SG3 rG3 f176 f177 f178 f179 (own_Ash _ _) hsu (by decide) (own_exE hd6 hf) hv9 hfz hn9) (by decide) e169 (Ls := #[.val (.long xa), .second, .val (.int xb), .val (.int xc), .val (.int (Int32.ofNat d)), .val (.long (Int64.ofNat vn)), .second, .val (.long (Int64.ofNat fn)), .second, .val (.ref az_101), .val (.ref az_104), .val (.long (Int64.ofNat (fn * 10 ^ (6 - d)))), .second, .val (.int (Int32.ofNat (own_dl vn).length)), .val (.int (Int32.ofNat (own_dec (fn * 10 ^ (6 - d))))), .val (.int (1 : Int32))]) [(.ref az_104), (.int (10 : Int32)), (.long (Int64.ofNat vn)), (.int (Int32.ofNat (own_dl vn).length)), (.long (Int64.ofNat (fn * 10 ^ (6 - d))))] [(.int (1 : Int32))] rfl (by rw [hml]; rfl) (lenOf own_pd39 rfl) (hb hby at_304) (by decide) 1 rfl (by decide) (by decide) (by decide)
  obtain ⟨rfl, Nq175, K175⟩ := hQ175
  have N175 := Fr.app N169 Nq175
  refine st175 _ ?_
  have e175 : T175.heap = T175.heap := rfl
  refine s_iand X175 hx (hb hby at_307) ?_
  show own_Ok p e below _ (T175.setTop (mkF m 308 #[.val (.long xa), .second, .val (.int xb), .val (.int xc), .val (.int (Int32.ofNat d)), .val (.long (Int64.ofNat vn)), .second, .val (.long (Int64.ofNat fn)), .second, .val (.ref az_101), .val (.ref az_104), .val (.long (Int64.ofNat (fn * 10 ^ (6 - d)))), .second, .val (.int (Int32.ofNat (own_dl vn).length)), .val (.int (Int32.ofNat (own_dec (fn * 10 ^ (6 - d))))), .val (.int (1 : Int32))] [(.int (1 : Int32))]))
  refine s_istore X175 hx (hb hby at_308) #[.val (.long xa), .second, .val (.int xb), .val (.int xc), .val (.int (Int32.ofNat d)), .val (.long (Int64.ofNat vn)), .second, .val (.long (Int64.ofNat fn)), .second, .val (.ref az_101), .val (.ref az_104), .val (.long (Int64.ofNat (fn * 10 ^ (6 - d)))), .second, .val (.int (Int32.ofNat (own_dl vn).length)), .val (.int (Int32.ofNat (own_dec (fn * 10 ^ (6 - d))))), .val (.int (1 : Int32))] rfl ?_
  refine s_iload X175 hx (hb hby at_310) rfl ?_
  refine s_aload X175 hx (hb hby at_312) rfl rfl ?_
  refine s_bipush X175 hx (11 : Int32) (hb hby at_314) rfl ?_
  refine s_lload X175 hx (hb hby at_316) rfl ?_
  refine s_iload X175 hx (hb hby at_318) rfl ?_
  refine s_lload X175 hx (hb hby at_320) rfl ?_
  have f182 := f176.keep K175
  have f183 := f177.keep K175 nin0
  have f184 := f178.keep K175 nin0
  have f185 := f179.keep K175 nin0
  have f186 := f180.keep K175 all0
  obtain ⟨_, T181, Lc181, X181, hQ181, st181⟩ := own_callS X175 hx hZ104 hown104 (own_hw hw 294 rfl) (own_hw hw 295 rfl) (own_hw hw 5 rfl) (own_hw hw 296 rfl) (rm_att l Z a0 hw [] G1 G3 az_104 tz_104 kz_104 ((own_show (own_mi vn fn d))) 11 vn ((own_dl vn).length) ((fn * 10 ^ (6 - d))) T175.heap n0 f186 SG1 PG1 SG3 rG3 f182 f183 f184 f185 (own_Ash _ _) hsu (by decide) (own_exE hd6 hf) hv9 hfz hn9) (by decide) e175 (Ls := #[.val (.long xa), .second, .val (.int xb), .val (.int xc), .val (.int (Int32.ofNat d)), .val (.long (Int64.ofNat vn)), .second, .val (.long (Int64.ofNat fn)), .second, .val (.ref az_101), .val (.ref az_104), .val (.long (Int64.ofNat (fn * 10 ^ (6 - d)))), .second, .val (.int (Int32.ofNat (own_dl vn).length)), .val (.int (Int32.ofNat (own_dec (fn * 10 ^ (6 - d))))), .val (.int (1 : Int32))]) [(.ref az_104), (.int (11 : Int32)), (.long (Int64.ofNat vn)), (.int (Int32.ofNat (own_dl vn).length)), (.long (Int64.ofNat (fn * 10 ^ (6 - d))))] [(.int (1 : Int32))] rfl (by rw [hml]; rfl) (lenOf own_pd39 rfl) (hb hby at_322) (by decide) 1 rfl (by decide) (by decide) (by decide)
  obtain ⟨rfl, Nq181, K181⟩ := hQ181
  have N181 := Fr.app N175 Nq181
  refine st181 _ ?_
  have e181 : T181.heap = T181.heap := rfl
  refine s_iand X181 hx (hb hby at_325) ?_
  show own_Ok p e below _ (T181.setTop (mkF m 326 #[.val (.long xa), .second, .val (.int xb), .val (.int xc), .val (.int (Int32.ofNat d)), .val (.long (Int64.ofNat vn)), .second, .val (.long (Int64.ofNat fn)), .second, .val (.ref az_101), .val (.ref az_104), .val (.long (Int64.ofNat (fn * 10 ^ (6 - d)))), .second, .val (.int (Int32.ofNat (own_dl vn).length)), .val (.int (Int32.ofNat (own_dec (fn * 10 ^ (6 - d))))), .val (.int (1 : Int32))] [(.int (1 : Int32))]))
  refine s_istore X181 hx (hb hby at_326) #[.val (.long xa), .second, .val (.int xb), .val (.int xc), .val (.int (Int32.ofNat d)), .val (.long (Int64.ofNat vn)), .second, .val (.long (Int64.ofNat fn)), .second, .val (.ref az_101), .val (.ref az_104), .val (.long (Int64.ofNat (fn * 10 ^ (6 - d)))), .second, .val (.int (Int32.ofNat (own_dl vn).length)), .val (.int (Int32.ofNat (own_dec (fn * 10 ^ (6 - d))))), .val (.int (1 : Int32))] rfl ?_
  refine s_iload X181 hx (hb hby at_328) rfl ?_
  refine s_aload X181 hx (hb hby at_330) rfl rfl ?_
  refine s_bipush X181 hx (12 : Int32) (hb hby at_332) rfl ?_
  refine s_lload X181 hx (hb hby at_334) rfl ?_
  refine s_iload X181 hx (hb hby at_336) rfl ?_
  refine s_lload X181 hx (hb hby at_338) rfl ?_
  have f188 := f182.keep K181
  have f189 := f183.keep K181 nin0
  have f190 := f184.keep K181 nin0
  have f191 := f185.keep K181 nin0
  have f192 := f186.keep K181 all0
  obtain ⟨_, T187, Lc187, X187, hQ187, st187⟩ := own_callS X181 hx hZ104 hown104 (own_hw hw 294 rfl) (own_hw hw 295 rfl) (own_hw hw 5 rfl) (own_hw hw 296 rfl) (rm_att l Z a0 hw [] G1 G3 az_104 tz_104 kz_104 ((own_show (own_mi vn fn d))) 12 vn ((own_dl vn).length) ((fn * 10 ^ (6 - d))) T181.heap n0 f192 SG1 PG1 SG3 rG3 f188 f189 f190 f191 (own_Ash _ _) hsu (by decide) (own_exE hd6 hf) hv9 hfz hn9) (by decide) e181 (Ls := #[.val (.long xa), .second, .val (.int xb), .val (.int xc), .val (.int (Int32.ofNat d)), .val (.long (Int64.ofNat vn)), .second, .val (.long (Int64.ofNat fn)), .second, .val (.ref az_101), .val (.ref az_104), .val (.long (Int64.ofNat (fn * 10 ^ (6 - d)))), .second, .val (.int (Int32.ofNat (own_dl vn).length)), .val (.int (Int32.ofNat (own_dec (fn * 10 ^ (6 - d))))), .val (.int (1 : Int32))]) [(.ref az_104), (.int (12 : Int32)), (.long (Int64.ofNat vn)), (.int (Int32.ofNat (own_dl vn).length)), (.long (Int64.ofNat (fn * 10 ^ (6 - d))))] [(.int (1 : Int32))] rfl (by rw [hml]; rfl) (lenOf own_pd39 rfl) (hb hby at_340) (by decide) 1 rfl (by decide) (by decide) (by decide)
  obtain ⟨rfl, Nq187, K187⟩ := hQ187
  have N187 := Fr.app N181 Nq187
  refine st187 _ ?_
  have e187 : T187.heap = T187.heap := rfl
  refine s_iand X187 hx (hb hby at_343) ?_
  show own_Ok p e below _ (T187.setTop (mkF m 344 #[.val (.long xa), .second, .val (.int xb), .val (.int xc), .val (.int (Int32.ofNat d)), .val (.long (Int64.ofNat vn)), .second, .val (.long (Int64.ofNat fn)), .second, .val (.ref az_101), .val (.ref az_104), .val (.long (Int64.ofNat (fn * 10 ^ (6 - d)))), .second, .val (.int (Int32.ofNat (own_dl vn).length)), .val (.int (Int32.ofNat (own_dec (fn * 10 ^ (6 - d))))), .val (.int (1 : Int32))] [(.int (1 : Int32))]))
  refine s_istore X187 hx (hb hby at_344) #[.val (.long xa), .second, .val (.int xb), .val (.int xc), .val (.int (Int32.ofNat d)), .val (.long (Int64.ofNat vn)), .second, .val (.long (Int64.ofNat fn)), .second, .val (.ref az_101), .val (.ref az_104), .val (.long (Int64.ofNat (fn * 10 ^ (6 - d)))), .second, .val (.int (Int32.ofNat (own_dl vn).length)), .val (.int (Int32.ofNat (own_dec (fn * 10 ^ (6 - d))))), .val (.int (1 : Int32))] rfl ?_
  refine s_iload X187 hx (hb hby at_346) rfl ?_
  refine s_aload X187 hx (hb hby at_348) rfl rfl ?_
  refine s_bipush X187 hx (13 : Int32) (hb hby at_350) rfl ?_
  refine s_lload X187 hx (hb hby at_352) rfl ?_
  refine s_iload X187 hx (hb hby at_354) rfl ?_
  refine s_lload X187 hx (hb hby at_356) rfl ?_
  have f194 := f188.keep K187
  have f195 := f189.keep K187 nin0
  have f196 := f190.keep K187 nin0
  have f197 := f191.keep K187 nin0
  have f198 := f192.keep K187 all0
  obtain ⟨_, T193, Lc193, X193, hQ193, st193⟩ := own_callS X187 hx hZ104 hown104 (own_hw hw 294 rfl) (own_hw hw 295 rfl) (own_hw hw 5 rfl) (own_hw hw 296 rfl) (rm_att l Z a0 hw [] G1 G3 az_104 tz_104 kz_104 ((own_show (own_mi vn fn d))) 13 vn ((own_dl vn).length) ((fn * 10 ^ (6 - d))) T187.heap n0 f198 SG1 PG1 SG3 rG3 f194 f195 f196 f197 (own_Ash _ _) hsu (by decide) (own_exE hd6 hf) hv9 hfz hn9) (by decide) e187 (Ls := #[.val (.long xa), .second, .val (.int xb), .val (.int xc), .val (.int (Int32.ofNat d)), .val (.long (Int64.ofNat vn)), .second, .val (.long (Int64.ofNat fn)), .second, .val (.ref az_101), .val (.ref az_104), .val (.long (Int64.ofNat (fn * 10 ^ (6 - d)))), .second, .val (.int (Int32.ofNat (own_dl vn).length)), .val (.int (Int32.ofNat (own_dec (fn * 10 ^ (6 - d))))), .val (.int (1 : Int32))]) [(.ref az_104), (.int (13 : Int32)), (.long (Int64.ofNat vn)), (.int (Int32.ofNat (own_dl vn).length)), (.long (Int64.ofNat (fn * 10 ^ (6 - d))))] [(.int (1 : Int32))] rfl (by rw [hml]; rfl) (lenOf own_pd39 rfl) (hb hby at_358) (by decide) 1 rfl (by decide) (by decide) (by decide)
  obtain ⟨rfl, Nq193, K193⟩ := hQ193
  have N193 := Fr.app N187 Nq193
  refine st193 _ ?_
  have e193 : T193.heap = T193.heap := rfl
  refine s_iand X193 hx (hb hby at_361) ?_
  show own_Ok p e below _ (T193.setTop (mkF m 362 #[.val (.long xa), .second, .val (.int xb), .val (.int xc), .val (.int (Int32.ofNat d)), .val (.long (Int64.ofNat vn)), .second, .val (.long (Int64.ofNat fn)), .second, .val (.ref az_101), .val (.ref az_104), .val (.long (Int64.ofNat (fn * 10 ^ (6 - d)))), .second, .val (.int (Int32.ofNat (own_dl vn).length)), .val (.int (Int32.ofNat (own_dec (fn * 10 ^ (6 - d))))), .val (.int (1 : Int32))] [(.int (1 : Int32))]))
  refine s_istore X193 hx (hb hby at_362) #[.val (.long xa), .second, .val (.int xb), .val (.int xc), .val (.int (Int32.ofNat d)), .val (.long (Int64.ofNat vn)), .second, .val (.long (Int64.ofNat fn)), .second, .val (.ref az_101), .val (.ref az_104), .val (.long (Int64.ofNat (fn * 10 ^ (6 - d)))), .second, .val (.int (Int32.ofNat (own_dl vn).length)), .val (.int (Int32.ofNat (own_dec (fn * 10 ^ (6 - d))))), .val (.int (1 : Int32))] rfl ?_
  refine s_iload X193 hx (hb hby at_364) rfl ?_
  refine s_aload X193 hx (hb hby at_366) rfl rfl ?_
  refine s_bipush X193 hx (14 : Int32) (hb hby at_368) rfl ?_
  refine s_lload X193 hx (hb hby at_370) rfl ?_
  refine s_iload X193 hx (hb hby at_372) rfl ?_
  refine s_lload X193 hx (hb hby at_374) rfl ?_
  have f200 := f194.keep K193
  have f201 := f195.keep K193 nin0
  have f202 := f196.keep K193 nin0
  have f203 := f197.keep K193 nin0
  have f204 := f198.keep K193 all0
  obtain ⟨_, T199, Lc199, X199, hQ199, st199⟩ := own_callS X193 hx hZ104 hown104 (own_hw hw 294 rfl) (own_hw hw 295 rfl) (own_hw hw 5 rfl) (own_hw hw 296 rfl) (rm_att l Z a0 hw [] G1 G3 az_104 tz_104 kz_104 ((own_show (own_mi vn fn d))) 14 vn ((own_dl vn).length) ((fn * 10 ^ (6 - d))) T193.heap n0 f204 SG1 PG1 SG3 rG3 f200 f201 f202 f203 (own_Ash _ _) hsu (by decide) (own_exE hd6 hf) hv9 hfz hn9) (by decide) e193 (Ls := #[.val (.long xa), .second, .val (.int xb), .val (.int xc), .val (.int (Int32.ofNat d)), .val (.long (Int64.ofNat vn)), .second, .val (.long (Int64.ofNat fn)), .second, .val (.ref az_101), .val (.ref az_104), .val (.long (Int64.ofNat (fn * 10 ^ (6 - d)))), .second, .val (.int (Int32.ofNat (own_dl vn).length)), .val (.int (Int32.ofNat (own_dec (fn * 10 ^ (6 - d))))), .val (.int (1 : Int32))]) [(.ref az_104), (.int (14 : Int32)), (.long (Int64.ofNat vn)), (.int (Int32.ofNat (own_dl vn).length)), (.long (Int64.ofNat (fn * 10 ^ (6 - d))))] [(.int (1 : Int32))] rfl (by rw [hml]; rfl) (lenOf own_pd39 rfl) (hb hby at_376) (by decide) 1 rfl (by decide) (by decide) (by decide)
  obtain ⟨rfl, Nq199, K199⟩ := hQ199
  have N199 := Fr.app N193 Nq199
  refine st199 _ ?_
  have e199 : T199.heap = T199.heap := rfl
  refine s_iand X199 hx (hb hby at_379) ?_
  show own_Ok p e below _ (T199.setTop (mkF m 380 #[.val (.long xa), .second, .val (.int xb), .val (.int xc), .val (.int (Int32.ofNat d)), .val (.long (Int64.ofNat vn)), .second, .val (.long (Int64.ofNat fn)), .second, .val (.ref az_101), .val (.ref az_104), .val (.long (Int64.ofNat (fn * 10 ^ (6 - d)))), .second, .val (.int (Int32.ofNat (own_dl vn).length)), .val (.int (Int32.ofNat (own_dec (fn * 10 ^ (6 - d))))), .val (.int (1 : Int32))] [(.int (1 : Int32))]))
  refine s_istore X199 hx (hb hby at_380) #[.val (.long xa), .second, .val (.int xb), .val (.int xc), .val (.int (Int32.ofNat d)), .val (.long (Int64.ofNat vn)), .second, .val (.long (Int64.ofNat fn)), .second, .val (.ref az_101), .val (.ref az_104), .val (.long (Int64.ofNat (fn * 10 ^ (6 - d)))), .second, .val (.int (Int32.ofNat (own_dl vn).length)), .val (.int (Int32.ofNat (own_dec (fn * 10 ^ (6 - d))))), .val (.int (1 : Int32))] rfl ?_
  refine s_iload X199 hx (hb hby at_382) rfl ?_
  refine s_aload X199 hx (hb hby at_384) rfl rfl ?_
  refine s_bipush X199 hx (15 : Int32) (hb hby at_386) rfl ?_
  refine s_lload X199 hx (hb hby at_388) rfl ?_
  refine s_iload X199 hx (hb hby at_390) rfl ?_
  refine s_lload X199 hx (hb hby at_392) rfl ?_
  have f206 := f200.keep K199
  have f207 := f201.keep K199 nin0
  have f208 := f202.keep K199 nin0
  have f209 := f203.keep K199 nin0
  have f210 := f204.keep K199 all0
  obtain ⟨_, T205, Lc205, X205, hQ205, st205⟩ := own_callS X199 hx hZ104 hown104 (own_hw hw 294 rfl) (own_hw hw 295 rfl) (own_hw hw 5 rfl) (own_hw hw 296 rfl) (rm_att l Z a0 hw [] G1 G3 az_104 tz_104 kz_104 ((own_show (own_mi vn fn d))) 15 vn ((own_dl vn).length) ((fn * 10 ^ (6 - d))) T199.heap n0 f210 SG1 PG1 SG3 rG3 f206 f207 f208 f209 (own_Ash _ _) hsu (by decide) (own_exE hd6 hf) hv9 hfz hn9) (by decide) e199 (Ls := #[.val (.long xa), .second, .val (.int xb), .val (.int xc), .val (.int (Int32.ofNat d)), .val (.long (Int64.ofNat vn)), .second, .val (.long (Int64.ofNat fn)), .second, .val (.ref az_101), .val (.ref az_104), .val (.long (Int64.ofNat (fn * 10 ^ (6 - d)))), .second, .val (.int (Int32.ofNat (own_dl vn).length)), .val (.int (Int32.ofNat (own_dec (fn * 10 ^ (6 - d))))), .val (.int (1 : Int32))]) [(.ref az_104), (.int (15 : Int32)), (.long (Int64.ofNat vn)), (.int (Int32.ofNat (own_dl vn).length)), (.long (Int64.ofNat (fn * 10 ^ (6 - d))))] [(.int (1 : Int32))] rfl (by rw [hml]; rfl) (lenOf own_pd39 rfl) (hb hby at_394) (by decide) 1 rfl (by decide) (by decide) (by decide)
  obtain ⟨rfl, Nq205, K205⟩ := hQ205
  have N205 := Fr.app N199 Nq205
  refine st205 _ ?_
  have e205 : T205.heap = T205.heap := rfl
  refine s_iand X205 hx (hb hby at_397) ?_
  show own_Ok p e below _ (T205.setTop (mkF m 398 #[.val (.long xa), .second, .val (.int xb), .val (.int xc), .val (.int (Int32.ofNat d)), .val (.long (Int64.ofNat vn)), .second, .val (.long (Int64.ofNat fn)), .second, .val (.ref az_101), .val (.ref az_104), .val (.long (Int64.ofNat (fn * 10 ^ (6 - d)))), .second, .val (.int (Int32.ofNat (own_dl vn).length)), .val (.int (Int32.ofNat (own_dec (fn * 10 ^ (6 - d))))), .val (.int (1 : Int32))] [(.int (1 : Int32))]))
  refine s_istore X205 hx (hb hby at_398) #[.val (.long xa), .second, .val (.int xb), .val (.int xc), .val (.int (Int32.ofNat d)), .val (.long (Int64.ofNat vn)), .second, .val (.long (Int64.ofNat fn)), .second, .val (.ref az_101), .val (.ref az_104), .val (.long (Int64.ofNat (fn * 10 ^ (6 - d)))), .second, .val (.int (Int32.ofNat (own_dl vn).length)), .val (.int (Int32.ofNat (own_dec (fn * 10 ^ (6 - d))))), .val (.int (1 : Int32))] rfl ?_
  refine s_iload X205 hx (hb hby at_400) rfl ?_
  have f211 := Nat.le_trans (Nat.le_refl T104.heap.size) K110.1
  have f212 := Nat.le_trans f211 K120.1
  have f213 := Nat.le_trans f212 K121.1
  have f214 := Nat.le_trans f213 K127.1
  have f215 := Nat.le_trans f214 K133.1
  have f216 := Nat.le_trans f215 K139.1
  have f217 := Nat.le_trans f216 K145.1
  have f218 := Nat.le_trans f217 K151.1
  have f219 := Nat.le_trans f218 K157.1
  have f220 := Nat.le_trans f219 K163.1
  have f221 := Nat.le_trans f220 K169.1
  have f222 := Nat.le_trans f221 K175.1
  have f223 := Nat.le_trans f222 K181.1
  have f224 := Nat.le_trans f223 K187.1
  have f225 := Nat.le_trans f224 K193.1
  have f226 := Nat.le_trans f225 K199.1
  have f227 := Nat.le_trans f226 K205.1
  exact own_retNW X205 hS104 (by rw [e205]; exact f227) hx hlk (t := .boolean) Bd.returns (by simp) (hb hby at_402) (by rw [e205]; exact ⟨rfl, N205⟩) (by decide) (by decide)
 show own_Ok p e below _ (s₁.setTop (mkF m 0 #[.val (.long xa), .second, .val (.int xb), .val (.int xc), .unset, .unset, .unset, .unset, .unset, .unset, .unset, .unset, .unset, .unset, .unset, .unset] []))
 refine s_iloadN X0 hx (hb hby at_0) rfl ?_
 refine own_st (fun _ k => Jvm.Stand.ldcI X0 hx hown (mvT hZ (own_hw hw 0 rfl)) rfl (hb hby at_1) k) ?_
 show own_Ok p e below _ (s₁.setTop (mkF m 3 #[.val (.long xa), .second, .val (.int xb), .val (.int xc), .unset, .unset, .unset, .unset, .unset, .unset, .unset, .unset, .unset, .unset, .unset, .unset] [(.int (2147483647 : Int32)), (.int xc)]))
 refine s_iand X0 hx (hb hby at_3) ?_
 refine s_bipush X0 hx (7 : Int32) (hb hby at_4) rfl ?_
 refine s_irem X0 hx (hb hby at_6) (by decide) ?_
 obtain ⟨d, hd, hd6⟩ := own_lawd xc
 rw [show ((xc &&& (2147483647 : Int32)) % (7 : Int32)) = (Int32.ofNat d) from hd]
 show own_Ok p e below _ (s₁.setTop (mkF m 7 #[.val (.long xa), .second, .val (.int xb), .val (.int xc), .unset, .unset, .unset, .unset, .unset, .unset, .unset, .unset, .unset, .unset, .unset, .unset] [(.int (Int32.ofNat d))]))
 refine s_istore X0 hx (hb hby at_7) #[.val (.long xa), .second, .val (.int xb), .val (.int xc), .val (.int (Int32.ofNat d)), .unset, .unset, .unset, .unset, .unset, .unset, .unset, .unset, .unset, .unset, .unset] rfl ?_
 refine s_lloadN X0 hx (hb hby at_9) rfl ?_
 refine own_st (fun _ k => Jvm.Stand.ldc2J X0 hx hown (mvT hZ (own_hw hw 1 rfl)) rfl (hb hby at_10) k) ?_
 show own_Ok p e below _ (s₁.setTop (mkF m 13 #[.val (.long xa), .second, .val (.int xb), .val (.int xc), .val (.int (Int32.ofNat d)), .unset, .unset, .unset, .unset, .unset, .unset, .unset, .unset, .unset, .unset, .unset] [(.long (9223372036854775807 : Int64)), (.long xa)]))
 refine s_land X0 hx (hb hby at_13) ?_
 refine own_st (fun _ k => Jvm.Stand.ldc2J X0 hx hown (mvT hZ (own_hw hw 2 rfl)) rfl (hb hby at_14) k) ?_
 show own_Ok p e below _ (s₁.setTop (mkF m 17 #[.val (.long xa), .second, .val (.int xb), .val (.int xc), .val (.int (Int32.ofNat d)), .unset, .unset, .unset, .unset, .unset, .unset, .unset, .unset, .unset, .unset, .unset] [(.long (1000000000 : Int64)), (.long (xa &&& (9223372036854775807 : Int64)))]))
 refine s_lrem X0 hx (hb hby at_17) (by decide) ?_
 obtain ⟨vn, hvn, hv9⟩ := own_lawv xa
 rw [show ((xa &&& (9223372036854775807 : Int64)) - ((xa &&& (9223372036854775807 : Int64)) / (1000000000 : Int64)) * (1000000000 : Int64)) = (Int64.ofNat vn) from hvn]
 show own_Ok p e below _ (s₁.setTop (mkF m 18 #[.val (.long xa), .second, .val (.int xb), .val (.int xc), .val (.int (Int32.ofNat d)), .unset, .unset, .unset, .unset, .unset, .unset, .unset, .unset, .unset, .unset, .unset] [(.long (Int64.ofNat vn))]))
 refine s_lstore X0 hx (hb hby at_18) #[.val (.long xa), .second, .val (.int xb), .val (.int xc), .val (.int (Int32.ofNat d)), .val (.long (Int64.ofNat vn)), .second, .unset, .unset, .unset, .unset, .unset, .unset, .unset, .unset, .unset] rfl ?_
 refine s_iloadN X0 hx (hb hby at_20) rfl ?_
 refine own_st (fun _ k => Jvm.Stand.ldcI X0 hx hown (mvT hZ (own_hw hw 0 rfl)) rfl (hb hby at_21) k) ?_
 show own_Ok p e below _ (s₁.setTop (mkF m 23 #[.val (.long xa), .second, .val (.int xb), .val (.int xc), .val (.int (Int32.ofNat d)), .val (.long (Int64.ofNat vn)), .second, .unset, .unset, .unset, .unset, .unset, .unset, .unset, .unset, .unset] [(.int (2147483647 : Int32)), (.int xb)]))
 refine s_iand X0 hx (hb hby at_23) ?_
 refine s_i2l X0 hx (hb hby at_24) ?_
 refine s_iload X0 hx (hb hby at_25) rfl ?_
 obtain ⟨_, T228, Lc228, X228, hQ228, st228⟩ := own_callS X0 hx hZ hown (own_hw hw 3 rfl) (own_hw hw 4 rfl) (own_hw hw 5 rfl) (own_hw hw 6 rfl) (rm_p10 l Z a0 hw [] ((Int32.ofNat d)) d h0 n0 O0 (own_oN (by omega)) (by omega)) (by decide) e0 (Ls := #[.val (.long xa), .second, .val (.int xb), .val (.int xc), .val (.int (Int32.ofNat d)), .val (.long (Int64.ofNat vn)), .second, .unset, .unset, .unset, .unset, .unset, .unset, .unset, .unset, .unset]) [(.int (Int32.ofNat d))] [(.long ((xb &&& (2147483647 : Int32)).toInt64))] rfl (by rw [hml]; rfl) (lenOf own_pd0 rfl) (hb hby at_27) (by decide) 2 rfl (by decide) (by decide) (by decide)
 obtain ⟨rfl, Nq228, K228⟩ := hQ228
 have N228 := Fr.app N0 Nq228
 refine st228 _ ?_
 have e228 : T228.heap = T228.heap := rfl
 refine s_lrem X228 hx (hb hby at_30) (own_p10n (by omega)) ?_
 obtain ⟨fn, hfn, hf⟩ := own_lawf xb hd6
 rw [show (((xb &&& (2147483647 : Int32)).toInt64) - (((xb &&& (2147483647 : Int32)).toInt64) / (own_p10 d)) * (own_p10 d)) = (Int64.ofNat fn) from hfn]
 show own_Ok p e below _ (T228.setTop (mkF m 31 #[.val (.long xa), .second, .val (.int xb), .val (.int xc), .val (.int (Int32.ofNat d)), .val (.long (Int64.ofNat vn)), .second, .unset, .unset, .unset, .unset, .unset, .unset, .unset, .unset, .unset] [(.long (Int64.ofNat fn))]))
 have hf6 := own_f6 hd6 hf
 refine s_lstore X228 hx (hb hby at_31) #[.val (.long xa), .second, .val (.int xb), .val (.int xc), .val (.int (Int32.ofNat d)), .val (.long (Int64.ofNat vn)), .second, .val (.long (Int64.ofNat fn)), .second, .unset, .unset, .unset, .unset, .unset, .unset, .unset] rfl ?_
 refine s_lload X228 hx (hb hby at_33) rfl ?_
 refine s_lconst X228 hx (0 : Int64) (hb hby at_35) rfl ?_
 refine s_lcmp X228 hx (hb hby at_36) ?_
 by_cases c37_229 : (Int64.ofNat vn) = (0 : Int64)
 ·skip
  refine s_ifNo X228 hx (hb hby at_37) (XT.ll_ne_f c37_229) ?_
  refine s_lload X228 hx (hb hby at_40) rfl ?_
  refine s_lconst X228 hx (0 : Int64) (hb hby at_42) rfl ?_
  refine s_lcmp X228 hx (hb hby at_43) ?_
  by_cases c44_230 : (Int64.ofNat fn) = (0 : Int64)
  ·skip
   refine s_ifNo X228 hx (hb hby at_44) (XT.ll_ne_f c44_230) ?_
   refine s_lconst X228 hx (1 : Int64) (hb hby at_47) rfl ?_
   refine s_lstore X228 hx (hb hby at_48) #[.val (.long xa), .second, .val (.int xb), .val (.int xc), .val (.int (Int32.ofNat d)), .val (.long (1 : Int64)), .second, .val (.long (Int64.ofNat fn)), .second, .unset, .unset, .unset, .unset, .unset, .unset, .unset] rfl ?_
   have f231 := O0.keep K228 all0
   exact cut50 _ _ _ d 1 fn X228 e228 N228 f231 hd6 (by decide) hf (fun q => absurd q.1 (by decide))
  ·skip
   refine s_ifYes X228 hx 50 (hb hby at_44) (XT.ll_ne_t c44_230) (by decide) (by decide) ?_
   have f232 := O0.keep K228 all0
   exact cut50 _ _ _ d vn fn X228 e228 N228 f232 hd6 hv9 hf (fun q => c44_230 ((own_lz (by omega)).mpr q.2))
 ·skip
  refine s_ifYes X228 hx 50 (hb hby at_37) (XT.ll_ne_t c37_229) (by decide) (by decide) ?_
  have f233 := O0.keep K228 all0
  exact cut50 _ _ _ d vn fn X228 e228 N228 f233 hd6 hv9 hf (fun q => c37_229 ((own_lz (by omega)).mpr q.1))
set_option maxRecDepth 65536 in
set_option maxHeartbeats 40000000 in
theorem comes_1 {Post : Tables → Env → Array Value → State → Outcome → State → Prop} (hpost : ∀ tb e args s v u, (limb_1_1.after args s (.returned v) u = true ∧ limb_1_2.after args s (.returned v) u = true ∧ True) → ReturnedEndW s (.returned v) u (Jvm.fieldLocs frame_1_writes args s ++ Jvm.arrayLocs frame_1_arrays args s ++ Jvm.staticLocs frame_1_statics s) 104 3968 → Post tb e args s (.returned v) u) :
    ArmFor flags0 classFile x code maxLocals ret World_1 tables_1 room_1 Calls_1 rest_1 Pre_1 Post := by
  intro l hfl _ _ p e ha hc hk s m args below hf hA hF happ hP
  obtain ⟨hcalls, hrest, hpre⟩ := hP
  obtain ⟨-, -, -, hnamed, -, -, -, hat⟩ := (Spec.applies_iff hf).mp happ
  obtain ⟨hg, hn⟩ := and_e (Cond.before_iff.mp (show (Jvm.Cond.and given_1 narrow_1).before args s = true from hpre))
  obtain ⟨hcount, hr0⟩ := and_e hg
  obtain ⟨ha0, hr1⟩ := and_e hr0
  obtain ⟨ha1, hr2⟩ := and_e hr1
  have ha2 := hr2
  obtain ⟨w0, w1, w2, rfl⟩ : ∃ w0 w1 w2 : Value, args = #[w0, w1, w2] := by
    have hs : args.size = 3 := by simpa [Cond.value, given_1] using hcount
    obtain ⟨L⟩ := args
    match L, hs with
    | [w0, w1, w2], _ => exact ⟨w0, w1, w2, rfl⟩
  have hw := fun d (hd : d ∈ tables_1) => atoms_spec (ws := Jvm.Cond.code x code maxLocals ret :: tables_1) hat d (List.mem_cons_of_mem _ hd)
  obtain ⟨hsets, hown0⟩ := atoms_of _ (rest_1_c_eq ▸ (show rest_1_c.before _ s = true from hrest))
  have hrst := Cond.before_iff.mp hown0
  have hfit : Fit s := fun {y c} hc i hi => by
    obtain ⟨ha, rfl⟩ := Array.getElem?_eq_some_iff.mp hc
    have q := List.all_eq_true.mp ((Array.all_eq_true_iff_forall_mem.mp hF) _ (Array.getElem_mem ha)) i (List.mem_range.mpr hi)
    simpa [Array.getElem?_eq_getElem hi] using q
  obtain ⟨i0, ea0⟩ := isL_v ha0
  obtain rfl : w0 = (.long i0) := Option.some.inj ea0
  obtain ⟨i1, ea1⟩ := is_v ha1
  obtain rfl : w1 = (.int i1) := Option.some.inj ea1
  obtain ⟨i2, ea2⟩ := is_v ha2
  obtain rfl : w2 = (.int i2) := Option.some.inj ea2
  obtain ⟨G1, eG1⟩ := is_v (Cond.before_iff.mp (hsets _ (List.mem_of_getElem? (i := 1) rfl)))
  have SG1 : Sta s s.heap "java/lang/String" "COMPACT_STRINGS" "Z" (.int G1) := Sta.start eG1 (Or.inl (hsets _ (List.mem_of_getElem? (i := 0) rfl)))
  have PG1 : ¬ (G1 = (0 : Int32)) := gotF (Cond.eq_ints eG1 (Term.int_eval (0))) (not_v (Cond.before_iff.mp (hsets _ (List.mem_of_getElem? (i := 2) rfl))))
  obtain ⟨G3, eG3, rG3⟩ := isR_v (Cond.before_iff.mp (hsets _ (List.mem_of_getElem? (i := 8) rfl)))
  have SG3 : Sta s s.heap "jdk/internal/util/Preconditions" "SIOOBE_FORMATTER" "Ljava/util/function/BiFunction;" G3 := Sta.start eG3 (Or.inl (hsets _ (List.mem_of_getElem? (i := 7) rfl)))
  obtain ⟨od, ko, SDO, VDO⟩ := own_onesStart hfit ((own_hw hw 47 rfl)) (hsets _ (List.mem_of_getElem? (i := 12) rfl)) (hsets _ (List.mem_of_getElem? (i := 13) rfl)) (hsets _ (List.mem_of_getElem? (i := 14) rfl)) (Or.inl (hsets _ (List.mem_of_getElem? (i := 11) rfl)))
  obtain ⟨dt, kt, SDT, VDT⟩ := own_tensStart hfit ((own_hw hw 47 rfl)) (hsets _ (List.mem_of_getElem? (i := 17) rfl)) (hsets _ (List.mem_of_getElem? (i := 18) rfl)) (hsets _ (List.mem_of_getElem? (i := 19) rfl)) (Or.inl (hsets _ (List.mem_of_getElem? (i := 16) rfl)))
  have hc1 : Jvm.Lit.constHeld s "com/example/tickfence/tickfence/Price" 122 := hcalls.1 ("com/example/tickfence/tickfence/Price", 122) (by simp [consts_1])
  have hc2 : Jvm.Lit.constHeld s "com/example/tickfence/tickfence/Price" 124 := hcalls.1 ("com/example/tickfence/tickfence/Price", 124) (by simp [consts_1])
  have hc3 : Jvm.Lit.constHeld s "java/lang/String" 7 := hcalls.1 ("java/lang/String", 7) (by simp [consts_1])
  have hcw := (hsets _ (List.mem_of_getElem? (i := 2) rfl))
  obtain ⟨n, o, h1, h2, h3, _, L, rfl, ⟨rfl, N⟩, hq⟩ := rm_law l s _ hw tables_1 i0 i1 i2 G1 G3 od ko dt kt s.heap s.heap.size (Old.start s) SG1 PG1 SG3 rG3 SDO VDO SDT VDT hc1 hc2 hc3 hcw p e ha hc hk s m _ below hf ((Spec.applies_iff_loose hf).mp happ).1 ⟨rfl, State.Warmed39.refl s, rfl, IB.start⟩ trivial
  refine ⟨n, _, h1, h2, h3, hpost _ _ _ _ _ _ ⟨Cond.after_iff.mpr rfl, Cond.after_iff.mpr (eq_i res_at (Term.int_eval (1)) rfl), trivial⟩ ⟨hq.1, hq.2.1, hq.2.2.1, (hq.2.2.2.sift fun y hy => Or.inr (N y hy)).mono (by decide) (by decide)⟩⟩
theorem main_1_1 : Claimed_1_1 := comes_1 fun _ _ _ _ _ _ h hF => ⟨h.1, hF⟩
theorem main_1_2 : Claimed_1_2 := comes_1 fun _ _ _ _ _ _ h hF => ⟨h.2.1, hF⟩
end Jvm.Pilot.@@N@@
namespace Jvm.Pilot.@@N@@
open Jvm Jvm.ClassFile Sem Op Lib Jvm.Free Jvm.Stand Jvm.Pilot.@@N@@.Jvm.D
/-! MADE BY PROGRAM (witnessworld.py) out of the Statement's table words and the real class files: 32 classes; the members and pool entries that the words name. The judged class is class 1, her method 1. -/
namespace start1
open Jvm.ClassFile
def u (s : String) : CpInfo := .utf8 (stringToUtf16 s)
/-- a pool by its gaps: so many unusable entries, then the entry; so many at the end -/
def gap : Nat → List CpInfo → List CpInfo
  | 0, r => r
  | n + 1, r => .unusable :: gap n r
def poolList (es : List (Nat × CpInfo)) (last : Nat) : List CpInfo := es.foldr (fun e r => gap e.1 (e.2 :: r)) (gap last [])
def pool (es : List (Nat × CpInfo)) (last : Nat) : Array CpInfo := ⟨poolList es last⟩
def fileOf (pool : Array CpInfo) (this : Nat) (attrs : Array Attribute := #[]) (ms : Array MethodInfo := #[]) (fl : Nat := 33) (sup : Nat := 0) (ifs : Array Nat := #[]) (fds : Array FieldInfo := #[]) : ClassFile where
  minorVersion := 0
  majorVersion := 65
  constantPool := pool
  accessFlags := fl
  thisClass := this
  superClass := sup
  interfaces := ifs
  fields := fds
  methods := ms
  attributes := attrs
def plain (name : String) (sup : Option ClassId) : Class where
  name := name
  kind := .ordinary
  loader := none
  accessFlags := 33
  super := sup
  interfaces := #[]
  cf := none
  fields := #[]
  methods := #[]
  instanceTypes := #[]
  staticTypes := #[]
  resolved := #[]
  callSites := []
  init := .initialized
  statics := none
  mirror := none

def pool0 : Array CpInfo := pool [(5, u "<init>"), (0, u "()V"), (1, .class_ 10), (1, u "java/lang/Object"), (85, u "clone"), (0, u "()Ljava/lang/Object;")] 26

def k0c0 : Code := { maxStack := 0, maxLocals := 1, code := object_method_1_code, exceptionTable := #[], attributes := #[] }
def k0m0 : Method := { name := "<init>", desc := "()V", sig := { parameters := [], returnType := none }, accessFlags := 1, code := some k0c0 }
def k0m1 : Method := { name := "clone", desc := "()Ljava/lang/Object;", sig := { parameters := [], returnType := some (.object "java/lang/Object") }, accessFlags := 260, code := none }
/-- java/lang/Object -/
def k0 : Class := { plain "java/lang/Object" none with
  accessFlags := 33
  interfaces := #[]
  cf := some (fileOf pool0 8 #[] #[{ accessFlags := 1, nameIndex := 5, descriptorIndex := 6, attributes := #[] }, { accessFlags := 260, nameIndex := 96, descriptorIndex := 97, attributes := #[] }] 33 0 #[] #[])
  fields := #[]
  methods := #[k0m0, k0m1]
  instanceTypes := #[]
  staticTypes := #[]
  resolved := Array.replicate 124 none
  statics := none }

def pool1 : Array CpInfo := pool [(2, .class_ 4), (1, u "java/lang/Object"), (0, u "<init>"), (0, u "()V"), (0, .integer 2147483647), (2, .long 9223372036854775807), (1, .long 1000000000), (1, .methodref 15 16), (0, .class_ 17), (0, .nameAndType 18 19), (0, u "com/example/tickfence/tickfence/PriceParsePinLaw"), (0, u "pow10"), (0, u "(I)J"), (0, .methodref 15 21), (0, .nameAndType 22 23), (0, u "textOf"), (0, u "(JJI)Ljava/lang/String;"), (0, .methodref 25 26), (0, .class_ 27), (0, .nameAndType 28 29), (0, u "com/example/tickfence/tickfence/Price"), (0, u "parse"), (0, u "(Ljava/lang/String;)Lcom/example/tickfence/tickfence/Price;"), (0, .methodref 25 31), (0, .nameAndType 32 33), (0, u "toString"), (0, u "()Ljava/lang/String;"), (0, .methodref 15 35), (0, .nameAndType 36 37), (0, u "digitCount"), (0, u "(J)I"), (0, .methodref 15 39), (0, .nameAndType 40 37), (0, u "printedDecimals"), (0, .methodref 42 43), (0, .class_ 44), (0, .nameAndType 45 46), (0, u "java/lang/String"), (0, u "length"), (0, u "()I"), (0, .methodref 15 48), (0, .nameAndType 49 50), (0, u "at"), (0, u "(Ljava/lang/String;IJIJ)Z"), (0, .methodref 42 52), (0, .nameAndType 53 54), (0, u "charAt"), (0, u "(I)C"), (0, .methodref 15 56), (0, .nameAndType 57 58), (0, u "expected"), (0, u "(IJIJ)C"), (0, .methodref 15 60), (0, .nameAndType 61 62), (0, u "digit"), (0, u "(JI)C"), (0, .long 10), (1, .long 100), (1, .long 1000), (1, .long 10000), (1, .long 100000), (1, .long 1000000), (1, .long 10000000), (1, .long 100000000), (1, .methodref 15 80), (0, .nameAndType 81 82), (0, u "fracDigit"), (0, u "(JII)C"), (0, .methodref 15 84), (0, .nameAndType 85 86), (0, u "cut"), (0, u "([CI)Ljava/lang/String;"), (0, .methodref 42 88), (0, .nameAndType 5 89), (0, u "([C)V"), (2, u "law"), (0, u "(JII)Z")] 5

def k1m0 : Method := { name := "<init>", desc := "()V", sig := { parameters := [], returnType := none }, accessFlags := 1, code := none }
def k1c1 : Code := { maxStack := 8, maxLocals := 16, code := code, exceptionTable := #[], attributes := #[] }
def k1m1 : Method := { name := "law", desc := "(JII)Z", sig := { parameters := [.long, .int, .int], returnType := some .boolean }, accessFlags := 9, code := some k1c1 }
def k1c2 : Code := { maxStack := 7, maxLocals := 7, code := method_3_code, exceptionTable := #[], attributes := #[] }
def k1m2 : Method := { name := "at", desc := "(Ljava/lang/String;IJIJ)Z", sig := { parameters := [(.object "java/lang/String"), .int, .long, .int, .long], returnType := some .boolean }, accessFlags := 10, code := some k1c2 }
def k1c3 : Code := { maxStack := 5, maxLocals := 6, code := method_4_code, exceptionTable := #[], attributes := #[] }
def k1m3 : Method := { name := "expected", desc := "(IJIJ)C", sig := { parameters := [.int, .long, .int, .long], returnType := some .char }, accessFlags := 10, code := some k1c3 }
def k1c4 : Code := { maxStack := 5, maxLocals := 2, code := method_5_code, exceptionTable := #[], attributes := #[] }
def k1m4 : Method := { name := "pow10", desc := "(I)J", sig := { parameters := [.int], returnType := some .long }, accessFlags := 10, code := some k1c4 }
def k1c5 : Code := { maxStack := 4, maxLocals := 5, code := method_6_code, exceptionTable := #[], attributes := #[] }
def k1m5 : Method := { name := "digit", desc := "(JI)C", sig := { parameters := [.long, .int], returnType := some .char }, accessFlags := 10, code := some k1c5 }
def k1c6 : Code := { maxStack := 4, maxLocals := 2, code := method_7_code, exceptionTable := #[], attributes := #[] }
def k1m6 : Method := { name := "digitCount", desc := "(J)I", sig := { parameters := [.long], returnType := some .int }, accessFlags := 10, code := some k1c6 }
def k1c7 : Code := { maxStack := 4, maxLocals := 2, code := method_8_code, exceptionTable := #[], attributes := #[] }
def k1m7 : Method := { name := "printedDecimals", desc := "(J)I", sig := { parameters := [.long], returnType := some .int }, accessFlags := 10, code := some k1c7 }
def k1c8 : Code := { maxStack := 4, maxLocals := 4, code := method_9_code, exceptionTable := #[], attributes := #[] }
def k1m8 : Method := { name := "fracDigit", desc := "(JII)C", sig := { parameters := [.long, .int, .int], returnType := some .char }, accessFlags := 10, code := some k1c8 }
def k1c9 : Code := { maxStack := 6, maxLocals := 6, code := method_10_code, exceptionTable := #[], attributes := #[] }
def k1m9 : Method := { name := "textOf", desc := "(JJI)Ljava/lang/String;", sig := { parameters := [.long, .long, .int], returnType := some (.object "java/lang/String") }, accessFlags := 10, code := some k1c9 }
def k1c10 : Code := { maxStack := 7, maxLocals := 2, code := method_11_code, exceptionTable := #[], attributes := #[] }
def k1m10 : Method := { name := "cut", desc := "([CI)Ljava/lang/String;", sig := { parameters := [(.array .char), .int], returnType := some (.object "java/lang/String") }, accessFlags := 10, code := some k1c10 }
/-- com/example/tickfence/tickfence/PriceParsePinLaw -/
def k1 : Class := { plain "com/example/tickfence/tickfence/PriceParsePinLaw" (some 0) with
  accessFlags := 49
  interfaces := #[]
  cf := some (fileOf pool1 15 #[] #[{ accessFlags := 1, nameIndex := 5, descriptorIndex := 6, attributes := #[] }, { accessFlags := 9, nameIndex := 92, descriptorIndex := 93, attributes := #[] }, { accessFlags := 10, nameIndex := 49, descriptorIndex := 50, attributes := #[] }, { accessFlags := 10, nameIndex := 57, descriptorIndex := 58, attributes := #[] }, { accessFlags := 10, nameIndex := 18, descriptorIndex := 19, attributes := #[] }, { accessFlags := 10, nameIndex := 61, descriptorIndex := 62, attributes := #[] }, { accessFlags := 10, nameIndex := 36, descriptorIndex := 37, attributes := #[] }, { accessFlags := 10, nameIndex := 40, descriptorIndex := 37, attributes := #[] }, { accessFlags := 10, nameIndex := 81, descriptorIndex := 82, attributes := #[] }, { accessFlags := 10, nameIndex := 22, descriptorIndex := 23, attributes := #[] }, { accessFlags := 10, nameIndex := 85, descriptorIndex := 86, attributes := #[] }] 49 2 #[] #[])
  fields := #[]
  methods := #[k1m0, k1m1, k1m2, k1m3, k1m4, k1m5, k1m6, k1m7, k1m8, k1m9, k1m10]
  instanceTypes := #[]
  staticTypes := #[]
  resolved := Array.replicate 99 none
  statics := none }

def pool2 : Array CpInfo := pool [(1, .class_ 2), (0, u "java/io/Serializable"), (0, .class_ 4), (0, u "java/lang/Object")] 2

/-- java/io/Serializable -/
def k2 : Class := { plain "java/io/Serializable" (some 0) with
  accessFlags := 1537
  interfaces := #[]
  cf := some (fileOf pool2 1 #[] #[] 1537 3 #[] #[])
  fields := #[]
  methods := #[]
  instanceTypes := #[]
  staticTypes := #[]
  resolved := Array.replicate 7 none
  statics := none }

def pool3 : Array CpInfo := pool [(1, .class_ 2), (0, u "java/lang/Comparable"), (0, .class_ 4), (0, u "java/lang/Object")] 7

/-- java/lang/Comparable -/
def k3 : Class := { plain "java/lang/Comparable" (some 0) with
  accessFlags := 1537
  interfaces := #[]
  cf := some (fileOf pool3 1 #[] #[] 1537 3 #[] #[])
  fields := #[]
  methods := #[]
  instanceTypes := #[]
  staticTypes := #[]
  resolved := Array.replicate 12 none
  statics := none }

def pool4 : Array CpInfo := pool [(2, .class_ 4), (1, u "java/lang/CharSequence"), (42, .class_ 48), (0, u "java/lang/CharSequence$1CodePointIterator"), (10, .class_ 60), (0, u "java/lang/CharSequence$1CharIterator"), (5, .class_ 67), (0, u "java/lang/Object")] 63

/-- java/lang/CharSequence -/
def k4 : Class := { plain "java/lang/CharSequence" (some 0) with
  accessFlags := 1537
  interfaces := #[]
  cf := some (fileOf pool4 2 #[.nestMembers #[47, 59]] #[] 1537 66 #[] #[])
  fields := #[]
  methods := #[]
  instanceTypes := #[]
  staticTypes := #[]
  resolved := Array.replicate 131 none
  statics := none }

def pool5 : Array CpInfo := pool [(1, .class_ 2), (0, u "java/lang/constant/Constable"), (0, .class_ 4), (0, u "java/lang/Object")] 6

/-- java/lang/constant/Constable -/
def k5 : Class := { plain "java/lang/constant/Constable" (some 0) with
  accessFlags := 1537
  interfaces := #[]
  cf := some (fileOf pool5 1 #[] #[] 1537 3 #[] #[])
  fields := #[]
  methods := #[]
  instanceTypes := #[]
  staticTypes := #[]
  resolved := Array.replicate 11 none
  statics := none }

def pool6 : Array CpInfo := pool [(1, .class_ 2), (0, u "java/lang/constant/ConstantDesc"), (0, .class_ 4), (0, u "java/lang/Object")] 32

/-- java/lang/constant/ConstantDesc -/
def k6 : Class := { plain "java/lang/constant/ConstantDesc" (some 0) with
  accessFlags := 1537
  interfaces := #[]
  cf := some (fileOf pool6 1 #[] #[] 1537 3 #[] #[])
  fields := #[]
  methods := #[]
  instanceTypes := #[]
  staticTypes := #[]
  resolved := Array.replicate 37 none
  statics := none }

def pool7 : Array CpInfo := pool [(1, .methodref 2 3), (0, .class_ 4), (0, .nameAndType 5 6), (0, u "java/lang/Object"), (0, u "<init>"), (0, u "()V"), (0, .string 8), (0, u ""), (0, .fieldref 10 11), (0, .class_ 12), (0, .nameAndType 13 14), (0, u "java/lang/String"), (0, u "value"), (0, u "[B"), (0, .fieldref 10 16), (0, .nameAndType 17 18), (0, u "coder"), (0, u "B"), (2, u "hash"), (0, u "I"), (2, u "hashIsZero"), (0, u "Z"), (0, .methodref 10 28), (0, .nameAndType 5 29), (0, u "([CIILjava/lang/Void;)V"), (8, .fieldref 10 39), (0, .nameAndType 40 26), (0, u "COMPACT_STRINGS"), (1, .class_ 44), (1, u "java/lang/StringUTF16"), (0, u "compress"), (1, .methodref 42 48), (0, .nameAndType 49 50), (0, u "coderFromArrayLen"), (0, u "([BI)B"), (3, .methodref 55 56), (0, .class_ 57), (0, .nameAndType 58 59), (0, u "java/util/Arrays"), (0, u "copyOfRange"), (0, u "([BII)[B"), (47, .class_ 109), (1, u "java/lang/StringLatin1"), (32, u "()Z"), (34, .methodref 42 178), (0, .nameAndType 45 179), (0, u "([CII)[B"), (13, .class_ 195), (1, u "java/lang/System"), (13, .methodref 10 210), (0, .nameAndType 5 211), (0, u "([BB)V"), (0, .methodref 193 213), (0, .nameAndType 214 215), (0, u "arraycopy"), (0, u "(Ljava/lang/Object;ILjava/lang/Object;II)V"), (118, u "()I"), (0, .methodref 10 336), (0, .nameAndType 17 337), (0, u "()B"), (2, u "()[B"), (22, u "([BI)C"), (27, u "(II)V"), (35, u "(I)C"), (61, .methodref 10 490), (0, .nameAndType 5 491), (0, u "(Ljava/lang/AbstractStringBuilder;Ljava/lang/Void;)V"), (0, .methodref 10 493), (0, .nameAndType 494 142), (0, u "isLatin1"), (0, .methodref 107 496), (0, .nameAndType 497 363), (0, u "charAt"), (3, u "checkIndex"), (3, .methodref 10 506), (0, .nameAndType 507 334), (0, u "length"), (24, u "getBytes"), (16, .methodref 550 506), (0, .class_ 551), (0, u "java/lang/AbstractStringBuilder"), (0, .methodref 550 553), (0, .nameAndType 554 340), (0, u "getValue"), (20, .class_ 576), (0, u "java/lang/CharSequence"), (22, u "CASE_INSENSITIVE_ORDER"), (0, u "Ljava/util/Comparator;"), (32, .methodref 10 634), (0, .nameAndType 635 636), (0, u "indexOf"), (0, u "(II)I"), (0, .methodref 107 638), (0, .nameAndType 635 639), (0, u "([BIII)I"), (125, u "(I)I"), (55, u "([BIB)V"), (69, u "repeat"), (0, u "(I)Ljava/lang/String;"), (50, .integer 2147483647), (66, u "([C)V"), (30, .methodref 55 1042), (0, .nameAndType 1043 211), (0, u "fill"), (3, .methodref 550 493), (5, .fieldref 1054 1055), (0, .class_ 1056), (0, .nameAndType 1057 1058), (0, u "jdk/internal/util/Preconditions"), (0, u "SIOOBE_FORMATTER"), (0, u "Ljava/util/function/BiFunction;"), (0, .methodref 1054 1060), (0, .nameAndType 501 1061), (0, u "(IILjava/util/function/BiFunction;)I"), (39, u "serialPersistentFields"), (0, u "[Ljava/io/ObjectStreamField;"), (0, .class_ 1104), (0, u "java/lang/String$CaseInsensitiveComparator"), (1, .class_ 1107), (0, u "java/io/Serializable"), (0, .class_ 1109), (0, u "java/lang/Comparable"), (0, .class_ 1111), (0, u "java/lang/constant/Constable"), (0, .class_ 1113), (0, u "java/lang/constant/ConstantDesc"), (2, u "serialVersionUID"), (0, u "J"), (3, u "REPL"), (0, u "C"), (2, u "LATIN1"), (1, u "UTF16"), (105, u "(Ljava/lang/StringBuilder;)V")] 217

def k7m0 : Method := { name := "<init>", desc := "()V", sig := { parameters := [], returnType := none }, accessFlags := 1, code := none }
def k7c1 : Code := { maxStack := 5, maxLocals := 2, code := jdk_42_method_3_code, exceptionTable := #[], attributes := #[] }
def k7m1 : Method := { name := "<init>", desc := "([C)V", sig := { parameters := [(.array .char)], returnType := none }, accessFlags := 1, code := some k7c1 }
def k7c2 : Code := { maxStack := 3, maxLocals := 2, code := jdk_42_method_53_code, exceptionTable := #[], attributes := #[] }
def k7m2 : Method := { name := "<init>", desc := "(Ljava/lang/StringBuilder;)V", sig := { parameters := [(.object "java/lang/StringBuilder")], returnType := none }, accessFlags := 1, code := some k7c2 }
def k7c3 : Code := { maxStack := 2, maxLocals := 1, code := jdk_42_method_54_code, exceptionTable := #[], attributes := #[] }
def k7m3 : Method := { name := "length", desc := "()I", sig := { parameters := [], returnType := some .int }, accessFlags := 1, code := some k7c3 }
def k7c4 : Code := { maxStack := 2, maxLocals := 2, code := jdk_42_method_56_code, exceptionTable := #[], attributes := #[] }
def k7m4 : Method := { name := "charAt", desc := "(I)C", sig := { parameters := [.int], returnType := some .char }, accessFlags := 1, code := some k7c4 }
def k7c5 : Code := { maxStack := 3, maxLocals := 2, code := jdk_42_method_79_code, exceptionTable := #[], attributes := #[] }
def k7m5 : Method := { name := "indexOf", desc := "(I)I", sig := { parameters := [.int], returnType := some .int }, accessFlags := 1, code := some k7c5 }
def k7c6 : Code := { maxStack := 4, maxLocals := 3, code := jdk_42_method_80_code, exceptionTable := #[], attributes := #[] }
def k7m6 : Method := { name := "indexOf", desc := "(II)I", sig := { parameters := [.int, .int], returnType := some .int }, accessFlags := 1, code := some k7c6 }
def k7c7 : Code := { maxStack := 5, maxLocals := 5, code := jdk_42_method_145_code, exceptionTable := #[], attributes := #[] }
def k7m7 : Method := { name := "repeat", desc := "(I)Ljava/lang/String;", sig := { parameters := [.int], returnType := some (.object "java/lang/String") }, accessFlags := 1, code := some k7c7 }
def k7c8 : Code := { maxStack := 5, maxLocals := 4, code := jdk_42_method_147_code, exceptionTable := #[], attributes := #[] }
def k7m8 : Method := { name := "getBytes", desc := "([BIB)V", sig := { parameters := [(.array .byte), .int, .byte], returnType := none }, accessFlags := 0, code := some k7c8 }
def k7c9 : Code := { maxStack := 4, maxLocals := 6, code := jdk_42_method_149_code, exceptionTable := #[], attributes := #[] }
def k7m9 : Method := { name := "<init>", desc := "([CIILjava/lang/Void;)V", sig := { parameters := [(.array .char), .int, .int, (.object "java/lang/Void")], returnType := none }, accessFlags := 2, code := some k7c9 }
def k7c10 : Code := { maxStack := 5, maxLocals := 5, code := jdk_42_method_150_code, exceptionTable := #[], attributes := #[] }
def k7m10 : Method := { name := "<init>", desc := "(Ljava/lang/AbstractStringBuilder;Ljava/lang/Void;)V", sig := { parameters := [(.object "java/lang/AbstractStringBuilder"), (.object "java/lang/Void")], returnType := none }, accessFlags := 0, code := some k7c10 }
def k7c11 : Code := { maxStack := 2, maxLocals := 3, code := jdk_42_method_151_code, exceptionTable := #[], attributes := #[] }
def k7m11 : Method := { name := "<init>", desc := "([BB)V", sig := { parameters := [(.array .byte), .byte], returnType := none }, accessFlags := 0, code := some k7c11 }
def k7c12 : Code := { maxStack := 1, maxLocals := 1, code := jdk_42_method_152_code, exceptionTable := #[], attributes := #[] }
def k7m12 : Method := { name := "coder", desc := "()B", sig := { parameters := [], returnType := some .byte }, accessFlags := 0, code := some k7c12 }
def k7c13 : Code := { maxStack := 1, maxLocals := 1, code := jdk_42_method_154_code, exceptionTable := #[], attributes := #[] }
def k7m13 : Method := { name := "isLatin1", desc := "()Z", sig := { parameters := [], returnType := some .boolean }, accessFlags := 0, code := some k7c13 }
def k7c14 : Code := { maxStack := 3, maxLocals := 2, code := jdk_42_method_155_code, exceptionTable := #[], attributes := #[] }
def k7m14 : Method := { name := "checkIndex", desc := "(II)V", sig := { parameters := [.int, .int], returnType := none }, accessFlags := 8, code := some k7c14 }
/-- java/lang/String -/
def k7 : Class := { plain "java/lang/String" (some 0) with
  accessFlags := 49
  interfaces := #[2, 3, 4, 5, 6]
  cf := some (fileOf pool7 10 #[.nestMembers #[1103]] #[{ accessFlags := 1, nameIndex := 5, descriptorIndex := 6, attributes := #[] }, { accessFlags := 1, nameIndex := 5, descriptorIndex := 1010, attributes := #[] }, { accessFlags := 1, nameIndex := 5, descriptorIndex := 1233, attributes := #[] }, { accessFlags := 1, nameIndex := 507, descriptorIndex := 334, attributes := #[] }, { accessFlags := 1, nameIndex := 497, descriptorIndex := 427, attributes := #[] }, { accessFlags := 1, nameIndex := 635, descriptorIndex := 765, attributes := #[] }, { accessFlags := 1, nameIndex := 635, descriptorIndex := 636, attributes := #[] }, { accessFlags := 1, nameIndex := 891, descriptorIndex := 892, attributes := #[] }, { accessFlags := 0, nameIndex := 532, descriptorIndex := 821, attributes := #[] }, { accessFlags := 2, nameIndex := 5, descriptorIndex := 29, attributes := #[] }, { accessFlags := 0, nameIndex := 5, descriptorIndex := 491, attributes := #[] }, { accessFlags := 0, nameIndex := 5, descriptorIndex := 211, attributes := #[] }, { accessFlags := 0, nameIndex := 17, descriptorIndex := 337, attributes := #[] }, { accessFlags := 0, nameIndex := 494, descriptorIndex := 142, attributes := #[] }, { accessFlags := 8, nameIndex := 501, descriptorIndex := 391, attributes := #[] }] 49 2 #[1106, 1108, 575, 1110, 1112] #[{ accessFlags := 18, nameIndex := 13, descriptorIndex := 14, attributes := #[] }, { accessFlags := 18, nameIndex := 17, descriptorIndex := 18, attributes := #[] }, { accessFlags := 2, nameIndex := 21, descriptorIndex := 22, attributes := #[] }, { accessFlags := 2, nameIndex := 25, descriptorIndex := 26, attributes := #[] }, { accessFlags := 26, nameIndex := 1116, descriptorIndex := 1117, attributes := #[] }, { accessFlags := 24, nameIndex := 40, descriptorIndex := 26, attributes := #[] }, { accessFlags := 26, nameIndex := 1101, descriptorIndex := 1102, attributes := #[] }, { accessFlags := 26, nameIndex := 1121, descriptorIndex := 1122, attributes := #[] }, { accessFlags := 25, nameIndex := 599, descriptorIndex := 600, attributes := #[] }, { accessFlags := 24, nameIndex := 1125, descriptorIndex := 18, attributes := #[] }, { accessFlags := 24, nameIndex := 1127, descriptorIndex := 18, attributes := #[] }])
  fields := #[{ name := "value", type := (.array .byte), accessFlags := 18, slot := 0, constantValue := 0 }, { name := "coder", type := .byte, accessFlags := 18, slot := 1, constantValue := 0 }, { name := "hash", type := .int, accessFlags := 2, slot := 2, constantValue := 0 }, { name := "hashIsZero", type := .boolean, accessFlags := 2, slot := 3, constantValue := 0 }, { name := "serialVersionUID", type := .long, accessFlags := 26, slot := 0, constantValue := 0 }, { name := "COMPACT_STRINGS", type := .boolean, accessFlags := 24, slot := 1, constantValue := 0 }, { name := "serialPersistentFields", type := (.array (.object "java/io/ObjectStreamField")), accessFlags := 26, slot := 2, constantValue := 0 }, { name := "REPL", type := .char, accessFlags := 26, slot := 3, constantValue := 0 }, { name := "CASE_INSENSITIVE_ORDER", type := (.object "java/util/Comparator"), accessFlags := 25, slot := 4, constantValue := 0 }, { name := "LATIN1", type := .byte, accessFlags := 24, slot := 5, constantValue := 0 }, { name := "UTF16", type := .byte, accessFlags := 24, slot := 6, constantValue := 0 }]
  methods := #[k7m0, k7m1, k7m2, k7m3, k7m4, k7m5, k7m6, k7m7, k7m8, k7m9, k7m10, k7m11, k7m12, k7m13, k7m14]
  instanceTypes := #[(.array .byte), .byte, .int, .boolean]
  staticTypes := #[.long, .boolean, (.array (.object "java/io/ObjectStreamField")), .char, (.object "java/util/Comparator"), .byte, .byte]
  resolved := Array.replicate 1451 none
  statics := some 0 }

def pool8 : Array CpInfo := pool [(6, .class_ 8), (1, u "java/lang/Object"), (0, u "<init>"), (0, u "()V"), (1, .class_ 14), (1, u "java/lang/StringUTF16"), (31, u "$assertionsDisabled"), (0, u "Z"), (13, u "HI_BYTE_SHIFT"), (0, u "I"), (2, u "LO_BYTE_SHIFT"), (49, .methodref 12 116), (0, .nameAndType 117 118), (0, u "compress"), (0, u "([CI[BII)I"), (3, u "([CII)[B"), (138, u "coderFromArrayLen"), (0, u "([BI)B"), (106, .class_ 371), (1, u "java/lang/StringUTF16$LinesSpliterator"), (58, u "MAX_LENGTH"), (196, .class_ 628), (0, u "java/lang/StringUTF16$CodePointsSpliterator"), (0, .class_ 630), (0, u "java/lang/StringUTF16$CharsSpliterator")] 4

def k8m0 : Method := { name := "<init>", desc := "()V", sig := { parameters := [], returnType := none }, accessFlags := 0, code := none }
def k8c1 : Code := { maxStack := 2, maxLocals := 2, code := jdk_52_method_15_code, exceptionTable := #[], attributes := #[] }
def k8m1 : Method := { name := "coderFromArrayLen", desc := "([BI)B", sig := { parameters := [(.array .byte), .int], returnType := some .byte }, accessFlags := 8, code := some k8c1 }
def k8c2 : Code := { maxStack := 5, maxLocals := 6, code := jdk_52_method_16_code, exceptionTable := #[], attributes := #[] }
def k8m2 : Method := { name := "compress", desc := "([CII)[B", sig := { parameters := [(.array .char), .int, .int], returnType := some (.array .byte) }, accessFlags := 9, code := some k8c2 }
def k8c3 : Code := { maxStack := 3, maxLocals := 7, code := jdk_52_method_21_code, exceptionTable := #[], attributes := #[] }
def k8m3 : Method := { name := "compress", desc := "([CI[BII)I", sig := { parameters := [(.array .char), .int, (.array .byte), .int, .int], returnType := some .int }, accessFlags := 9, code := some k8c3 }
/-- java/lang/StringUTF16 -/
def k8 : Class := { plain "java/lang/StringUTF16" (some 0) with
  accessFlags := 48
  interfaces := #[]
  cf := some (fileOf pool8 12 #[.nestMembers #[627, 629, 369]] #[{ accessFlags := 0, nameIndex := 9, descriptorIndex := 10, attributes := #[] }, { accessFlags := 8, nameIndex := 261, descriptorIndex := 262, attributes := #[] }, { accessFlags := 9, nameIndex := 117, descriptorIndex := 122, attributes := #[] }, { accessFlags := 9, nameIndex := 117, descriptorIndex := 118, attributes := #[] }] 48 6 #[] #[{ accessFlags := 26, nameIndex := 61, descriptorIndex := 62, attributes := #[] }, { accessFlags := 26, nameIndex := 65, descriptorIndex := 62, attributes := #[] }, { accessFlags := 24, nameIndex := 430, descriptorIndex := 62, attributes := #[] }, { accessFlags := 4120, nameIndex := 46, descriptorIndex := 47, attributes := #[] }])
  fields := #[{ name := "HI_BYTE_SHIFT", type := .int, accessFlags := 26, slot := 0, constantValue := 0 }, { name := "LO_BYTE_SHIFT", type := .int, accessFlags := 26, slot := 1, constantValue := 0 }, { name := "MAX_LENGTH", type := .int, accessFlags := 24, slot := 2, constantValue := 0 }, { name := "$assertionsDisabled", type := .boolean, accessFlags := 4120, slot := 3, constantValue := 0 }]
  methods := #[k8m0, k8m1, k8m2, k8m3]
  instanceTypes := #[]
  staticTypes := #[.int, .int, .int, .boolean]
  resolved := Array.replicate 635 none
  statics := none }

def pool9 : Array CpInfo := pool [(1, .class_ 2), (0, u "com/example/tickfence/tickfence/ComparablePrice"), (0, .class_ 4), (0, u "java/lang/Object"), (0, .class_ 6), (0, u "java/lang/Comparable")] 7

/-- com/example/tickfence/tickfence/ComparablePrice -/
def k9 : Class := { plain "com/example/tickfence/tickfence/ComparablePrice" (some 0) with
  accessFlags := 1536
  interfaces := #[3]
  cf := some (fileOf pool9 1 #[] #[] 1536 3 #[5] #[])
  fields := #[]
  methods := #[]
  instanceTypes := #[]
  staticTypes := #[]
  resolved := Array.replicate 14 none
  statics := none }

def pool10 : Array CpInfo := pool [(1, .class_ 2), (0, u "com/example/tickfence/tickfence/Price"), (0, .methodref 4 5), (0, .class_ 6), (0, .nameAndType 7 8), (0, u "java/lang/Object"), (0, u "<init>"), (0, u "()V"), (0, .fieldref 1 10), (0, .nameAndType 11 12), (0, u "micros"), (0, u "J"), (0, .methodref 1 14), (0, .nameAndType 15 16), (0, u "requireWritten"), (0, u "(Ljava/lang/String;)V"), (0, .methodref 18 19), (0, .class_ 20), (0, .nameAndType 21 22), (0, u "java/lang/String"), (0, u "indexOf"), (0, u "(I)I"), (0, .methodref 18 24), (0, .nameAndType 25 26), (0, u "length"), (0, u "()I"), (0, .long 999999999), (1, .methodref 1 30), (0, .nameAndType 31 32), (0, u "digitsValue"), (0, u "(Ljava/lang/String;IIJ)J"), (2, .class_ 36), (0, u "java/lang/StringBuilder"), (0, .methodref 35 5), (2, .methodref 35 41), (0, .nameAndType 42 43), (0, u "append"), (0, u "(Ljava/lang/String;)Ljava/lang/StringBuilder;"), (4, u "LARGEST"), (0, u "Lcom/example/tickfence/tickfence/Price;"), (3, .methodref 35 54), (0, .nameAndType 55 56), (0, u "toString"), (0, u "()Ljava/lang/String;"), (2, .long 1000000), (1, .long 10), (5, .methodref 1 68), (0, .nameAndType 7 69), (0, u "(J)V"), (0, .methodref 1 71), (0, .nameAndType 72 73), (0, u "isDigits"), (0, u "(Ljava/lang/String;II)Z"), (33, .class_ 109), (1, u "java/lang/Long"), (6, .methodref 107 117), (0, .nameAndType 55 118), (0, u "(J)Ljava/lang/String;"), (0, .methodref 35 120), (0, .nameAndType 42 121), (0, u "(J)Ljava/lang/StringBuilder;"), (0, .string 123), (0, u "."), (0, .string 125), (0, u "0"), (0, .methodref 18 127), (0, .nameAndType 128 129), (0, u "repeat"), (0, u "(I)Ljava/lang/String;"), (0, .methodref 18 131), (0, .nameAndType 132 133), (0, u "charAt"), (0, u "(I)C"), (8, .class_ 143), (0, u "com/example/tickfence/tickfence/ComparablePrice"), (0, u "MAX_DECIMALS"), (0, u "I"), (2, u "MIN_PRINTED_DECIMALS"), (1, u "MICROS_PER_DOLLAR"), (0, u "MAX_DOLLARS"), (0, u "MAX_MICROS"), (2, u "parse"), (0, u "(Ljava/lang/String;)Lcom/example/tickfence/tickfence/Price;")] 16

def k10c0 : Code := { maxStack := 3, maxLocals := 3, code := prog_19_method_1_code, exceptionTable := #[], attributes := #[] }
def k10m0 : Method := { name := "<init>", desc := "(J)V", sig := { parameters := [.long], returnType := none }, accessFlags := 2, code := some k10c0 }
def k10c1 : Code := { maxStack := 5, maxLocals := 10, code := prog_19_method_2_code, exceptionTable := #[], attributes := #[] }
def k10m1 : Method := { name := "parse", desc := "(Ljava/lang/String;)Lcom/example/tickfence/tickfence/Price;", sig := { parameters := [(.object "java/lang/String")], returnType := some (.object "com/example/tickfence/tickfence/Price") }, accessFlags := 9, code := some k10c1 }
def k10c2 : Code := { maxStack := 4, maxLocals := 5, code := prog_19_method_3_code, exceptionTable := #[], attributes := #[] }
def k10m2 : Method := { name := "requireWritten", desc := "(Ljava/lang/String;)V", sig := { parameters := [(.object "java/lang/String")], returnType := none }, accessFlags := 8, code := some k10c2 }
def k10c3 : Code := { maxStack := 5, maxLocals := 5, code := prog_19_method_12_code, exceptionTable := #[], attributes := #[] }
def k10m3 : Method := { name := "toString", desc := "()Ljava/lang/String;", sig := { parameters := [], returnType := some (.object "java/lang/String") }, accessFlags := 1, code := some k10c3 }
def k10c4 : Code := { maxStack := 2, maxLocals := 5, code := prog_19_method_13_code, exceptionTable := #[], attributes := #[] }
def k10m4 : Method := { name := "isDigits", desc := "(Ljava/lang/String;II)Z", sig := { parameters := [(.object "java/lang/String"), .int, .int], returnType := some .boolean }, accessFlags := 10, code := some k10c4 }
def k10c5 : Code := { maxStack := 4, maxLocals := 8, code := prog_19_method_14_code, exceptionTable := #[], attributes := #[] }
def k10m5 : Method := { name := "digitsValue", desc := "(Ljava/lang/String;IIJ)J", sig := { parameters := [(.object "java/lang/String"), .int, .int, .long], returnType := some .long }, accessFlags := 10, code := some k10c5 }
/-- com/example/tickfence/tickfence/Price -/
def k10 : Class := { plain "com/example/tickfence/tickfence/Price" (some 0) with
  accessFlags := 49
  interfaces := #[9]
  cf := some (fileOf pool10 1 #[] #[{ accessFlags := 2, nameIndex := 7, descriptorIndex := 69, attributes := #[] }, { accessFlags := 9, nameIndex := 155, descriptorIndex := 156, attributes := #[] }, { accessFlags := 8, nameIndex := 15, descriptorIndex := 16, attributes := #[] }, { accessFlags := 1, nameIndex := 55, descriptorIndex := 56, attributes := #[] }, { accessFlags := 10, nameIndex := 72, descriptorIndex := 73, attributes := #[] }, { accessFlags := 10, nameIndex := 31, descriptorIndex := 32, attributes := #[] }] 49 4 #[142] #[{ accessFlags := 24, nameIndex := 144, descriptorIndex := 145, attributes := #[] }, { accessFlags := 26, nameIndex := 148, descriptorIndex := 145, attributes := #[] }, { accessFlags := 26, nameIndex := 150, descriptorIndex := 12, attributes := #[] }, { accessFlags := 26, nameIndex := 151, descriptorIndex := 12, attributes := #[] }, { accessFlags := 26, nameIndex := 152, descriptorIndex := 12, attributes := #[] }, { accessFlags := 26, nameIndex := 48, descriptorIndex := 49, attributes := #[] }, { accessFlags := 18, nameIndex := 11, descriptorIndex := 12, attributes := #[] }])
  fields := #[{ name := "MAX_DECIMALS", type := .int, accessFlags := 24, slot := 0, constantValue := 0 }, { name := "MIN_PRINTED_DECIMALS", type := .int, accessFlags := 26, slot := 1, constantValue := 0 }, { name := "MICROS_PER_DOLLAR", type := .long, accessFlags := 26, slot := 2, constantValue := 0 }, { name := "MAX_DOLLARS", type := .long, accessFlags := 26, slot := 3, constantValue := 0 }, { name := "MAX_MICROS", type := .long, accessFlags := 26, slot := 4, constantValue := 0 }, { name := "LARGEST", type := (.object "com/example/tickfence/tickfence/Price"), accessFlags := 26, slot := 5, constantValue := 0 }, { name := "micros", type := .long, accessFlags := 18, slot := 0, constantValue := 0 }]
  methods := #[k10m0, k10m1, k10m2, k10m3, k10m4, k10m5]
  instanceTypes := #[.long]
  staticTypes := #[.int, .int, .long, .long, .long, (.object "com/example/tickfence/tickfence/Price")]
  resolved := Array.replicate 173 none
  statics := none }

def pool11 : Array CpInfo := pool [(1, .class_ 2), (0, u "java/lang/String"), (1, .class_ 6), (1, u "java/lang/Object"), (0, u "<init>"), (0, u "()V"), (0, .methodref 1 10), (0, .nameAndType 11 12), (0, u "checkIndex"), (0, u "(II)V"), (1, .class_ 16), (1, u "java/lang/StringLatin1"), (21, .methodref 39 40), (0, .class_ 41), (0, .nameAndType 42 43), (0, u "java/lang/Math"), (0, u "min"), (0, u "(II)I"), (9, u "([BI)C"), (34, .methodref 14 89), (0, .nameAndType 90 91), (0, u "canEncode"), (0, u "(I)Z"), (0, .methodref 39 93), (0, .nameAndType 94 43), (0, u "max"), (0, .methodref 14 96), (0, .nameAndType 97 98), (0, u "indexOfChar"), (0, u "([BIII)I"), (2, u "indexOf"), (19, u "$assertionsDisabled"), (0, u "Z"), (98, .class_ 223), (1, u "java/lang/StringLatin1$LinesSpliterator"), (28, u "charAt"), (137, .class_ 391), (0, u "java/lang/StringLatin1$CharsSpliterator")] 3

def k11m0 : Method := { name := "<init>", desc := "()V", sig := { parameters := [], returnType := none }, accessFlags := 0, code := none }
def k11c1 : Code := { maxStack := 2, maxLocals := 2, code := jdk_43_method_2_code, exceptionTable := #[], attributes := #[] }
def k11m1 : Method := { name := "charAt", desc := "([BI)C", sig := { parameters := [(.array .byte), .int], returnType := some .char }, accessFlags := 9, code := some k11c1 }
def k11c2 : Code := { maxStack := 2, maxLocals := 1, code := jdk_43_method_4_code, exceptionTable := #[], attributes := #[] }
def k11m2 : Method := { name := "canEncode", desc := "(I)Z", sig := { parameters := [.int], returnType := some .boolean }, accessFlags := 9, code := some k11c2 }
def k11c3 : Code := { maxStack := 4, maxLocals := 4, code := jdk_43_method_22_code, exceptionTable := #[], attributes := #[] }
def k11m3 : Method := { name := "indexOf", desc := "([BIII)I", sig := { parameters := [(.array .byte), .int, .int, .int], returnType := some .int }, accessFlags := 9, code := some k11c3 }
def k11c4 : Code := { maxStack := 2, maxLocals := 6, code := jdk_43_method_23_code, exceptionTable := #[], attributes := #[] }
def k11m4 : Method := { name := "indexOfChar", desc := "([BIII)I", sig := { parameters := [(.array .byte), .int, .int, .int], returnType := some .int }, accessFlags := 10, code := some k11c4 }
/-- java/lang/StringLatin1 -/
def k11 : Class := { plain "java/lang/StringLatin1" (some 0) with
  accessFlags := 48
  interfaces := #[]
  cf := some (fileOf pool11 14 #[.nestMembers #[390, 221]] #[{ accessFlags := 0, nameIndex := 7, descriptorIndex := 8, attributes := #[] }, { accessFlags := 9, nameIndex := 252, descriptorIndex := 53, attributes := #[] }, { accessFlags := 9, nameIndex := 90, descriptorIndex := 91, attributes := #[] }, { accessFlags := 9, nameIndex := 101, descriptorIndex := 98, attributes := #[] }, { accessFlags := 10, nameIndex := 97, descriptorIndex := 98, attributes := #[] }] 48 4 #[] #[{ accessFlags := 4120, nameIndex := 121, descriptorIndex := 122, attributes := #[] }])
  fields := #[{ name := "$assertionsDisabled", type := .boolean, accessFlags := 4120, slot := 0, constantValue := 0 }]
  methods := #[k11m0, k11m1, k11m2, k11m3, k11m4]
  instanceTypes := #[]
  staticTypes := #[.boolean]
  resolved := Array.replicate 395 none
  statics := none }

def pool12 : Array CpInfo := pool [(1, .class_ 2), (0, u "java/lang/Math"), (1, .class_ 6), (1, u "java/lang/Object"), (0, u "<init>"), (0, u "()V"), (89, .class_ 100), (1, u "java/lang/Math$RandomNumberGeneratorHolder"), (71, u "negativeZeroFloatBits"), (0, u "J"), (2, u "negativeZeroDoubleBits"), (21, u "max"), (2, u "min"), (43, u "$assertionsDisabled"), (0, u "Z"), (88, u "(II)I"), (2, u "twoToTheDoubleScaleDown"), (0, u "D"), (4, u "twoToTheDoubleScaleUp"), (9, u "E"), (3, u "PI"), (2, u "TAU"), (2, u "DEGREES_TO_RADIANS"), (0, u "RADIANS_TO_DEGREES")] 94

def k12m0 : Method := { name := "<init>", desc := "()V", sig := { parameters := [], returnType := none }, accessFlags := 2, code := none }
def k12c1 : Code := { maxStack := 2, maxLocals := 2, code := jdk_29_method_65_code, exceptionTable := #[], attributes := #[] }
def k12m1 : Method := { name := "max", desc := "(II)I", sig := { parameters := [.int, .int], returnType := some .int }, accessFlags := 9, code := some k12c1 }
def k12c2 : Code := { maxStack := 2, maxLocals := 2, code := jdk_29_method_69_code, exceptionTable := #[], attributes := #[] }
def k12m2 : Method := { name := "min", desc := "(II)I", sig := { parameters := [.int, .int], returnType := some .int }, accessFlags := 9, code := some k12c2 }
/-- java/lang/Math -/
def k12 : Class := { plain "java/lang/Math" (some 0) with
  accessFlags := 49
  interfaces := #[]
  cf := some (fileOf pool12 1 #[.nestMembers #[98]] #[{ accessFlags := 2, nameIndex := 7, descriptorIndex := 8, attributes := #[] }, { accessFlags := 9, nameIndex := 198, descriptorIndex := 335, attributes := #[] }, { accessFlags := 9, nameIndex := 201, descriptorIndex := 335, attributes := #[] }] 49 4 #[] #[{ accessFlags := 25, nameIndex := 354, descriptorIndex := 339, attributes := #[] }, { accessFlags := 25, nameIndex := 358, descriptorIndex := 339, attributes := #[] }, { accessFlags := 25, nameIndex := 361, descriptorIndex := 339, attributes := #[] }, { accessFlags := 26, nameIndex := 364, descriptorIndex := 339, attributes := #[] }, { accessFlags := 26, nameIndex := 365, descriptorIndex := 339, attributes := #[] }, { accessFlags := 26, nameIndex := 172, descriptorIndex := 173, attributes := #[] }, { accessFlags := 26, nameIndex := 176, descriptorIndex := 173, attributes := #[] }, { accessFlags := 8, nameIndex := 344, descriptorIndex := 339, attributes := #[] }, { accessFlags := 8, nameIndex := 338, descriptorIndex := 339, attributes := #[] }, { accessFlags := 4120, nameIndex := 245, descriptorIndex := 246, attributes := #[] }])
  fields := #[{ name := "E", type := .double, accessFlags := 25, slot := 0, constantValue := 0 }, { name := "PI", type := .double, accessFlags := 25, slot := 1, constantValue := 0 }, { name := "TAU", type := .double, accessFlags := 25, slot := 2, constantValue := 0 }, { name := "DEGREES_TO_RADIANS", type := .double, accessFlags := 26, slot := 3, constantValue := 0 }, { name := "RADIANS_TO_DEGREES", type := .double, accessFlags := 26, slot := 4, constantValue := 0 }, { name := "negativeZeroFloatBits", type := .long, accessFlags := 26, slot := 5, constantValue := 0 }, { name := "negativeZeroDoubleBits", type := .long, accessFlags := 26, slot := 6, constantValue := 0 }, { name := "twoToTheDoubleScaleUp", type := .double, accessFlags := 8, slot := 7, constantValue := 0 }, { name := "twoToTheDoubleScaleDown", type := .double, accessFlags := 8, slot := 8, constantValue := 0 }, { name := "$assertionsDisabled", type := .boolean, accessFlags := 4120, slot := 9, constantValue := 0 }]
  methods := #[k12m0, k12m1, k12m2]
  instanceTypes := #[]
  staticTypes := #[.double, .double, .double, .double, .double, .long, .long, .double, .double, .boolean]
  resolved := Array.replicate 460 none
  statics := none }

def pool13 : Array CpInfo := pool [(2, .class_ 4), (1, u "java/lang/Object"), (0, u "<init>"), (0, u "()V"), (17, .class_ 26), (1, u "jdk/internal/util/Preconditions"), (6, u "checkIndex"), (21, .class_ 56), (0, u "jdk/internal/util/Preconditions$4"), (57, .class_ 115), (0, u "jdk/internal/util/Preconditions$1"), (7, u "SIOOBE_FORMATTER"), (0, u "Ljava/util/function/BiFunction;"), (0, .class_ 126), (0, u "jdk/internal/util/Preconditions$2"), (3, u "AIOOBE_FORMATTER"), (0, .class_ 132), (0, u "jdk/internal/util/Preconditions$3"), (3, u "IOOBE_FORMATTER"), (41, u "(IILjava/util/function/BiFunction;)I")] 15

def k13m0 : Method := { name := "<init>", desc := "()V", sig := { parameters := [], returnType := none }, accessFlags := 1, code := none }
def k13c1 : Code := { maxStack := 3, maxLocals := 3, code := jdk_41_method_11_code, exceptionTable := #[], attributes := #[] }
def k13m1 : Method := { name := "checkIndex", desc := "(IILjava/util/function/BiFunction;)I", sig := { parameters := [.int, .int, (.object "java/util/function/BiFunction")], returnType := some .int }, accessFlags := 9, code := some k13c1 }
/-- jdk/internal/util/Preconditions -/
def k13 : Class := { plain "jdk/internal/util/Preconditions" (some 0) with
  accessFlags := 33
  interfaces := #[]
  cf := some (fileOf pool13 24 #[.nestMembers #[55, 131, 125, 114]] #[{ accessFlags := 1, nameIndex := 5, descriptorIndex := 6, attributes := #[] }, { accessFlags := 9, nameIndex := 33, descriptorIndex := 178, attributes := #[] }] 33 2 #[] #[{ accessFlags := 25, nameIndex := 123, descriptorIndex := 124, attributes := #[] }, { accessFlags := 25, nameIndex := 130, descriptorIndex := 124, attributes := #[] }, { accessFlags := 25, nameIndex := 136, descriptorIndex := 124, attributes := #[] }])
  fields := #[{ name := "SIOOBE_FORMATTER", type := (.object "java/util/function/BiFunction"), accessFlags := 25, slot := 0, constantValue := 0 }, { name := "AIOOBE_FORMATTER", type := (.object "java/util/function/BiFunction"), accessFlags := 25, slot := 1, constantValue := 0 }, { name := "IOOBE_FORMATTER", type := (.object "java/util/function/BiFunction"), accessFlags := 25, slot := 2, constantValue := 0 }]
  methods := #[k13m0, k13m1]
  instanceTypes := #[]
  staticTypes := #[(.object "java/util/function/BiFunction"), (.object "java/util/function/BiFunction"), (.object "java/util/function/BiFunction")]
  resolved := Array.replicate 194 none
  statics := some 1 }

def pool14 : Array CpInfo := pool [(2, .class_ 4), (1, u "java/lang/Object"), (0, u "<init>"), (0, u "()V"), (1, .class_ 10), (1, u "java/lang/Number"), (2, .class_ 14), (0, u "java/io/Serializable"), (0, u "serialVersionUID"), (0, u "J")] 20

def k14m0 : Method := { name := "<init>", desc := "()V", sig := { parameters := [], returnType := none }, accessFlags := 1, code := none }
/-- java/lang/Number -/
def k14 : Class := { plain "java/lang/Number" (some 0) with
  accessFlags := 1057
  interfaces := #[2]
  cf := some (fileOf pool14 8 #[] #[{ accessFlags := 1, nameIndex := 5, descriptorIndex := 6, attributes := #[] }] 1057 2 #[13] #[{ accessFlags := 26, nameIndex := 15, descriptorIndex := 16, attributes := #[] }])
  fields := #[{ name := "serialVersionUID", type := .long, accessFlags := 26, slot := 0, constantValue := 0 }]
  methods := #[k14m0]
  instanceTypes := #[]
  staticTypes := #[.long]
  resolved := Array.replicate 37 none
  statics := none }

def pool15 : Array CpInfo := pool [(1, .class_ 2), (0, u "java/lang/Long"), (2, .class_ 6), (0, u "java/lang/String"), (4, u "toString"), (0, u "(J)Ljava/lang/String;"), (0, .fieldref 5 14), (0, .nameAndType 15 16), (0, u "COMPACT_STRINGS"), (0, u "Z"), (1, .class_ 20), (1, u "java/lang/Integer"), (32, .long 10), (5, u "<init>"), (41, u "(J)I"), (10, .methodref 5 113), (0, .nameAndType 59 114), (0, u "([BB)V"), (3, .methodref 1 119), (0, .nameAndType 120 101), (0, u "stringSize"), (0, .methodref 1 122), (0, .nameAndType 123 124), (0, u "getChars"), (0, u "(JI[B)I"), (4, .long 18446744071562067968), (3, .fieldref 18 134), (0, .nameAndType 135 136), (0, u "DigitOnes"), (0, u "[B"), (0, .fieldref 18 138), (0, .nameAndType 139 136), (0, u "DigitTens"), (0, .long 18446744073709551606), (94, .class_ 237), (1, u "java/lang/Long$LongCache"), (33, .class_ 272), (0, u "java/lang/Number"), (2, u "value"), (0, u "J"), (84, u "TYPE"), (0, u "Ljava/lang/Class;"), (0, .class_ 364), (0, u "java/lang/Comparable"), (0, .class_ 366), (0, u "java/lang/constant/Constable"), (0, .class_ 368), (0, u "java/lang/constant/ConstantDesc"), (0, u "MIN_VALUE"), (1, u "MAX_VALUE"), (4, u "SIZE"), (0, u "I"), (1, u "BYTES"), (1, u "serialVersionUID")] 142

def k15c0 : Code := { maxStack := 4, maxLocals := 4, code := jdk_35_method_12_code, exceptionTable := #[], attributes := #[] }
def k15m0 : Method := { name := "toString", desc := "(J)Ljava/lang/String;", sig := { parameters := [.long], returnType := some (.object "java/lang/String") }, accessFlags := 9, code := some k15c0 }
def k15c1 : Code := { maxStack := 4, maxLocals := 11, code := jdk_35_method_14_code, exceptionTable := #[], attributes := #[] }
def k15m1 : Method := { name := "getChars", desc := "(JI[B)I", sig := { parameters := [.long, .int, (.array .byte)], returnType := some .int }, accessFlags := 8, code := some k15c1 }
def k15c2 : Code := { maxStack := 4, maxLocals := 6, code := jdk_35_method_15_code, exceptionTable := #[], attributes := #[] }
def k15m2 : Method := { name := "stringSize", desc := "(J)I", sig := { parameters := [.long], returnType := some .int }, accessFlags := 8, code := some k15c2 }
/-- java/lang/Long -/
def k15 : Class := { plain "java/lang/Long" (some 14) with
  accessFlags := 49
  interfaces := #[3, 5, 6]
  cf := some (fileOf pool15 1 #[.nestMembers #[235]] #[{ accessFlags := 9, nameIndex := 11, descriptorIndex := 12, attributes := #[] }, { accessFlags := 8, nameIndex := 123, descriptorIndex := 124, attributes := #[] }, { accessFlags := 8, nameIndex := 120, descriptorIndex := 101, attributes := #[] }] 49 271 #[363, 365, 367] #[{ accessFlags := 25, nameIndex := 369, descriptorIndex := 276, attributes := #[] }, { accessFlags := 25, nameIndex := 371, descriptorIndex := 276, attributes := #[] }, { accessFlags := 25, nameIndex := 361, descriptorIndex := 362, attributes := #[] }, { accessFlags := 18, nameIndex := 275, descriptorIndex := 276, attributes := #[] }, { accessFlags := 25, nameIndex := 376, descriptorIndex := 377, attributes := #[] }, { accessFlags := 25, nameIndex := 379, descriptorIndex := 377, attributes := #[] }, { accessFlags := 26, nameIndex := 381, descriptorIndex := 276, attributes := #[] }])
  fields := #[{ name := "MIN_VALUE", type := .long, accessFlags := 25, slot := 0, constantValue := 0 }, { name := "MAX_VALUE", type := .long, accessFlags := 25, slot := 1, constantValue := 0 }, { name := "TYPE", type := (.object "java/lang/Class"), accessFlags := 25, slot := 2, constantValue := 0 }, { name := "value", type := .long, accessFlags := 18, slot := 0, constantValue := 0 }, { name := "SIZE", type := .int, accessFlags := 25, slot := 3, constantValue := 0 }, { name := "BYTES", type := .int, accessFlags := 25, slot := 4, constantValue := 0 }, { name := "serialVersionUID", type := .long, accessFlags := 26, slot := 5, constantValue := 0 }]
  methods := #[k15m0, k15m1, k15m2]
  instanceTypes := #[.long]
  staticTypes := #[.long, .long, (.object "java/lang/Class"), .int, .int, .long]
  resolved := Array.replicate 524 none
  statics := none }

def pool16 : Array CpInfo := pool [(1, .class_ 2), (0, u "java/lang/Integer"), (16, u "digits"), (0, u "[C"), (64, u "DigitOnes"), (0, u "[B"), (2, u "DigitTens"), (99, .class_ 190), (0, u "java/lang/Integer$IntegerCache"), (3, u "I"), (8, .class_ 204), (0, u "java/lang/Number"), (2, u "value"), (94, u "TYPE"), (0, u "Ljava/lang/Class;"), (0, .class_ 305), (0, u "java/lang/Comparable"), (0, .class_ 307), (0, u "java/lang/constant/Constable"), (0, .class_ 309), (0, u "java/lang/constant/ConstantDesc"), (0, u "MIN_VALUE"), (1, u "MAX_VALUE"), (3, u "SIZE"), (1, u "BYTES"), (1, u "serialVersionUID"), (0, u "J")] 131

/-- java/lang/Integer -/
def k16 : Class := { plain "java/lang/Integer" (some 14) with
  accessFlags := 49
  interfaces := #[3, 5, 6]
  cf := some (fileOf pool16 1 #[.nestMembers #[189]] #[] 49 203 #[304, 306, 308] #[{ accessFlags := 25, nameIndex := 310, descriptorIndex := 194, attributes := #[] }, { accessFlags := 25, nameIndex := 312, descriptorIndex := 194, attributes := #[] }, { accessFlags := 25, nameIndex := 302, descriptorIndex := 303, attributes := #[] }, { accessFlags := 24, nameIndex := 19, descriptorIndex := 20, attributes := #[] }, { accessFlags := 24, nameIndex := 89, descriptorIndex := 86, attributes := #[] }, { accessFlags := 24, nameIndex := 85, descriptorIndex := 86, attributes := #[] }, { accessFlags := 18, nameIndex := 207, descriptorIndex := 194, attributes := #[] }, { accessFlags := 25, nameIndex := 316, descriptorIndex := 194, attributes := #[] }, { accessFlags := 25, nameIndex := 318, descriptorIndex := 194, attributes := #[] }, { accessFlags := 26, nameIndex := 320, descriptorIndex := 321, attributes := #[] }])
  fields := #[{ name := "MIN_VALUE", type := .int, accessFlags := 25, slot := 0, constantValue := 0 }, { name := "MAX_VALUE", type := .int, accessFlags := 25, slot := 1, constantValue := 0 }, { name := "TYPE", type := (.object "java/lang/Class"), accessFlags := 25, slot := 2, constantValue := 0 }, { name := "digits", type := (.array .char), accessFlags := 24, slot := 3, constantValue := 0 }, { name := "DigitTens", type := (.array .byte), accessFlags := 24, slot := 4, constantValue := 0 }, { name := "DigitOnes", type := (.array .byte), accessFlags := 24, slot := 5, constantValue := 0 }, { name := "value", type := .int, accessFlags := 18, slot := 0, constantValue := 0 }, { name := "SIZE", type := .int, accessFlags := 25, slot := 6, constantValue := 0 }, { name := "BYTES", type := .int, accessFlags := 25, slot := 7, constantValue := 0 }, { name := "serialVersionUID", type := .long, accessFlags := 26, slot := 8, constantValue := 0 }]
  methods := #[]
  instanceTypes := #[.int]
  staticTypes := #[.int, .int, (.object "java/lang/Class"), (.array .char), (.array .byte), (.array .byte), .int, .int, .long]
  resolved := Array.replicate 453 none
  statics := some 2 }

def pool17 : Array CpInfo := pool [(1, .class_ 2), (0, u "java/lang/Appendable"), (0, .class_ 4), (0, u "java/lang/Object")] 9

/-- java/lang/Appendable -/
def k17 : Class := { plain "java/lang/Appendable" (some 0) with
  accessFlags := 1537
  interfaces := #[]
  cf := some (fileOf pool17 1 #[] #[] 1537 3 #[] #[])
  fields := #[]
  methods := #[]
  instanceTypes := #[]
  staticTypes := #[]
  resolved := Array.replicate 14 none
  statics := none }

def pool18 : Array CpInfo := pool [(1, .class_ 2), (0, u "java/lang/String"), (0, .methodref 4 5), (0, .class_ 6), (0, .nameAndType 7 8), (0, u "java/lang/Object"), (0, u "<init>"), (0, u "()V"), (1, .class_ 12), (1, u "java/lang/AbstractStringBuilder"), (0, u "EMPTYVALUE"), (0, u "[B"), (0, .fieldref 10 16), (0, .nameAndType 17 14), (0, u "value"), (0, .fieldref 1 19), (0, .nameAndType 20 21), (0, u "COMPACT_STRINGS"), (0, u "Z"), (0, .fieldref 10 23), (0, .nameAndType 24 25), (0, u "coder"), (0, u "B"), (6, .methodref 1 33), (0, .nameAndType 34 35), (0, u "length"), (0, u "()I"), (4, .methodref 1 41), (0, .nameAndType 24 42), (0, u "()B"), (2, u "append"), (0, u "(Ljava/lang/String;)Ljava/lang/AbstractStringBuilder;"), (1, .class_ 49), (0, u "java/lang/CharSequence"), (19, u "(Ljava/lang/String;)V"), (5, u "maybeLatin1"), (3, .fieldref 10 80), (0, .nameAndType 81 82), (0, u "count"), (0, u "I"), (0, .methodref 10 84), (0, .nameAndType 85 86), (0, u "isLatin1"), (0, u "()Z"), (13, .methodref 10 101), (0, .nameAndType 102 103), (0, u "ensureCapacityInternal"), (0, u "(I)V"), (84, u "getChars"), (19, .methodref 10 209), (0, .nameAndType 210 211), (0, u "putStringAt"), (0, u "(ILjava/lang/String;)V"), (5, u "inflateIfNeededFor"), (2, .nameAndType 221 222), (0, u "getBytes"), (0, u "([BIB)V"), (24, u "stringSize"), (6, .methodref 255 256), (0, .class_ 257), (0, .nameAndType 247 258), (0, u "java/lang/Long"), (0, u "(J)I"), (0, .methodref 255 260), (0, .nameAndType 188 261), (0, u "(JI[B)I"), (135, .methodref 10 398), (0, .nameAndType 217 69), (0, .methodref 1 220), (3, u "()[B"), (40, .class_ 445), (0, u "java/lang/Appendable"), (67, u "(J)Ljava/lang/AbstractStringBuilder;"), (38, u "getValue")] 56

def k18m0 : Method := { name := "<init>", desc := "()V", sig := { parameters := [], returnType := none }, accessFlags := 0, code := none }
def k18c1 : Code := { maxStack := 2, maxLocals := 2, code := jdk_68_method_2_code, exceptionTable := #[], attributes := #[] }
def k18m1 : Method := { name := "<init>", desc := "(I)V", sig := { parameters := [.int], returnType := none }, accessFlags := 0, code := some k18c1 }
def k18c2 : Code := { maxStack := 1, maxLocals := 1, code := jdk_68_method_6_code, exceptionTable := #[], attributes := #[] }
def k18m2 : Method := { name := "length", desc := "()I", sig := { parameters := [], returnType := some .int }, accessFlags := 1, code := some k18c2 }
def k18c3 : Code := { maxStack := 4, maxLocals := 3, code := jdk_68_method_9_code, exceptionTable := #[], attributes := #[] }
def k18m3 : Method := { name := "ensureCapacityInternal", desc := "(I)V", sig := { parameters := [.int], returnType := none }, accessFlags := 2, code := some k18c3 }
def k18c4 : Code := { maxStack := 3, maxLocals := 3, code := jdk_68_method_22_code, exceptionTable := #[], attributes := #[] }
def k18m4 : Method := { name := "append", desc := "(Ljava/lang/String;)Ljava/lang/AbstractStringBuilder;", sig := { parameters := [(.object "java/lang/String")], returnType := some (.object "java/lang/AbstractStringBuilder") }, accessFlags := 1, code := some k18c4 }
def k18c5 : Code := { maxStack := 5, maxLocals := 5, code := jdk_68_method_33_code, exceptionTable := #[], attributes := #[] }
def k18m5 : Method := { name := "append", desc := "(J)Ljava/lang/AbstractStringBuilder;", sig := { parameters := [.long], returnType := some (.object "java/lang/AbstractStringBuilder") }, accessFlags := 1, code := some k18c5 }
def k18c6 : Code := { maxStack := 1, maxLocals := 1, code := jdk_68_method_64_code, exceptionTable := #[], attributes := #[] }
def k18m6 : Method := { name := "getValue", desc := "()[B", sig := { parameters := [], returnType := some (.array .byte) }, accessFlags := 16, code := some k18c6 }
def k18c7 : Code := { maxStack := 1, maxLocals := 1, code := jdk_68_method_68_code, exceptionTable := #[], attributes := #[] }
def k18m7 : Method := { name := "isLatin1", desc := "()Z", sig := { parameters := [], returnType := some .boolean }, accessFlags := 16, code := some k18c7 }
def k18c8 : Code := { maxStack := 2, maxLocals := 2, code := jdk_68_method_71_code, exceptionTable := #[], attributes := #[] }
def k18m8 : Method := { name := "inflateIfNeededFor", desc := "(Ljava/lang/String;)V", sig := { parameters := [(.object "java/lang/String")], returnType := none }, accessFlags := 2, code := some k18c8 }
def k18c9 : Code := { maxStack := 4, maxLocals := 3, code := jdk_68_method_73_code, exceptionTable := #[], attributes := #[] }
def k18m9 : Method := { name := "putStringAt", desc := "(ILjava/lang/String;)V", sig := { parameters := [.int, (.object "java/lang/String")], returnType := none }, accessFlags := 2, code := some k18c9 }
/-- java/lang/AbstractStringBuilder -/
def k18 : Class := { plain "java/lang/AbstractStringBuilder" (some 0) with
  accessFlags := 1056
  interfaces := #[17, 4]
  cf := some (fileOf pool18 10 #[] #[{ accessFlags := 0, nameIndex := 7, descriptorIndex := 8, attributes := #[] }, { accessFlags := 0, nameIndex := 7, descriptorIndex := 103, attributes := #[] }, { accessFlags := 1, nameIndex := 34, descriptorIndex := 35, attributes := #[] }, { accessFlags := 2, nameIndex := 102, descriptorIndex := 103, attributes := #[] }, { accessFlags := 1, nameIndex := 45, descriptorIndex := 46, attributes := #[] }, { accessFlags := 1, nameIndex := 45, descriptorIndex := 513, attributes := #[] }, { accessFlags := 16, nameIndex := 552, descriptorIndex := 403, attributes := #[] }, { accessFlags := 16, nameIndex := 85, descriptorIndex := 86, attributes := #[] }, { accessFlags := 2, nameIndex := 217, descriptorIndex := 69, attributes := #[] }, { accessFlags := 2, nameIndex := 210, descriptorIndex := 211, attributes := #[] }] 1056 4 #[444, 48] #[{ accessFlags := 0, nameIndex := 17, descriptorIndex := 14, attributes := #[] }, { accessFlags := 0, nameIndex := 24, descriptorIndex := 25, attributes := #[] }, { accessFlags := 0, nameIndex := 75, descriptorIndex := 21, attributes := #[] }, { accessFlags := 0, nameIndex := 81, descriptorIndex := 82, attributes := #[] }, { accessFlags := 26, nameIndex := 13, descriptorIndex := 14, attributes := #[] }])
  fields := #[{ name := "value", type := (.array .byte), accessFlags := 0, slot := 0, constantValue := 0 }, { name := "coder", type := .byte, accessFlags := 0, slot := 1, constantValue := 0 }, { name := "maybeLatin1", type := .boolean, accessFlags := 0, slot := 2, constantValue := 0 }, { name := "count", type := .int, accessFlags := 0, slot := 3, constantValue := 0 }, { name := "EMPTYVALUE", type := (.array .byte), accessFlags := 26, slot := 0, constantValue := 0 }]
  methods := #[k18m0, k18m1, k18m2, k18m3, k18m4, k18m5, k18m6, k18m7, k18m8, k18m9]
  instanceTypes := #[(.array .byte), .byte, .boolean, .int]
  staticTypes := #[(.array .byte)]
  resolved := Array.replicate 609 none
  statics := none }

def pool19 : Array CpInfo := pool [(1, .methodref 2 3), (0, .class_ 4), (0, .nameAndType 5 6), (0, u "java/lang/AbstractStringBuilder"), (0, u "<init>"), (0, u "(I)V"), (11, .class_ 20), (1, u "java/lang/String"), (3, .class_ 26), (1, u "java/lang/StringBuilder"), (0, u "append"), (0, u "(Ljava/lang/String;)Ljava/lang/StringBuilder;"), (0, .methodref 2 30), (0, .nameAndType 27 31), (0, u "(Ljava/lang/String;)Ljava/lang/AbstractStringBuilder;"), (24, .methodref 2 57), (0, .nameAndType 27 58), (0, u "(J)Ljava/lang/AbstractStringBuilder;"), (78, .methodref 18 138), (0, .nameAndType 5 139), (0, u "(Ljava/lang/StringBuilder;)V"), (5, u "()V"), (10, u "()I"), (124, u "(J)Ljava/lang/StringBuilder;"), (61, .methodref 2 344), (0, .nameAndType 345 156), (0, u "length"), (3, .class_ 350), (0, u "java/lang/Appendable"), (0, .class_ 352), (0, u "java/io/Serializable"), (0, .class_ 354), (0, u "java/lang/Comparable"), (0, .class_ 356), (0, u "java/lang/CharSequence"), (0, u "serialVersionUID"), (0, u "J"), (40, u "toString"), (0, u "()Ljava/lang/String;")] 21

def k19c0 : Code := { maxStack := 2, maxLocals := 1, code := jdk_67_method_1_code, exceptionTable := #[], attributes := #[] }
def k19m0 : Method := { name := "<init>", desc := "()V", sig := { parameters := [], returnType := none }, accessFlags := 1, code := some k19c0 }
def k19c1 : Code := { maxStack := 2, maxLocals := 2, code := jdk_67_method_7_code, exceptionTable := #[], attributes := #[] }
def k19m1 : Method := { name := "append", desc := "(Ljava/lang/String;)Ljava/lang/StringBuilder;", sig := { parameters := [(.object "java/lang/String")], returnType := some (.object "java/lang/StringBuilder") }, accessFlags := 1, code := some k19c1 }
def k19c2 : Code := { maxStack := 3, maxLocals := 3, code := jdk_67_method_16_code, exceptionTable := #[], attributes := #[] }
def k19m2 : Method := { name := "append", desc := "(J)Ljava/lang/StringBuilder;", sig := { parameters := [.long], returnType := some (.object "java/lang/StringBuilder") }, accessFlags := 1, code := some k19c2 }
def k19c3 : Code := { maxStack := 3, maxLocals := 1, code := jdk_67_method_42_code, exceptionTable := #[], attributes := #[] }
def k19m3 : Method := { name := "toString", desc := "()Ljava/lang/String;", sig := { parameters := [], returnType := some (.object "java/lang/String") }, accessFlags := 1, code := some k19c3 }
def k19c4 : Code := { maxStack := 1, maxLocals := 1, code := jdk_67_method_93_code, exceptionTable := #[], attributes := #[] }
def k19m4 : Method := { name := "length", desc := "()I", sig := { parameters := [], returnType := some .int }, accessFlags := 4161, code := some k19c4 }
/-- java/lang/StringBuilder -/
def k19 : Class := { plain "java/lang/StringBuilder" (some 18) with
  accessFlags := 49
  interfaces := #[17, 2, 3, 4]
  cf := some (fileOf pool19 24 #[] #[{ accessFlags := 1, nameIndex := 5, descriptorIndex := 145, attributes := #[] }, { accessFlags := 1, nameIndex := 27, descriptorIndex := 28, attributes := #[] }, { accessFlags := 1, nameIndex := 27, descriptorIndex := 281, attributes := #[] }, { accessFlags := 1, nameIndex := 399, descriptorIndex := 400, attributes := #[] }, { accessFlags := 4161, nameIndex := 345, descriptorIndex := 156, attributes := #[] }] 49 2 #[349, 351, 353, 355] #[{ accessFlags := 24, nameIndex := 357, descriptorIndex := 358, attributes := #[] }])
  fields := #[{ name := "serialVersionUID", type := .long, accessFlags := 24, slot := 0, constantValue := 0 }]
  methods := #[k19m0, k19m1, k19m2, k19m3, k19m4]
  instanceTypes := #[(.array .byte), .byte, .boolean, .int]
  staticTypes := #[.long]
  resolved := Array.replicate 422 none
  statics := none }

def pool20 : Array CpInfo := pool [(2, .class_ 4), (1, u "java/lang/Object"), (0, u "<init>"), (0, u "()V"), (1, .class_ 10), (1, u "java/lang/System"), (0, u "allowSecurityManager"), (0, u "I"), (16, u "cons"), (0, u "Ljava/io/Console;"), (77, .class_ 110), (1, u "java/lang/System$CallersHolder"), (43, u "initialErrStream"), (0, u "Ljava/io/PrintStream;"), (19, u "security"), (0, u "Ljava/lang/SecurityManager;"), (31, .class_ 209), (0, u "java/lang/System$1"), (7, u "props"), (0, u "Ljava/util/Properties;"), (2, u "lineSeparator"), (0, u "Ljava/lang/String;"), (96, .class_ 321), (1, u "java/lang/System$LoggerFinder"), (5, .class_ 328), (0, u "java/lang/System$Logger"), (67, u "err"), (2, u "out"), (91, u "notSupportedJnuEncoding"), (15, u "in"), (17, u "initialIn"), (0, u "Ljava/io/InputStream;"), (35, u "bootLayer"), (0, u "Ljava/lang/ModuleLayer;"), (99, .class_ 664), (0, u "java/lang/System$2"), (9, u "NEVER"), (2, u "MAYBE"), (49, u "arraycopy"), (0, u "(Ljava/lang/Object;ILjava/lang/Object;II)V"), (72, .class_ 802), (0, u "java/lang/System$Logger$Level")] 31

def k20m0 : Method := { name := "<init>", desc := "()V", sig := { parameters := [], returnType := none }, accessFlags := 2, code := none }
def k20m1 : Method := { name := "arraycopy", desc := "(Ljava/lang/Object;ILjava/lang/Object;II)V", sig := { parameters := [(.object "java/lang/Object"), .int, (.object "java/lang/Object"), .int, .int], returnType := none }, accessFlags := 265, code := none }
/-- java/lang/System -/
def k20 : Class := { plain "java/lang/System" (some 0) with
  accessFlags := 49
  interfaces := #[]
  cf := some (fileOf pool20 8 #[.nestMembers #[319, 327, 801, 108, 663, 208]] #[{ accessFlags := 2, nameIndex := 5, descriptorIndex := 6, attributes := #[] }, { accessFlags := 265, nameIndex := 727, descriptorIndex := 728, attributes := #[] }] 49 2 #[] #[{ accessFlags := 25, nameIndex := 507, descriptorIndex := 526, attributes := #[] }, { accessFlags := 25, nameIndex := 399, descriptorIndex := 155, attributes := #[] }, { accessFlags := 25, nameIndex := 396, descriptorIndex := 155, attributes := #[] }, { accessFlags := 10, nameIndex := 525, descriptorIndex := 526, attributes := #[] }, { accessFlags := 26, nameIndex := 674, descriptorIndex := 12, attributes := #[] }, { accessFlags := 26, nameIndex := 677, descriptorIndex := 12, attributes := #[] }, { accessFlags := 10, nameIndex := 11, descriptorIndex := 12, attributes := #[] }, { accessFlags := 74, nameIndex := 175, descriptorIndex := 176, attributes := #[] }, { accessFlags := 10, nameIndex := 491, descriptorIndex := 222, attributes := #[] }, { accessFlags := 74, nameIndex := 29, descriptorIndex := 30, attributes := #[] }, { accessFlags := 74, nameIndex := 154, descriptorIndex := 155, attributes := #[] }, { accessFlags := 10, nameIndex := 217, descriptorIndex := 218, attributes := #[] }, { accessFlags := 10, nameIndex := 221, descriptorIndex := 222, attributes := #[] }, { accessFlags := 8, nameIndex := 562, descriptorIndex := 563, attributes := #[] }])
  fields := #[{ name := "in", type := (.object "java/io/InputStream"), accessFlags := 25, slot := 0, constantValue := 0 }, { name := "out", type := (.object "java/io/PrintStream"), accessFlags := 25, slot := 1, constantValue := 0 }, { name := "err", type := (.object "java/io/PrintStream"), accessFlags := 25, slot := 2, constantValue := 0 }, { name := "initialIn", type := (.object "java/io/InputStream"), accessFlags := 10, slot := 3, constantValue := 0 }, { name := "NEVER", type := .int, accessFlags := 26, slot := 4, constantValue := 0 }, { name := "MAYBE", type := .int, accessFlags := 26, slot := 5, constantValue := 0 }, { name := "allowSecurityManager", type := .int, accessFlags := 10, slot := 6, constantValue := 0 }, { name := "security", type := (.object "java/lang/SecurityManager"), accessFlags := 74, slot := 7, constantValue := 0 }, { name := "notSupportedJnuEncoding", type := (.object "java/lang/String"), accessFlags := 10, slot := 8, constantValue := 0 }, { name := "cons", type := (.object "java/io/Console"), accessFlags := 74, slot := 9, constantValue := 0 }, { name := "initialErrStream", type := (.object "java/io/PrintStream"), accessFlags := 74, slot := 10, constantValue := 0 }, { name := "props", type := (.object "java/util/Properties"), accessFlags := 10, slot := 11, constantValue := 0 }, { name := "lineSeparator", type := (.object "java/lang/String"), accessFlags := 10, slot := 12, constantValue := 0 }, { name := "bootLayer", type := (.object "java/lang/ModuleLayer"), accessFlags := 8, slot := 13, constantValue := 0 }]
  methods := #[k20m0, k20m1]
  instanceTypes := #[]
  staticTypes := #[(.object "java/io/InputStream"), (.object "java/io/PrintStream"), (.object "java/io/PrintStream"), (.object "java/io/InputStream"), .int, .int, .int, (.object "java/lang/SecurityManager"), (.object "java/lang/String"), (.object "java/io/Console"), (.object "java/io/PrintStream"), (.object "java/util/Properties"), (.object "java/lang/String"), (.object "java/lang/ModuleLayer")]
  resolved := Array.replicate 834 none
  statics := none }

def pool21 : Array CpInfo := pool [(2, .class_ 4), (1, u "java/lang/Object"), (0, u "<init>"), (0, u "()V"), (7, .class_ 16), (1, u "java/util/Arrays"), (57, .class_ 76), (1, u "java/util/Arrays$NaturalOrder"), (32, u "()Ljava/lang/Object;"), (3, .class_ 115), (1, u "java/util/Arrays$LegacyMergeSort"), (1, u "Z"), (10, .nameAndType 129 109), (0, u "clone"), (9, u "copyOfRange"), (10, .methodref 151 152), (0, .class_ 153), (0, .nameAndType 154 155), (0, u "java/lang/System"), (0, u "arraycopy"), (0, u "(Ljava/lang/Object;ILjava/lang/Object;II)V"), (148, .methodref 305 306), (0, .class_ 307), (0, .nameAndType 308 309), (0, u "java/lang/Math"), (0, u "min"), (0, u "(II)I"), (0, .methodref 311 128), (0, .class_ 312), (0, u "[B"), (26, .methodref 14 340), (0, .nameAndType 341 342), (0, u "copyOfRangeByte"), (0, u "([BII)[B"), (0, .methodref 14 344), (0, .nameAndType 345 346), (0, u "checkLength"), (0, u "(II)V"), (28, .class_ 376), (0, u "java/util/Arrays$ArrayList"), (68, u "$assertionsDisabled"), (269, u "MIN_ARRAY_SORT_GRAN"), (0, u "I"), (2, u "INSERTIONSORT_THRESHOLD"), (120, u "fill"), (9, u "([BB)V"), (124, .class_ 976), (0, u "java/util/Arrays$ArrayItr")] 52

def k21m0 : Method := { name := "<init>", desc := "()V", sig := { parameters := [], returnType := none }, accessFlags := 2, code := none }
def k21c1 : Code := { maxStack := 3, maxLocals := 4, code := jdk_65_method_109_code, exceptionTable := #[], attributes := #[] }
def k21m1 : Method := { name := "fill", desc := "([BB)V", sig := { parameters := [(.array .byte), .byte], returnType := none }, accessFlags := 9, code := some k21c1 }
def k21c2 : Code := { maxStack := 4, maxLocals := 2, code := jdk_65_method_131_code, exceptionTable := #[], attributes := #[] }
def k21m2 : Method := { name := "checkLength", desc := "(II)V", sig := { parameters := [.int, .int], returnType := none }, accessFlags := 10, code := some k21c2 }
def k21c3 : Code := { maxStack := 3, maxLocals := 3, code := jdk_65_method_132_code, exceptionTable := #[], attributes := #[] }
def k21m3 : Method := { name := "copyOfRange", desc := "([BII)[B", sig := { parameters := [(.array .byte), .int, .int], returnType := some (.array .byte) }, accessFlags := 9, code := some k21c3 }
def k21c4 : Code := { maxStack := 6, maxLocals := 5, code := jdk_65_method_133_code, exceptionTable := #[], attributes := #[] }
def k21m4 : Method := { name := "copyOfRangeByte", desc := "([BII)[B", sig := { parameters := [(.array .byte), .int, .int], returnType := some (.array .byte) }, accessFlags := 10, code := some k21c4 }
/-- java/util/Arrays -/
def k21 : Class := { plain "java/util/Arrays" (some 0) with
  accessFlags := 49
  interfaces := #[]
  cf := some (fileOf pool21 14 #[.nestMembers #[975, 375, 113, 74]] #[{ accessFlags := 2, nameIndex := 5, descriptorIndex := 6, attributes := #[] }, { accessFlags := 9, nameIndex := 840, descriptorIndex := 850, attributes := #[] }, { accessFlags := 10, nameIndex := 345, descriptorIndex := 346, attributes := #[] }, { accessFlags := 9, nameIndex := 139, descriptorIndex := 342, attributes := #[] }, { accessFlags := 10, nameIndex := 341, descriptorIndex := 342, attributes := #[] }] 49 2 #[] #[{ accessFlags := 26, nameIndex := 715, descriptorIndex := 716, attributes := #[] }, { accessFlags := 26, nameIndex := 719, descriptorIndex := 716, attributes := #[] }, { accessFlags := 4120, nameIndex := 445, descriptorIndex := 117, attributes := #[] }])
  fields := #[{ name := "MIN_ARRAY_SORT_GRAN", type := .int, accessFlags := 26, slot := 0, constantValue := 0 }, { name := "INSERTIONSORT_THRESHOLD", type := .int, accessFlags := 26, slot := 1, constantValue := 0 }, { name := "$assertionsDisabled", type := .boolean, accessFlags := 4120, slot := 2, constantValue := 0 }]
  methods := #[k21m0, k21m1, k21m2, k21m3, k21m4]
  instanceTypes := #[]
  staticTypes := #[.int, .int, .boolean]
  resolved := Array.replicate 1029 none
  statics := none }

def pool22 : Array CpInfo := pool [(1, .class_ 2), (0, u "java/lang/Cloneable"), (0, .class_ 4), (0, u "java/lang/Object")] 2

/-- java/lang/Cloneable -/
def k22 : Class := { plain "java/lang/Cloneable" (some 0) with
  accessFlags := 1537
  interfaces := #[]
  cf := some (fileOf pool22 1 #[] #[] 1537 3 #[] #[])
  fields := #[]
  methods := #[]
  instanceTypes := #[]
  staticTypes := #[]
  resolved := Array.replicate 7 none
  statics := none }

def pool23 : Array CpInfo := pool [(9, u "<init>"), (6, .class_ 18), (1, u "java/lang/Object"), (0, u "()V"), (1, .class_ 23), (1, u "jdk/internal/util/ArraysSupport"), (0, u "LOG2_ARRAY_LONG_INDEX_SCALE"), (0, u "I"), (2, u "U"), (0, u "Ljdk/internal/misc/Unsafe;"), (8, u "BIG_ENDIAN"), (0, u "Z"), (8, u "LOG2_BYTE_BIT_SIZE"), (4, u "LOG2_ARRAY_INT_INDEX_SCALE"), (54, u "JLA"), (0, u "Ljdk/internal/access/JavaLangAccess;"), (11, u "LOG2_ARRAY_BOOLEAN_INDEX_SCALE"), (9, u "LOG2_ARRAY_BYTE_INDEX_SCALE"), (5, u "LOG2_ARRAY_CHAR_INDEX_SCALE"), (5, u "LOG2_ARRAY_SHORT_INDEX_SCALE"), (18, u "LOG2_ARRAY_FLOAT_INDEX_SCALE"), (24, u "LOG2_ARRAY_DOUBLE_INDEX_SCALE"), (89, u "T_BOOLEAN"), (2, u "T_CHAR"), (1, u "T_FLOAT"), (1, u "T_DOUBLE"), (1, u "T_BYTE"), (1, u "T_SHORT"), (1, u "T_INT"), (1, u "T_LONG"), (1, u "SOFT_MAX_ARRAY_LENGTH")] 83

def k23m0 : Method := { name := "<init>", desc := "()V", sig := { parameters := [], returnType := none }, accessFlags := 2, code := none }
/-- jdk/internal/util/ArraysSupport -/
def k23 : Class := { plain "jdk/internal/util/ArraysSupport" (some 0) with
  accessFlags := 33
  interfaces := #[]
  cf := some (fileOf pool23 21 #[] #[{ accessFlags := 2, nameIndex := 9, descriptorIndex := 19, attributes := #[] }] 33 16 #[] #[{ accessFlags := 24, nameIndex := 28, descriptorIndex := 29, attributes := #[] }, { accessFlags := 26, nameIndex := 38, descriptorIndex := 39, attributes := #[] }, { accessFlags := 25, nameIndex := 121, descriptorIndex := 25, attributes := #[] }, { accessFlags := 25, nameIndex := 131, descriptorIndex := 25, attributes := #[] }, { accessFlags := 25, nameIndex := 137, descriptorIndex := 25, attributes := #[] }, { accessFlags := 25, nameIndex := 143, descriptorIndex := 25, attributes := #[] }, { accessFlags := 25, nameIndex := 53, descriptorIndex := 25, attributes := #[] }, { accessFlags := 25, nameIndex := 24, descriptorIndex := 25, attributes := #[] }, { accessFlags := 25, nameIndex := 162, descriptorIndex := 25, attributes := #[] }, { accessFlags := 25, nameIndex := 187, descriptorIndex := 25, attributes := #[] }, { accessFlags := 26, nameIndex := 48, descriptorIndex := 25, attributes := #[] }, { accessFlags := 25, nameIndex := 277, descriptorIndex := 25, attributes := #[] }, { accessFlags := 25, nameIndex := 280, descriptorIndex := 25, attributes := #[] }, { accessFlags := 25, nameIndex := 282, descriptorIndex := 25, attributes := #[] }, { accessFlags := 25, nameIndex := 284, descriptorIndex := 25, attributes := #[] }, { accessFlags := 25, nameIndex := 286, descriptorIndex := 25, attributes := #[] }, { accessFlags := 25, nameIndex := 288, descriptorIndex := 25, attributes := #[] }, { accessFlags := 25, nameIndex := 290, descriptorIndex := 25, attributes := #[] }, { accessFlags := 25, nameIndex := 292, descriptorIndex := 25, attributes := #[] }, { accessFlags := 26, nameIndex := 108, descriptorIndex := 109, attributes := #[] }, { accessFlags := 25, nameIndex := 294, descriptorIndex := 25, attributes := #[] }])
  fields := #[{ name := "U", type := (.object "jdk/internal/misc/Unsafe"), accessFlags := 24, slot := 0, constantValue := 0 }, { name := "BIG_ENDIAN", type := .boolean, accessFlags := 26, slot := 1, constantValue := 0 }, { name := "LOG2_ARRAY_BOOLEAN_INDEX_SCALE", type := .int, accessFlags := 25, slot := 2, constantValue := 0 }, { name := "LOG2_ARRAY_BYTE_INDEX_SCALE", type := .int, accessFlags := 25, slot := 3, constantValue := 0 }, { name := "LOG2_ARRAY_CHAR_INDEX_SCALE", type := .int, accessFlags := 25, slot := 4, constantValue := 0 }, { name := "LOG2_ARRAY_SHORT_INDEX_SCALE", type := .int, accessFlags := 25, slot := 5, constantValue := 0 }, { name := "LOG2_ARRAY_INT_INDEX_SCALE", type := .int, accessFlags := 25, slot := 6, constantValue := 0 }, { name := "LOG2_ARRAY_LONG_INDEX_SCALE", type := .int, accessFlags := 25, slot := 7, constantValue := 0 }, { name := "LOG2_ARRAY_FLOAT_INDEX_SCALE", type := .int, accessFlags := 25, slot := 8, constantValue := 0 }, { name := "LOG2_ARRAY_DOUBLE_INDEX_SCALE", type := .int, accessFlags := 25, slot := 9, constantValue := 0 }, { name := "LOG2_BYTE_BIT_SIZE", type := .int, accessFlags := 26, slot := 10, constantValue := 0 }, { name := "T_BOOLEAN", type := .int, accessFlags := 25, slot := 11, constantValue := 0 }, { name := "T_CHAR", type := .int, accessFlags := 25, slot := 12, constantValue := 0 }, { name := "T_FLOAT", type := .int, accessFlags := 25, slot := 13, constantValue := 0 }, { name := "T_DOUBLE", type := .int, accessFlags := 25, slot := 14, constantValue := 0 }, { name := "T_BYTE", type := .int, accessFlags := 25, slot := 15, constantValue := 0 }, { name := "T_SHORT", type := .int, accessFlags := 25, slot := 16, constantValue := 0 }, { name := "T_INT", type := .int, accessFlags := 25, slot := 17, constantValue := 0 }, { name := "T_LONG", type := .int, accessFlags := 25, slot := 18, constantValue := 0 }, { name := "JLA", type := (.object "jdk/internal/access/JavaLangAccess"), accessFlags := 26, slot := 19, constantValue := 0 }, { name := "SOFT_MAX_ARRAY_LENGTH", type := .int, accessFlags := 25, slot := 20, constantValue := 0 }]
  methods := #[k23m0]
  instanceTypes := #[]
  staticTypes := #[(.object "jdk/internal/misc/Unsafe"), .boolean, .int, .int, .int, .int, .int, .int, .int, .int, .int, .int, .int, .int, .int, .int, .int, .int, .int, (.object "jdk/internal/access/JavaLangAccess"), .int]
  resolved := Array.replicate 378 none
  statics := none }

/-- the primitive byte -/
def k24 : Class := { plain "byte" none with kind := .primitive 'B', accessFlags := 0x411 }
/-- [B -/
def k25 : Class := { plain "[B" (some 0) with kind := .array 24 .byte, interfaces := #[22, 2], accessFlags := 1041 }

/-- the primitive char -/
def k26 : Class := { plain "char" none with kind := .primitive 'C', accessFlags := 0x411 }
/-- [C -/
def k27 : Class := { plain "[C" (some 0) with kind := .array 26 .char, interfaces := #[22, 2], accessFlags := 1041 }

/-- the primitive int -/
def k28 : Class := { plain "int" none with kind := .primitive 'I', accessFlags := 0x411 }
/-- [I -/
def k29 : Class := { plain "[I" (some 0) with kind := .array 28 .int, interfaces := #[22, 2], accessFlags := 1041 }

/-- the primitive long -/
def k30 : Class := { plain "long" none with kind := .primitive 'J', accessFlags := 0x411 }
/-- [J -/
def k31 : Class := { plain "[J" (some 0) with kind := .array 30 .long, interfaces := #[22, 2], accessFlags := 1041 }

def heap : Heap := #[{ cls := 7, slots := #[.long 0, .int 1, .null, .int 0, .null, .int 0, .int 0], vm := .statics 7 },
  { cls := 13, slots := #[.null, .null, .null], vm := .statics 13 },
  { cls := 16, slots := #[.int 0, .int 0, .null, .null, .ref 4, .ref 3, .int 0, .int 0, .long 0], vm := .statics 16 },
  { cls := 25, slots := #[.int 48, .int 49, .int 50, .int 51, .int 52, .int 53, .int 54, .int 55, .int 56, .int 57, .int 48, .int 49, .int 50, .int 51, .int 52, .int 53, .int 54, .int 55, .int 56, .int 57, .int 48, .int 49, .int 50, .int 51, .int 52, .int 53, .int 54, .int 55, .int 56, .int 57, .int 48, .int 49, .int 50, .int 51, .int 52, .int 53, .int 54, .int 55, .int 56, .int 57, .int 48, .int 49, .int 50, .int 51, .int 52, .int 53, .int 54, .int 55, .int 56, .int 57, .int 48, .int 49, .int 50, .int 51, .int 52, .int 53, .int 54, .int 55, .int 56, .int 57, .int 48, .int 49, .int 50, .int 51, .int 52, .int 53, .int 54, .int 55, .int 56, .int 57, .int 48, .int 49, .int 50, .int 51, .int 52, .int 53, .int 54, .int 55, .int 56, .int 57, .int 48, .int 49, .int 50, .int 51, .int 52, .int 53, .int 54, .int 55, .int 56, .int 57, .int 48, .int 49, .int 50, .int 51, .int 52, .int 53, .int 54, .int 55, .int 56, .int 57], vm := .none },
  { cls := 25, slots := #[.int 48, .int 48, .int 48, .int 48, .int 48, .int 48, .int 48, .int 48, .int 48, .int 48, .int 49, .int 49, .int 49, .int 49, .int 49, .int 49, .int 49, .int 49, .int 49, .int 49, .int 50, .int 50, .int 50, .int 50, .int 50, .int 50, .int 50, .int 50, .int 50, .int 50, .int 51, .int 51, .int 51, .int 51, .int 51, .int 51, .int 51, .int 51, .int 51, .int 51, .int 52, .int 52, .int 52, .int 52, .int 52, .int 52, .int 52, .int 52, .int 52, .int 52, .int 53, .int 53, .int 53, .int 53, .int 53, .int 53, .int 53, .int 53, .int 53, .int 53, .int 54, .int 54, .int 54, .int 54, .int 54, .int 54, .int 54, .int 54, .int 54, .int 54, .int 55, .int 55, .int 55, .int 55, .int 55, .int 55, .int 55, .int 55, .int 55, .int 55, .int 56, .int 56, .int 56, .int 56, .int 56, .int 56, .int 56, .int 56, .int 56, .int 56, .int 57, .int 57, .int 57, .int 57, .int 57, .int 57, .int 57, .int 57, .int 57, .int 57], vm := .none }]
def classes : Array Class := #[k0, k1, k2, k3, k4, k5, k6, k7, k8, k9, k10, k11, k12, k13, k14, k15, k16, k17, k18, k19, k20, k21, k22, k23, k24, k25, k26, k27, k28, k29, k30, k31]
def interned : List (Array UInt16 × Addr) := []
def slotsUsed : Nat := 219
def theMethod : MethodId := ⟨1, 1⟩
def args0 : Array Value := #[.long 5, .int 3, .int 2]
def aboutOver (below : List Frame) : State where
  vm := { classes := classes, interned := interned.toArray }
  heap := heap
  slotsUsed := slotsUsed
  threads := #[{ frames := .invoking theMethod args0 :: below }]
def below0 : List Frame := [.native { method := ⟨0, 0⟩, args := #[] }]
def about1 : State := aboutOver below0
def p0 : Program := .bare "" "" ""
def e0 : Env := launch0.env 0 0 0
theorem w_frames : about1.frames = Frame.invoking theMethod args0 :: below0 := rfl
set_option maxRecDepth 65536 in
theorem w_args : argsFit about1.vm theMethod args0 = true := by decide +kernel
set_option maxRecDepth 65536 in
theorem w_heap : heapFits about1 = true := by decide +kernel
set_option maxRecDepth 65536 in
theorem w_runnable : about1.curStatus? = some .runnable := by decide +kernel
set_option maxRecDepth 65536 in
theorem w_alone : about1.alone = true := by decide +kernel
set_option maxRecDepth 65536 in
theorem w_named : about1.methodNamed? x = some theMethod := by decide +kernel
set_option maxRecDepth 65536 in
theorem w_hears : about1.hears theMethod below0 = true := by decide +kernel
set_option maxRecDepth 65536 in
theorem w_ripe : about1.ripe theMethod args0 below0 = true := by decide +kernel
theorem w_running : about1.status = .running := rfl
set_option maxRecDepth 65536 in
theorem w_room : about1.hasRoom e0.platform room_1 = true :=
  launch0.hasRoom_least _ room_1 (by decide +kernel) (by decide +kernel) (by decide +kernel) (by decide +kernel) (by decide +kernel) (by decide +kernel)
theorem allAtoms_all (ts : List Jvm.Cond) (a : Array Jvm.Value) (st : Jvm.State) : (allAtoms ts).before a st = ts.all (fun c => c.before a st) := by
  induction ts with
  | nil => rfl
  | cons c t ih =>
    show (Jvm.Cond.and c (allAtoms t)).before a st = _
    rw [Jvm.Cond.before_and, ih, List.all_cons]
def words1 : List Jvm.Cond := Jvm.Cond.code x code maxLocals ret :: tables_1
/-- a 'code' word, met by the world's own term for the bytes: nothing is compared byte by byte -/
theorem code_word {y : MethodName} {bytes : ByteArray} {mx : Nat} {rt : Option FieldType} {a : Array Value} {s : State} {m : MethodId} {meth : Method} {c : Code} (h1 : s.methodNamed? y = some m) (h2 : s.vm.method? m = some meth) (h3 : meth.code = some c) (h4 : c.code = bytes)
    (h5 : (c.maxLocals == mx && c.exceptionTable.isEmpty && decide (c.maxStack ≤ mostOperands) && decide (meth.sig.returnType = rt) && !meth.locks && decide (parseMethodDescriptor y.desc = some meth.sig)) = true) : (Jvm.Cond.code y bytes mx rt).before a s = true := by
  simp only [Bool.and_eq_true, beq_iff_eq, Bool.not_eq_true', decide_eq_true_eq] at h5
  obtain ⟨⟨⟨⟨⟨g1, g2⟩, g3⟩, g4⟩, g5⟩, g6⟩ := h5
  simp [Cond.before, Cond.holds, Cond.value, h1, h2, h3, h4, g1, g2, g3, g4, g5, g6]
def isCode : Jvm.Cond → Bool
  | .code _ _ _ _ => true
  | _ => false
theorem all_split {L : List Jvm.Cond} {P : Jvm.Cond → Bool} (h1 : L.all (fun c => isCode c || P c) = true) (h2 : ∀ c ∈ L.filter isCode, P c = true) : L.all P = true := by
  refine List.all_eq_true.mpr fun c hc => ?_
  have h := List.all_eq_true.mp h1 c hc
  rcases Bool.eq_false_or_eq_true (isCode c) with hi | hi
  · exact h2 c (List.mem_filter.mpr ⟨hc, hi⟩)
  · simpa [hi] using h
set_option maxRecDepth 65536 in
theorem w_c0 : (Jvm.Cond.code x code maxLocals ret).before args0 about1 = true := code_word (m := ⟨1, 1⟩) (meth := k1m1) (c := k1c1) (by decide +kernel) rfl rfl rfl (by decide +kernel)
set_option maxRecDepth 65536 in
theorem w_c1 : (Jvm.Cond.code ({ cls := "com/example/tickfence/tickfence/PriceParsePinLaw", name := "pow10", desc := "(I)J" } : Jvm.MethodName) method_5_code (2 : Nat) (Option.some Jvm.ClassFile.FieldType.long)).before args0 about1 = true := code_word (m := ⟨1, 4⟩) (meth := k1m4) (c := k1c4) (by decide +kernel) rfl rfl rfl (by decide +kernel)
set_option maxRecDepth 65536 in
theorem w_c2 : (Jvm.Cond.code ({ cls := "com/example/tickfence/tickfence/PriceParsePinLaw", name := "textOf", desc := "(JJI)Ljava/lang/String;" } : Jvm.MethodName) method_10_code (6 : Nat) (Option.some (Jvm.ClassFile.FieldType.object "java/lang/String"))).before args0 about1 = true := code_word (m := ⟨1, 9⟩) (meth := k1m9) (c := k1c9) (by decide +kernel) rfl rfl rfl (by decide +kernel)
set_option maxRecDepth 65536 in
theorem w_c3 : (Jvm.Cond.code ({ cls := "com/example/tickfence/tickfence/PriceParsePinLaw", name := "digit", desc := "(JI)C" } : Jvm.MethodName) method_6_code (5 : Nat) (Option.some Jvm.ClassFile.FieldType.char)).before args0 about1 = true := code_word (m := ⟨1, 5⟩) (meth := k1m5) (c := k1c5) (by decide +kernel) rfl rfl rfl (by decide +kernel)
set_option maxRecDepth 65536 in
theorem w_c4 : (Jvm.Cond.code ({ cls := "com/example/tickfence/tickfence/PriceParsePinLaw", name := "fracDigit", desc := "(JII)C" } : Jvm.MethodName) method_9_code (4 : Nat) (Option.some Jvm.ClassFile.FieldType.char)).before args0 about1 = true := code_word (m := ⟨1, 8⟩) (meth := k1m8) (c := k1c8) (by decide +kernel) rfl rfl rfl (by decide +kernel)
set_option maxRecDepth 65536 in
theorem w_c5 : (Jvm.Cond.code ({ cls := "com/example/tickfence/tickfence/PriceParsePinLaw", name := "cut", desc := "([CI)Ljava/lang/String;" } : Jvm.MethodName) method_11_code (2 : Nat) (Option.some (Jvm.ClassFile.FieldType.object "java/lang/String"))).before args0 about1 = true := code_word (m := ⟨1, 10⟩) (meth := k1m10) (c := k1c10) (by decide +kernel) rfl rfl rfl (by decide +kernel)
set_option maxRecDepth 65536 in
theorem w_c6 : (Jvm.Cond.code ({ cls := "java/lang/String", name := "<init>", desc := "([C)V" } : Jvm.MethodName) jdk_42_method_3_code (2 : Nat) (Option.none : Option Jvm.ClassFile.FieldType)).before args0 about1 = true := code_word (m := ⟨7, 1⟩) (meth := k7m1) (c := k7c1) (by decide +kernel) rfl rfl rfl (by decide +kernel)
set_option maxRecDepth 65536 in
theorem w_c7 : (Jvm.Cond.code ({ cls := "java/lang/String", name := "<init>", desc := "([CIILjava/lang/Void;)V" } : Jvm.MethodName) jdk_42_method_149_code (6 : Nat) (Option.none : Option Jvm.ClassFile.FieldType)).before args0 about1 = true := code_word (m := ⟨7, 9⟩) (meth := k7m9) (c := k7c9) (by decide +kernel) rfl rfl rfl (by decide +kernel)
set_option maxRecDepth 65536 in
theorem w_c8 : (Jvm.Cond.code ({ cls := "java/lang/Object", name := "<init>", desc := "()V" } : Jvm.MethodName) object_method_1_code (1 : Nat) (Option.none : Option Jvm.ClassFile.FieldType)).before args0 about1 = true := code_word (m := ⟨0, 0⟩) (meth := k0m0) (c := k0c0) (by decide +kernel) rfl rfl rfl (by decide +kernel)
set_option maxRecDepth 65536 in
theorem w_c9 : (Jvm.Cond.code ({ cls := "java/lang/StringUTF16", name := "compress", desc := "([CII)[B" } : Jvm.MethodName) jdk_52_method_16_code (6 : Nat) (Option.some (Jvm.ClassFile.FieldType.array Jvm.ClassFile.FieldType.byte))).before args0 about1 = true := code_word (m := ⟨8, 2⟩) (meth := k8m2) (c := k8c2) (by decide +kernel) rfl rfl rfl (by decide +kernel)
set_option maxRecDepth 65536 in
theorem w_c10 : (Jvm.Cond.code ({ cls := "java/lang/StringUTF16", name := "compress", desc := "([CI[BII)I" } : Jvm.MethodName) jdk_52_method_21_code (7 : Nat) (Option.some Jvm.ClassFile.FieldType.int)).before args0 about1 = true := code_word (m := ⟨8, 3⟩) (meth := k8m3) (c := k8c3) (by decide +kernel) rfl rfl rfl (by decide +kernel)
set_option maxRecDepth 65536 in
theorem w_c11 : (Jvm.Cond.code ({ cls := "java/lang/StringUTF16", name := "coderFromArrayLen", desc := "([BI)B" } : Jvm.MethodName) jdk_52_method_15_code (2 : Nat) (Option.some Jvm.ClassFile.FieldType.byte)).before args0 about1 = true := code_word (m := ⟨8, 1⟩) (meth := k8m1) (c := k8c1) (by decide +kernel) rfl rfl rfl (by decide +kernel)
set_option maxRecDepth 65536 in
theorem w_c12 : (Jvm.Cond.code ({ cls := "com/example/tickfence/tickfence/Price", name := "parse", desc := "(Ljava/lang/String;)Lcom/example/tickfence/tickfence/Price;" } : Jvm.MethodName) prog_19_method_2_code (10 : Nat) (Option.some (Jvm.ClassFile.FieldType.object "com/example/tickfence/tickfence/Price"))).before args0 about1 = true := code_word (m := ⟨10, 1⟩) (meth := k10m1) (c := k10c1) (by decide +kernel) rfl rfl rfl (by decide +kernel)
set_option maxRecDepth 65536 in
theorem w_c13 : (Jvm.Cond.code ({ cls := "com/example/tickfence/tickfence/Price", name := "requireWritten", desc := "(Ljava/lang/String;)V" } : Jvm.MethodName) prog_19_method_3_code (5 : Nat) (Option.none : Option Jvm.ClassFile.FieldType)).before args0 about1 = true := code_word (m := ⟨10, 2⟩) (meth := k10m2) (c := k10c2) (by decide +kernel) rfl rfl rfl (by decide +kernel)
set_option maxRecDepth 65536 in
theorem w_c14 : (Jvm.Cond.code ({ cls := "java/lang/String", name := "indexOf", desc := "(I)I" } : Jvm.MethodName) jdk_42_method_79_code (2 : Nat) (Option.some Jvm.ClassFile.FieldType.int)).before args0 about1 = true := code_word (m := ⟨7, 5⟩) (meth := k7m5) (c := k7c5) (by decide +kernel) rfl rfl rfl (by decide +kernel)
set_option maxRecDepth 65536 in
theorem w_c15 : (Jvm.Cond.code ({ cls := "java/lang/String", name := "indexOf", desc := "(II)I" } : Jvm.MethodName) jdk_42_method_80_code (3 : Nat) (Option.some Jvm.ClassFile.FieldType.int)).before args0 about1 = true := code_word (m := ⟨7, 6⟩) (meth := k7m6) (c := k7c6) (by decide +kernel) rfl rfl rfl (by decide +kernel)
set_option maxRecDepth 65536 in
theorem w_c16 : (Jvm.Cond.code ({ cls := "java/lang/String", name := "isLatin1", desc := "()Z" } : Jvm.MethodName) jdk_42_method_154_code (1 : Nat) (Option.some Jvm.ClassFile.FieldType.boolean)).before args0 about1 = true := code_word (m := ⟨7, 13⟩) (meth := k7m13) (c := k7c13) (by decide +kernel) rfl rfl rfl (by decide +kernel)
set_option maxRecDepth 65536 in
theorem w_c17 : (Jvm.Cond.code ({ cls := "java/lang/String", name := "length", desc := "()I" } : Jvm.MethodName) jdk_42_method_54_code (1 : Nat) (Option.some Jvm.ClassFile.FieldType.int)).before args0 about1 = true := code_word (m := ⟨7, 3⟩) (meth := k7m3) (c := k7c3) (by decide +kernel) rfl rfl rfl (by decide +kernel)
set_option maxRecDepth 65536 in
theorem w_c18 : (Jvm.Cond.code ({ cls := "java/lang/String", name := "coder", desc := "()B" } : Jvm.MethodName) jdk_42_method_152_code (1 : Nat) (Option.some Jvm.ClassFile.FieldType.byte)).before args0 about1 = true := code_word (m := ⟨7, 12⟩) (meth := k7m12) (c := k7c12) (by decide +kernel) rfl rfl rfl (by decide +kernel)
set_option maxRecDepth 65536 in
theorem w_c19 : (Jvm.Cond.code ({ cls := "java/lang/StringLatin1", name := "indexOf", desc := "([BIII)I" } : Jvm.MethodName) jdk_43_method_22_code (4 : Nat) (Option.some Jvm.ClassFile.FieldType.int)).before args0 about1 = true := code_word (m := ⟨11, 3⟩) (meth := k11m3) (c := k11c3) (by decide +kernel) rfl rfl rfl (by decide +kernel)
set_option maxRecDepth 65536 in
theorem w_c20 : (Jvm.Cond.code ({ cls := "java/lang/StringLatin1", name := "canEncode", desc := "(I)Z" } : Jvm.MethodName) jdk_43_method_4_code (1 : Nat) (Option.some Jvm.ClassFile.FieldType.boolean)).before args0 about1 = true := code_word (m := ⟨11, 2⟩) (meth := k11m2) (c := k11c2) (by decide +kernel) rfl rfl rfl (by decide +kernel)
set_option maxRecDepth 65536 in
theorem w_c21 : (Jvm.Cond.code ({ cls := "java/lang/Math", name := "max", desc := "(II)I" } : Jvm.MethodName) jdk_29_method_65_code (2 : Nat) (Option.some Jvm.ClassFile.FieldType.int)).before args0 about1 = true := code_word (m := ⟨12, 1⟩) (meth := k12m1) (c := k12c1) (by decide +kernel) rfl rfl rfl (by decide +kernel)
set_option maxRecDepth 65536 in
theorem w_c22 : (Jvm.Cond.code ({ cls := "java/lang/Math", name := "min", desc := "(II)I" } : Jvm.MethodName) jdk_29_method_69_code (2 : Nat) (Option.some Jvm.ClassFile.FieldType.int)).before args0 about1 = true := code_word (m := ⟨12, 2⟩) (meth := k12m2) (c := k12c2) (by decide +kernel) rfl rfl rfl (by decide +kernel)
set_option maxRecDepth 65536 in
theorem w_c23 : (Jvm.Cond.code ({ cls := "java/lang/StringLatin1", name := "indexOfChar", desc := "([BIII)I" } : Jvm.MethodName) jdk_43_method_23_code (6 : Nat) (Option.some Jvm.ClassFile.FieldType.int)).before args0 about1 = true := code_word (m := ⟨11, 4⟩) (meth := k11m4) (c := k11c4) (by decide +kernel) rfl rfl rfl (by decide +kernel)
set_option maxRecDepth 65536 in
theorem w_c24 : (Jvm.Cond.code ({ cls := "com/example/tickfence/tickfence/Price", name := "isDigits", desc := "(Ljava/lang/String;II)Z" } : Jvm.MethodName) prog_19_method_13_code (5 : Nat) (Option.some Jvm.ClassFile.FieldType.boolean)).before args0 about1 = true := code_word (m := ⟨10, 4⟩) (meth := k10m4) (c := k10c4) (by decide +kernel) rfl rfl rfl (by decide +kernel)
set_option maxRecDepth 65536 in
theorem w_c25 : (Jvm.Cond.code ({ cls := "java/lang/String", name := "charAt", desc := "(I)C" } : Jvm.MethodName) jdk_42_method_56_code (2 : Nat) (Option.some Jvm.ClassFile.FieldType.char)).before args0 about1 = true := code_word (m := ⟨7, 4⟩) (meth := k7m4) (c := k7c4) (by decide +kernel) rfl rfl rfl (by decide +kernel)
set_option maxRecDepth 65536 in
theorem w_c26 : (Jvm.Cond.code ({ cls := "java/lang/StringLatin1", name := "charAt", desc := "([BI)C" } : Jvm.MethodName) jdk_43_method_2_code (2 : Nat) (Option.some Jvm.ClassFile.FieldType.char)).before args0 about1 = true := code_word (m := ⟨11, 1⟩) (meth := k11m1) (c := k11c1) (by decide +kernel) rfl rfl rfl (by decide +kernel)
set_option maxRecDepth 65536 in
theorem w_c27 : (Jvm.Cond.code ({ cls := "java/lang/String", name := "checkIndex", desc := "(II)V" } : Jvm.MethodName) jdk_42_method_155_code (2 : Nat) (Option.none : Option Jvm.ClassFile.FieldType)).before args0 about1 = true := code_word (m := ⟨7, 14⟩) (meth := k7m14) (c := k7c14) (by decide +kernel) rfl rfl rfl (by decide +kernel)
set_option maxRecDepth 65536 in
theorem w_c28 : (Jvm.Cond.code ({ cls := "jdk/internal/util/Preconditions", name := "checkIndex", desc := "(IILjava/util/function/BiFunction;)I" } : Jvm.MethodName) jdk_41_method_11_code (3 : Nat) (Option.some Jvm.ClassFile.FieldType.int)).before args0 about1 = true := code_word (m := ⟨13, 1⟩) (meth := k13m1) (c := k13c1) (by decide +kernel) rfl rfl rfl (by decide +kernel)
set_option maxRecDepth 65536 in
theorem w_c29 : (Jvm.Cond.code ({ cls := "com/example/tickfence/tickfence/Price", name := "digitsValue", desc := "(Ljava/lang/String;IIJ)J" } : Jvm.MethodName) prog_19_method_14_code (8 : Nat) (Option.some Jvm.ClassFile.FieldType.long)).before args0 about1 = true := code_word (m := ⟨10, 5⟩) (meth := k10m5) (c := k10c5) (by decide +kernel) rfl rfl rfl (by decide +kernel)
set_option maxRecDepth 65536 in
theorem w_c30 : (Jvm.Cond.code ({ cls := "com/example/tickfence/tickfence/Price", name := "<init>", desc := "(J)V" } : Jvm.MethodName) prog_19_method_1_code (3 : Nat) (Option.none : Option Jvm.ClassFile.FieldType)).before args0 about1 = true := code_word (m := ⟨10, 0⟩) (meth := k10m0) (c := k10c0) (by decide +kernel) rfl rfl rfl (by decide +kernel)
set_option maxRecDepth 65536 in
theorem w_c31 : (Jvm.Cond.code ({ cls := "com/example/tickfence/tickfence/Price", name := "toString", desc := "()Ljava/lang/String;" } : Jvm.MethodName) prog_19_method_12_code (5 : Nat) (Option.some (Jvm.ClassFile.FieldType.object "java/lang/String"))).before args0 about1 = true := code_word (m := ⟨10, 3⟩) (meth := k10m3) (c := k10c3) (by decide +kernel) rfl rfl rfl (by decide +kernel)
set_option maxRecDepth 65536 in
theorem w_c32 : (Jvm.Cond.code ({ cls := "java/lang/Long", name := "toString", desc := "(J)Ljava/lang/String;" } : Jvm.MethodName) jdk_35_method_12_code (4 : Nat) (Option.some (Jvm.ClassFile.FieldType.object "java/lang/String"))).before args0 about1 = true := code_word (m := ⟨15, 0⟩) (meth := k15m0) (c := k15c0) (by decide +kernel) rfl rfl rfl (by decide +kernel)
set_option maxRecDepth 65536 in
theorem w_c33 : (Jvm.Cond.code ({ cls := "java/lang/Long", name := "stringSize", desc := "(J)I" } : Jvm.MethodName) jdk_35_method_15_code (6 : Nat) (Option.some Jvm.ClassFile.FieldType.int)).before args0 about1 = true := code_word (m := ⟨15, 2⟩) (meth := k15m2) (c := k15c2) (by decide +kernel) rfl rfl rfl (by decide +kernel)
set_option maxRecDepth 65536 in
theorem w_c34 : (Jvm.Cond.code ({ cls := "java/lang/Long", name := "getChars", desc := "(JI[B)I" } : Jvm.MethodName) jdk_35_method_14_code (11 : Nat) (Option.some Jvm.ClassFile.FieldType.int)).before args0 about1 = true := code_word (m := ⟨15, 1⟩) (meth := k15m1) (c := k15c1) (by decide +kernel) rfl rfl rfl (by decide +kernel)
set_option maxRecDepth 65536 in
theorem w_c35 : (Jvm.Cond.code ({ cls := "java/lang/String", name := "<init>", desc := "([BB)V" } : Jvm.MethodName) jdk_42_method_151_code (3 : Nat) (Option.none : Option Jvm.ClassFile.FieldType)).before args0 about1 = true := code_word (m := ⟨7, 11⟩) (meth := k7m11) (c := k7c11) (by decide +kernel) rfl rfl rfl (by decide +kernel)
set_option maxRecDepth 65536 in
theorem w_c36 : (Jvm.Cond.code ({ cls := "java/lang/StringBuilder", name := "<init>", desc := "()V" } : Jvm.MethodName) jdk_67_method_1_code (1 : Nat) (Option.none : Option Jvm.ClassFile.FieldType)).before args0 about1 = true := code_word (m := ⟨19, 0⟩) (meth := k19m0) (c := k19c0) (by decide +kernel) rfl rfl rfl (by decide +kernel)
set_option maxRecDepth 65536 in
theorem w_c37 : (Jvm.Cond.code ({ cls := "java/lang/AbstractStringBuilder", name := "<init>", desc := "(I)V" } : Jvm.MethodName) jdk_68_method_2_code (2 : Nat) (Option.none : Option Jvm.ClassFile.FieldType)).before args0 about1 = true := code_word (m := ⟨18, 1⟩) (meth := k18m1) (c := k18c1) (by decide +kernel) rfl rfl rfl (by decide +kernel)
set_option maxRecDepth 65536 in
theorem w_c38 : (Jvm.Cond.code ({ cls := "java/lang/StringBuilder", name := "append", desc := "(J)Ljava/lang/StringBuilder;" } : Jvm.MethodName) jdk_67_method_16_code (3 : Nat) (Option.some (Jvm.ClassFile.FieldType.object "java/lang/StringBuilder"))).before args0 about1 = true := code_word (m := ⟨19, 2⟩) (meth := k19m2) (c := k19c2) (by decide +kernel) rfl rfl rfl (by decide +kernel)
set_option maxRecDepth 65536 in
theorem w_c39 : (Jvm.Cond.code ({ cls := "java/lang/AbstractStringBuilder", name := "append", desc := "(J)Ljava/lang/AbstractStringBuilder;" } : Jvm.MethodName) jdk_68_method_33_code (5 : Nat) (Option.some (Jvm.ClassFile.FieldType.object "java/lang/AbstractStringBuilder"))).before args0 about1 = true := code_word (m := ⟨18, 5⟩) (meth := k18m5) (c := k18c5) (by decide +kernel) rfl rfl rfl (by decide +kernel)
set_option maxRecDepth 65536 in
theorem w_c40 : (Jvm.Cond.code ({ cls := "java/lang/AbstractStringBuilder", name := "ensureCapacityInternal", desc := "(I)V" } : Jvm.MethodName) jdk_68_method_9_code (3 : Nat) (Option.none : Option Jvm.ClassFile.FieldType)).before args0 about1 = true := code_word (m := ⟨18, 3⟩) (meth := k18m3) (c := k18c3) (by decide +kernel) rfl rfl rfl (by decide +kernel)
set_option maxRecDepth 65536 in
theorem w_c41 : (Jvm.Cond.code ({ cls := "java/lang/AbstractStringBuilder", name := "isLatin1", desc := "()Z" } : Jvm.MethodName) jdk_68_method_68_code (1 : Nat) (Option.some Jvm.ClassFile.FieldType.boolean)).before args0 about1 = true := code_word (m := ⟨18, 7⟩) (meth := k18m7) (c := k18c7) (by decide +kernel) rfl rfl rfl (by decide +kernel)
set_option maxRecDepth 65536 in
theorem w_c42 : (Jvm.Cond.code ({ cls := "java/lang/StringBuilder", name := "append", desc := "(Ljava/lang/String;)Ljava/lang/StringBuilder;" } : Jvm.MethodName) jdk_67_method_7_code (2 : Nat) (Option.some (Jvm.ClassFile.FieldType.object "java/lang/StringBuilder"))).before args0 about1 = true := code_word (m := ⟨19, 1⟩) (meth := k19m1) (c := k19c1) (by decide +kernel) rfl rfl rfl (by decide +kernel)
set_option maxRecDepth 65536 in
theorem w_c43 : (Jvm.Cond.code ({ cls := "java/lang/AbstractStringBuilder", name := "append", desc := "(Ljava/lang/String;)Ljava/lang/AbstractStringBuilder;" } : Jvm.MethodName) jdk_68_method_22_code (3 : Nat) (Option.some (Jvm.ClassFile.FieldType.object "java/lang/AbstractStringBuilder"))).before args0 about1 = true := code_word (m := ⟨18, 4⟩) (meth := k18m4) (c := k18c4) (by decide +kernel) rfl rfl rfl (by decide +kernel)
set_option maxRecDepth 65536 in
theorem w_c44 : (Jvm.Cond.code ({ cls := "java/lang/AbstractStringBuilder", name := "putStringAt", desc := "(ILjava/lang/String;)V" } : Jvm.MethodName) jdk_68_method_73_code (3 : Nat) (Option.none : Option Jvm.ClassFile.FieldType)).before args0 about1 = true := code_word (m := ⟨18, 9⟩) (meth := k18m9) (c := k18c9) (by decide +kernel) rfl rfl rfl (by decide +kernel)
set_option maxRecDepth 65536 in
theorem w_c45 : (Jvm.Cond.code ({ cls := "java/lang/AbstractStringBuilder", name := "inflateIfNeededFor", desc := "(Ljava/lang/String;)V" } : Jvm.MethodName) jdk_68_method_71_code (2 : Nat) (Option.none : Option Jvm.ClassFile.FieldType)).before args0 about1 = true := code_word (m := ⟨18, 8⟩) (meth := k18m8) (c := k18c8) (by decide +kernel) rfl rfl rfl (by decide +kernel)
set_option maxRecDepth 65536 in
theorem w_c46 : (Jvm.Cond.code ({ cls := "java/lang/String", name := "getBytes", desc := "([BIB)V" } : Jvm.MethodName) jdk_42_method_147_code (4 : Nat) (Option.none : Option Jvm.ClassFile.FieldType)).before args0 about1 = true := code_word (m := ⟨7, 8⟩) (meth := k7m8) (c := k7c8) (by decide +kernel) rfl rfl rfl (by decide +kernel)
set_option maxRecDepth 65536 in
theorem w_c47 : (Jvm.Cond.code ({ cls := "java/lang/String", name := "repeat", desc := "(I)Ljava/lang/String;" } : Jvm.MethodName) jdk_42_method_145_code (5 : Nat) (Option.some (Jvm.ClassFile.FieldType.object "java/lang/String"))).before args0 about1 = true := code_word (m := ⟨7, 7⟩) (meth := k7m7) (c := k7c7) (by decide +kernel) rfl rfl rfl (by decide +kernel)
set_option maxRecDepth 65536 in
theorem w_c48 : (Jvm.Cond.code ({ cls := "java/lang/StringBuilder", name := "toString", desc := "()Ljava/lang/String;" } : Jvm.MethodName) jdk_67_method_42_code (1 : Nat) (Option.some (Jvm.ClassFile.FieldType.object "java/lang/String"))).before args0 about1 = true := code_word (m := ⟨19, 3⟩) (meth := k19m3) (c := k19c3) (by decide +kernel) rfl rfl rfl (by decide +kernel)
set_option maxRecDepth 65536 in
theorem w_c49 : (Jvm.Cond.code ({ cls := "java/lang/String", name := "<init>", desc := "(Ljava/lang/StringBuilder;)V" } : Jvm.MethodName) jdk_42_method_53_code (2 : Nat) (Option.none : Option Jvm.ClassFile.FieldType)).before args0 about1 = true := code_word (m := ⟨7, 2⟩) (meth := k7m2) (c := k7c2) (by decide +kernel) rfl rfl rfl (by decide +kernel)
set_option maxRecDepth 65536 in
theorem w_c50 : (Jvm.Cond.code ({ cls := "java/lang/String", name := "<init>", desc := "(Ljava/lang/AbstractStringBuilder;Ljava/lang/Void;)V" } : Jvm.MethodName) jdk_42_method_150_code (5 : Nat) (Option.none : Option Jvm.ClassFile.FieldType)).before args0 about1 = true := code_word (m := ⟨7, 10⟩) (meth := k7m10) (c := k7c10) (by decide +kernel) rfl rfl rfl (by decide +kernel)
set_option maxRecDepth 65536 in
theorem w_c51 : (Jvm.Cond.code ({ cls := "java/lang/AbstractStringBuilder", name := "getValue", desc := "()[B" } : Jvm.MethodName) jdk_68_method_64_code (1 : Nat) (Option.some (Jvm.ClassFile.FieldType.array Jvm.ClassFile.FieldType.byte))).before args0 about1 = true := code_word (m := ⟨18, 6⟩) (meth := k18m6) (c := k18c6) (by decide +kernel) rfl rfl rfl (by decide +kernel)
set_option maxRecDepth 65536 in
theorem w_c52 : (Jvm.Cond.code ({ cls := "java/lang/StringBuilder", name := "length", desc := "()I" } : Jvm.MethodName) jdk_67_method_93_code (1 : Nat) (Option.some Jvm.ClassFile.FieldType.int)).before args0 about1 = true := code_word (m := ⟨19, 4⟩) (meth := k19m4) (c := k19c4) (by decide +kernel) rfl rfl rfl (by decide +kernel)
set_option maxRecDepth 65536 in
theorem w_c53 : (Jvm.Cond.code ({ cls := "java/lang/AbstractStringBuilder", name := "length", desc := "()I" } : Jvm.MethodName) jdk_68_method_6_code (1 : Nat) (Option.some Jvm.ClassFile.FieldType.int)).before args0 about1 = true := code_word (m := ⟨18, 2⟩) (meth := k18m2) (c := k18c2) (by decide +kernel) rfl rfl rfl (by decide +kernel)
set_option maxRecDepth 65536 in
theorem w_c54 : (Jvm.Cond.code ({ cls := "java/util/Arrays", name := "copyOfRange", desc := "([BII)[B" } : Jvm.MethodName) jdk_65_method_132_code (3 : Nat) (Option.some (Jvm.ClassFile.FieldType.array Jvm.ClassFile.FieldType.byte))).before args0 about1 = true := code_word (m := ⟨21, 3⟩) (meth := k21m3) (c := k21c3) (by decide +kernel) rfl rfl rfl (by decide +kernel)
set_option maxRecDepth 65536 in
theorem w_c55 : (Jvm.Cond.code ({ cls := "java/util/Arrays", name := "copyOfRangeByte", desc := "([BII)[B" } : Jvm.MethodName) jdk_65_method_133_code (5 : Nat) (Option.some (Jvm.ClassFile.FieldType.array Jvm.ClassFile.FieldType.byte))).before args0 about1 = true := code_word (m := ⟨21, 4⟩) (meth := k21m4) (c := k21c4) (by decide +kernel) rfl rfl rfl (by decide +kernel)
set_option maxRecDepth 65536 in
theorem w_c56 : (Jvm.Cond.code ({ cls := "java/util/Arrays", name := "checkLength", desc := "(II)V" } : Jvm.MethodName) jdk_65_method_131_code (2 : Nat) (Option.none : Option Jvm.ClassFile.FieldType)).before args0 about1 = true := code_word (m := ⟨21, 2⟩) (meth := k21m2) (c := k21c2) (by decide +kernel) rfl rfl rfl (by decide +kernel)
set_option maxRecDepth 65536 in
theorem w_c57 : (Jvm.Cond.code ({ cls := "com/example/tickfence/tickfence/PriceParsePinLaw", name := "digitCount", desc := "(J)I" } : Jvm.MethodName) method_7_code (2 : Nat) (Option.some Jvm.ClassFile.FieldType.int)).before args0 about1 = true := code_word (m := ⟨1, 6⟩) (meth := k1m6) (c := k1c6) (by decide +kernel) rfl rfl rfl (by decide +kernel)
set_option maxRecDepth 65536 in
theorem w_c58 : (Jvm.Cond.code ({ cls := "com/example/tickfence/tickfence/PriceParsePinLaw", name := "printedDecimals", desc := "(J)I" } : Jvm.MethodName) method_8_code (2 : Nat) (Option.some Jvm.ClassFile.FieldType.int)).before args0 about1 = true := code_word (m := ⟨1, 7⟩) (meth := k1m7) (c := k1c7) (by decide +kernel) rfl rfl rfl (by decide +kernel)
set_option maxRecDepth 65536 in
theorem w_c59 : (Jvm.Cond.code ({ cls := "com/example/tickfence/tickfence/PriceParsePinLaw", name := "at", desc := "(Ljava/lang/String;IJIJ)Z" } : Jvm.MethodName) method_3_code (7 : Nat) (Option.some Jvm.ClassFile.FieldType.boolean)).before args0 about1 = true := code_word (m := ⟨1, 2⟩) (meth := k1m2) (c := k1c2) (by decide +kernel) rfl rfl rfl (by decide +kernel)
set_option maxRecDepth 65536 in
theorem w_c60 : (Jvm.Cond.code ({ cls := "com/example/tickfence/tickfence/PriceParsePinLaw", name := "expected", desc := "(IJIJ)C" } : Jvm.MethodName) method_4_code (6 : Nat) (Option.some Jvm.ClassFile.FieldType.char)).before args0 about1 = true := code_word (m := ⟨1, 3⟩) (meth := k1m3) (c := k1c3) (by decide +kernel) rfl rfl rfl (by decide +kernel)
set_option maxRecDepth 65536 in
theorem w_c61 : (Jvm.Cond.code ({ cls := "java/util/Arrays", name := "fill", desc := "([BB)V" } : Jvm.MethodName) jdk_65_method_109_code (4 : Nat) (Option.none : Option Jvm.ClassFile.FieldType)).before args0 about1 = true := code_word (m := ⟨21, 1⟩) (meth := k21m1) (c := k21c1) (by decide +kernel) rfl rfl rfl (by decide +kernel)
def codes1 : List Jvm.Cond := [Jvm.Cond.code x code maxLocals ret, Jvm.Cond.code ({ cls := "com/example/tickfence/tickfence/PriceParsePinLaw", name := "pow10", desc := "(I)J" } : Jvm.MethodName) method_5_code (2 : Nat) (Option.some Jvm.ClassFile.FieldType.long), Jvm.Cond.code ({ cls := "com/example/tickfence/tickfence/PriceParsePinLaw", name := "textOf", desc := "(JJI)Ljava/lang/String;" } : Jvm.MethodName) method_10_code (6 : Nat) (Option.some (Jvm.ClassFile.FieldType.object "java/lang/String")), Jvm.Cond.code ({ cls := "com/example/tickfence/tickfence/PriceParsePinLaw", name := "digit", desc := "(JI)C" } : Jvm.MethodName) method_6_code (5 : Nat) (Option.some Jvm.ClassFile.FieldType.char), Jvm.Cond.code ({ cls := "com/example/tickfence/tickfence/PriceParsePinLaw", name := "fracDigit", desc := "(JII)C" } : Jvm.MethodName) method_9_code (4 : Nat) (Option.some Jvm.ClassFile.FieldType.char), Jvm.Cond.code ({ cls := "com/example/tickfence/tickfence/PriceParsePinLaw", name := "cut", desc := "([CI)Ljava/lang/String;" } : Jvm.MethodName) method_11_code (2 : Nat) (Option.some (Jvm.ClassFile.FieldType.object "java/lang/String")), Jvm.Cond.code ({ cls := "java/lang/String", name := "<init>", desc := "([C)V" } : Jvm.MethodName) jdk_42_method_3_code (2 : Nat) (Option.none : Option Jvm.ClassFile.FieldType), Jvm.Cond.code ({ cls := "java/lang/String", name := "<init>", desc := "([CIILjava/lang/Void;)V" } : Jvm.MethodName) jdk_42_method_149_code (6 : Nat) (Option.none : Option Jvm.ClassFile.FieldType), Jvm.Cond.code ({ cls := "java/lang/Object", name := "<init>", desc := "()V" } : Jvm.MethodName) object_method_1_code (1 : Nat) (Option.none : Option Jvm.ClassFile.FieldType), Jvm.Cond.code ({ cls := "java/lang/StringUTF16", name := "compress", desc := "([CII)[B" } : Jvm.MethodName) jdk_52_method_16_code (6 : Nat) (Option.some (Jvm.ClassFile.FieldType.array Jvm.ClassFile.FieldType.byte)), Jvm.Cond.code ({ cls := "java/lang/StringUTF16", name := "compress", desc := "([CI[BII)I" } : Jvm.MethodName) jdk_52_method_21_code (7 : Nat) (Option.some Jvm.ClassFile.FieldType.int), Jvm.Cond.code ({ cls := "java/lang/StringUTF16", name := "coderFromArrayLen", desc := "([BI)B" } : Jvm.MethodName) jdk_52_method_15_code (2 : Nat) (Option.some Jvm.ClassFile.FieldType.byte), Jvm.Cond.code ({ cls := "com/example/tickfence/tickfence/Price", name := "parse", desc := "(Ljava/lang/String;)Lcom/example/tickfence/tickfence/Price;" } : Jvm.MethodName) prog_19_method_2_code (10 : Nat) (Option.some (Jvm.ClassFile.FieldType.object "com/example/tickfence/tickfence/Price")), Jvm.Cond.code ({ cls := "com/example/tickfence/tickfence/Price", name := "requireWritten", desc := "(Ljava/lang/String;)V" } : Jvm.MethodName) prog_19_method_3_code (5 : Nat) (Option.none : Option Jvm.ClassFile.FieldType), Jvm.Cond.code ({ cls := "java/lang/String", name := "indexOf", desc := "(I)I" } : Jvm.MethodName) jdk_42_method_79_code (2 : Nat) (Option.some Jvm.ClassFile.FieldType.int), Jvm.Cond.code ({ cls := "java/lang/String", name := "indexOf", desc := "(II)I" } : Jvm.MethodName) jdk_42_method_80_code (3 : Nat) (Option.some Jvm.ClassFile.FieldType.int), Jvm.Cond.code ({ cls := "java/lang/String", name := "isLatin1", desc := "()Z" } : Jvm.MethodName) jdk_42_method_154_code (1 : Nat) (Option.some Jvm.ClassFile.FieldType.boolean), Jvm.Cond.code ({ cls := "java/lang/String", name := "length", desc := "()I" } : Jvm.MethodName) jdk_42_method_54_code (1 : Nat) (Option.some Jvm.ClassFile.FieldType.int), Jvm.Cond.code ({ cls := "java/lang/String", name := "coder", desc := "()B" } : Jvm.MethodName) jdk_42_method_152_code (1 : Nat) (Option.some Jvm.ClassFile.FieldType.byte), Jvm.Cond.code ({ cls := "java/lang/StringLatin1", name := "indexOf", desc := "([BIII)I" } : Jvm.MethodName) jdk_43_method_22_code (4 : Nat) (Option.some Jvm.ClassFile.FieldType.int), Jvm.Cond.code ({ cls := "java/lang/StringLatin1", name := "canEncode", desc := "(I)Z" } : Jvm.MethodName) jdk_43_method_4_code (1 : Nat) (Option.some Jvm.ClassFile.FieldType.boolean), Jvm.Cond.code ({ cls := "java/lang/Math", name := "max", desc := "(II)I" } : Jvm.MethodName) jdk_29_method_65_code (2 : Nat) (Option.some Jvm.ClassFile.FieldType.int), Jvm.Cond.code ({ cls := "java/lang/Math", name := "min", desc := "(II)I" } : Jvm.MethodName) jdk_29_method_69_code (2 : Nat) (Option.some Jvm.ClassFile.FieldType.int), Jvm.Cond.code ({ cls := "java/lang/StringLatin1", name := "indexOfChar", desc := "([BIII)I" } : Jvm.MethodName) jdk_43_method_23_code (6 : Nat) (Option.some Jvm.ClassFile.FieldType.int), Jvm.Cond.code ({ cls := "com/example/tickfence/tickfence/Price", name := "isDigits", desc := "(Ljava/lang/String;II)Z" } : Jvm.MethodName) prog_19_method_13_code (5 : Nat) (Option.some Jvm.ClassFile.FieldType.boolean), Jvm.Cond.code ({ cls := "java/lang/String", name := "charAt", desc := "(I)C" } : Jvm.MethodName) jdk_42_method_56_code (2 : Nat) (Option.some Jvm.ClassFile.FieldType.char), Jvm.Cond.code ({ cls := "java/lang/StringLatin1", name := "charAt", desc := "([BI)C" } : Jvm.MethodName) jdk_43_method_2_code (2 : Nat) (Option.some Jvm.ClassFile.FieldType.char), Jvm.Cond.code ({ cls := "java/lang/String", name := "checkIndex", desc := "(II)V" } : Jvm.MethodName) jdk_42_method_155_code (2 : Nat) (Option.none : Option Jvm.ClassFile.FieldType), Jvm.Cond.code ({ cls := "jdk/internal/util/Preconditions", name := "checkIndex", desc := "(IILjava/util/function/BiFunction;)I" } : Jvm.MethodName) jdk_41_method_11_code (3 : Nat) (Option.some Jvm.ClassFile.FieldType.int), Jvm.Cond.code ({ cls := "com/example/tickfence/tickfence/Price", name := "digitsValue", desc := "(Ljava/lang/String;IIJ)J" } : Jvm.MethodName) prog_19_method_14_code (8 : Nat) (Option.some Jvm.ClassFile.FieldType.long), Jvm.Cond.code ({ cls := "com/example/tickfence/tickfence/Price", name := "<init>", desc := "(J)V" } : Jvm.MethodName) prog_19_method_1_code (3 : Nat) (Option.none : Option Jvm.ClassFile.FieldType), Jvm.Cond.code ({ cls := "com/example/tickfence/tickfence/Price", name := "toString", desc := "()Ljava/lang/String;" } : Jvm.MethodName) prog_19_method_12_code (5 : Nat) (Option.some (Jvm.ClassFile.FieldType.object "java/lang/String")), Jvm.Cond.code ({ cls := "java/lang/Long", name := "toString", desc := "(J)Ljava/lang/String;" } : Jvm.MethodName) jdk_35_method_12_code (4 : Nat) (Option.some (Jvm.ClassFile.FieldType.object "java/lang/String")), Jvm.Cond.code ({ cls := "java/lang/Long", name := "stringSize", desc := "(J)I" } : Jvm.MethodName) jdk_35_method_15_code (6 : Nat) (Option.some Jvm.ClassFile.FieldType.int), Jvm.Cond.code ({ cls := "java/lang/Long", name := "getChars", desc := "(JI[B)I" } : Jvm.MethodName) jdk_35_method_14_code (11 : Nat) (Option.some Jvm.ClassFile.FieldType.int), Jvm.Cond.code ({ cls := "java/lang/String", name := "<init>", desc := "([BB)V" } : Jvm.MethodName) jdk_42_method_151_code (3 : Nat) (Option.none : Option Jvm.ClassFile.FieldType), Jvm.Cond.code ({ cls := "java/lang/StringBuilder", name := "<init>", desc := "()V" } : Jvm.MethodName) jdk_67_method_1_code (1 : Nat) (Option.none : Option Jvm.ClassFile.FieldType), Jvm.Cond.code ({ cls := "java/lang/AbstractStringBuilder", name := "<init>", desc := "(I)V" } : Jvm.MethodName) jdk_68_method_2_code (2 : Nat) (Option.none : Option Jvm.ClassFile.FieldType), Jvm.Cond.code ({ cls := "java/lang/StringBuilder", name := "append", desc := "(J)Ljava/lang/StringBuilder;" } : Jvm.MethodName) jdk_67_method_16_code (3 : Nat) (Option.some (Jvm.ClassFile.FieldType.object "java/lang/StringBuilder")), Jvm.Cond.code ({ cls := "java/lang/AbstractStringBuilder", name := "append", desc := "(J)Ljava/lang/AbstractStringBuilder;" } : Jvm.MethodName) jdk_68_method_33_code (5 : Nat) (Option.some (Jvm.ClassFile.FieldType.object "java/lang/AbstractStringBuilder")), Jvm.Cond.code ({ cls := "java/lang/AbstractStringBuilder", name := "ensureCapacityInternal", desc := "(I)V" } : Jvm.MethodName) jdk_68_method_9_code (3 : Nat) (Option.none : Option Jvm.ClassFile.FieldType), Jvm.Cond.code ({ cls := "java/lang/AbstractStringBuilder", name := "isLatin1", desc := "()Z" } : Jvm.MethodName) jdk_68_method_68_code (1 : Nat) (Option.some Jvm.ClassFile.FieldType.boolean), Jvm.Cond.code ({ cls := "java/lang/StringBuilder", name := "append", desc := "(Ljava/lang/String;)Ljava/lang/StringBuilder;" } : Jvm.MethodName) jdk_67_method_7_code (2 : Nat) (Option.some (Jvm.ClassFile.FieldType.object "java/lang/StringBuilder")), Jvm.Cond.code ({ cls := "java/lang/AbstractStringBuilder", name := "append", desc := "(Ljava/lang/String;)Ljava/lang/AbstractStringBuilder;" } : Jvm.MethodName) jdk_68_method_22_code (3 : Nat) (Option.some (Jvm.ClassFile.FieldType.object "java/lang/AbstractStringBuilder")), Jvm.Cond.code ({ cls := "java/lang/AbstractStringBuilder", name := "putStringAt", desc := "(ILjava/lang/String;)V" } : Jvm.MethodName) jdk_68_method_73_code (3 : Nat) (Option.none : Option Jvm.ClassFile.FieldType), Jvm.Cond.code ({ cls := "java/lang/AbstractStringBuilder", name := "inflateIfNeededFor", desc := "(Ljava/lang/String;)V" } : Jvm.MethodName) jdk_68_method_71_code (2 : Nat) (Option.none : Option Jvm.ClassFile.FieldType), Jvm.Cond.code ({ cls := "java/lang/String", name := "getBytes", desc := "([BIB)V" } : Jvm.MethodName) jdk_42_method_147_code (4 : Nat) (Option.none : Option Jvm.ClassFile.FieldType), Jvm.Cond.code ({ cls := "java/lang/String", name := "repeat", desc := "(I)Ljava/lang/String;" } : Jvm.MethodName) jdk_42_method_145_code (5 : Nat) (Option.some (Jvm.ClassFile.FieldType.object "java/lang/String")), Jvm.Cond.code ({ cls := "java/lang/StringBuilder", name := "toString", desc := "()Ljava/lang/String;" } : Jvm.MethodName) jdk_67_method_42_code (1 : Nat) (Option.some (Jvm.ClassFile.FieldType.object "java/lang/String")), Jvm.Cond.code ({ cls := "java/lang/String", name := "<init>", desc := "(Ljava/lang/StringBuilder;)V" } : Jvm.MethodName) jdk_42_method_53_code (2 : Nat) (Option.none : Option Jvm.ClassFile.FieldType), Jvm.Cond.code ({ cls := "java/lang/String", name := "<init>", desc := "(Ljava/lang/AbstractStringBuilder;Ljava/lang/Void;)V" } : Jvm.MethodName) jdk_42_method_150_code (5 : Nat) (Option.none : Option Jvm.ClassFile.FieldType), Jvm.Cond.code ({ cls := "java/lang/AbstractStringBuilder", name := "getValue", desc := "()[B" } : Jvm.MethodName) jdk_68_method_64_code (1 : Nat) (Option.some (Jvm.ClassFile.FieldType.array Jvm.ClassFile.FieldType.byte)), Jvm.Cond.code ({ cls := "java/lang/StringBuilder", name := "length", desc := "()I" } : Jvm.MethodName) jdk_67_method_93_code (1 : Nat) (Option.some Jvm.ClassFile.FieldType.int), Jvm.Cond.code ({ cls := "java/lang/AbstractStringBuilder", name := "length", desc := "()I" } : Jvm.MethodName) jdk_68_method_6_code (1 : Nat) (Option.some Jvm.ClassFile.FieldType.int), Jvm.Cond.code ({ cls := "java/util/Arrays", name := "copyOfRange", desc := "([BII)[B" } : Jvm.MethodName) jdk_65_method_132_code (3 : Nat) (Option.some (Jvm.ClassFile.FieldType.array Jvm.ClassFile.FieldType.byte)), Jvm.Cond.code ({ cls := "java/util/Arrays", name := "copyOfRangeByte", desc := "([BII)[B" } : Jvm.MethodName) jdk_65_method_133_code (5 : Nat) (Option.some (Jvm.ClassFile.FieldType.array Jvm.ClassFile.FieldType.byte)), Jvm.Cond.code ({ cls := "java/util/Arrays", name := "checkLength", desc := "(II)V" } : Jvm.MethodName) jdk_65_method_131_code (2 : Nat) (Option.none : Option Jvm.ClassFile.FieldType), Jvm.Cond.code ({ cls := "com/example/tickfence/tickfence/PriceParsePinLaw", name := "digitCount", desc := "(J)I" } : Jvm.MethodName) method_7_code (2 : Nat) (Option.some Jvm.ClassFile.FieldType.int), Jvm.Cond.code ({ cls := "com/example/tickfence/tickfence/PriceParsePinLaw", name := "printedDecimals", desc := "(J)I" } : Jvm.MethodName) method_8_code (2 : Nat) (Option.some Jvm.ClassFile.FieldType.int), Jvm.Cond.code ({ cls := "com/example/tickfence/tickfence/PriceParsePinLaw", name := "at", desc := "(Ljava/lang/String;IJIJ)Z" } : Jvm.MethodName) method_3_code (7 : Nat) (Option.some Jvm.ClassFile.FieldType.boolean), Jvm.Cond.code ({ cls := "com/example/tickfence/tickfence/PriceParsePinLaw", name := "expected", desc := "(IJIJ)C" } : Jvm.MethodName) method_4_code (6 : Nat) (Option.some Jvm.ClassFile.FieldType.char), Jvm.Cond.code ({ cls := "java/util/Arrays", name := "fill", desc := "([BB)V" } : Jvm.MethodName) jdk_65_method_109_code (4 : Nat) (Option.none : Option Jvm.ClassFile.FieldType)]
set_option maxRecDepth 65536 in
theorem codes_eq : words1.filter isCode = codes1 := rfl
theorem w_codes : ∀ c ∈ words1.filter isCode, c.before args0 about1 = true := by
  rw [codes_eq]
  intro c hc
  simp only [codes1, List.mem_cons, List.not_mem_nil, or_false] at hc
  rcases hc with rfl | rfl | rfl | rfl | rfl | rfl | rfl | rfl | rfl | rfl | rfl | rfl | rfl | rfl | rfl | rfl | rfl | rfl | rfl | rfl | rfl | rfl | rfl | rfl | rfl | rfl | rfl | rfl | rfl | rfl | rfl | rfl | rfl | rfl | rfl | rfl | rfl | rfl | rfl | rfl | rfl | rfl | rfl | rfl | rfl | rfl | rfl | rfl | rfl | rfl | rfl | rfl | rfl | rfl | rfl | rfl | rfl | rfl | rfl | rfl | rfl | rfl
  · exact w_c0
  · exact w_c1
  · exact w_c2
  · exact w_c3
  · exact w_c4
  · exact w_c5
  · exact w_c6
  · exact w_c7
  · exact w_c8
  · exact w_c9
  · exact w_c10
  · exact w_c11
  · exact w_c12
  · exact w_c13
  · exact w_c14
  · exact w_c15
  · exact w_c16
  · exact w_c17
  · exact w_c18
  · exact w_c19
  · exact w_c20
  · exact w_c21
  · exact w_c22
  · exact w_c23
  · exact w_c24
  · exact w_c25
  · exact w_c26
  · exact w_c27
  · exact w_c28
  · exact w_c29
  · exact w_c30
  · exact w_c31
  · exact w_c32
  · exact w_c33
  · exact w_c34
  · exact w_c35
  · exact w_c36
  · exact w_c37
  · exact w_c38
  · exact w_c39
  · exact w_c40
  · exact w_c41
  · exact w_c42
  · exact w_c43
  · exact w_c44
  · exact w_c45
  · exact w_c46
  · exact w_c47
  · exact w_c48
  · exact w_c49
  · exact w_c50
  · exact w_c51
  · exact w_c52
  · exact w_c53
  · exact w_c54
  · exact w_c55
  · exact w_c56
  · exact w_c57
  · exact w_c58
  · exact w_c59
  · exact w_c60
  · exact w_c61
set_option maxRecDepth 65536 in
theorem w_t1 : (words1.take 24).all (fun c => isCode c || c.before args0 about1) = true := by decide +kernel
set_option maxRecDepth 65536 in
theorem w_t2 : ((words1.drop 24).take 24).all (fun c => isCode c || c.before args0 about1) = true := by decide +kernel
set_option maxRecDepth 65536 in
theorem w_t3 : (((words1.drop 24).drop 24).take 24).all (fun c => isCode c || c.before args0 about1) = true := by decide +kernel
set_option maxRecDepth 65536 in
theorem w_t4 : ((((words1.drop 24).drop 24).drop 24).take 24).all (fun c => isCode c || c.before args0 about1) = true := by decide +kernel
set_option maxRecDepth 65536 in
theorem w_t5 : (((((words1.drop 24).drop 24).drop 24).drop 24).take 24).all (fun c => isCode c || c.before args0 about1) = true := by decide +kernel
set_option maxRecDepth 65536 in
theorem w_t6 : ((((((words1.drop 24).drop 24).drop 24).drop 24).drop 24).take 24).all (fun c => isCode c || c.before args0 about1) = true := by decide +kernel
set_option maxRecDepth 65536 in
theorem w_t7 : (((((((words1.drop 24).drop 24).drop 24).drop 24).drop 24).drop 24).take 24).all (fun c => isCode c || c.before args0 about1) = true := by decide +kernel
set_option maxRecDepth 65536 in
theorem w_t8 : ((((((((words1.drop 24).drop 24).drop 24).drop 24).drop 24).drop 24).drop 24).take 24).all (fun c => isCode c || c.before args0 about1) = true := by decide +kernel
set_option maxRecDepth 65536 in
theorem w_t9 : (((((((((words1.drop 24).drop 24).drop 24).drop 24).drop 24).drop 24).drop 24).drop 24).take 24).all (fun c => isCode c || c.before args0 about1) = true := by decide +kernel
set_option maxRecDepth 65536 in
theorem w_t10 : ((((((((((words1.drop 24).drop 24).drop 24).drop 24).drop 24).drop 24).drop 24).drop 24).drop 24).take 24).all (fun c => isCode c || c.before args0 about1) = true := by decide +kernel
set_option maxRecDepth 65536 in
theorem w_t11 : (((((((((((words1.drop 24).drop 24).drop 24).drop 24).drop 24).drop 24).drop 24).drop 24).drop 24).drop 24).take 24).all (fun c => isCode c || c.before args0 about1) = true := by decide +kernel
set_option maxRecDepth 65536 in
theorem w_t12 : ((((((((((((words1.drop 24).drop 24).drop 24).drop 24).drop 24).drop 24).drop 24).drop 24).drop 24).drop 24).drop 24).take 24).all (fun c => isCode c || c.before args0 about1) = true := by decide +kernel
set_option maxRecDepth 65536 in
theorem w_t13 : (((((((((((((words1.drop 24).drop 24).drop 24).drop 24).drop 24).drop 24).drop 24).drop 24).drop 24).drop 24).drop 24).drop 24).take 24).all (fun c => isCode c || c.before args0 about1) = true := by decide +kernel
set_option maxRecDepth 65536 in
theorem w_t14 : (((((((((((((words1.drop 24).drop 24).drop 24).drop 24).drop 24).drop 24).drop 24).drop 24).drop 24).drop 24).drop 24).drop 24).drop 24).all (fun c => isCode c || c.before args0 about1) = true := by decide +kernel
theorem w_tables : (allAtoms (Jvm.Cond.code x code maxLocals ret :: tables_1)).before args0 about1 = true := by
  rw [allAtoms_all]
  show words1.all (fun c => c.before args0 about1) = true
  refine all_split ?_ w_codes
  rw [← List.take_append_drop 24 words1, List.all_append, w_t1, ← List.take_append_drop 24 (words1.drop 24), List.all_append, w_t2, ← List.take_append_drop 24 ((words1.drop 24).drop 24), List.all_append, w_t3, ← List.take_append_drop 24 (((words1.drop 24).drop 24).drop 24), List.all_append, w_t4, ← List.take_append_drop 24 ((((words1.drop 24).drop 24).drop 24).drop 24), List.all_append, w_t5, ← List.take_append_drop 24 (((((words1.drop 24).drop 24).drop 24).drop 24).drop 24), List.all_append, w_t6, ← List.take_append_drop 24 ((((((words1.drop 24).drop 24).drop 24).drop 24).drop 24).drop 24), List.all_append, w_t7, ← List.take_append_drop 24 (((((((words1.drop 24).drop 24).drop 24).drop 24).drop 24).drop 24).drop 24), List.all_append, w_t8, ← List.take_append_drop 24 ((((((((words1.drop 24).drop 24).drop 24).drop 24).drop 24).drop 24).drop 24).drop 24), List.all_append, w_t9, ← List.take_append_drop 24 (((((((((words1.drop 24).drop 24).drop 24).drop 24).drop 24).drop 24).drop 24).drop 24).drop 24), List.all_append, w_t10, ← List.take_append_drop 24 ((((((((((words1.drop 24).drop 24).drop 24).drop 24).drop 24).drop 24).drop 24).drop 24).drop 24).drop 24), List.all_append, w_t11, ← List.take_append_drop 24 (((((((((((words1.drop 24).drop 24).drop 24).drop 24).drop 24).drop 24).drop 24).drop 24).drop 24).drop 24).drop 24), List.all_append, w_t12, ← List.take_append_drop 24 ((((((((((((words1.drop 24).drop 24).drop 24).drop 24).drop 24).drop 24).drop 24).drop 24).drop 24).drop 24).drop 24).drop 24), List.all_append, w_t13, w_t14]
  rfl
set_option maxRecDepth 65536 in
theorem w_rest : rest_1_c.before args0 about1 = true := by decide +kernel
set_option maxRecDepth 65536 in
theorem w_case : (Jvm.Cond.and given_1 narrow_1).before args0 about1 = true := by decide +kernel
set_option maxRecDepth 65536 in
theorem w_consts : constsHeld consts_1 about1 := Jvm.Lit.constsHeldB_iff.mp (by decide +kernel)
theorem w_applies : (headSpec (Jvm.Cond.code x code maxLocals ret :: tables_1) room_1).applies x e0.platform about1 = true :=
  (Spec.applies_iff w_frames).mpr ⟨w_running, w_runnable, w_alone, w_named, w_hears, w_ripe, w_room, w_tables⟩
theorem atStart : AtStart classFile x code maxLocals ret World_1 tables_1 room_1 Calls_1 rest_1 Pre_1 launch0 p0 e0 about1 theMethod args0 below0 :=
  ⟨lists_1, trivial, launch0.admits_env _ _ _, launch0.least_env, fairChoices_fair.cas, fairChoices_fair.clock, w_frames, w_args, w_heap, w_applies, ⟨w_consts, trivial⟩, w_rest, w_case⟩
end start1
theorem witness_1 : WitnessClaimed_1 := ⟨start1.p0, start1.e0, start1.about1, start1.theMethod, start1.args0, start1.below0, start1.atStart⟩
end Jvm.Pilot.@@N@@
