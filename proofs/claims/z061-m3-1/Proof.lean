import JvmDerived
import JvmDerived.Pilot.@@N@@Statement
import JvmDerived.Pilot.@@N@@Code
set_option linter.unusedVariables false
set_option linter.unusedSimpArgs false
/- laws to paste: Road.backV, Road.eqW, Road.codOf (cut by pick.py; bodies as the Statement names them) -/
namespace Jvm.Pilot.@@N@@
namespace StrChars
open Jvm Sem ClassFile Op Lib Jvm.Stand Jvm.Free.XT Jvm.Free.ALB Jvm.Free.JM Jvm.Free
open Jvm.Lib.Cold (StaticIs)
/-- a char array whose places are chars -/
def Ch (a : Addr) (A : Cell) (U : State) : Prop := Arr .char a A U ∧ Typed .char A
theorem Ch.mv {a : Addr} {A : Cell} {U U' : State} (h : Ch a A U) (hal : U.vm.Alike U'.vm) (hh : U'.heap = U.heap) : Ch a A U' := ⟨h.1.mv hal hh, h.2⟩
theorem Ch.keep {a : Addr} {A : Cell} {U U' : State} (h : Ch a A U) (hal : U.vm.Alike U'.vm) (hk : U'.heap[a]? = some A) : Ch a A U' := ⟨h.1.keep hal hk, h.2⟩
/-- what place i of a char[]'s cell holds -/
def cv (A : Cell) (i : Nat) : Int32 := match A.slots[i]? with | some (.int x) => x | _ => 0
theorem Ch.get {a : Addr} {A : Cell} {U : State} (h : Ch a A U) {i : Nat} (hi : i < A.slots.size) : A.slots[i]? = some (.int (cv A i)) := by
  have e := Array.getElem?_eq_getElem hi
  have f := h.2 i _ e
  unfold cv; rw [e]
  generalize A.slots[i] = v at f
  cases v <;> simp [fits] at f ⊢
/-- the byte that i2b leaves of a char -/
def lo8 (x : Int32) : Int32 := x.toInt8.toInt32
theorem fits_lo8 (y : Int32) : fits .byte (.int (lo8 y)) = true := by
  have h1 := y.toInt8.le_toInt
  have h2 := y.toInt8.toInt_lt
  simp only [lo8, fits, Bool.and_eq_true, decide_eq_true_eq, Int32.le_iff_toInt_le, Int8.toInt_toInt32, show (-128 : Int32).toInt = -128 from by decide, show (127 : Int32).toInt = 127 from by decide]
  omega
/-- A' is A but that each place j of lo .. hi - 1 holds f j -/
def Laid (A A' : Cell) (lo hi : Nat) (f : Nat → Value) : Prop := A'.cls = A.cls ∧ A'.vm = A.vm ∧ A'.slots.size = A.slots.size ∧ ∀ i, A'.slots[i]? = if lo ≤ i ∧ i < hi then some (f i) else A.slots[i]?
theorem Laid.zero (A : Cell) (lo : Nat) (f : Nat → Value) : Laid A A lo (lo + 0) f := ⟨rfl, rfl, rfl, fun i => by rw [if_neg (by omega)]⟩
theorem Laid.step {A Ak : Cell} {lo k : Nat} {f : Nat → Value} {v : Value} (h : Laid A Ak lo k f) (hlo : lo ≤ k) (hk : k < Ak.slots.size) (hv : v = f k) : Laid A (Ak.setSlot k v) lo (k + 1) f := by
  refine ⟨h.1, h.2.1, by simpa [Cell.setSlot] using h.2.2.1, fun i => ?_⟩
  by_cases e : k = i
  · subst e; rw [Cell.slots_setSlot_self v hk, if_pos (by omega), hv]
  · rw [Cell.slots_setSlot_ne v e, h.2.2.2 i]
    by_cases q : lo ≤ i ∧ i < k
    · rw [if_pos q, if_pos (by omega)]
    · rw [if_neg q, if_neg (by omega)]
def U16 : String := "java/lang/StringUTF16"
namespace Cmp5
def yN : MethodName := ⟨"java/lang/StringUTF16", "compress", "([CI[BII)I"⟩
abbrev yB : ByteArray := jdk_52_method_21_code
theorem d0 : decode yB 0 = .ok (.iconst 0, 1) := by decide +kernel
theorem d1 : decode yB 1 = .ok (.istore 5, 2) := by decide +kernel
theorem d3 : decode yB 3 = .ok (.iload 5, 2) := by decide +kernel
theorem d5 : decode yB 5 = .ok (.iload 4, 2) := by decide +kernel
theorem d7 : decode yB 7 = .ok (.if_icmp (.ge) 37, 3) := by decide +kernel
theorem d10 : decode yB 10 = .ok (.aload_n 0, 1) := by decide +kernel
theorem d11 : decode yB 11 = .ok (.iload_n 1, 1) := by decide +kernel
theorem d12 : decode yB 12 = .ok (.caload, 1) := by decide +kernel
theorem d13 : decode yB 13 = .ok (.istore 6, 2) := by decide +kernel
theorem d15 : decode yB 15 = .ok (.iload 6, 2) := by decide +kernel
theorem d17 : decode yB 17 = .ok (.sipush 255, 3) := by decide +kernel
theorem d20 : decode yB 20 = .ok (.if_icmp (.le) 6, 3) := by decide +kernel
theorem d26 : decode yB 26 = .ok (.aload_n 2, 1) := by decide +kernel
theorem d27 : decode yB 27 = .ok (.iload_n 3, 1) := by decide +kernel
theorem d28 : decode yB 28 = .ok (.iload 6, 2) := by decide +kernel
theorem d30 : decode yB 30 = .ok (.i2b, 1) := by decide +kernel
theorem d31 : decode yB 31 = .ok (.bastore, 1) := by decide +kernel
theorem d32 : decode yB 32 = .ok (.iinc 1 1, 3) := by decide +kernel
theorem d35 : decode yB 35 = .ok (.iinc 3 1, 3) := by decide +kernel
theorem d38 : decode yB 38 = .ok (.iinc 5 1, 3) := by decide +kernel
theorem d41 : decode yB 41 = .ok (.goto (-38), 3) := by decide +kernel
theorem d44 : decode yB 44 = .ok (.iload 4, 2) := by decide +kernel
theorem d46 : decode yB 46 = .ok (.ireturn, 1) := by decide +kernel
def site : List Cond := []
def tab : Cond := tabOf yN yB 7 (some .int) site
def P (b : Addr) (A : Cell) (d : Addr) (B : Cell) (o q len : Nat) (args : Array Value) (s : State) : Prop := args = #[.ref b, .int (Int32.ofNat o), .ref d, .int (Int32.ofNat q), .int (Int32.ofNat len)] ∧ Ch b A s ∧ Arr .byte d B s ∧ b ≠ d ∧ o + len ≤ A.slots.size ∧ q + len ≤ B.slots.size ∧ ∀ i, i < len → ¬ 255 < cv A (o + i)
def E (b : Addr) (A : Cell) (d : Addr) (B : Cell) (o q len : Nat) (r : Option Value) (s u : State) : Prop := r = some (.int (Int32.ofNat len)) ∧ ∃ B', Put d B' s u ∧ Laid B B' q (q + len) (fun j => Value.int (lo8 (cv A (o + (j - q)))))
/-- no char of the range above 255: len; the places written hold each char's low byte -/
theorem law (l : Launch) (b : Addr) (A : Cell) (d : Addr) (B : Cell) (o q len : Nat) : Law l yN 5 5 0 0 yB 7 (some .int) site (P b A d B o q len) (E b A d B o q len) (copyLocs d q len) 0 0 := by
  refine Law.of_walk (plainFor_of_name (by decide +kernel)) (by decide +kernel) (by decide +kernel) (by decide) (fun _ _ h => by rw [h.1]; rfl) (fun _ U U' hal hh h => ⟨h.1, h.2.1.mv hal hh, h.2.2.1.mv hal hh, h.2.2.2⟩) (fun r U U' V V' h1 hal h2 h => ⟨h.1, h.2.elim fun B' q => ⟨B', q.1.mv h1 h2, q.2⟩⟩) ?_
  intro p e s m args below meth c s₁ X0 hexec hbytes hml hret hlk hnm hown hh0 W hP
  obtain ⟨rfl, hA, hB, hne, l1, l2, hp⟩ := hP
  have c1 : Steps p.tables e below (s₁.setTop (entryFrame m #[.ref b, .int (Int32.ofNat o), .ref d, .int (Int32.ofNat q), .int (Int32.ofNat len)] 7)) (s₁.setTop (mkF m 0 #[.val (.ref b), .val (.int (Int32.ofNat o)), .val (.ref d), .val (.int (Int32.ofNat q)), .val (.int (Int32.ofNat len)), .unset, .unset] [])) := entry rfl
  have hA0 := hA.1.mv X0.warmed.alike hh0
  have hB0 := hB.mv X0.warmed.alike hh0
  have a31 := hA.1.2.2.2
  have c2 : Steps p.tables e below (s₁.setTop (entryFrame m #[.ref b, .int (Int32.ofNat o), .ref d, .int (Int32.ofNat q), .int (Int32.ofNat len)] 7)) (s₁.setTop (mkF m 3 #[.val (.ref b), .val (.int (Int32.ofNat o)), .val (.ref d), .val (.int (Int32.ofNat q)), .val (.int (Int32.ofNat len)), .val (.int 0), .unset] [])) := c1.trans (by
    refine iconstV X0.here hexec rfl 0 (hb hbytes d0) (by decide) ?_
    refine XS.istore X0.here hexec rfl (hb hbytes d1) rfl rfl ?_
    exact Steps.refl _)
  have loop : ∀ (r i : Nat), i + r = len → ∀ (z : Slot), (z = .unset ∨ ∃ w, z = .val w ∧ w.category = 1) → ∀ (Tl : State) (Bk : Cell), Stand p l e { frames := 0, locals := 0, cells := 0, slots := 0 } s m #[.ref b, .int (Int32.ofNat o), .ref d, .int (Int32.ofNat q), .int (Int32.ofNat len)] below meth c Tl ([] ++ copyLocs d q i) 0 0 → Put d Bk s₁ Tl → Laid B Bk q (q + i) (fun j => Value.int (lo8 (cv A (o + (j - q))))) →
      Steps p.tables e below (s₁.setTop (entryFrame m #[.ref b, .int (Int32.ofNat o), .ref d, .int (Int32.ofNat q), .int (Int32.ofNat len)] 7)) (Tl.setTop (mkF m 3 #[.val (.ref b), .val (.int (Int32.ofNat (o + i))), .val (.ref d), .val (.int (Int32.ofNat (q + i))), .val (.int (Int32.ofNat len)), .val (.int (Int32.ofNat i)), z] [])) → ∃ (T' : State) (B' : Cell) (z' : Slot), Stand p l e { frames := 0, locals := 0, cells := 0, slots := 0 } s m #[.ref b, .int (Int32.ofNat o), .ref d, .int (Int32.ofNat q), .int (Int32.ofNat len)] below meth c T' ([] ++ copyLocs d q len) 0 0 ∧ Put d B' s₁ T' ∧ Laid B B' q (q + len) (fun j => Value.int (lo8 (cv A (o + (j - q))))) ∧
      Steps p.tables e below (s₁.setTop (entryFrame m #[.ref b, .int (Int32.ofNat o), .ref d, .int (Int32.ofNat q), .int (Int32.ofNat len)] 7)) (T'.setTop (mkF m 3 #[.val (.ref b), .val (.int (Int32.ofNat (o + len))), .val (.ref d), .val (.int (Int32.ofNat (q + len))), .val (.int (Int32.ofNat len)), .val (.int (Int32.ofNat len)), z'] [])) := by
    intro r
    induction r with
    | zero =>
      intro i hi z hz Tl Bk Xl pl fl cl
      have hil : i = len := by omega
      rw [hil] at Xl fl cl
      exact ⟨Tl, Bk, z, Xl, pl, fl, cl⟩
    | succ r ih =>
      intro i hi z hz Tl Bk Xl pl fl cl
      have all := X0.warmed.alike.symm.trans Xl.warmed.alike
      have hAl := hA0.keep all (pl.other hne hA0.1)
      have hBk := hB0.like all pl.1 fl.1 fl.2.1 fl.2.2.1
      have hlt : q + i < Bk.slots.size := by rw [fl.2.2.1]; omega
      have c3 : Steps p.tables e below (s₁.setTop (entryFrame m #[.ref b, .int (Int32.ofNat o), .ref d, .int (Int32.ofNat q), .int (Int32.ofNat len)] 7)) (Tl.setTop (mkF m 12 #[.val (.ref b), .val (.int (Int32.ofNat (o + i))), .val (.ref d), .val (.int (Int32.ofNat (q + i))), .val (.int (Int32.ofNat len)), .val (.int (Int32.ofNat i)), z] [.int (Int32.ofNat (o + i)), .ref b])) := cl.trans (by
        refine XS.iload Xl.here hexec rfl (hb hbytes d3) rfl ?_
        refine XS.iload Xl.here hexec rfl (hb hbytes d5) rfl ?_
        refine XS.icmpNo Xl.here hexec rfl (hb hbytes d7) rfl (ii_ge_f (lt32 (by omega) (by omega))) ?_
        refine XS.aloadN Xl.here hexec rfl (hb hbytes d10) rfl rfl ?_
        refine XS.iloadN Xl.here hexec rfl (hb hbytes d11) rfl ?_
        exact Steps.refl _)
      have c4 : Steps p.tables e below (s₁.setTop (entryFrame m #[.ref b, .int (Int32.ofNat o), .ref d, .int (Int32.ofNat q), .int (Int32.ofNat len)] 7)) (Tl.setTop (mkF m 13 #[.val (.ref b), .val (.int (Int32.ofNat (o + i))), .val (.ref d), .val (.int (Int32.ofNat (q + i))), .val (.int (Int32.ofNat len)), .val (.int (Int32.ofNat i)), z] [.int (cv A (o + i))])) := c3.trans (by
        refine Xl.aget hexec hAl rfl (hA.get (i := o + i) (by omega)) rfl rfl (hb hbytes d12) ?_
        exact Steps.refl _)
      have c5 : Steps p.tables e below (s₁.setTop (entryFrame m #[.ref b, .int (Int32.ofNat o), .ref d, .int (Int32.ofNat q), .int (Int32.ofNat len)] 7)) (Tl.setTop (mkF m 15 #[.val (.ref b), .val (.int (Int32.ofNat (o + i))), .val (.ref d), .val (.int (Int32.ofNat (q + i))), .val (.int (Int32.ofNat len)), .val (.int (Int32.ofNat i)), .val (.int (cv A (o + i)))] [])) := c4.trans (by
        refine XS.istoreS Xl.here hexec rfl (hb hbytes d13) rfl rfl hz ?_
        exact Steps.refl _)
      have c6 : Steps p.tables e below (s₁.setTop (entryFrame m #[.ref b, .int (Int32.ofNat o), .ref d, .int (Int32.ofNat q), .int (Int32.ofNat len)] 7)) (Tl.setTop (mkF m 31 #[.val (.ref b), .val (.int (Int32.ofNat (o + i))), .val (.ref d), .val (.int (Int32.ofNat (q + i))), .val (.int (Int32.ofNat len)), .val (.int (Int32.ofNat i)), .val (.int (cv A (o + i)))] [.int (lo8 (cv A (o + i))), .int (Int32.ofNat (q + i)), .ref d])) := c5.trans (by
        refine XS.iload Xl.here hexec rfl (hb hbytes d15) rfl ?_
        refine sipushV Xl.here hexec rfl 255 (hb hbytes d17) (by decide) ?_
        refine XS.icmpYes Xl.here hexec rfl (pc0 := 20) rfl (hb hbytes d20) rfl (ii_le_t (hp i (by omega))) (by decide) rfl ?_
        refine XS.aloadN Xl.here hexec rfl (hb hbytes d26) rfl rfl ?_
        refine XS.iloadN Xl.here hexec rfl (hb hbytes d27) rfl ?_
        refine XS.iload Xl.here hexec rfl (hb hbytes d28) rfl ?_
        refine i2b Xl.here hexec rfl (hb hbytes d30) rfl ?_
        exact Steps.refl _)
      obtain ⟨T7, X7, p7, st7⟩ := Xl.aput hexec hBk rfl hlt rfl (fits_lo8 (cv A (o + i))) (g := (mkF m 31 #[.val (.ref b), .val (.int (Int32.ofNat (o + i))), .val (.ref d), .val (.int (Int32.ofNat (q + i))), .val (.int (Int32.ofNat len)), .val (.int (Int32.ofNat i)), .val (.int (cv A (o + i)))] [.int (lo8 (cv A (o + i))), .int (Int32.ofNat (q + i)), .ref d])) rfl (rest := []) rfl (hb hbytes d31)
      have c8 : Steps p.tables e below (s₁.setTop (entryFrame m #[.ref b, .int (Int32.ofNat o), .ref d, .int (Int32.ofNat q), .int (Int32.ofNat len)] 7)) (T7.setTop (mkF m 32 #[.val (.ref b), .val (.int (Int32.ofNat (o + i))), .val (.ref d), .val (.int (Int32.ofNat (q + i))), .val (.int (Int32.ofNat len)), .val (.int (Int32.ofNat i)), .val (.int (cv A (o + i)))] [])) := c6.trans (st7 _ (Steps.refl _))
      have c9 : Steps p.tables e below (s₁.setTop (entryFrame m #[.ref b, .int (Int32.ofNat o), .ref d, .int (Int32.ofNat q), .int (Int32.ofNat len)] 7)) (T7.setTop (mkF m 3 #[.val (.ref b), .val (.int (Int32.ofNat (o + i) + 1)), .val (.ref d), .val (.int (Int32.ofNat (q + i) + 1)), .val (.int (Int32.ofNat len)), .val (.int (Int32.ofNat i + 1)), .val (.int (cv A (o + i)))] [])) := c8.trans (by
        refine iincV X7.here hexec rfl 1 (hb hbytes d32) (by decide) rfl rfl ?_
        refine iincV X7.here hexec rfl 1 (hb hbytes d35) (by decide) rfl rfl ?_
        refine iincV X7.here hexec rfl 1 (hb hbytes d38) (by decide) rfl rfl ?_
        refine XS.goto X7.here hexec rfl (pc0 := 41) rfl (hb hbytes d41) (by decide) rfl ?_
        exact Steps.refl _)
      have c10 : Steps p.tables e below (s₁.setTop (entryFrame m #[.ref b, .int (Int32.ofNat o), .ref d, .int (Int32.ofNat q), .int (Int32.ofNat len)] 7)) (T7.setTop (mkF m 3 #[.val (.ref b), .val (.int (Int32.ofNat (o + (i + 1)))), .val (.ref d), .val (.int (Int32.ofNat (q + (i + 1)))), .val (.int (Int32.ofNat len)), .val (.int (Int32.ofNat (i + 1))), .val (.int (cv A (o + i)))] [])) := by
        have := c9
        rw [succ32, succ32, succ32] at this
        exact this
      exact ih (i + 1) (by omega) _ (Or.inr ⟨_, rfl, rfl⟩) T7 _ (by rw [copyLocs_step, ← List.append_assoc]; exact X7) (pl.trans p7) (fl.step (by omega) hlt (by simp)) c10
  obtain ⟨T9, B9, z9, X9, p9, f9, g9⟩ := loop len 0 (by omega) .unset (Or.inl rfl) s₁ B (by simpa [copyLocs] using X0) ⟨hB0.1, fun _ _ => rfl, rfl⟩ (Laid.zero _ _ _) c2
  have c11 : Steps p.tables e below (s₁.setTop (entryFrame m #[.ref b, .int (Int32.ofNat o), .ref d, .int (Int32.ofNat q), .int (Int32.ofNat len)] 7)) (T9.setTop (mkF m 46 #[.val (.ref b), .val (.int (Int32.ofNat (o + len))), .val (.ref d), .val (.int (Int32.ofNat (q + len))), .val (.int (Int32.ofNat len)), .val (.int (Int32.ofNat len)), z9] [.int (Int32.ofNat len)])) := g9.trans (by
    refine XS.iload X9.here hexec rfl (hb hbytes d3) rfl ?_
    refine XS.iload X9.here hexec rfl (hb hbytes d5) rfl ?_
    refine XS.icmpYes X9.here hexec rfl (pc0 := 7) rfl (hb hbytes d7) rfl (ii_ge_t (nlt32 (by omega) (Nat.le_refl _))) (by decide) rfl ?_
    refine XS.iload X9.here hexec rfl (hb hbytes d44) rfl ?_
    exact Steps.refl _)
  exact ⟨T9, some (.int (Int32.ofNat len)), _, _, _, X9, by simp, rfl, rfl, (fun h => by cases h), ⟨rfl, B9, p9.from hh0, f9⟩, fun fs hl => c11.trans (X9.ireturnOut hexec hret rfl (Or.inl rfl) (hb hbytes d46) hl)⟩
end Cmp5
namespace Cmp3
def yN : MethodName := ⟨"java/lang/StringUTF16", "compress", "([CII)[B"⟩
abbrev yB : ByteArray := jdk_52_method_16_code
theorem d0 : decode yB 0 = .ok (.iload_n 2, 1) := by decide +kernel
theorem d1 : decode yB 1 = .ok (.newarray .byte, 2) := by decide +kernel
theorem d3 : decode yB 3 = .ok (.astore_n 3, 1) := by decide +kernel
theorem d4 : decode yB 4 = .ok (.aload_n 0, 1) := by decide +kernel
theorem d5 : decode yB 5 = .ok (.iload_n 1, 1) := by decide +kernel
theorem d6 : decode yB 6 = .ok (.aload_n 3, 1) := by decide +kernel
theorem d7 : decode yB 7 = .ok (.iconst 0, 1) := by decide +kernel
theorem d8 : decode yB 8 = .ok (.iload_n 2, 1) := by decide +kernel
theorem d9 : decode yB 9 = .ok (.invokestatic 115, 3) := by decide +kernel
theorem d12 : decode yB 12 = .ok (.istore 4, 2) := by decide +kernel
theorem d14 : decode yB 14 = .ok (.iload 4, 2) := by decide +kernel
theorem d16 : decode yB 16 = .ok (.iload_n 2, 1) := by decide +kernel
theorem d17 : decode yB 17 = .ok (.if_icmp (.eq) 40, 3) := by decide +kernel
theorem d57 : decode yB 57 = .ok (.aload_n 3, 1) := by decide +kernel
theorem d58 : decode yB 58 = .ok (.areturn, 1) := by decide +kernel
def site : List Cond := [.arrayClass .byte, Cmp5.tab] ++ staticW U16 115 Cmp5.yN
def tab : Cond := tabOf yN yB 6 (some (.array .byte)) site
def P (b : Addr) (A : Cell) (o len : Nat) (args : Array Value) (s : State) : Prop := args = #[.ref b, .int (Int32.ofNat o), .int (Int32.ofNat len)] ∧ Ch b A s ∧ o + len ≤ A.slots.size ∧ len ≤ 536870912 ∧ ∀ i, i < len → ¬ 255 < cv A (o + i)
def E (b : Addr) (A : Cell) (o len : Nat) (r : Option Value) (s u : State) : Prop := NewArr .byte "[B" len (fun j => .int (lo8 (cv A (o + j)))) r s u ∧ u.heap.size = s.heap.size + 1
/-- no char of the range above 255: a new byte[] of their low bytes -/
theorem law (l : Launch) (b : Addr) (A : Cell) (o len : Nat) : Law l yN 3 3 1 18 yB 6 (some (.array .byte)) site (P b A o len) (E b A o len) [] 1 len := by
  refine Law.of_walk (plainFor_of_name (by decide +kernel)) (by decide +kernel) (by decide +kernel) (by decide) (fun _ _ h => by rw [h.1]; rfl) (fun _ U U' hal hh h => ⟨h.1, h.2.1.mv hal hh, h.2.2⟩) (fun r U U' V V' h1 hal h2 h => ⟨NewArr.mv r U U' V V' h1 hal h2 h.1, by rw [h1, h2]; exact h.2⟩) ?_
  intro p e s m args below meth c s₁ X0 hexec hbytes hml hret hlk hnm hown hh0 W hP
  obtain ⟨rfl, hA, l1, l2, hp⟩ := hP
  have a31 := hA.1.2.2.2
  have c1 : Steps p.tables e below (s₁.setTop (entryFrame m #[.ref b, .int (Int32.ofNat o), .int (Int32.ofNat len)] 6)) (s₁.setTop (mkF m 0 #[.val (.ref b), .val (.int (Int32.ofNat o)), .val (.int (Int32.ofNat len)), .unset, .unset, .unset] [])) := entry rfl
  have c2 : Steps p.tables e below (s₁.setTop (entryFrame m #[.ref b, .int (Int32.ofNat o), .int (Int32.ofNat len)] 6)) (s₁.setTop (mkF m 1 #[.val (.ref b), .val (.int (Int32.ofNat o)), .val (.int (Int32.ofNat len)), .unset, .unset, .unset] [.int (Int32.ofNat len)])) := c1.trans (by
    refine XS.iloadN X0.here hexec rfl (hb hbytes d0) rfl ?_
    exact Steps.refl _)
  obtain ⟨T3, B3, X3, ba3, bs3, bv3, bh3, bf3, st3⟩ := X0.anew hexec (atype := .byte) (wk W (.arrayClass .byte)) rfl (by show len * 1 ≤ _; omega) (by omega) (g := (mkF m 1 #[.val (.ref b), .val (.int (Int32.ofNat o)), .val (.int (Int32.ofNat len)), .unset, .unset, .unset] [.int (Int32.ofNat len)])) rfl (hb hbytes d1) (rest := []) rfl (Nat.le_refl _) (by show 0 + len ≤ len; omega)
  rw [hh0] at ba3 st3
  have kp3 : XT.Kept s T3 := (XT.Kept.of_eq hh0).push bh3
  have hA3 := hA.keep X3.warmed.alike (kp3 _ _ hA.1.1)
  have hne : b ≠ s.heap.size := hA.1.ne
  have c4 : Steps p.tables e below (s₁.setTop (entryFrame m #[.ref b, .int (Int32.ofNat o), .int (Int32.ofNat len)] 6)) (T3.setTop (mkF m 3 #[.val (.ref b), .val (.int (Int32.ofNat o)), .val (.int (Int32.ofNat len)), .unset, .unset, .unset] [.ref s.heap.size])) := c2.trans (st3 _ (Steps.refl _))
  have c5 : Steps p.tables e below (s₁.setTop (entryFrame m #[.ref b, .int (Int32.ofNat o), .int (Int32.ofNat len)] 6)) (T3.setTop (mkF m 9 #[.val (.ref b), .val (.int (Int32.ofNat o)), .val (.int (Int32.ofNat len)), .val (.ref s.heap.size), .unset, .unset] [.int (Int32.ofNat len), .int 0, .ref s.heap.size, .int (Int32.ofNat o), .ref b])) := c4.trans (by
    refine XS.astoreN X3.here hexec rfl (hb hbytes d3) rfl rfl rfl ?_
    refine XS.aloadN X3.here hexec rfl (hb hbytes d4) rfl rfl ?_
    refine XS.iloadN X3.here hexec rfl (hb hbytes d5) rfl ?_
    refine XS.aloadN X3.here hexec rfl (hb hbytes d6) rfl rfl ?_
    refine iconstV X3.here hexec rfl 0 (hb hbytes d7) (by decide) ?_
    refine XS.iloadN X3.here hexec rfl (hb hbytes d8) rfl ?_
    exact Steps.refl _)
  obtain ⟨v6, T6, X6, E6, g6⟩ := X3.callS hexec (Cmp5.law l b A s.heap.size B3 o 0 len) hown (wks W (staticW U16 115 Cmp5.yN)) (wk W Cmp5.tab) (W := 0) (Nat.le_of_ble_eq_true rfl) (Nat.le_of_ble_eq_true rfl) (Nat.le_refl _) (by show 0 + len + 0 ≤ len; omega) (g := (mkF m 9 #[.val (.ref b), .val (.int (Int32.ofNat o)), .val (.int (Int32.ofNat len)), .val (.ref s.heap.size), .unset, .unset] [.int (Int32.ofNat len), .int (Int32.ofNat 0), .ref s.heap.size, .int (Int32.ofNat o), .ref b])) rfl (by rw [hml]; rfl) c5 (argsL := [.ref b, .int (Int32.ofNat o), .ref s.heap.size, .int (Int32.ofNat 0), .int (Int32.ofNat len)]) (rest := []) rfl rfl (by show 2 * 0 + 0 ≤ _; decide) (hb hbytes d9) (⟨rfl, hA3, ba3, hne, l1, by rw [bs3]; simp, hp⟩)
  obtain ⟨rfl, B6, p6, f6⟩ := E6
  have c7 : Steps p.tables e below (s₁.setTop (entryFrame m #[.ref b, .int (Int32.ofNat o), .int (Int32.ofNat len)] 6)) (T6.setTop (mkF m 12 #[.val (.ref b), .val (.int (Int32.ofNat o)), .val (.int (Int32.ofNat len)), .val (.ref s.heap.size), .unset, .unset] [.int (Int32.ofNat len)])) := g6
  have c8 : Steps p.tables e below (s₁.setTop (entryFrame m #[.ref b, .int (Int32.ofNat o), .int (Int32.ofNat len)] 6)) (T6.setTop (mkF m 58 #[.val (.ref b), .val (.int (Int32.ofNat o)), .val (.int (Int32.ofNat len)), .val (.ref s.heap.size), .val (.int (Int32.ofNat len)), .unset] [.ref s.heap.size])) := c7.trans (by
    refine XS.istore X6.here hexec rfl (hb hbytes d12) rfl rfl ?_
    refine XS.iload X6.here hexec rfl (hb hbytes d14) rfl ?_
    refine XS.iloadN X6.here hexec rfl (hb hbytes d16) rfl ?_
    refine XS.icmpYes X6.here hexec rfl (pc0 := 17) rfl (hb hbytes d17) rfl (ii_eq_t rfl) (by decide) rfl ?_
    refine XS.aloadN X6.here hexec rfl (hb hbytes d57) rfl rfl ?_
    exact Steps.refl _)
  have X8 := X6.wide (L' := []) (cells' := 1) (slots' := len) (fun x hx hlt => by
    simp only [List.nil_append, copyLocs, List.mem_map, List.mem_range] at hx
    obtain ⟨i, -, rfl⟩ := hx
    exact absurd hlt (Nat.lt_irrefl _)) (Nat.le_refl _) (by omega)
  exact ⟨T6, some (.ref s.heap.size), _, _, _, X8, rfl, rfl, rfl, (fun h => by cases h), ⟨⟨rfl, B6, ba3.like (X3.warmed.alike.symm.trans X6.warmed.alike) p6.1 f6.1 f6.2.1 f6.2.2.1, f6.2.1.trans bv3, by rw [X6.warmed.alike.findClass, f6.1]; exact bf3, by rw [f6.2.2.1, bs3]; simp, fun j hj => by rw [f6.2.2.2 j, if_pos (by omega)]; rfl, kp3.put p6 (Nat.le_refl _)⟩, by rw [p6.2.2, bh3, hh0]; simp⟩, fun fs hl => c8.trans (X8.areturnOut hexec rfl hret rfl (hb hbytes d58) hl)⟩
end Cmp3
namespace CodL
def yN : MethodName := ⟨"java/lang/StringUTF16", "coderFromArrayLen", "([BI)B"⟩
abbrev yB : ByteArray := jdk_52_method_15_code
theorem d0 : decode yB 0 = .ok (.iload_n 1, 1) := by decide +kernel
theorem d1 : decode yB 1 = .ok (.aload_n 0, 1) := by decide +kernel
theorem d2 : decode yB 2 = .ok (.arraylength, 1) := by decide +kernel
theorem d3 : decode yB 3 = .ok (.isub, 1) := by decide +kernel
theorem d4 : decode yB 4 = .ok (.bipush 31, 2) := by decide +kernel
theorem d6 : decode yB 6 = .ok (.iushr, 1) := by decide +kernel
theorem d7 : decode yB 7 = .ok (.i2b, 1) := by decide +kernel
theorem d8 : decode yB 8 = .ok (.ireturn, 1) := by decide +kernel
def site : List Cond := []
def tab : Cond := tabOf yN yB 2 (some .byte) site
def P (d : Addr) (B : Cell) (args : Array Value) (s : State) : Prop := args = #[.ref d, .int (Int32.ofNat B.slots.size)] ∧ Arr .byte d B s
def E (r : Option Value) (s u : State) : Prop := XT.PureE (some (.int 0)) r s u
/-- an array as long as the number of chars: LATIN1 -/
theorem law (l : Launch) (d : Addr) (B : Cell) : Law l yN 2 2 0 0 yB 2 (some .byte) site (P d B) E [] 0 0 := by
  refine Law.of_walk (plainFor_of_name (by decide +kernel)) (by decide +kernel) (by decide +kernel) (by decide) (fun _ _ h => by rw [h.1]; rfl) (fun _ U U' hal hh h => ⟨h.1, h.2.mv hal hh⟩) (fun r U U' V V' h1 hal h2 h => XT.PureE.mv r U U' V V' h1 hal h2 h) ?_
  intro p e s m args below meth c s₁ X0 hexec hbytes hml hret hlk hnm hown hh0 W hP
  obtain ⟨rfl, hB⟩ := hP
  have hB0 := hB.mv X0.warmed.alike hh0
  have c1 : Steps p.tables e below (s₁.setTop (entryFrame m #[.ref d, .int (Int32.ofNat B.slots.size)] 2)) (s₁.setTop (mkF m 0 #[.val (.ref d), .val (.int (Int32.ofNat B.slots.size))] [])) := entry rfl
  have c2 : Steps p.tables e below (s₁.setTop (entryFrame m #[.ref d, .int (Int32.ofNat B.slots.size)] 2)) (s₁.setTop (mkF m 2 #[.val (.ref d), .val (.int (Int32.ofNat B.slots.size))] [.ref d, .int (Int32.ofNat B.slots.size)])) := c1.trans (by
    refine XS.iloadN X0.here hexec rfl (hb hbytes d0) rfl ?_
    refine XS.aloadN X0.here hexec rfl (hb hbytes d1) rfl rfl ?_
    exact Steps.refl _)
  have c3 : Steps p.tables e below (s₁.setTop (entryFrame m #[.ref d, .int (Int32.ofNat B.slots.size)] 2)) (s₁.setTop (mkF m 8 #[.val (.ref d), .val (.int (Int32.ofNat B.slots.size))] [.int (lo8 (ushr (Int32.ofNat B.slots.size - Int32.ofNat B.slots.size) 31))])) := c2.trans (by
    refine X0.alen hexec hB0 rfl rfl (hb hbytes d2) ?_
    refine XS.isub X0.here hexec rfl (hb hbytes d3) rfl ?_
    refine bipushV X0.here hexec rfl 31 (hb hbytes d4) (by decide) ?_
    refine iushr X0.here hexec rfl (hb hbytes d6) rfl ?_
    refine i2b X0.here hexec rfl (hb hbytes d7) rfl ?_
    exact Steps.refl _)
  have e0 : lo8 (ushr (Int32.ofNat B.slots.size - Int32.ofNat B.slots.size) 31) = 0 := by rw [Int32.sub_self]; decide
  rw [e0] at c3
  exact ⟨s₁, some (.int 0), _, _, _, X0, rfl, rfl, rfl, (fun h => by cases h), ⟨rfl, hh0⟩, fun fs hl => c3.trans (X0.ireturnOut hexec hret rfl (Or.inr (Or.inr (Or.inl rfl))) (hb hbytes d8) hl)⟩
end CodL
/-- the String at a is Latin-1 over a new byte[] (the heap's one new cell): the low bytes of the len chars of A from o on; every cell but a is kept -/
def Got (a : Addr) (D : Cell) (fV fC : Field) (A : Cell) (o len : Nat) (r : Option Value) (s u : State) : Prop := r = none ∧ ∃ D' V : Cell, Blank "java/lang/String" a D' u ∧ Same D D' [fV.slot, fC.slot] ∧ D'.slots[fV.slot]? = some (.ref s.heap.size) ∧ D'.slots[fC.slot]? = some (.int 0) ∧ Arr .byte s.heap.size V u ∧ V.vm = .none ∧ u.vm.findClass "[B" = some V.cls ∧ V.slots.size = len ∧ (∀ j, j < len → V.slots[j]? = some (.int (lo8 (cv A (o + j))))) ∧ (∀ (y : Addr) (c : Cell), y ≠ a → s.heap[y]? = some c → u.heap[y]? = some c) ∧ u.heap.size = s.heap.size + 1
theorem Got.mv {a : Addr} {D A : Cell} {fV fC : Field} {o len : Nat} : ∀ r (U U' V V' : State), U'.heap = U.heap → V.vm.Alike V'.vm → V'.heap = V.heap → Got a D fV fC A o len r U V → Got a D fV fC A o len r U' V' :=
  fun r U U' V V' h1 hal h2 ⟨e0, D', X, a1, a2, a3, a4, a5, a6, a7, a8, a9, a10, a11⟩ => ⟨e0, D', X, a1.mv hal h2, a2, by rw [h1]; exact a3, a4, by rw [h1]; exact a5.mv hal h2, a6, by rw [hal.findClass]; exact a7, a8, a9, by rw [h1, h2]; exact a10, by rw [h1, h2]; exact a11⟩
namespace New4
def yN : MethodName := ⟨"java/lang/String", "<init>", "([CIILjava/lang/Void;)V"⟩
abbrev yB : ByteArray := jdk_42_method_149_code
theorem d0 : decode yB 0 = .ok (.aload_n 0, 1) := by decide +kernel
theorem d1 : decode yB 1 = .ok (.invokespecial 1, 3) := by decide +kernel
theorem d4 : decode yB 4 = .ok (.iload_n 3, 1) := by decide +kernel
theorem d5 : decode yB 5 = .ok (.ifCond (.ne) 22, 3) := by decide +kernel
theorem d27 : decode yB 27 = .ok (.getstatic 38, 3) := by decide +kernel
theorem d30 : decode yB 30 = .ok (.ifCond (.eq) 28, 3) := by decide +kernel
theorem d33 : decode yB 33 = .ok (.aload_n 1, 1) := by decide +kernel
theorem d34 : decode yB 34 = .ok (.iload_n 2, 1) := by decide +kernel
theorem d35 : decode yB 35 = .ok (.iload_n 3, 1) := by decide +kernel
theorem d36 : decode yB 36 = .ok (.invokestatic 177, 3) := by decide +kernel
theorem d39 : decode yB 39 = .ok (.astore 5, 2) := by decide +kernel
theorem d41 : decode yB 41 = .ok (.aload_n 0, 1) := by decide +kernel
theorem d42 : decode yB 42 = .ok (.aload 5, 2) := by decide +kernel
theorem d44 : decode yB 44 = .ok (.iload_n 3, 1) := by decide +kernel
theorem d45 : decode yB 45 = .ok (.invokestatic 47, 3) := by decide +kernel
theorem d48 : decode yB 48 = .ok (.putfield 15, 3) := by decide +kernel
theorem d51 : decode yB 51 = .ok (.aload_n 0, 1) := by decide +kernel
theorem d52 : decode yB 52 = .ok (.aload 5, 2) := by decide +kernel
theorem d54 : decode yB 54 = .ok (.putfield 9, 3) := by decide +kernel
theorem d57 : decode yB 57 = .ok (.return_, 1) := by decide +kernel
def site : List Cond := [.fieldLink "java/lang/String" 38 "java/lang/String" "COMPACT_STRINGS" "Z", Cmp3.tab, CodL.tab, .laysFinal "java/lang/String" "java/lang/String" "value" "[B", .fieldLink "java/lang/String" 9 "java/lang/String" "value" "[B", .laysFinal "java/lang/String" "java/lang/String" "coder" "B", .fieldLink "java/lang/String" 15 "java/lang/String" "coder" "B"] ++ objW "java/lang/String" 1 ++ staticW "java/lang/String" 177 Cmp3.yN ++ staticW "java/lang/String" 47 CodL.yN
def tab : Cond := tabOf yN yB 6 none site
def P (a : Addr) (D : Cell) (fV fC : Field) (b : Addr) (A : Cell) (z : Int32) (o len : Nat) (args : Array Value) (s : State) : Prop := args = #[.ref a, .ref b, .int (Int32.ofNat o), .int (Int32.ofNat len), .null] ∧ Blank "java/lang/String" a D s ∧ Found "java/lang/String" "value" "[B" fV s ∧ Found "java/lang/String" "coder" "B" fC s ∧ Ch b A s ∧ StaticIs s "java/lang/String" "COMPACT_STRINGS" "Z" (.int z) ∧ ¬ z = 0 ∧ 0 < len ∧ o + len ≤ A.slots.size ∧ len ≤ 536870912 ∧ ∀ i, i < len → ¬ 255 < cv A (o + i)
def E (a : Addr) (D : Cell) (fV fC : Field) (A : Cell) (o len : Nat) (r : Option Value) (s u : State) : Prop := Got a D fV fC A o len r s u
/-- len > 0, no char of the range above 255: a Latin-1 String of their low bytes -/
theorem law (l : Launch) (a : Addr) (D : Cell) (fV fC : Field) (b : Addr) (A : Cell) (z : Int32) (o len : Nat) : Law l yN 5 4 2 35 yB 6 none site (P a D fV fC b A z o len) (E a D fV fC A o len) [⟨a, fC.slot⟩, ⟨a, fV.slot⟩] 1 len := by
  refine Law.of_walk (plainFor_of_name (by decide +kernel)) (by decide +kernel) (by decide +kernel) (by decide) (fun _ _ h => by rw [h.1]; rfl) (fun _ U U' hal hh h => ⟨h.1, h.2.1.mv hal hh, h.2.2.1.al hal, h.2.2.2.1.al hal, h.2.2.2.2.1.mv hal hh, h.2.2.2.2.2.1.there hal hh, h.2.2.2.2.2.2⟩) (fun r U U' V V' h1 hal h2 h => Got.mv r U U' V V' h1 hal h2 h) ?_
  intro p e s m args below meth c s₁ X0 hexec hbytes hml hret hlk hnm hown hh0 W hP
  obtain ⟨rfl, hB, f1, f2, hA, s1, hz, l0, l1, l2, hp⟩ := hP
  have a31 := hA.1.2.2.2
  have c1 : Steps p.tables e below (s₁.setTop (entryFrame m #[.ref a, .ref b, .int (Int32.ofNat o), .int (Int32.ofNat len), .null] 6)) (s₁.setTop (mkF m 0 #[.val (.ref a), .val (.ref b), .val (.int (Int32.ofNat o)), .val (.int (Int32.ofNat len)), .val .null, .unset] [])) := entry rfl
  have c2 : Steps p.tables e below (s₁.setTop (entryFrame m #[.ref a, .ref b, .int (Int32.ofNat o), .int (Int32.ofNat len), .null] 6)) (s₁.setTop (mkF m 1 #[.val (.ref a), .val (.ref b), .val (.int (Int32.ofNat o)), .val (.int (Int32.ofNat len)), .val .null, .unset] [.ref a])) := c1.trans (by
    refine XS.aloadN X0.here hexec rfl (hb hbytes d0) rfl rfl ?_
    exact Steps.refl _)
  obtain ⟨T3, X3, q3, st3⟩ := X0.oinit hexec hown (wks W (objW "java/lang/String" 1)) (g := (mkF m 1 #[.val (.ref a), .val (.ref b), .val (.int (Int32.ofNat o)), .val (.int (Int32.ofNat len)), .val .null, .unset] [.ref a])) rfl (by rw [hml]; rfl) (rest := []) rfl (hb hbytes d1) (W := 0) (by show 2 * 0 + 0 ≤ _; decide) (Nat.le_of_ble_eq_true rfl) (Nat.le_of_ble_eq_true rfl)
  have hh3 := q3.trans hh0
  have c4 : Steps p.tables e below (s₁.setTop (entryFrame m #[.ref a, .ref b, .int (Int32.ofNat o), .int (Int32.ofNat len), .null] 6)) (T3.setTop (mkF m 27 #[.val (.ref a), .val (.ref b), .val (.int (Int32.ofNat o)), .val (.int (Int32.ofNat len)), .val .null, .unset] [])) := (c2.trans (st3 _ (Steps.refl _))).trans (by
    refine XS.iloadN X3.here hexec rfl (hb hbytes d4) rfl ?_
    refine XS.ifYes X3.here hexec rfl (pc0 := 5) rfl (hb hbytes d5) rfl (i0_ne_t (nz32 (by omega) l0)) (by decide) rfl ?_
    exact Steps.refl _)
  obtain ⟨T5, X5, q5, st5⟩ := X3.sget hexec hown (wk W (.fieldLink "java/lang/String" 38 "java/lang/String" "COMPACT_STRINGS" "Z")) s1 (fun _ _ h => by rw [hh3]; exact h) (g := (mkF m 27 #[.val (.ref a), .val (.ref b), .val (.int (Int32.ofNat o)), .val (.int (Int32.ofNat len)), .val .null, .unset] [])) rfl (hb hbytes d27)
  have hh5 := q5.trans hh3
  have c6 : Steps p.tables e below (s₁.setTop (entryFrame m #[.ref a, .ref b, .int (Int32.ofNat o), .int (Int32.ofNat len), .null] 6)) (T5.setTop (mkF m 30 #[.val (.ref a), .val (.ref b), .val (.int (Int32.ofNat o)), .val (.int (Int32.ofNat len)), .val .null, .unset] [.int z])) := c4.trans (st5 _ (Steps.refl _))
  have c7 : Steps p.tables e below (s₁.setTop (entryFrame m #[.ref a, .ref b, .int (Int32.ofNat o), .int (Int32.ofNat len), .null] 6)) (T5.setTop (mkF m 36 #[.val (.ref a), .val (.ref b), .val (.int (Int32.ofNat o)), .val (.int (Int32.ofNat len)), .val .null, .unset] [.int (Int32.ofNat len), .int (Int32.ofNat o), .ref b])) := c6.trans (by
    refine XS.ifNo X5.here hexec rfl (hb hbytes d30) rfl (i0_eq_f hz) ?_
    refine XS.aloadN X5.here hexec rfl (hb hbytes d33) rfl rfl ?_
    refine XS.iloadN X5.here hexec rfl (hb hbytes d34) rfl ?_
    refine XS.iloadN X5.here hexec rfl (hb hbytes d35) rfl ?_
    exact Steps.refl _)
  obtain ⟨v8, T8, X8, E8, g8⟩ := X5.callS hexec (Cmp3.law l b A o len) hown (wks W (staticW "java/lang/String" 177 Cmp3.yN)) (wk W Cmp3.tab) (W := 0) (Nat.le_of_ble_eq_true rfl) (Nat.le_of_ble_eq_true rfl) (Nat.le_refl _) (by show 0 + len ≤ len; omega) (g := (mkF m 36 #[.val (.ref a), .val (.ref b), .val (.int (Int32.ofNat o)), .val (.int (Int32.ofNat len)), .val .null, .unset] [.int (Int32.ofNat len), .int (Int32.ofNat o), .ref b])) rfl (by rw [hml]; rfl) c7 (argsL := [.ref b, .int (Int32.ofNat o), .int (Int32.ofNat len)]) (rest := []) rfl rfl (by show 2 * 0 + 0 ≤ _; decide) (hb hbytes d36) (⟨rfl, hA.mv X5.warmed.alike hh5, l1, l2, hp⟩)
  obtain ⟨e8, z8⟩ := E8
  obtain ⟨rfl, N, n1, n2, n3, n4, n5, n6⟩ := NewArr.mv _ T5 s _ _ hh5.symm (Vm.Alike.refl _) rfl e8
  rw [hh5] at z8
  have hB1 := hB.keep X8.warmed.alike (n6 _ _ hB.1)
  have hne : s.heap.size ≠ a := (Nat.ne_of_lt (Array.getElem?_eq_some_iff.mp hB.1).1).symm
  have c9 : Steps p.tables e below (s₁.setTop (entryFrame m #[.ref a, .ref b, .int (Int32.ofNat o), .int (Int32.ofNat len), .null] 6)) (T8.setTop (mkF m 39 #[.val (.ref a), .val (.ref b), .val (.int (Int32.ofNat o)), .val (.int (Int32.ofNat len)), .val .null, .unset] [.ref s.heap.size])) := g8
  have c10 : Steps p.tables e below (s₁.setTop (entryFrame m #[.ref a, .ref b, .int (Int32.ofNat o), .int (Int32.ofNat len), .null] 6)) (T8.setTop (mkF m 45 #[.val (.ref a), .val (.ref b), .val (.int (Int32.ofNat o)), .val (.int (Int32.ofNat len)), .val .null, .val (.ref s.heap.size)] [.int (Int32.ofNat N.slots.size), .ref s.heap.size, .ref a])) := by
    have hc : Steps p.tables e below (s₁.setTop (entryFrame m #[.ref a, .ref b, .int (Int32.ofNat o), .int (Int32.ofNat len), .null] 6)) (T8.setTop (mkF m 45 #[.val (.ref a), .val (.ref b), .val (.int (Int32.ofNat o)), .val (.int (Int32.ofNat len)), .val .null, .val (.ref s.heap.size)] [.int (Int32.ofNat len), .ref s.heap.size, .ref a])) := c9.trans (by
      refine XS.astore X8.here hexec rfl (hb hbytes d39) rfl rfl rfl ?_
      refine XS.aloadN X8.here hexec rfl (hb hbytes d41) rfl rfl ?_
      refine XS.aload X8.here hexec rfl (hb hbytes d42) rfl rfl ?_
      refine XS.iloadN X8.here hexec rfl (hb hbytes d44) rfl ?_
      exact Steps.refl _)
    rw [n4]; exact hc
  obtain ⟨v11, T11, X11, E11, g11⟩ := X8.callS hexec (CodL.law l s.heap.size N) hown (wks W (staticW "java/lang/String" 47 CodL.yN)) (wk W CodL.tab) (W := 1) (Nat.le_of_ble_eq_true rfl) (Nat.le_of_ble_eq_true rfl) (Nat.le_refl _) (by show 0 + len + 0 ≤ len; omega) (g := (mkF m 45 #[.val (.ref a), .val (.ref b), .val (.int (Int32.ofNat o)), .val (.int (Int32.ofNat len)), .val .null, .val (.ref s.heap.size)] [.int (Int32.ofNat N.slots.size), .ref s.heap.size, .ref a])) rfl (by rw [hml]; rfl) c10 (argsL := [.ref s.heap.size, .int (Int32.ofNat N.slots.size)]) (rest := [.ref a]) rfl rfl (by show 2 * 0 + (1 + 0) ≤ _; decide) (hb hbytes d45) (⟨rfl, n1⟩)
  obtain ⟨rfl, q11⟩ := E11
  have hB11 := hB1.mv (X8.warmed.alike.symm.trans X11.warmed.alike) q11
  have c12 : Steps p.tables e below (s₁.setTop (entryFrame m #[.ref a, .ref b, .int (Int32.ofNat o), .int (Int32.ofNat len), .null] 6)) (T11.setTop (mkF m 48 #[.val (.ref a), .val (.ref b), .val (.int (Int32.ofNat o)), .val (.int (Int32.ofNat len)), .val .null, .val (.ref s.heap.size)] [.int 0, .ref a])) := g11
  obtain ⟨T13, X13, p13, bl13, sl13, st13⟩ := X11.finit hexec hown (wk W (.fieldLink "java/lang/String" 15 "java/lang/String" "coder" "B")) (Or.inr ⟨_, (wk W (.laysFinal "java/lang/String" "java/lang/String" "coder" "B"))⟩) (Or.inl ⟨rfl, hnm⟩) f2 (Or.inl rfl) hB11 (t := .byte) (by decide +kernel) rfl (g := (mkF m 48 #[.val (.ref a), .val (.ref b), .val (.int (Int32.ofNat o)), .val (.int (Int32.ofNat len)), .val .null, .val (.ref s.heap.size)] [.int 0, .ref a])) rfl (rest := []) rfl (hb hbytes d48)
  have c14 : Steps p.tables e below (s₁.setTop (entryFrame m #[.ref a, .ref b, .int (Int32.ofNat o), .int (Int32.ofNat len), .null] 6)) (T13.setTop (mkF m 54 #[.val (.ref a), .val (.ref b), .val (.int (Int32.ofNat o)), .val (.int (Int32.ofNat len)), .val .null, .val (.ref s.heap.size)] [.ref s.heap.size, .ref a])) := (c12.trans (st13 _ (Steps.refl _))).trans (by
    refine XS.aloadN X13.here hexec rfl (hb hbytes d51) rfl rfl ?_
    refine XS.aload X13.here hexec rfl (hb hbytes d52) rfl rfl ?_
    exact Steps.refl _)
  obtain ⟨T15, X15, p15, bl15, sl15, st15⟩ := X13.finit hexec hown (wk W (.fieldLink "java/lang/String" 9 "java/lang/String" "value" "[B")) (Or.inr ⟨_, (wk W (.laysFinal "java/lang/String" "java/lang/String" "value" "[B"))⟩) (Or.inl ⟨rfl, hnm⟩) f1 (Or.inl rfl) bl13 (t := (.array .byte)) (by decide +kernel) rfl (g := (mkF m 54 #[.val (.ref a), .val (.ref b), .val (.int (Int32.ofNat o)), .val (.int (Int32.ofNat len)), .val .null, .val (.ref s.heap.size)] [.ref s.heap.size, .ref a])) rfl (rest := []) rfl (hb hbytes d54)
  have c16 : Steps p.tables e below (s₁.setTop (entryFrame m #[.ref a, .ref b, .int (Int32.ofNat o), .int (Int32.ofNat len), .null] 6)) (T15.setTop (mkF m 57 #[.val (.ref a), .val (.ref b), .val (.int (Int32.ofNat o)), .val (.int (Int32.ofNat len)), .val .null, .val (.ref s.heap.size)] [])) := c14.trans (st15 _ (Steps.refl _))
  have ap := apart (Or.inr ⟨_, (wk W (.laysFinal "java/lang/String" "java/lang/String" "value" "[B"))⟩) (Or.inr ⟨_, (wk W (.laysFinal "java/lang/String" "java/lang/String" "coder" "B"))⟩) f1 f2 (t₁ := .array .byte) (t₂ := .byte) (by decide +kernel) (by decide +kernel) (by decide)
  have al := X8.warmed.alike.symm.trans X15.warmed.alike
  have n7 : T11.heap[s.heap.size]? = some N := by rw [q11]; exact n1.1
  exact ⟨T15, none, _, _, _, X15, by simp, rfl, by omega, (fun _ => rfl), ⟨rfl, _, N, bl15, ((Same.refl D _).set _ (by simp)).set _ (by simp), sl15, (Cell.slots_setSlot_ne _ ap).trans sl13, n1.keep al (p15.other hne (p13.other hne n7)), n2, by rw [al.findClass]; exact n3, n4, n5, fun y c h1 h2 => p15.other h1 (p13.other h1 (by rw [q11]; exact n6 y c h2)), by rw [p15.2.2, p13.2.2, q11]; exact z8⟩, fun fs hl => c16.trans (X15.returnOut hexec hret (hb hbytes d57) hl)⟩
end New4
namespace New1
def yN : MethodName := ⟨"java/lang/String", "<init>", "([C)V"⟩
abbrev yB : ByteArray := jdk_42_method_3_code
theorem d0 : decode yB 0 = .ok (.aload_n 0, 1) := by decide +kernel
theorem d1 : decode yB 1 = .ok (.aload_n 1, 1) := by decide +kernel
theorem d2 : decode yB 2 = .ok (.iconst 0, 1) := by decide +kernel
theorem d3 : decode yB 3 = .ok (.aload_n 1, 1) := by decide +kernel
theorem d4 : decode yB 4 = .ok (.arraylength, 1) := by decide +kernel
theorem d5 : decode yB 5 = .ok (.aconst_null, 1) := by decide +kernel
theorem d6 : decode yB 6 = .ok (.invokespecial 27, 3) := by decide +kernel
theorem d9 : decode yB 9 = .ok (.return_, 1) := by decide +kernel
def site : List Cond := [New4.tab] ++ initW "java/lang/String" 27 New4.yN
def tab : Cond := tabOf yN yB 2 none site
def P (a : Addr) (D : Cell) (fV fC : Field) (b : Addr) (A : Cell) (z : Int32) (args : Array Value) (s : State) : Prop := args = #[.ref a, .ref b] ∧ Blank "java/lang/String" a D s ∧ Found "java/lang/String" "value" "[B" fV s ∧ Found "java/lang/String" "coder" "B" fC s ∧ Ch b A s ∧ StaticIs s "java/lang/String" "COMPACT_STRINGS" "Z" (.int z) ∧ ¬ z = 0 ∧ 0 < A.slots.size ∧ A.slots.size ≤ 536870912 ∧ ∀ i, i < A.slots.size → ¬ 255 < cv A i
def E (a : Addr) (D : Cell) (fV fC : Field) (A : Cell) (r : Option Value) (s u : State) : Prop := Got a D fV fC A 0 A.slots.size r s u
/-- new String(chars), not empty, no char above 255: a Latin-1 String of their low bytes -/
theorem law (l : Launch) (a : Addr) (D : Cell) (fV fC : Field) (b : Addr) (A : Cell) (z : Int32) : Law l yN 2 1 3 52 yB 2 none site (P a D fV fC b A z) (E a D fV fC A) [⟨a, fC.slot⟩, ⟨a, fV.slot⟩] 1 A.slots.size := by
  refine Law.of_walk (plainFor_of_name (by decide +kernel)) (by decide +kernel) (by decide +kernel) (by decide) (fun _ _ h => by rw [h.1]; rfl) (fun _ U U' hal hh h => ⟨h.1, h.2.1.mv hal hh, h.2.2.1.al hal, h.2.2.2.1.al hal, h.2.2.2.2.1.mv hal hh, h.2.2.2.2.2.1.there hal hh, h.2.2.2.2.2.2⟩) (fun r U U' V V' h1 hal h2 h => Got.mv r U U' V V' h1 hal h2 h) ?_
  intro p e s m args below meth c s₁ X0 hexec hbytes hml hret hlk hnm hown hh0 W hP
  obtain ⟨rfl, hB, f1, f2, hA, s1, hz, l0, l2, hp⟩ := hP
  have c1 : Steps p.tables e below (s₁.setTop (entryFrame m #[.ref a, .ref b] 2)) (s₁.setTop (mkF m 0 #[.val (.ref a), .val (.ref b)] [])) := entry rfl
  have c2 : Steps p.tables e below (s₁.setTop (entryFrame m #[.ref a, .ref b] 2)) (s₁.setTop (mkF m 6 #[.val (.ref a), .val (.ref b)] [.null, .int (Int32.ofNat A.slots.size), .int 0, .ref b, .ref a])) := c1.trans (by
    refine XS.aloadN X0.here hexec rfl (hb hbytes d0) rfl rfl ?_
    refine XS.aloadN X0.here hexec rfl (hb hbytes d1) rfl rfl ?_
    refine iconstV X0.here hexec rfl 0 (hb hbytes d2) (by decide) ?_
    refine XS.aloadN X0.here hexec rfl (hb hbytes d3) rfl rfl ?_
    refine X0.alen hexec (hA.1.mv X0.warmed.alike hh0) rfl rfl (hb hbytes d4) ?_
    refine XS.aconstNull X0.here hexec rfl (hb hbytes d5) ?_
    exact Steps.refl _)
  obtain ⟨v3, T3, X3, E3, g3⟩ := X0.callN hexec (New4.law l a D fV fC b A z 0 A.slots.size) rfl hown (wks W (initW "java/lang/String" 27 New4.yN)) (W New4.tab (by simp only [site, List.mem_cons, List.mem_append, true_or, or_true])) (W := 0) (Nat.le_of_ble_eq_true rfl) (Nat.le_of_ble_eq_true rfl) (Nat.le_refl _) (by show 0 + A.slots.size ≤ A.slots.size; omega) (g := (mkF m 6 #[.val (.ref a), .val (.ref b)] [.null, .int (Int32.ofNat A.slots.size), .int (Int32.ofNat 0), .ref b, .ref a])) rfl (by rw [hml]; rfl) c2 (argsL := [.ref b, .int (Int32.ofNat 0), .int (Int32.ofNat A.slots.size), .null]) (rest := []) rfl rfl (by show 2 * 0 + 0 ≤ _; decide) (hb hbytes d6) (⟨rfl, hB.mv X0.warmed.alike hh0, f1.al X0.warmed.alike, f2.al X0.warmed.alike, hA.mv X0.warmed.alike hh0, s1.there X0.warmed.alike hh0, hz, l0, by omega, l2, fun i hi => by rw [Nat.zero_add]; exact hp i hi⟩)
  have e0 := Got.mv _ s₁ s _ _ hh0.symm (Vm.Alike.refl _) rfl E3
  obtain rfl := e0.1
  have c4 : Steps p.tables e below (s₁.setTop (entryFrame m #[.ref a, .ref b] 2)) (T3.setTop (mkF m 9 #[.val (.ref a), .val (.ref b)] [])) := g3
  exact ⟨T3, none, _, _, _, X3, by simp, rfl, by omega, (fun _ => rfl), e0, fun fs hl => c4.trans (X3.returnOut hexec hret (hb hbytes d9) hl)⟩
theorem pays {l : Launch} {R : Room} {p : Program} {e : Env} {below : List Frame} {s : State} {sargs : Array Value} {len W : Nat} (a : Addr) (D : Cell) (fV fC : Field) (b : Addr) (A : Cell) (z : Int32) (htab : tab.before sargs s = true) (hfr : 4 ≤ R.frames) (hlo : W + 65 ≤ R.locals) :
    Back l R p e below s sargs yN len W (fun A₁ a₁ => A₁.cells + 1 ≤ R.cells ∧ A₁.slots + A.slots.size ≤ R.slots ∧ P a D fV fC b A z a₁ A₁.U) (fun A₁ _ v₁ B₁ => E a D fV fC A v₁ A₁.U B₁.U ∧ B₁.locs = A₁.locs ++ [⟨a, fC.slot⟩, ⟨a, fV.slot⟩] ∧ B₁.cells = A₁.cells + 1 ∧ B₁.slots = A₁.slots + A.slots.size) :=
  (law l a D fV fC b A z).pays htab hfr (by omega)
end New1
/-- the byte, read back as charAt reads it, is the char -/
theorem lo8_mask {x : Int32} (h0 : ¬ x < 0) (h1 : ¬ 255 < x) : lo8 x &&& 255 = x := by
  have t : ∀ k : Fin 256, lo8 (Int32.ofNat k.val) &&& 255 = Int32.ofNat k.val := by decide +kernel
  rw [Int32.lt_iff_toInt_lt] at h0 h1
  have e0 : (0 : Int32).toInt = 0 := rfl
  have e1 : (255 : Int32).toInt = 255 := rfl
  obtain ⟨k, hk⟩ : ∃ k : Nat, x.toInt = k := ⟨x.toInt.toNat, by omega⟩
  have hx : x = Int32.ofNat k := Int32.toInt_inj.mp (by rw [hk, Int32.toInt_ofNat_small (by omega)])
  rw [hx]
  exact t ⟨k, by omega⟩
end StrChars
namespace StrChars.Road
open Jvm Sem ClassFile Op Lib Jvm.Stand Jvm.Free Jvm.Free.XT
open Jvm.Lib.Cold (StaticIs)
abbrev ST : String := "java/lang/String"
/-- every table word that New1's law asks, flat -/
abbrev words : List Jvm.Cond := [.code New1.yN New1.yB 2 none, .initialized ST, .methodLink ST 27 New4.yN, .instanceMethod New4.yN,
  .code New4.yN New4.yB 6 none, .fieldLink ST 38 ST "COMPACT_STRINGS" "Z", .laysFinal ST ST "value" "[B", .fieldLink ST 9 ST "value" "[B", .laysFinal ST ST "coder" "B", .fieldLink ST 15 ST "coder" "B",
  .methodLink ST 1 Lib.objectInit, .instanceMethod Lib.objectInit, .code Lib.objectInit ⟨#[0xb1]⟩ 1 none, .methodLink ST 177 Cmp3.yN, .static Cmp3.yN, .methodLink ST 47 CodL.yN, .static CodL.yN,
  .code Cmp3.yN Cmp3.yB 6 (some (.array .byte)), .initialized U16, .arrayClass .byte, .methodLink U16 115 Cmp5.yN, .static Cmp5.yN, .code Cmp5.yN Cmp5.yB 7 (some .int), .code CodL.yN CodL.yB 2 (some .byte)]
theorem tab_of {a : Array Value} {s : State} (h : ∀ w ∈ words, w.before a s = true) : New1.tab.before a s = true := by
  have h5 : Cmp5.tab.before a s = true := unparts (wk h (.code Cmp5.yN Cmp5.yB 7 (some .int))) (wks h (.initialized Cmp5.yN.cls :: Cmp5.site))
  have hc : CodL.tab.before a s = true := unparts (wk h (.code CodL.yN CodL.yB 2 (some .byte))) (wks h (.initialized CodL.yN.cls :: CodL.site))
  have q5 : ∀ w ∈ Cmp5.tab :: words, w.before a s = true := fun w hw => (List.mem_cons.mp hw).elim (fun e => e ▸ h5) (h w)
  have h3 : Cmp3.tab.before a s = true := unparts (wk q5 (.code Cmp3.yN Cmp3.yB 6 (some (.array .byte)))) (wks q5 (.initialized Cmp3.yN.cls :: Cmp3.site))
  have q3 : ∀ w ∈ Cmp3.tab :: CodL.tab :: words, w.before a s = true := fun w hw => (List.mem_cons.mp hw).elim (fun e => e ▸ h3) fun hw => (List.mem_cons.mp hw).elim (fun e => e ▸ hc) (h w)
  have h4 : New4.tab.before a s = true := unparts (wk q3 (.code New4.yN New4.yB 6 none)) (wks q3 (.initialized New4.yN.cls :: New4.site))
  have q4 : ∀ w ∈ New4.tab :: words, w.before a s = true := fun w hw => (List.mem_cons.mp hw).elim (fun e => e ▸ h4) (h w)
  exact unparts (wk q4 (.code New1.yN New1.yB 2 none)) (wks q4 (.initialized New1.yN.cls :: New1.site))
/-- the words ride from the start Z to the walk's own state -/
theorem moved {Z s : State} {a0 args : Array Value} (hZ : Z.Warmed39 s.vm) (hw : ∀ d ∈ words, d.before a0 Z = true) : ∀ d ∈ words, d.before args s = true := fun d hd => by
  have q := hw d hd
  have t : ∀ d ∈ words, d = .arrayClass .byte ∨ (d.onTables && d.keepsFace) = true := by decide +kernel
  rcases t d hd with rfl | t
  · exact RoadKit.mvA hZ q
  · exact RoadKit.mv hZ q t
/-- WHAT COMES BACK, over the tables of the start Z: h the heap at the call, h' behind it -/
def Q (Z : State) (x : Addr) (A : Cell) (h : Heap) (v : Option Value) (h' : Heap) (L : List Loc) : Prop := v = none ∧ (∀ y ∈ L, y.base = x) ∧ RoadKit.Keep h h' [x] ∧ h'.size = h.size + 1 ∧ RoadKit.Exa Z h' x ST ∧ RoadKit.Fld Z h' x ST "value" "[B" (.ref h.size) ∧ RoadKit.Fld Z h' x ST "coder" "B" (.int 0) ∧
  (∃ V : Cell, RoadKit.Arr Z h' h.size V .byte ∧ V.vm = .none ∧ Z.vm.findClass "[B" = some V.cls ∧ V.slots.size = A.slots.size ∧ ∀ j, j < A.slots.size → V.slots[j]? = some (.int (lo8 (cv A j)))) ∧
  ∀ (O n d : String) (w : Value), RoadKit.Fld Z h x O n d w → RoadKit.slotOf Z O n d ≠ RoadKit.slotOf Z ST "value" "[B" → RoadKit.slotOf Z O n d ≠ RoadKit.slotOf Z ST "coder" "B" → RoadKit.Fld Z h' x O n d w
/-- **new String(chars) AT A CALL, IN THE ROAD'S FORM**: for specialBack behind newO: x the fresh String, b the char[] with the cell A -/
theorem back {p : Program} {l : Launch} {e : Env} {R : Room} {s : State} {args : Array Value} {below : List Frame} {len W : Nat} {Z : State} {a0 : Array Value} {h : Heap} (hZ : Z.Warmed39 s.vm) (hw : ∀ d ∈ words, d.before a0 Z = true) {kI : Nat} (wi : (Jvm.Cond.instantiable ST kI).before a0 Z = true)
    {x b : Addr} {A : Cell} {z : Int32} {v0 c0 : Value} (E : RoadKit.Exa Z h x ST) (V : RoadKit.Fld Z h x ST "value" "[B" v0) (C : RoadKit.Fld Z h x ST "coder" "B" c0) (K : RoadKit.Arr Z h b A .char) (hty : Typed .char A) (S : RoadKit.Sta Z h ST "COMPACT_STRINGS" "Z" (.int z)) (hz : ¬ z = 0)
    (l0 : 0 < A.slots.size) (l2 : A.slots.size ≤ 536870912) (hp : ∀ i, i < A.slots.size → ¬ 255 < cv A i) (hfr : 4 ≤ R.frames) (hlo : W + 65 ≤ R.locals) :
    Back l R p e below s args New1.yN len W (fun P a => a = #[.ref x, .ref b] ∧ P.U.heap = h ∧ P.cells + 1 ≤ R.cells ∧ P.slots + A.slots.size ≤ R.slots)
      (fun P _ v B => ∃ L, Q Z x A h v B.U.heap L ∧ B.locs = P.locs ++ L ∧ B.cells = P.cells + 1 ∧ B.slots = P.slots + A.slots.size) := by
  intro m meth c P g ig mk a X hg hsize hdg hW hn hp'
  obtain ⟨rfl, rfl, r1, r2⟩ := hp'
  have al : Z.vm.Alike P.U.vm := hZ.alike.trans X.warmed.alike
  obtain ⟨D, cfV, kV, iV, fV, hD, gV, stV, knV, obV, asV, slV⟩ := id V
  obtain ⟨D', cfC, kC, iC, fC, hD', gC, stC, -, -, asC, slC⟩ := id C
  cases hD.symm.trans hD'
  obtain ⟨D2, kD, e1, e2, e3, e4, e5⟩ := id E
  cases hD.symm.trans e1
  obtain ⟨c2, k2, i1, i2, i3, -⟩ := Cond.instantiable_spec wi
  cases e2.symm.trans i1
  cases e3.symm.trans i2
  obtain ⟨kU, u1, u2⟩ := al.2.2 _ _ e3
  have hB : Blank ST x D P.U := ⟨hD, ⟨knV, fun q hq => by rw [hq] at obV; cases obV⟩, by rw [al.findClass]; exact e2, kU, u1, by rw [u2]; exact i3, by rw [u2]; exact e5 i3⟩
  have F1 : Found ST "value" "[B" fV P.U := ⟨SBG.found_only al ⟨cfV, kV, iV, gV⟩, stV⟩
  have F2 : Found ST "coder" "B" fC P.U := ⟨SBG.found_only al ⟨cfC, kC, iC, gC⟩, stC⟩
  have hA : Ch b A P.U := ⟨⟨K.1, State.isArrayOf_alike al K.2.1, K.2.2, by omega⟩, hty⟩
  have hS : StaticIs P.U ST "COMPACT_STRINGS" "Z" (.int z) := by
    obtain ⟨cfS, iS, kS, fS, st, cS, t1, t2, t3, t4, t5, t6, t7⟩ := S
    exact StaticIs.there (s := { Z with heap := P.U.heap }) ⟨cfS, iS, kS, fS, st, cS, t1, t2, t3, t4, t5, (fun q => by rw [q] at t6; cases t6), t7⟩ al rfl
  obtain ⟨v, B, X', ⟨⟨hv, E', V', q1, q2, q3, q4, q5, q6, q7, q8, q9, q10, q11⟩, hl, hc, hs⟩, st⟩ := New1.pays x D fV fC b A z (tab_of (moved hZ hw)) hfr hlo m meth c P g ig mk _ X hg hsize hdg hW hn ⟨r1, r2, rfl, hB, F1, F2, hA, hS, hz, l0, l2, hp⟩
  have al' : Z.vm.Alike B.U.vm := hZ.alike.trans X'.warmed.alike
  have hsz : E'.slots.size = D.slots.size := by
    obtain ⟨-, -, -, kB, w1, w2, w3⟩ := q1
    obtain ⟨kB', y1, y2⟩ := al'.2.2 _ _ e3
    rw [q2.2.1] at w1
    cases w1.symm.trans y1
    rw [w3, e5 i3, y2]
  refine ⟨v, B, X', ⟨_, ⟨hv, ?_, ⟨by omega, fun y cy hy hn' => q10 y cy (by simpa using hn') hy, fun y cy hy => ?_⟩, q11, ⟨E', _, q1.1, by rw [q2.2.1]; exact e2, by rw [q2.2.1]; exact e3, by rw [q2.1]; exact obV, fun _ => by rw [hsz]; exact e5 i3⟩,
    ⟨E', cfV, kV, iV, fV, q1.1, gV, stV, by rw [q2.1]; exact knV, by rw [q2.1]; exact obV, by rw [q2.2.1]; exact asV, q3⟩, ⟨E', cfC, kC, iC, fC, q1.1, gC, stC, by rw [q2.1]; exact knV, by rw [q2.1]; exact obV, by rw [q2.2.1]; exact asC, q4⟩,
    ⟨V', ⟨q5.1, State.isArrayOf_alike al'.symm q5.2.1, q5.2.2.1⟩, q6, by rw [← al'.findClass]; exact q7, q8, fun j hj => by have := q9 j hj; rwa [Nat.zero_add] at this⟩, fun O n d w F n1 n2 => ?_⟩, hl, hc, hs⟩, st⟩
  · intro y hy
    simp only [List.mem_cons, List.not_mem_nil, or_false] at hy
    rcases hy with rfl | rfl <;> rfl
  · by_cases q : y = x
    · subst q
      cases hD.symm.trans hy
      exact ⟨E', q1.1, q2.2.1, q2.1, hsz⟩
    · exact ⟨cy, q10 y cy q hy, rfl, rfl, rfl⟩
  · obtain ⟨D3, cf, k, i, f, g1, g2, g3, g4, g5, g6, g7⟩ := F
    cases hD.symm.trans g1
    simp only [RoadKit.slotOf, g2, gV, gC, Option.map_some, Option.getD_some] at n1 n2
    exact ⟨E', cf, k, i, f, q1.1, g2, g3, by rw [q2.1]; exact g4, by rw [q2.1]; exact g5, by rw [q2.2.1]; exact g6, by rw [q2.2.2 f.slot (by simp [n1, n2])]; exact g7⟩
end StrChars.Road
namespace StrChars.Road
open Jvm Sem ClassFile Op Lib Jvm.Stand Jvm.Free Jvm.Free.XT
/-- WHAT COMES BACK, the byte[] as a list of values -/
def QA (Z : State) (x : Addr) (zn : Int32) (cs : List Int32) (h : Heap) (v : Option Value) (h' : Heap) (L : List Loc) : Prop := v = none ∧ (∀ y ∈ L, y.base = x) ∧ RoadKit.Keep h h' [x] ∧ h'.size = h.size + 1 ∧ RoadKit.Exa Z h' x ST ∧ RoadKit.Fld Z h' x ST "value" "[B" (.ref h.size) ∧ RoadKit.Fld Z h' x ST "coder" "B" (.int 0) ∧
  (∃ kb, Z.vm.findClass "[B" = some kb ∧ RoadKit.Arv Z h' h.size kb .byte zn (cs.map fun c => .int (lo8 c)) (.int 0)) ∧
  ∀ (O n d : String) (w : Value), RoadKit.Fld Z h x O n d w → RoadKit.slotOf Z O n d ≠ RoadKit.slotOf Z ST "value" "[B" → RoadKit.slotOf Z O n d ≠ RoadKit.slotOf Z ST "coder" "B" → RoadKit.Fld Z h' x O n d w
/-- **new String(chars) AT A CALL, THE ARRAYS AS LISTS**: the char[] at b holds cs, not empty, no char above 255 -/
theorem backArv {p : Program} {l : Launch} {e : Env} {R : Room} {s : State} {args : Array Value} {below : List Frame} {len W : Nat} {Z : State} {a0 : Array Value} {h : Heap} (hZ : Z.Warmed39 s.vm) (hw : ∀ d ∈ words, d.before a0 Z = true) {kI : Nat} (wi : (Jvm.Cond.instantiable ST kI).before a0 Z = true)
    {x b : Addr} {k : ClassId} {zn z : Int32} {cs : List Int32} {dv v0 c0 : Value} (E : RoadKit.Exa Z h x ST) (V : RoadKit.Fld Z h x ST "value" "[B" v0) (C : RoadKit.Fld Z h x ST "coder" "B" c0) (K : RoadKit.Arv Z h b k .char zn (cs.map Value.int) dv) (S : RoadKit.Sta Z h ST "COMPACT_STRINGS" "Z" (.int z)) (hz : ¬ z = 0)
    (hlen : zn.toNatClampNeg = cs.length) (h0 : 0 < cs.length) (hbig : cs.length ≤ 536870912) (hall : ∀ c ∈ cs, ¬ 255 < c) (hfr : 4 ≤ R.frames) (hlo : W + 65 ≤ R.locals) :
    Back l R p e below s args New1.yN len W (fun P a => a = #[.ref x, .ref b] ∧ P.U.heap = h ∧ P.cells + 1 ≤ R.cells ∧ P.slots + cs.length ≤ R.slots)
      (fun P _ v B => ∃ L, QA Z x zn cs h v B.U.heap L ∧ B.locs = P.locs ++ L ∧ B.cells = P.cells + 1 ∧ B.slots = P.slots + cs.length) := by
  obtain ⟨A, K1, K2, K3, K4, K5, K6⟩ := K
  have e : A.slots.size = cs.length := K3.trans hlen
  have hat : ∀ (i : Nat) (hi : i < cs.length), A.slots[i]? = some (.int cs[i]) := fun i hi => by rw [K5 i (by omega)]; simp [List.getD_eq_getElem?_getD, hi]
  have hcv : ∀ (i : Nat) (hi : i < cs.length), cv A i = cs[i] := fun i hi => by unfold cv; rw [hat i hi]
  have hty : Typed .char A := fun i v hv => by
    have hi : i < A.slots.size := (Array.getElem?_eq_some_iff.mp hv).1
    have q := K5 i hi
    rw [hv] at q
    rw [Option.some.inj q]
    exact K6 i hi
  refine Back.mono (back hZ hw wi E V C K1 hty S hz (by omega) (by omega) (fun i hi => by rw [hcv i (by omega)]; exact hall _ (List.getElem_mem _)) hfr hlo) (fun P a hp => ⟨hp.1, hp.2.1, hp.2.2.1, by rw [e]; exact hp.2.2.2⟩) (fun P a v B hp hq => ?_)
  obtain ⟨L, ⟨q1, q2, q3, q4, q5, q6, q7, ⟨V', v1, v2, v3, v4, v5⟩, q9⟩, hl, hc, hs⟩ := hq
  refine ⟨L, ⟨q1, q2, q3, q4, q5, q6, q7, ⟨V'.cls, v3, V', v1, rfl, by rw [v4, e, hlen], K4, fun i hi => ?_, fun i hi => ?_⟩, q9⟩, hl, hc, by rw [hs, e]⟩
  · have hi' : i < cs.length := by omega
    rw [v5 i (by omega), hcv i hi']; simp [List.getD_eq_getElem?_getD, hi']
  · have hi' : i < cs.length := by omega
    simp only [List.getD_eq_getElem?_getD, List.getElem?_map, List.getElem?_eq_getElem hi', Option.map_some, Option.getD_some]
    exact fits_lo8 _
end StrChars.Road
namespace StrChars.Road
open Jvm Sem ClassFile Op Lib Jvm.Stand Jvm.Free Jvm.Free.XT
/-- WHAT COMES BACK, in the writer's own shape -/
def QV (Z : State) (x : Addr) (N : Int32) (bs : List Int32) (h : Heap) (n0 : Nat) (v : Option Value) (h' : Heap) (L : List Loc) : Prop := v = none ∧ RoadKit.Fr n0 L ∧ RoadKit.Keep h h' [x] ∧ RoadKit.Exa Z h' x ST ∧ RoadKit.Fld Z h' x ST "coder" "B" (.int 0) ∧
  ∃ (t : Addr) (kb : ClassId), n0 ≤ t ∧ h.size ≤ t ∧ ¬ t = x ∧ RoadKit.Fld Z h' x ST "value" "[B" (.ref t) ∧ RoadKit.Arv Z h' t kb .byte N (bs.map Value.int) (.int 0)
/-- **new String(chars) AT A CALL, FOR THE WRITER**: a char[] of n known ints, each 0 to 255 -/
theorem backV {p : Program} {l : Launch} {e : Env} {R : Room} {s : State} {args : Array Value} {below : List Frame} {len W : Nat} {Z : State} {a0 : Array Value} {h : Heap} (hZ : Z.Warmed39 s.vm) (hw : ∀ d ∈ words, d.before a0 Z = true) {kI : Nat} (wi : (Jvm.Cond.instantiable ST kI).before a0 Z = true)
    {x b : Addr} {kC : ClassId} {cs bs : List Int32} {d v0 c0 : Value} {z N : Int32} {n n0 : Nat} (hx0 : n0 ≤ x) (hh0 : n0 ≤ h.size) (E : RoadKit.Exa Z h x ST) (V : RoadKit.Fld Z h x ST "value" "[B" v0) (C : RoadKit.Fld Z h x ST "coder" "B" c0) (K : RoadKit.Arv Z h b kC .char N (cs.map Value.int) d) (S : RoadKit.Sta Z h ST "COMPACT_STRINGS" "Z" (.int z)) (hz : ¬ z = 0)
    (hn : cs.length = n) (hN : N = Int32.ofNat n) (l0 : 0 < n) (l2 : n ≤ 4000) (hp : ∀ c ∈ cs, ¬ c < 0 ∧ ¬ (255 : Int32) < c) (hb : bs = cs.map (fun c => c.toInt8.toInt32)) (hfr : 4 ≤ R.frames) (hlo : W + 65 ≤ R.locals) :
    Back l R p e below s args (⟨"java/lang/String", "<init>", "([C)V"⟩ : MethodName) len W (fun P a => a = #[.ref x, .ref b] ∧ P.U.heap = h ∧ P.cells + 1 ≤ R.cells ∧ P.slots + n ≤ R.slots)
      (fun P _ v B => ∃ L, QV Z x N bs h n0 v B.U.heap L ∧ B.locs = P.locs ++ L ∧ B.cells = P.cells + 1 ∧ B.slots = P.slots + n) := by
  subst hn hN hb
  refine Back.mono (backArv hZ hw wi E V C K S hz (n32 (by omega)) l0 (by omega) (fun c hc => (hp c hc).2) hfr hlo) (fun P a hp => hp) (fun P a v B hp hq => ?_)
  obtain ⟨L, ⟨q1, q2, q3, q4, q5, q6, q7, ⟨kb, v1, v2⟩, q9⟩, hl, hc, hs⟩ := hq
  exact ⟨L, ⟨q1, fun y hy => by rw [q2 y hy]; exact hx0, q3, q5, q7, h.size, kb, hh0, Nat.le_refl _, Nat.ne_of_gt E.lt, q6, by rw [List.map_map]; exact v2⟩, hl, hc, hs⟩
end StrChars.Road
namespace StrChars
open Jvm Sem ClassFile Op Lib Jvm.Stand Jvm.Free.XT Jvm.Free.ALB Jvm.Free.JM Jvm.Free
open Jvm.Lib.Cold (StaticIs)
def hi8 (x : Int32) : Int32 := lo8 (x >>> ((8 : Int32) &&& 31))
/-- what StringUTF16.getChar makes of two bytes -/
def pairCh (u v : Int32) : Int32 := (((u &&& 255) <<< ((0 : Int32) &&& 31)) ||| ((v &&& 255) <<< ((8 : Int32) &&& 31))).toUInt32.toUInt16.toUInt32.toInt32
theorem lo8_and (x : Int32) : (lo8 x &&& 255).toBitVec.toNat = x.toBitVec.toNat % 256 := by
  have h : (lo8 x).toBitVec = (x.toBitVec.signExtend 8).signExtend 32 := by rw [lo8, Int8.toBitVec_toInt32, Int32.toBitVec_toInt8]
  rw [Int32.toBitVec_and, BitVec.toNat_and, h]
  have e : ((x.toBitVec.signExtend 8).signExtend 32).toNat % 256 = x.toBitVec.toNat % 256 := by
    rw [BitVec.toNat_signExtend]
    have hlt := x.toBitVec.isLt
    simp only [BitVec.toNat_setWidth, BitVec.toNat_signExtend]
    split <;> split <;> omega
  rw [← e]
  exact Nat.and_two_pow_sub_one_eq_mod _ 8
theorem pair_says {c : Int32} (h0 : ¬ c < 0) (h1 : ¬ 65535 < c) : pairCh (lo8 c) (hi8 c) = c := by
  rw [Int32.lt_iff_toInt_lt] at h0 h1
  have e0 : (0 : Int32).toInt = 0 := rfl
  have e1 : (65535 : Int32).toInt = 65535 := rfl
  have hc : c.toInt = c.toBitVec.toNat := by
    have := c.toBitVec.isLt
    have e : c.toInt = c.toBitVec.toInt := rfl
    rw [e] at h0 h1
    rw [e]
    rw [BitVec.toInt_eq_toNat_cond] at h0 h1 ⊢
    split at h0 <;> split <;> omega
  have hn : c.toBitVec.toNat < 65536 := by omega
  have a1 := lo8_and c
  have a2 : (hi8 c &&& 255).toBitVec.toNat = c.toBitVec.toNat / 256 := by
    rw [hi8, lo8_and]
    have e : ((8 : Int32) &&& 31) = 8 := by decide
    rw [e, Int32.toBitVec_shiftRight]
    have e2 : ((8 : Int32).toBitVec.smod 32) = 8#32 := by decide
    rw [e2, BitVec.sshiftRight_eq', BitVec.toNat_sshiftRight_of_msb_false (by rw [BitVec.msb_eq_false_iff_two_mul_lt]; omega)]
    show c.toBitVec.toNat >>> 8 % 256 = _
    rw [Nat.shiftRight_eq_div_pow]
    omega
  unfold pairCh
  apply Int32.toBitVec_inj.mp
  apply BitVec.eq_of_toNat_eq
  have f0 : ((0 : Int32) &&& 31) = 0 := by decide
  have f8 : ((8 : Int32) &&& 31) = 8 := by decide
  rw [f0, f8]
  have g : (((lo8 c &&& 255) <<< (0 : Int32)) ||| ((hi8 c &&& 255) <<< (8 : Int32))).toBitVec.toNat = c.toBitVec.toNat := by
    rw [Int32.toBitVec_or, Int32.toBitVec_shiftLeft, Int32.toBitVec_shiftLeft]
    have s0 : ((0 : Int32).toBitVec.smod 32) = 0#32 := by decide
    have s8 : ((8 : Int32).toBitVec.smod 32) = 8#32 := by decide
    rw [s0, s8, BitVec.toNat_or]
    simp only [BitVec.shiftLeft_eq', BitVec.toNat_shiftLeft, a1, a2]
    show (c.toBitVec.toNat % 256) <<< 0 % 2 ^ 32 ||| (c.toBitVec.toNat / 256) <<< 8 % 2 ^ 32 = _
    rw [Nat.shiftLeft_zero, Nat.mod_eq_of_lt (show c.toBitVec.toNat % 256 < 2 ^ 32 by omega), Nat.mod_eq_of_lt (show (c.toBitVec.toNat / 256) <<< 8 < 2 ^ 32 by rw [Nat.shiftLeft_eq]; omega), Nat.or_comm, ← Nat.shiftLeft_add_eq_or_of_lt (by omega), Nat.shiftLeft_eq]
    omega
  show BitVec.toNat (((((lo8 c &&& 255) <<< (0 : Int32)) ||| ((hi8 c &&& 255) <<< (8 : Int32))).toBitVec.setWidth 16).setWidth 32) = _
  rw [BitVec.toNat_setWidth, BitVec.toNat_setWidth, g]
  omega
end StrChars
namespace StrChars
open Jvm Sem ClassFile Op Lib Jvm.Stand Jvm.Free.XT Jvm.Free.ALB Jvm.Free.JM Jvm.Free
open Jvm.Lib.Cold (StaticIs)
/-- the array's cell V codes the n chars f 0 .. f (n - 1) by the coder cd, as the JDK does: coder 1 just where some char is above 255 -/
def Cod (cd : Int32) (n : Nat) (f : Nat → Int32) (V : Cell) : Prop := (cd = 0 ∧ V.slots.size = n ∧ ∀ j, j < n → V.slots[j]? = some (.int (lo8 (f j))) ∧ ¬ 255 < f j) ∨ (cd = 1 ∧ V.slots.size = 2 * n ∧ (∀ j, j < n → V.slots[2 * j]? = some (.int (lo8 (f j))) ∧ V.slots[2 * j + 1]? = some (.int (hi8 (f j)))) ∧ ∃ j, j < n ∧ 255 < f j)
/-- **x is a String of the n chars f 0 .. f (n - 1)**, Latin-1 or UTF-16; its array at t has the cell V -/
def Txt (x t : Addr) (V : Cell) (cd : Int32) (n : Nat) (f : Nat → Int32) (U : State) : Prop := Exact "java/lang/String" x U ∧ Has x "java/lang/String" "value" "[B" (.ref t) U ∧ Has x "java/lang/String" "coder" "B" (.int cd) U ∧ XT.Arr .byte t V U ∧ Cod cd n f V ∧ ∀ j, j < n → ¬ f j < 0 ∧ ¬ 65535 < f j
theorem Txt.mv {x t : Addr} {V : Cell} {cd : Int32} {n : Nat} {f : Nat → Int32} {U U' : State} (h : Txt x t V cd n f U) (hal : U.vm.Alike U'.vm) (hh : U'.heap = U.heap) : Txt x t V cd n f U' := ⟨h.1.mv hal hh, h.2.1.mv hal hh, h.2.2.1.mv hal hh, h.2.2.2.1.mv hal hh, h.2.2.2.2⟩
end StrChars
namespace StrChars.Road
open Jvm Sem ClassFile Op Lib Jvm.Stand Jvm.Free Jvm.Free.XT
open Jvm.Lib.Cold (StaticIs)
theorem consq {a : Array Value} {s : State} {c : Jvm.Cond} {L : List Jvm.Cond} (h0 : c.before a s = true) (h : ∀ w ∈ L, w.before a s = true) : ∀ w ∈ c :: L, w.before a s = true := fun w hw => (List.mem_cons.mp hw).elim (fun e => e ▸ h0) (h w)
/-- the bytes of the chars cs, low before high -/
def wideBytes : List Int32 → List Value
  | [] => []
  | c :: cs => .int (lo8 c) :: .int (hi8 c) :: wideBytes cs
theorem wide_lo (d : Value) : ∀ (cs : List Int32) (j : Nat), j < cs.length → (wideBytes cs).getD (2 * j) d = .int (lo8 (cs.getD j 0))
  | [], j, h => absurd h (Nat.not_lt_zero j)
  | c :: cs, 0, _ => rfl
  | c :: cs, j + 1, h => by
    have q := wide_lo d cs j (by simpa using h)
    rw [show 2 * (j + 1) = 2 * j + 1 + 1 from by omega]
    simpa [wideBytes] using q
theorem wide_hi (d : Value) : ∀ (cs : List Int32) (j : Nat), j < cs.length → (wideBytes cs).getD (2 * j + 1) d = .int (hi8 (cs.getD j 0))
  | [], j, h => absurd h (Nat.not_lt_zero j)
  | c :: cs, 0, _ => rfl
  | c :: cs, j + 1, h => by
    have q := wide_hi d cs j (by simpa using h)
    rw [show 2 * (j + 1) + 1 = 2 * j + 1 + 1 + 1 from by omega]
    simpa [wideBytes] using q
theorem low_at (d : Value) (cs : List Int32) (j : Nat) (h : j < cs.length) : (cs.map fun c => Value.int (lo8 c)).getD j d = .int (lo8 (cs.getD j 0)) := by
  simp [List.getD_eq_getElem?_getD, h]
/-- an array of N2 bytes vs codes the chars cs by the coder cd -/
def CodA (cs : List Int32) (cd N2 : Int32) (vs : List Value) : Prop := (cd = 0 ∧ N2 = Int32.ofNat cs.length ∧ vs = (cs.map fun c => Value.int (lo8 c)) ∧ ∀ c ∈ cs, ¬ 255 < c) ∨ (cd = 1 ∧ N2 = Int32.ofNat (2 * cs.length) ∧ vs = wideBytes cs ∧ ∃ c ∈ cs, 255 < c)
theorem CodA.cod {cs : List Int32} {cd N2 : Int32} {vs : List Value} {V : Cell} (h : CodA cs cd N2 vs) (hn : 2 * cs.length < 2 ^ 31) (hs : V.slots.size = N2.toNatClampNeg) (hv : RoadKit.Has V vs (.int 0)) : Cod cd cs.length (fun j => cs.getD j 0) V := by
  rcases h with ⟨rfl, rfl, rfl, h⟩ | ⟨rfl, rfl, rfl, c, hc, hw⟩
  · rw [n32 (by omega)] at hs
    exact Or.inl ⟨rfl, hs, fun j hj => ⟨by rw [hv j (by omega), low_at _ _ _ hj], by
      have e : cs.getD j 0 = cs[j] := by simp [List.getD_eq_getElem?_getD, hj]
      show ¬ 255 < cs.getD j 0
      rw [e]; exact h _ (List.getElem_mem _)⟩⟩
  · rw [n32 (by omega)] at hs
    obtain ⟨j, hj, rfl⟩ := List.getElem_of_mem hc
    exact Or.inr ⟨rfl, hs, fun j hj => ⟨by rw [hv _ (by omega), wide_lo _ _ _ hj], by rw [hv _ (by omega), wide_hi _ _ _ hj]⟩, j, hj, by
      have e : cs.getD j 0 = cs[j] := by simp [List.getD_eq_getElem?_getD, hj]
      show 255 < cs.getD j 0
      rw [e]; exact hw⟩
/-- an object of exactly java/lang/String, its two fields found: as the laws ask it -/
theorem strObj {Z U : State} {a0 : Array Value} {kI : Nat} (wi : (Jvm.Cond.instantiable ST kI).before a0 Z = true) (al : Z.vm.Alike U.vm) {x : Addr} {v0 c0 : Value} (E : RoadKit.Exa Z U.heap x ST) (V : RoadKit.Fld Z U.heap x ST "value" "[B" v0) (C : RoadKit.Fld Z U.heap x ST "coder" "B" c0) :
    ∃ (D : Cell) (fV fC : Field), Blank ST x D U ∧ Found ST "value" "[B" fV U ∧ Found ST "coder" "B" fC U ∧ D.slots[fV.slot]? = some v0 ∧ D.slots[fC.slot]? = some c0 ∧ RoadKit.slotOf Z ST "value" "[B" = fV.slot ∧ RoadKit.slotOf Z ST "coder" "B" = fC.slot := by
  obtain ⟨D, cfV, kV, iV, fV, hD, gV, stV, knV, obV, asV, slV⟩ := V
  obtain ⟨D', cfC, kC, iC, fC, hD', gC, stC, -, -, asC, slC⟩ := C
  cases hD.symm.trans hD'
  obtain ⟨D2, kD, e1, e2, e3, e4, e5⟩ := E
  cases hD.symm.trans e1
  obtain ⟨c2, k2, i1, i2, i3, -⟩ := Cond.instantiable_spec wi
  cases e2.symm.trans i1
  cases e3.symm.trans i2
  obtain ⟨kU, u1, u2⟩ := al.2.2 _ _ e3
  exact ⟨D, fV, fC, ⟨hD, ⟨knV, fun q hq => by rw [hq] at obV; cases obV⟩, by rw [al.findClass]; exact e2, kU, u1, by rw [u2]; exact i3, by rw [u2]; exact e5 i3⟩, ⟨SBG.found_only al ⟨cfV, kV, iV, gV⟩, stV⟩, ⟨SBG.found_only al ⟨cfC, kC, iC, gC⟩, stC⟩, slV, slC, by simp [RoadKit.slotOf, gV], by simp [RoadKit.slotOf, gC]⟩
theorem sta_is {Z U : State} (al : Z.vm.Alike U.vm) {C n d : String} {v : Value} (S : RoadKit.Sta Z U.heap C n d v) : StaticIs U C n d v := by
  obtain ⟨cfS, iS, kS, fS, st, cS, t1, t2, t3, t4, t5, t6, t7⟩ := S
  exact StaticIs.there (s := { Z with heap := U.heap }) ⟨cfS, iS, kS, fS, st, cS, t1, t2, t3, t4, t5, (fun q => by rw [q] at t6; cases t6), t7⟩ al rfl
end StrChars.Road
namespace StrChars
open Jvm Sem ClassFile Op Lib Jvm.Stand Jvm.Free.XT Jvm.Free.ALB Jvm.Free.JM Jvm.Free
open Jvm.Lib.Cold (StaticIs)
/-- what place i of a byte[]'s cell holds -/
def yv (A : Cell) (i : Nat) : Int32 := match A.slots[i]? with | some (.int x) => x | _ => 0
theorem yv_get {a : Addr} {A : Cell} {U : State} (h : XT.Arr .byte a A U) (ht : Typed .byte A) {i : Nat} (hi : i < A.slots.size) : A.slots[i]? = some (.int (yv A i)) := by
  have e := Array.getElem?_eq_getElem hi
  have f := ht i _ e
  unfold yv; rw [e]
  generalize A.slots[i] = v at f
  cases v <;> simp [fits] at f ⊢
/-- the two arrays are equal, place for place -/
def EqC (A B : Cell) : Prop := A.slots.size = B.slots.size ∧ ∀ i, i < A.slots.size → yv A i = yv B i
/-- a boolean that says whether p -/
def Says01 (q : Prop) (r : Option Value) (s u : State) : Prop := ∃ v : Int32, r = some (.int v) ∧ u.heap = s.heap ∧ ((v = 1 ∧ q) ∨ (v = 0 ∧ ¬ q))
theorem Says01.mv {q : Prop} : ∀ r (U U' V V' : State), U'.heap = U.heap → V.vm.Alike V'.vm → V'.heap = V.heap → Says01 q r U V → Says01 q r U' V' :=
  fun r U U' V V' h1 _ h2 ⟨v, a, b, c⟩ => ⟨v, a, by rw [h1, h2]; exact b, c⟩
namespace LEq
def yN : MethodName := ⟨"java/lang/StringLatin1", "equals", "([B[B)Z"⟩
abbrev yB : ByteArray := jdk_43_method_13_code
theorem d0 : decode yB 0 = .ok (.aload_n 0, 1) := by decide +kernel
theorem d1 : decode yB 1 = .ok (.arraylength, 1) := by decide +kernel
theorem d2 : decode yB 2 = .ok (.aload_n 1, 1) := by decide +kernel
theorem d3 : decode yB 3 = .ok (.arraylength, 1) := by decide +kernel
theorem d4 : decode yB 4 = .ok (.if_icmp (.ne) 30, 3) := by decide +kernel
theorem d7 : decode yB 7 = .ok (.iconst 0, 1) := by decide +kernel
theorem d8 : decode yB 8 = .ok (.istore_n 2, 1) := by decide +kernel
theorem d9 : decode yB 9 = .ok (.iload_n 2, 1) := by decide +kernel
theorem d10 : decode yB 10 = .ok (.aload_n 0, 1) := by decide +kernel
theorem d11 : decode yB 11 = .ok (.arraylength, 1) := by decide +kernel
theorem d12 : decode yB 12 = .ok (.if_icmp (.ge) 20, 3) := by decide +kernel
theorem d15 : decode yB 15 = .ok (.aload_n 0, 1) := by decide +kernel
theorem d16 : decode yB 16 = .ok (.iload_n 2, 1) := by decide +kernel
theorem d17 : decode yB 17 = .ok (.baload, 1) := by decide +kernel
theorem d18 : decode yB 18 = .ok (.aload_n 1, 1) := by decide +kernel
theorem d19 : decode yB 19 = .ok (.iload_n 2, 1) := by decide +kernel
theorem d20 : decode yB 20 = .ok (.baload, 1) := by decide +kernel
theorem d21 : decode yB 21 = .ok (.if_icmp (.eq) 5, 3) := by decide +kernel
theorem d24 : decode yB 24 = .ok (.iconst 0, 1) := by decide +kernel
theorem d25 : decode yB 25 = .ok (.ireturn, 1) := by decide +kernel
theorem d26 : decode yB 26 = .ok (.iinc 2 1, 3) := by decide +kernel
theorem d29 : decode yB 29 = .ok (.goto (-20), 3) := by decide +kernel
theorem d32 : decode yB 32 = .ok (.iconst 1, 1) := by decide +kernel
theorem d33 : decode yB 33 = .ok (.ireturn, 1) := by decide +kernel
theorem d34 : decode yB 34 = .ok (.iconst 0, 1) := by decide +kernel
theorem d35 : decode yB 35 = .ok (.ireturn, 1) := by decide +kernel
def site : List Cond := []
def tab : Cond := tabOf yN yB 3 (some .boolean) site
def P (a : Addr) (A : Cell) (b : Addr) (B : Cell) (args : Array Value) (s : State) : Prop := args = #[.ref a, .ref b] ∧ XT.Arr .byte a A s ∧ Typed .byte A ∧ XT.Arr .byte b B s ∧ Typed .byte B
/-- whether two byte[] are equal, place for place -/
theorem law (l : Launch) (a : Addr) (A : Cell) (b : Addr) (B : Cell) : Law l yN 2 2 0 0 yB 3 (some .boolean) site (P a A b B) (Says01 (EqC A B)) [] 0 0 := by
  refine Law.of_walk (plainFor_of_name (by decide +kernel)) (by decide +kernel) (by decide +kernel) (by decide) (fun _ _ h => by rw [h.1]; rfl) (fun _ U U' hal hh h => ⟨h.1, h.2.1.mv hal hh, h.2.2.1, h.2.2.2.1.mv hal hh, h.2.2.2.2⟩) (fun r U U' V V' h1 hal h2 h => Says01.mv r U U' V V' h1 hal h2 h) ?_
  intro p e s m args below meth c s₁ X0 hexec hbytes hml hret hlk hnm hown hh0 W hP
  obtain ⟨rfl, hA, tA, hB, tB⟩ := hP
  have a31 := hA.2.2.2
  have b31 := hB.2.2.2
  have hA0 := hA.mv X0.warmed.alike hh0
  have hB0 := hB.mv X0.warmed.alike hh0
  have c1 : Steps p.tables e below (s₁.setTop (entryFrame m #[.ref a, .ref b] 3)) (s₁.setTop (mkF m 0 #[.val (.ref a), .val (.ref b), .unset] [])) := entry rfl
  have c2 : Steps p.tables e below (s₁.setTop (entryFrame m #[.ref a, .ref b] 3)) (s₁.setTop (mkF m 4 #[.val (.ref a), .val (.ref b), .unset] [.int (Int32.ofNat B.slots.size), .int (Int32.ofNat A.slots.size)])) := c1.trans (by
    refine XS.aloadN X0.here hexec rfl (hb hbytes d0) rfl rfl ?_
    refine X0.alen hexec hA0 rfl rfl (hb hbytes d1) ?_
    refine XS.aloadN X0.here hexec rfl (hb hbytes d2) rfl rfl ?_
    refine X0.alen hexec hB0 rfl rfl (hb hbytes d3) ?_
    exact Steps.refl _)
  by_cases hs : A.slots.size = B.slots.size
  · have c3 : Steps p.tables e below (s₁.setTop (entryFrame m #[.ref a, .ref b] 3)) (s₁.setTop (mkF m 9 #[.val (.ref a), .val (.ref b), .val (.int 0)] [])) := c2.trans (by
      refine XS.icmpNo X0.here hexec rfl (hb hbytes d4) rfl (ii_ne_f (by rw [hs])) ?_
      refine iconstV X0.here hexec rfl 0 (hb hbytes d7) (by decide) ?_
      refine XS.istoreN X0.here hexec rfl (hb hbytes d8) rfl rfl ?_
      exact Steps.refl _)
    have loop : ∀ (r i : Nat), i + r = A.slots.size → (∀ j, j < i → yv A j = yv B j) → Steps p.tables e below (s₁.setTop (entryFrame m #[.ref a, .ref b] 3)) (s₁.setTop (mkF m 9 #[.val (.ref a), .val (.ref b), .val (.int (Int32.ofNat i))] [])) → ∃ (pc : Nat) (Ls : Array Slot) (v : Int32), (pc = 25 ∨ pc = 33) ∧ ((v = 1 ∧ EqC A B) ∨ (v = 0 ∧ ¬ EqC A B)) ∧ Steps p.tables e below (s₁.setTop (entryFrame m #[.ref a, .ref b] 3)) (s₁.setTop (mkF m pc Ls [.int v])) := by
      intro r
      induction r with
      | zero =>
        intro i hi he cl
        exact ⟨33, _, 1, Or.inr rfl, Or.inl ⟨rfl, hs, fun j hj => he j (by omega)⟩, cl.trans (by
          refine XS.iloadN X0.here hexec rfl (hb hbytes d9) rfl ?_
          refine XS.aloadN X0.here hexec rfl (hb hbytes d10) rfl rfl ?_
          refine X0.alen hexec hA0 rfl rfl (hb hbytes d11) ?_
          refine XS.icmpYes X0.here hexec rfl (pc0 := 12) rfl (hb hbytes d12) rfl (ii_ge_t (nlt32 (by omega) (by omega))) (by decide) rfl ?_
          refine iconstV X0.here hexec rfl 1 (hb hbytes d32) (by decide) ?_
          exact Steps.refl _)⟩
      | succ r ih =>
        intro i hi he cl
        have c4 : Steps p.tables e below (s₁.setTop (entryFrame m #[.ref a, .ref b] 3)) (s₁.setTop (mkF m 21 #[.val (.ref a), .val (.ref b), .val (.int (Int32.ofNat i))] [.int (yv B i), .int (yv A i)])) := cl.trans (by
          refine XS.iloadN X0.here hexec rfl (hb hbytes d9) rfl ?_
          refine XS.aloadN X0.here hexec rfl (hb hbytes d10) rfl rfl ?_
          refine X0.alen hexec hA0 rfl rfl (hb hbytes d11) ?_
          refine XS.icmpNo X0.here hexec rfl (hb hbytes d12) rfl (ii_ge_f (lt32 (by omega) (by omega))) ?_
          refine XS.aloadN X0.here hexec rfl (hb hbytes d15) rfl rfl ?_
          refine XS.iloadN X0.here hexec rfl (hb hbytes d16) rfl ?_
          refine X0.aget hexec hA0 rfl (yv_get hA tA (i := i) (by omega)) rfl rfl (hb hbytes d17) ?_
          refine XS.aloadN X0.here hexec rfl (hb hbytes d18) rfl rfl ?_
          refine XS.iloadN X0.here hexec rfl (hb hbytes d19) rfl ?_
          refine X0.aget hexec hB0 rfl (yv_get hB tB (i := i) (by omega)) rfl rfl (hb hbytes d20) ?_
          exact Steps.refl _)
        by_cases hv : yv A i = yv B i
        · have c5 : Steps p.tables e below (s₁.setTop (entryFrame m #[.ref a, .ref b] 3)) (s₁.setTop (mkF m 9 #[.val (.ref a), .val (.ref b), .val (.int (Int32.ofNat i + 1))] [])) := c4.trans (by
            refine XS.icmpYes X0.here hexec rfl (pc0 := 21) rfl (hb hbytes d21) rfl (ii_eq_t hv) (by decide) rfl ?_
            refine iincV X0.here hexec rfl 1 (hb hbytes d26) (by decide) rfl rfl ?_
            refine XS.goto X0.here hexec rfl (pc0 := 29) rfl (hb hbytes d29) (by decide) rfl ?_
            exact Steps.refl _)
          rw [succ32] at c5
          exact ih (i + 1) (by omega) (fun j hj => by
            by_cases e : j = i
            · rw [e]; exact hv
            · exact he j (by omega)) c5
        · exact ⟨25, _, 0, Or.inl rfl, Or.inr ⟨rfl, fun q => hv (q.2 i (by omega))⟩, c4.trans (by
            refine XS.icmpNo X0.here hexec rfl (hb hbytes d21) rfl (ii_eq_f hv) ?_
            refine iconstV X0.here hexec rfl 0 (hb hbytes d24) (by decide) ?_
            exact Steps.refl _)⟩
    obtain ⟨pc, Ls, v, hpc, hv, cz⟩ := loop A.slots.size 0 (by omega) (fun j hj => absurd hj (Nat.not_lt_zero j)) c3
    have nv : narrow .boolean (.int v) = .int v := by rcases hv with ⟨rfl, -⟩ | ⟨rfl, -⟩ <;> rfl
    rcases hpc with rfl | rfl
    · exact ⟨s₁, some (.int v), _, _, _, X0, rfl, rfl, rfl, (fun h => by cases h), ⟨v, rfl, hh0, hv⟩, fun fs hl => cz.trans (X0.ireturnOut hexec hret nv (Or.inr (Or.inl rfl)) (hb hbytes d25) hl)⟩
    · exact ⟨s₁, some (.int v), _, _, _, X0, rfl, rfl, rfl, (fun h => by cases h), ⟨v, rfl, hh0, hv⟩, fun fs hl => cz.trans (X0.ireturnOut hexec hret nv (Or.inr (Or.inl rfl)) (hb hbytes d33) hl)⟩
  · have c3 : Steps p.tables e below (s₁.setTop (entryFrame m #[.ref a, .ref b] 3)) (s₁.setTop (mkF m 35 #[.val (.ref a), .val (.ref b), .unset] [.int 0])) := c2.trans (by
      refine XS.icmpYes X0.here hexec rfl (pc0 := 4) rfl (hb hbytes d4) rfl (ii_ne_t (ne32 a31 b31 hs)) (by decide) rfl ?_
      refine iconstV X0.here hexec rfl 0 (hb hbytes d34) (by decide) ?_
      exact Steps.refl _)
    exact ⟨s₁, some (.int 0), _, _, _, X0, rfl, rfl, rfl, (fun h => by cases h), ⟨0, rfl, hh0, Or.inr ⟨rfl, fun q => hs q.1⟩⟩, fun fs hl => c3.trans (X0.ireturnOut hexec hret rfl (Or.inr (Or.inl rfl)) (hb hbytes d35) hl)⟩
end LEq
theorem Cod.ty {cd : Int32} {n : Nat} {f : Nat → Int32} {V : Cell} (h : Cod cd n f V) : Typed .byte V := fun i v hv => by
  have hi : i < V.slots.size := (Array.getElem?_eq_some_iff.mp hv).1
  rcases h with ⟨-, k1, k2⟩ | ⟨-, k1, k2, -⟩
  · rw [(k2 i (by omega)).1] at hv; cases hv; exact fits_lo8 _
  · rcases Nat.mod_two_eq_zero_or_one i with e | e
    · obtain ⟨j, rfl⟩ : ∃ j, i = 2 * j := ⟨i / 2, by omega⟩
      rw [(k2 j (by omega)).1] at hv; cases hv; exact fits_lo8 _
    · obtain ⟨j, rfl⟩ : ∃ j, i = 2 * j + 1 := ⟨i / 2, by omega⟩
      rw [(k2 j (by omega)).2] at hv; cases hv; exact fits_lo8 _
/-- the same text -/
def SameT (n : Nat) (f : Nat → Int32) (k : Nat) (g : Nat → Int32) : Prop := n = k ∧ ∀ j, j < n → f j = g j
theorem lo8_inj {x y : Int32} (h0 : ¬ x < 0) (h1 : ¬ 255 < x) (k0 : ¬ y < 0) (k1 : ¬ 255 < y) (h : lo8 x = lo8 y) : x = y := by
  rw [← lo8_mask h0 h1, ← lo8_mask k0 k1, h]
/-- arrays coded by one coder are equal just where the texts are -/
theorem Cod.eqv {cd : Int32} {n k : Nat} {f g : Nat → Int32} {V V' : Cell} (h : Cod cd n f V) (h' : Cod cd k g V') (hf : ∀ j, j < n → ¬ f j < 0 ∧ ¬ 65535 < f j) (hg : ∀ j, j < k → ¬ g j < 0 ∧ ¬ 65535 < g j) : EqC V V' ↔ SameT n f k g := by
  have yvv : ∀ {W : Cell} {i : Nat} {x : Int32}, W.slots[i]? = some (.int x) → yv W i = x := fun q => by unfold yv; rw [q]
  rcases h with ⟨rfl, k1, k2⟩ | ⟨rfl, k1, k2, -⟩
  · rcases h' with ⟨-, m1, m2⟩ | ⟨e, -⟩
    · constructor
      · rintro ⟨e1, e2⟩
        refine ⟨by omega, fun j hj => ?_⟩
        have q := e2 j (by omega)
        rw [yvv (k2 j hj).1, yvv (m2 j (by omega)).1] at q
        exact lo8_inj (hf j hj).1 (k2 j hj).2 (hg j (by omega)).1 (m2 j (by omega)).2 q
      · rintro ⟨rfl, e2⟩
        refine ⟨by omega, fun j hj => ?_⟩
        rw [yvv (k2 j (by omega)).1, yvv (m2 j (by omega)).1, e2 j (by omega)]
    · exact absurd e (by decide)
  · rcases h' with ⟨e, -⟩ | ⟨-, m1, m2, -⟩
    · exact absurd e (by decide)
    · constructor
      · rintro ⟨e1, e2⟩
        refine ⟨by omega, fun j hj => ?_⟩
        have q1 := e2 (2 * j) (by omega)
        have q2 := e2 (2 * j + 1) (by omega)
        rw [yvv (k2 j hj).1, yvv (m2 j (by omega)).1] at q1
        rw [yvv (k2 j hj).2, yvv (m2 j (by omega)).2] at q2
        rw [← pair_says (hf j hj).1 (hf j hj).2, ← pair_says (hg j (by omega)).1 (hg j (by omega)).2, q1, q2]
      · rintro ⟨rfl, e2⟩
        refine ⟨by omega, fun i hi => ?_⟩
        rcases Nat.mod_two_eq_zero_or_one i with e | e
        · obtain ⟨j, rfl⟩ : ∃ j, i = 2 * j := ⟨i / 2, by omega⟩
          rw [yvv (k2 j (by omega)).1, yvv (m2 j (by omega)).1, e2 j (by omega)]
        · obtain ⟨j, rfl⟩ : ∃ j, i = 2 * j + 1 := ⟨i / 2, by omega⟩
          rw [yvv (k2 j (by omega)).2, yvv (m2 j (by omega)).2, e2 j (by omega)]
/-- two codings differ: so do the texts -/
theorem Cod.dif {cd cd' : Int32} {n k : Nat} {f g : Nat → Int32} {V V' : Cell} (h : Cod cd n f V) (h' : Cod cd' k g V') (hne : ¬ cd = cd') : ¬ SameT n f k g := by
  rintro ⟨rfl, e⟩
  rcases h with ⟨rfl, -, k2⟩ | ⟨rfl, -, -, j, hj, hw⟩
  · rcases h' with ⟨rfl, -⟩ | ⟨-, -, -, j, hj, hw⟩
    · exact hne rfl
    · exact (k2 j hj).2 (by rw [e j hj]; exact hw)
  · rcases h' with ⟨-, -, m2⟩ | ⟨rfl, -⟩
    · exact (m2 j hj).2 (by rw [← e j hj]; exact hw)
    · exact hne rfl
/-- an object of exactly C is an instance of C -/
theorem cinst {p : Program} {l : Launch} {e : Env} {R : Room} {s : State} {m : MethodId} {args : Array Value} {below : List Frame} {meth : Method} {c : Code} {T : State} {locs : List Loc} {cells slots : Nat} (X : Stand p l e R s m args below meth c T locs cells slots) (hexec : p.tables.exec = Jvm.exec) {own C : String} {index : Nat} (hown : s.vm.findClass own = some m.cls) (hlink : (Cond.classLink own index C).before args s = true) {a : Addr} (hE : Exact C a T)
    {g : JFrame} (hg : g.method = m) {rest : List Value} (hstack : g.stack = .ref a :: rest) (hdg : decode c.code g.pc = .ok (.instanceof index, 3)) :
    ∃ T', Stand p l e R s m args below meth c T' locs cells slots ∧ T'.heap = T.heap ∧ ∀ target, Steps p.tables e below (T'.setTop { g with pc := g.pc + 3, stack := .int 1 :: rest }) target → Steps p.tables e below (T.setTop g) target := by
  obtain ⟨cB, h1, D, h2, h3, h4⟩ := hE
  have h1' : s.vm.findClass C = some cB := by rw [← X.warmed.alike.findClass]; exact h1
  obtain ⟨vm', X', st⟩ := X.instanceofYes hexec hown hlink h2 h4 h1' (by rw [h3]; exact Jvm.Free.SB.assignable_self _ _) hg hstack hdg
  exact ⟨_, X', rfl, st⟩
theorem cself {p : Program} {l : Launch} {e : Env} {R : Room} {s : State} {m : MethodId} {args : Array Value} {below : List Frame} {meth : Method} {c : Code} {T : State} {locs : List Loc} {cells slots : Nat} (X : Stand p l e R s m args below meth c T locs cells slots) (hexec : p.tables.exec = Jvm.exec) {own C : String} {index : Nat} (hown : s.vm.findClass own = some m.cls) (hlink : (Cond.classLink own index C).before args s = true) {a : Addr} (hE : Exact C a T)
    {g : JFrame} (hg : g.method = m) {rest : List Value} (hstack : g.stack = .ref a :: rest) (hdg : decode c.code g.pc = .ok (.checkcast index, 3)) :
    ∃ T', Stand p l e R s m args below meth c T' locs cells slots ∧ T'.heap = T.heap ∧ ∀ target, Steps p.tables e below (T'.setTop { g with pc := g.pc + 3, stack := .ref a :: rest }) target → Steps p.tables e below (T.setTop g) target := by
  obtain ⟨cB, h1, D, h2, h3, h4⟩ := hE
  have h1' : s.vm.findClass C = some cB := by rw [← X.warmed.alike.findClass]; exact h1
  obtain ⟨vm', X', st⟩ := X.checkcastYes hexec hown hlink h2 h4 h1' (by rw [h3]; exact Jvm.Free.SB.assignable_self _ _) hg hstack hdg
  exact ⟨_, X', rfl, fun t h => st t (by rw [← hstack] at h; exact h)⟩
namespace SEq
def yN : MethodName := ⟨"java/lang/String", "equals", "(Ljava/lang/Object;)Z"⟩
abbrev yB : ByteArray := jdk_42_method_66_code
theorem d0 : decode yB 0 = .ok (.aload_n 0, 1) := by decide +kernel
theorem d1 : decode yB 1 = .ok (.aload_n 1, 1) := by decide +kernel
theorem d2 : decode yB 2 = .ok (.if_acmp (.ne) 5, 3) := by decide +kernel
theorem d5 : decode yB 5 = .ok (.iconst 1, 1) := by decide +kernel
theorem d6 : decode yB 6 = .ok (.ireturn, 1) := by decide +kernel
theorem d7 : decode yB 7 = .ok (.aload_n 1, 1) := by decide +kernel
theorem d8 : decode yB 8 = .ok (.instanceof 10, 3) := by decide +kernel
theorem d11 : decode yB 11 = .ok (.ifCond (.eq) 43, 3) := by decide +kernel
theorem d14 : decode yB 14 = .ok (.aload_n 1, 1) := by decide +kernel
theorem d15 : decode yB 15 = .ok (.checkcast 10, 3) := by decide +kernel
theorem d18 : decode yB 18 = .ok (.astore_n 2, 1) := by decide +kernel
theorem d19 : decode yB 19 = .ok (.getstatic 38, 3) := by decide +kernel
theorem d22 : decode yB 22 = .ok (.ifCond (.eq) 14, 3) := by decide +kernel
theorem d25 : decode yB 25 = .ok (.aload_n 0, 1) := by decide +kernel
theorem d26 : decode yB 26 = .ok (.getfield 15, 3) := by decide +kernel
theorem d29 : decode yB 29 = .ok (.aload_n 2, 1) := by decide +kernel
theorem d30 : decode yB 30 = .ok (.getfield 15, 3) := by decide +kernel
theorem d33 : decode yB 33 = .ok (.if_icmp (.ne) 21, 3) := by decide +kernel
theorem d36 : decode yB 36 = .ok (.aload_n 0, 1) := by decide +kernel
theorem d37 : decode yB 37 = .ok (.getfield 9, 3) := by decide +kernel
theorem d40 : decode yB 40 = .ok (.aload_n 2, 1) := by decide +kernel
theorem d41 : decode yB 41 = .ok (.getfield 9, 3) := by decide +kernel
theorem d44 : decode yB 44 = .ok (.invokestatic 541, 3) := by decide +kernel
theorem d47 : decode yB 47 = .ok (.ifCond (.eq) 7, 3) := by decide +kernel
theorem d50 : decode yB 50 = .ok (.iconst 1, 1) := by decide +kernel
theorem d51 : decode yB 51 = .ok (.goto 4, 3) := by decide +kernel
theorem d54 : decode yB 54 = .ok (.iconst 0, 1) := by decide +kernel
theorem d55 : decode yB 55 = .ok (.ireturn, 1) := by decide +kernel
def site : List Cond := [.classLink "java/lang/String" 10 "java/lang/String", .fieldLink "java/lang/String" 38 "java/lang/String" "COMPACT_STRINGS" "Z", .fieldLink "java/lang/String" 15 "java/lang/String" "coder" "B", .fieldLink "java/lang/String" 9 "java/lang/String" "value" "[B", LEq.tab] ++ staticW "java/lang/String" 541 LEq.yN
def tab : Cond := tabOf yN yB 3 (some .boolean) site
def P (x t : Addr) (V : Cell) (cd : Int32) (n : Nat) (f : Nat → Int32) (y t' : Addr) (V' : Cell) (cd' : Int32) (k : Nat) (g : Nat → Int32) (z : Int32) (args : Array Value) (s : State) : Prop := args = #[.ref x, .ref y] ∧ Txt x t V cd n f s ∧ Txt y t' V' cd' k g s ∧ StaticIs s "java/lang/String" "COMPACT_STRINGS" "Z" (.int z) ∧ ¬ z = 0
/-- equals(Object) of two Strings: whether the texts are the same -/
theorem law (l : Launch) (x t : Addr) (V : Cell) (cd : Int32) (n : Nat) (f : Nat → Int32) (y t' : Addr) (V' : Cell) (cd' : Int32) (k : Nat) (g : Nat → Int32) (z : Int32) : Law l yN 2 1 1 14 yB 3 (some .boolean) site (P x t V cd n f y t' V' cd' k g z) (Says01 (SameT n f k g)) [] 0 0 := by
  refine Law.of_walk (plainFor_of_name (by decide +kernel)) (by decide +kernel) (by decide +kernel) (by decide) (fun _ _ h => by rw [h.1]; rfl) (fun _ U U' hal hh h => ⟨h.1, h.2.1.mv hal hh, h.2.2.1.mv hal hh, h.2.2.2.1.there hal hh, h.2.2.2.2⟩) (fun r U U' V V' h1 hal h2 h => Says01.mv r U U' V V' h1 hal h2 h) ?_
  intro p e s m args below meth c s₁ X0 hexec hbytes hml hret hlk hnm hown hh0 W hP
  obtain ⟨rfl, hx, hy, s1, hz⟩ := hP
  have c1 : Steps p.tables e below (s₁.setTop (entryFrame m #[.ref x, .ref y] 3)) (s₁.setTop (mkF m 2 #[.val (.ref x), .val (.ref y), .unset] [.ref y, .ref x])) := Steps.trans (entry rfl) (by
    show Steps p.tables e below (s₁.setTop (mkF m 0 #[.val (.ref x), .val (.ref y), .unset] [])) _
    refine XS.aloadN X0.here hexec rfl (hb hbytes d0) rfl rfl ?_
    refine XS.aloadN X0.here hexec rfl (hb hbytes d1) rfl rfl ?_
    exact Steps.refl _)
  by_cases hxy : x = y
  · have c2 : Steps p.tables e below (s₁.setTop (entryFrame m #[.ref x, .ref y] 3)) (s₁.setTop (mkF m 6 #[.val (.ref x), .val (.ref y), .unset] [.int 1])) := c1.trans (by
      refine acmpNo X0.here hexec rfl (hb hbytes d2) rfl rfl rfl (by simp [acmp, hxy]) ?_
      refine iconstV X0.here hexec rfl 1 (hb hbytes d5) (by decide) ?_
      exact Steps.refl _)
    subst hxy
    have ec : cd = cd' := by
      obtain ⟨D, fd, a1, a2, a3⟩ := hx.2.2.1
      obtain ⟨D', fd', b1, b2, b3⟩ := hy.2.2.1
      cases a1.symm.trans b1
      obtain ⟨q1, q2, q3, q4⟩ := a2.1
      obtain ⟨r1, r2, r3, r4⟩ := b2.1
      cases q4.symm.trans r4
      cases a3.symm.trans b3; rfl
    have et : t = t' := by
      obtain ⟨D, fd, a1, a2, a3⟩ := hx.2.1
      obtain ⟨D', fd', b1, b2, b3⟩ := hy.2.1
      cases a1.symm.trans b1
      obtain ⟨q1, q2, q3, q4⟩ := a2.1
      obtain ⟨r1, r2, r3, r4⟩ := b2.1
      cases q4.symm.trans r4
      cases a3.symm.trans b3; rfl
    subst ec et
    have ev : V = V' := by cases hx.2.2.2.1.1.symm.trans hy.2.2.2.1.1; rfl
    subst ev
    have hs : SameT n f k g := (Cod.eqv hx.2.2.2.2.1 hy.2.2.2.2.1 hx.2.2.2.2.2 hy.2.2.2.2.2).mp ⟨rfl, fun _ _ => rfl⟩
    exact ⟨s₁, some (.int 1), _, _, _, X0, rfl, rfl, rfl, (fun h => by cases h), ⟨1, rfl, hh0, Or.inl ⟨rfl, hs⟩⟩, fun fs hl => c2.trans (X0.ireturnOut hexec hret rfl (Or.inr (Or.inl rfl)) (hb hbytes d6) hl)⟩
  · have c2 : Steps p.tables e below (s₁.setTop (entryFrame m #[.ref x, .ref y] 3)) (s₁.setTop (mkF m 8 #[.val (.ref x), .val (.ref y), .unset] [.ref y])) := c1.trans (by
      refine acmpYes X0.here hexec rfl (pc0 := 2) rfl (hb hbytes d2) rfl rfl rfl (by simp [acmp, hxy]) (by decide) rfl ?_
      refine XS.aloadN X0.here hexec rfl (hb hbytes d7) rfl rfl ?_
      exact Steps.refl _)
    obtain ⟨T3, X3, q3, st3⟩ := cinst X0 hexec hown (wk W (.classLink "java/lang/String" 10 "java/lang/String")) (hy.mv X0.warmed.alike hh0).1 (g := (mkF m 8 #[.val (.ref x), .val (.ref y), .unset] [.ref y])) rfl (rest := []) rfl (hb hbytes d8)
    have hh3 := q3.trans hh0
    have c4 : Steps p.tables e below (s₁.setTop (entryFrame m #[.ref x, .ref y] 3)) (T3.setTop (mkF m 15 #[.val (.ref x), .val (.ref y), .unset] [.ref y])) := (c2.trans (st3 _ (Steps.refl _))).trans (by
      refine XS.ifNo X3.here hexec rfl (hb hbytes d11) rfl (i0_eq_f (by decide)) ?_
      refine XS.aloadN X3.here hexec rfl (hb hbytes d14) rfl rfl ?_
      exact Steps.refl _)
    obtain ⟨T5, X5, q5, st5⟩ := cself X3 hexec hown (wk W (.classLink "java/lang/String" 10 "java/lang/String")) (hy.mv X3.warmed.alike hh3).1 (g := (mkF m 15 #[.val (.ref x), .val (.ref y), .unset] [.ref y])) rfl (rest := []) rfl (hb hbytes d15)
    have hh5 := q5.trans hh3
    have c6 : Steps p.tables e below (s₁.setTop (entryFrame m #[.ref x, .ref y] 3)) (T5.setTop (mkF m 19 #[.val (.ref x), .val (.ref y), .val (.ref y)] [])) := (c4.trans (st5 _ (Steps.refl _))).trans (by
      refine XS.astoreN X5.here hexec rfl (hb hbytes d18) rfl rfl rfl ?_
      exact Steps.refl _)
    obtain ⟨T7, X7, q7, st7⟩ := X5.sget hexec hown (wk W (.fieldLink "java/lang/String" 38 "java/lang/String" "COMPACT_STRINGS" "Z")) s1 (fun _ _ h => by rw [hh5]; exact h) (g := (mkF m 19 #[.val (.ref x), .val (.ref y), .val (.ref y)] [])) rfl (hb hbytes d19)
    have hh7 := q7.trans hh5
    have c8 : Steps p.tables e below (s₁.setTop (entryFrame m #[.ref x, .ref y] 3)) (T7.setTop (mkF m 26 #[.val (.ref x), .val (.ref y), .val (.ref y)] [.ref x])) := (c6.trans (st7 _ (Steps.refl _))).trans (by
      refine XS.ifNo X7.here hexec rfl (hb hbytes d22) rfl (i0_eq_f hz) ?_
      refine XS.aloadN X7.here hexec rfl (hb hbytes d25) rfl rfl ?_
      exact Steps.refl _)
    obtain ⟨T9, X9, q9, st9⟩ := X7.hget hexec hown (wk W (.fieldLink "java/lang/String" 15 "java/lang/String" "coder" "B")) (hx.mv X7.warmed.alike hh7).2.2.1 (g := (mkF m 26 #[.val (.ref x), .val (.ref y), .val (.ref y)] [.ref x])) rfl (rest := []) rfl (hb hbytes d26)
    have hh9 := q9.trans hh7
    have c10 : Steps p.tables e below (s₁.setTop (entryFrame m #[.ref x, .ref y] 3)) (T9.setTop (mkF m 30 #[.val (.ref x), .val (.ref y), .val (.ref y)] [.ref y, .int cd])) := (c8.trans (st9 _ (Steps.refl _))).trans (by
      refine XS.aloadN X9.here hexec rfl (hb hbytes d29) rfl rfl ?_
      exact Steps.refl _)
    obtain ⟨T11, X11, q11, st11⟩ := X9.hget hexec hown (wk W (.fieldLink "java/lang/String" 15 "java/lang/String" "coder" "B")) (hy.mv X9.warmed.alike hh9).2.2.1 (g := (mkF m 30 #[.val (.ref x), .val (.ref y), .val (.ref y)] [.ref y, .int cd])) rfl (rest := [.int cd]) rfl (hb hbytes d30)
    have hh11 := q11.trans hh9
    have c12 : Steps p.tables e below (s₁.setTop (entryFrame m #[.ref x, .ref y] 3)) (T11.setTop (mkF m 33 #[.val (.ref x), .val (.ref y), .val (.ref y)] [.int cd', .int cd])) := c10.trans (st11 _ (Steps.refl _))
    by_cases hcd : cd = cd'
    · subst hcd
      have c13 : Steps p.tables e below (s₁.setTop (entryFrame m #[.ref x, .ref y] 3)) (T11.setTop (mkF m 37 #[.val (.ref x), .val (.ref y), .val (.ref y)] [.ref x])) := c12.trans (by
        refine XS.icmpNo X11.here hexec rfl (hb hbytes d33) rfl (ii_ne_f rfl) ?_
        refine XS.aloadN X11.here hexec rfl (hb hbytes d36) rfl rfl ?_
        exact Steps.refl _)
      obtain ⟨T14, X14, q14, st14⟩ := X11.hget hexec hown (wk W (.fieldLink "java/lang/String" 9 "java/lang/String" "value" "[B")) (hx.mv X11.warmed.alike hh11).2.1 (g := (mkF m 37 #[.val (.ref x), .val (.ref y), .val (.ref y)] [.ref x])) rfl (rest := []) rfl (hb hbytes d37)
      have hh14 := q14.trans hh11
      have c15 : Steps p.tables e below (s₁.setTop (entryFrame m #[.ref x, .ref y] 3)) (T14.setTop (mkF m 41 #[.val (.ref x), .val (.ref y), .val (.ref y)] [.ref y, .ref t])) := (c13.trans (st14 _ (Steps.refl _))).trans (by
        refine XS.aloadN X14.here hexec rfl (hb hbytes d40) rfl rfl ?_
        exact Steps.refl _)
      obtain ⟨T16, X16, q16, st16⟩ := X14.hget hexec hown (wk W (.fieldLink "java/lang/String" 9 "java/lang/String" "value" "[B")) (hy.mv X14.warmed.alike hh14).2.1 (g := (mkF m 41 #[.val (.ref x), .val (.ref y), .val (.ref y)] [.ref y, .ref t])) rfl (rest := [.ref t]) rfl (hb hbytes d41)
      have hh16 := q16.trans hh14
      have c17 : Steps p.tables e below (s₁.setTop (entryFrame m #[.ref x, .ref y] 3)) (T16.setTop (mkF m 44 #[.val (.ref x), .val (.ref y), .val (.ref y)] [.ref t', .ref t])) := c15.trans (st16 _ (Steps.refl _))
      obtain ⟨v18, T18, X18, E18, g18⟩ := X16.callS hexec (LEq.law l t V t' V') hown (wks W (staticW "java/lang/String" 541 LEq.yN)) (wk W LEq.tab) (W := 0) (Nat.le_of_ble_eq_true rfl) (Nat.le_of_ble_eq_true rfl) (Nat.le_refl _) (Nat.le_refl _) (g := (mkF m 44 #[.val (.ref x), .val (.ref y), .val (.ref y)] [.ref t', .ref t])) rfl (by rw [hml]; rfl) c17 (argsL := [.ref t, .ref t']) (rest := []) rfl rfl (by show 2 * 0 + 0 ≤ _; decide) (hb hbytes d44) (⟨rfl, hx.2.2.2.1.mv X16.warmed.alike hh16, hx.2.2.2.2.1.ty, hy.2.2.2.1.mv X16.warmed.alike hh16, hy.2.2.2.2.1.ty⟩)
      obtain ⟨v, rfl, q18, hv⟩ := E18
      have iff := Cod.eqv hx.2.2.2.2.1 hy.2.2.2.2.1 hx.2.2.2.2.2 hy.2.2.2.2.2
      rcases hv with ⟨rfl, he⟩ | ⟨rfl, he⟩
      · have c19 : Steps p.tables e below (s₁.setTop (entryFrame m #[.ref x, .ref y] 3)) (T18.setTop (mkF m 55 #[.val (.ref x), .val (.ref y), .val (.ref y)] [.int 1])) := Steps.trans g18 (by
          refine XS.ifNo X18.here hexec rfl (hb hbytes d47) rfl (i0_eq_f (by decide)) ?_
          refine iconstV X18.here hexec rfl 1 (hb hbytes d50) (by decide) ?_
          refine XS.goto X18.here hexec rfl (pc0 := 51) rfl (hb hbytes d51) (by decide) rfl ?_
          exact Steps.refl _)
        exact ⟨T18, some (.int 1), _, _, _, X18, rfl, rfl, rfl, (fun h => by cases h), ⟨1, rfl, q18.trans hh16, Or.inl ⟨rfl, iff.mp he⟩⟩, fun fs hl => c19.trans (X18.ireturnOut hexec hret rfl (Or.inr (Or.inl rfl)) (hb hbytes d55) hl)⟩
      · have c19 : Steps p.tables e below (s₁.setTop (entryFrame m #[.ref x, .ref y] 3)) (T18.setTop (mkF m 55 #[.val (.ref x), .val (.ref y), .val (.ref y)] [.int 0])) := Steps.trans g18 (by
          refine XS.ifYes X18.here hexec rfl (pc0 := 47) rfl (hb hbytes d47) rfl (i0_eq_t rfl) (by decide) rfl ?_
          refine iconstV X18.here hexec rfl 0 (hb hbytes d54) (by decide) ?_
          exact Steps.refl _)
        exact ⟨T18, some (.int 0), _, _, _, X18, rfl, rfl, rfl, (fun h => by cases h), ⟨0, rfl, q18.trans hh16, Or.inr ⟨rfl, fun q => he (iff.mpr q)⟩⟩, fun fs hl => c19.trans (X18.ireturnOut hexec hret rfl (Or.inr (Or.inl rfl)) (hb hbytes d55) hl)⟩
    · have c13 : Steps p.tables e below (s₁.setTop (entryFrame m #[.ref x, .ref y] 3)) (T11.setTop (mkF m 55 #[.val (.ref x), .val (.ref y), .val (.ref y)] [.int 0])) := c12.trans (by
        refine XS.icmpYes X11.here hexec rfl (pc0 := 33) rfl (hb hbytes d33) rfl (ii_ne_t hcd) (by decide) rfl ?_
        refine iconstV X11.here hexec rfl 0 (hb hbytes d54) (by decide) ?_
        exact Steps.refl _)
      exact ⟨T11, some (.int 0), _, _, _, X11, rfl, rfl, rfl, (fun h => by cases h), ⟨0, rfl, hh11, Or.inr ⟨rfl, Cod.dif hx.2.2.2.2.1 hy.2.2.2.2.1 hcd⟩⟩, fun fs hl => c13.trans (X11.ireturnOut hexec hret rfl (Or.inr (Or.inl rfl)) (hb hbytes d55) hl)⟩
theorem pays {l : Launch} {R : Room} {p : Program} {e : Env} {below : List Frame} {s : State} {sargs : Array Value} {len W : Nat} (x t : Addr) (V : Cell) (cd : Int32) (n : Nat) (f : Nat → Int32) (y t' : Addr) (V' : Cell) (cd' : Int32) (k : Nat) (g : Nat → Int32) (z : Int32) (htab : tab.before sargs s = true) (hfr : 2 ≤ R.frames) (hlo : W + 28 ≤ R.locals) :
    Back l R p e below s sargs yN len W (fun A₁ a₁ => A₁.cells + 0 ≤ R.cells ∧ A₁.slots + 0 ≤ R.slots ∧ P x t V cd n f y t' V' cd' k g z a₁ A₁.U) (fun A₁ _ v₁ B₁ => Says01 (SameT n f k g) v₁ A₁.U B₁.U ∧ B₁.locs = A₁.locs ++ [] ∧ B₁.cells = A₁.cells + 0 ∧ B₁.slots = A₁.slots + 0) :=
  (law l x t V cd n f y t' V' cd' k g z).pays htab hfr (by omega)
end SEq
end StrChars
namespace StrChars.Road
open Jvm Sem ClassFile Op Lib Jvm.Stand Jvm.Free Jvm.Free.XT
open Jvm.Lib.Cold (StaticIs)
/-- the words of String.equals(Object) -/
abbrev wordsEq : List Jvm.Cond := [.code SEq.yN SEq.yB 3 (some .boolean), .initialized ST, .classLink ST 10 ST, .fieldLink ST 38 ST "COMPACT_STRINGS" "Z", .fieldLink ST 15 ST "coder" "B", .fieldLink ST 9 ST "value" "[B", .methodLink ST 541 LEq.yN, .static LEq.yN, .code LEq.yN LEq.yB 3 (some .boolean), .initialized "java/lang/StringLatin1"]
theorem tabEq_of {a : Array Value} {s : State} (h : ∀ w ∈ wordsEq, w.before a s = true) : SEq.tab.before a s = true := by
  have hl : LEq.tab.before a s = true := unparts (wk h (.code LEq.yN LEq.yB 3 (some .boolean))) (wks h (.initialized LEq.yN.cls :: LEq.site))
  have q := consq hl h
  exact unparts (wk q (.code SEq.yN SEq.yB 3 (some .boolean))) (wks q (.initialized SEq.yN.cls :: SEq.site))
theorem movedEq {Z s : State} {a0 args : Array Value} (hZ : Z.Warmed39 s.vm) (hw : ∀ d ∈ wordsEq, d.before a0 Z = true) : ∀ d ∈ wordsEq, d.before args s = true := fun d hd => by
  have t : ∀ d ∈ wordsEq, (d.onTables && d.keepsFace) = true := by decide +kernel
  exact RoadKit.mv hZ (hw d hd) (t d hd)
/-- the road's facts of a String, as the laws ask it -/
theorem txt_of {Z U : State} {a0 : Array Value} {kI : Nat} (wi : (Jvm.Cond.instantiable ST kI).before a0 Z = true) (al : Z.vm.Alike U.vm) {x t : Addr} {kb : ClassId} {cs : List Int32} {cd N2 : Int32} {vs : List Value} (E : RoadKit.Exa Z U.heap x ST) (V : RoadKit.Fld Z U.heap x ST "value" "[B" (.ref t)) (C : RoadKit.Fld Z U.heap x ST "coder" "B" (.int cd)) (K : RoadKit.Arv Z U.heap t kb .byte N2 vs (.int 0)) (hc : CodA cs cd N2 vs) (hb : ∀ c ∈ cs, ¬ c < 0 ∧ ¬ (65535 : Int32) < c) (l2 : cs.length ≤ 4000) :
    ∃ A, Txt x t A cd cs.length (fun j => cs.getD j 0) U := by
  obtain ⟨A, K1, K2, K3, K4, K5, K6⟩ := K
  have hcod := hc.cod (by omega) K3 K5
  obtain ⟨D, fV, fC, hB, F1, F2, g1, g2, -, -⟩ := strObj wi al E V C
  exact ⟨A, ⟨_, hB.2.2.1, D, hB.1, rfl, by cases q : D.vm <;> first | rfl | exact absurd q (hB.2.1.2 _)⟩, Has.of hB F1 g1, Has.of hB F2 g2, ⟨K1.1, State.isArrayOf_alike al K1.2.1, K1.2.2, by rcases hcod with ⟨-, q, -⟩ | ⟨-, q, -⟩ <;> omega⟩, hcod, fun j hj => by
    have e : cs.getD j 0 = cs[j] := by simp [List.getD_eq_getElem?_getD, hj]
    show ¬ cs.getD j 0 < 0 ∧ ¬ 65535 < cs.getD j 0
    rw [e]; exact hb _ (List.getElem_mem _)⟩
theorem same_list (cs ds : List Int32) : SameT cs.length (fun j => cs.getD j 0) ds.length (fun j => ds.getD j 0) ↔ cs = ds := by
  constructor
  · rintro ⟨e, q⟩
    refine List.ext_getElem e fun j h1 h2 => ?_
    have := q j h1
    simpa [List.getD_eq_getElem?_getD, h1, h2] using this
  · rintro rfl
    exact ⟨rfl, fun _ _ => rfl⟩
/-- **equals(Object) OF TWO SUCH STRINGS**: 1 just where the chars are the same -/
theorem eqW {p : Program} {l : Launch} {e : Env} {R : Room} {s : State} {args : Array Value} {below : List Frame} {len W : Nat} {Z : State} {a0 : Array Value} {h : Heap} (hZ : Z.Warmed39 s.vm) (hw : ∀ d ∈ wordsEq, d.before a0 Z = true) {kI : Nat} (wi : (Jvm.Cond.instantiable ST kI).before a0 Z = true)
    {x t : Addr} {kb : ClassId} {cs : List Int32} {cd N2 : Int32} {vs : List Value} (E : RoadKit.Exa Z h x ST) (V : RoadKit.Fld Z h x ST "value" "[B" (.ref t)) (C : RoadKit.Fld Z h x ST "coder" "B" (.int cd)) (K : RoadKit.Arv Z h t kb .byte N2 vs (.int 0)) (hc : CodA cs cd N2 vs) (hb : ∀ c ∈ cs, ¬ c < 0 ∧ ¬ (65535 : Int32) < c) (l2 : cs.length ≤ 4000)
    {y t' : Addr} {kb' : ClassId} {ds : List Int32} {cd' N2' : Int32} {vs' : List Value} (E' : RoadKit.Exa Z h y ST) (V' : RoadKit.Fld Z h y ST "value" "[B" (.ref t')) (C' : RoadKit.Fld Z h y ST "coder" "B" (.int cd')) (K' : RoadKit.Arv Z h t' kb' .byte N2' vs' (.int 0)) (hc' : CodA ds cd' N2' vs') (hb' : ∀ c ∈ ds, ¬ c < 0 ∧ ¬ (65535 : Int32) < c) (l2' : ds.length ≤ 4000)
    {z : Int32} (S : RoadKit.Sta Z h ST "COMPACT_STRINGS" "Z" (.int z)) (hz : ¬ z = 0) (hfr : 2 ≤ R.frames) (hlo : W + 28 ≤ R.locals) :
    Back l R p e below s args (⟨"java/lang/String", "equals", "(Ljava/lang/Object;)Z"⟩ : MethodName) len W (fun P a => a = #[.ref x, .ref y] ∧ P.U.heap = h ∧ P.cells + 0 ≤ R.cells ∧ P.slots + 0 ≤ R.slots)
      (fun P _ v B => ∃ L, (((v = some (.int 1) ∧ cs = ds) ∨ (v = some (.int 0) ∧ ¬ cs = ds)) ∧ L = [] ∧ B.U.heap = h) ∧ B.locs = P.locs ++ L ∧ B.cells = P.cells + 0 ∧ B.slots = P.slots + 0) := by
  intro m meth c P g ig mk a X hg hsize hdg hW hn hp'
  obtain ⟨rfl, rfl, r1, r2⟩ := hp'
  have al : Z.vm.Alike P.U.vm := hZ.alike.trans X.warmed.alike
  obtain ⟨A, hx⟩ := txt_of wi al E V C K hc hb l2
  obtain ⟨A', hy⟩ := txt_of wi al E' V' C' K' hc' hb' l2'
  obtain ⟨v, B, X', ⟨⟨w, hv, hh, hq⟩, hl, hk, hs⟩, st⟩ := SEq.pays x t A cd cs.length (fun j => cs.getD j 0) y t' A' cd' ds.length (fun j => ds.getD j 0) z (tabEq_of (movedEq hZ hw)) hfr hlo m meth c P g ig mk _ X hg hsize hdg hW hn ⟨r1, r2, rfl, hx, hy, sta_is al S, hz⟩
  refine ⟨v, B, X', ⟨[], ⟨?_, rfl, hh⟩, hl, hk, hs⟩, st⟩
  rcases hq with ⟨rfl, q⟩ | ⟨rfl, q⟩
  · exact Or.inl ⟨hv, (same_list cs ds).mp q⟩
  · exact Or.inr ⟨hv, fun e => q ((same_list cs ds).mpr e)⟩
end StrChars.Road
namespace StrChars.Road
open Jvm Sem ClassFile Op Lib Jvm.Stand Jvm.Free Jvm.Free.XT
open Jvm.Lib.Cold (StaticIs)
/-- what backV says of its String, as the contracts of this text ask it: cs's low bytes, coder 0 -/
theorem codOf {cs : List Int32} {n : Nat} (hn : cs.length = n) (hb : ∀ c ∈ cs, ¬ 255 < c) : CodA cs 0 (Int32.ofNat n) ((cs.map lo8).map Value.int) := Or.inl ⟨rfl, by rw [hn], by simp [List.map_map, Function.comp_def], hb⟩
end StrChars.Road
end Jvm.Pilot.@@N@@
namespace Jvm.Pilot.@@N@@
open Jvm Jvm.ClassFile Sem Op Lib Jvm.Free Jvm.Stand Jvm.LawKit Jvm.RoadKit Bundle Jvm.Pilot.@@N@@.Jvm.D
section OwnKit
variable {p : Program} {l : Launch} {e : Env} {R : Room} {s : State} {m : MethodId} {args : Array Value} {below : List Frame} {meth : Method} {c : Code} {T : State} {locs : List Loc} {cells slots : Nat} {Z : State} {h : Heap} {a : Addr} {k : ClassId} {n : Int32} {vs : List Value} {dv : Value}
/-- from S on the body's run ends as Qx says -/
def own_Ok (p : Program) (e : Env) (below : List Frame) (Qx : Outcome → State → Prop) (S : State) : Prop := ∃ s₂ o, Steps p.tables e below S s₂ ∧ s₂.status = .running ∧ Ended s₂ below o ∧ Qx o s₂
theorem own_st {Qx : Outcome → State → Prop} {S S' : State} (h : ∀ t, Steps p.tables e below S' t → Steps p.tables e below S t) (k : own_Ok p e below Qx S') : own_Ok p e below Qx S := by
  obtain ⟨s₂, o, h1, h2⟩ := k
  exact ⟨s₂, o, h s₂ h1, h2⟩
def own_Qx (s : State) (Q : Option Value → Heap → List Loc → Prop) (kc ks : Nat) : Outcome → State → Prop := fun o s₂ => ∃ v L, o = .returned v ∧ Q v s₂.heap L ∧ FrameEnd s o s₂ L kc ks
theorem own_out (X : Stand p l e R s m args below meth c T locs cells slots) (hlk : meth.locks = false) {Q : Option Value → Heap → List Loc → Prop} {kc ks : Nat} {g : JFrame} (v : Option Value) (hv : meth.sig.returnType = none → v = none)
    (hst : ∀ fs, (∀ (f : JFrame) (acts : List Action), f.method = m → f.locked = none → f.entered = [] → (doReturn e (T.setTop f) acts v).1 = T.setFrames fs) → Steps p.tables e below (T.setTop g) (T.setFrames fs))
    (hq : Q v T.heap locs) (hk : cells ≤ kc) (hn : slots ≤ ks) : own_Ok p e below (own_Qx s Q kc ks) (T.setTop g) := by
  obtain ⟨fs, hr, hrun, hended, hW, hsame⟩ := X.leave (v := v) hv hlk
  exact ⟨_, _, hst fs hr, hrun, hended, v, locs, rfl, hq, ⟨_, rfl⟩, hW, hsame.mono hk hn⟩
theorem own_retV (X : Stand p l e R s m args below meth c T locs cells slots) (hx : p.tables.exec = Jvm.exec) (hlk : meth.locks = false) {Q : Option Value → Heap → List Loc → Prop} {kc ks : Nat} {pc : Nat} {Ls : Array Slot} (hret : meth.sig.returnType = none) (hd : decode c.code pc = .ok (.return_, 1))
    (hq : Q none T.heap locs) (hk : cells ≤ kc) (hn : slots ≤ ks) : own_Ok p e below (own_Qx s Q kc ks) (T.setTop (mkF m pc Ls [])) :=
  own_out X hlk none (fun _ => rfl) (fun fs hr => X.returnOut hx hret hd hr) hq hk hn
theorem own_retI (X : Stand p l e R s m args below meth c T locs cells slots) (hx : p.tables.exec = Jvm.exec) (hlk : meth.locks = false) {Q : Option Value → Heap → List Loc → Prop} {kc ks : Nat} {pc : Nat} {Ls : Array Slot} {z : Int32} {rest : List Value} (hret : meth.sig.returnType = some .int) (hd : decode c.code pc = .ok (.ireturn, 1))
    (hq : Q (some (.int z)) T.heap locs) (hk : cells ≤ kc) (hn : slots ≤ ks) : own_Ok p e below (own_Qx s Q kc ks) (T.setTop (mkF m pc Ls (.int z :: rest))) :=
  own_out X hlk _ (fun h => by rw [hret] at h; cases h) (fun fs hr => retOut X hx (i := .ireturn) hret rfl (Or.inl ⟨rfl, Or.inl rfl, _, rfl⟩) hd hr) hq hk hn
theorem own_retN (X : Stand p l e R s m args below meth c T locs cells slots) (hx : p.tables.exec = Jvm.exec) (hlk : meth.locks = false) {Q : Option Value → Heap → List Loc → Prop} {kc ks : Nat} {pc : Nat} {Ls : Array Slot} {z : Int32} {t : FieldType} {rest : List Value} (hret : meth.sig.returnType = some t) (ht : t = .boolean ∨ t = .byte ∨ t = .char ∨ t = .short) (hd : decode c.code pc = .ok (.ireturn, 1))
    (hq : Q (some (.int (nar t z))) T.heap locs) (hk : cells ≤ kc) (hn : slots ≤ ks) : own_Ok p e below (own_Qx s Q kc ks) (T.setTop (mkF m pc Ls (.int z :: rest))) :=
  own_out X hlk _ (fun h => by rw [hret] at h; cases h) (fun fs hr => retN X hx hret ht hd hr) hq hk hn
theorem own_retJ (X : Stand p l e R s m args below meth c T locs cells slots) (hx : p.tables.exec = Jvm.exec) (hlk : meth.locks = false) {Q : Option Value → Heap → List Loc → Prop} {kc ks : Nat} {pc : Nat} {Ls : Array Slot} {z : Int64} {rest : List Value} (hret : meth.sig.returnType = some .long) (hd : decode c.code pc = .ok (.lreturn, 1))
    (hq : Q (some (.long z)) T.heap locs) (hk : cells ≤ kc) (hn : slots ≤ ks) : own_Ok p e below (own_Qx s Q kc ks) (T.setTop (mkF m pc Ls (.long z :: rest))) :=
  own_out X hlk _ (fun h => by rw [hret] at h; cases h) (fun fs hr => retOut X hx (i := .lreturn) hret rfl (Or.inr (Or.inl ⟨rfl, rfl, _, rfl⟩)) hd hr) hq hk hn
theorem own_narR {v : Value} {t : FieldType} (hv : v.isRef = true) (ht : t.isReference = true) : narrow t v = v := by
  cases t <;> first | (cases ht; done) | (cases v <;> first | rfl | (cases hv; done))
theorem own_fitsR {v : Value} {t : FieldType} (hv : v.isRef = true) (ht : t.isReference = true) : fits t v = true := by
  cases t <;> first | (cases ht; done) | (cases v <;> first | rfl | (cases hv; done))
theorem own_retA (X : Stand p l e R s m args below meth c T locs cells slots) (hx : p.tables.exec = Jvm.exec) (hlk : meth.locks = false) {Q : Option Value → Heap → List Loc → Prop} {kc ks : Nat} {pc : Nat} {Ls : Array Slot} {w : Value} {t : FieldType} {rest : List Value} (hw : w.isRef = true) (hret : meth.sig.returnType = some t) (ht : t.isReference = true) (hd : decode c.code pc = .ok (.areturn, 1))
    (hq : Q (some w) T.heap locs) (hk : cells ≤ kc) (hn : slots ≤ ks) : own_Ok p e below (own_Qx s Q kc ks) (T.setTop (mkF m pc Ls (w :: rest))) :=
  own_out X hlk _ (fun h => by rw [hret] at h; cases h) (fun fs hr => retOut X hx (i := .areturn) hret (own_narR hw ht) (Or.inr (Or.inr (Or.inr (Or.inr ⟨rfl, ht, hw⟩)))) hd hr) hq hk hn
theorem own_n0 {n0 : Nat} (O : Old Z n0 h) : n0 ≤ h.size := O.1 ▸ O.2.1
theorem own_len {ty : FieldType} (X : Stand p l e R s m args below meth c T locs cells slots) (hx : p.tables.exec = Jvm.exec) (hZ : Z.Warmed39 s.vm) (eT : T.heap = h) (A : Arv Z h a k ty n vs dv) {g : JFrame} (hg : g.method = m) {rest : List Value} (hs : g.stack = .ref a :: rest) (hd : decode c.code g.pc = .ok (.arraylength, 1)) (t : State)
    (hr : Steps p.tables e below (T.setTop { g with pc := g.pc + 1, stack := .int n :: rest }) t) : Steps p.tables e below (T.setTop g) t := by
  obtain ⟨cl, A1, -, S, h0, -⟩ := A
  exact X.arraylength hx (by rw [eT]; exact A1.1) (State.isArrayOf_alike hZ.alike A1.2.1) hg hs hd t (by rw [len_of S h0]; exact hr)
theorem own_ldC (X : Stand p l e R s m args below meth c T locs cells slots) (hx : p.tables.exec = Jvm.exec) (hZ : Z.Warmed39 s.vm) (eT : T.heap = h) (A : Arv Z h a k .char n vs dv) {j v : Int32} (h0 : ¬ j < 0) (h1 : j < n) (hv : vs.getD j.toNatClampNeg dv = .int v) {g : JFrame} (hg : g.method = m) {rest : List Value} (hs : g.stack = .int j :: .ref a :: rest) (hd : decode c.code g.pc = .ok (.caload, 1)) (t : State)
    (hr : Steps p.tables e below (T.setTop { g with pc := g.pc + 1, stack := .int v :: rest }) t) : Steps p.tables e below (T.setTop g) t := by
  obtain ⟨cl, A1, -, S, -, H, -⟩ := A
  exact X.caload hx (by rw [eT]; exact A1.1) (State.isArrayOf_alike hZ.alike A1.2.1) A1.2.2 (inb_of S ⟨h0, h1⟩) (H.at (inb_of S ⟨h0, h1⟩) hv) hg hs hd t hr
theorem own_ldB (X : Stand p l e R s m args below meth c T locs cells slots) (hx : p.tables.exec = Jvm.exec) (hZ : Z.Warmed39 s.vm) (eT : T.heap = h) (A : Arv Z h a k .byte n vs dv) {j v : Int32} (h0 : ¬ j < 0) (h1 : j < n) (hv : vs.getD j.toNatClampNeg dv = .int v) {g : JFrame} (hg : g.method = m) {rest : List Value} (hs : g.stack = .int j :: .ref a :: rest) (hd : decode c.code g.pc = .ok (.baload, 1)) (t : State)
    (hr : Steps p.tables e below (T.setTop { g with pc := g.pc + 1, stack := .int v :: rest }) t) : Steps p.tables e below (T.setTop g) t := by
  obtain ⟨cl, A1, -, S, -, H, -⟩ := A
  exact X.baloadBytes hx (by rw [eT]; exact A1.1) (State.isArrayOf_alike hZ.alike A1.2.1) A1.2.2 (inb_of S ⟨h0, h1⟩) (H.at (inb_of S ⟨h0, h1⟩) hv) hg hs hd t hr
theorem own_ldI (X : Stand p l e R s m args below meth c T locs cells slots) (hx : p.tables.exec = Jvm.exec) (hZ : Z.Warmed39 s.vm) (eT : T.heap = h) (A : Arv Z h a k .int n vs dv) {j v : Int32} (h0 : ¬ j < 0) (h1 : j < n) (hv : vs.getD j.toNatClampNeg dv = .int v) {g : JFrame} (hg : g.method = m) {rest : List Value} (hs : g.stack = .int j :: .ref a :: rest) (hd : decode c.code g.pc = .ok (.iaload, 1)) (t : State)
    (hr : Steps p.tables e below (T.setTop { g with pc := g.pc + 1, stack := .int v :: rest }) t) : Steps p.tables e below (T.setTop g) t := by
  obtain ⟨cl, A1, -, S, -, H, -⟩ := A
  exact X.iaload hx (by rw [eT]; exact A1.1) (State.isArrayOf_alike hZ.alike A1.2.1) A1.2.2 (inb_of S ⟨h0, h1⟩) (H.at (inb_of S ⟨h0, h1⟩) hv) hg hs hd t hr
theorem own_ldJ (X : Stand p l e R s m args below meth c T locs cells slots) (hx : p.tables.exec = Jvm.exec) (hZ : Z.Warmed39 s.vm) (eT : T.heap = h) (A : Arv Z h a k .long n vs dv) {j : Int32} {v : Int64} (h0 : ¬ j < 0) (h1 : j < n) (hv : vs.getD j.toNatClampNeg dv = .long v) {g : JFrame} (hg : g.method = m) {rest : List Value} (hs : g.stack = .int j :: .ref a :: rest) (hd : decode c.code g.pc = .ok (.laload, 1)) (t : State)
    (hr : Steps p.tables e below (T.setTop { g with pc := g.pc + 1, stack := .long v :: rest }) t) : Steps p.tables e below (T.setTop g) t := by
  obtain ⟨cl, A1, -, S, -, H, -⟩ := A
  exact X.laload hx (by rw [eT]; exact A1.1) (State.isArrayOf_alike hZ.alike A1.2.1) A1.2.2 (inb_of S ⟨h0, h1⟩) (H.at (inb_of S ⟨h0, h1⟩) hv) hg hs hd t hr
theorem own_ldR {ty : FieldType} (X : Stand p l e R s m args below meth c T locs cells slots) (hx : p.tables.exec = Jvm.exec) (hZ : Z.Warmed39 s.vm) (eT : T.heap = h) (A : Arv Z h a k ty n vs dv) {j : Int32} {v : Value} (h0 : ¬ j < 0) (h1 : j < n) (hv : vs.getD j.toNatClampNeg dv = v) (hty : ty.isReference = true) {g : JFrame} (hg : g.method = m) {rest : List Value} (hs : g.stack = .int j :: .ref a :: rest) (hd : decode c.code g.pc = .ok (.aaload, 1)) (t : State)
    (hr : Steps p.tables e below (T.setTop { g with pc := g.pc + 1, stack := v :: rest }) t) : Steps p.tables e below (T.setTop g) t := by
  obtain ⟨cl, A1, -, S, -, H, -⟩ := A
  exact X.aaload hx (by rw [eT]; exact A1.1) (State.isArrayOf_alike hZ.alike A1.2.1) hty A1.2.2 (inb_of S ⟨h0, h1⟩) (H.at (inb_of S ⟨h0, h1⟩) hv) hg hs hd t hr
theorem own_stC (X : Stand p l e R s m args below meth c T locs cells slots) (hx : p.tables.exec = Jvm.exec) (hZ : Z.Warmed39 s.vm) (eT : T.heap = h) (A : Arv Z h a k .char n vs dv) {j x : Int32} (i : Nat) (hi : j.toNatClampNeg = i) (h0 : ¬ j < 0) (h1 : j < n) (h2 : i < vs.length) {g : JFrame} (hg : g.method = m) {rest : List Value} (hs : g.stack = .int x :: .int j :: .ref a :: rest) (hd : decode c.code g.pc = .ok (.castore, 1)) :
    ∃ T' h', Stand p l e R s m args below meth c T' (locs ++ [⟨a, j.toNatClampNeg⟩]) cells slots ∧ T'.heap = h' ∧ Wr h h' a j.toNatClampNeg (.int (nar .char x)) ∧ Arv Z h' a k .char n (vs.set i (.int (nar .char x))) dv ∧ ∀ target, Steps p.tables e below (T'.setTop { g with pc := g.pc + 1, stack := rest }) target → Steps p.tables e below (T.setTop g) target := by
  obtain ⟨cl, A1, q, S, hn, H, G⟩ := A
  obtain ⟨T', h', X', e', W', st⟩ := stC X hx hZ eT A1 (inb_of S ⟨h0, h1⟩) hg hs hd
  exact ⟨T', h', X', e', W', Arv.set A1 q S hn H G (fits_nar_char _) W' i hi h2, st⟩
theorem own_stB (X : Stand p l e R s m args below meth c T locs cells slots) (hx : p.tables.exec = Jvm.exec) (hZ : Z.Warmed39 s.vm) (eT : T.heap = h) (A : Arv Z h a k .byte n vs dv) {j x : Int32} (i : Nat) (hi : j.toNatClampNeg = i) (h0 : ¬ j < 0) (h1 : j < n) (h2 : i < vs.length) {g : JFrame} (hg : g.method = m) {rest : List Value} (hs : g.stack = .int x :: .int j :: .ref a :: rest) (hd : decode c.code g.pc = .ok (.bastore, 1)) :
    ∃ T' h', Stand p l e R s m args below meth c T' (locs ++ [⟨a, j.toNatClampNeg⟩]) cells slots ∧ T'.heap = h' ∧ Wr h h' a j.toNatClampNeg (.int (nar .byte x)) ∧ Arv Z h' a k .byte n (vs.set i (.int (nar .byte x))) dv ∧ ∀ target, Steps p.tables e below (T'.setTop { g with pc := g.pc + 1, stack := rest }) target → Steps p.tables e below (T.setTop g) target := by
  obtain ⟨cl, A1, q, S, hn, H, G⟩ := A
  obtain ⟨T', h', X', e', W', st⟩ := stB X hx hZ eT A1 (inb_of S ⟨h0, h1⟩) hg hs hd
  exact ⟨T', h', X', e', W', Arv.set A1 q S hn H G (fits_nar_byte _) W' i hi h2, st⟩
theorem own_stI (X : Stand p l e R s m args below meth c T locs cells slots) (hx : p.tables.exec = Jvm.exec) (hZ : Z.Warmed39 s.vm) (eT : T.heap = h) (A : Arv Z h a k .int n vs dv) {j x : Int32} (i : Nat) (hi : j.toNatClampNeg = i) (h0 : ¬ j < 0) (h1 : j < n) (h2 : i < vs.length) {g : JFrame} (hg : g.method = m) {rest : List Value} (hs : g.stack = .int x :: .int j :: .ref a :: rest) (hd : decode c.code g.pc = .ok (.iastore, 1)) :
    ∃ T' h', Stand p l e R s m args below meth c T' (locs ++ [⟨a, j.toNatClampNeg⟩]) cells slots ∧ T'.heap = h' ∧ Wr h h' a j.toNatClampNeg (.int x) ∧ Arv Z h' a k .int n (vs.set i (.int x)) dv ∧ ∀ target, Steps p.tables e below (T'.setTop { g with pc := g.pc + 1, stack := rest }) target → Steps p.tables e below (T.setTop g) target := by
  obtain ⟨cl, A1, q, S, hn, H, G⟩ := A
  obtain ⟨T', h', X', e', W', st⟩ := stI X hx hZ eT A1 (inb_of S ⟨h0, h1⟩) hg hs hd
  exact ⟨T', h', X', e', W', Arv.set A1 q S hn H G rfl W' i hi h2, st⟩
theorem own_stJ (X : Stand p l e R s m args below meth c T locs cells slots) (hx : p.tables.exec = Jvm.exec) (hZ : Z.Warmed39 s.vm) (eT : T.heap = h) (A : Arv Z h a k .long n vs dv) {j : Int32} {x : Int64} (i : Nat) (hi : j.toNatClampNeg = i) (h0 : ¬ j < 0) (h1 : j < n) (h2 : i < vs.length) {g : JFrame} (hg : g.method = m) {rest : List Value} (hs : g.stack = .long x :: .int j :: .ref a :: rest) (hd : decode c.code g.pc = .ok (.lastore, 1)) :
    ∃ T' h', Stand p l e R s m args below meth c T' (locs ++ [⟨a, j.toNatClampNeg⟩]) cells slots ∧ T'.heap = h' ∧ Wr h h' a j.toNatClampNeg (.long x) ∧ Arv Z h' a k .long n (vs.set i (.long x)) dv ∧ ∀ target, Steps p.tables e below (T'.setTop { g with pc := g.pc + 1, stack := rest }) target → Steps p.tables e below (T.setTop g) target := by
  obtain ⟨cl, A1, q, S, hn, H, G⟩ := A
  obtain ⟨T', h', X', e', W', st⟩ := stJ X hx hZ eT A1 (inb_of S ⟨h0, h1⟩) hg hs hd
  exact ⟨T', h', X', e', W', Arv.set A1 q S hn H G rfl W' i hi h2, st⟩
theorem own_stR {ty : FieldType} (X : Stand p l e R s m args below meth c T locs cells slots) (hx : p.tables.exec = Jvm.exec) (hZ : Z.Warmed39 s.vm) (eT : T.heap = h) (A : Arv Z h a k ty n vs dv) {j : Int32} {x : Value} (i : Nat) (hi : j.toNatClampNeg = i) (h0 : ¬ j < 0) (h1 : j < n) (h2 : i < vs.length) (hty : ty.isReference = true) (hxr : x.isRef = true) (hsto : ∀ cl : Cell, Arr Z h a cl ty → cl.cls = k → Sto Z h a x) {g : JFrame} (hg : g.method = m) {rest : List Value} (hs : g.stack = x :: .int j :: .ref a :: rest) (hd : decode c.code g.pc = .ok (.aastore, 1)) :
    ∃ T' h', Stand p l e R s m args below meth c T' (locs ++ [⟨a, j.toNatClampNeg⟩]) cells slots ∧ T'.heap = h' ∧ Wr h h' a j.toNatClampNeg x ∧ Arv Z h' a k ty n (vs.set i x) dv ∧ ∀ target, Steps p.tables e below (T'.setTop { g with pc := g.pc + 1, stack := rest }) target → Steps p.tables e below (T.setTop g) target := by
  obtain ⟨cl, A1, q, S, hn, H, G⟩ := A
  obtain ⟨T', h', X', e', W', st⟩ := stR X hx hZ eT A1 (inb_of S ⟨h0, h1⟩) hty (hsto cl A1 q) hg hs hd
  exact ⟨T', h', X', e', W', Arv.set A1 q S hn H G (own_fitsR hxr hty) W' i hi h2, st⟩
end OwnKit
section OwnKitW
variable {p : Program} {l : Launch} {e : Env} {R : Room} {s : State} {m : MethodId} {args : Array Value} {below : List Frame} {meth : Method} {c : Code} {T : State} {locs : List Loc} {cells slots : Nat} {vm0 : Vm} {k0 : Nat}
def own_QxW (s : State) (Q : Option Value → Heap → List Loc → Prop) (kc ks : Nat) : Outcome → State → Prop := fun o s₂ => ∃ v L, o = .returned v ∧ Q v s₂.heap L ∧ ReturnedEndW s o s₂ L kc ks
theorem own_outW (X : Stand p l e R (s.setVm vm0) m args below meth c T locs cells slots) (hS : s.Since vm0 k0) (hk0 : k0 ≤ T.heap.size) (hlk : meth.locks = false) {Q : Option Value → Heap → List Loc → Prop} {kc ks : Nat} {g : JFrame} (v : Option Value) (hv : meth.sig.returnType = none → v = none)
    (hst : ∀ fs, (∀ (f : JFrame) (acts : List Action), f.method = m → f.locked = none → f.entered = [] → (doReturn e (T.setTop f) acts v).1 = T.setFrames fs) → Steps p.tables e below (T.setTop g) (T.setFrames fs))
    (hq : Q v T.heap locs) (hk : cells ≤ kc) (hn : slots ≤ ks) : own_Ok p e below (own_QxW s Q kc ks) (T.setTop g) := by
  obtain ⟨fs, hr, hrun, hended, hW, hsame⟩ := X.leave (v := v) hv hlk
  obtain ⟨w1, w2, w3⟩ := hS.ended (U := T.setFrames fs) hW hk0 hsame
  exact ⟨_, _, hst fs hr, hrun, hended, v, locs, rfl, hq, ⟨_, rfl⟩, w1, w2, w3.mono hk hn⟩
theorem own_retVW (X : Stand p l e R (s.setVm vm0) m args below meth c T locs cells slots) (hS : s.Since vm0 k0) (hk0 : k0 ≤ T.heap.size) (hx : p.tables.exec = Jvm.exec) (hlk : meth.locks = false) {Q : Option Value → Heap → List Loc → Prop} {kc ks : Nat} {pc : Nat} {Ls : Array Slot} (hret : meth.sig.returnType = none) (hd : decode c.code pc = .ok (.return_, 1))
    (hq : Q none T.heap locs) (hk : cells ≤ kc) (hn : slots ≤ ks) : own_Ok p e below (own_QxW s Q kc ks) (T.setTop (mkF m pc Ls [])) :=
  own_outW X hS hk0 hlk none (fun _ => rfl) (fun fs hr => X.returnOut hx hret hd hr) hq hk hn
theorem own_retIW (X : Stand p l e R (s.setVm vm0) m args below meth c T locs cells slots) (hS : s.Since vm0 k0) (hk0 : k0 ≤ T.heap.size) (hx : p.tables.exec = Jvm.exec) (hlk : meth.locks = false) {Q : Option Value → Heap → List Loc → Prop} {kc ks : Nat} {pc : Nat} {Ls : Array Slot} {z : Int32} {rest : List Value} (hret : meth.sig.returnType = some .int) (hd : decode c.code pc = .ok (.ireturn, 1))
    (hq : Q (some (.int z)) T.heap locs) (hk : cells ≤ kc) (hn : slots ≤ ks) : own_Ok p e below (own_QxW s Q kc ks) (T.setTop (mkF m pc Ls (.int z :: rest))) :=
  own_outW X hS hk0 hlk _ (fun h => by rw [hret] at h; cases h) (fun fs hr => retOut X hx (i := .ireturn) hret rfl (Or.inl ⟨rfl, Or.inl rfl, _, rfl⟩) hd hr) hq hk hn
theorem own_retNW (X : Stand p l e R (s.setVm vm0) m args below meth c T locs cells slots) (hS : s.Since vm0 k0) (hk0 : k0 ≤ T.heap.size) (hx : p.tables.exec = Jvm.exec) (hlk : meth.locks = false) {Q : Option Value → Heap → List Loc → Prop} {kc ks : Nat} {pc : Nat} {Ls : Array Slot} {z : Int32} {t : FieldType} {rest : List Value} (hret : meth.sig.returnType = some t) (ht : t = .boolean ∨ t = .byte ∨ t = .char ∨ t = .short) (hd : decode c.code pc = .ok (.ireturn, 1))
    (hq : Q (some (.int (nar t z))) T.heap locs) (hk : cells ≤ kc) (hn : slots ≤ ks) : own_Ok p e below (own_QxW s Q kc ks) (T.setTop (mkF m pc Ls (.int z :: rest))) :=
  own_outW X hS hk0 hlk _ (fun h => by rw [hret] at h; cases h) (fun fs hr => retN X hx hret ht hd hr) hq hk hn
theorem own_retAW (X : Stand p l e R (s.setVm vm0) m args below meth c T locs cells slots) (hS : s.Since vm0 k0) (hk0 : k0 ≤ T.heap.size) (hx : p.tables.exec = Jvm.exec) (hlk : meth.locks = false) {Q : Option Value → Heap → List Loc → Prop} {kc ks : Nat} {pc : Nat} {Ls : Array Slot} {w : Value} {t : FieldType} {rest : List Value} (hw : w.isRef = true) (hret : meth.sig.returnType = some t) (ht : t.isReference = true) (hd : decode c.code pc = .ok (.areturn, 1))
    (hq : Q (some w) T.heap locs) (hk : cells ≤ kc) (hn : slots ≤ ks) : own_Ok p e below (own_QxW s Q kc ks) (T.setTop (mkF m pc Ls (w :: rest))) :=
  own_outW X hS hk0 hlk _ (fun h => by rw [hret] at h; cases h) (fun fs hr => retOut X hx (i := .areturn) hret (own_narR hw ht) (Or.inr (Or.inr (Or.inr (Or.inr ⟨rfl, ht, hw⟩)))) hd hr) hq hk hn
end OwnKitW
theorem own_len31 {s : State} {args : Array Value} {t : Term} {v : Value} {x : Addr} {cl : Cell} (ht : t.eval args s none [] s = some (.ref x)) (ha : s.arrayAt? x = some cl) (h : (Term.length t).eval args s none [] s = some v) : cl.slots.size < 2 ^ 31 := by
  by_cases hl : cl.slots.size < 2 ^ 31
  · exact hl
  · simp [Term.eval, ht, ha, hl] at h
/-- a comparison with an int that holds: the other side is that int -/
theorem own_eqInt {s : State} {args : Array Value} {t : Term} {b : Int32} (h : (Jvm.Cond.eq t (.int b)).value args s none s [] = some true) : t.eval args s none [] s = some (.int b) := by
  obtain ⟨x, y, ha, hb, hk, -⟩ := cmp_v (Or.inl h)
  have hy : y = .int b := by
    have q := Term.int_eval (args := args) (first := s) (o := none) (idx := []) (s := s) b
    rw [hb] at q; exact Option.some.inj q
  subst hy
  cases x <;> simp only [Kin] at hk
  · rename_i z
    have q := gotT (Cond.eq_ints ha hb) h
    rw [q] at ha
    exact ha
  all_goals (first | (obtain ⟨w, hw⟩ := hk; cases hw; done) | (obtain ⟨-, hw⟩ := hk; cases hw; done))
theorem own_eqRef {s : State} {args : Array Value} {t u : Term} {a : Addr} (h : (Jvm.Cond.eq t u).value args s none s [] = some true) (hu : u.eval args s none [] s = some (.ref a)) : t.eval args s none [] s = some (.ref a) := by
  obtain ⟨x, y, ha, hb, hk, -⟩ := cmp_v (Or.inl h)
  cases hu.symm.trans hb
  cases x <;> simp only [Kin] at hk
  all_goals (first | (obtain ⟨w, hw⟩ := hk; cases hw; done) | skip)
  all_goals (have q := gotT (eq_R ha hb (by first | rfl | exact hk.1) rfl) h; rw [ha, q])
theorem own_lenAt {s : State} {args : Array Value} {t : Term} {x : Addr} {cl : Cell} {n : Int32} (ht : t.eval args s none [] s = some (.ref x)) (ha : s.arrayAt? x = some cl) (h : (Jvm.Cond.eq (.length t) (.int n)).value args s none s [] = some true) : cl.slots.size < 2 ^ 31 ∧ cl.slots.size.toInt32 = n := by
  have hl : cl.slots.size < 2 ^ 31 := by
    obtain ⟨x, y, ha', -⟩ := cmp_v (Or.inl h)
    exact own_len31 ht ha ha'
  exact ⟨hl, gotT (Cond.eq_ints (len_f ht ha hl) (Term.int_eval n)) h⟩
theorem own_elemAt {s : State} {args : Array Value} {t : Term} {x : Addr} {cl : Cell} {j b : Int32} (ht : t.eval args s none [] s = some (.ref x)) (hc : s.heap[x]? = some cl) (h : (Jvm.Cond.eq (.elem t (.int j)) (.int b)).value args s none s [] = some true) : cl.slots[j.toNatClampNeg]? = some (.int b) :=
  (elem_in (own_eqInt h) ht (Term.int_eval j) hc).2
theorem own_elemRef {s : State} {args : Array Value} {t u : Term} {x a : Addr} {cl : Cell} {j : Int32} (ht : t.eval args s none [] s = some (.ref x)) (hc : s.heap[x]? = some cl) (h : (Jvm.Cond.eq (.elem t (.int j)) u).value args s none s [] = some true) (hu : u.eval args s none [] s = some (.ref a)) : cl.slots[j.toNatClampNeg]? = some (.ref a) :=
  (elem_in (own_eqRef h hu) ht (Term.int_eval j) hc).2
/-- a String of the start, by the words on its coder and its bytes' array: all but the bytes -/
theorem own_strStart {s : State} {args : Array Value} {t : Term} {a : Addr} {n : Int32} (ev : t.eval args s none [] s = some (.ref a)) (h1 : (Jvm.Cond.exactly t "java/lang/String").value args s none s [] = some true) (h2 : (Jvm.Cond.eq (.field t "java/lang/String" "coder" "B") (.int (0 : Int32))).value args s none s [] = some true)
    (h3 : (Jvm.Cond.arrayOf (.field t "java/lang/String" "value" "[B") .byte).value args s none s [] = some true) (h4 : (Jvm.Cond.eq (.length (.field t "java/lang/String" "value" "[B")) (.int n)).value args s none s [] = some true) :
    Exa s s.heap a "java/lang/String" ∧ Fld s s.heap a "java/lang/String" "coder" "B" (.int (0 : Int32)) ∧ ∃ (v : Addr) (cl : Cell), (Term.field t "java/lang/String" "value" "[B").eval args s none [] s = some (.ref v) ∧ Fld s s.heap a "java/lang/String" "value" "[B" (.ref v) ∧ Arr s s.heap v cl .byte ∧ cl.slots.size < 2 ^ 31 ∧ cl.slots.size.toInt32 = n := by
  have ec := own_eqInt h2
  rw [fld_at ev] at ec
  obtain ⟨v, e3⟩ := arr_v h3
  obtain ⟨cl, A⟩ := Arr.start e3 h3
  have e3' := e3
  rw [fld_at ev] at e3'
  obtain ⟨hl, hz⟩ := own_lenAt e3 (A.fin (Vm.Alike.refl _)) h4
  exact ⟨Exa.start ev h1, Fld.start ec, v, cl, e3, Fld.start e3', A, hl, hz⟩
theorem own_eqT {v : Option Value} {cs ds : List Int32} {A : Prop} (h : ((v = some (.int 1) ∧ cs = ds) ∨ (v = some (.int 0) ∧ ¬ cs = ds)) ∧ A) (e : cs = ds) : v = some (.int (1 : Int32)) ∧ A := by
  obtain ⟨h1 | h1, h2⟩ := h
  · exact ⟨h1.1, h2⟩
  · exact absurd e h1.2
theorem own_eqF {v : Option Value} {cs ds : List Int32} {A : Prop} (h : ((v = some (.int 1) ∧ cs = ds) ∨ (v = some (.int 0) ∧ ¬ cs = ds)) ∧ A) (e : ¬ cs = ds) : v = some (.int (0 : Int32)) ∧ A := by
  obtain ⟨h1 | h1, h2⟩ := h
  · exact absurd h1.2 e
  · exact ⟨h1.1, h2⟩
theorem own_size {n : Nat} {z : Int32} {k : Nat} (h : n < 2 ^ 31) (e : n.toInt32 = z) (hz : z.toInt = k) : n = k := by
  have q := congrArg Int32.toInt e
  rw [len_toInt h, hz] at q
  omega
theorem own_arv2 {Z : State} {h : Heap} {b : Addr} {c : Cell} {K : String} {x y : Addr} (A : Arr Z h b (cloneOf c) (.object K)) (hs : c.slots.size = 2) (h0 : c.slots[0]? = some (.ref x)) (h1 : c.slots[1]? = some (.ref y)) : Arv Z h b c.cls (.object K) (2 : Int32) [(.ref x), (.ref y)] .null := by
  refine ⟨_, A, rfl, hs, by decide, fun i hi => ?_, fun i hi => ?_⟩
  · have hi' : i < 2 := by rw [← hs]; exact hi
    match i, hi' with
    | 0, _ => exact h0
    | 1, _ => exact h1
  · have hi' : i < 2 := by rw [← hs]; exact hi
    match i, hi' with
    | 0, _ => rfl
    | 1, _ => rfl
theorem own_d8_0 : decode jdk_31_method_11_code 0 = .ok (.aload_n 0, 1) := by decide +kernel
theorem own_d8_1 : decode jdk_31_method_11_code 1 = .ok (.ifnonnull 12, 3) := by decide +kernel
theorem own_d8_13 : decode jdk_31_method_11_code 13 = .ok (.aload_n 0, 1) := by decide +kernel
theorem own_d8_14 : decode jdk_31_method_11_code 14 = .ok (.areturn, 1) := by decide +kernel
theorem own_ef_rm8 (m : MethodId) (a1 : Addr) (a2 : Addr) : entryFrame m #[(.ref a1), (.ref a2)] 2 = mkF m 0 #[.val (.ref a1), .val (.ref a2)] [] := by first | (simp [entryFrame, mkF, argsToLocals, Value.category]; done) | rfl
def Q_rm8 (Z : State) (a1 : Addr) (a2 : Addr) (h0 : Heap) (n0 : Nat) (v : Option Value) (h : Heap) (L : List Loc) : Prop := v = some (.ref a1) ∧ Fr n0 L ∧ h = h0
theorem own_pn0 : plainName "java/util/Objects" = true := by first | (simp [plainName, overriddenIn]; done) | decide +kernel
set_option maxRecDepth 65536 in
set_option maxHeartbeats 40000000 in
theorem rm8 (l : Launch) (Z : State) (a0 : Array Value) (hw : ∀ d ∈ tables_1, d.before a0 Z = true) (ws : List Jvm.Cond) (a1 : Addr) (a2 : Addr) (h0 : Heap) (n0 : Nat) (O0 : Old Z n0 h0) :
    MetFree l (⟨"java/util/Objects", "requireNonNull", "(Ljava/lang/Object;Ljava/lang/String;)Ljava/lang/Object;"⟩ : MethodName) (head1 (Jvm.Cond.code (⟨"java/util/Objects", "requireNonNull", "(Ljava/lang/Object;Ljava/lang/String;)Ljava/lang/Object;"⟩ : MethodName) jdk_31_method_11_code 2 (some (.object "java/lang/Object")) :: ws) ({ frames := 0, cells := 0, slots := 0, locals := 0 } : Room)) (fun a U => a = #[(.ref a1), (.ref a2)] ∧ Z.Warmed39 U.vm ∧ U.heap = h0) (fun _ _ _ _ _ => True) (fun _ U o U' => ∃ v L, o = .returned v ∧ Q_rm8 Z a1 a2 h0 n0 v U'.heap L ∧ FrameEnd U o U' L ({ frames := 0, cells := 0, slots := 0, locals := 0 } : Room).cells ({ frames := 0, cells := 0, slots := 0, locals := 0 } : Room).slots) := by
  refine MetFree.of_bodySF (plainFor_of_name own_pn0) hisR ?_
  intro p e s m args below meth c s₁ Bd hml0 hP hK
  obtain ⟨rfl, hZ, hh⟩ := hP
  have hx := Bd.exec
  have hby := Bd.bytes
  have hml : c.maxLocals = 2 := hml0
  have hown : s.vm.findClass "java/util/Objects" = some m.cls := findClass_of_methodNamed Bd.named
  have hnm := (name_of_methodNamed Bd.named Bd.method).1
  have hlk : meth.locks = false := Bd.notSynchronized
  have X0 : Stand p l e ({ frames := 0, cells := 0, slots := 0, locals := 0 } : Room) s m #[(.ref a1), (.ref a2)] below meth c s₁ [] 0 0 := Stand.of_body Bd
  have e0 : s₁.heap = h0 := by rw [← hh, Bd.state]; rfl
  have N0 := Fr.nil n0
  suffices hgo : own_Ok p e below (own_Qx s (Q_rm8 Z a1 a2 h0 n0) 0 0) (s₁.setTop (mkF m 0 #[.val (.ref a1), .val (.ref a2)] [])) from by
    obtain ⟨s₂, o, h1, h2⟩ := hgo
    exact ⟨s₂, o, castTop (own_ef_rm8 m a1 a2) h1, h2⟩
  show own_Ok p e below _ (s₁.setTop (mkF m 0 #[.val (.ref a1), .val (.ref a2)] []))
  refine own_st (fun _ k => XS.aloadN X0.here hx rfl (hb hby own_d8_0) rfl rfl k) ?_
  show own_Ok p e below _ (s₁.setTop (mkF m 1 #[.val (.ref a1), .val (.ref a2)] [(.ref a1)]))
  refine own_st (fun _ k => XS.ifnonnullYes X0.here hx rfl (pc0 := 1) (pc' := 13) rfl (hb hby own_d8_1) rfl (by decide) (by decide) k) ?_
  show own_Ok p e below _ (s₁.setTop (mkF m 13 #[.val (.ref a1), .val (.ref a2)] []))
  refine own_st (fun _ k => XS.aloadN X0.here hx rfl (hb hby own_d8_13) rfl rfl k) ?_
  show own_Ok p e below _ (s₁.setTop (mkF m 14 #[.val (.ref a1), .val (.ref a2)] [(.ref a1)]))
  exact own_retA X0 hx hlk (t := (.object "java/lang/Object")) rfl Bd.returns rfl (hb hby own_d8_14) (by rw [e0]; exact ⟨rfl, N0, rfl⟩) (by decide) (by decide)
theorem own_d12_0 : decode prog_18_method_5_code 0 = .ok (.aload_n 0, 1) := by decide +kernel
theorem own_d12_1 : decode prog_18_method_5_code 1 = .ok (.getfield 29, 3) := by decide +kernel
theorem own_d12_4 : decode prog_18_method_5_code 4 = .ok (.areturn, 1) := by decide +kernel
theorem own_ef_rm12 (m : MethodId) (a1 : Addr) : entryFrame m #[(.ref a1)] 1 = mkF m 0 #[.val (.ref a1)] [] := by first | (simp [entryFrame, mkF, argsToLocals, Value.category]; done) | rfl
def Q_rm12 (Z : State) (a1 : Addr) (kw : Addr) (h0 : Heap) (n0 : Nat) (v : Option Value) (h : Heap) (L : List Loc) : Prop := v = some (.ref kw) ∧ Fr n0 L ∧ h = h0
theorem own_pn1 : plainName "com/example/decreed/decreed/engine/Effect" = true := by first | (simp [plainName, overriddenIn]; done) | decide +kernel
set_option maxRecDepth 65536 in
set_option maxHeartbeats 40000000 in
theorem rm12 (l : Launch) (Z : State) (a0 : Array Value) (hw : ∀ d ∈ tables_1, d.before a0 Z = true) (ws : List Jvm.Cond) (a1 : Addr) (kw : Addr) (h0 : Heap) (n0 : Nat) (O0 : Old Z n0 h0) (F1 : Fld Z h0 a1 "com/example/decreed/decreed/engine/Effect" "keyword" "Ljava/lang/String;" (.ref kw)) :
    MetFree l (⟨"com/example/decreed/decreed/engine/Effect", "toString", "()Ljava/lang/String;"⟩ : MethodName) (head1 (Jvm.Cond.code (⟨"com/example/decreed/decreed/engine/Effect", "toString", "()Ljava/lang/String;"⟩ : MethodName) prog_18_method_5_code 1 (some (.object "java/lang/String")) :: ws) ({ frames := 0, cells := 0, slots := 0, locals := 0 } : Room)) (fun a U => a = #[(.ref a1)] ∧ Z.Warmed39 U.vm ∧ U.heap = h0) (fun _ _ _ _ _ => True) (fun _ U o U' => ∃ v L, o = .returned v ∧ Q_rm12 Z a1 kw h0 n0 v U'.heap L ∧ FrameEnd U o U' L ({ frames := 0, cells := 0, slots := 0, locals := 0 } : Room).cells ({ frames := 0, cells := 0, slots := 0, locals := 0 } : Room).slots) := by
  refine MetFree.of_bodySF (plainFor_of_name own_pn1) hisR ?_
  intro p e s m args below meth c s₁ Bd hml0 hP hK
  obtain ⟨rfl, hZ, hh⟩ := hP
  have hx := Bd.exec
  have hby := Bd.bytes
  have hml : c.maxLocals = 1 := hml0
  have hown : s.vm.findClass "com/example/decreed/decreed/engine/Effect" = some m.cls := findClass_of_methodNamed Bd.named
  have hnm := (name_of_methodNamed Bd.named Bd.method).1
  have hlk : meth.locks = false := Bd.notSynchronized
  have X0 : Stand p l e ({ frames := 0, cells := 0, slots := 0, locals := 0 } : Room) s m #[(.ref a1)] below meth c s₁ [] 0 0 := Stand.of_body Bd
  have e0 : s₁.heap = h0 := by rw [← hh, Bd.state]; rfl
  have N0 := Fr.nil n0
  suffices hgo : own_Ok p e below (own_Qx s (Q_rm12 Z a1 kw h0 n0) 0 0) (s₁.setTop (mkF m 0 #[.val (.ref a1)] [])) from by
    obtain ⟨s₂, o, h1, h2⟩ := hgo
    exact ⟨s₂, o, castTop (own_ef_rm12 m a1) h1, h2⟩
  show own_Ok p e below _ (s₁.setTop (mkF m 0 #[.val (.ref a1)] []))
  refine own_st (fun _ k => XS.aloadN X0.here hx rfl (hb hby own_d12_0) rfl rfl k) ?_
  show own_Ok p e below _ (s₁.setTop (mkF m 1 #[.val (.ref a1)] [(.ref a1)]))
  obtain ⟨T101, X101, e101, st101⟩ := getF X0 hx hZ hown (host := "") (Or.inl (hw _ (List.mem_of_getElem? (i := 58) rfl))) Via.refl e0 F1 (g := (mkF m 1 #[.val (.ref a1)] [(.ref a1)])) rfl rfl (hb hby own_d12_1)
  refine own_st st101 ?_
  show own_Ok p e below _ (T101.setTop (mkF m 4 #[.val (.ref a1)] [(.ref kw)]))
  exact own_retA X101 hx hlk (t := (.object "java/lang/String")) rfl Bd.returns rfl (hb hby own_d12_4) (by rw [e101]; exact ⟨rfl, N0, rfl⟩) (by decide) (by decide)
theorem own_d9_0 : decode prog_18_method_1_code 0 = .ok (.getstatic 10, 3) := by decide +kernel
theorem own_d9_3 : decode prog_18_method_1_code 3 = .ok (.invokevirtual 14, 3) := by decide +kernel
theorem own_d9_6 : decode prog_18_method_1_code 6 = .ok (.checkcast 15, 3) := by decide +kernel
theorem own_d9_9 : decode prog_18_method_1_code 9 = .ok (.areturn, 1) := by decide +kernel
theorem own_ef_rm9 (m : MethodId) : entryFrame m #[] 0 = mkF m 0 #[] [] := by first | (simp [entryFrame, mkF, argsToLocals, Value.category]; done) | rfl
def Q_rm9 (Z : State) (G1 : Int32) (va : Addr) (clv : Cell) (al : Addr) (de : Addr) (ka : Addr) (kd : Addr) (ta : Addr) (td : Addr) (cka : ClassId) (ckd : ClassId) (h0 : Heap) (n0 : Nat) (v : Option Value) (h : Heap) (L : List Loc) : Prop := ∃ (bv : Addr), v = some (.ref bv) ∧ Fr n0 L ∧ Keep h0 h [] ∧ Arv Z h bv clv.cls (.object "com/example/decreed/decreed/engine/Effect") (2 : Int32) [(.ref al), (.ref de)] .null ∧ h0.size ≤ bv
set_option maxRecDepth 65536 in
set_option maxHeartbeats 40000000 in
theorem rm9 (l : Launch) (Z : State) (a0 : Array Value) (hw : ∀ d ∈ tables_1, d.before a0 Z = true) (ws : List Jvm.Cond) (G1 : Int32) (va : Addr) (clv : Cell) (al : Addr) (de : Addr) (ka : Addr) (kd : Addr) (ta : Addr) (td : Addr) (cka : ClassId) (ckd : ClassId) (h0 : Heap) (n0 : Nat) (O0 : Old Z n0 h0) (SG1 : Sta Z Z.heap "java/lang/String" "COMPACT_STRINGS" "Z" (.int G1)) (PG1 : ¬ (G1 = (0 : Int32))) (SV : Sta Z Z.heap "com/example/decreed/decreed/engine/Effect" "$VALUES" "[Lcom/example/decreed/decreed/engine/Effect;" (.ref va)) (AV : Arr Z Z.heap va clv (.object "com/example/decreed/decreed/engine/Effect")) (EVx : Exa Z Z.heap va "[Lcom/example/decreed/decreed/engine/Effect;") (FV : FitC Z clv) (hsv : clv.slots.size = 2) (hv0 : clv.slots[0]? = some (.ref al)) (hv1 : clv.slots[1]? = some (.ref de)) (SA : Sta Z Z.heap "com/example/decreed/decreed/engine/Effect" "ALLOW" "Lcom/example/decreed/decreed/engine/Effect;" (.ref al)) (SD : Sta Z Z.heap "com/example/decreed/decreed/engine/Effect" "DENY" "Lcom/example/decreed/decreed/engine/Effect;" (.ref de)) (EA : Exa Z Z.heap al "com/example/decreed/decreed/engine/Effect") (ED : Exa Z Z.heap de "com/example/decreed/decreed/engine/Effect") (FA : Fld Z Z.heap al "com/example/decreed/decreed/engine/Effect" "keyword" "Ljava/lang/String;" (.ref ka)) (FD : Fld Z Z.heap de "com/example/decreed/decreed/engine/Effect" "keyword" "Ljava/lang/String;" (.ref kd)) (EkA : Exa Z Z.heap ka "java/lang/String") (CkA : Fld Z Z.heap ka "java/lang/String" "coder" "B" (.int (0 : Int32))) (VkA : Fld Z Z.heap ka "java/lang/String" "value" "[B" (.ref ta)) (BkA : Arv Z Z.heap ta cka .byte (5 : Int32) ((([97, 108, 108, 111, 119] : List Int32).map (fun c => c.toInt8.toInt32)).map Value.int) (.int (0 : Int32))) (EkD : Exa Z Z.heap kd "java/lang/String") (CkD : Fld Z Z.heap kd "java/lang/String" "coder" "B" (.int (0 : Int32))) (VkD : Fld Z Z.heap kd "java/lang/String" "value" "[B" (.ref td)) (BkD : Arv Z Z.heap td ckd .byte (4 : Int32) ((([100, 101, 110, 121] : List Int32).map (fun c => c.toInt8.toInt32)).map Value.int) (.int (0 : Int32))) :
    MetFree l (⟨"com/example/decreed/decreed/engine/Effect", "values", "()[Lcom/example/decreed/decreed/engine/Effect;"⟩ : MethodName) (head1 (Jvm.Cond.code (⟨"com/example/decreed/decreed/engine/Effect", "values", "()[Lcom/example/decreed/decreed/engine/Effect;"⟩ : MethodName) prog_18_method_1_code 0 (some (.array (.object "com/example/decreed/decreed/engine/Effect"))) :: ws) ({ frames := 1, cells := 1, slots := 2, locals := 14 } : Room)) (fun a U => a = #[] ∧ Z.Warmed39 U.vm ∧ U.heap = h0) (fun _ _ _ _ _ => True) (fun _ U o U' => ∃ v L, o = .returned v ∧ Q_rm9 Z G1 va clv al de ka kd ta td cka ckd h0 n0 v U'.heap L ∧ FrameEnd U o U' L ({ frames := 1, cells := 1, slots := 2, locals := 14 } : Room).cells ({ frames := 1, cells := 1, slots := 2, locals := 14 } : Room).slots) := by
  refine MetFree.of_bodySF (plainFor_of_name own_pn1) hisR ?_
  intro p e s m args below meth c s₁ Bd hml0 hP hK
  obtain ⟨rfl, hZ, hh⟩ := hP
  have hx := Bd.exec
  have hby := Bd.bytes
  have hml : c.maxLocals = 0 := hml0
  have hown : s.vm.findClass "com/example/decreed/decreed/engine/Effect" = some m.cls := findClass_of_methodNamed Bd.named
  have hnm := (name_of_methodNamed Bd.named Bd.method).1
  have hlk : meth.locks = false := Bd.notSynchronized
  have X0 : Stand p l e ({ frames := 1, cells := 1, slots := 2, locals := 14 } : Room) s m #[] below meth c s₁ [] 0 0 := Stand.of_body Bd
  have e0 : s₁.heap = h0 := by rw [← hh, Bd.state]; rfl
  have N0 := Fr.nil n0
  suffices hgo : own_Ok p e below (own_Qx s (Q_rm9 Z G1 va clv al de ka kd ta td cka ckd h0 n0) 1 2) (s₁.setTop (mkF m 0 #[] [])) from by
    obtain ⟨s₂, o, h1, h2⟩ := hgo
    exact ⟨s₂, o, castTop (own_ef_rm9 m) h1, h2⟩
  show own_Ok p e below _ (s₁.setTop (mkF m 0 #[] []))
  obtain ⟨T101, X101, e101, st101⟩ := getS2 X0 hx hZ hown (host := "") (Or.inl (hw _ (List.mem_of_getElem? (i := 44) rfl))) Via.refl e0 (SV.ext O0.2) (g := (mkF m 0 #[] [])) rfl (hb hby own_d9_0)
  refine own_st st101 ?_
  show own_Ok p e below _ (T101.setTop (mkF m 3 #[] [(.ref va)]))
  obtain ⟨T102, h102, X102, e102, E102, A102, Z102, st102⟩ := cloneA X101 hx hZ hown (hw _ (List.mem_of_getElem? (i := 46) rfl)) (hw _ (List.mem_of_getElem? (i := 47) rfl)) (hw _ (List.mem_of_getElem? (i := 51) rfl)) (hw _ (List.mem_of_getElem? (i := 49) rfl)) (hw _ (List.mem_of_getElem? (i := 50) rfl)) (hw _ (List.mem_of_getElem? (i := 52) rfl)) e101 (AV.ext O0.2) (EVx.ext O0.2) FV (g := (mkF m 3 #[] [(.ref va)])) rfl (by rw [hml]; rfl) rfl (hb hby own_d9_3) (by decide) (W := 0) (cap := 2) (by show 2 * 0 + _ ≤ _; exact Nat.le_of_eq rfl) (by decide) (Nat.le_of_eq hsv) (by decide) (by decide)
  obtain ⟨b102, g102⟩ : ∃ z, z = h0.size := ⟨_, rfl⟩
  rw [← g102] at A102 Z102 st102
  refine own_st st102 ?_
  have gb_b102 : n0 ≤ b102 := Nat.le_trans (own_n0 O0) (Nat.le_of_eq g102.symm)
  have gz_b102 : h0.size ≤ b102 := Nat.le_trans (Keep.refl h0 []).1 (Nat.le_of_eq g102.symm)
  have ne_al_b102 : al ≠ b102 := Old.ne O0 EA.lt gb_b102
  have ne_de_b102 : de ≠ b102 := Old.ne O0 ED.lt gb_b102
  have ne_ka_b102 : ka ≠ b102 := Old.ne O0 EkA.lt gb_b102
  have ne_ta_b102 : ta ≠ b102 := Old.ne O0 BkA.lt gb_b102
  have ne_kd_b102 : kd ≠ b102 := Old.ne O0 EkD.lt gb_b102
  have ne_td_b102 : td ≠ b102 := Old.ne O0 BkD.lt gb_b102
  have V102 := own_arv2 A102 hsv hv0 hv1
  show own_Ok p e below _ (T102.setTop (mkF m 6 #[] [(.ref b102)]))
  obtain ⟨T103, X103, e103, st103⟩ := castY X102 hx hZ hown (hw _ (List.mem_of_getElem? (i := 56) rfl)) e102 (Ins.self Z102) (g := (mkF m 6 #[] [(.ref b102)])) rfl rfl (hb hby own_d9_6)
  refine own_st st103 ?_
  show own_Ok p e below _ (T103.setTop (mkF m 9 #[] [(.ref b102)]))
  have f104 := (Keep.refl h0 []).ext E102
  exact own_retA X103 hx hlk (t := (.array (.object "com/example/decreed/decreed/engine/Effect"))) rfl Bd.returns rfl (hb hby own_d9_9) (by rw [e103]; exact ⟨b102, rfl, N0, f104, V102, gz_b102⟩) (by decide) (by decide)
theorem own_d7_0 : decode prog_18_method_4_code 0 = .ok (.aload_n 0, 1) := by decide +kernel
theorem own_d7_1 : decode prog_18_method_4_code 1 = .ok (.ldc 33, 2) := by decide +kernel
theorem own_d7_3 : decode prog_18_method_4_code 3 = .ok (.invokestatic 34, 3) := by decide +kernel
theorem own_pd0 : parseMethodDescriptor "(Ljava/lang/Object;Ljava/lang/String;)Ljava/lang/Object;" = some ⟨[(.object "java/lang/Object"), (.object "java/lang/String")], some (.object "java/lang/Object")⟩ := by decide +kernel
theorem own_d7_6 : decode prog_18_method_4_code 6 = .ok (.pop, 1) := by decide +kernel
theorem own_d7_7 : decode prog_18_method_4_code 7 = .ok (.invokestatic 40, 3) := by decide +kernel
theorem own_pd1 : parseMethodDescriptor "()[Lcom/example/decreed/decreed/engine/Effect;" = some ⟨[], some (.array (.object "com/example/decreed/decreed/engine/Effect"))⟩ := by decide +kernel
theorem own_d7_10 : decode prog_18_method_4_code 10 = .ok (.astore_n 1, 1) := by decide +kernel
theorem own_d7_11 : decode prog_18_method_4_code 11 = .ok (.aload_n 1, 1) := by decide +kernel
theorem own_d7_12 : decode prog_18_method_4_code 12 = .ok (.arraylength, 1) := by decide +kernel
theorem own_d7_13 : decode prog_18_method_4_code 13 = .ok (.istore_n 2, 1) := by decide +kernel
theorem own_d7_14 : decode prog_18_method_4_code 14 = .ok (.iconst 0, 1) := by decide +kernel
theorem own_d7_15 : decode prog_18_method_4_code 15 = .ok (.istore_n 3, 1) := by decide +kernel
theorem own_d7_16 : decode prog_18_method_4_code 16 = .ok (.iload_n 3, 1) := by decide +kernel
theorem own_d7_17 : decode prog_18_method_4_code 17 = .ok (.iload_n 2, 1) := by decide +kernel
theorem own_d7_18 : decode prog_18_method_4_code 18 = .ok (.if_icmp .ge 29, 3) := by decide +kernel
theorem own_d7_21 : decode prog_18_method_4_code 21 = .ok (.aload_n 1, 1) := by decide +kernel
theorem own_d7_22 : decode prog_18_method_4_code 22 = .ok (.iload_n 3, 1) := by decide +kernel
theorem own_d7_23 : decode prog_18_method_4_code 23 = .ok (.aaload, 1) := by decide +kernel
theorem own_d7_24 : decode prog_18_method_4_code 24 = .ok (.astore 4, 2) := by decide +kernel
theorem own_d7_26 : decode prog_18_method_4_code 26 = .ok (.aload 4, 2) := by decide +kernel
theorem own_d7_28 : decode prog_18_method_4_code 28 = .ok (.getfield 29, 3) := by decide +kernel
theorem own_d7_31 : decode prog_18_method_4_code 31 = .ok (.aload_n 0, 1) := by decide +kernel
theorem own_d7_32 : decode prog_18_method_4_code 32 = .ok (.invokevirtual 44, 3) := by decide +kernel
theorem own_pd2 : parseMethodDescriptor "(Ljava/lang/Object;)Z" = some ⟨[(.object "java/lang/Object")], some .boolean⟩ := by decide +kernel
theorem own_d7_35 : decode prog_18_method_4_code 35 = .ok (.ifCond .eq 6, 3) := by decide +kernel
theorem own_d7_38 : decode prog_18_method_4_code 38 = .ok (.aload 4, 2) := by decide +kernel
theorem own_d7_40 : decode prog_18_method_4_code 40 = .ok (.areturn, 1) := by decide +kernel
theorem own_ef_rm_parseA (m : MethodId) (a1 : Addr) : entryFrame m #[(.ref a1)] 5 = mkF m 0 #[.val (.ref a1), .unset, .unset, .unset, .unset] [] := by first | (simp [entryFrame, mkF, argsToLocals, Value.category]; done) | rfl
def Q_rm_parseA (Z : State) (G1 : Int32) (va : Addr) (clv : Cell) (al : Addr) (de : Addr) (ka : Addr) (kd : Addr) (ta : Addr) (td : Addr) (cka : ClassId) (ckd : ClassId) (a1 : Addr) (t1 : Addr) (k1 : ClassId) (h0 : Heap) (n0 : Nat) (v : Option Value) (h : Heap) (L : List Loc) : Prop := v = some (.ref al) ∧ Fr n0 L ∧ Keep h0 h []
set_option maxRecDepth 65536 in
set_option maxHeartbeats 40000000 in
theorem rm_parseA (l : Launch) (Z : State) (a0 : Array Value) (hw : ∀ d ∈ tables_1, d.before a0 Z = true) (ws : List Jvm.Cond) (G1 : Int32) (va : Addr) (clv : Cell) (al : Addr) (de : Addr) (ka : Addr) (kd : Addr) (ta : Addr) (td : Addr) (cka : ClassId) (ckd : ClassId) (a1 : Addr) (t1 : Addr) (k1 : ClassId) (h0 : Heap) (n0 : Nat) (O0 : Old Z n0 h0) (SG1 : Sta Z Z.heap "java/lang/String" "COMPACT_STRINGS" "Z" (.int G1)) (PG1 : ¬ (G1 = (0 : Int32))) (SV : Sta Z Z.heap "com/example/decreed/decreed/engine/Effect" "$VALUES" "[Lcom/example/decreed/decreed/engine/Effect;" (.ref va)) (AV : Arr Z Z.heap va clv (.object "com/example/decreed/decreed/engine/Effect")) (EVx : Exa Z Z.heap va "[Lcom/example/decreed/decreed/engine/Effect;") (FV : FitC Z clv) (hsv : clv.slots.size = 2) (hv0 : clv.slots[0]? = some (.ref al)) (hv1 : clv.slots[1]? = some (.ref de)) (SA : Sta Z Z.heap "com/example/decreed/decreed/engine/Effect" "ALLOW" "Lcom/example/decreed/decreed/engine/Effect;" (.ref al)) (SD : Sta Z Z.heap "com/example/decreed/decreed/engine/Effect" "DENY" "Lcom/example/decreed/decreed/engine/Effect;" (.ref de)) (EA : Exa Z Z.heap al "com/example/decreed/decreed/engine/Effect") (ED : Exa Z Z.heap de "com/example/decreed/decreed/engine/Effect") (FA : Fld Z Z.heap al "com/example/decreed/decreed/engine/Effect" "keyword" "Ljava/lang/String;" (.ref ka)) (FD : Fld Z Z.heap de "com/example/decreed/decreed/engine/Effect" "keyword" "Ljava/lang/String;" (.ref kd)) (EkA : Exa Z Z.heap ka "java/lang/String") (CkA : Fld Z Z.heap ka "java/lang/String" "coder" "B" (.int (0 : Int32))) (VkA : Fld Z Z.heap ka "java/lang/String" "value" "[B" (.ref ta)) (BkA : Arv Z Z.heap ta cka .byte (5 : Int32) ((([97, 108, 108, 111, 119] : List Int32).map (fun c => c.toInt8.toInt32)).map Value.int) (.int (0 : Int32))) (EkD : Exa Z Z.heap kd "java/lang/String") (CkD : Fld Z Z.heap kd "java/lang/String" "coder" "B" (.int (0 : Int32))) (VkD : Fld Z Z.heap kd "java/lang/String" "value" "[B" (.ref td)) (BkD : Arv Z Z.heap td ckd .byte (4 : Int32) ((([100, 101, 110, 121] : List Int32).map (fun c => c.toInt8.toInt32)).map Value.int) (.int (0 : Int32))) (E1 : Exa Z h0 a1 "java/lang/String") (C1 : Fld Z h0 a1 "java/lang/String" "coder" "B" (.int (0 : Int32))) (V1 : Fld Z h0 a1 "java/lang/String" "value" "[B" (.ref t1)) (B1 : Arv Z h0 t1 k1 .byte (5 : Int32) ((([97, 108, 108, 111, 119] : List Int32).map (fun c => c.toInt8.toInt32)).map Value.int) (.int (0 : Int32))) :
    MetFree l (⟨"com/example/decreed/decreed/engine/Effect", "parse", "(Ljava/lang/String;)Lcom/example/decreed/decreed/engine/Effect;"⟩ : MethodName) (head1 (Jvm.Cond.code (⟨"com/example/decreed/decreed/engine/Effect", "parse", "(Ljava/lang/String;)Lcom/example/decreed/decreed/engine/Effect;"⟩ : MethodName) prog_18_method_4_code 5 (some (.object "com/example/decreed/decreed/engine/Effect")) :: ws) ({ frames := 2, cells := 3, slots := 34, locals := 28 } : Room)) (fun a U => a = #[(.ref a1)] ∧ Z.Warmed39 U.vm ∧ U.heap = h0) (fun _ _ _ _ _ => True) (fun _ U o U' => ∃ v L, o = .returned v ∧ Q_rm_parseA Z G1 va clv al de ka kd ta td cka ckd a1 t1 k1 h0 n0 v U'.heap L ∧ ReturnedEndW U o U' L ({ frames := 2, cells := 3, slots := 34, locals := 28 } : Room).cells ({ frames := 2, cells := 3, slots := 34, locals := 28 } : Room).slots) := by
  refine MetFree.of_bodySF (plainFor_of_name own_pn1) hisR ?_
  intro p e s m args below meth c s₁ Bd hml0 hP hK
  obtain ⟨rfl, hZ, hh⟩ := hP
  have hx := Bd.exec
  have hby := Bd.bytes
  have hml : c.maxLocals = 5 := hml0
  have hown : s.vm.findClass "com/example/decreed/decreed/engine/Effect" = some m.cls := findClass_of_methodNamed Bd.named
  have hnm := (name_of_methodNamed Bd.named Bd.method).1
  have hlk : meth.locks = false := Bd.notSynchronized
  have X0 : Stand p l e ({ frames := 2, cells := 3, slots := 34, locals := 28 } : Room) (s.setVm s.vm) m #[(.ref a1)] below meth c s₁ [] 0 0 := Stand.of_body Bd
  have hS : s.Since s.vm 0 := (State.WarmedH.refl s).since 0
  have hk0 : 0 ≤ h0.size := Nat.zero_le _
  have e0 : s₁.heap = h0 := by rw [← hh, Bd.state]; rfl
  have N0 := Fr.nil n0
  suffices hgo : own_Ok p e below (own_QxW s (Q_rm_parseA Z G1 va clv al de ka kd ta td cka ckd a1 t1 k1 h0 n0) 3 34) (s₁.setTop (mkF m 0 #[.val (.ref a1), .unset, .unset, .unset, .unset] [])) from by
    obtain ⟨s₂, o, h1, h2⟩ := hgo
    exact ⟨s₂, o, castTop (own_ef_rm_parseA m a1) h1, h2⟩
  have hwS : ∀ d ∈ Bundle.stringAtoms, d.before a0 Z = true := fun d hd => hw d ((by decide +kernel : ∀ d ∈ Bundle.stringAtoms, d ∈ tables_1) d hd)
  have heq : ∀ d ∈ StrChars.Road.wordsEq, d.before a0 Z = true := fun d hd => hw d ((by decide +kernel : ∀ d ∈ StrChars.Road.wordsEq, d ∈ tables_1) d hd)
  show own_Ok p e below _ (s₁.setTop (mkF m 0 #[.val (.ref a1), .unset, .unset, .unset, .unset] []))
  refine own_st (fun _ k => XS.aloadN X0.here hx rfl (hb hby own_d7_0) rfl rfl k) ?_
  show own_Ok p e below _ (s₁.setTop (mkF m 1 #[.val (.ref a1), .unset, .unset, .unset, .unset] [(.ref a1)]))
  obtain ⟨aS101, T101, h101, kk101, X101, e101, E101, hS101, hk101, hZ101, hown101, st101⟩ := ldcS X0 hx hZ hown (hw _ (List.mem_of_getElem? (i := 34) rfl)) hwS e0 hS hk0 (g := (mkF m 1 #[.val (.ref a1), .unset, .unset, .unset, .unset] [(.ref a1)])) rfl (hb hby own_d7_1) (n := 28) (by decide) (by decide) (by decide) (by decide)
  refine own_st st101 ?_
  show own_Ok p e below _ (T101.setTop (mkF m 3 #[.val (.ref a1), .unset, .unset, .unset, .unset] [(.ref aS101), (.ref a1)]))
  have f103 := O0.ext E101
  obtain ⟨_, _, ⟨T102, L102, k102, n102⟩, -, X102, ⟨Lc102, hQ102, l102, y102, z102⟩, st102⟩ := Jvm.LawKit.callS X101 hx (y := (⟨"java/util/Objects", "requireNonNull", "(Ljava/lang/Object;Ljava/lang/String;)Ljava/lang/Object;"⟩ : MethodName)) hown101 (mvT hZ101 (hw _ (List.mem_of_getElem? (i := 37) rfl))) (mvT hZ101 (hw _ (List.mem_of_getElem? (i := 38) rfl))) (mvT hZ101 (hw _ (List.mem_of_getElem? (i := 39) rfl))) (mvT hZ101 (hw _ (List.mem_of_getElem? (i := 40) rfl))) (by decide) (backOf (W := 0) (rm8 l Z a0 hw [] a1 aS101 h101 n0 f103) hZ101 (hw _ (List.mem_of_getElem? (i := 40) rfl)) (hw _ (List.mem_of_getElem? (i := 39) rfl)) (by decide) (by decide)) (g := (mkF m 3 #[.val (.ref a1), .unset, .unset, .unset, .unset] [(.ref aS101), (.ref a1)])) rfl (by rw [hml]; rfl) (argsL := [(.ref a1), (.ref aS101)]) (rest := []) (lenOf own_pd0 rfl) rfl (by show 2 * 0 + _ ≤ _; exact Nat.le_of_eq rfl) (hb hby own_d7_3) (fun _ _ => ⟨rfl, e101, (by decide : 2 + 0 ≤ _), (by decide : 32 + 0 ≤ _)⟩)
  dsimp only [Pt.U, Pt.locs, Pt.cells, Pt.slots] at X102 l102 y102 z102 st102 hQ102
  subst l102 y102 z102
  obtain ⟨rfl, Nq102, e102⟩ := hQ102
  have N102 := Fr.app N0 Nq102
  refine own_st st102 ?_
  show own_Ok p e below _ (T102.setTop (mkF m 6 #[.val (.ref a1), .unset, .unset, .unset, .unset] [(.ref a1)]))
  refine own_st (fun _ k => XS.pop X102.here hx rfl (hb hby own_d7_6) rfl rfl k) ?_
  show own_Ok p e below _ (T102.setTop (mkF m 7 #[.val (.ref a1), .unset, .unset, .unset, .unset] []))
  obtain ⟨_, _, ⟨T104, L104, k104, n104⟩, -, X104, ⟨Lc104, hQ104, l104, y104, z104⟩, st104⟩ := Jvm.LawKit.callS X102 hx (y := (⟨"com/example/decreed/decreed/engine/Effect", "values", "()[Lcom/example/decreed/decreed/engine/Effect;"⟩ : MethodName)) hown101 (mvT hZ101 (hw _ (List.mem_of_getElem? (i := 41) rfl))) (mvT hZ101 (hw _ (List.mem_of_getElem? (i := 42) rfl))) (mvT hZ101 (hw _ (List.mem_of_getElem? (i := 32) rfl))) (mvT hZ101 (hw _ (List.mem_of_getElem? (i := 43) rfl))) (by decide) (backOf (W := 0) (rm9 l Z a0 hw [] G1 va clv al de ka kd ta td cka ckd h101 n0 f103 SG1 PG1 SV AV EVx FV hsv hv0 hv1 SA SD EA ED FA FD EkA CkA VkA BkA EkD CkD VkD BkD) hZ101 (hw _ (List.mem_of_getElem? (i := 43) rfl)) (hw _ (List.mem_of_getElem? (i := 32) rfl)) (by decide) (by decide)) (g := (mkF m 7 #[.val (.ref a1), .unset, .unset, .unset, .unset] [])) rfl (by rw [hml]; rfl) (argsL := []) (rest := []) (lenOf own_pd1 rfl) rfl (by show 2 * 0 + _ ≤ _; exact Nat.le_of_eq rfl) (hb hby own_d7_7) (fun _ _ => ⟨rfl, e102, (by decide : 2 + 1 ≤ _), (by decide : 32 + 2 ≤ _)⟩)
  dsimp only [Pt.U, Pt.locs, Pt.cells, Pt.slots] at X104 l104 y104 z104 st104 hQ104
  subst l104 y104 z104
  obtain ⟨bv_104, rfl, Nq104, K104, g104_0, gs_bv_104⟩ := hQ104
  have N104 := Fr.app N102 Nq104
  refine own_st st104 ?_
  have gb_bv_104 : n0 ≤ bv_104 := Nat.le_trans (own_n0 f103) gs_bv_104
  have f105 := (Keep.refl h0 []).ext E101
  have gz_bv_104 : h0.size ≤ bv_104 := Nat.le_trans f105.1 gs_bv_104
  have f106 := E1.ext E101
  have ne_a1_bv_104 : a1 ≠ bv_104 := Nat.ne_of_lt (Nat.lt_of_lt_of_le f106.lt gs_bv_104)
  have f107 := B1.ext E101
  have ne_t1_bv_104 : t1 ≠ bv_104 := Nat.ne_of_lt (Nat.lt_of_lt_of_le f107.lt gs_bv_104)
  have ne_al_bv_104 : al ≠ bv_104 := Old.ne f103 EA.lt gb_bv_104
  have ne_de_bv_104 : de ≠ bv_104 := Old.ne f103 ED.lt gb_bv_104
  have ne_ka_bv_104 : ka ≠ bv_104 := Old.ne f103 EkA.lt gb_bv_104
  have ne_ta_bv_104 : ta ≠ bv_104 := Old.ne f103 BkA.lt gb_bv_104
  have ne_kd_bv_104 : kd ≠ bv_104 := Old.ne f103 EkD.lt gb_bv_104
  have ne_td_bv_104 : td ≠ bv_104 := Old.ne f103 BkD.lt gb_bv_104
  have e104 : T104.heap = T104.heap := rfl
  show own_Ok p e below _ (T104.setTop (mkF m 10 #[.val (.ref a1), .unset, .unset, .unset, .unset] [(.ref bv_104)]))
  refine own_st (fun _ k => XS.astoreN X104.here hx rfl (hb hby own_d7_10) rfl rfl (l' := #[.val (.ref a1), .val (.ref bv_104), .unset, .unset, .unset]) rfl k) ?_
  show own_Ok p e below _ (T104.setTop (mkF m 11 #[.val (.ref a1), .val (.ref bv_104), .unset, .unset, .unset] []))
  refine own_st (fun _ k => XS.aloadN X104.here hx rfl (hb hby own_d7_11) rfl rfl k) ?_
  show own_Ok p e below _ (T104.setTop (mkF m 12 #[.val (.ref a1), .val (.ref bv_104), .unset, .unset, .unset] [(.ref bv_104)]))
  refine own_st (own_len X104 hx hZ101 e104 g104_0 (g := (mkF m 12 #[.val (.ref a1), .val (.ref bv_104), .unset, .unset, .unset] [(.ref bv_104)])) rfl rfl (hb hby own_d7_12)) ?_
  show own_Ok p e below _ (T104.setTop (mkF m 13 #[.val (.ref a1), .val (.ref bv_104), .unset, .unset, .unset] [(.int (2 : Int32))]))
  refine own_st (fun _ k => XS.istoreN X104.here hx rfl (hb hby own_d7_13) rfl (l' := #[.val (.ref a1), .val (.ref bv_104), .val (.int (2 : Int32)), .unset, .unset]) rfl k) ?_
  show own_Ok p e below _ (T104.setTop (mkF m 14 #[.val (.ref a1), .val (.ref bv_104), .val (.int (2 : Int32)), .unset, .unset] []))
  refine own_st (fun _ k => XS.iconst X104.here hx rfl (hb hby own_d7_14) k) ?_
  show own_Ok p e below _ (T104.setTop (mkF m 15 #[.val (.ref a1), .val (.ref bv_104), .val (.int (2 : Int32)), .unset, .unset] [(.int (0 : Int32))]))
  refine own_st (fun _ k => XS.istoreN X104.here hx rfl (hb hby own_d7_15) rfl (l' := #[.val (.ref a1), .val (.ref bv_104), .val (.int (2 : Int32)), .val (.int (0 : Int32)), .unset]) rfl k) ?_
  show own_Ok p e below _ (T104.setTop (mkF m 16 #[.val (.ref a1), .val (.ref bv_104), .val (.int (2 : Int32)), .val (.int (0 : Int32)), .unset] []))
  refine own_st (fun _ k => XS.iloadN X104.here hx rfl (hb hby own_d7_16) rfl k) ?_
  show own_Ok p e below _ (T104.setTop (mkF m 17 #[.val (.ref a1), .val (.ref bv_104), .val (.int (2 : Int32)), .val (.int (0 : Int32)), .unset] [(.int (0 : Int32))]))
  refine own_st (fun _ k => XS.iloadN X104.here hx rfl (hb hby own_d7_17) rfl k) ?_
  show own_Ok p e below _ (T104.setTop (mkF m 18 #[.val (.ref a1), .val (.ref bv_104), .val (.int (2 : Int32)), .val (.int (0 : Int32)), .unset] [(.int (2 : Int32)), (.int (0 : Int32))]))
  refine own_st (fun _ k => XS.icmpNo X104.here hx rfl (hb hby own_d7_18) rfl (XT.ii_ge_f (by decide)) k) ?_
  show own_Ok p e below _ (T104.setTop (mkF m 21 #[.val (.ref a1), .val (.ref bv_104), .val (.int (2 : Int32)), .val (.int (0 : Int32)), .unset] []))
  refine own_st (fun _ k => XS.aloadN X104.here hx rfl (hb hby own_d7_21) rfl rfl k) ?_
  show own_Ok p e below _ (T104.setTop (mkF m 22 #[.val (.ref a1), .val (.ref bv_104), .val (.int (2 : Int32)), .val (.int (0 : Int32)), .unset] [(.ref bv_104)]))
  refine own_st (fun _ k => XS.iloadN X104.here hx rfl (hb hby own_d7_22) rfl k) ?_
  show own_Ok p e below _ (T104.setTop (mkF m 23 #[.val (.ref a1), .val (.ref bv_104), .val (.int (2 : Int32)), .val (.int (0 : Int32)), .unset] [(.int (0 : Int32)), (.ref bv_104)]))
  refine own_st (own_ldR X104 hx hZ101 e104 g104_0 (by decide) (by decide) (v := (.ref al)) rfl rfl (g := (mkF m 23 #[.val (.ref a1), .val (.ref bv_104), .val (.int (2 : Int32)), .val (.int (0 : Int32)), .unset] [(.int (0 : Int32)), (.ref bv_104)])) rfl rfl (hb hby own_d7_23)) ?_
  show own_Ok p e below _ (T104.setTop (mkF m 24 #[.val (.ref a1), .val (.ref bv_104), .val (.int (2 : Int32)), .val (.int (0 : Int32)), .unset] [(.ref al)]))
  refine own_st (fun _ k => XS.astore X104.here hx rfl (hb hby own_d7_24) rfl rfl (l' := #[.val (.ref a1), .val (.ref bv_104), .val (.int (2 : Int32)), .val (.int (0 : Int32)), .val (.ref al)]) rfl k) ?_
  show own_Ok p e below _ (T104.setTop (mkF m 26 #[.val (.ref a1), .val (.ref bv_104), .val (.int (2 : Int32)), .val (.int (0 : Int32)), .val (.ref al)] []))
  refine own_st (fun _ k => XS.aload X104.here hx rfl (hb hby own_d7_26) rfl rfl k) ?_
  show own_Ok p e below _ (T104.setTop (mkF m 28 #[.val (.ref a1), .val (.ref bv_104), .val (.int (2 : Int32)), .val (.int (0 : Int32)), .val (.ref al)] [(.ref al)]))
  have f109 := f103.keep K104 all0
  obtain ⟨T108, X108, e108, st108⟩ := getF X104 hx hZ101 hown101 (host := "") (Or.inl (hw _ (List.mem_of_getElem? (i := 58) rfl))) Via.refl e104 (FA.ext f109.2) (g := (mkF m 28 #[.val (.ref a1), .val (.ref bv_104), .val (.int (2 : Int32)), .val (.int (0 : Int32)), .val (.ref al)] [(.ref al)])) rfl rfl (hb hby own_d7_28)
  refine own_st st108 ?_
  show own_Ok p e below _ (T108.setTop (mkF m 31 #[.val (.ref a1), .val (.ref bv_104), .val (.int (2 : Int32)), .val (.int (0 : Int32)), .val (.ref al)] [(.ref ka)]))
  refine own_st (fun _ k => XS.aloadN X108.here hx rfl (hb hby own_d7_31) rfl rfl k) ?_
  show own_Ok p e below _ (T108.setTop (mkF m 32 #[.val (.ref a1), .val (.ref bv_104), .val (.int (2 : Int32)), .val (.int (0 : Int32)), .val (.ref al)] [(.ref a1), (.ref ka)]))
  have f111 := f106.keep K104
  have f112 := V1.ext E101
  have f113 := f112.keep K104 nin0
  have f114 := C1.ext E101
  have f115 := f114.keep K104 nin0
  have f116 := f107.keep K104 nin0
  obtain ⟨cq110, kq110, q110a, q110b, q110c⟩ := isOf hZ101 e108 (EkA.ext f109.2)
  obtain ⟨_, _, ⟨T110, L110, k110, n110⟩, -, X110, ⟨Lc110, hQ110, l110, y110, z110⟩, st110⟩ := X108.virtualBack hx (y := (⟨"java/lang/String", "equals", "(Ljava/lang/Object;)Z"⟩ : MethodName)) (z := (⟨"java/lang/String", "equals", "(Ljava/lang/Object;)Z"⟩ : MethodName)) hown101 (mvT hZ101 (hw _ (List.mem_of_getElem? (i := 60) rfl))) (mvT hZ101 (hw _ (List.mem_of_getElem? (i := 61) rfl))) (notFace_of_selects (args := #[]) (mvT hZ101 (hw _ (List.mem_of_getElem? (i := 63) rfl)))) (mvT hZ101 (hw _ (List.mem_of_getElem? (i := 63) rfl))) (mvT hZ101 (hw _ (List.mem_of_getElem? (i := 62) rfl))) (by decide) (StrChars.Road.eqW (W := 0) hZ101 heq (kI := 4) (hw _ (List.mem_of_getElem? (i := 2) rfl)) (EkA.ext f109.2) (VkA.ext f109.2) (CkA.ext f109.2) (BkA.ext f109.2) (StrChars.Road.codOf (cs := ([97, 108, 108, 111, 119] : List Int32)) (n := 5) rfl (by decide)) (by decide : ∀ c ∈ ([97, 108, 108, 111, 119] : List Int32), ¬ c < 0 ∧ ¬ (65535 : Int32) < c) (Nat.le_of_ble_eq_true rfl) f111 f113 f115 f116 (StrChars.Road.codOf (cs := ([97, 108, 108, 111, 119] : List Int32)) (n := 5) rfl (by decide)) (by decide : ∀ c ∈ ([97, 108, 108, 111, 119] : List Int32), ¬ c < 0 ∧ ¬ (65535 : Int32) < c) (Nat.le_of_ble_eq_true rfl) (SG1.ext f109.2) PG1 (by decide) (by decide)) q110a q110c (g := (mkF m 32 #[.val (.ref a1), .val (.ref bv_104), .val (.int (2 : Int32)), .val (.int (0 : Int32)), .val (.ref al)] [(.ref a1), (.ref ka)])) rfl (by rw [hml]; rfl) (Steps.refl _) (argsL := [(.ref a1)]) (rest := []) (lenOf own_pd2 rfl) rfl (by show 2 * 0 + _ ≤ _; exact Nat.le_of_eq rfl) (hb hby own_d7_32) (fun _ _ => ⟨rfl, e108, (by decide : 3 + 0 ≤ _), (by decide : 34 + 0 ≤ _)⟩)
  dsimp only [Pt.U, Pt.locs, Pt.cells, Pt.slots] at X110 l110 y110 z110 st110 hQ110
  subst l110 y110 z110
  have hQ110 := own_eqT hQ110 rfl
  obtain ⟨rfl, rfl, e110⟩ := hQ110
  have Nq110 : Fr n0 ([] : List Loc) := Fr.nil n0
  have N110 := Fr.app N104 Nq110
  refine own_st (fun _ k => st110.trans k) ?_
  show own_Ok p e below _ (T110.setTop (mkF m 35 #[.val (.ref a1), .val (.ref bv_104), .val (.int (2 : Int32)), .val (.int (0 : Int32)), .val (.ref al)] [(.int (1 : Int32))]))
  refine own_st (fun _ k => XS.ifNo X110.here hx rfl (hb hby own_d7_35) rfl (XT.i0_eq_f (by decide)) k) ?_
  show own_Ok p e below _ (T110.setTop (mkF m 38 #[.val (.ref a1), .val (.ref bv_104), .val (.int (2 : Int32)), .val (.int (0 : Int32)), .val (.ref al)] []))
  refine own_st (fun _ k => XS.aload X110.here hx rfl (hb hby own_d7_38) rfl rfl k) ?_
  show own_Ok p e below _ (T110.setTop (mkF m 40 #[.val (.ref a1), .val (.ref bv_104), .val (.int (2 : Int32)), .val (.int (0 : Int32)), .val (.ref al)] [(.ref al)]))
  have f117 := f105.trans K104 all0
  have f118 := Nat.le_trans hk101 K104.1
  exact own_retAW X110 hS101 (by rw [e110]; exact f118) hx hlk (t := (.object "com/example/decreed/decreed/engine/Effect")) rfl Bd.returns rfl (hb hby own_d7_40) (by rw [e110]; exact ⟨rfl, N110, f117⟩) (by decide) (by decide)
theorem own_d7_41 : decode prog_18_method_4_code 41 = .ok (.iinc 3 1, 3) := by decide +kernel
theorem own_d7_44 : decode prog_18_method_4_code 44 = .ok (.goto (-28), 3) := by decide +kernel
theorem own_ef_rm_parseD (m : MethodId) (a1 : Addr) : entryFrame m #[(.ref a1)] 5 = mkF m 0 #[.val (.ref a1), .unset, .unset, .unset, .unset] [] := by first | (simp [entryFrame, mkF, argsToLocals, Value.category]; done) | rfl
def Q_rm_parseD (Z : State) (G1 : Int32) (va : Addr) (clv : Cell) (al : Addr) (de : Addr) (ka : Addr) (kd : Addr) (ta : Addr) (td : Addr) (cka : ClassId) (ckd : ClassId) (a1 : Addr) (t1 : Addr) (k1 : ClassId) (h0 : Heap) (n0 : Nat) (v : Option Value) (h : Heap) (L : List Loc) : Prop := v = some (.ref de) ∧ Fr n0 L ∧ Keep h0 h []
set_option maxRecDepth 65536 in
set_option maxHeartbeats 40000000 in
theorem rm_parseD (l : Launch) (Z : State) (a0 : Array Value) (hw : ∀ d ∈ tables_1, d.before a0 Z = true) (ws : List Jvm.Cond) (G1 : Int32) (va : Addr) (clv : Cell) (al : Addr) (de : Addr) (ka : Addr) (kd : Addr) (ta : Addr) (td : Addr) (cka : ClassId) (ckd : ClassId) (a1 : Addr) (t1 : Addr) (k1 : ClassId) (h0 : Heap) (n0 : Nat) (O0 : Old Z n0 h0) (SG1 : Sta Z Z.heap "java/lang/String" "COMPACT_STRINGS" "Z" (.int G1)) (PG1 : ¬ (G1 = (0 : Int32))) (SV : Sta Z Z.heap "com/example/decreed/decreed/engine/Effect" "$VALUES" "[Lcom/example/decreed/decreed/engine/Effect;" (.ref va)) (AV : Arr Z Z.heap va clv (.object "com/example/decreed/decreed/engine/Effect")) (EVx : Exa Z Z.heap va "[Lcom/example/decreed/decreed/engine/Effect;") (FV : FitC Z clv) (hsv : clv.slots.size = 2) (hv0 : clv.slots[0]? = some (.ref al)) (hv1 : clv.slots[1]? = some (.ref de)) (SA : Sta Z Z.heap "com/example/decreed/decreed/engine/Effect" "ALLOW" "Lcom/example/decreed/decreed/engine/Effect;" (.ref al)) (SD : Sta Z Z.heap "com/example/decreed/decreed/engine/Effect" "DENY" "Lcom/example/decreed/decreed/engine/Effect;" (.ref de)) (EA : Exa Z Z.heap al "com/example/decreed/decreed/engine/Effect") (ED : Exa Z Z.heap de "com/example/decreed/decreed/engine/Effect") (FA : Fld Z Z.heap al "com/example/decreed/decreed/engine/Effect" "keyword" "Ljava/lang/String;" (.ref ka)) (FD : Fld Z Z.heap de "com/example/decreed/decreed/engine/Effect" "keyword" "Ljava/lang/String;" (.ref kd)) (EkA : Exa Z Z.heap ka "java/lang/String") (CkA : Fld Z Z.heap ka "java/lang/String" "coder" "B" (.int (0 : Int32))) (VkA : Fld Z Z.heap ka "java/lang/String" "value" "[B" (.ref ta)) (BkA : Arv Z Z.heap ta cka .byte (5 : Int32) ((([97, 108, 108, 111, 119] : List Int32).map (fun c => c.toInt8.toInt32)).map Value.int) (.int (0 : Int32))) (EkD : Exa Z Z.heap kd "java/lang/String") (CkD : Fld Z Z.heap kd "java/lang/String" "coder" "B" (.int (0 : Int32))) (VkD : Fld Z Z.heap kd "java/lang/String" "value" "[B" (.ref td)) (BkD : Arv Z Z.heap td ckd .byte (4 : Int32) ((([100, 101, 110, 121] : List Int32).map (fun c => c.toInt8.toInt32)).map Value.int) (.int (0 : Int32))) (E1 : Exa Z h0 a1 "java/lang/String") (C1 : Fld Z h0 a1 "java/lang/String" "coder" "B" (.int (0 : Int32))) (V1 : Fld Z h0 a1 "java/lang/String" "value" "[B" (.ref t1)) (B1 : Arv Z h0 t1 k1 .byte (4 : Int32) ((([100, 101, 110, 121] : List Int32).map (fun c => c.toInt8.toInt32)).map Value.int) (.int (0 : Int32))) :
    MetFree l (⟨"com/example/decreed/decreed/engine/Effect", "parse", "(Ljava/lang/String;)Lcom/example/decreed/decreed/engine/Effect;"⟩ : MethodName) (head1 (Jvm.Cond.code (⟨"com/example/decreed/decreed/engine/Effect", "parse", "(Ljava/lang/String;)Lcom/example/decreed/decreed/engine/Effect;"⟩ : MethodName) prog_18_method_4_code 5 (some (.object "com/example/decreed/decreed/engine/Effect")) :: ws) ({ frames := 2, cells := 3, slots := 34, locals := 28 } : Room)) (fun a U => a = #[(.ref a1)] ∧ Z.Warmed39 U.vm ∧ U.heap = h0) (fun _ _ _ _ _ => True) (fun _ U o U' => ∃ v L, o = .returned v ∧ Q_rm_parseD Z G1 va clv al de ka kd ta td cka ckd a1 t1 k1 h0 n0 v U'.heap L ∧ ReturnedEndW U o U' L ({ frames := 2, cells := 3, slots := 34, locals := 28 } : Room).cells ({ frames := 2, cells := 3, slots := 34, locals := 28 } : Room).slots) := by
  refine MetFree.of_bodySF (plainFor_of_name own_pn1) hisR ?_
  intro p e s m args below meth c s₁ Bd hml0 hP hK
  obtain ⟨rfl, hZ, hh⟩ := hP
  have hx := Bd.exec
  have hby := Bd.bytes
  have hml : c.maxLocals = 5 := hml0
  have hown : s.vm.findClass "com/example/decreed/decreed/engine/Effect" = some m.cls := findClass_of_methodNamed Bd.named
  have hnm := (name_of_methodNamed Bd.named Bd.method).1
  have hlk : meth.locks = false := Bd.notSynchronized
  have X0 : Stand p l e ({ frames := 2, cells := 3, slots := 34, locals := 28 } : Room) (s.setVm s.vm) m #[(.ref a1)] below meth c s₁ [] 0 0 := Stand.of_body Bd
  have hS : s.Since s.vm 0 := (State.WarmedH.refl s).since 0
  have hk0 : 0 ≤ h0.size := Nat.zero_le _
  have e0 : s₁.heap = h0 := by rw [← hh, Bd.state]; rfl
  have N0 := Fr.nil n0
  suffices hgo : own_Ok p e below (own_QxW s (Q_rm_parseD Z G1 va clv al de ka kd ta td cka ckd a1 t1 k1 h0 n0) 3 34) (s₁.setTop (mkF m 0 #[.val (.ref a1), .unset, .unset, .unset, .unset] [])) from by
    obtain ⟨s₂, o, h1, h2⟩ := hgo
    exact ⟨s₂, o, castTop (own_ef_rm_parseD m a1) h1, h2⟩
  have hwS : ∀ d ∈ Bundle.stringAtoms, d.before a0 Z = true := fun d hd => hw d ((by decide +kernel : ∀ d ∈ Bundle.stringAtoms, d ∈ tables_1) d hd)
  have heq : ∀ d ∈ StrChars.Road.wordsEq, d.before a0 Z = true := fun d hd => hw d ((by decide +kernel : ∀ d ∈ StrChars.Road.wordsEq, d ∈ tables_1) d hd)
  show own_Ok p e below _ (s₁.setTop (mkF m 0 #[.val (.ref a1), .unset, .unset, .unset, .unset] []))
  refine own_st (fun _ k => XS.aloadN X0.here hx rfl (hb hby own_d7_0) rfl rfl k) ?_
  show own_Ok p e below _ (s₁.setTop (mkF m 1 #[.val (.ref a1), .unset, .unset, .unset, .unset] [(.ref a1)]))
  obtain ⟨aS101, T101, h101, kk101, X101, e101, E101, hS101, hk101, hZ101, hown101, st101⟩ := ldcS X0 hx hZ hown (hw _ (List.mem_of_getElem? (i := 34) rfl)) hwS e0 hS hk0 (g := (mkF m 1 #[.val (.ref a1), .unset, .unset, .unset, .unset] [(.ref a1)])) rfl (hb hby own_d7_1) (n := 28) (by decide) (by decide) (by decide) (by decide)
  refine own_st st101 ?_
  show own_Ok p e below _ (T101.setTop (mkF m 3 #[.val (.ref a1), .unset, .unset, .unset, .unset] [(.ref aS101), (.ref a1)]))
  have f103 := O0.ext E101
  obtain ⟨_, _, ⟨T102, L102, k102, n102⟩, -, X102, ⟨Lc102, hQ102, l102, y102, z102⟩, st102⟩ := Jvm.LawKit.callS X101 hx (y := (⟨"java/util/Objects", "requireNonNull", "(Ljava/lang/Object;Ljava/lang/String;)Ljava/lang/Object;"⟩ : MethodName)) hown101 (mvT hZ101 (hw _ (List.mem_of_getElem? (i := 37) rfl))) (mvT hZ101 (hw _ (List.mem_of_getElem? (i := 38) rfl))) (mvT hZ101 (hw _ (List.mem_of_getElem? (i := 39) rfl))) (mvT hZ101 (hw _ (List.mem_of_getElem? (i := 40) rfl))) (by decide) (backOf (W := 0) (rm8 l Z a0 hw [] a1 aS101 h101 n0 f103) hZ101 (hw _ (List.mem_of_getElem? (i := 40) rfl)) (hw _ (List.mem_of_getElem? (i := 39) rfl)) (by decide) (by decide)) (g := (mkF m 3 #[.val (.ref a1), .unset, .unset, .unset, .unset] [(.ref aS101), (.ref a1)])) rfl (by rw [hml]; rfl) (argsL := [(.ref a1), (.ref aS101)]) (rest := []) (lenOf own_pd0 rfl) rfl (by show 2 * 0 + _ ≤ _; exact Nat.le_of_eq rfl) (hb hby own_d7_3) (fun _ _ => ⟨rfl, e101, (by decide : 2 + 0 ≤ _), (by decide : 32 + 0 ≤ _)⟩)
  dsimp only [Pt.U, Pt.locs, Pt.cells, Pt.slots] at X102 l102 y102 z102 st102 hQ102
  subst l102 y102 z102
  obtain ⟨rfl, Nq102, e102⟩ := hQ102
  have N102 := Fr.app N0 Nq102
  refine own_st st102 ?_
  show own_Ok p e below _ (T102.setTop (mkF m 6 #[.val (.ref a1), .unset, .unset, .unset, .unset] [(.ref a1)]))
  refine own_st (fun _ k => XS.pop X102.here hx rfl (hb hby own_d7_6) rfl rfl k) ?_
  show own_Ok p e below _ (T102.setTop (mkF m 7 #[.val (.ref a1), .unset, .unset, .unset, .unset] []))
  obtain ⟨_, _, ⟨T104, L104, k104, n104⟩, -, X104, ⟨Lc104, hQ104, l104, y104, z104⟩, st104⟩ := Jvm.LawKit.callS X102 hx (y := (⟨"com/example/decreed/decreed/engine/Effect", "values", "()[Lcom/example/decreed/decreed/engine/Effect;"⟩ : MethodName)) hown101 (mvT hZ101 (hw _ (List.mem_of_getElem? (i := 41) rfl))) (mvT hZ101 (hw _ (List.mem_of_getElem? (i := 42) rfl))) (mvT hZ101 (hw _ (List.mem_of_getElem? (i := 32) rfl))) (mvT hZ101 (hw _ (List.mem_of_getElem? (i := 43) rfl))) (by decide) (backOf (W := 0) (rm9 l Z a0 hw [] G1 va clv al de ka kd ta td cka ckd h101 n0 f103 SG1 PG1 SV AV EVx FV hsv hv0 hv1 SA SD EA ED FA FD EkA CkA VkA BkA EkD CkD VkD BkD) hZ101 (hw _ (List.mem_of_getElem? (i := 43) rfl)) (hw _ (List.mem_of_getElem? (i := 32) rfl)) (by decide) (by decide)) (g := (mkF m 7 #[.val (.ref a1), .unset, .unset, .unset, .unset] [])) rfl (by rw [hml]; rfl) (argsL := []) (rest := []) (lenOf own_pd1 rfl) rfl (by show 2 * 0 + _ ≤ _; exact Nat.le_of_eq rfl) (hb hby own_d7_7) (fun _ _ => ⟨rfl, e102, (by decide : 2 + 1 ≤ _), (by decide : 32 + 2 ≤ _)⟩)
  dsimp only [Pt.U, Pt.locs, Pt.cells, Pt.slots] at X104 l104 y104 z104 st104 hQ104
  subst l104 y104 z104
  obtain ⟨bv_104, rfl, Nq104, K104, g104_0, gs_bv_104⟩ := hQ104
  have N104 := Fr.app N102 Nq104
  refine own_st st104 ?_
  have gb_bv_104 : n0 ≤ bv_104 := Nat.le_trans (own_n0 f103) gs_bv_104
  have f105 := (Keep.refl h0 []).ext E101
  have gz_bv_104 : h0.size ≤ bv_104 := Nat.le_trans f105.1 gs_bv_104
  have f106 := E1.ext E101
  have ne_a1_bv_104 : a1 ≠ bv_104 := Nat.ne_of_lt (Nat.lt_of_lt_of_le f106.lt gs_bv_104)
  have f107 := B1.ext E101
  have ne_t1_bv_104 : t1 ≠ bv_104 := Nat.ne_of_lt (Nat.lt_of_lt_of_le f107.lt gs_bv_104)
  have ne_al_bv_104 : al ≠ bv_104 := Old.ne f103 EA.lt gb_bv_104
  have ne_de_bv_104 : de ≠ bv_104 := Old.ne f103 ED.lt gb_bv_104
  have ne_ka_bv_104 : ka ≠ bv_104 := Old.ne f103 EkA.lt gb_bv_104
  have ne_ta_bv_104 : ta ≠ bv_104 := Old.ne f103 BkA.lt gb_bv_104
  have ne_kd_bv_104 : kd ≠ bv_104 := Old.ne f103 EkD.lt gb_bv_104
  have ne_td_bv_104 : td ≠ bv_104 := Old.ne f103 BkD.lt gb_bv_104
  have e104 : T104.heap = T104.heap := rfl
  show own_Ok p e below _ (T104.setTop (mkF m 10 #[.val (.ref a1), .unset, .unset, .unset, .unset] [(.ref bv_104)]))
  refine own_st (fun _ k => XS.astoreN X104.here hx rfl (hb hby own_d7_10) rfl rfl (l' := #[.val (.ref a1), .val (.ref bv_104), .unset, .unset, .unset]) rfl k) ?_
  show own_Ok p e below _ (T104.setTop (mkF m 11 #[.val (.ref a1), .val (.ref bv_104), .unset, .unset, .unset] []))
  refine own_st (fun _ k => XS.aloadN X104.here hx rfl (hb hby own_d7_11) rfl rfl k) ?_
  show own_Ok p e below _ (T104.setTop (mkF m 12 #[.val (.ref a1), .val (.ref bv_104), .unset, .unset, .unset] [(.ref bv_104)]))
  refine own_st (own_len X104 hx hZ101 e104 g104_0 (g := (mkF m 12 #[.val (.ref a1), .val (.ref bv_104), .unset, .unset, .unset] [(.ref bv_104)])) rfl rfl (hb hby own_d7_12)) ?_
  show own_Ok p e below _ (T104.setTop (mkF m 13 #[.val (.ref a1), .val (.ref bv_104), .unset, .unset, .unset] [(.int (2 : Int32))]))
  refine own_st (fun _ k => XS.istoreN X104.here hx rfl (hb hby own_d7_13) rfl (l' := #[.val (.ref a1), .val (.ref bv_104), .val (.int (2 : Int32)), .unset, .unset]) rfl k) ?_
  show own_Ok p e below _ (T104.setTop (mkF m 14 #[.val (.ref a1), .val (.ref bv_104), .val (.int (2 : Int32)), .unset, .unset] []))
  refine own_st (fun _ k => XS.iconst X104.here hx rfl (hb hby own_d7_14) k) ?_
  show own_Ok p e below _ (T104.setTop (mkF m 15 #[.val (.ref a1), .val (.ref bv_104), .val (.int (2 : Int32)), .unset, .unset] [(.int (0 : Int32))]))
  refine own_st (fun _ k => XS.istoreN X104.here hx rfl (hb hby own_d7_15) rfl (l' := #[.val (.ref a1), .val (.ref bv_104), .val (.int (2 : Int32)), .val (.int (0 : Int32)), .unset]) rfl k) ?_
  show own_Ok p e below _ (T104.setTop (mkF m 16 #[.val (.ref a1), .val (.ref bv_104), .val (.int (2 : Int32)), .val (.int (0 : Int32)), .unset] []))
  refine own_st (fun _ k => XS.iloadN X104.here hx rfl (hb hby own_d7_16) rfl k) ?_
  show own_Ok p e below _ (T104.setTop (mkF m 17 #[.val (.ref a1), .val (.ref bv_104), .val (.int (2 : Int32)), .val (.int (0 : Int32)), .unset] [(.int (0 : Int32))]))
  refine own_st (fun _ k => XS.iloadN X104.here hx rfl (hb hby own_d7_17) rfl k) ?_
  show own_Ok p e below _ (T104.setTop (mkF m 18 #[.val (.ref a1), .val (.ref bv_104), .val (.int (2 : Int32)), .val (.int (0 : Int32)), .unset] [(.int (2 : Int32)), (.int (0 : Int32))]))
  refine own_st (fun _ k => XS.icmpNo X104.here hx rfl (hb hby own_d7_18) rfl (XT.ii_ge_f (by decide)) k) ?_
  show own_Ok p e below _ (T104.setTop (mkF m 21 #[.val (.ref a1), .val (.ref bv_104), .val (.int (2 : Int32)), .val (.int (0 : Int32)), .unset] []))
  refine own_st (fun _ k => XS.aloadN X104.here hx rfl (hb hby own_d7_21) rfl rfl k) ?_
  show own_Ok p e below _ (T104.setTop (mkF m 22 #[.val (.ref a1), .val (.ref bv_104), .val (.int (2 : Int32)), .val (.int (0 : Int32)), .unset] [(.ref bv_104)]))
  refine own_st (fun _ k => XS.iloadN X104.here hx rfl (hb hby own_d7_22) rfl k) ?_
  show own_Ok p e below _ (T104.setTop (mkF m 23 #[.val (.ref a1), .val (.ref bv_104), .val (.int (2 : Int32)), .val (.int (0 : Int32)), .unset] [(.int (0 : Int32)), (.ref bv_104)]))
  refine own_st (own_ldR X104 hx hZ101 e104 g104_0 (by decide) (by decide) (v := (.ref al)) rfl rfl (g := (mkF m 23 #[.val (.ref a1), .val (.ref bv_104), .val (.int (2 : Int32)), .val (.int (0 : Int32)), .unset] [(.int (0 : Int32)), (.ref bv_104)])) rfl rfl (hb hby own_d7_23)) ?_
  show own_Ok p e below _ (T104.setTop (mkF m 24 #[.val (.ref a1), .val (.ref bv_104), .val (.int (2 : Int32)), .val (.int (0 : Int32)), .unset] [(.ref al)]))
  refine own_st (fun _ k => XS.astore X104.here hx rfl (hb hby own_d7_24) rfl rfl (l' := #[.val (.ref a1), .val (.ref bv_104), .val (.int (2 : Int32)), .val (.int (0 : Int32)), .val (.ref al)]) rfl k) ?_
  show own_Ok p e below _ (T104.setTop (mkF m 26 #[.val (.ref a1), .val (.ref bv_104), .val (.int (2 : Int32)), .val (.int (0 : Int32)), .val (.ref al)] []))
  refine own_st (fun _ k => XS.aload X104.here hx rfl (hb hby own_d7_26) rfl rfl k) ?_
  show own_Ok p e below _ (T104.setTop (mkF m 28 #[.val (.ref a1), .val (.ref bv_104), .val (.int (2 : Int32)), .val (.int (0 : Int32)), .val (.ref al)] [(.ref al)]))
  have f109 := f103.keep K104 all0
  obtain ⟨T108, X108, e108, st108⟩ := getF X104 hx hZ101 hown101 (host := "") (Or.inl (hw _ (List.mem_of_getElem? (i := 58) rfl))) Via.refl e104 (FA.ext f109.2) (g := (mkF m 28 #[.val (.ref a1), .val (.ref bv_104), .val (.int (2 : Int32)), .val (.int (0 : Int32)), .val (.ref al)] [(.ref al)])) rfl rfl (hb hby own_d7_28)
  refine own_st st108 ?_
  show own_Ok p e below _ (T108.setTop (mkF m 31 #[.val (.ref a1), .val (.ref bv_104), .val (.int (2 : Int32)), .val (.int (0 : Int32)), .val (.ref al)] [(.ref ka)]))
  refine own_st (fun _ k => XS.aloadN X108.here hx rfl (hb hby own_d7_31) rfl rfl k) ?_
  show own_Ok p e below _ (T108.setTop (mkF m 32 #[.val (.ref a1), .val (.ref bv_104), .val (.int (2 : Int32)), .val (.int (0 : Int32)), .val (.ref al)] [(.ref a1), (.ref ka)]))
  have f111 := f106.keep K104
  have f112 := V1.ext E101
  have f113 := f112.keep K104 nin0
  have f114 := C1.ext E101
  have f115 := f114.keep K104 nin0
  have f116 := f107.keep K104 nin0
  obtain ⟨cq110, kq110, q110a, q110b, q110c⟩ := isOf hZ101 e108 (EkA.ext f109.2)
  obtain ⟨_, _, ⟨T110, L110, k110, n110⟩, -, X110, ⟨Lc110, hQ110, l110, y110, z110⟩, st110⟩ := X108.virtualBack hx (y := (⟨"java/lang/String", "equals", "(Ljava/lang/Object;)Z"⟩ : MethodName)) (z := (⟨"java/lang/String", "equals", "(Ljava/lang/Object;)Z"⟩ : MethodName)) hown101 (mvT hZ101 (hw _ (List.mem_of_getElem? (i := 60) rfl))) (mvT hZ101 (hw _ (List.mem_of_getElem? (i := 61) rfl))) (notFace_of_selects (args := #[]) (mvT hZ101 (hw _ (List.mem_of_getElem? (i := 63) rfl)))) (mvT hZ101 (hw _ (List.mem_of_getElem? (i := 63) rfl))) (mvT hZ101 (hw _ (List.mem_of_getElem? (i := 62) rfl))) (by decide) (StrChars.Road.eqW (W := 0) hZ101 heq (kI := 4) (hw _ (List.mem_of_getElem? (i := 2) rfl)) (EkA.ext f109.2) (VkA.ext f109.2) (CkA.ext f109.2) (BkA.ext f109.2) (StrChars.Road.codOf (cs := ([97, 108, 108, 111, 119] : List Int32)) (n := 5) rfl (by decide)) (by decide : ∀ c ∈ ([97, 108, 108, 111, 119] : List Int32), ¬ c < 0 ∧ ¬ (65535 : Int32) < c) (Nat.le_of_ble_eq_true rfl) f111 f113 f115 f116 (StrChars.Road.codOf (cs := ([100, 101, 110, 121] : List Int32)) (n := 4) rfl (by decide)) (by decide : ∀ c ∈ ([100, 101, 110, 121] : List Int32), ¬ c < 0 ∧ ¬ (65535 : Int32) < c) (Nat.le_of_ble_eq_true rfl) (SG1.ext f109.2) PG1 (by decide) (by decide)) q110a q110c (g := (mkF m 32 #[.val (.ref a1), .val (.ref bv_104), .val (.int (2 : Int32)), .val (.int (0 : Int32)), .val (.ref al)] [(.ref a1), (.ref ka)])) rfl (by rw [hml]; rfl) (Steps.refl _) (argsL := [(.ref a1)]) (rest := []) (lenOf own_pd2 rfl) rfl (by show 2 * 0 + _ ≤ _; exact Nat.le_of_eq rfl) (hb hby own_d7_32) (fun _ _ => ⟨rfl, e108, (by decide : 3 + 0 ≤ _), (by decide : 34 + 0 ≤ _)⟩)
  dsimp only [Pt.U, Pt.locs, Pt.cells, Pt.slots] at X110 l110 y110 z110 st110 hQ110
  subst l110 y110 z110
  have hQ110 := own_eqF hQ110 (by decide)
  obtain ⟨rfl, rfl, e110⟩ := hQ110
  have Nq110 : Fr n0 ([] : List Loc) := Fr.nil n0
  have N110 := Fr.app N104 Nq110
  refine own_st (fun _ k => st110.trans k) ?_
  show own_Ok p e below _ (T110.setTop (mkF m 35 #[.val (.ref a1), .val (.ref bv_104), .val (.int (2 : Int32)), .val (.int (0 : Int32)), .val (.ref al)] [(.int (0 : Int32))]))
  refine own_st (fun _ k => XS.ifYes X110.here hx rfl (pc0 := 35) (pc' := 41) rfl (hb hby own_d7_35) rfl (XT.i0_eq_t (by decide)) (by decide) (by decide) k) ?_
  show own_Ok p e below _ (T110.setTop (mkF m 41 #[.val (.ref a1), .val (.ref bv_104), .val (.int (2 : Int32)), .val (.int (0 : Int32)), .val (.ref al)] []))
  refine own_st (fun _ k => XS.iinc X110.here hx rfl (hb hby own_d7_41) rfl (l' := #[.val (.ref a1), .val (.ref bv_104), .val (.int (2 : Int32)), .val (.int (1 : Int32)), .val (.ref al)]) rfl k) ?_
  show own_Ok p e below _ (T110.setTop (mkF m 44 #[.val (.ref a1), .val (.ref bv_104), .val (.int (2 : Int32)), .val (.int (1 : Int32)), .val (.ref al)] []))
  refine own_st (fun _ k => XS.goto X110.here hx rfl (pc0 := 44) (pc' := 16) rfl (hb hby own_d7_44) (by decide) (by decide) k) ?_
  show own_Ok p e below _ (T110.setTop (mkF m 16 #[.val (.ref a1), .val (.ref bv_104), .val (.int (2 : Int32)), .val (.int (1 : Int32)), .val (.ref al)] []))
  refine own_st (fun _ k => XS.iloadN X110.here hx rfl (hb hby own_d7_16) rfl k) ?_
  show own_Ok p e below _ (T110.setTop (mkF m 17 #[.val (.ref a1), .val (.ref bv_104), .val (.int (2 : Int32)), .val (.int (1 : Int32)), .val (.ref al)] [(.int (1 : Int32))]))
  refine own_st (fun _ k => XS.iloadN X110.here hx rfl (hb hby own_d7_17) rfl k) ?_
  show own_Ok p e below _ (T110.setTop (mkF m 18 #[.val (.ref a1), .val (.ref bv_104), .val (.int (2 : Int32)), .val (.int (1 : Int32)), .val (.ref al)] [(.int (2 : Int32)), (.int (1 : Int32))]))
  refine own_st (fun _ k => XS.icmpNo X110.here hx rfl (hb hby own_d7_18) rfl (XT.ii_ge_f (by decide)) k) ?_
  show own_Ok p e below _ (T110.setTop (mkF m 21 #[.val (.ref a1), .val (.ref bv_104), .val (.int (2 : Int32)), .val (.int (1 : Int32)), .val (.ref al)] []))
  refine own_st (fun _ k => XS.aloadN X110.here hx rfl (hb hby own_d7_21) rfl rfl k) ?_
  show own_Ok p e below _ (T110.setTop (mkF m 22 #[.val (.ref a1), .val (.ref bv_104), .val (.int (2 : Int32)), .val (.int (1 : Int32)), .val (.ref al)] [(.ref bv_104)]))
  refine own_st (fun _ k => XS.iloadN X110.here hx rfl (hb hby own_d7_22) rfl k) ?_
  show own_Ok p e below _ (T110.setTop (mkF m 23 #[.val (.ref a1), .val (.ref bv_104), .val (.int (2 : Int32)), .val (.int (1 : Int32)), .val (.ref al)] [(.int (1 : Int32)), (.ref bv_104)]))
  refine own_st (own_ldR X110 hx hZ101 e110 g104_0 (by decide) (by decide) (v := (.ref de)) rfl rfl (g := (mkF m 23 #[.val (.ref a1), .val (.ref bv_104), .val (.int (2 : Int32)), .val (.int (1 : Int32)), .val (.ref al)] [(.int (1 : Int32)), (.ref bv_104)])) rfl rfl (hb hby own_d7_23)) ?_
  show own_Ok p e below _ (T110.setTop (mkF m 24 #[.val (.ref a1), .val (.ref bv_104), .val (.int (2 : Int32)), .val (.int (1 : Int32)), .val (.ref al)] [(.ref de)]))
  refine own_st (fun _ k => XS.astore X110.here hx rfl (hb hby own_d7_24) rfl rfl (l' := #[.val (.ref a1), .val (.ref bv_104), .val (.int (2 : Int32)), .val (.int (1 : Int32)), .val (.ref de)]) rfl k) ?_
  show own_Ok p e below _ (T110.setTop (mkF m 26 #[.val (.ref a1), .val (.ref bv_104), .val (.int (2 : Int32)), .val (.int (1 : Int32)), .val (.ref de)] []))
  refine own_st (fun _ k => XS.aload X110.here hx rfl (hb hby own_d7_26) rfl rfl k) ?_
  show own_Ok p e below _ (T110.setTop (mkF m 28 #[.val (.ref a1), .val (.ref bv_104), .val (.int (2 : Int32)), .val (.int (1 : Int32)), .val (.ref de)] [(.ref de)]))
  obtain ⟨T117, X117, e117, st117⟩ := getF X110 hx hZ101 hown101 (host := "") (Or.inl (hw _ (List.mem_of_getElem? (i := 58) rfl))) Via.refl e110 (FD.ext f109.2) (g := (mkF m 28 #[.val (.ref a1), .val (.ref bv_104), .val (.int (2 : Int32)), .val (.int (1 : Int32)), .val (.ref de)] [(.ref de)])) rfl rfl (hb hby own_d7_28)
  refine own_st st117 ?_
  show own_Ok p e below _ (T117.setTop (mkF m 31 #[.val (.ref a1), .val (.ref bv_104), .val (.int (2 : Int32)), .val (.int (1 : Int32)), .val (.ref de)] [(.ref kd)]))
  refine own_st (fun _ k => XS.aloadN X117.here hx rfl (hb hby own_d7_31) rfl rfl k) ?_
  show own_Ok p e below _ (T117.setTop (mkF m 32 #[.val (.ref a1), .val (.ref bv_104), .val (.int (2 : Int32)), .val (.int (1 : Int32)), .val (.ref de)] [(.ref a1), (.ref kd)]))
  obtain ⟨cq118, kq118, q118a, q118b, q118c⟩ := isOf hZ101 e117 (EkD.ext f109.2)
  obtain ⟨_, _, ⟨T118, L118, k118, n118⟩, -, X118, ⟨Lc118, hQ118, l118, y118, z118⟩, st118⟩ := X117.virtualBack hx (y := (⟨"java/lang/String", "equals", "(Ljava/lang/Object;)Z"⟩ : MethodName)) (z := (⟨"java/lang/String", "equals", "(Ljava/lang/Object;)Z"⟩ : MethodName)) hown101 (mvT hZ101 (hw _ (List.mem_of_getElem? (i := 60) rfl))) (mvT hZ101 (hw _ (List.mem_of_getElem? (i := 61) rfl))) (notFace_of_selects (args := #[]) (mvT hZ101 (hw _ (List.mem_of_getElem? (i := 63) rfl)))) (mvT hZ101 (hw _ (List.mem_of_getElem? (i := 63) rfl))) (mvT hZ101 (hw _ (List.mem_of_getElem? (i := 62) rfl))) (by decide) (StrChars.Road.eqW (W := 0) hZ101 heq (kI := 4) (hw _ (List.mem_of_getElem? (i := 2) rfl)) (EkD.ext f109.2) (VkD.ext f109.2) (CkD.ext f109.2) (BkD.ext f109.2) (StrChars.Road.codOf (cs := ([100, 101, 110, 121] : List Int32)) (n := 4) rfl (by decide)) (by decide : ∀ c ∈ ([100, 101, 110, 121] : List Int32), ¬ c < 0 ∧ ¬ (65535 : Int32) < c) (Nat.le_of_ble_eq_true rfl) f111 f113 f115 f116 (StrChars.Road.codOf (cs := ([100, 101, 110, 121] : List Int32)) (n := 4) rfl (by decide)) (by decide : ∀ c ∈ ([100, 101, 110, 121] : List Int32), ¬ c < 0 ∧ ¬ (65535 : Int32) < c) (Nat.le_of_ble_eq_true rfl) (SG1.ext f109.2) PG1 (by decide) (by decide)) q118a q118c (g := (mkF m 32 #[.val (.ref a1), .val (.ref bv_104), .val (.int (2 : Int32)), .val (.int (1 : Int32)), .val (.ref de)] [(.ref a1), (.ref kd)])) rfl (by rw [hml]; rfl) (Steps.refl _) (argsL := [(.ref a1)]) (rest := []) (lenOf own_pd2 rfl) rfl (by show 2 * 0 + _ ≤ _; exact Nat.le_of_eq rfl) (hb hby own_d7_32) (fun _ _ => ⟨rfl, e117, (by decide : 3 + 0 ≤ _), (by decide : 34 + 0 ≤ _)⟩)
  dsimp only [Pt.U, Pt.locs, Pt.cells, Pt.slots] at X118 l118 y118 z118 st118 hQ118
  subst l118 y118 z118
  have hQ118 := own_eqT hQ118 rfl
  obtain ⟨rfl, rfl, e118⟩ := hQ118
  have Nq118 : Fr n0 ([] : List Loc) := Fr.nil n0
  have N118 := Fr.app N110 Nq118
  refine own_st (fun _ k => st118.trans k) ?_
  show own_Ok p e below _ (T118.setTop (mkF m 35 #[.val (.ref a1), .val (.ref bv_104), .val (.int (2 : Int32)), .val (.int (1 : Int32)), .val (.ref de)] [(.int (1 : Int32))]))
  refine own_st (fun _ k => XS.ifNo X118.here hx rfl (hb hby own_d7_35) rfl (XT.i0_eq_f (by decide)) k) ?_
  show own_Ok p e below _ (T118.setTop (mkF m 38 #[.val (.ref a1), .val (.ref bv_104), .val (.int (2 : Int32)), .val (.int (1 : Int32)), .val (.ref de)] []))
  refine own_st (fun _ k => XS.aload X118.here hx rfl (hb hby own_d7_38) rfl rfl k) ?_
  show own_Ok p e below _ (T118.setTop (mkF m 40 #[.val (.ref a1), .val (.ref bv_104), .val (.int (2 : Int32)), .val (.int (1 : Int32)), .val (.ref de)] [(.ref de)]))
  have f119 := f105.trans K104 all0
  have f120 := Nat.le_trans hk101 K104.1
  exact own_retAW X118 hS101 (by rw [e118]; exact f120) hx hlk (t := (.object "com/example/decreed/decreed/engine/Effect")) rfl Bd.returns rfl (hb hby own_d7_40) (by rw [e118]; exact ⟨rfl, N118, f119⟩) (by decide) (by decide)
theorem own_pd3 : parseMethodDescriptor "([C)V" = some ⟨[(.array .char)], none⟩ := by decide +kernel
theorem own_pd4 : parseMethodDescriptor "(Ljava/lang/String;)Lcom/example/decreed/decreed/engine/Effect;" = some ⟨[(.object "java/lang/String")], some (.object "com/example/decreed/decreed/engine/Effect")⟩ := by decide +kernel
theorem own_pd5 : parseMethodDescriptor "()Ljava/lang/String;" = some ⟨[], some (.object "java/lang/String")⟩ := by decide +kernel
theorem own_ef_rm_law (m : MethodId) (xw : Int32) : entryFrame m #[(.int xw)] maxLocals = mkF m 0 #[.val (.int xw), .unset, .unset, .unset, .unset, .unset] [] := by first | (simp [entryFrame, mkF, argsToLocals, Value.category, maxLocals]; done) | rfl
def Q_rm_law (Z : State) (xw : Int32) (G1 : Int32) (va : Addr) (clv : Cell) (al : Addr) (de : Addr) (ka : Addr) (kd : Addr) (ta : Addr) (td : Addr) (cka : ClassId) (ckd : ClassId) (h0 : Heap) (n0 : Nat) (v : Option Value) (h : Heap) (L : List Loc) : Prop := v = some (.int 1) ∧ Fr n0 L
theorem own_pn2 : plainName "com/example/decreed/decreed/engine/EffectParsePinLaw" = true := by first | (simp [plainName, overriddenIn]; done) | decide +kernel
set_option maxRecDepth 65536 in
set_option maxHeartbeats 40000000 in
theorem rm_law (l : Launch) (Z : State) (a0 : Array Value) (hw : ∀ d ∈ tables_1, d.before a0 Z = true) (ws : List Jvm.Cond) (xw : Int32) (G1 : Int32) (va : Addr) (clv : Cell) (al : Addr) (de : Addr) (ka : Addr) (kd : Addr) (ta : Addr) (td : Addr) (cka : ClassId) (ckd : ClassId) (h0 : Heap) (n0 : Nat) (O0 : Old Z n0 h0) (SG1 : Sta Z Z.heap "java/lang/String" "COMPACT_STRINGS" "Z" (.int G1)) (PG1 : ¬ (G1 = (0 : Int32))) (SV : Sta Z Z.heap "com/example/decreed/decreed/engine/Effect" "$VALUES" "[Lcom/example/decreed/decreed/engine/Effect;" (.ref va)) (AV : Arr Z Z.heap va clv (.object "com/example/decreed/decreed/engine/Effect")) (EVx : Exa Z Z.heap va "[Lcom/example/decreed/decreed/engine/Effect;") (FV : FitC Z clv) (hsv : clv.slots.size = 2) (hv0 : clv.slots[0]? = some (.ref al)) (hv1 : clv.slots[1]? = some (.ref de)) (SA : Sta Z Z.heap "com/example/decreed/decreed/engine/Effect" "ALLOW" "Lcom/example/decreed/decreed/engine/Effect;" (.ref al)) (SD : Sta Z Z.heap "com/example/decreed/decreed/engine/Effect" "DENY" "Lcom/example/decreed/decreed/engine/Effect;" (.ref de)) (EA : Exa Z Z.heap al "com/example/decreed/decreed/engine/Effect") (ED : Exa Z Z.heap de "com/example/decreed/decreed/engine/Effect") (FA : Fld Z Z.heap al "com/example/decreed/decreed/engine/Effect" "keyword" "Ljava/lang/String;" (.ref ka)) (FD : Fld Z Z.heap de "com/example/decreed/decreed/engine/Effect" "keyword" "Ljava/lang/String;" (.ref kd)) (EkA : Exa Z Z.heap ka "java/lang/String") (CkA : Fld Z Z.heap ka "java/lang/String" "coder" "B" (.int (0 : Int32))) (VkA : Fld Z Z.heap ka "java/lang/String" "value" "[B" (.ref ta)) (BkA : Arv Z Z.heap ta cka .byte (5 : Int32) ((([97, 108, 108, 111, 119] : List Int32).map (fun c => c.toInt8.toInt32)).map Value.int) (.int (0 : Int32))) (EkD : Exa Z Z.heap kd "java/lang/String") (CkD : Fld Z Z.heap kd "java/lang/String" "coder" "B" (.int (0 : Int32))) (VkD : Fld Z Z.heap kd "java/lang/String" "value" "[B" (.ref td)) (BkD : Arv Z Z.heap td ckd .byte (4 : Int32) ((([100, 101, 110, 121] : List Int32).map (fun c => c.toInt8.toInt32)).map Value.int) (.int (0 : Int32))) :
    MetFree l x (head1 (Jvm.Cond.code x code maxLocals ret :: ws) room_1) (fun a U => a = #[(.int xw)] ∧ Z.Warmed39 U.vm ∧ U.heap = h0) (fun _ _ _ _ _ => True) (fun _ U o U' => ∃ v L, o = .returned v ∧ Q_rm_law Z xw G1 va clv al de ka kd ta td cka ckd h0 n0 v U'.heap L ∧ ReturnedEndW U o U' L 6 48) := by
  refine MetFree.of_bodySF (plainFor_of_name own_pn2) hisR ?_
  intro p e s m args below meth c s₁ Bd hml0 hP hK
  obtain ⟨rfl, hZ, hh⟩ := hP
  have hx := Bd.exec
  have hby := Bd.bytes
  have hml : c.maxLocals = 6 := hml0
  have hown : s.vm.findClass "com/example/decreed/decreed/engine/EffectParsePinLaw" = some m.cls := findClass_of_methodNamed Bd.named
  have hnm := (name_of_methodNamed Bd.named Bd.method).1
  have hlk : meth.locks = false := Bd.notSynchronized
  have X0 : Stand p l e room_1 (s.setVm s.vm) m #[(.int xw)] below meth c s₁ [] 0 0 := Stand.of_body Bd
  have hS : s.Since s.vm 0 := (State.WarmedH.refl s).since 0
  have hk0 : 0 ≤ h0.size := Nat.zero_le _
  have e0 : s₁.heap = h0 := by rw [← hh, Bd.state]; rfl
  have N0 := Fr.nil n0
  suffices hgo : own_Ok p e below (own_QxW s (Q_rm_law Z xw G1 va clv al de ka kd ta td cka ckd h0 n0) 6 48) (s₁.setTop (mkF m 0 #[.val (.int xw), .unset, .unset, .unset, .unset, .unset] [])) from by
    obtain ⟨s₂, o, h1, h2⟩ := hgo
    exact ⟨s₂, o, castTop (own_ef_rm_law m xw) h1, h2⟩
  have hws : ∀ d ∈ StrChars.Road.words, d.before a0 Z = true := fun d hd => hw d ((by decide +kernel : ∀ d ∈ StrChars.Road.words, d ∈ tables_1) d hd)
  have heq : ∀ d ∈ StrChars.Road.wordsEq, d.before a0 Z = true := fun d hd => hw d ((by decide +kernel : ∀ d ∈ StrChars.Road.wordsEq, d ∈ tables_1) d hd)
  show own_Ok p e below _ (s₁.setTop (mkF m 0 #[.val (.int xw), .unset, .unset, .unset, .unset, .unset] []))
  refine own_st (fun _ k => XS.iloadN X0.here hx rfl (hb hby at_0) rfl k) ?_
  show own_Ok p e below _ (s₁.setTop (mkF m 1 #[.val (.int xw), .unset, .unset, .unset, .unset, .unset] [(.int xw)]))
  refine own_st (fun _ k => XS.iconst X0.here hx rfl (hb hby at_1) k) ?_
  show own_Ok p e below _ (s₁.setTop (mkF m 2 #[.val (.int xw), .unset, .unset, .unset, .unset, .unset] [(.int (1 : Int32)), (.int xw)]))
  refine own_st (fun _ k => XS.iand X0.here hx rfl (hb hby at_2) rfl k) ?_
  show own_Ok p e below _ (s₁.setTop (mkF m 3 #[.val (.int xw), .unset, .unset, .unset, .unset, .unset] [(.int (xw &&& (1 : Int32)))]))
  by_cases c3_101 : (xw &&& (1 : Int32)) = (0 : Int32)
  · skip
    refine own_st (fun _ k => XS.ifYes X0.here hx rfl (pc0 := 3) (pc' := 10) rfl (hb hby at_3) rfl (XT.i0_eq_t c3_101) (by decide) (by decide) k) ?_
    show own_Ok p e below _ (s₁.setTop (mkF m 10 #[.val (.int xw), .unset, .unset, .unset, .unset, .unset] []))
    refine own_st (fun _ k => XS.iconst X0.here hx rfl (hb hby at_10) k) ?_
    show own_Ok p e below _ (s₁.setTop (mkF m 11 #[.val (.int xw), .unset, .unset, .unset, .unset, .unset] [(.int (0 : Int32))]))
    refine own_st (fun _ k => XS.istoreN X0.here hx rfl (hb hby at_11) rfl (l' := #[.val (.int xw), .val (.int (0 : Int32)), .unset, .unset, .unset, .unset]) rfl k) ?_
    show own_Ok p e below _ (s₁.setTop (mkF m 12 #[.val (.int xw), .val (.int (0 : Int32)), .unset, .unset, .unset, .unset] []))
    refine own_st (fun _ k => XS.iloadN X0.here hx rfl (hb hby at_12) rfl k) ?_
    show own_Ok p e below _ (s₁.setTop (mkF m 13 #[.val (.int xw), .val (.int (0 : Int32)), .unset, .unset, .unset, .unset] [(.int (0 : Int32))]))
    refine own_st (fun _ k => XS.ifYes X0.here hx rfl (pc0 := 13) (pc' := 47) rfl (hb hby at_13) rfl (XT.i0_eq_t (by decide)) (by decide) (by decide) k) ?_
    show own_Ok p e below _ (s₁.setTop (mkF m 47 #[.val (.int xw), .val (.int (0 : Int32)), .unset, .unset, .unset, .unset] []))
    refine own_st (fun _ k => XS.iconst X0.here hx rfl (hb hby at_47) k) ?_
    show own_Ok p e below _ (s₁.setTop (mkF m 48 #[.val (.int xw), .val (.int (0 : Int32)), .unset, .unset, .unset, .unset] [(.int (4 : Int32))]))
    obtain ⟨T102, h102, k102, X102, e102, E102, A102, st102⟩ := newP X0 hx hZ (hw _ (List.mem_of_getElem? (i := 0) rfl)) e0 (g := (mkF m 48 #[.val (.int xw), .val (.int (0 : Int32)), .unset, .unset, .unset, .unset] [(.int (4 : Int32))])) rfl (hb hby at_48) rfl (by decide) (cap := 4) (by decide) (by decide) (by decide) (by decide)
    obtain ⟨b102, g102⟩ : ∃ z, z = h0.size := ⟨_, rfl⟩
    rw [← g102] at A102 st102
    refine own_st st102 ?_
    have gb_b102 : n0 ≤ b102 := Nat.le_trans (own_n0 O0) (Nat.le_of_eq g102.symm)
    have ne_al_b102 : al ≠ b102 := Old.ne O0 EA.lt gb_b102
    have ne_de_b102 : de ≠ b102 := Old.ne O0 ED.lt gb_b102
    have ne_ka_b102 : ka ≠ b102 := Old.ne O0 EkA.lt gb_b102
    have ne_ta_b102 : ta ≠ b102 := Old.ne O0 BkA.lt gb_b102
    have ne_kd_b102 : kd ≠ b102 := Old.ne O0 EkD.lt gb_b102
    have ne_td_b102 : td ≠ b102 := Old.ne O0 BkD.lt gb_b102
    have V102 : Arv Z h102 b102 k102 .char (4 : Int32) [(.int (0 : Int32)), (.int (0 : Int32)), (.int (0 : Int32)), (.int (0 : Int32))] (.int (0 : Int32)) := (Arv.new A102 (by decide)).pad (pad_rep [] (.int (0 : Int32)) 4)
    show own_Ok p e below _ (T102.setTop (mkF m 50 #[.val (.int xw), .val (.int (0 : Int32)), .unset, .unset, .unset, .unset] [(.ref b102)]))
    refine own_st (fun _ k => XS.dup X102.here hx rfl (hb hby at_50) rfl rfl k) ?_
    show own_Ok p e below _ (T102.setTop (mkF m 51 #[.val (.int xw), .val (.int (0 : Int32)), .unset, .unset, .unset, .unset] [(.ref b102), (.ref b102)]))
    refine own_st (fun _ k => XS.iconst X102.here hx rfl (hb hby at_51) k) ?_
    show own_Ok p e below _ (T102.setTop (mkF m 52 #[.val (.int xw), .val (.int (0 : Int32)), .unset, .unset, .unset, .unset] [(.int (0 : Int32)), (.ref b102), (.ref b102)]))
    refine own_st (fun _ k => XS.bipush X102.here hx rfl (hb hby at_52) k) ?_
    show own_Ok p e below _ (T102.setTop (mkF m 54 #[.val (.int xw), .val (.int (0 : Int32)), .unset, .unset, .unset, .unset] [(.int (100 : Int32)), (.int (0 : Int32)), (.ref b102), (.ref b102)]))
    obtain ⟨T103, h103, X103, e103, W103, V103, st103⟩ := own_stC X102 hx hZ e102 V102 0 rfl (by decide) (by decide) (Nat.le_of_ble_eq_true rfl) (g := (mkF m 54 #[.val (.int xw), .val (.int (0 : Int32)), .unset, .unset, .unset, .unset] [(.int (100 : Int32)), (.int (0 : Int32)), (.ref b102), (.ref b102)])) rfl rfl (hb hby at_54)
    refine own_st st103 ?_
    have V103' : Arv Z h103 b102 k102 .char (4 : Int32) [(.int (100 : Int32)), (.int (0 : Int32)), (.int (0 : Int32)), (.int (0 : Int32))] (.int (0 : Int32)) := V103
    have N103 := Fr.snoc X103 N0 gb_b102
    show own_Ok p e below _ (T103.setTop (mkF m 55 #[.val (.int xw), .val (.int (0 : Int32)), .unset, .unset, .unset, .unset] [(.ref b102)]))
    refine own_st (fun _ k => XS.dup X103.here hx rfl (hb hby at_55) rfl rfl k) ?_
    show own_Ok p e below _ (T103.setTop (mkF m 56 #[.val (.int xw), .val (.int (0 : Int32)), .unset, .unset, .unset, .unset] [(.ref b102), (.ref b102)]))
    refine own_st (fun _ k => XS.iconst X103.here hx rfl (hb hby at_56) k) ?_
    show own_Ok p e below _ (T103.setTop (mkF m 57 #[.val (.int xw), .val (.int (0 : Int32)), .unset, .unset, .unset, .unset] [(.int (1 : Int32)), (.ref b102), (.ref b102)]))
    refine own_st (fun _ k => XS.bipush X103.here hx rfl (hb hby at_57) k) ?_
    show own_Ok p e below _ (T103.setTop (mkF m 59 #[.val (.int xw), .val (.int (0 : Int32)), .unset, .unset, .unset, .unset] [(.int (101 : Int32)), (.int (1 : Int32)), (.ref b102), (.ref b102)]))
    obtain ⟨T104, h104, X104, e104, W104, V104, st104⟩ := own_stC X103 hx hZ e103 V103' 1 rfl (by decide) (by decide) (Nat.le_of_ble_eq_true rfl) (g := (mkF m 59 #[.val (.int xw), .val (.int (0 : Int32)), .unset, .unset, .unset, .unset] [(.int (101 : Int32)), (.int (1 : Int32)), (.ref b102), (.ref b102)])) rfl rfl (hb hby at_59)
    refine own_st st104 ?_
    have V104' : Arv Z h104 b102 k102 .char (4 : Int32) [(.int (100 : Int32)), (.int (101 : Int32)), (.int (0 : Int32)), (.int (0 : Int32))] (.int (0 : Int32)) := V104
    have N104 := Fr.snoc X104 N103 gb_b102
    show own_Ok p e below _ (T104.setTop (mkF m 60 #[.val (.int xw), .val (.int (0 : Int32)), .unset, .unset, .unset, .unset] [(.ref b102)]))
    refine own_st (fun _ k => XS.dup X104.here hx rfl (hb hby at_60) rfl rfl k) ?_
    show own_Ok p e below _ (T104.setTop (mkF m 61 #[.val (.int xw), .val (.int (0 : Int32)), .unset, .unset, .unset, .unset] [(.ref b102), (.ref b102)]))
    refine own_st (fun _ k => XS.iconst X104.here hx rfl (hb hby at_61) k) ?_
    show own_Ok p e below _ (T104.setTop (mkF m 62 #[.val (.int xw), .val (.int (0 : Int32)), .unset, .unset, .unset, .unset] [(.int (2 : Int32)), (.ref b102), (.ref b102)]))
    refine own_st (fun _ k => XS.bipush X104.here hx rfl (hb hby at_62) k) ?_
    show own_Ok p e below _ (T104.setTop (mkF m 64 #[.val (.int xw), .val (.int (0 : Int32)), .unset, .unset, .unset, .unset] [(.int (110 : Int32)), (.int (2 : Int32)), (.ref b102), (.ref b102)]))
    obtain ⟨T105, h105, X105, e105, W105, V105, st105⟩ := own_stC X104 hx hZ e104 V104' 2 rfl (by decide) (by decide) (Nat.le_of_ble_eq_true rfl) (g := (mkF m 64 #[.val (.int xw), .val (.int (0 : Int32)), .unset, .unset, .unset, .unset] [(.int (110 : Int32)), (.int (2 : Int32)), (.ref b102), (.ref b102)])) rfl rfl (hb hby at_64)
    refine own_st st105 ?_
    have V105' : Arv Z h105 b102 k102 .char (4 : Int32) [(.int (100 : Int32)), (.int (101 : Int32)), (.int (110 : Int32)), (.int (0 : Int32))] (.int (0 : Int32)) := V105
    have N105 := Fr.snoc X105 N104 gb_b102
    show own_Ok p e below _ (T105.setTop (mkF m 65 #[.val (.int xw), .val (.int (0 : Int32)), .unset, .unset, .unset, .unset] [(.ref b102)]))
    refine own_st (fun _ k => XS.dup X105.here hx rfl (hb hby at_65) rfl rfl k) ?_
    show own_Ok p e below _ (T105.setTop (mkF m 66 #[.val (.int xw), .val (.int (0 : Int32)), .unset, .unset, .unset, .unset] [(.ref b102), (.ref b102)]))
    refine own_st (fun _ k => XS.iconst X105.here hx rfl (hb hby at_66) k) ?_
    show own_Ok p e below _ (T105.setTop (mkF m 67 #[.val (.int xw), .val (.int (0 : Int32)), .unset, .unset, .unset, .unset] [(.int (3 : Int32)), (.ref b102), (.ref b102)]))
    refine own_st (fun _ k => XS.bipush X105.here hx rfl (hb hby at_67) k) ?_
    show own_Ok p e below _ (T105.setTop (mkF m 69 #[.val (.int xw), .val (.int (0 : Int32)), .unset, .unset, .unset, .unset] [(.int (121 : Int32)), (.int (3 : Int32)), (.ref b102), (.ref b102)]))
    obtain ⟨T106, h106, X106, e106, W106, V106, st106⟩ := own_stC X105 hx hZ e105 V105' 3 rfl (by decide) (by decide) (Nat.le_of_ble_eq_true rfl) (g := (mkF m 69 #[.val (.int xw), .val (.int (0 : Int32)), .unset, .unset, .unset, .unset] [(.int (121 : Int32)), (.int (3 : Int32)), (.ref b102), (.ref b102)])) rfl rfl (hb hby at_69)
    refine own_st st106 ?_
    have V106' : Arv Z h106 b102 k102 .char (4 : Int32) [(.int (100 : Int32)), (.int (101 : Int32)), (.int (110 : Int32)), (.int (121 : Int32))] (.int (0 : Int32)) := V106
    have N106 := Fr.snoc X106 N105 gb_b102
    show own_Ok p e below _ (T106.setTop (mkF m 70 #[.val (.int xw), .val (.int (0 : Int32)), .unset, .unset, .unset, .unset] [(.ref b102)]))
    refine own_st (fun _ k => XS.astoreN X106.here hx rfl (hb hby at_70) rfl rfl (l' := #[.val (.int xw), .val (.int (0 : Int32)), .val (.ref b102), .unset, .unset, .unset]) rfl k) ?_
    show own_Ok p e below _ (T106.setTop (mkF m 71 #[.val (.int xw), .val (.int (0 : Int32)), .val (.ref b102), .unset, .unset, .unset] []))
    obtain ⟨T107, h107, X107, e107, E107, A107, D107, -, st107⟩ := newO X106 hx hZ hown (hw _ (List.mem_of_getElem? (i := 1) rfl)) (hw _ (List.mem_of_getElem? (i := 2) rfl)) (hw _ (List.mem_of_getElem? (i := 3) rfl)) e106 (g := (mkF m 71 #[.val (.int xw), .val (.int (0 : Int32)), .val (.ref b102), .unset, .unset, .unset] [])) rfl (hb hby at_71) (by decide) (by decide)
    obtain ⟨b107, g107⟩ : ∃ z, z = h106.size := ⟨_, rfl⟩
    rw [← g107] at A107 D107 st107
    refine own_st st107 ?_
    have f108 := O0.ext E102
    have f109 := f108.wr W103 gb_b102
    have f110 := f109.wr W104 gb_b102
    have f111 := f110.wr W105 gb_b102
    have f112 := f111.wr W106 gb_b102
    have gb_b107 : n0 ≤ b107 := Nat.le_trans (own_n0 f112) (Nat.le_of_eq g107.symm)
    have ne_b102_b107 : b102 ≠ b107 := Nat.ne_of_lt (Nat.lt_of_lt_of_le V106'.lt (Nat.le_of_eq g107.symm))
    have ne_al_b107 : al ≠ b107 := Old.ne f112 EA.lt gb_b107
    have ne_de_b107 : de ≠ b107 := Old.ne f112 ED.lt gb_b107
    have ne_ka_b107 : ka ≠ b107 := Old.ne f112 EkA.lt gb_b107
    have ne_ta_b107 : ta ≠ b107 := Old.ne f112 BkA.lt gb_b107
    have ne_kd_b107 : kd ≠ b107 := Old.ne f112 EkD.lt gb_b107
    have ne_td_b107 : td ≠ b107 := Old.ne f112 BkD.lt gb_b107
    have F107_coder : Fld Z h107 b107 "java/lang/String" "coder" "B" (.int (0 : Int32)) := D107 (Or.inr (hw _ (List.mem_of_getElem? (i := 27) rfl))) (ty := .byte) (by decide)
    have F107_value : Fld Z h107 b107 "java/lang/String" "value" "[B" .null := D107 (Or.inr (hw _ (List.mem_of_getElem? (i := 29) rfl))) (ty := (.array .byte)) (by decide)
    show own_Ok p e below _ (T107.setTop (mkF m 74 #[.val (.int xw), .val (.int (0 : Int32)), .val (.ref b102), .unset, .unset, .unset] [(.ref b107)]))
    refine own_st (fun _ k => XS.dup X107.here hx rfl (hb hby at_74) rfl rfl k) ?_
    show own_Ok p e below _ (T107.setTop (mkF m 75 #[.val (.int xw), .val (.int (0 : Int32)), .val (.ref b102), .unset, .unset, .unset] [(.ref b107), (.ref b107)]))
    refine own_st (fun _ k => XS.aloadN X107.here hx rfl (hb hby at_75) rfl rfl k) ?_
    show own_Ok p e below _ (T107.setTop (mkF m 76 #[.val (.int xw), .val (.int (0 : Int32)), .val (.ref b102), .unset, .unset, .unset] [(.ref b102), (.ref b107), (.ref b107)]))
    have f114 := V106'.ext E107
    have f115 := f112.ext E107
    obtain ⟨_, _, ⟨T113, L113, k113, n113⟩, -, X113, ⟨Lc113, hQ113, l113, y113, z113⟩, st113⟩ := X107.specialBack hx (y := (⟨"java/lang/String", "<init>", "([C)V"⟩ : MethodName)) rfl hown (mvT hZ (hw _ (List.mem_of_getElem? (i := 4) rfl))) (mvT hZ (hw _ (List.mem_of_getElem? (i := 5) rfl))) (mvT hZ (hw _ (List.mem_of_getElem? (i := 6) rfl))) (by decide) (StrChars.Road.backV (W := 1) hZ hws (kI := 4) (hw _ (List.mem_of_getElem? (i := 2) rfl)) (cs := ([(100 : Int32), (101 : Int32), (110 : Int32), (121 : Int32)] : List Int32)) (bs := (([(100 : Int32), (101 : Int32), (110 : Int32), (121 : Int32)] : List Int32)).map (fun c => c.toInt8.toInt32)) (n := 4) gb_b107 (own_n0 f115) A107 F107_value F107_coder f114 (SG1.ext f115.2) PG1 rfl rfl (by decide) (by decide) (by decide) rfl (by decide) (by decide)) (g := (mkF m 76 #[.val (.int xw), .val (.int (0 : Int32)), .val (.ref b102), .unset, .unset, .unset] [(.ref b102), (.ref b107), (.ref b107)])) rfl (by rw [hml]; rfl) (Steps.refl _) (a := b107) (argsL := [(.ref b102)]) (rest := [(.ref b107)]) (lenOf own_pd3 rfl) rfl (by show 2 * 0 + _ ≤ _; exact Nat.le_of_eq rfl) (hb hby at_76) (fun _ _ => ⟨rfl, e107, (by decide : 2 + 1 ≤ _), (by decide : 8 + 4 ≤ _)⟩)
    dsimp only [Pt.U, Pt.locs, Pt.cells, Pt.slots] at X113 l113 y113 z113 st113 hQ113
    subst l113 y113 z113
    obtain ⟨rfl, Nq113, K113, g113_0, g113_1, tS_115, kS_115, u1_115, u2_115, u3_115, vS_115, aS_115⟩ := hQ113
    have N113 := Fr.app N106 Nq113
    refine own_st (fun _ k => st113.trans k) ?_
    have gb_tS_115 : n0 ≤ tS_115 := Nat.le_trans (own_n0 f115) u2_115
    have ne_b102_tS_115 : b102 ≠ tS_115 := Nat.ne_of_lt (Nat.lt_of_lt_of_le f114.lt u2_115)
    have ne_b107_tS_115 : b107 ≠ tS_115 := Nat.ne_of_lt (Nat.lt_of_lt_of_le A107.lt u2_115)
    have ne_al_tS_115 : al ≠ tS_115 := Old.ne f115 EA.lt gb_tS_115
    have ne_de_tS_115 : de ≠ tS_115 := Old.ne f115 ED.lt gb_tS_115
    have ne_ka_tS_115 : ka ≠ tS_115 := Old.ne f115 EkA.lt gb_tS_115
    have ne_ta_tS_115 : ta ≠ tS_115 := Old.ne f115 BkA.lt gb_tS_115
    have ne_kd_tS_115 : kd ≠ tS_115 := Old.ne f115 EkD.lt gb_tS_115
    have ne_td_tS_115 : td ≠ tS_115 := Old.ne f115 BkD.lt gb_tS_115
    have e113 : T113.heap = T113.heap := rfl
    show own_Ok p e below _ (T113.setTop (mkF m 79 #[.val (.int xw), .val (.int (0 : Int32)), .val (.ref b102), .unset, .unset, .unset] [(.ref b107)]))
    show own_Ok p e below _ (T113.setTop (mkF m 79 #[.val (.int xw), .val (.int (0 : Int32)), .val (.ref b102), .unset, .unset, .unset] [(.ref b107)]))
    refine own_st (fun _ k => XS.astoreN X113.here hx rfl (hb hby at_79) rfl rfl (l' := #[.val (.int xw), .val (.int (0 : Int32)), .val (.ref b102), .val (.ref b107), .unset, .unset]) rfl k) ?_
    show own_Ok p e below _ (T113.setTop (mkF m 80 #[.val (.int xw), .val (.int (0 : Int32)), .val (.ref b102), .val (.ref b107), .unset, .unset] []))
    refine own_st (fun _ k => XS.aloadN X113.here hx rfl (hb hby at_80) rfl rfl k) ?_
    show own_Ok p e below _ (T113.setTop (mkF m 81 #[.val (.int xw), .val (.int (0 : Int32)), .val (.ref b102), .val (.ref b107), .unset, .unset] [(.ref b107)]))
    have f117 := f115.keep K113 (allS gb_b107 all0)
    obtain ⟨_, _, ⟨T116, L116, k116, n116⟩, -, X116, S116, gg116, ⟨Lc116, hQ116, l116, y116, z116⟩, st116⟩ := callSS X113 hx (y := (⟨"com/example/decreed/decreed/engine/Effect", "parse", "(Ljava/lang/String;)Lcom/example/decreed/decreed/engine/Effect;"⟩ : MethodName)) hown (mvT hZ (hw _ (List.mem_of_getElem? (i := 30) rfl))) (mvT hZ (hw _ (List.mem_of_getElem? (i := 31) rfl))) (mvT hZ (hw _ (List.mem_of_getElem? (i := 32) rfl))) (mvT hZ (hw _ (List.mem_of_getElem? (i := 33) rfl))) (by decide) (backOfS (W := 0) (rm_parseD l Z a0 hw [] G1 va clv al de ka kd ta td cka ckd b107 tS_115 kS_115 T113.heap n0 f117 SG1 PG1 SV AV EVx FV hsv hv0 hv1 SA SD EA ED FA FD EkA CkA VkA BkA EkD CkD VkD BkD g113_0 g113_1 vS_115 aS_115) hZ (hw _ (List.mem_of_getElem? (i := 33) rfl)) (hw _ (List.mem_of_getElem? (i := 32) rfl)) (by decide) (by decide)) (g := (mkF m 81 #[.val (.int xw), .val (.int (0 : Int32)), .val (.ref b102), .val (.ref b107), .unset, .unset] [(.ref b107)])) rfl (by rw [hml]; rfl) (argsL := [(.ref b107)]) (rest := []) (lenOf own_pd4 rfl) rfl (by show 2 * 0 + _ ≤ _; exact Nat.le_of_eq rfl) (hb hby at_81) (fun _ _ => ⟨rfl, e113, (by decide : 3 + 3 ≤ _), (by decide : 12 + 34 ≤ _)⟩)
    dsimp only [Pt.U, Pt.locs, Pt.cells, Pt.slots] at X116 l116 y116 z116 st116 hQ116 S116 gg116
    subst l116 y116 z116
    have f118 := Nat.le_trans hk0 E102.1
    have f119 := Nat.le_trans f118 (Keep.of_wr W103).1
    have f120 := Nat.le_trans f119 (Keep.of_wr W104).1
    have f121 := Nat.le_trans f120 (Keep.of_wr W105).1
    have f122 := Nat.le_trans f121 (Keep.of_wr W106).1
    have f123 := Nat.le_trans f122 E107.1
    have f124 := Nat.le_trans f123 K113.1
    obtain ⟨X116, hS116, hZ116, hown116⟩ := rebS hS (by rw [e113]; exact f124) X116 S116 gg116 hZ hown
    obtain ⟨rfl, Nq116, K116⟩ := hQ116
    have N116 := Fr.app N113 Nq116
    refine own_st (fun _ k => st116.trans k) ?_
    have e116 : T116.heap = T116.heap := rfl
    show own_Ok p e below _ (T116.setTop (mkF m 84 #[.val (.int xw), .val (.int (0 : Int32)), .val (.ref b102), .val (.ref b107), .unset, .unset] [(.ref de)]))
    refine own_st (fun _ k => XS.astore X116.here hx rfl (hb hby at_84) rfl rfl (l' := #[.val (.int xw), .val (.int (0 : Int32)), .val (.ref b102), .val (.ref b107), .val (.ref de), .unset]) rfl k) ?_
    show own_Ok p e below _ (T116.setTop (mkF m 86 #[.val (.int xw), .val (.int (0 : Int32)), .val (.ref b102), .val (.ref b107), .val (.ref de), .unset] []))
    refine own_st (fun _ k => XS.iloadN X116.here hx rfl (hb hby at_86) rfl k) ?_
    show own_Ok p e below _ (T116.setTop (mkF m 87 #[.val (.int xw), .val (.int (0 : Int32)), .val (.ref b102), .val (.ref b107), .val (.ref de), .unset] [(.int (0 : Int32))]))
    refine own_st (fun _ k => XS.ifYes X116.here hx rfl (pc0 := 87) (pc' := 96) rfl (hb hby at_87) rfl (XT.i0_eq_t (by decide)) (by decide) (by decide) k) ?_
    show own_Ok p e below _ (T116.setTop (mkF m 96 #[.val (.int xw), .val (.int (0 : Int32)), .val (.ref b102), .val (.ref b107), .val (.ref de), .unset] []))
    have f126 := f117.keep K116 all0
    obtain ⟨T125, X125, e125, st125⟩ := getS2 X116 hx hZ116 hown116 (host := "") (Or.inl (hw _ (List.mem_of_getElem? (i := 70) rfl))) Via.refl e116 (SD.ext f126.2) (g := (mkF m 96 #[.val (.int xw), .val (.int (0 : Int32)), .val (.ref b102), .val (.ref b107), .val (.ref de), .unset] [])) rfl (hb hby at_96)
    refine own_st st125 ?_
    show own_Ok p e below _ (T125.setTop (mkF m 99 #[.val (.int xw), .val (.int (0 : Int32)), .val (.ref b102), .val (.ref b107), .val (.ref de), .unset] [(.ref de)]))
    refine own_st (fun _ k => XS.astore X125.here hx rfl (hb hby at_99) rfl rfl (l' := #[.val (.int xw), .val (.int (0 : Int32)), .val (.ref b102), .val (.ref b107), .val (.ref de), .val (.ref de)]) rfl k) ?_
    show own_Ok p e below _ (T125.setTop (mkF m 101 #[.val (.int xw), .val (.int (0 : Int32)), .val (.ref b102), .val (.ref b107), .val (.ref de), .val (.ref de)] []))
    refine own_st (fun _ k => XS.aload X125.here hx rfl (hb hby at_101) rfl rfl k) ?_
    show own_Ok p e below _ (T125.setTop (mkF m 103 #[.val (.int xw), .val (.int (0 : Int32)), .val (.ref b102), .val (.ref b107), .val (.ref de), .val (.ref de)] [(.ref de)]))
    refine own_st (fun _ k => XS.aload X125.here hx rfl (hb hby at_103) rfl rfl k) ?_
    show own_Ok p e below _ (T125.setTop (mkF m 105 #[.val (.int xw), .val (.int (0 : Int32)), .val (.ref b102), .val (.ref b107), .val (.ref de), .val (.ref de)] [(.ref de), (.ref de)]))
    refine own_st (fun _ k => XT.acmpNo X125.here hx rfl (hb hby at_105) rfl rfl rfl (XT.aa_ne_f rfl) k) ?_
    show own_Ok p e below _ (T125.setTop (mkF m 108 #[.val (.int xw), .val (.int (0 : Int32)), .val (.ref b102), .val (.ref b107), .val (.ref de), .val (.ref de)] []))
    refine own_st (fun _ k => XS.aload X125.here hx rfl (hb hby at_108) rfl rfl k) ?_
    show own_Ok p e below _ (T125.setTop (mkF m 110 #[.val (.int xw), .val (.int (0 : Int32)), .val (.ref b102), .val (.ref b107), .val (.ref de), .val (.ref de)] [(.ref de)]))
    obtain ⟨cq127, kq127, q127a, q127b, q127c⟩ := isOf hZ116 e125 (ED.ext f126.2)
    obtain ⟨_, _, ⟨T127, L127, k127, n127⟩, -, X127, ⟨Lc127, hQ127, l127, y127, z127⟩, st127⟩ := X125.virtualBack hx (y := (⟨"com/example/decreed/decreed/engine/Effect", "toString", "()Ljava/lang/String;"⟩ : MethodName)) (z := (⟨"com/example/decreed/decreed/engine/Effect", "toString", "()Ljava/lang/String;"⟩ : MethodName)) hown116 (mvT hZ116 (hw _ (List.mem_of_getElem? (i := 71) rfl))) (mvT hZ116 (hw _ (List.mem_of_getElem? (i := 72) rfl))) (notFace_of_selects (args := #[]) (mvT hZ116 (hw _ (List.mem_of_getElem? (i := 74) rfl)))) (mvT hZ116 (hw _ (List.mem_of_getElem? (i := 74) rfl))) (mvT hZ116 (hw _ (List.mem_of_getElem? (i := 73) rfl))) (by decide) (backOf (W := 0) (rm12 l Z a0 hw [] de kd T116.heap n0 f126 (FD.ext f126.2)) hZ116 (hw _ (List.mem_of_getElem? (i := 75) rfl)) (hw _ (List.mem_of_getElem? (i := 32) rfl)) (by decide) (by decide)) q127a q127c (g := (mkF m 110 #[.val (.int xw), .val (.int (0 : Int32)), .val (.ref b102), .val (.ref b107), .val (.ref de), .val (.ref de)] [(.ref de)])) rfl (by rw [hml]; rfl) (Steps.refl _) (argsL := []) (rest := []) (lenOf own_pd5 rfl) rfl (by show 2 * 0 + _ ≤ _; exact Nat.le_of_eq rfl) (hb hby at_110) (fun _ _ => ⟨rfl, e125, (by decide : 6 + 0 ≤ _), (by decide : 46 + 0 ≤ _)⟩)
    dsimp only [Pt.U, Pt.locs, Pt.cells, Pt.slots] at X127 l127 y127 z127 st127 hQ127
    subst l127 y127 z127
    obtain ⟨rfl, Nq127, e127⟩ := hQ127
    have N127 := Fr.app N116 Nq127
    refine own_st (fun _ k => st127.trans k) ?_
    show own_Ok p e below _ (T127.setTop (mkF m 113 #[.val (.int xw), .val (.int (0 : Int32)), .val (.ref b102), .val (.ref b107), .val (.ref de), .val (.ref de)] [(.ref kd)]))
    refine own_st (fun _ k => XS.aloadN X127.here hx rfl (hb hby at_113) rfl rfl k) ?_
    show own_Ok p e below _ (T127.setTop (mkF m 114 #[.val (.int xw), .val (.int (0 : Int32)), .val (.ref b102), .val (.ref b107), .val (.ref de), .val (.ref de)] [(.ref b107), (.ref kd)]))
    have f129 := g113_0.keep K116
    have f130 := vS_115.keep K116 nin0
    have f131 := g113_1.keep K116 nin0
    have f132 := aS_115.keep K116 nin0
    obtain ⟨cq128, kq128, q128a, q128b, q128c⟩ := isOf hZ116 e127 (EkD.ext f126.2)
    obtain ⟨_, _, ⟨T128, L128, k128, n128⟩, -, X128, ⟨Lc128, hQ128, l128, y128, z128⟩, st128⟩ := X127.virtualBack hx (y := (⟨"java/lang/String", "equals", "(Ljava/lang/Object;)Z"⟩ : MethodName)) (z := (⟨"java/lang/String", "equals", "(Ljava/lang/Object;)Z"⟩ : MethodName)) hown116 (mvT hZ116 (hw _ (List.mem_of_getElem? (i := 76) rfl))) (mvT hZ116 (hw _ (List.mem_of_getElem? (i := 61) rfl))) (notFace_of_selects (args := #[]) (mvT hZ116 (hw _ (List.mem_of_getElem? (i := 63) rfl)))) (mvT hZ116 (hw _ (List.mem_of_getElem? (i := 63) rfl))) (mvT hZ116 (hw _ (List.mem_of_getElem? (i := 62) rfl))) (by decide) (StrChars.Road.eqW (W := 0) hZ116 heq (kI := 4) (hw _ (List.mem_of_getElem? (i := 2) rfl)) (EkD.ext f126.2) (VkD.ext f126.2) (CkD.ext f126.2) (BkD.ext f126.2) (StrChars.Road.codOf (cs := ([100, 101, 110, 121] : List Int32)) (n := 4) rfl (by decide)) (by decide : ∀ c ∈ ([100, 101, 110, 121] : List Int32), ¬ c < 0 ∧ ¬ (65535 : Int32) < c) (Nat.le_of_ble_eq_true rfl) f129 f130 f131 f132 (StrChars.Road.codOf (cs := ([100, 101, 110, 121] : List Int32)) (n := 4) rfl (by decide)) (by decide : ∀ c ∈ ([100, 101, 110, 121] : List Int32), ¬ c < 0 ∧ ¬ (65535 : Int32) < c) (Nat.le_of_ble_eq_true rfl) (SG1.ext f126.2) PG1 (by decide) (by decide)) q128a q128c (g := (mkF m 114 #[.val (.int xw), .val (.int (0 : Int32)), .val (.ref b102), .val (.ref b107), .val (.ref de), .val (.ref de)] [(.ref b107), (.ref kd)])) rfl (by rw [hml]; rfl) (Steps.refl _) (argsL := [(.ref b107)]) (rest := []) (lenOf own_pd2 rfl) rfl (by show 2 * 0 + _ ≤ _; exact Nat.le_of_eq rfl) (hb hby at_114) (fun _ _ => ⟨rfl, e127, (by decide : 6 + 0 ≤ _), (by decide : 46 + 0 ≤ _)⟩)
    dsimp only [Pt.U, Pt.locs, Pt.cells, Pt.slots] at X128 l128 y128 z128 st128 hQ128
    subst l128 y128 z128
    have hQ128 := own_eqT hQ128 rfl
    obtain ⟨rfl, rfl, e128⟩ := hQ128
    have Nq128 : Fr n0 ([] : List Loc) := Fr.nil n0
    have N128 := Fr.app N127 Nq128
    refine own_st (fun _ k => st128.trans k) ?_
    show own_Ok p e below _ (T128.setTop (mkF m 117 #[.val (.int xw), .val (.int (0 : Int32)), .val (.ref b102), .val (.ref b107), .val (.ref de), .val (.ref de)] [(.int (1 : Int32))]))
    refine own_st (fun _ k => XS.ifNo X128.here hx rfl (hb hby at_117) rfl (XT.i0_eq_f (by decide)) k) ?_
    show own_Ok p e below _ (T128.setTop (mkF m 120 #[.val (.int xw), .val (.int (0 : Int32)), .val (.ref b102), .val (.ref b107), .val (.ref de), .val (.ref de)] []))
    refine own_st (fun _ k => XS.iconst X128.here hx rfl (hb hby at_120) k) ?_
    show own_Ok p e below _ (T128.setTop (mkF m 121 #[.val (.int xw), .val (.int (0 : Int32)), .val (.ref b102), .val (.ref b107), .val (.ref de), .val (.ref de)] [(.int (1 : Int32))]))
    refine own_st (fun _ k => XS.goto X128.here hx rfl (pc0 := 121) (pc' := 125) rfl (hb hby at_121) (by decide) (by decide) k) ?_
    show own_Ok p e below _ (T128.setTop (mkF m 125 #[.val (.int xw), .val (.int (0 : Int32)), .val (.ref b102), .val (.ref b107), .val (.ref de), .val (.ref de)] [(.int (1 : Int32))]))
    exact own_retNW X128 hS116 (by rw [e128]; exact (Nat.le_refl T116.heap.size)) hx hlk (t := .boolean) Bd.returns (by simp) (hb hby at_125) (by rw [e128]; exact ⟨rfl, N128⟩) (by decide) (by decide)
  · skip
    refine own_st (fun _ k => XS.ifNo X0.here hx rfl (hb hby at_3) rfl (XT.i0_eq_f c3_101) k) ?_
    show own_Ok p e below _ (s₁.setTop (mkF m 6 #[.val (.int xw), .unset, .unset, .unset, .unset, .unset] []))
    refine own_st (fun _ k => XS.iconst X0.here hx rfl (hb hby at_6) k) ?_
    show own_Ok p e below _ (s₁.setTop (mkF m 7 #[.val (.int xw), .unset, .unset, .unset, .unset, .unset] [(.int (1 : Int32))]))
    refine own_st (fun _ k => XS.goto X0.here hx rfl (pc0 := 7) (pc' := 11) rfl (hb hby at_7) (by decide) (by decide) k) ?_
    show own_Ok p e below _ (s₁.setTop (mkF m 11 #[.val (.int xw), .unset, .unset, .unset, .unset, .unset] [(.int (1 : Int32))]))
    refine own_st (fun _ k => XS.istoreN X0.here hx rfl (hb hby at_11) rfl (l' := #[.val (.int xw), .val (.int (1 : Int32)), .unset, .unset, .unset, .unset]) rfl k) ?_
    show own_Ok p e below _ (s₁.setTop (mkF m 12 #[.val (.int xw), .val (.int (1 : Int32)), .unset, .unset, .unset, .unset] []))
    refine own_st (fun _ k => XS.iloadN X0.here hx rfl (hb hby at_12) rfl k) ?_
    show own_Ok p e below _ (s₁.setTop (mkF m 13 #[.val (.int xw), .val (.int (1 : Int32)), .unset, .unset, .unset, .unset] [(.int (1 : Int32))]))
    refine own_st (fun _ k => XS.ifNo X0.here hx rfl (hb hby at_13) rfl (XT.i0_eq_f (by decide)) k) ?_
    show own_Ok p e below _ (s₁.setTop (mkF m 16 #[.val (.int xw), .val (.int (1 : Int32)), .unset, .unset, .unset, .unset] []))
    refine own_st (fun _ k => XS.iconst X0.here hx rfl (hb hby at_16) k) ?_
    show own_Ok p e below _ (s₁.setTop (mkF m 17 #[.val (.int xw), .val (.int (1 : Int32)), .unset, .unset, .unset, .unset] [(.int (5 : Int32))]))
    obtain ⟨T133, h133, k133, X133, e133, E133, A133, st133⟩ := newP X0 hx hZ (hw _ (List.mem_of_getElem? (i := 0) rfl)) e0 (g := (mkF m 17 #[.val (.int xw), .val (.int (1 : Int32)), .unset, .unset, .unset, .unset] [(.int (5 : Int32))])) rfl (hb hby at_17) rfl (by decide) (cap := 5) (by decide) (by decide) (by decide) (by decide)
    obtain ⟨b133, g133⟩ : ∃ z, z = h0.size := ⟨_, rfl⟩
    rw [← g133] at A133 st133
    refine own_st st133 ?_
    have gb_b133 : n0 ≤ b133 := Nat.le_trans (own_n0 O0) (Nat.le_of_eq g133.symm)
    have ne_al_b133 : al ≠ b133 := Old.ne O0 EA.lt gb_b133
    have ne_de_b133 : de ≠ b133 := Old.ne O0 ED.lt gb_b133
    have ne_ka_b133 : ka ≠ b133 := Old.ne O0 EkA.lt gb_b133
    have ne_ta_b133 : ta ≠ b133 := Old.ne O0 BkA.lt gb_b133
    have ne_kd_b133 : kd ≠ b133 := Old.ne O0 EkD.lt gb_b133
    have ne_td_b133 : td ≠ b133 := Old.ne O0 BkD.lt gb_b133
    have V133 : Arv Z h133 b133 k133 .char (5 : Int32) [(.int (0 : Int32)), (.int (0 : Int32)), (.int (0 : Int32)), (.int (0 : Int32)), (.int (0 : Int32))] (.int (0 : Int32)) := (Arv.new A133 (by decide)).pad (pad_rep [] (.int (0 : Int32)) 5)
    show own_Ok p e below _ (T133.setTop (mkF m 19 #[.val (.int xw), .val (.int (1 : Int32)), .unset, .unset, .unset, .unset] [(.ref b133)]))
    refine own_st (fun _ k => XS.dup X133.here hx rfl (hb hby at_19) rfl rfl k) ?_
    show own_Ok p e below _ (T133.setTop (mkF m 20 #[.val (.int xw), .val (.int (1 : Int32)), .unset, .unset, .unset, .unset] [(.ref b133), (.ref b133)]))
    refine own_st (fun _ k => XS.iconst X133.here hx rfl (hb hby at_20) k) ?_
    show own_Ok p e below _ (T133.setTop (mkF m 21 #[.val (.int xw), .val (.int (1 : Int32)), .unset, .unset, .unset, .unset] [(.int (0 : Int32)), (.ref b133), (.ref b133)]))
    refine own_st (fun _ k => XS.bipush X133.here hx rfl (hb hby at_21) k) ?_
    show own_Ok p e below _ (T133.setTop (mkF m 23 #[.val (.int xw), .val (.int (1 : Int32)), .unset, .unset, .unset, .unset] [(.int (97 : Int32)), (.int (0 : Int32)), (.ref b133), (.ref b133)]))
    obtain ⟨T134, h134, X134, e134, W134, V134, st134⟩ := own_stC X133 hx hZ e133 V133 0 rfl (by decide) (by decide) (Nat.le_of_ble_eq_true rfl) (g := (mkF m 23 #[.val (.int xw), .val (.int (1 : Int32)), .unset, .unset, .unset, .unset] [(.int (97 : Int32)), (.int (0 : Int32)), (.ref b133), (.ref b133)])) rfl rfl (hb hby at_23)
    refine own_st st134 ?_
    have V134' : Arv Z h134 b133 k133 .char (5 : Int32) [(.int (97 : Int32)), (.int (0 : Int32)), (.int (0 : Int32)), (.int (0 : Int32)), (.int (0 : Int32))] (.int (0 : Int32)) := V134
    have N134 := Fr.snoc X134 N0 gb_b133
    show own_Ok p e below _ (T134.setTop (mkF m 24 #[.val (.int xw), .val (.int (1 : Int32)), .unset, .unset, .unset, .unset] [(.ref b133)]))
    refine own_st (fun _ k => XS.dup X134.here hx rfl (hb hby at_24) rfl rfl k) ?_
    show own_Ok p e below _ (T134.setTop (mkF m 25 #[.val (.int xw), .val (.int (1 : Int32)), .unset, .unset, .unset, .unset] [(.ref b133), (.ref b133)]))
    refine own_st (fun _ k => XS.iconst X134.here hx rfl (hb hby at_25) k) ?_
    show own_Ok p e below _ (T134.setTop (mkF m 26 #[.val (.int xw), .val (.int (1 : Int32)), .unset, .unset, .unset, .unset] [(.int (1 : Int32)), (.ref b133), (.ref b133)]))
    refine own_st (fun _ k => XS.bipush X134.here hx rfl (hb hby at_26) k) ?_
    show own_Ok p e below _ (T134.setTop (mkF m 28 #[.val (.int xw), .val (.int (1 : Int32)), .unset, .unset, .unset, .unset] [(.int (108 : Int32)), (.int (1 : Int32)), (.ref b133), (.ref b133)]))
    obtain ⟨T135, h135, X135, e135, W135, V135, st135⟩ := own_stC X134 hx hZ e134 V134' 1 rfl (by decide) (by decide) (Nat.le_of_ble_eq_true rfl) (g := (mkF m 28 #[.val (.int xw), .val (.int (1 : Int32)), .unset, .unset, .unset, .unset] [(.int (108 : Int32)), (.int (1 : Int32)), (.ref b133), (.ref b133)])) rfl rfl (hb hby at_28)
    refine own_st st135 ?_
    have V135' : Arv Z h135 b133 k133 .char (5 : Int32) [(.int (97 : Int32)), (.int (108 : Int32)), (.int (0 : Int32)), (.int (0 : Int32)), (.int (0 : Int32))] (.int (0 : Int32)) := V135
    have N135 := Fr.snoc X135 N134 gb_b133
    show own_Ok p e below _ (T135.setTop (mkF m 29 #[.val (.int xw), .val (.int (1 : Int32)), .unset, .unset, .unset, .unset] [(.ref b133)]))
    refine own_st (fun _ k => XS.dup X135.here hx rfl (hb hby at_29) rfl rfl k) ?_
    show own_Ok p e below _ (T135.setTop (mkF m 30 #[.val (.int xw), .val (.int (1 : Int32)), .unset, .unset, .unset, .unset] [(.ref b133), (.ref b133)]))
    refine own_st (fun _ k => XS.iconst X135.here hx rfl (hb hby at_30) k) ?_
    show own_Ok p e below _ (T135.setTop (mkF m 31 #[.val (.int xw), .val (.int (1 : Int32)), .unset, .unset, .unset, .unset] [(.int (2 : Int32)), (.ref b133), (.ref b133)]))
    refine own_st (fun _ k => XS.bipush X135.here hx rfl (hb hby at_31) k) ?_
    show own_Ok p e below _ (T135.setTop (mkF m 33 #[.val (.int xw), .val (.int (1 : Int32)), .unset, .unset, .unset, .unset] [(.int (108 : Int32)), (.int (2 : Int32)), (.ref b133), (.ref b133)]))
    obtain ⟨T136, h136, X136, e136, W136, V136, st136⟩ := own_stC X135 hx hZ e135 V135' 2 rfl (by decide) (by decide) (Nat.le_of_ble_eq_true rfl) (g := (mkF m 33 #[.val (.int xw), .val (.int (1 : Int32)), .unset, .unset, .unset, .unset] [(.int (108 : Int32)), (.int (2 : Int32)), (.ref b133), (.ref b133)])) rfl rfl (hb hby at_33)
    refine own_st st136 ?_
    have V136' : Arv Z h136 b133 k133 .char (5 : Int32) [(.int (97 : Int32)), (.int (108 : Int32)), (.int (108 : Int32)), (.int (0 : Int32)), (.int (0 : Int32))] (.int (0 : Int32)) := V136
    have N136 := Fr.snoc X136 N135 gb_b133
    show own_Ok p e below _ (T136.setTop (mkF m 34 #[.val (.int xw), .val (.int (1 : Int32)), .unset, .unset, .unset, .unset] [(.ref b133)]))
    refine own_st (fun _ k => XS.dup X136.here hx rfl (hb hby at_34) rfl rfl k) ?_
    show own_Ok p e below _ (T136.setTop (mkF m 35 #[.val (.int xw), .val (.int (1 : Int32)), .unset, .unset, .unset, .unset] [(.ref b133), (.ref b133)]))
    refine own_st (fun _ k => XS.iconst X136.here hx rfl (hb hby at_35) k) ?_
    show own_Ok p e below _ (T136.setTop (mkF m 36 #[.val (.int xw), .val (.int (1 : Int32)), .unset, .unset, .unset, .unset] [(.int (3 : Int32)), (.ref b133), (.ref b133)]))
    refine own_st (fun _ k => XS.bipush X136.here hx rfl (hb hby at_36) k) ?_
    show own_Ok p e below _ (T136.setTop (mkF m 38 #[.val (.int xw), .val (.int (1 : Int32)), .unset, .unset, .unset, .unset] [(.int (111 : Int32)), (.int (3 : Int32)), (.ref b133), (.ref b133)]))
    obtain ⟨T137, h137, X137, e137, W137, V137, st137⟩ := own_stC X136 hx hZ e136 V136' 3 rfl (by decide) (by decide) (Nat.le_of_ble_eq_true rfl) (g := (mkF m 38 #[.val (.int xw), .val (.int (1 : Int32)), .unset, .unset, .unset, .unset] [(.int (111 : Int32)), (.int (3 : Int32)), (.ref b133), (.ref b133)])) rfl rfl (hb hby at_38)
    refine own_st st137 ?_
    have V137' : Arv Z h137 b133 k133 .char (5 : Int32) [(.int (97 : Int32)), (.int (108 : Int32)), (.int (108 : Int32)), (.int (111 : Int32)), (.int (0 : Int32))] (.int (0 : Int32)) := V137
    have N137 := Fr.snoc X137 N136 gb_b133
    show own_Ok p e below _ (T137.setTop (mkF m 39 #[.val (.int xw), .val (.int (1 : Int32)), .unset, .unset, .unset, .unset] [(.ref b133)]))
    refine own_st (fun _ k => XS.dup X137.here hx rfl (hb hby at_39) rfl rfl k) ?_
    show own_Ok p e below _ (T137.setTop (mkF m 40 #[.val (.int xw), .val (.int (1 : Int32)), .unset, .unset, .unset, .unset] [(.ref b133), (.ref b133)]))
    refine own_st (fun _ k => XS.iconst X137.here hx rfl (hb hby at_40) k) ?_
    show own_Ok p e below _ (T137.setTop (mkF m 41 #[.val (.int xw), .val (.int (1 : Int32)), .unset, .unset, .unset, .unset] [(.int (4 : Int32)), (.ref b133), (.ref b133)]))
    refine own_st (fun _ k => XS.bipush X137.here hx rfl (hb hby at_41) k) ?_
    show own_Ok p e below _ (T137.setTop (mkF m 43 #[.val (.int xw), .val (.int (1 : Int32)), .unset, .unset, .unset, .unset] [(.int (119 : Int32)), (.int (4 : Int32)), (.ref b133), (.ref b133)]))
    obtain ⟨T138, h138, X138, e138, W138, V138, st138⟩ := own_stC X137 hx hZ e137 V137' 4 rfl (by decide) (by decide) (Nat.le_of_ble_eq_true rfl) (g := (mkF m 43 #[.val (.int xw), .val (.int (1 : Int32)), .unset, .unset, .unset, .unset] [(.int (119 : Int32)), (.int (4 : Int32)), (.ref b133), (.ref b133)])) rfl rfl (hb hby at_43)
    refine own_st st138 ?_
    have V138' : Arv Z h138 b133 k133 .char (5 : Int32) [(.int (97 : Int32)), (.int (108 : Int32)), (.int (108 : Int32)), (.int (111 : Int32)), (.int (119 : Int32))] (.int (0 : Int32)) := V138
    have N138 := Fr.snoc X138 N137 gb_b133
    show own_Ok p e below _ (T138.setTop (mkF m 44 #[.val (.int xw), .val (.int (1 : Int32)), .unset, .unset, .unset, .unset] [(.ref b133)]))
    refine own_st (fun _ k => XS.goto X138.here hx rfl (pc0 := 44) (pc' := 70) rfl (hb hby at_44) (by decide) (by decide) k) ?_
    show own_Ok p e below _ (T138.setTop (mkF m 70 #[.val (.int xw), .val (.int (1 : Int32)), .unset, .unset, .unset, .unset] [(.ref b133)]))
    refine own_st (fun _ k => XS.astoreN X138.here hx rfl (hb hby at_70) rfl rfl (l' := #[.val (.int xw), .val (.int (1 : Int32)), .val (.ref b133), .unset, .unset, .unset]) rfl k) ?_
    show own_Ok p e below _ (T138.setTop (mkF m 71 #[.val (.int xw), .val (.int (1 : Int32)), .val (.ref b133), .unset, .unset, .unset] []))
    obtain ⟨T139, h139, X139, e139, E139, A139, D139, -, st139⟩ := newO X138 hx hZ hown (hw _ (List.mem_of_getElem? (i := 1) rfl)) (hw _ (List.mem_of_getElem? (i := 2) rfl)) (hw _ (List.mem_of_getElem? (i := 3) rfl)) e138 (g := (mkF m 71 #[.val (.int xw), .val (.int (1 : Int32)), .val (.ref b133), .unset, .unset, .unset] [])) rfl (hb hby at_71) (by decide) (by decide)
    obtain ⟨b139, g139⟩ : ∃ z, z = h138.size := ⟨_, rfl⟩
    rw [← g139] at A139 D139 st139
    refine own_st st139 ?_
    have f140 := O0.ext E133
    have f141 := f140.wr W134 gb_b133
    have f142 := f141.wr W135 gb_b133
    have f143 := f142.wr W136 gb_b133
    have f144 := f143.wr W137 gb_b133
    have f145 := f144.wr W138 gb_b133
    have gb_b139 : n0 ≤ b139 := Nat.le_trans (own_n0 f145) (Nat.le_of_eq g139.symm)
    have ne_b133_b139 : b133 ≠ b139 := Nat.ne_of_lt (Nat.lt_of_lt_of_le V138'.lt (Nat.le_of_eq g139.symm))
    have ne_al_b139 : al ≠ b139 := Old.ne f145 EA.lt gb_b139
    have ne_de_b139 : de ≠ b139 := Old.ne f145 ED.lt gb_b139
    have ne_ka_b139 : ka ≠ b139 := Old.ne f145 EkA.lt gb_b139
    have ne_ta_b139 : ta ≠ b139 := Old.ne f145 BkA.lt gb_b139
    have ne_kd_b139 : kd ≠ b139 := Old.ne f145 EkD.lt gb_b139
    have ne_td_b139 : td ≠ b139 := Old.ne f145 BkD.lt gb_b139
    have F139_coder : Fld Z h139 b139 "java/lang/String" "coder" "B" (.int (0 : Int32)) := D139 (Or.inr (hw _ (List.mem_of_getElem? (i := 27) rfl))) (ty := .byte) (by decide)
    have F139_value : Fld Z h139 b139 "java/lang/String" "value" "[B" .null := D139 (Or.inr (hw _ (List.mem_of_getElem? (i := 29) rfl))) (ty := (.array .byte)) (by decide)
    show own_Ok p e below _ (T139.setTop (mkF m 74 #[.val (.int xw), .val (.int (1 : Int32)), .val (.ref b133), .unset, .unset, .unset] [(.ref b139)]))
    refine own_st (fun _ k => XS.dup X139.here hx rfl (hb hby at_74) rfl rfl k) ?_
    show own_Ok p e below _ (T139.setTop (mkF m 75 #[.val (.int xw), .val (.int (1 : Int32)), .val (.ref b133), .unset, .unset, .unset] [(.ref b139), (.ref b139)]))
    refine own_st (fun _ k => XS.aloadN X139.here hx rfl (hb hby at_75) rfl rfl k) ?_
    show own_Ok p e below _ (T139.setTop (mkF m 76 #[.val (.int xw), .val (.int (1 : Int32)), .val (.ref b133), .unset, .unset, .unset] [(.ref b133), (.ref b139), (.ref b139)]))
    have f147 := V138'.ext E139
    have f148 := f145.ext E139
    obtain ⟨_, _, ⟨T146, L146, k146, n146⟩, -, X146, ⟨Lc146, hQ146, l146, y146, z146⟩, st146⟩ := X139.specialBack hx (y := (⟨"java/lang/String", "<init>", "([C)V"⟩ : MethodName)) rfl hown (mvT hZ (hw _ (List.mem_of_getElem? (i := 4) rfl))) (mvT hZ (hw _ (List.mem_of_getElem? (i := 5) rfl))) (mvT hZ (hw _ (List.mem_of_getElem? (i := 6) rfl))) (by decide) (StrChars.Road.backV (W := 1) hZ hws (kI := 4) (hw _ (List.mem_of_getElem? (i := 2) rfl)) (cs := ([(97 : Int32), (108 : Int32), (108 : Int32), (111 : Int32), (119 : Int32)] : List Int32)) (bs := (([(97 : Int32), (108 : Int32), (108 : Int32), (111 : Int32), (119 : Int32)] : List Int32)).map (fun c => c.toInt8.toInt32)) (n := 5) gb_b139 (own_n0 f148) A139 F139_value F139_coder f147 (SG1.ext f148.2) PG1 rfl rfl (by decide) (by decide) (by decide) rfl (by decide) (by decide)) (g := (mkF m 76 #[.val (.int xw), .val (.int (1 : Int32)), .val (.ref b133), .unset, .unset, .unset] [(.ref b133), (.ref b139), (.ref b139)])) rfl (by rw [hml]; rfl) (Steps.refl _) (a := b139) (argsL := [(.ref b133)]) (rest := [(.ref b139)]) (lenOf own_pd3 rfl) rfl (by show 2 * 0 + _ ≤ _; exact Nat.le_of_eq rfl) (hb hby at_76) (fun _ _ => ⟨rfl, e139, (by decide : 2 + 1 ≤ _), (by decide : 9 + 5 ≤ _)⟩)
    dsimp only [Pt.U, Pt.locs, Pt.cells, Pt.slots] at X146 l146 y146 z146 st146 hQ146
    subst l146 y146 z146
    obtain ⟨rfl, Nq146, K146, g146_0, g146_1, tS_148, kS_148, u1_148, u2_148, u3_148, vS_148, aS_148⟩ := hQ146
    have N146 := Fr.app N138 Nq146
    refine own_st (fun _ k => st146.trans k) ?_
    have gb_tS_148 : n0 ≤ tS_148 := Nat.le_trans (own_n0 f148) u2_148
    have ne_b133_tS_148 : b133 ≠ tS_148 := Nat.ne_of_lt (Nat.lt_of_lt_of_le f147.lt u2_148)
    have ne_b139_tS_148 : b139 ≠ tS_148 := Nat.ne_of_lt (Nat.lt_of_lt_of_le A139.lt u2_148)
    have ne_al_tS_148 : al ≠ tS_148 := Old.ne f148 EA.lt gb_tS_148
    have ne_de_tS_148 : de ≠ tS_148 := Old.ne f148 ED.lt gb_tS_148
    have ne_ka_tS_148 : ka ≠ tS_148 := Old.ne f148 EkA.lt gb_tS_148
    have ne_ta_tS_148 : ta ≠ tS_148 := Old.ne f148 BkA.lt gb_tS_148
    have ne_kd_tS_148 : kd ≠ tS_148 := Old.ne f148 EkD.lt gb_tS_148
    have ne_td_tS_148 : td ≠ tS_148 := Old.ne f148 BkD.lt gb_tS_148
    have e146 : T146.heap = T146.heap := rfl
    show own_Ok p e below _ (T146.setTop (mkF m 79 #[.val (.int xw), .val (.int (1 : Int32)), .val (.ref b133), .unset, .unset, .unset] [(.ref b139)]))
    show own_Ok p e below _ (T146.setTop (mkF m 79 #[.val (.int xw), .val (.int (1 : Int32)), .val (.ref b133), .unset, .unset, .unset] [(.ref b139)]))
    refine own_st (fun _ k => XS.astoreN X146.here hx rfl (hb hby at_79) rfl rfl (l' := #[.val (.int xw), .val (.int (1 : Int32)), .val (.ref b133), .val (.ref b139), .unset, .unset]) rfl k) ?_
    show own_Ok p e below _ (T146.setTop (mkF m 80 #[.val (.int xw), .val (.int (1 : Int32)), .val (.ref b133), .val (.ref b139), .unset, .unset] []))
    refine own_st (fun _ k => XS.aloadN X146.here hx rfl (hb hby at_80) rfl rfl k) ?_
    show own_Ok p e below _ (T146.setTop (mkF m 81 #[.val (.int xw), .val (.int (1 : Int32)), .val (.ref b133), .val (.ref b139), .unset, .unset] [(.ref b139)]))
    have f150 := f148.keep K146 (allS gb_b139 all0)
    obtain ⟨_, _, ⟨T149, L149, k149, n149⟩, -, X149, S149, gg149, ⟨Lc149, hQ149, l149, y149, z149⟩, st149⟩ := callSS X146 hx (y := (⟨"com/example/decreed/decreed/engine/Effect", "parse", "(Ljava/lang/String;)Lcom/example/decreed/decreed/engine/Effect;"⟩ : MethodName)) hown (mvT hZ (hw _ (List.mem_of_getElem? (i := 30) rfl))) (mvT hZ (hw _ (List.mem_of_getElem? (i := 31) rfl))) (mvT hZ (hw _ (List.mem_of_getElem? (i := 32) rfl))) (mvT hZ (hw _ (List.mem_of_getElem? (i := 33) rfl))) (by decide) (backOfS (W := 0) (rm_parseA l Z a0 hw [] G1 va clv al de ka kd ta td cka ckd b139 tS_148 kS_148 T146.heap n0 f150 SG1 PG1 SV AV EVx FV hsv hv0 hv1 SA SD EA ED FA FD EkA CkA VkA BkA EkD CkD VkD BkD g146_0 g146_1 vS_148 aS_148) hZ (hw _ (List.mem_of_getElem? (i := 33) rfl)) (hw _ (List.mem_of_getElem? (i := 32) rfl)) (by decide) (by decide)) (g := (mkF m 81 #[.val (.int xw), .val (.int (1 : Int32)), .val (.ref b133), .val (.ref b139), .unset, .unset] [(.ref b139)])) rfl (by rw [hml]; rfl) (argsL := [(.ref b139)]) (rest := []) (lenOf own_pd4 rfl) rfl (by show 2 * 0 + _ ≤ _; exact Nat.le_of_eq rfl) (hb hby at_81) (fun _ _ => ⟨rfl, e146, (by decide : 3 + 3 ≤ _), (by decide : 14 + 34 ≤ _)⟩)
    dsimp only [Pt.U, Pt.locs, Pt.cells, Pt.slots] at X149 l149 y149 z149 st149 hQ149 S149 gg149
    subst l149 y149 z149
    have f151 := Nat.le_trans hk0 E133.1
    have f152 := Nat.le_trans f151 (Keep.of_wr W134).1
    have f153 := Nat.le_trans f152 (Keep.of_wr W135).1
    have f154 := Nat.le_trans f153 (Keep.of_wr W136).1
    have f155 := Nat.le_trans f154 (Keep.of_wr W137).1
    have f156 := Nat.le_trans f155 (Keep.of_wr W138).1
    have f157 := Nat.le_trans f156 E139.1
    have f158 := Nat.le_trans f157 K146.1
    obtain ⟨X149, hS149, hZ149, hown149⟩ := rebS hS (by rw [e146]; exact f158) X149 S149 gg149 hZ hown
    obtain ⟨rfl, Nq149, K149⟩ := hQ149
    have N149 := Fr.app N146 Nq149
    refine own_st (fun _ k => st149.trans k) ?_
    have e149 : T149.heap = T149.heap := rfl
    show own_Ok p e below _ (T149.setTop (mkF m 84 #[.val (.int xw), .val (.int (1 : Int32)), .val (.ref b133), .val (.ref b139), .unset, .unset] [(.ref al)]))
    refine own_st (fun _ k => XS.astore X149.here hx rfl (hb hby at_84) rfl rfl (l' := #[.val (.int xw), .val (.int (1 : Int32)), .val (.ref b133), .val (.ref b139), .val (.ref al), .unset]) rfl k) ?_
    show own_Ok p e below _ (T149.setTop (mkF m 86 #[.val (.int xw), .val (.int (1 : Int32)), .val (.ref b133), .val (.ref b139), .val (.ref al), .unset] []))
    refine own_st (fun _ k => XS.iloadN X149.here hx rfl (hb hby at_86) rfl k) ?_
    show own_Ok p e below _ (T149.setTop (mkF m 87 #[.val (.int xw), .val (.int (1 : Int32)), .val (.ref b133), .val (.ref b139), .val (.ref al), .unset] [(.int (1 : Int32))]))
    refine own_st (fun _ k => XS.ifNo X149.here hx rfl (hb hby at_87) rfl (XT.i0_eq_f (by decide)) k) ?_
    show own_Ok p e below _ (T149.setTop (mkF m 90 #[.val (.int xw), .val (.int (1 : Int32)), .val (.ref b133), .val (.ref b139), .val (.ref al), .unset] []))
    have f160 := f150.keep K149 all0
    obtain ⟨T159, X159, e159, st159⟩ := getS2 X149 hx hZ149 hown149 (host := "") (Or.inl (hw _ (List.mem_of_getElem? (i := 77) rfl))) Via.refl e149 (SA.ext f160.2) (g := (mkF m 90 #[.val (.int xw), .val (.int (1 : Int32)), .val (.ref b133), .val (.ref b139), .val (.ref al), .unset] [])) rfl (hb hby at_90)
    refine own_st st159 ?_
    show own_Ok p e below _ (T159.setTop (mkF m 93 #[.val (.int xw), .val (.int (1 : Int32)), .val (.ref b133), .val (.ref b139), .val (.ref al), .unset] [(.ref al)]))
    refine own_st (fun _ k => XS.goto X159.here hx rfl (pc0 := 93) (pc' := 99) rfl (hb hby at_93) (by decide) (by decide) k) ?_
    show own_Ok p e below _ (T159.setTop (mkF m 99 #[.val (.int xw), .val (.int (1 : Int32)), .val (.ref b133), .val (.ref b139), .val (.ref al), .unset] [(.ref al)]))
    refine own_st (fun _ k => XS.astore X159.here hx rfl (hb hby at_99) rfl rfl (l' := #[.val (.int xw), .val (.int (1 : Int32)), .val (.ref b133), .val (.ref b139), .val (.ref al), .val (.ref al)]) rfl k) ?_
    show own_Ok p e below _ (T159.setTop (mkF m 101 #[.val (.int xw), .val (.int (1 : Int32)), .val (.ref b133), .val (.ref b139), .val (.ref al), .val (.ref al)] []))
    refine own_st (fun _ k => XS.aload X159.here hx rfl (hb hby at_101) rfl rfl k) ?_
    show own_Ok p e below _ (T159.setTop (mkF m 103 #[.val (.int xw), .val (.int (1 : Int32)), .val (.ref b133), .val (.ref b139), .val (.ref al), .val (.ref al)] [(.ref al)]))
    refine own_st (fun _ k => XS.aload X159.here hx rfl (hb hby at_103) rfl rfl k) ?_
    show own_Ok p e below _ (T159.setTop (mkF m 105 #[.val (.int xw), .val (.int (1 : Int32)), .val (.ref b133), .val (.ref b139), .val (.ref al), .val (.ref al)] [(.ref al), (.ref al)]))
    refine own_st (fun _ k => XT.acmpNo X159.here hx rfl (hb hby at_105) rfl rfl rfl (XT.aa_ne_f rfl) k) ?_
    show own_Ok p e below _ (T159.setTop (mkF m 108 #[.val (.int xw), .val (.int (1 : Int32)), .val (.ref b133), .val (.ref b139), .val (.ref al), .val (.ref al)] []))
    refine own_st (fun _ k => XS.aload X159.here hx rfl (hb hby at_108) rfl rfl k) ?_
    show own_Ok p e below _ (T159.setTop (mkF m 110 #[.val (.int xw), .val (.int (1 : Int32)), .val (.ref b133), .val (.ref b139), .val (.ref al), .val (.ref al)] [(.ref al)]))
    obtain ⟨cq161, kq161, q161a, q161b, q161c⟩ := isOf hZ149 e159 (EA.ext f160.2)
    obtain ⟨_, _, ⟨T161, L161, k161, n161⟩, -, X161, ⟨Lc161, hQ161, l161, y161, z161⟩, st161⟩ := X159.virtualBack hx (y := (⟨"com/example/decreed/decreed/engine/Effect", "toString", "()Ljava/lang/String;"⟩ : MethodName)) (z := (⟨"com/example/decreed/decreed/engine/Effect", "toString", "()Ljava/lang/String;"⟩ : MethodName)) hown149 (mvT hZ149 (hw _ (List.mem_of_getElem? (i := 71) rfl))) (mvT hZ149 (hw _ (List.mem_of_getElem? (i := 72) rfl))) (notFace_of_selects (args := #[]) (mvT hZ149 (hw _ (List.mem_of_getElem? (i := 74) rfl)))) (mvT hZ149 (hw _ (List.mem_of_getElem? (i := 74) rfl))) (mvT hZ149 (hw _ (List.mem_of_getElem? (i := 73) rfl))) (by decide) (backOf (W := 0) (rm12 l Z a0 hw [] al ka T149.heap n0 f160 (FA.ext f160.2)) hZ149 (hw _ (List.mem_of_getElem? (i := 75) rfl)) (hw _ (List.mem_of_getElem? (i := 32) rfl)) (by decide) (by decide)) q161a q161c (g := (mkF m 110 #[.val (.int xw), .val (.int (1 : Int32)), .val (.ref b133), .val (.ref b139), .val (.ref al), .val (.ref al)] [(.ref al)])) rfl (by rw [hml]; rfl) (Steps.refl _) (argsL := []) (rest := []) (lenOf own_pd5 rfl) rfl (by show 2 * 0 + _ ≤ _; exact Nat.le_of_eq rfl) (hb hby at_110) (fun _ _ => ⟨rfl, e159, (by decide : 6 + 0 ≤ _), (by decide : 48 + 0 ≤ _)⟩)
    dsimp only [Pt.U, Pt.locs, Pt.cells, Pt.slots] at X161 l161 y161 z161 st161 hQ161
    subst l161 y161 z161
    obtain ⟨rfl, Nq161, e161⟩ := hQ161
    have N161 := Fr.app N149 Nq161
    refine own_st (fun _ k => st161.trans k) ?_
    show own_Ok p e below _ (T161.setTop (mkF m 113 #[.val (.int xw), .val (.int (1 : Int32)), .val (.ref b133), .val (.ref b139), .val (.ref al), .val (.ref al)] [(.ref ka)]))
    refine own_st (fun _ k => XS.aloadN X161.here hx rfl (hb hby at_113) rfl rfl k) ?_
    show own_Ok p e below _ (T161.setTop (mkF m 114 #[.val (.int xw), .val (.int (1 : Int32)), .val (.ref b133), .val (.ref b139), .val (.ref al), .val (.ref al)] [(.ref b139), (.ref ka)]))
    have f163 := g146_0.keep K149
    have f164 := vS_148.keep K149 nin0
    have f165 := g146_1.keep K149 nin0
    have f166 := aS_148.keep K149 nin0
    obtain ⟨cq162, kq162, q162a, q162b, q162c⟩ := isOf hZ149 e161 (EkA.ext f160.2)
    obtain ⟨_, _, ⟨T162, L162, k162, n162⟩, -, X162, ⟨Lc162, hQ162, l162, y162, z162⟩, st162⟩ := X161.virtualBack hx (y := (⟨"java/lang/String", "equals", "(Ljava/lang/Object;)Z"⟩ : MethodName)) (z := (⟨"java/lang/String", "equals", "(Ljava/lang/Object;)Z"⟩ : MethodName)) hown149 (mvT hZ149 (hw _ (List.mem_of_getElem? (i := 76) rfl))) (mvT hZ149 (hw _ (List.mem_of_getElem? (i := 61) rfl))) (notFace_of_selects (args := #[]) (mvT hZ149 (hw _ (List.mem_of_getElem? (i := 63) rfl)))) (mvT hZ149 (hw _ (List.mem_of_getElem? (i := 63) rfl))) (mvT hZ149 (hw _ (List.mem_of_getElem? (i := 62) rfl))) (by decide) (StrChars.Road.eqW (W := 0) hZ149 heq (kI := 4) (hw _ (List.mem_of_getElem? (i := 2) rfl)) (EkA.ext f160.2) (VkA.ext f160.2) (CkA.ext f160.2) (BkA.ext f160.2) (StrChars.Road.codOf (cs := ([97, 108, 108, 111, 119] : List Int32)) (n := 5) rfl (by decide)) (by decide : ∀ c ∈ ([97, 108, 108, 111, 119] : List Int32), ¬ c < 0 ∧ ¬ (65535 : Int32) < c) (Nat.le_of_ble_eq_true rfl) f163 f164 f165 f166 (StrChars.Road.codOf (cs := ([97, 108, 108, 111, 119] : List Int32)) (n := 5) rfl (by decide)) (by decide : ∀ c ∈ ([97, 108, 108, 111, 119] : List Int32), ¬ c < 0 ∧ ¬ (65535 : Int32) < c) (Nat.le_of_ble_eq_true rfl) (SG1.ext f160.2) PG1 (by decide) (by decide)) q162a q162c (g := (mkF m 114 #[.val (.int xw), .val (.int (1 : Int32)), .val (.ref b133), .val (.ref b139), .val (.ref al), .val (.ref al)] [(.ref b139), (.ref ka)])) rfl (by rw [hml]; rfl) (Steps.refl _) (argsL := [(.ref b139)]) (rest := []) (lenOf own_pd2 rfl) rfl (by show 2 * 0 + _ ≤ _; exact Nat.le_of_eq rfl) (hb hby at_114) (fun _ _ => ⟨rfl, e161, (by decide : 6 + 0 ≤ _), (by decide : 48 + 0 ≤ _)⟩)
    dsimp only [Pt.U, Pt.locs, Pt.cells, Pt.slots] at X162 l162 y162 z162 st162 hQ162
    subst l162 y162 z162
    have hQ162 := own_eqT hQ162 rfl
    obtain ⟨rfl, rfl, e162⟩ := hQ162
    have Nq162 : Fr n0 ([] : List Loc) := Fr.nil n0
    have N162 := Fr.app N161 Nq162
    refine own_st (fun _ k => st162.trans k) ?_
    show own_Ok p e below _ (T162.setTop (mkF m 117 #[.val (.int xw), .val (.int (1 : Int32)), .val (.ref b133), .val (.ref b139), .val (.ref al), .val (.ref al)] [(.int (1 : Int32))]))
    refine own_st (fun _ k => XS.ifNo X162.here hx rfl (hb hby at_117) rfl (XT.i0_eq_f (by decide)) k) ?_
    show own_Ok p e below _ (T162.setTop (mkF m 120 #[.val (.int xw), .val (.int (1 : Int32)), .val (.ref b133), .val (.ref b139), .val (.ref al), .val (.ref al)] []))
    refine own_st (fun _ k => XS.iconst X162.here hx rfl (hb hby at_120) k) ?_
    show own_Ok p e below _ (T162.setTop (mkF m 121 #[.val (.int xw), .val (.int (1 : Int32)), .val (.ref b133), .val (.ref b139), .val (.ref al), .val (.ref al)] [(.int (1 : Int32))]))
    refine own_st (fun _ k => XS.goto X162.here hx rfl (pc0 := 121) (pc' := 125) rfl (hb hby at_121) (by decide) (by decide) k) ?_
    show own_Ok p e below _ (T162.setTop (mkF m 125 #[.val (.int xw), .val (.int (1 : Int32)), .val (.ref b133), .val (.ref b139), .val (.ref al), .val (.ref al)] [(.int (1 : Int32))]))
    exact own_retNW X162 hS149 (by rw [e162]; exact (Nat.le_refl T149.heap.size)) hx hlk (t := .boolean) Bd.returns (by simp) (hb hby at_125) (by rw [e162]; exact ⟨rfl, N162⟩) (by decide) (by decide)
set_option maxRecDepth 65536 in
set_option maxHeartbeats 40000000 in
theorem comes_1 {Post : Tables → Env → Array Value → State → Outcome → State → Prop} (hpost : ∀ tb e args s v u, (limb_1_1.after args s (.returned v) u = true ∧ limb_1_2.after args s (.returned v) u = true ∧ True) → ReturnedEndW s (.returned v) u (Jvm.fieldLocs frame_1_writes args s ++ Jvm.arrayLocs frame_1_arrays args s ++ Jvm.staticLocs frame_1_statics s) 24 1152 → Post tb e args s (.returned v) u) :
    ArmFor flags0 classFile x code maxLocals ret World_1 tables_1 room_1 Calls_1 rest_1 Pre_1 Post := by
  intro l hfl _ _ p e ha hc hk s m args below hf hA hF happ hP
  obtain ⟨hcalls, hrest, hpre⟩ := hP
  obtain ⟨-, -, -, hnamed, -, -, -, hat⟩ := (Spec.applies_iff hf).mp happ
  obtain ⟨hg, hn⟩ := and_e (Cond.before_iff.mp (show (Jvm.Cond.and given_1 narrow_1).before args s = true from hpre))
  obtain ⟨hcount, hr0⟩ := and_e hg
  have ha0 := hr0
  obtain ⟨w0, rfl⟩ : ∃ w0 : Value, args = #[w0] := by
    have hs : args.size = 1 := by simpa [Cond.value, given_1] using hcount
    obtain ⟨L⟩ := args
    match L, hs with
    | [w0], _ => exact ⟨w0, rfl⟩
  have hw := fun d (hd : d ∈ tables_1) => atoms_spec (ws := Jvm.Cond.code x code maxLocals ret :: tables_1) hat d (List.mem_cons_of_mem _ hd)
  obtain ⟨hsets, hown0⟩ := atoms_of _ (rest_1_c_eq ▸ (show rest_1_c.before _ s = true from hrest))
  have hrst := Cond.before_iff.mp hown0
  have hfit : Fit s := fun {y c} hc i hi => by
    obtain ⟨ha, rfl⟩ := Array.getElem?_eq_some_iff.mp hc
    have q := List.all_eq_true.mp ((Array.all_eq_true_iff_forall_mem.mp hF) _ (Array.getElem_mem ha)) i (List.mem_range.mpr hi)
    simpa [Array.getElem?_eq_getElem hi] using q
  obtain ⟨i0, ea0⟩ := is_v ha0
  obtain rfl : w0 = (.int i0) := Option.some.inj ea0
  obtain ⟨G1, eG1⟩ := is_v (Cond.before_iff.mp (hsets _ (List.mem_of_getElem? (i := 1) rfl)))
  have SG1 : Sta s s.heap "java/lang/String" "COMPACT_STRINGS" "Z" (.int G1) := Sta.start eG1 (Or.inl (hsets _ (List.mem_of_getElem? (i := 0) rfl)))
  have PG1 : ¬ (G1 = (0 : Int32)) := gotF (Cond.eq_ints eG1 (Term.int_eval (0))) (not_v (Cond.before_iff.mp (hsets _ (List.mem_of_getElem? (i := 2) rfl))))
  have q0 : narrow_1.value _ s none s [] = some true := hn
  obtain ⟨h_AV0, q1⟩ := and_e q0
  obtain ⟨h_EV0, q2⟩ := and_e q1
  obtain ⟨h_LV0, q3⟩ := and_e q2
  obtain ⟨h_EA0, q4⟩ := and_e q3
  obtain ⟨h_V0A, q5⟩ := and_e q4
  obtain ⟨h_ED0, q6⟩ := and_e q5
  obtain ⟨h_V1D, q7⟩ := and_e q6
  obtain ⟨h_KA1, q8⟩ := and_e q7
  obtain ⟨h_KA2, q9⟩ := and_e q8
  obtain ⟨h_KA3, q10⟩ := and_e q9
  obtain ⟨h_KA4, q11⟩ := and_e q10
  obtain ⟨h_KD1, q12⟩ := and_e q11
  obtain ⟨h_KD2, q13⟩ := and_e q12
  obtain ⟨h_KD3, q14⟩ := and_e q13
  obtain ⟨h_KD4, q15⟩ := and_e q14
  obtain ⟨h_D0, q16⟩ := and_e q15
  obtain ⟨h_D1, q17⟩ := and_e q16
  obtain ⟨h_D2, q18⟩ := and_e q17
  obtain ⟨h_D3, q19⟩ := and_e q18
  obtain ⟨h_A0, q20⟩ := and_e q19
  obtain ⟨h_A1, q21⟩ := and_e q20
  obtain ⟨h_A2, q22⟩ := and_e q21
  obtain ⟨h_A3, q23⟩ := and_e q22
  have h_A4 := q23
  obtain ⟨va, eva⟩ := arr_v h_AV0
  obtain ⟨clv, AV⟩ := Arr.start eva h_AV0
  have SV := Sta.start eva (Or.inr ⟨(hw _ (List.mem_of_getElem? (i := 32) rfl)), (hw _ (List.mem_of_getElem? (i := 45) rfl))⟩)
  have EVx := Exa.start eva h_EV0
  have FV := FitC.start hfit AV
  obtain ⟨hlv, hzv⟩ := own_lenAt eva (AV.fin (Vm.Alike.refl _)) h_LV0
  have hsv : clv.slots.size = 2 := own_size hlv hzv rfl
  obtain ⟨al, eal⟩ := exa_v h_EA0
  have SA := Sta.start eal (Or.inr ⟨(hw _ (List.mem_of_getElem? (i := 32) rfl)), (hw _ (List.mem_of_getElem? (i := 53) rfl))⟩)
  have EA := Exa.start eal h_EA0
  obtain ⟨de, ede⟩ := exa_v h_ED0
  have SD := Sta.start ede (Or.inr ⟨(hw _ (List.mem_of_getElem? (i := 32) rfl)), (hw _ (List.mem_of_getElem? (i := 54) rfl))⟩)
  have ED := Exa.start ede h_ED0
  have hv0 : clv.slots[0]? = some (.ref al) := own_elemRef eva AV.1 h_V0A eal
  have hv1 : clv.slots[1]? = some (.ref de) := own_elemRef eva AV.1 h_V1D ede
  obtain ⟨ka, eka⟩ := exa_v h_KA1
  have FA := Fld.start ((fld_at eal).symm.trans eka)
  obtain ⟨kd, ekd⟩ := exa_v h_KD1
  have FD := Fld.start ((fld_at ede).symm.trans ekd)
  obtain ⟨EkA, CkA, ta, cla, eta, VkA, AkA, lA, zA⟩ := own_strStart eka h_KA1 h_KA2 h_KA3 h_KA4
  obtain ⟨EkD, CkD, td, cld, etd, VkD, AkD, lD, zD⟩ := own_strStart ekd h_KD1 h_KD2 h_KD3 h_KD4
  have BkA : Arv s s.heap ta cla.cls .byte (5 : Int32) ((([97, 108, 108, 111, 119] : List Int32).map (fun c => c.toInt8.toInt32)).map Value.int) (.int (0 : Int32)) := Arv.start hfit AkA lA zA (by decide) rfl ⟨own_elemAt eta AkA.1 h_A0, own_elemAt eta AkA.1 h_A1, own_elemAt eta AkA.1 h_A2, own_elemAt eta AkA.1 h_A3, own_elemAt eta AkA.1 h_A4, trivial⟩
  have BkD : Arv s s.heap td cld.cls .byte (4 : Int32) ((([100, 101, 110, 121] : List Int32).map (fun c => c.toInt8.toInt32)).map Value.int) (.int (0 : Int32)) := Arv.start hfit AkD lD zD (by decide) rfl ⟨own_elemAt etd AkD.1 h_D0, own_elemAt etd AkD.1 h_D1, own_elemAt etd AkD.1 h_D2, own_elemAt etd AkD.1 h_D3, trivial⟩
  obtain ⟨n, o, h1, h2, h3, _, L, rfl, ⟨rfl, N⟩, hq⟩ := rm_law l s _ hw tables_1 i0 G1 va clv al de ka kd ta td cla.cls cld.cls s.heap s.heap.size (Old.start s) SG1 PG1 SV AV EVx FV hsv hv0 hv1 SA SD EA ED FA FD EkA CkA VkA BkA EkD CkD VkD BkD p e ha hc hk s m _ below hf ((Spec.applies_iff_loose hf).mp happ).1 ⟨rfl, State.Warmed39.refl s, rfl⟩ trivial
  refine ⟨n, _, h1, h2, h3, hpost _ _ _ _ _ _ ⟨Cond.after_iff.mpr rfl, Cond.after_iff.mpr (eq_i res_at (Term.int_eval (1)) rfl), trivial⟩ ⟨hq.1, hq.2.1, hq.2.2.1, (hq.2.2.2.sift fun y hy => Or.inr (N y hy)).mono (by decide) (by decide)⟩⟩
theorem main_1_1 : Claimed_1_1 := comes_1 fun _ _ _ _ _ _ h hF => ⟨h.1, hF⟩
theorem main_1_2 : Claimed_1_2 := comes_1 fun _ _ _ _ _ _ h hF => ⟨h.2.1, hF⟩
end Jvm.Pilot.@@N@@
namespace Jvm.Pilot.@@N@@
open Jvm Jvm.ClassFile Sem Op Lib Jvm.Free Jvm.Stand Jvm.Pilot.@@N@@.Jvm.D
/-! MADE BY PROGRAM (witnessworld.py) out of the Statement's table words and the real class files: 23 classes; the members and pool entries that the words name. The judged class is class 1, her method 1. -/
namespace start1
open Jvm.ClassFile
def u (s : String) : CpInfo := .utf8 (stringToUtf16 s)
/-- a pool by its gaps: so many unusable entries, then the entry; so many at the end -/
def gap : Nat → List CpInfo → List CpInfo
  | 0, r => r
  | n + 1, r => .unusable :: gap n r
def poolList (es : List (Nat × CpInfo)) (last : Nat) : List CpInfo := es.foldr (fun e r => gap e.1 (e.2 :: r)) (gap last [])
def pool (es : List (Nat × CpInfo)) (last : Nat) : Array CpInfo := ⟨poolList es last⟩
def fileOf (pool : Array CpInfo) (this : Nat) (attrs : Array Attribute := #[]) (ms : Array MethodInfo := #[]) (fl : Nat := 33) (sup : Nat := 0) (ifs : Array Nat := #[]) (fds : Array FieldInfo := #[]) : ClassFile where
  minorVersion := 0
  majorVersion := 65
  constantPool := pool
  accessFlags := fl
  thisClass := this
  superClass := sup
  interfaces := ifs
  fields := fds
  methods := ms
  attributes := attrs
def plain (name : String) (sup : Option ClassId) : Class where
  name := name
  kind := .ordinary
  loader := none
  accessFlags := 33
  super := sup
  interfaces := #[]
  cf := none
  fields := #[]
  methods := #[]
  instanceTypes := #[]
  staticTypes := #[]
  resolved := #[]
  callSites := []
  init := .initialized
  statics := none
  mirror := none

def pool0 : Array CpInfo := pool [(5, u "<init>"), (0, u "()V"), (1, .class_ 10), (1, u "java/lang/Object"), (85, u "clone"), (0, u "()Ljava/lang/Object;")] 26

def k0c0 : Code := { maxStack := 0, maxLocals := 1, code := object_method_1_code, exceptionTable := #[], attributes := #[] }
def k0m0 : Method := { name := "<init>", desc := "()V", sig := { parameters := [], returnType := none }, accessFlags := 1, code := some k0c0 }
def k0m1 : Method := { name := "clone", desc := "()Ljava/lang/Object;", sig := { parameters := [], returnType := some (.object "java/lang/Object") }, accessFlags := 260, code := none }
/-- java/lang/Object -/
def k0 : Class := { plain "java/lang/Object" none with
  accessFlags := 33
  interfaces := #[]
  cf := some (fileOf pool0 8 #[] #[{ accessFlags := 1, nameIndex := 5, descriptorIndex := 6, attributes := #[] }, { accessFlags := 260, nameIndex := 96, descriptorIndex := 97, attributes := #[] }] 33 0 #[] #[])
  fields := #[]
  methods := #[k0m0, k0m1]
  instanceTypes := #[]
  staticTypes := #[]
  resolved := Array.replicate 124 none
  statics := none }

def pool1 : Array CpInfo := pool [(2, .class_ 4), (1, u "java/lang/Object"), (0, u "<init>"), (0, u "()V"), (0, .class_ 8), (0, u "java/lang/String"), (0, .methodref 7 10), (0, .nameAndType 5 11), (0, u "([C)V"), (0, .methodref 13 14), (0, .class_ 15), (0, .nameAndType 16 17), (0, u "com/example/decreed/decreed/engine/Effect"), (0, u "parse"), (0, u "(Ljava/lang/String;)Lcom/example/decreed/decreed/engine/Effect;"), (0, .fieldref 13 19), (0, .nameAndType 20 21), (0, u "ALLOW"), (0, u "Lcom/example/decreed/decreed/engine/Effect;"), (0, .fieldref 13 23), (0, .nameAndType 24 21), (0, u "DENY"), (0, .methodref 13 26), (0, .nameAndType 27 28), (0, u "toString"), (0, u "()Ljava/lang/String;"), (0, .methodref 7 30), (0, .nameAndType 31 32), (0, u "equals"), (0, u "(Ljava/lang/Object;)Z"), (0, .class_ 34), (0, u "com/example/decreed/decreed/engine/EffectParsePinLaw"), (2, u "law"), (0, u "(I)Z")] 5

def k1m0 : Method := { name := "<init>", desc := "()V", sig := { parameters := [], returnType := none }, accessFlags := 2, code := none }
def k1c1 : Code := { maxStack := 4, maxLocals := 6, code := code, exceptionTable := #[], attributes := #[] }
def k1m1 : Method := { name := "law", desc := "(I)Z", sig := { parameters := [.int], returnType := some .boolean }, accessFlags := 9, code := some k1c1 }
/-- com/example/decreed/decreed/engine/EffectParsePinLaw -/
def k1 : Class := { plain "com/example/decreed/decreed/engine/EffectParsePinLaw" (some 0) with
  accessFlags := 49
  interfaces := #[]
  cf := some (fileOf pool1 33 #[] #[{ accessFlags := 2, nameIndex := 5, descriptorIndex := 6, attributes := #[] }, { accessFlags := 9, nameIndex := 37, descriptorIndex := 38, attributes := #[] }] 49 2 #[] #[])
  fields := #[]
  methods := #[k1m0, k1m1]
  instanceTypes := #[]
  staticTypes := #[]
  resolved := Array.replicate 44 none
  statics := none }

def pool2 : Array CpInfo := pool [(1, .class_ 2), (0, u "java/io/Serializable"), (0, .class_ 4), (0, u "java/lang/Object")] 2

/-- java/io/Serializable -/
def k2 : Class := { plain "java/io/Serializable" (some 0) with
  accessFlags := 1537
  interfaces := #[]
  cf := some (fileOf pool2 1 #[] #[] 1537 3 #[] #[])
  fields := #[]
  methods := #[]
  instanceTypes := #[]
  staticTypes := #[]
  resolved := Array.replicate 7 none
  statics := none }

def pool3 : Array CpInfo := pool [(1, .class_ 2), (0, u "java/lang/Comparable"), (0, .class_ 4), (0, u "java/lang/Object")] 7

/-- java/lang/Comparable -/
def k3 : Class := { plain "java/lang/Comparable" (some 0) with
  accessFlags := 1537
  interfaces := #[]
  cf := some (fileOf pool3 1 #[] #[] 1537 3 #[] #[])
  fields := #[]
  methods := #[]
  instanceTypes := #[]
  staticTypes := #[]
  resolved := Array.replicate 12 none
  statics := none }

def pool4 : Array CpInfo := pool [(2, .class_ 4), (1, u "java/lang/CharSequence"), (42, .class_ 48), (0, u "java/lang/CharSequence$1CodePointIterator"), (10, .class_ 60), (0, u "java/lang/CharSequence$1CharIterator"), (5, .class_ 67), (0, u "java/lang/Object")] 63

/-- java/lang/CharSequence -/
def k4 : Class := { plain "java/lang/CharSequence" (some 0) with
  accessFlags := 1537
  interfaces := #[]
  cf := some (fileOf pool4 2 #[.nestMembers #[47, 59]] #[] 1537 66 #[] #[])
  fields := #[]
  methods := #[]
  instanceTypes := #[]
  staticTypes := #[]
  resolved := Array.replicate 131 none
  statics := none }

def pool5 : Array CpInfo := pool [(1, .class_ 2), (0, u "java/lang/constant/Constable"), (0, .class_ 4), (0, u "java/lang/Object")] 6

/-- java/lang/constant/Constable -/
def k5 : Class := { plain "java/lang/constant/Constable" (some 0) with
  accessFlags := 1537
  interfaces := #[]
  cf := some (fileOf pool5 1 #[] #[] 1537 3 #[] #[])
  fields := #[]
  methods := #[]
  instanceTypes := #[]
  staticTypes := #[]
  resolved := Array.replicate 11 none
  statics := none }

def pool6 : Array CpInfo := pool [(1, .class_ 2), (0, u "java/lang/constant/ConstantDesc"), (0, .class_ 4), (0, u "java/lang/Object")] 32

/-- java/lang/constant/ConstantDesc -/
def k6 : Class := { plain "java/lang/constant/ConstantDesc" (some 0) with
  accessFlags := 1537
  interfaces := #[]
  cf := some (fileOf pool6 1 #[] #[] 1537 3 #[] #[])
  fields := #[]
  methods := #[]
  instanceTypes := #[]
  staticTypes := #[]
  resolved := Array.replicate 37 none
  statics := none }

def pool7 : Array CpInfo := pool [(1, .methodref 2 3), (0, .class_ 4), (0, .nameAndType 5 6), (0, u "java/lang/Object"), (0, u "<init>"), (0, u "()V"), (2, .fieldref 10 11), (0, .class_ 12), (0, .nameAndType 13 14), (0, u "java/lang/String"), (0, u "value"), (0, u "[B"), (0, .fieldref 10 16), (0, .nameAndType 17 18), (0, u "coder"), (0, u "B"), (2, u "hash"), (0, u "I"), (2, u "hashIsZero"), (0, u "Z"), (0, .methodref 10 28), (0, .nameAndType 5 29), (0, u "([CIILjava/lang/Void;)V"), (8, .fieldref 10 39), (0, .nameAndType 40 26), (0, u "COMPACT_STRINGS"), (1, .class_ 44), (1, u "java/lang/StringUTF16"), (0, u "compress"), (1, .methodref 42 48), (0, .nameAndType 49 50), (0, u "coderFromArrayLen"), (0, u "([BI)B"), (56, .class_ 109), (1, u "java/lang/StringLatin1"), (67, .methodref 42 178), (0, .nameAndType 45 179), (0, u "([CII)[B"), (361, .methodref 107 542), (0, .nameAndType 543 544), (0, u "equals"), (0, u "([B[B)Z"), (28, u "(Ljava/lang/Object;)Z"), (1, .class_ 576), (0, u "java/lang/CharSequence"), (22, u "CASE_INSENSITIVE_ORDER"), (0, u "Ljava/util/Comparator;"), (409, u "([C)V"), (90, u "serialPersistentFields"), (0, u "[Ljava/io/ObjectStreamField;"), (0, .class_ 1104), (0, u "java/lang/String$CaseInsensitiveComparator"), (1, .class_ 1107), (0, u "java/io/Serializable"), (0, .class_ 1109), (0, u "java/lang/Comparable"), (0, .class_ 1111), (0, u "java/lang/constant/Constable"), (0, .class_ 1113), (0, u "java/lang/constant/ConstantDesc"), (2, u "serialVersionUID"), (0, u "J"), (3, u "REPL"), (0, u "C"), (2, u "LATIN1"), (1, u "UTF16")] 323

def k7m0 : Method := { name := "<init>", desc := "()V", sig := { parameters := [], returnType := none }, accessFlags := 1, code := none }
def k7c1 : Code := { maxStack := 5, maxLocals := 2, code := jdk_42_method_3_code, exceptionTable := #[], attributes := #[] }
def k7m1 : Method := { name := "<init>", desc := "([C)V", sig := { parameters := [(.array .char)], returnType := none }, accessFlags := 1, code := some k7c1 }
def k7c2 : Code := { maxStack := 2, maxLocals := 3, code := jdk_42_method_66_code, exceptionTable := #[], attributes := #[] }
def k7m2 : Method := { name := "equals", desc := "(Ljava/lang/Object;)Z", sig := { parameters := [(.object "java/lang/Object")], returnType := some .boolean }, accessFlags := 1, code := some k7c2 }
def k7c3 : Code := { maxStack := 4, maxLocals := 6, code := jdk_42_method_149_code, exceptionTable := #[], attributes := #[] }
def k7m3 : Method := { name := "<init>", desc := "([CIILjava/lang/Void;)V", sig := { parameters := [(.array .char), .int, .int, (.object "java/lang/Void")], returnType := none }, accessFlags := 2, code := some k7c3 }
/-- java/lang/String -/
def k7 : Class := { plain "java/lang/String" (some 0) with
  accessFlags := 49
  interfaces := #[2, 3, 4, 5, 6]
  cf := some (fileOf pool7 10 #[.nestMembers #[1103]] #[{ accessFlags := 1, nameIndex := 5, descriptorIndex := 6, attributes := #[] }, { accessFlags := 1, nameIndex := 5, descriptorIndex := 1010, attributes := #[] }, { accessFlags := 1, nameIndex := 543, descriptorIndex := 573, attributes := #[] }, { accessFlags := 2, nameIndex := 5, descriptorIndex := 29, attributes := #[] }] 49 2 #[1106, 1108, 575, 1110, 1112] #[{ accessFlags := 18, nameIndex := 13, descriptorIndex := 14, attributes := #[] }, { accessFlags := 18, nameIndex := 17, descriptorIndex := 18, attributes := #[] }, { accessFlags := 2, nameIndex := 21, descriptorIndex := 22, attributes := #[] }, { accessFlags := 2, nameIndex := 25, descriptorIndex := 26, attributes := #[] }, { accessFlags := 26, nameIndex := 1116, descriptorIndex := 1117, attributes := #[] }, { accessFlags := 24, nameIndex := 40, descriptorIndex := 26, attributes := #[] }, { accessFlags := 26, nameIndex := 1101, descriptorIndex := 1102, attributes := #[] }, { accessFlags := 26, nameIndex := 1121, descriptorIndex := 1122, attributes := #[] }, { accessFlags := 25, nameIndex := 599, descriptorIndex := 600, attributes := #[] }, { accessFlags := 24, nameIndex := 1125, descriptorIndex := 18, attributes := #[] }, { accessFlags := 24, nameIndex := 1127, descriptorIndex := 18, attributes := #[] }])
  fields := #[{ name := "value", type := (.array .byte), accessFlags := 18, slot := 0, constantValue := 0 }, { name := "coder", type := .byte, accessFlags := 18, slot := 1, constantValue := 0 }, { name := "hash", type := .int, accessFlags := 2, slot := 2, constantValue := 0 }, { name := "hashIsZero", type := .boolean, accessFlags := 2, slot := 3, constantValue := 0 }, { name := "serialVersionUID", type := .long, accessFlags := 26, slot := 0, constantValue := 0 }, { name := "COMPACT_STRINGS", type := .boolean, accessFlags := 24, slot := 1, constantValue := 0 }, { name := "serialPersistentFields", type := (.array (.object "java/io/ObjectStreamField")), accessFlags := 26, slot := 2, constantValue := 0 }, { name := "REPL", type := .char, accessFlags := 26, slot := 3, constantValue := 0 }, { name := "CASE_INSENSITIVE_ORDER", type := (.object "java/util/Comparator"), accessFlags := 25, slot := 4, constantValue := 0 }, { name := "LATIN1", type := .byte, accessFlags := 24, slot := 5, constantValue := 0 }, { name := "UTF16", type := .byte, accessFlags := 24, slot := 6, constantValue := 0 }]
  methods := #[k7m0, k7m1, k7m2, k7m3]
  instanceTypes := #[(.array .byte), .byte, .int, .boolean]
  staticTypes := #[.long, .boolean, (.array (.object "java/io/ObjectStreamField")), .char, (.object "java/util/Comparator"), .byte, .byte]
  resolved := Array.replicate 1451 none
  statics := some 0 }

def pool8 : Array CpInfo := pool [(6, .class_ 8), (1, u "java/lang/Object"), (0, u "<init>"), (0, u "()V"), (1, .class_ 14), (1, u "java/lang/StringUTF16"), (31, u "$assertionsDisabled"), (0, u "Z"), (13, u "HI_BYTE_SHIFT"), (0, u "I"), (2, u "LO_BYTE_SHIFT"), (49, .methodref 12 116), (0, .nameAndType 117 118), (0, u "compress"), (0, u "([CI[BII)I"), (3, u "([CII)[B"), (138, u "coderFromArrayLen"), (0, u "([BI)B"), (106, .class_ 371), (1, u "java/lang/StringUTF16$LinesSpliterator"), (58, u "MAX_LENGTH"), (196, .class_ 628), (0, u "java/lang/StringUTF16$CodePointsSpliterator"), (0, .class_ 630), (0, u "java/lang/StringUTF16$CharsSpliterator")] 4

def k8m0 : Method := { name := "<init>", desc := "()V", sig := { parameters := [], returnType := none }, accessFlags := 0, code := none }
def k8c1 : Code := { maxStack := 2, maxLocals := 2, code := jdk_52_method_15_code, exceptionTable := #[], attributes := #[] }
def k8m1 : Method := { name := "coderFromArrayLen", desc := "([BI)B", sig := { parameters := [(.array .byte), .int], returnType := some .byte }, accessFlags := 8, code := some k8c1 }
def k8c2 : Code := { maxStack := 5, maxLocals := 6, code := jdk_52_method_16_code, exceptionTable := #[], attributes := #[] }
def k8m2 : Method := { name := "compress", desc := "([CII)[B", sig := { parameters := [(.array .char), .int, .int], returnType := some (.array .byte) }, accessFlags := 9, code := some k8c2 }
def k8c3 : Code := { maxStack := 3, maxLocals := 7, code := jdk_52_method_21_code, exceptionTable := #[], attributes := #[] }
def k8m3 : Method := { name := "compress", desc := "([CI[BII)I", sig := { parameters := [(.array .char), .int, (.array .byte), .int, .int], returnType := some .int }, accessFlags := 9, code := some k8c3 }
/-- java/lang/StringUTF16 -/
def k8 : Class := { plain "java/lang/StringUTF16" (some 0) with
  accessFlags := 48
  interfaces := #[]
  cf := some (fileOf pool8 12 #[.nestMembers #[627, 629, 369]] #[{ accessFlags := 0, nameIndex := 9, descriptorIndex := 10, attributes := #[] }, { accessFlags := 8, nameIndex := 261, descriptorIndex := 262, attributes := #[] }, { accessFlags := 9, nameIndex := 117, descriptorIndex := 122, attributes := #[] }, { accessFlags := 9, nameIndex := 117, descriptorIndex := 118, attributes := #[] }] 48 6 #[] #[{ accessFlags := 26, nameIndex := 61, descriptorIndex := 62, attributes := #[] }, { accessFlags := 26, nameIndex := 65, descriptorIndex := 62, attributes := #[] }, { accessFlags := 24, nameIndex := 430, descriptorIndex := 62, attributes := #[] }, { accessFlags := 4120, nameIndex := 46, descriptorIndex := 47, attributes := #[] }])
  fields := #[{ name := "HI_BYTE_SHIFT", type := .int, accessFlags := 26, slot := 0, constantValue := 0 }, { name := "LO_BYTE_SHIFT", type := .int, accessFlags := 26, slot := 1, constantValue := 0 }, { name := "MAX_LENGTH", type := .int, accessFlags := 24, slot := 2, constantValue := 0 }, { name := "$assertionsDisabled", type := .boolean, accessFlags := 4120, slot := 3, constantValue := 0 }]
  methods := #[k8m0, k8m1, k8m2, k8m3]
  instanceTypes := #[]
  staticTypes := #[.int, .int, .int, .boolean]
  resolved := Array.replicate 635 none
  statics := none }

def pool9 : Array CpInfo := pool [(2, .class_ 4), (1, u "java/lang/Enum"), (0, u "name"), (0, u "Ljava/lang/String;"), (2, u "ordinal"), (0, u "I"), (1, .class_ 14), (1, u "java/lang/Object"), (4, u "hash"), (86, .class_ 108), (1, u "java/lang/Enum$EnumDesc"), (2, .class_ 112), (0, u "java/lang/constant/Constable"), (0, .class_ 114), (0, u "java/lang/Comparable"), (0, .class_ 116), (0, u "java/io/Serializable")] 87

/-- java/lang/Enum -/
def k9 : Class := { plain "java/lang/Enum" (some 0) with
  accessFlags := 1057
  interfaces := #[5, 3, 2]
  cf := some (fileOf pool9 2 #[.nestMembers #[106]] #[] 1057 12 #[111, 113, 115] #[{ accessFlags := 18, nameIndex := 5, descriptorIndex := 6, attributes := #[] }, { accessFlags := 18, nameIndex := 9, descriptorIndex := 10, attributes := #[] }, { accessFlags := 2, nameIndex := 19, descriptorIndex := 10, attributes := #[] }])
  fields := #[{ name := "name", type := (.object "java/lang/String"), accessFlags := 18, slot := 0, constantValue := 0 }, { name := "ordinal", type := .int, accessFlags := 18, slot := 1, constantValue := 0 }, { name := "hash", type := .int, accessFlags := 2, slot := 2, constantValue := 0 }]
  methods := #[]
  instanceTypes := #[(.object "java/lang/String"), .int, .int]
  staticTypes := #[]
  resolved := Array.replicate 204 none
  statics := none }

def pool10 : Array CpInfo := pool [(1, .class_ 2), (0, u "com/example/decreed/decreed/engine/Effect"), (2, u "ALLOW"), (0, u "Lcom/example/decreed/decreed/engine/Effect;"), (2, u "DENY"), (0, .fieldref 1 11), (0, .nameAndType 12 13), (0, u "$VALUES"), (0, u "[Lcom/example/decreed/decreed/engine/Effect;"), (0, .methodref 15 16), (0, .class_ 13), (0, .nameAndType 17 18), (0, u "clone"), (0, u "()Ljava/lang/Object;"), (1, .class_ 22), (1, u "java/lang/Enum"), (6, .fieldref 1 30), (0, .nameAndType 31 32), (0, u "keyword"), (0, u "Ljava/lang/String;"), (0, .string 31), (0, .methodref 35 36), (0, .class_ 37), (0, .nameAndType 38 39), (0, u "java/util/Objects"), (0, u "requireNonNull"), (0, u "(Ljava/lang/Object;Ljava/lang/String;)Ljava/lang/Object;"), (0, .methodref 1 41), (0, .nameAndType 42 43), (0, u "values"), (0, u "()[Lcom/example/decreed/decreed/engine/Effect;"), (0, .methodref 45 46), (0, .class_ 47), (0, .nameAndType 48 49), (0, u "java/lang/String"), (0, u "equals"), (0, u "(Ljava/lang/Object;)Z"), (28, u "(Ljava/lang/String;)Lcom/example/decreed/decreed/engine/Effect;"), (2, u "parse"), (1, u "toString"), (0, u "()Ljava/lang/String;")] 20

def k10c0 : Code := { maxStack := 1, maxLocals := 0, code := prog_18_method_1_code, exceptionTable := #[], attributes := #[] }
def k10m0 : Method := { name := "values", desc := "()[Lcom/example/decreed/decreed/engine/Effect;", sig := { parameters := [], returnType := some (.array (.object "com/example/decreed/decreed/engine/Effect")) }, accessFlags := 9, code := some k10c0 }
def k10c1 : Code := { maxStack := 3, maxLocals := 5, code := prog_18_method_4_code, exceptionTable := #[], attributes := #[] }
def k10m1 : Method := { name := "parse", desc := "(Ljava/lang/String;)Lcom/example/decreed/decreed/engine/Effect;", sig := { parameters := [(.object "java/lang/String")], returnType := some (.object "com/example/decreed/decreed/engine/Effect") }, accessFlags := 9, code := some k10c1 }
def k10c2 : Code := { maxStack := 1, maxLocals := 1, code := prog_18_method_5_code, exceptionTable := #[], attributes := #[] }
def k10m2 : Method := { name := "toString", desc := "()Ljava/lang/String;", sig := { parameters := [], returnType := some (.object "java/lang/String") }, accessFlags := 1, code := some k10c2 }
/-- com/example/decreed/decreed/engine/Effect -/
def k10 : Class := { plain "com/example/decreed/decreed/engine/Effect" (some 9) with
  accessFlags := 16433
  interfaces := #[]
  cf := some (fileOf pool10 1 #[] #[{ accessFlags := 9, nameIndex := 42, descriptorIndex := 43, attributes := #[] }, { accessFlags := 9, nameIndex := 81, descriptorIndex := 78, attributes := #[] }, { accessFlags := 1, nameIndex := 83, descriptorIndex := 84, attributes := #[] }] 16433 20 #[] #[{ accessFlags := 16409, nameIndex := 5, descriptorIndex := 6, attributes := #[] }, { accessFlags := 16409, nameIndex := 9, descriptorIndex := 6, attributes := #[] }, { accessFlags := 18, nameIndex := 31, descriptorIndex := 32, attributes := #[] }, { accessFlags := 4122, nameIndex := 12, descriptorIndex := 13, attributes := #[] }])
  fields := #[{ name := "ALLOW", type := (.object "com/example/decreed/decreed/engine/Effect"), accessFlags := 16409, slot := 0, constantValue := 0 }, { name := "DENY", type := (.object "com/example/decreed/decreed/engine/Effect"), accessFlags := 16409, slot := 1, constantValue := 0 }, { name := "keyword", type := (.object "java/lang/String"), accessFlags := 18, slot := 3, constantValue := 0 }, { name := "$VALUES", type := (.array (.object "com/example/decreed/decreed/engine/Effect")), accessFlags := 4122, slot := 2, constantValue := 0 }]
  methods := #[k10m0, k10m1, k10m2]
  instanceTypes := #[(.object "java/lang/String"), .int, .int, (.object "java/lang/String")]
  staticTypes := #[(.object "com/example/decreed/decreed/engine/Effect"), (.object "com/example/decreed/decreed/engine/Effect"), (.array (.object "com/example/decreed/decreed/engine/Effect"))]
  resolved := Array.replicate 105 none
  statics := some 1 }

def pool11 : Array CpInfo := pool [(2, .class_ 4), (1, u "java/lang/Object"), (0, u "<init>"), (0, u "()V"), (35, .class_ 44), (1, u "java/util/Objects"), (0, u "requireNonNull"), (48, u "(Ljava/lang/Object;Ljava/lang/String;)Ljava/lang/Object;")] 89

def k11m0 : Method := { name := "<init>", desc := "()V", sig := { parameters := [], returnType := none }, accessFlags := 2, code := none }
def k11c1 : Code := { maxStack := 3, maxLocals := 2, code := jdk_31_method_11_code, exceptionTable := #[], attributes := #[] }
def k11m1 : Method := { name := "requireNonNull", desc := "(Ljava/lang/Object;Ljava/lang/String;)Ljava/lang/Object;", sig := { parameters := [(.object "java/lang/Object"), (.object "java/lang/String")], returnType := some (.object "java/lang/Object") }, accessFlags := 9, code := some k11c1 }
/-- java/util/Objects -/
def k11 : Class := { plain "java/util/Objects" (some 0) with
  accessFlags := 49
  interfaces := #[]
  cf := some (fileOf pool11 42 #[] #[{ accessFlags := 2, nameIndex := 5, descriptorIndex := 6, attributes := #[] }, { accessFlags := 9, nameIndex := 45, descriptorIndex := 94, attributes := #[] }] 49 2 #[] #[])
  fields := #[]
  methods := #[k11m0, k11m1]
  instanceTypes := #[]
  staticTypes := #[]
  resolved := Array.replicate 184 none
  statics := none }

def pool12 : Array CpInfo := pool [(1, .class_ 2), (0, u "java/lang/Cloneable"), (0, .class_ 4), (0, u "java/lang/Object")] 2

/-- java/lang/Cloneable -/
def k12 : Class := { plain "java/lang/Cloneable" (some 0) with
  accessFlags := 1537
  interfaces := #[]
  cf := some (fileOf pool12 1 #[] #[] 1537 3 #[] #[])
  fields := #[]
  methods := #[]
  instanceTypes := #[]
  staticTypes := #[]
  resolved := Array.replicate 7 none
  statics := none }

def pool13 : Array CpInfo := pool [(4, .class_ 6), (1, u "java/lang/Object"), (0, u "<init>"), (0, u "()V"), (5, .class_ 16), (1, u "java/lang/StringLatin1"), (104, u "$assertionsDisabled"), (0, u "Z"), (98, .class_ 223), (1, u "java/lang/StringLatin1$LinesSpliterator"), (57, u "equals"), (0, u "([B[B)Z"), (107, .class_ 391), (0, u "java/lang/StringLatin1$CharsSpliterator")] 3

def k13m0 : Method := { name := "<init>", desc := "()V", sig := { parameters := [], returnType := none }, accessFlags := 0, code := none }
def k13c1 : Code := { maxStack := 3, maxLocals := 3, code := jdk_43_method_13_code, exceptionTable := #[], attributes := #[] }
def k13m1 : Method := { name := "equals", desc := "([B[B)Z", sig := { parameters := [(.array .byte), (.array .byte)], returnType := some .boolean }, accessFlags := 9, code := some k13c1 }
/-- java/lang/StringLatin1 -/
def k13 : Class := { plain "java/lang/StringLatin1" (some 0) with
  accessFlags := 48
  interfaces := #[]
  cf := some (fileOf pool13 14 #[.nestMembers #[390, 221]] #[{ accessFlags := 0, nameIndex := 7, descriptorIndex := 8, attributes := #[] }, { accessFlags := 9, nameIndex := 281, descriptorIndex := 282, attributes := #[] }] 48 4 #[] #[{ accessFlags := 4120, nameIndex := 121, descriptorIndex := 122, attributes := #[] }])
  fields := #[{ name := "$assertionsDisabled", type := .boolean, accessFlags := 4120, slot := 0, constantValue := 0 }]
  methods := #[k13m0, k13m1]
  instanceTypes := #[]
  staticTypes := #[.boolean]
  resolved := Array.replicate 395 none
  statics := none }

def pool14 : Array CpInfo := pool [(2, .class_ 4), (1, u "java/lang/Object"), (0, u "<init>"), (0, u "()V"), (17, .class_ 26), (1, u "jdk/internal/util/Preconditions"), (28, .class_ 56), (0, u "jdk/internal/util/Preconditions$4"), (57, .class_ 115), (0, u "jdk/internal/util/Preconditions$1"), (7, u "SIOOBE_FORMATTER"), (0, u "Ljava/util/function/BiFunction;"), (0, .class_ 126), (0, u "jdk/internal/util/Preconditions$2"), (3, u "AIOOBE_FORMATTER"), (0, .class_ 132), (0, u "jdk/internal/util/Preconditions$3"), (3, u "IOOBE_FORMATTER")] 57

def k14m0 : Method := { name := "<init>", desc := "()V", sig := { parameters := [], returnType := none }, accessFlags := 1, code := none }
/-- jdk/internal/util/Preconditions -/
def k14 : Class := { plain "jdk/internal/util/Preconditions" (some 0) with
  accessFlags := 33
  interfaces := #[]
  cf := some (fileOf pool14 24 #[.nestMembers #[55, 131, 125, 114]] #[{ accessFlags := 1, nameIndex := 5, descriptorIndex := 6, attributes := #[] }] 33 2 #[] #[{ accessFlags := 25, nameIndex := 123, descriptorIndex := 124, attributes := #[] }, { accessFlags := 25, nameIndex := 130, descriptorIndex := 124, attributes := #[] }, { accessFlags := 25, nameIndex := 136, descriptorIndex := 124, attributes := #[] }])
  fields := #[{ name := "SIOOBE_FORMATTER", type := (.object "java/util/function/BiFunction"), accessFlags := 25, slot := 0, constantValue := 0 }, { name := "AIOOBE_FORMATTER", type := (.object "java/util/function/BiFunction"), accessFlags := 25, slot := 1, constantValue := 0 }, { name := "IOOBE_FORMATTER", type := (.object "java/util/function/BiFunction"), accessFlags := 25, slot := 2, constantValue := 0 }]
  methods := #[k14m0]
  instanceTypes := #[]
  staticTypes := #[(.object "java/util/function/BiFunction"), (.object "java/util/function/BiFunction"), (.object "java/util/function/BiFunction")]
  resolved := Array.replicate 194 none
  statics := some 2 }

def pool15 : Array CpInfo := pool [(9, u "<init>"), (6, .class_ 18), (1, u "java/lang/Object"), (0, u "()V"), (1, .class_ 23), (1, u "jdk/internal/util/ArraysSupport"), (0, u "LOG2_ARRAY_LONG_INDEX_SCALE"), (0, u "I"), (2, u "U"), (0, u "Ljdk/internal/misc/Unsafe;"), (8, u "BIG_ENDIAN"), (0, u "Z"), (8, u "LOG2_BYTE_BIT_SIZE"), (4, u "LOG2_ARRAY_INT_INDEX_SCALE"), (54, u "JLA"), (0, u "Ljdk/internal/access/JavaLangAccess;"), (11, u "LOG2_ARRAY_BOOLEAN_INDEX_SCALE"), (9, u "LOG2_ARRAY_BYTE_INDEX_SCALE"), (5, u "LOG2_ARRAY_CHAR_INDEX_SCALE"), (5, u "LOG2_ARRAY_SHORT_INDEX_SCALE"), (18, u "LOG2_ARRAY_FLOAT_INDEX_SCALE"), (24, u "LOG2_ARRAY_DOUBLE_INDEX_SCALE"), (89, u "T_BOOLEAN"), (2, u "T_CHAR"), (1, u "T_FLOAT"), (1, u "T_DOUBLE"), (1, u "T_BYTE"), (1, u "T_SHORT"), (1, u "T_INT"), (1, u "T_LONG"), (1, u "SOFT_MAX_ARRAY_LENGTH")] 83

def k15m0 : Method := { name := "<init>", desc := "()V", sig := { parameters := [], returnType := none }, accessFlags := 2, code := none }
/-- jdk/internal/util/ArraysSupport -/
def k15 : Class := { plain "jdk/internal/util/ArraysSupport" (some 0) with
  accessFlags := 33
  interfaces := #[]
  cf := some (fileOf pool15 21 #[] #[{ accessFlags := 2, nameIndex := 9, descriptorIndex := 19, attributes := #[] }] 33 16 #[] #[{ accessFlags := 24, nameIndex := 28, descriptorIndex := 29, attributes := #[] }, { accessFlags := 26, nameIndex := 38, descriptorIndex := 39, attributes := #[] }, { accessFlags := 25, nameIndex := 121, descriptorIndex := 25, attributes := #[] }, { accessFlags := 25, nameIndex := 131, descriptorIndex := 25, attributes := #[] }, { accessFlags := 25, nameIndex := 137, descriptorIndex := 25, attributes := #[] }, { accessFlags := 25, nameIndex := 143, descriptorIndex := 25, attributes := #[] }, { accessFlags := 25, nameIndex := 53, descriptorIndex := 25, attributes := #[] }, { accessFlags := 25, nameIndex := 24, descriptorIndex := 25, attributes := #[] }, { accessFlags := 25, nameIndex := 162, descriptorIndex := 25, attributes := #[] }, { accessFlags := 25, nameIndex := 187, descriptorIndex := 25, attributes := #[] }, { accessFlags := 26, nameIndex := 48, descriptorIndex := 25, attributes := #[] }, { accessFlags := 25, nameIndex := 277, descriptorIndex := 25, attributes := #[] }, { accessFlags := 25, nameIndex := 280, descriptorIndex := 25, attributes := #[] }, { accessFlags := 25, nameIndex := 282, descriptorIndex := 25, attributes := #[] }, { accessFlags := 25, nameIndex := 284, descriptorIndex := 25, attributes := #[] }, { accessFlags := 25, nameIndex := 286, descriptorIndex := 25, attributes := #[] }, { accessFlags := 25, nameIndex := 288, descriptorIndex := 25, attributes := #[] }, { accessFlags := 25, nameIndex := 290, descriptorIndex := 25, attributes := #[] }, { accessFlags := 25, nameIndex := 292, descriptorIndex := 25, attributes := #[] }, { accessFlags := 26, nameIndex := 108, descriptorIndex := 109, attributes := #[] }, { accessFlags := 25, nameIndex := 294, descriptorIndex := 25, attributes := #[] }])
  fields := #[{ name := "U", type := (.object "jdk/internal/misc/Unsafe"), accessFlags := 24, slot := 0, constantValue := 0 }, { name := "BIG_ENDIAN", type := .boolean, accessFlags := 26, slot := 1, constantValue := 0 }, { name := "LOG2_ARRAY_BOOLEAN_INDEX_SCALE", type := .int, accessFlags := 25, slot := 2, constantValue := 0 }, { name := "LOG2_ARRAY_BYTE_INDEX_SCALE", type := .int, accessFlags := 25, slot := 3, constantValue := 0 }, { name := "LOG2_ARRAY_CHAR_INDEX_SCALE", type := .int, accessFlags := 25, slot := 4, constantValue := 0 }, { name := "LOG2_ARRAY_SHORT_INDEX_SCALE", type := .int, accessFlags := 25, slot := 5, constantValue := 0 }, { name := "LOG2_ARRAY_INT_INDEX_SCALE", type := .int, accessFlags := 25, slot := 6, constantValue := 0 }, { name := "LOG2_ARRAY_LONG_INDEX_SCALE", type := .int, accessFlags := 25, slot := 7, constantValue := 0 }, { name := "LOG2_ARRAY_FLOAT_INDEX_SCALE", type := .int, accessFlags := 25, slot := 8, constantValue := 0 }, { name := "LOG2_ARRAY_DOUBLE_INDEX_SCALE", type := .int, accessFlags := 25, slot := 9, constantValue := 0 }, { name := "LOG2_BYTE_BIT_SIZE", type := .int, accessFlags := 26, slot := 10, constantValue := 0 }, { name := "T_BOOLEAN", type := .int, accessFlags := 25, slot := 11, constantValue := 0 }, { name := "T_CHAR", type := .int, accessFlags := 25, slot := 12, constantValue := 0 }, { name := "T_FLOAT", type := .int, accessFlags := 25, slot := 13, constantValue := 0 }, { name := "T_DOUBLE", type := .int, accessFlags := 25, slot := 14, constantValue := 0 }, { name := "T_BYTE", type := .int, accessFlags := 25, slot := 15, constantValue := 0 }, { name := "T_SHORT", type := .int, accessFlags := 25, slot := 16, constantValue := 0 }, { name := "T_INT", type := .int, accessFlags := 25, slot := 17, constantValue := 0 }, { name := "T_LONG", type := .int, accessFlags := 25, slot := 18, constantValue := 0 }, { name := "JLA", type := (.object "jdk/internal/access/JavaLangAccess"), accessFlags := 26, slot := 19, constantValue := 0 }, { name := "SOFT_MAX_ARRAY_LENGTH", type := .int, accessFlags := 25, slot := 20, constantValue := 0 }]
  methods := #[k15m0]
  instanceTypes := #[]
  staticTypes := #[(.object "jdk/internal/misc/Unsafe"), .boolean, .int, .int, .int, .int, .int, .int, .int, .int, .int, .int, .int, .int, .int, .int, .int, .int, .int, (.object "jdk/internal/access/JavaLangAccess"), .int]
  resolved := Array.replicate 378 none
  statics := none }

/-- the primitive byte -/
def k16 : Class := { plain "byte" none with kind := .primitive 'B', accessFlags := 0x411 }
/-- [B -/
def k17 : Class := { plain "[B" (some 0) with kind := .array 16 .byte, interfaces := #[12, 2], accessFlags := 1041 }

/-- the primitive char -/
def k18 : Class := { plain "char" none with kind := .primitive 'C', accessFlags := 0x411 }
/-- [C -/
def k19 : Class := { plain "[C" (some 0) with kind := .array 18 .char, interfaces := #[12, 2], accessFlags := 1041 }

/-- the primitive int -/
def k20 : Class := { plain "int" none with kind := .primitive 'I', accessFlags := 0x411 }
/-- [I -/
def k21 : Class := { plain "[I" (some 0) with kind := .array 20 .int, interfaces := #[12, 2], accessFlags := 1041 }

/-- [Lcom/example/decreed/decreed/engine/Effect; -/
def k22 : Class := { plain "[Lcom/example/decreed/decreed/engine/Effect;" (some 0) with kind := .array 10 (.object "com/example/decreed/decreed/engine/Effect"), interfaces := #[12, 2], accessFlags := 1041 }

def heap : Heap := #[{ cls := 7, slots := #[.long 0, .int 1, .null, .int 0, .null, .int 0, .int 0], vm := .statics 7 },
  { cls := 10, slots := #[.ref 4, .ref 5, .ref 3], vm := .statics 10 },
  { cls := 14, slots := #[.null, .null, .null], vm := .statics 14 },
  { cls := 22, slots := #[.ref 4, .ref 5], vm := .none },
  { cls := 10, slots := #[.null, .int 0, .int 0, .ref 6], vm := .none },
  { cls := 10, slots := #[.null, .int 1, .int 0, .ref 7], vm := .none },
  { cls := 7, slots := #[.ref 8, .int 0, .int 0, .int 0], vm := .none },
  { cls := 7, slots := #[.ref 9, .int 0, .int 0, .int 0], vm := .none },
  { cls := 17, slots := #[.int 97, .int 108, .int 108, .int 111, .int 119], vm := .none },
  { cls := 17, slots := #[.int 100, .int 101, .int 110, .int 121], vm := .none }]
def classes : Array Class := #[k0, k1, k2, k3, k4, k5, k6, k7, k8, k9, k10, k11, k12, k13, k14, k15, k16, k17, k18, k19, k20, k21, k22]
def interned : List (Array UInt16 × Addr) := []
def slotsUsed : Nat := 40
def theMethod : MethodId := ⟨1, 1⟩
def args0 : Array Value := #[.int 1]
def aboutOver (below : List Frame) : State where
  vm := { classes := classes, interned := interned.toArray }
  heap := heap
  slotsUsed := slotsUsed
  threads := #[{ frames := .invoking theMethod args0 :: below }]
def below0 : List Frame := [.native { method := ⟨0, 0⟩, args := #[] }]
def about1 : State := aboutOver below0
def p0 : Program := .bare "" "" ""
def e0 : Env := launch0.env 0 0 0
theorem w_frames : about1.frames = Frame.invoking theMethod args0 :: below0 := rfl
set_option maxRecDepth 65536 in
theorem w_args : argsFit about1.vm theMethod args0 = true := by decide +kernel
set_option maxRecDepth 65536 in
theorem w_heap : heapFits about1 = true := by decide +kernel
set_option maxRecDepth 65536 in
theorem w_runnable : about1.curStatus? = some .runnable := by decide +kernel
set_option maxRecDepth 65536 in
theorem w_alone : about1.alone = true := by decide +kernel
set_option maxRecDepth 65536 in
theorem w_named : about1.methodNamed? x = some theMethod := by decide +kernel
set_option maxRecDepth 65536 in
theorem w_hears : about1.hears theMethod below0 = true := by decide +kernel
set_option maxRecDepth 65536 in
theorem w_ripe : about1.ripe theMethod args0 below0 = true := by decide +kernel
theorem w_running : about1.status = .running := rfl
set_option maxRecDepth 65536 in
theorem w_room : about1.hasRoom e0.platform room_1 = true :=
  launch0.hasRoom_least _ room_1 (by decide +kernel) (by decide +kernel) (by decide +kernel) (by decide +kernel) (by decide +kernel) (by decide +kernel)
theorem allAtoms_all (ts : List Jvm.Cond) (a : Array Jvm.Value) (st : Jvm.State) : (allAtoms ts).before a st = ts.all (fun c => c.before a st) := by
  induction ts with
  | nil => rfl
  | cons c t ih =>
    show (Jvm.Cond.and c (allAtoms t)).before a st = _
    rw [Jvm.Cond.before_and, ih, List.all_cons]
def words1 : List Jvm.Cond := Jvm.Cond.code x code maxLocals ret :: tables_1
/-- a 'code' word, met by the world's own term for the bytes: nothing is compared byte by byte -/
theorem code_word {y : MethodName} {bytes : ByteArray} {mx : Nat} {rt : Option FieldType} {a : Array Value} {s : State} {m : MethodId} {meth : Method} {c : Code} (h1 : s.methodNamed? y = some m) (h2 : s.vm.method? m = some meth) (h3 : meth.code = some c) (h4 : c.code = bytes)
    (h5 : (c.maxLocals == mx && c.exceptionTable.isEmpty && decide (c.maxStack ≤ mostOperands) && decide (meth.sig.returnType = rt) && !meth.locks && decide (parseMethodDescriptor y.desc = some meth.sig)) = true) : (Jvm.Cond.code y bytes mx rt).before a s = true := by
  simp only [Bool.and_eq_true, beq_iff_eq, Bool.not_eq_true', decide_eq_true_eq] at h5
  obtain ⟨⟨⟨⟨⟨g1, g2⟩, g3⟩, g4⟩, g5⟩, g6⟩ := h5
  simp [Cond.before, Cond.holds, Cond.value, h1, h2, h3, h4, g1, g2, g3, g4, g5, g6]
def isCode : Jvm.Cond → Bool
  | .code _ _ _ _ => true
  | _ => false
theorem all_split {L : List Jvm.Cond} {P : Jvm.Cond → Bool} (h1 : L.all (fun c => isCode c || P c) = true) (h2 : ∀ c ∈ L.filter isCode, P c = true) : L.all P = true := by
  refine List.all_eq_true.mpr fun c hc => ?_
  have h := List.all_eq_true.mp h1 c hc
  rcases Bool.eq_false_or_eq_true (isCode c) with hi | hi
  · exact h2 c (List.mem_filter.mpr ⟨hc, hi⟩)
  · simpa [hi] using h
set_option maxRecDepth 65536 in
theorem w_c0 : (Jvm.Cond.code x code maxLocals ret).before args0 about1 = true := code_word (m := ⟨1, 1⟩) (meth := k1m1) (c := k1c1) (by decide +kernel) rfl rfl rfl (by decide +kernel)
set_option maxRecDepth 65536 in
theorem w_c1 : (Jvm.Cond.code ({ cls := "java/lang/String", name := "<init>", desc := "([C)V" } : Jvm.MethodName) jdk_42_method_3_code (2 : Nat) (Option.none : Option Jvm.ClassFile.FieldType)).before args0 about1 = true := code_word (m := ⟨7, 1⟩) (meth := k7m1) (c := k7c1) (by decide +kernel) rfl rfl rfl (by decide +kernel)
set_option maxRecDepth 65536 in
theorem w_c2 : (Jvm.Cond.code ({ cls := "java/lang/String", name := "<init>", desc := "([CIILjava/lang/Void;)V" } : Jvm.MethodName) jdk_42_method_149_code (6 : Nat) (Option.none : Option Jvm.ClassFile.FieldType)).before args0 about1 = true := code_word (m := ⟨7, 3⟩) (meth := k7m3) (c := k7c3) (by decide +kernel) rfl rfl rfl (by decide +kernel)
set_option maxRecDepth 65536 in
theorem w_c3 : (Jvm.Cond.code ({ cls := "java/lang/Object", name := "<init>", desc := "()V" } : Jvm.MethodName) object_method_1_code (1 : Nat) (Option.none : Option Jvm.ClassFile.FieldType)).before args0 about1 = true := code_word (m := ⟨0, 0⟩) (meth := k0m0) (c := k0c0) (by decide +kernel) rfl rfl rfl (by decide +kernel)
set_option maxRecDepth 65536 in
theorem w_c4 : (Jvm.Cond.code ({ cls := "java/lang/StringUTF16", name := "compress", desc := "([CII)[B" } : Jvm.MethodName) jdk_52_method_16_code (6 : Nat) (Option.some (Jvm.ClassFile.FieldType.array Jvm.ClassFile.FieldType.byte))).before args0 about1 = true := code_word (m := ⟨8, 2⟩) (meth := k8m2) (c := k8c2) (by decide +kernel) rfl rfl rfl (by decide +kernel)
set_option maxRecDepth 65536 in
theorem w_c5 : (Jvm.Cond.code ({ cls := "java/lang/StringUTF16", name := "compress", desc := "([CI[BII)I" } : Jvm.MethodName) jdk_52_method_21_code (7 : Nat) (Option.some Jvm.ClassFile.FieldType.int)).before args0 about1 = true := code_word (m := ⟨8, 3⟩) (meth := k8m3) (c := k8c3) (by decide +kernel) rfl rfl rfl (by decide +kernel)
set_option maxRecDepth 65536 in
theorem w_c6 : (Jvm.Cond.code ({ cls := "java/lang/StringUTF16", name := "coderFromArrayLen", desc := "([BI)B" } : Jvm.MethodName) jdk_52_method_15_code (2 : Nat) (Option.some Jvm.ClassFile.FieldType.byte)).before args0 about1 = true := code_word (m := ⟨8, 1⟩) (meth := k8m1) (c := k8c1) (by decide +kernel) rfl rfl rfl (by decide +kernel)
set_option maxRecDepth 65536 in
theorem w_c7 : (Jvm.Cond.code ({ cls := "com/example/decreed/decreed/engine/Effect", name := "parse", desc := "(Ljava/lang/String;)Lcom/example/decreed/decreed/engine/Effect;" } : Jvm.MethodName) prog_18_method_4_code (5 : Nat) (Option.some (Jvm.ClassFile.FieldType.object "com/example/decreed/decreed/engine/Effect"))).before args0 about1 = true := code_word (m := ⟨10, 1⟩) (meth := k10m1) (c := k10c1) (by decide +kernel) rfl rfl rfl (by decide +kernel)
set_option maxRecDepth 65536 in
theorem w_c8 : (Jvm.Cond.code ({ cls := "java/util/Objects", name := "requireNonNull", desc := "(Ljava/lang/Object;Ljava/lang/String;)Ljava/lang/Object;" } : Jvm.MethodName) jdk_31_method_11_code (2 : Nat) (Option.some (Jvm.ClassFile.FieldType.object "java/lang/Object"))).before args0 about1 = true := code_word (m := ⟨11, 1⟩) (meth := k11m1) (c := k11c1) (by decide +kernel) rfl rfl rfl (by decide +kernel)
set_option maxRecDepth 65536 in
theorem w_c9 : (Jvm.Cond.code ({ cls := "com/example/decreed/decreed/engine/Effect", name := "values", desc := "()[Lcom/example/decreed/decreed/engine/Effect;" } : Jvm.MethodName) prog_18_method_1_code (0 : Nat) (Option.some (Jvm.ClassFile.FieldType.array (Jvm.ClassFile.FieldType.object "com/example/decreed/decreed/engine/Effect")))).before args0 about1 = true := code_word (m := ⟨10, 0⟩) (meth := k10m0) (c := k10c0) (by decide +kernel) rfl rfl rfl (by decide +kernel)
set_option maxRecDepth 65536 in
theorem w_c10 : (Jvm.Cond.code ({ cls := "java/lang/String", name := "equals", desc := "(Ljava/lang/Object;)Z" } : Jvm.MethodName) jdk_42_method_66_code (3 : Nat) (Option.some Jvm.ClassFile.FieldType.boolean)).before args0 about1 = true := code_word (m := ⟨7, 2⟩) (meth := k7m2) (c := k7c2) (by decide +kernel) rfl rfl rfl (by decide +kernel)
set_option maxRecDepth 65536 in
theorem w_c11 : (Jvm.Cond.code ({ cls := "java/lang/StringLatin1", name := "equals", desc := "([B[B)Z" } : Jvm.MethodName) jdk_43_method_13_code (3 : Nat) (Option.some Jvm.ClassFile.FieldType.boolean)).before args0 about1 = true := code_word (m := ⟨13, 1⟩) (meth := k13m1) (c := k13c1) (by decide +kernel) rfl rfl rfl (by decide +kernel)
set_option maxRecDepth 65536 in
theorem w_c12 : (Jvm.Cond.code ({ cls := "com/example/decreed/decreed/engine/Effect", name := "toString", desc := "()Ljava/lang/String;" } : Jvm.MethodName) prog_18_method_5_code (1 : Nat) (Option.some (Jvm.ClassFile.FieldType.object "java/lang/String"))).before args0 about1 = true := code_word (m := ⟨10, 2⟩) (meth := k10m2) (c := k10c2) (by decide +kernel) rfl rfl rfl (by decide +kernel)
def codes1 : List Jvm.Cond := [Jvm.Cond.code x code maxLocals ret, Jvm.Cond.code ({ cls := "java/lang/String", name := "<init>", desc := "([C)V" } : Jvm.MethodName) jdk_42_method_3_code (2 : Nat) (Option.none : Option Jvm.ClassFile.FieldType), Jvm.Cond.code ({ cls := "java/lang/String", name := "<init>", desc := "([CIILjava/lang/Void;)V" } : Jvm.MethodName) jdk_42_method_149_code (6 : Nat) (Option.none : Option Jvm.ClassFile.FieldType), Jvm.Cond.code ({ cls := "java/lang/Object", name := "<init>", desc := "()V" } : Jvm.MethodName) object_method_1_code (1 : Nat) (Option.none : Option Jvm.ClassFile.FieldType), Jvm.Cond.code ({ cls := "java/lang/StringUTF16", name := "compress", desc := "([CII)[B" } : Jvm.MethodName) jdk_52_method_16_code (6 : Nat) (Option.some (Jvm.ClassFile.FieldType.array Jvm.ClassFile.FieldType.byte)), Jvm.Cond.code ({ cls := "java/lang/StringUTF16", name := "compress", desc := "([CI[BII)I" } : Jvm.MethodName) jdk_52_method_21_code (7 : Nat) (Option.some Jvm.ClassFile.FieldType.int), Jvm.Cond.code ({ cls := "java/lang/StringUTF16", name := "coderFromArrayLen", desc := "([BI)B" } : Jvm.MethodName) jdk_52_method_15_code (2 : Nat) (Option.some Jvm.ClassFile.FieldType.byte), Jvm.Cond.code ({ cls := "com/example/decreed/decreed/engine/Effect", name := "parse", desc := "(Ljava/lang/String;)Lcom/example/decreed/decreed/engine/Effect;" } : Jvm.MethodName) prog_18_method_4_code (5 : Nat) (Option.some (Jvm.ClassFile.FieldType.object "com/example/decreed/decreed/engine/Effect")), Jvm.Cond.code ({ cls := "java/util/Objects", name := "requireNonNull", desc := "(Ljava/lang/Object;Ljava/lang/String;)Ljava/lang/Object;" } : Jvm.MethodName) jdk_31_method_11_code (2 : Nat) (Option.some (Jvm.ClassFile.FieldType.object "java/lang/Object")), Jvm.Cond.code ({ cls := "com/example/decreed/decreed/engine/Effect", name := "values", desc := "()[Lcom/example/decreed/decreed/engine/Effect;" } : Jvm.MethodName) prog_18_method_1_code (0 : Nat) (Option.some (Jvm.ClassFile.FieldType.array (Jvm.ClassFile.FieldType.object "com/example/decreed/decreed/engine/Effect"))), Jvm.Cond.code ({ cls := "java/lang/String", name := "equals", desc := "(Ljava/lang/Object;)Z" } : Jvm.MethodName) jdk_42_method_66_code (3 : Nat) (Option.some Jvm.ClassFile.FieldType.boolean), Jvm.Cond.code ({ cls := "java/lang/StringLatin1", name := "equals", desc := "([B[B)Z" } : Jvm.MethodName) jdk_43_method_13_code (3 : Nat) (Option.some Jvm.ClassFile.FieldType.boolean), Jvm.Cond.code ({ cls := "com/example/decreed/decreed/engine/Effect", name := "toString", desc := "()Ljava/lang/String;" } : Jvm.MethodName) prog_18_method_5_code (1 : Nat) (Option.some (Jvm.ClassFile.FieldType.object "java/lang/String"))]
set_option maxRecDepth 65536 in
theorem codes_eq : words1.filter isCode = codes1 := rfl
theorem w_codes : ∀ c ∈ words1.filter isCode, c.before args0 about1 = true := by
  rw [codes_eq]
  intro c hc
  simp only [codes1, List.mem_cons, List.not_mem_nil, or_false] at hc
  rcases hc with rfl | rfl | rfl | rfl | rfl | rfl | rfl | rfl | rfl | rfl | rfl | rfl | rfl
  · exact w_c0
  · exact w_c1
  · exact w_c2
  · exact w_c3
  · exact w_c4
  · exact w_c5
  · exact w_c6
  · exact w_c7
  · exact w_c8
  · exact w_c9
  · exact w_c10
  · exact w_c11
  · exact w_c12
set_option maxRecDepth 65536 in
theorem w_t1 : (words1.take 24).all (fun c => isCode c || c.before args0 about1) = true := by decide +kernel
set_option maxRecDepth 65536 in
theorem w_t2 : ((words1.drop 24).take 24).all (fun c => isCode c || c.before args0 about1) = true := by decide +kernel
set_option maxRecDepth 65536 in
theorem w_t3 : (((words1.drop 24).drop 24).take 24).all (fun c => isCode c || c.before args0 about1) = true := by decide +kernel
set_option maxRecDepth 65536 in
theorem w_t4 : (((words1.drop 24).drop 24).drop 24).all (fun c => isCode c || c.before args0 about1) = true := by decide +kernel
theorem w_tables : (allAtoms (Jvm.Cond.code x code maxLocals ret :: tables_1)).before args0 about1 = true := by
  rw [allAtoms_all]
  show words1.all (fun c => c.before args0 about1) = true
  refine all_split ?_ w_codes
  rw [← List.take_append_drop 24 words1, List.all_append, w_t1, ← List.take_append_drop 24 (words1.drop 24), List.all_append, w_t2, ← List.take_append_drop 24 ((words1.drop 24).drop 24), List.all_append, w_t3, w_t4]
  rfl
set_option maxRecDepth 65536 in
theorem w_rest : rest_1_c.before args0 about1 = true := by decide +kernel
set_option maxRecDepth 65536 in
theorem w_case : (Jvm.Cond.and given_1 narrow_1).before args0 about1 = true := by decide +kernel
theorem w_applies : (headSpec (Jvm.Cond.code x code maxLocals ret :: tables_1) room_1).applies x e0.platform about1 = true :=
  (Spec.applies_iff w_frames).mpr ⟨w_running, w_runnable, w_alone, w_named, w_hears, w_ripe, w_room, w_tables⟩
theorem atStart : AtStart classFile x code maxLocals ret World_1 tables_1 room_1 Calls_1 rest_1 Pre_1 launch0 p0 e0 about1 theMethod args0 below0 :=
  ⟨lists_1, trivial, launch0.admits_env _ _ _, launch0.least_env, fairChoices_fair.cas, fairChoices_fair.clock, w_frames, w_args, w_heap, w_applies, trivial, w_rest, w_case⟩
end start1
theorem witness_1 : WitnessClaimed_1 := ⟨start1.p0, start1.e0, start1.about1, start1.theMethod, start1.args0, start1.below0, start1.atStart⟩
end Jvm.Pilot.@@N@@
