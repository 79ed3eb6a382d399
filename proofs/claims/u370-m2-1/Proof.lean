import JvmDerived
import JvmDerived.Pilot.@@N@@Statement
import JvmDerived.Pilot.@@N@@Code
set_option linter.unusedVariables false
set_option linter.unusedSimpArgs false
/- laws to paste: Road.backV (cut by pick.py; bodies as the Statement names them) -/
namespace Jvm.Pilot.@@N@@
namespace StrChars
open Jvm Sem ClassFile Op Lib Jvm.Stand Jvm.Free.XT Jvm.Free.ALB Jvm.Free.JM Jvm.Free
open Jvm.Lib.Cold (StaticIs)
/-- a char array whose places are chars -/
def Ch (a : Addr) (A : Cell) (U : State) : Prop := Arr .char a A U ∧ Typed .char A
theorem Ch.mv {a : Addr} {A : Cell} {U U' : State} (h : Ch a A U) (hal : U.vm.Alike U'.vm) (hh : U'.heap = U.heap) : Ch a A U' := ⟨h.1.mv hal hh, h.2⟩
theorem Ch.keep {a : Addr} {A : Cell} {U U' : State} (h : Ch a A U) (hal : U.vm.Alike U'.vm) (hk : U'.heap[a]? = some A) : Ch a A U' := ⟨h.1.keep hal hk, h.2⟩
/-- what place i of a char[]'s cell holds -/
def cv (A : Cell) (i : Nat) : Int32 := match A.slots[i]? with | some (.int x) => x | _ => 0
theorem Ch.get {a : Addr} {A : Cell} {U : State} (h : Ch a A U) {i : Nat} (hi : i < A.slots.size) : A.slots[i]? = some (.int (cv A i)) := by
  have e := Array.getElem?_eq_getElem hi
  have f := h.2 i _ e
  unfold cv; rw [e]
  generalize A.slots[i] = v at f
  cases v <;> simp [fits] at f ⊢
/-- the byte that i2b leaves of a char -/
def lo8 (x : Int32) : Int32 := x.toInt8.toInt32
theorem fits_lo8 (y : Int32) : fits .byte (.int (lo8 y)) = true := by
  have h1 := y.toInt8.le_toInt
  have h2 := y.toInt8.toInt_lt
  simp only [lo8, fits, Bool.and_eq_true, decide_eq_true_eq, Int32.le_iff_toInt_le, Int8.toInt_toInt32, show (-128 : Int32).toInt = -128 from by decide, show (127 : Int32).toInt = 127 from by decide]
  omega
/-- A' is A but that each place j of lo .. hi - 1 holds f j -/
def Laid (A A' : Cell) (lo hi : Nat) (f : Nat → Value) : Prop := A'.cls = A.cls ∧ A'.vm = A.vm ∧ A'.slots.size = A.slots.size ∧ ∀ i, A'.slots[i]? = if lo ≤ i ∧ i < hi then some (f i) else A.slots[i]?
theorem Laid.zero (A : Cell) (lo : Nat) (f : Nat → Value) : Laid A A lo (lo + 0) f := ⟨rfl, rfl, rfl, fun i => by rw [if_neg (by omega)]⟩
theorem Laid.step {A Ak : Cell} {lo k : Nat} {f : Nat → Value} {v : Value} (h : Laid A Ak lo k f) (hlo : lo ≤ k) (hk : k < Ak.slots.size) (hv : v = f k) : Laid A (Ak.setSlot k v) lo (k + 1) f := by
  refine ⟨h.1, h.2.1, by simpa [Cell.setSlot] using h.2.2.1, fun i => ?_⟩
  by_cases e : k = i
  · subst e; rw [Cell.slots_setSlot_self v hk, if_pos (by omega), hv]
  · rw [Cell.slots_setSlot_ne v e, h.2.2.2 i]
    by_cases q : lo ≤ i ∧ i < k
    · rw [if_pos q, if_pos (by omega)]
    · rw [if_neg q, if_neg (by omega)]
def U16 : String := "java/lang/StringUTF16"
namespace Cmp5
def yN : MethodName := ⟨"java/lang/StringUTF16", "compress", "([CI[BII)I"⟩
abbrev yB : ByteArray := jdk_52_method_21_code
theorem d0 : decode yB 0 = .ok (.iconst 0, 1) := by decide +kernel
theorem d1 : decode yB 1 = .ok (.istore 5, 2) := by decide +kernel
theorem d3 : decode yB 3 = .ok (.iload 5, 2) := by decide +kernel
theorem d5 : decode yB 5 = .ok (.iload 4, 2) := by decide +kernel
theorem d7 : decode yB 7 = .ok (.if_icmp (.ge) 37, 3) := by decide +kernel
theorem d10 : decode yB 10 = .ok (.aload_n 0, 1) := by decide +kernel
theorem d11 : decode yB 11 = .ok (.iload_n 1, 1) := by decide +kernel
theorem d12 : decode yB 12 = .ok (.caload, 1) := by decide +kernel
theorem d13 : decode yB 13 = .ok (.istore 6, 2) := by decide +kernel
theorem d15 : decode yB 15 = .ok (.iload 6, 2) := by decide +kernel
theorem d17 : decode yB 17 = .ok (.sipush 255, 3) := by decide +kernel
theorem d20 : decode yB 20 = .ok (.if_icmp (.le) 6, 3) := by decide +kernel
theorem d26 : decode yB 26 = .ok (.aload_n 2, 1) := by decide +kernel
theorem d27 : decode yB 27 = .ok (.iload_n 3, 1) := by decide +kernel
theorem d28 : decode yB 28 = .ok (.iload 6, 2) := by decide +kernel
theorem d30 : decode yB 30 = .ok (.i2b, 1) := by decide +kernel
theorem d31 : decode yB 31 = .ok (.bastore, 1) := by decide +kernel
theorem d32 : decode yB 32 = .ok (.iinc 1 1, 3) := by decide +kernel
theorem d35 : decode yB 35 = .ok (.iinc 3 1, 3) := by decide +kernel
theorem d38 : decode yB 38 = .ok (.iinc 5 1, 3) := by decide +kernel
theorem d41 : decode yB 41 = .ok (.goto (-38), 3) := by decide +kernel
theorem d44 : decode yB 44 = .ok (.iload 4, 2) := by decide +kernel
theorem d46 : decode yB 46 = .ok (.ireturn, 1) := by decide +kernel
def site : List Cond := []
def tab : Cond := tabOf yN yB 7 (some .int) site
def P (b : Addr) (A : Cell) (d : Addr) (B : Cell) (o q len : Nat) (args : Array Value) (s : State) : Prop := args = #[.ref b, .int (Int32.ofNat o), .ref d, .int (Int32.ofNat q), .int (Int32.ofNat len)] ∧ Ch b A s ∧ Arr .byte d B s ∧ b ≠ d ∧ o + len ≤ A.slots.size ∧ q + len ≤ B.slots.size ∧ ∀ i, i < len → ¬ 255 < cv A (o + i)
def E (b : Addr) (A : Cell) (d : Addr) (B : Cell) (o q len : Nat) (r : Option Value) (s u : State) : Prop := r = some (.int (Int32.ofNat len)) ∧ ∃ B', Put d B' s u ∧ Laid B B' q (q + len) (fun j => Value.int (lo8 (cv A (o + (j - q)))))
/-- no char of the range above 255: len; the places written hold each char's low byte -/
theorem law (l : Launch) (b : Addr) (A : Cell) (d : Addr) (B : Cell) (o q len : Nat) : Law l yN 5 5 0 0 yB 7 (some .int) site (P b A d B o q len) (E b A d B o q len) (copyLocs d q len) 0 0 := by
  refine Law.of_walk (plainFor_of_name (by decide +kernel)) (by decide +kernel) (by decide +kernel) (by decide) (fun _ _ h => by rw [h.1]; rfl) (fun _ U U' hal hh h => ⟨h.1, h.2.1.mv hal hh, h.2.2.1.mv hal hh, h.2.2.2⟩) (fun r U U' V V' h1 hal h2 h => ⟨h.1, h.2.elim fun B' q => ⟨B', q.1.mv h1 h2, q.2⟩⟩) ?_
  intro p e s m args below meth c s₁ X0 hexec hbytes hml hret hlk hnm hown hh0 W hP
  obtain ⟨rfl, hA, hB, hne, l1, l2, hp⟩ := hP
  have c1 : Steps p.tables e below (s₁.setTop (entryFrame m #[.ref b, .int (Int32.ofNat o), .ref d, .int (Int32.ofNat q), .int (Int32.ofNat len)] 7)) (s₁.setTop (mkF m 0 #[.val (.ref b), .val (.int (Int32.ofNat o)), .val (.ref d), .val (.int (Int32.ofNat q)), .val (.int (Int32.ofNat len)), .unset, .unset] [])) := entry rfl
  have hA0 := hA.1.mv X0.warmed.alike hh0
  have hB0 := hB.mv X0.warmed.alike hh0
  have a31 := hA.1.2.2.2
  have c2 : Steps p.tables e below (s₁.setTop (entryFrame m #[.ref b, .int (Int32.ofNat o), .ref d, .int (Int32.ofNat q), .int (Int32.ofNat len)] 7)) (s₁.setTop (mkF m 3 #[.val (.ref b), .val (.int (Int32.ofNat o)), .val (.ref d), .val (.int (Int32.ofNat q)), .val (.int (Int32.ofNat len)), .val (.int 0), .unset] [])) := c1.trans (by
    refine iconstV X0.here hexec rfl 0 (hb hbytes d0) (by decide) ?_
    refine XS.istore X0.here hexec rfl (hb hbytes d1) rfl rfl ?_
    exact Steps.refl _)
  have loop : ∀ (r i : Nat), i + r = len → ∀ (z : Slot), (z = .unset ∨ ∃ w, z = .val w ∧ w.category = 1) → ∀ (Tl : State) (Bk : Cell), Stand p l e { frames := 0, locals := 0, cells := 0, slots := 0 } s m #[.ref b, .int (Int32.ofNat o), .ref d, .int (Int32.ofNat q), .int (Int32.ofNat len)] below meth c Tl ([] ++ copyLocs d q i) 0 0 → Put d Bk s₁ Tl → Laid B Bk q (q + i) (fun j => Value.int (lo8 (cv A (o + (j - q))))) →
      Steps p.tables e below (s₁.setTop (entryFrame m #[.ref b, .int (Int32.ofNat o), .ref d, .int (Int32.ofNat q), .int (Int32.ofNat len)] 7)) (Tl.setTop (mkF m 3 #[.val (.ref b), .val (.int (Int32.ofNat (o + i))), .val (.ref d), .val (.int (Int32.ofNat (q + i))), .val (.int (Int32.ofNat len)), .val (.int (Int32.ofNat i)), z] [])) → ∃ (T' : State) (B' : Cell) (z' : Slot), Stand p l e { frames := 0, locals := 0, cells := 0, slots := 0 } s m #[.ref b, .int (Int32.ofNat o), .ref d, .int (Int32.ofNat q), .int (Int32.ofNat len)] below meth c T' ([] ++ copyLocs d q len) 0 0 ∧ Put d B' s₁ T' ∧ Laid B B' q (q + len) (fun j => Value.int (lo8 (cv A (o + (j - q))))) ∧
      Steps p.tables e below (s₁.setTop (entryFrame m #[.ref b, .int (Int32.ofNat o), .ref d, .int (Int32.ofNat q), .int (Int32.ofNat len)] 7)) (T'.setTop (mkF m 3 #[.val (.ref b), .val (.int (Int32.ofNat (o + len))), .val (.ref d), .val (.int (Int32.ofNat (q + len))), .val (.int (Int32.ofNat len)), .val (.int (Int32.ofNat len)), z'] [])) := by
    intro r
    induction r with
    | zero =>
      intro i hi z hz Tl Bk Xl pl fl cl
      have hil : i = len := by omega
      rw [hil] at Xl fl cl
      exact ⟨Tl, Bk, z, Xl, pl, fl, cl⟩
    | succ r ih =>
      intro i hi z hz Tl Bk Xl pl fl cl
      have all := X0.warmed.alike.symm.trans Xl.warmed.alike
      have hAl := hA0.keep all (pl.other hne hA0.1)
      have hBk := hB0.like all pl.1 fl.1 fl.2.1 fl.2.2.1
      have hlt : q + i < Bk.slots.size := by rw [fl.2.2.1]; omega
      have c3 : Steps p.tables e below (s₁.setTop (entryFrame m #[.ref b, .int (Int32.ofNat o), .ref d, .int (Int32.ofNat q), .int (Int32.ofNat len)] 7)) (Tl.setTop (mkF m 12 #[.val (.ref b), .val (.int (Int32.ofNat (o + i))), .val (.ref d), .val (.int (Int32.ofNat (q + i))), .val (.int (Int32.ofNat len)), .val (.int (Int32.ofNat i)), z] [.int (Int32.ofNat (o + i)), .ref b])) := cl.trans (by
        refine XS.iload Xl.here hexec rfl (hb hbytes d3) rfl ?_
        refine XS.iload Xl.here hexec rfl (hb hbytes d5) rfl ?_
        refine XS.icmpNo Xl.here hexec rfl (hb hbytes d7) rfl (ii_ge_f (lt32 (by omega) (by omega))) ?_
        refine XS.aloadN Xl.here hexec rfl (hb hbytes d10) rfl rfl ?_
        refine XS.iloadN Xl.here hexec rfl (hb hbytes d11) rfl ?_
        exact Steps.refl _)
      have c4 : Steps p.tables e below (s₁.setTop (entryFrame m #[.ref b, .int (Int32.ofNat o), .ref d, .int (Int32.ofNat q), .int (Int32.ofNat len)] 7)) (Tl.setTop (mkF m 13 #[.val (.ref b), .val (.int (Int32.ofNat (o + i))), .val (.ref d), .val (.int (Int32.ofNat (q + i))), .val (.int (Int32.ofNat len)), .val (.int (Int32.ofNat i)), z] [.int (cv A (o + i))])) := c3.trans (by
        refine Xl.aget hexec hAl rfl (hA.get (i := o + i) (by omega)) rfl rfl (hb hbytes d12) ?_
        exact Steps.refl _)
      have c5 : Steps p.tables e below (s₁.setTop (entryFrame m #[.ref b, .int (Int32.ofNat o), .ref d, .int (Int32.ofNat q), .int (Int32.ofNat len)] 7)) (Tl.setTop (mkF m 15 #[.val (.ref b), .val (.int (Int32.ofNat (o + i))), .val (.ref d), .val (.int (Int32.ofNat (q + i))), .val (.int (Int32.ofNat len)), .val (.int (Int32.ofNat i)), .val (.int (cv A (o + i)))] [])) := c4.trans (by
        refine XS.istoreS Xl.here hexec rfl (hb hbytes d13) rfl rfl hz ?_
        exact Steps.refl _)
      have c6 : Steps p.tables e below (s₁.setTop (entryFrame m #[.ref b, .int (Int32.ofNat o), .ref d, .int (Int32.ofNat q), .int (Int32.ofNat len)] 7)) (Tl.setTop (mkF m 31 #[.val (.ref b), .val (.int (Int32.ofNat (o + i))), .val (.ref d), .val (.int (Int32.ofNat (q + i))), .val (.int (Int32.ofNat len)), .val (.int (Int32.ofNat i)), .val (.int (cv A (o + i)))] [.int (lo8 (cv A (o + i))), .int (Int32.ofNat (q + i)), .ref d])) := c5.trans (by
        refine XS.iload Xl.here hexec rfl (hb hbytes d15) rfl ?_
        refine sipushV Xl.here hexec rfl 255 (hb hbytes d17) (by decide) ?_
        refine XS.icmpYes Xl.here hexec rfl (pc0 := 20) rfl (hb hbytes d20) rfl (ii_le_t (hp i (by omega))) (by decide) rfl ?_
        refine XS.aloadN Xl.here hexec rfl (hb hbytes d26) rfl rfl ?_
        refine XS.iloadN Xl.here hexec rfl (hb hbytes d27) rfl ?_
        refine XS.iload Xl.here hexec rfl (hb hbytes d28) rfl ?_
        refine i2b Xl.here hexec rfl (hb hbytes d30) rfl ?_
        exact Steps.refl _)
      obtain ⟨T7, X7, p7, st7⟩ := Xl.aput hexec hBk rfl hlt rfl (fits_lo8 (cv A (o + i))) (g := (mkF m 31 #[.val (.ref b), .val (.int (Int32.ofNat (o + i))), .val (.ref d), .val (.int (Int32.ofNat (q + i))), .val (.int (Int32.ofNat len)), .val (.int (Int32.ofNat i)), .val (.int (cv A (o + i)))] [.int (lo8 (cv A (o + i))), .int (Int32.ofNat (q + i)), .ref d])) rfl (rest := []) rfl (hb hbytes d31)
      have c8 : Steps p.tables e below (s₁.setTop (entryFrame m #[.ref b, .int (Int32.ofNat o), .ref d, .int (Int32.ofNat q), .int (Int32.ofNat len)] 7)) (T7.setTop (mkF m 32 #[.val (.ref b), .val (.int (Int32.ofNat (o + i))), .val (.ref d), .val (.int (Int32.ofNat (q + i))), .val (.int (Int32.ofNat len)), .val (.int (Int32.ofNat i)), .val (.int (cv A (o + i)))] [])) := c6.trans (st7 _ (Steps.refl _))
      have c9 : Steps p.tables e below (s₁.setTop (entryFrame m #[.ref b, .int (Int32.ofNat o), .ref d, .int (Int32.ofNat q), .int (Int32.ofNat len)] 7)) (T7.setTop (mkF m 3 #[.val (.ref b), .val (.int (Int32.ofNat (o + i) + 1)), .val (.ref d), .val (.int (Int32.ofNat (q + i) + 1)), .val (.int (Int32.ofNat len)), .val (.int (Int32.ofNat i + 1)), .val (.int (cv A (o + i)))] [])) := c8.trans (by
        refine iincV X7.here hexec rfl 1 (hb hbytes d32) (by decide) rfl rfl ?_
        refine iincV X7.here hexec rfl 1 (hb hbytes d35) (by decide) rfl rfl ?_
        refine iincV X7.here hexec rfl 1 (hb hbytes d38) (by decide) rfl rfl ?_
        refine XS.goto X7.here hexec rfl (pc0 := 41) rfl (hb hbytes d41) (by decide) rfl ?_
        exact Steps.refl _)
      have c10 : Steps p.tables e below (s₁.setTop (entryFrame m #[.ref b, .int (Int32.ofNat o), .ref d, .int (Int32.ofNat q), .int (Int32.ofNat len)] 7)) (T7.setTop (mkF m 3 #[.val (.ref b), .val (.int (Int32.ofNat (o + (i + 1)))), .val (.ref d), .val (.int (Int32.ofNat (q + (i + 1)))), .val (.int (Int32.ofNat len)), .val (.int (Int32.ofNat (i + 1))), .val (.int (cv A (o + i)))] [])) := by
        have := c9
        rw [succ32, succ32, succ32] at this
        exact this
      exact ih (i + 1) (by omega) _ (Or.inr ⟨_, rfl, rfl⟩) T7 _ (by rw [copyLocs_step, ← List.append_assoc]; exact X7) (pl.trans p7) (fl.step (by omega) hlt (by simp)) c10
  obtain ⟨T9, B9, z9, X9, p9, f9, g9⟩ := loop len 0 (by omega) .unset (Or.inl rfl) s₁ B (by simpa [copyLocs] using X0) ⟨hB0.1, fun _ _ => rfl, rfl⟩ (Laid.zero _ _ _) c2
  have c11 : Steps p.tables e below (s₁.setTop (entryFrame m #[.ref b, .int (Int32.ofNat o), .ref d, .int (Int32.ofNat q), .int (Int32.ofNat len)] 7)) (T9.setTop (mkF m 46 #[.val (.ref b), .val (.int (Int32.ofNat (o + len))), .val (.ref d), .val (.int (Int32.ofNat (q + len))), .val (.int (Int32.ofNat len)), .val (.int (Int32.ofNat len)), z9] [.int (Int32.ofNat len)])) := g9.trans (by
    refine XS.iload X9.here hexec rfl (hb hbytes d3) rfl ?_
    refine XS.iload X9.here hexec rfl (hb hbytes d5) rfl ?_
    refine XS.icmpYes X9.here hexec rfl (pc0 := 7) rfl (hb hbytes d7) rfl (ii_ge_t (nlt32 (by omega) (Nat.le_refl _))) (by decide) rfl ?_
    refine XS.iload X9.here hexec rfl (hb hbytes d44) rfl ?_
    exact Steps.refl _)
  exact ⟨T9, some (.int (Int32.ofNat len)), _, _, _, X9, by simp, rfl, rfl, (fun h => by cases h), ⟨rfl, B9, p9.from hh0, f9⟩, fun fs hl => c11.trans (X9.ireturnOut hexec hret rfl (Or.inl rfl) (hb hbytes d46) hl)⟩
end Cmp5
namespace Cmp3
def yN : MethodName := ⟨"java/lang/StringUTF16", "compress", "([CII)[B"⟩
abbrev yB : ByteArray := jdk_52_method_16_code
theorem d0 : decode yB 0 = .ok (.iload_n 2, 1) := by decide +kernel
theorem d1 : decode yB 1 = .ok (.newarray .byte, 2) := by decide +kernel
theorem d3 : decode yB 3 = .ok (.astore_n 3, 1) := by decide +kernel
theorem d4 : decode yB 4 = .ok (.aload_n 0, 1) := by decide +kernel
theorem d5 : decode yB 5 = .ok (.iload_n 1, 1) := by decide +kernel
theorem d6 : decode yB 6 = .ok (.aload_n 3, 1) := by decide +kernel
theorem d7 : decode yB 7 = .ok (.iconst 0, 1) := by decide +kernel
theorem d8 : decode yB 8 = .ok (.iload_n 2, 1) := by decide +kernel
theorem d9 : decode yB 9 = .ok (.invokestatic 115, 3) := by decide +kernel
theorem d12 : decode yB 12 = .ok (.istore 4, 2) := by decide +kernel
theorem d14 : decode yB 14 = .ok (.iload 4, 2) := by decide +kernel
theorem d16 : decode yB 16 = .ok (.iload_n 2, 1) := by decide +kernel
theorem d17 : decode yB 17 = .ok (.if_icmp (.eq) 40, 3) := by decide +kernel
theorem d57 : decode yB 57 = .ok (.aload_n 3, 1) := by decide +kernel
theorem d58 : decode yB 58 = .ok (.areturn, 1) := by decide +kernel
def site : List Cond := [.arrayClass .byte, Cmp5.tab] ++ staticW U16 115 Cmp5.yN
def tab : Cond := tabOf yN yB 6 (some (.array .byte)) site
def P (b : Addr) (A : Cell) (o len : Nat) (args : Array Value) (s : State) : Prop := args = #[.ref b, .int (Int32.ofNat o), .int (Int32.ofNat len)] ∧ Ch b A s ∧ o + len ≤ A.slots.size ∧ len ≤ 536870912 ∧ ∀ i, i < len → ¬ 255 < cv A (o + i)
def E (b : Addr) (A : Cell) (o len : Nat) (r : Option Value) (s u : State) : Prop := NewArr .byte "[B" len (fun j => .int (lo8 (cv A (o + j)))) r s u ∧ u.heap.size = s.heap.size + 1
/-- no char of the range above 255: a new byte[] of their low bytes -/
theorem law (l : Launch) (b : Addr) (A : Cell) (o len : Nat) : Law l yN 3 3 1 18 yB 6 (some (.array .byte)) site (P b A o len) (E b A o len) [] 1 len := by
  refine Law.of_walk (plainFor_of_name (by decide +kernel)) (by decide +kernel) (by decide +kernel) (by decide) (fun _ _ h => by rw [h.1]; rfl) (fun _ U U' hal hh h => ⟨h.1, h.2.1.mv hal hh, h.2.2⟩) (fun r U U' V V' h1 hal h2 h => ⟨NewArr.mv r U U' V V' h1 hal h2 h.1, by rw [h1, h2]; exact h.2⟩) ?_
  intro p e s m args below meth c s₁ X0 hexec hbytes hml hret hlk hnm hown hh0 W hP
  obtain ⟨rfl, hA, l1, l2, hp⟩ := hP
  have a31 := hA.1.2.2.2
  have c1 : Steps p.tables e below (s₁.setTop (entryFrame m #[.ref b, .int (Int32.ofNat o), .int (Int32.ofNat len)] 6)) (s₁.setTop (mkF m 0 #[.val (.ref b), .val (.int (Int32.ofNat o)), .val (.int (Int32.ofNat len)), .unset, .unset, .unset] [])) := entry rfl
  have c2 : Steps p.tables e below (s₁.setTop (entryFrame m #[.ref b, .int (Int32.ofNat o), .int (Int32.ofNat len)] 6)) (s₁.setTop (mkF m 1 #[.val (.ref b), .val (.int (Int32.ofNat o)), .val (.int (Int32.ofNat len)), .unset, .unset, .unset] [.int (Int32.ofNat len)])) := c1.trans (by
    refine XS.iloadN X0.here hexec rfl (hb hbytes d0) rfl ?_
    exact Steps.refl _)
  obtain ⟨T3, B3, X3, ba3, bs3, bv3, bh3, bf3, st3⟩ := X0.anew hexec (atype := .byte) (wk W (.arrayClass .byte)) rfl (by show len * 1 ≤ _; omega) (by omega) (g := (mkF m 1 #[.val (.ref b), .val (.int (Int32.ofNat o)), .val (.int (Int32.ofNat len)), .unset, .unset, .unset] [.int (Int32.ofNat len)])) rfl (hb hbytes d1) (rest := []) rfl (Nat.le_refl _) (by show 0 + len ≤ len; omega)
  rw [hh0] at ba3 st3
  have kp3 : XT.Kept s T3 := (XT.Kept.of_eq hh0).push bh3
  have hA3 := hA.keep X3.warmed.alike (kp3 _ _ hA.1.1)
  have hne : b ≠ s.heap.size := hA.1.ne
  have c4 : Steps p.tables e below (s₁.setTop (entryFrame m #[.ref b, .int (Int32.ofNat o), .int (Int32.ofNat len)] 6)) (T3.setTop (mkF m 3 #[.val (.ref b), .val (.int (Int32.ofNat o)), .val (.int (Int32.ofNat len)), .unset, .unset, .unset] [.ref s.heap.size])) := c2.trans (st3 _ (Steps.refl _))
  have c5 : Steps p.tables e below (s₁.setTop (entryFrame m #[.ref b, .int (Int32.ofNat o), .int (Int32.ofNat len)] 6)) (T3.setTop (mkF m 9 #[.val (.ref b), .val (.int (Int32.ofNat o)), .val (.int (Int32.ofNat len)), .val (.ref s.heap.size), .unset, .unset] [.int (Int32.ofNat len), .int 0, .ref s.heap.size, .int (Int32.ofNat o), .ref b])) := c4.trans (by
    refine XS.astoreN X3.here hexec rfl (hb hbytes d3) rfl rfl rfl ?_
    refine XS.aloadN X3.here hexec rfl (hb hbytes d4) rfl rfl ?_
    refine XS.iloadN X3.here hexec rfl (hb hbytes d5) rfl ?_
    refine XS.aloadN X3.here hexec rfl (hb hbytes d6) rfl rfl ?_
    refine iconstV X3.here hexec rfl 0 (hb hbytes d7) (by decide) ?_
    refine XS.iloadN X3.here hexec rfl (hb hbytes d8) rfl ?_
    exact Steps.refl _)
  obtain ⟨v6, T6, X6, E6, g6⟩ := X3.callS hexec (Cmp5.law l b A s.heap.size B3 o 0 len) hown (wks W (staticW U16 115 Cmp5.yN)) (wk W Cmp5.tab) (W := 0) (Nat.le_of_ble_eq_true rfl) (Nat.le_of_ble_eq_true rfl) (Nat.le_refl _) (by show 0 + len + 0 ≤ len; omega) (g := (mkF m 9 #[.val (.ref b), .val (.int (Int32.ofNat o)), .val (.int (Int32.ofNat len)), .val (.ref s.heap.size), .unset, .unset] [.int (Int32.ofNat len), .int (Int32.ofNat 0), .ref s.heap.size, .int (Int32.ofNat o), .ref b])) rfl (by rw [hml]; rfl) c5 (argsL := [.ref b, .int (Int32.ofNat o), .ref s.heap.size, .int (Int32.ofNat 0), .int (Int32.ofNat len)]) (rest := []) rfl rfl (by show 2 * 0 + 0 ≤ _; decide) (hb hbytes d9) (⟨rfl, hA3, ba3, hne, l1, by rw [bs3]; simp, hp⟩)
  obtain ⟨rfl, B6, p6, f6⟩ := E6
  have c7 : Steps p.tables e below (s₁.setTop (entryFrame m #[.ref b, .int (Int32.ofNat o), .int (Int32.ofNat len)] 6)) (T6.setTop (mkF m 12 #[.val (.ref b), .val (.int (Int32.ofNat o)), .val (.int (Int32.ofNat len)), .val (.ref s.heap.size), .unset, .unset] [.int (Int32.ofNat len)])) := g6
  have c8 : Steps p.tables e below (s₁.setTop (entryFrame m #[.ref b, .int (Int32.ofNat o), .int (Int32.ofNat len)] 6)) (T6.setTop (mkF m 58 #[.val (.ref b), .val (.int (Int32.ofNat o)), .val (.int (Int32.ofNat len)), .val (.ref s.heap.size), .val (.int (Int32.ofNat len)), .unset] [.ref s.heap.size])) := c7.trans (by
    refine XS.istore X6.here hexec rfl (hb hbytes d12) rfl rfl ?_
    refine XS.iload X6.here hexec rfl (hb hbytes d14) rfl ?_
    refine XS.iloadN X6.here hexec rfl (hb hbytes d16) rfl ?_
    refine XS.icmpYes X6.here hexec rfl (pc0 := 17) rfl (hb hbytes d17) rfl (ii_eq_t rfl) (by decide) rfl ?_
    refine XS.aloadN X6.here hexec rfl (hb hbytes d57) rfl rfl ?_
    exact Steps.refl _)
  have X8 := X6.wide (L' := []) (cells' := 1) (slots' := len) (fun x hx hlt => by
    simp only [List.nil_append, copyLocs, List.mem_map, List.mem_range] at hx
    obtain ⟨i, -, rfl⟩ := hx
    exact absurd hlt (Nat.lt_irrefl _)) (Nat.le_refl _) (by omega)
  exact ⟨T6, some (.ref s.heap.size), _, _, _, X8, rfl, rfl, rfl, (fun h => by cases h), ⟨⟨rfl, B6, ba3.like (X3.warmed.alike.symm.trans X6.warmed.alike) p6.1 f6.1 f6.2.1 f6.2.2.1, f6.2.1.trans bv3, by rw [X6.warmed.alike.findClass, f6.1]; exact bf3, by rw [f6.2.2.1, bs3]; simp, fun j hj => by rw [f6.2.2.2 j, if_pos (by omega)]; rfl, kp3.put p6 (Nat.le_refl _)⟩, by rw [p6.2.2, bh3, hh0]; simp⟩, fun fs hl => c8.trans (X8.areturnOut hexec rfl hret rfl (hb hbytes d58) hl)⟩
end Cmp3
namespace CodL
def yN : MethodName := ⟨"java/lang/StringUTF16", "coderFromArrayLen", "([BI)B"⟩
abbrev yB : ByteArray := jdk_52_method_15_code
theorem d0 : decode yB 0 = .ok (.iload_n 1, 1) := by decide +kernel
theorem d1 : decode yB 1 = .ok (.aload_n 0, 1) := by decide +kernel
theorem d2 : decode yB 2 = .ok (.arraylength, 1) := by decide +kernel
theorem d3 : decode yB 3 = .ok (.isub, 1) := by decide +kernel
theorem d4 : decode yB 4 = .ok (.bipush 31, 2) := by decide +kernel
theorem d6 : decode yB 6 = .ok (.iushr, 1) := by decide +kernel
theorem d7 : decode yB 7 = .ok (.i2b, 1) := by decide +kernel
theorem d8 : decode yB 8 = .ok (.ireturn, 1) := by decide +kernel
def site : List Cond := []
def tab : Cond := tabOf yN yB 2 (some .byte) site
def P (d : Addr) (B : Cell) (args : Array Value) (s : State) : Prop := args = #[.ref d, .int (Int32.ofNat B.slots.size)] ∧ Arr .byte d B s
def E (r : Option Value) (s u : State) : Prop := XT.PureE (some (.int 0)) r s u
/-- an array as long as the number of chars: LATIN1 -/
theorem law (l : Launch) (d : Addr) (B : Cell) : Law l yN 2 2 0 0 yB 2 (some .byte) site (P d B) E [] 0 0 := by
  refine Law.of_walk (plainFor_of_name (by decide +kernel)) (by decide +kernel) (by decide +kernel) (by decide) (fun _ _ h => by rw [h.1]; rfl) (fun _ U U' hal hh h => ⟨h.1, h.2.mv hal hh⟩) (fun r U U' V V' h1 hal h2 h => XT.PureE.mv r U U' V V' h1 hal h2 h) ?_
  intro p e s m args below meth c s₁ X0 hexec hbytes hml hret hlk hnm hown hh0 W hP
  obtain ⟨rfl, hB⟩ := hP
  have hB0 := hB.mv X0.warmed.alike hh0
  have c1 : Steps p.tables e below (s₁.setTop (entryFrame m #[.ref d, .int (Int32.ofNat B.slots.size)] 2)) (s₁.setTop (mkF m 0 #[.val (.ref d), .val (.int (Int32.ofNat B.slots.size))] [])) := entry rfl
  have c2 : Steps p.tables e below (s₁.setTop (entryFrame m #[.ref d, .int (Int32.ofNat B.slots.size)] 2)) (s₁.setTop (mkF m 2 #[.val (.ref d), .val (.int (Int32.ofNat B.slots.size))] [.ref d, .int (Int32.ofNat B.slots.size)])) := c1.trans (by
    refine XS.iloadN X0.here hexec rfl (hb hbytes d0) rfl ?_
    refine XS.aloadN X0.here hexec rfl (hb hbytes d1) rfl rfl ?_
    exact Steps.refl _)
  have c3 : Steps p.tables e below (s₁.setTop (entryFrame m #[.ref d, .int (Int32.ofNat B.slots.size)] 2)) (s₁.setTop (mkF m 8 #[.val (.ref d), .val (.int (Int32.ofNat B.slots.size))] [.int (lo8 (ushr (Int32.ofNat B.slots.size - Int32.ofNat B.slots.size) 31))])) := c2.trans (by
    refine X0.alen hexec hB0 rfl rfl (hb hbytes d2) ?_
    refine XS.isub X0.here hexec rfl (hb hbytes d3) rfl ?_
    refine bipushV X0.here hexec rfl 31 (hb hbytes d4) (by decide) ?_
    refine iushr X0.here hexec rfl (hb hbytes d6) rfl ?_
    refine i2b X0.here hexec rfl (hb hbytes d7) rfl ?_
    exact Steps.refl _)
  have e0 : lo8 (ushr (Int32.ofNat B.slots.size - Int32.ofNat B.slots.size) 31) = 0 := by rw [Int32.sub_self]; decide
  rw [e0] at c3
  exact ⟨s₁, some (.int 0), _, _, _, X0, rfl, rfl, rfl, (fun h => by cases h), ⟨rfl, hh0⟩, fun fs hl => c3.trans (X0.ireturnOut hexec hret rfl (Or.inr (Or.inr (Or.inl rfl))) (hb hbytes d8) hl)⟩
end CodL
/-- the String at a is Latin-1 over a new byte[] (the heap's one new cell): the low bytes of the len chars of A from o on; every cell but a is kept -/
def Got (a : Addr) (D : Cell) (fV fC : Field) (A : Cell) (o len : Nat) (r : Option Value) (s u : State) : Prop := r = none ∧ ∃ D' V : Cell, Blank "java/lang/String" a D' u ∧ Same D D' [fV.slot, fC.slot] ∧ D'.slots[fV.slot]? = some (.ref s.heap.size) ∧ D'.slots[fC.slot]? = some (.int 0) ∧ Arr .byte s.heap.size V u ∧ V.vm = .none ∧ u.vm.findClass "[B" = some V.cls ∧ V.slots.size = len ∧ (∀ j, j < len → V.slots[j]? = some (.int (lo8 (cv A (o + j))))) ∧ (∀ (y : Addr) (c : Cell), y ≠ a → s.heap[y]? = some c → u.heap[y]? = some c) ∧ u.heap.size = s.heap.size + 1
theorem Got.mv {a : Addr} {D A : Cell} {fV fC : Field} {o len : Nat} : ∀ r (U U' V V' : State), U'.heap = U.heap → V.vm.Alike V'.vm → V'.heap = V.heap → Got a D fV fC A o len r U V → Got a D fV fC A o len r U' V' :=
  fun r U U' V V' h1 hal h2 ⟨e0, D', X, a1, a2, a3, a4, a5, a6, a7, a8, a9, a10, a11⟩ => ⟨e0, D', X, a1.mv hal h2, a2, by rw [h1]; exact a3, a4, by rw [h1]; exact a5.mv hal h2, a6, by rw [hal.findClass]; exact a7, a8, a9, by rw [h1, h2]; exact a10, by rw [h1, h2]; exact a11⟩
namespace New4
def yN : MethodName := ⟨"java/lang/String", "<init>", "([CIILjava/lang/Void;)V"⟩
abbrev yB : ByteArray := jdk_42_method_149_code
theorem d0 : decode yB 0 = .ok (.aload_n 0, 1) := by decide +kernel
theorem d1 : decode yB 1 = .ok (.invokespecial 1, 3) := by decide +kernel
theorem d4 : decode yB 4 = .ok (.iload_n 3, 1) := by decide +kernel
theorem d5 : decode yB 5 = .ok (.ifCond (.ne) 22, 3) := by decide +kernel
theorem d27 : decode yB 27 = .ok (.getstatic 38, 3) := by decide +kernel
theorem d30 : decode yB 30 = .ok (.ifCond (.eq) 28, 3) := by decide +kernel
theorem d33 : decode yB 33 = .ok (.aload_n 1, 1) := by decide +kernel
theorem d34 : decode yB 34 = .ok (.iload_n 2, 1) := by decide +kernel
theorem d35 : decode yB 35 = .ok (.iload_n 3, 1) := by decide +kernel
theorem d36 : decode yB 36 = .ok (.invokestatic 177, 3) := by decide +kernel
theorem d39 : decode yB 39 = .ok (.astore 5, 2) := by decide +kernel
theorem d41 : decode yB 41 = .ok (.aload_n 0, 1) := by decide +kernel
theorem d42 : decode yB 42 = .ok (.aload 5, 2) := by decide +kernel
theorem d44 : decode yB 44 = .ok (.iload_n 3, 1) := by decide +kernel
theorem d45 : decode yB 45 = .ok (.invokestatic 47, 3) := by decide +kernel
theorem d48 : decode yB 48 = .ok (.putfield 15, 3) := by decide +kernel
theorem d51 : decode yB 51 = .ok (.aload_n 0, 1) := by decide +kernel
theorem d52 : decode yB 52 = .ok (.aload 5, 2) := by decide +kernel
theorem d54 : decode yB 54 = .ok (.putfield 9, 3) := by decide +kernel
theorem d57 : decode yB 57 = .ok (.return_, 1) := by decide +kernel
def site : List Cond := [.fieldLink "java/lang/String" 38 "java/lang/String" "COMPACT_STRINGS" "Z", Cmp3.tab, CodL.tab, .laysFinal "java/lang/String" "java/lang/String" "value" "[B", .fieldLink "java/lang/String" 9 "java/lang/String" "value" "[B", .laysFinal "java/lang/String" "java/lang/String" "coder" "B", .fieldLink "java/lang/String" 15 "java/lang/String" "coder" "B"] ++ objW "java/lang/String" 1 ++ staticW "java/lang/String" 177 Cmp3.yN ++ staticW "java/lang/String" 47 CodL.yN
def tab : Cond := tabOf yN yB 6 none site
def P (a : Addr) (D : Cell) (fV fC : Field) (b : Addr) (A : Cell) (z : Int32) (o len : Nat) (args : Array Value) (s : State) : Prop := args = #[.ref a, .ref b, .int (Int32.ofNat o), .int (Int32.ofNat len), .null] ∧ Blank "java/lang/String" a D s ∧ Found "java/lang/String" "value" "[B" fV s ∧ Found "java/lang/String" "coder" "B" fC s ∧ Ch b A s ∧ StaticIs s "java/lang/String" "COMPACT_STRINGS" "Z" (.int z) ∧ ¬ z = 0 ∧ 0 < len ∧ o + len ≤ A.slots.size ∧ len ≤ 536870912 ∧ ∀ i, i < len → ¬ 255 < cv A (o + i)
def E (a : Addr) (D : Cell) (fV fC : Field) (A : Cell) (o len : Nat) (r : Option Value) (s u : State) : Prop := Got a D fV fC A o len r s u
/-- len > 0, no char of the range above 255: a Latin-1 String of their low bytes -/
theorem law (l : Launch) (a : Addr) (D : Cell) (fV fC : Field) (b : Addr) (A : Cell) (z : Int32) (o len : Nat) : Law l yN 5 4 2 35 yB 6 none site (P a D fV fC b A z o len) (E a D fV fC A o len) [⟨a, fC.slot⟩, ⟨a, fV.slot⟩] 1 len := by
  refine Law.of_walk (plainFor_of_name (by decide +kernel)) (by decide +kernel) (by decide +kernel) (by decide) (fun _ _ h => by rw [h.1]; rfl) (fun _ U U' hal hh h => ⟨h.1, h.2.1.mv hal hh, h.2.2.1.al hal, h.2.2.2.1.al hal, h.2.2.2.2.1.mv hal hh, h.2.2.2.2.2.1.there hal hh, h.2.2.2.2.2.2⟩) (fun r U U' V V' h1 hal h2 h => Got.mv r U U' V V' h1 hal h2 h) ?_
  intro p e s m args below meth c s₁ X0 hexec hbytes hml hret hlk hnm hown hh0 W hP
  obtain ⟨rfl, hB, f1, f2, hA, s1, hz, l0, l1, l2, hp⟩ := hP
  have a31 := hA.1.2.2.2
  have c1 : Steps p.tables e below (s₁.setTop (entryFrame m #[.ref a, .ref b, .int (Int32.ofNat o), .int (Int32.ofNat len), .null] 6)) (s₁.setTop (mkF m 0 #[.val (.ref a), .val (.ref b), .val (.int (Int32.ofNat o)), .val (.int (Int32.ofNat len)), .val .null, .unset] [])) := entry rfl
  have c2 : Steps p.tables e below (s₁.setTop (entryFrame m #[.ref a, .ref b, .int (Int32.ofNat o), .int (Int32.ofNat len), .null] 6)) (s₁.setTop (mkF m 1 #[.val (.ref a), .val (.ref b), .val (.int (Int32.ofNat o)), .val (.int (Int32.ofNat len)), .val .null, .unset] [.ref a])) := c1.trans (by
    refine XS.aloadN X0.here hexec rfl (hb hbytes d0) rfl rfl ?_
    exact Steps.refl _)
  obtain ⟨T3, X3, q3, st3⟩ := X0.oinit hexec hown (wks W (objW "java/lang/String" 1)) (g := (mkF m 1 #[.val (.ref a), .val (.ref b), .val (.int (Int32.ofNat o)), .val (.int (Int32.ofNat len)), .val .null, .unset] [.ref a])) rfl (by rw [hml]; rfl) (rest := []) rfl (hb hbytes d1) (W := 0) (by show 2 * 0 + 0 ≤ _; decide) (Nat.le_of_ble_eq_true rfl) (Nat.le_of_ble_eq_true rfl)
  have hh3 := q3.trans hh0
  have c4 : Steps p.tables e below (s₁.setTop (entryFrame m #[.ref a, .ref b, .int (Int32.ofNat o), .int (Int32.ofNat len), .null] 6)) (T3.setTop (mkF m 27 #[.val (.ref a), .val (.ref b), .val (.int (Int32.ofNat o)), .val (.int (Int32.ofNat len)), .val .null, .unset] [])) := (c2.trans (st3 _ (Steps.refl _))).trans (by
    refine XS.iloadN X3.here hexec rfl (hb hbytes d4) rfl ?_
    refine XS.ifYes X3.here hexec rfl (pc0 := 5) rfl (hb hbytes d5) rfl (i0_ne_t (nz32 (by omega) l0)) (by decide) rfl ?_
    exact Steps.refl _)
  obtain ⟨T5, X5, q5, st5⟩ := X3.sget hexec hown (wk W (.fieldLink "java/lang/String" 38 "java/lang/String" "COMPACT_STRINGS" "Z")) s1 (fun _ _ h => by rw [hh3]; exact h) (g := (mkF m 27 #[.val (.ref a), .val (.ref b), .val (.int (Int32.ofNat o)), .val (.int (Int32.ofNat len)), .val .null, .unset] [])) rfl (hb hbytes d27)
  have hh5 := q5.trans hh3
  have c6 : Steps p.tables e below (s₁.setTop (entryFrame m #[.ref a, .ref b, .int (Int32.ofNat o), .int (Int32.ofNat len), .null] 6)) (T5.setTop (mkF m 30 #[.val (.ref a), .val (.ref b), .val (.int (Int32.ofNat o)), .val (.int (Int32.ofNat len)), .val .null, .unset] [.int z])) := c4.trans (st5 _ (Steps.refl _))
  have c7 : Steps p.tables e below (s₁.setTop (entryFrame m #[.ref a, .ref b, .int (Int32.ofNat o), .int (Int32.ofNat len), .null] 6)) (T5.setTop (mkF m 36 #[.val (.ref a), .val (.ref b), .val (.int (Int32.ofNat o)), .val (.int (Int32.ofNat len)), .val .null, .unset] [.int (Int32.ofNat len), .int (Int32.ofNat o), .ref b])) := c6.trans (by
    refine XS.ifNo X5.here hexec rfl (hb hbytes d30) rfl (i0_eq_f hz) ?_
    refine XS.aloadN X5.here hexec rfl (hb hbytes d33) rfl rfl ?_
    refine XS.iloadN X5.here hexec rfl (hb hbytes d34) rfl ?_
    refine XS.iloadN X5.here hexec rfl (hb hbytes d35) rfl ?_
    exact Steps.refl _)
  obtain ⟨v8, T8, X8, E8, g8⟩ := X5.callS hexec (Cmp3.law l b A o len) hown (wks W (staticW "java/lang/String" 177 Cmp3.yN)) (wk W Cmp3.tab) (W := 0) (Nat.le_of_ble_eq_true rfl) (Nat.le_of_ble_eq_true rfl) (Nat.le_refl _) (by show 0 + len ≤ len; omega) (g := (mkF m 36 #[.val (.ref a), .val (.ref b), .val (.int (Int32.ofNat o)), .val (.int (Int32.ofNat len)), .val .null, .unset] [.int (Int32.ofNat len), .int (Int32.ofNat o), .ref b])) rfl (by rw [hml]; rfl) c7 (argsL := [.ref b, .int (Int32.ofNat o), .int (Int32.ofNat len)]) (rest := []) rfl rfl (by show 2 * 0 + 0 ≤ _; decide) (hb hbytes d36) (⟨rfl, hA.mv X5.warmed.alike hh5, l1, l2, hp⟩)
  obtain ⟨e8, z8⟩ := E8
  obtain ⟨rfl, N, n1, n2, n3, n4, n5, n6⟩ := NewArr.mv _ T5 s _ _ hh5.symm (Vm.Alike.refl _) rfl e8
  rw [hh5] at z8
  have hB1 := hB.keep X8.warmed.alike (n6 _ _ hB.1)
  have hne : s.heap.size ≠ a := (Nat.ne_of_lt (Array.getElem?_eq_some_iff.mp hB.1).1).symm
  have c9 : Steps p.tables e below (s₁.setTop (entryFrame m #[.ref a, .ref b, .int (Int32.ofNat o), .int (Int32.ofNat len), .null] 6)) (T8.setTop (mkF m 39 #[.val (.ref a), .val (.ref b), .val (.int (Int32.ofNat o)), .val (.int (Int32.ofNat len)), .val .null, .unset] [.ref s.heap.size])) := g8
  have c10 : Steps p.tables e below (s₁.setTop (entryFrame m #[.ref a, .ref b, .int (Int32.ofNat o), .int (Int32.ofNat len), .null] 6)) (T8.setTop (mkF m 45 #[.val (.ref a), .val (.ref b), .val (.int (Int32.ofNat o)), .val (.int (Int32.ofNat len)), .val .null, .val (.ref s.heap.size)] [.int (Int32.ofNat N.slots.size), .ref s.heap.size, .ref a])) := by
    have hc : Steps p.tables e below (s₁.setTop (entryFrame m #[.ref a, .ref b, .int (Int32.ofNat o), .int (Int32.ofNat len), .null] 6)) (T8.setTop (mkF m 45 #[.val (.ref a), .val (.ref b), .val (.int (Int32.ofNat o)), .val (.int (Int32.ofNat len)), .val .null, .val (.ref s.heap.size)] [.int (Int32.ofNat len), .ref s.heap.size, .ref a])) := c9.trans (by
      refine XS.astore X8.here hexec rfl (hb hbytes d39) rfl rfl rfl ?_
      refine XS.aloadN X8.here hexec rfl (hb hbytes d41) rfl rfl ?_
      refine XS.aload X8.here hexec rfl (hb hbytes d42) rfl rfl ?_
      refine XS.iloadN X8.here hexec rfl (hb hbytes d44) rfl ?_
      exact Steps.refl _)
    rw [n4]; exact hc
  obtain ⟨v11, T11, X11, E11, g11⟩ := X8.callS hexec (CodL.law l s.heap.size N) hown (wks W (staticW "java/lang/String" 47 CodL.yN)) (wk W CodL.tab) (W := 1) (Nat.le_of_ble_eq_true rfl) (Nat.le_of_ble_eq_true rfl) (Nat.le_refl _) (by show 0 + len + 0 ≤ len; omega) (g := (mkF m 45 #[.val (.ref a), .val (.ref b), .val (.int (Int32.ofNat o)), .val (.int (Int32.ofNat len)), .val .null, .val (.ref s.heap.size)] [.int (Int32.ofNat N.slots.size), .ref s.heap.size, .ref a])) rfl (by rw [hml]; rfl) c10 (argsL := [.ref s.heap.size, .int (Int32.ofNat N.slots.size)]) (rest := [.ref a]) rfl rfl (by show 2 * 0 + (1 + 0) ≤ _; decide) (hb hbytes d45) (⟨rfl, n1⟩)
  obtain ⟨rfl, q11⟩ := E11
  have hB11 := hB1.mv (X8.warmed.alike.symm.trans X11.warmed.alike) q11
  have c12 : Steps p.tables e below (s₁.setTop (entryFrame m #[.ref a, .ref b, .int (Int32.ofNat o), .int (Int32.ofNat len), .null] 6)) (T11.setTop (mkF m 48 #[.val (.ref a), .val (.ref b), .val (.int (Int32.ofNat o)), .val (.int (Int32.ofNat len)), .val .null, .val (.ref s.heap.size)] [.int 0, .ref a])) := g11
  obtain ⟨T13, X13, p13, bl13, sl13, st13⟩ := X11.finit hexec hown (wk W (.fieldLink "java/lang/String" 15 "java/lang/String" "coder" "B")) (Or.inr ⟨_, (wk W (.laysFinal "java/lang/String" "java/lang/String" "coder" "B"))⟩) (Or.inl ⟨rfl, hnm⟩) f2 (Or.inl rfl) hB11 (t := .byte) (by decide +kernel) rfl (g := (mkF m 48 #[.val (.ref a), .val (.ref b), .val (.int (Int32.ofNat o)), .val (.int (Int32.ofNat len)), .val .null, .val (.ref s.heap.size)] [.int 0, .ref a])) rfl (rest := []) rfl (hb hbytes d48)
  have c14 : Steps p.tables e below (s₁.setTop (entryFrame m #[.ref a, .ref b, .int (Int32.ofNat o), .int (Int32.ofNat len), .null] 6)) (T13.setTop (mkF m 54 #[.val (.ref a), .val (.ref b), .val (.int (Int32.ofNat o)), .val (.int (Int32.ofNat len)), .val .null, .val (.ref s.heap.size)] [.ref s.heap.size, .ref a])) := (c12.trans (st13 _ (Steps.refl _))).trans (by
    refine XS.aloadN X13.here hexec rfl (hb hbytes d51) rfl rfl ?_
    refine XS.aload X13.here hexec rfl (hb hbytes d52) rfl rfl ?_
    exact Steps.refl _)
  obtain ⟨T15, X15, p15, bl15, sl15, st15⟩ := X13.finit hexec hown (wk W (.fieldLink "java/lang/String" 9 "java/lang/String" "value" "[B")) (Or.inr ⟨_, (wk W (.laysFinal "java/lang/String" "java/lang/String" "value" "[B"))⟩) (Or.inl ⟨rfl, hnm⟩) f1 (Or.inl rfl) bl13 (t := (.array .byte)) (by decide +kernel) rfl (g := (mkF m 54 #[.val (.ref a), .val (.ref b), .val (.int (Int32.ofNat o)), .val (.int (Int32.ofNat len)), .val .null, .val (.ref s.heap.size)] [.ref s.heap.size, .ref a])) rfl (rest := []) rfl (hb hbytes d54)
  have c16 : Steps p.tables e below (s₁.setTop (entryFrame m #[.ref a, .ref b, .int (Int32.ofNat o), .int (Int32.ofNat len), .null] 6)) (T15.setTop (mkF m 57 #[.val (.ref a), .val (.ref b), .val (.int (Int32.ofNat o)), .val (.int (Int32.ofNat len)), .val .null, .val (.ref s.heap.size)] [])) := c14.trans (st15 _ (Steps.refl _))
  have ap := apart (Or.inr ⟨_, (wk W (.laysFinal "java/lang/String" "java/lang/String" "value" "[B"))⟩) (Or.inr ⟨_, (wk W (.laysFinal "java/lang/String" "java/lang/String" "coder" "B"))⟩) f1 f2 (t₁ := .array .byte) (t₂ := .byte) (by decide +kernel) (by decide +kernel) (by decide)
  have al := X8.warmed.alike.symm.trans X15.warmed.alike
  have n7 : T11.heap[s.heap.size]? = some N := by rw [q11]; exact n1.1
  exact ⟨T15, none, _, _, _, X15, by simp, rfl, by omega, (fun _ => rfl), ⟨rfl, _, N, bl15, ((Same.refl D _).set _ (by simp)).set _ (by simp), sl15, (Cell.slots_setSlot_ne _ ap).trans sl13, n1.keep al (p15.other hne (p13.other hne n7)), n2, by rw [al.findClass]; exact n3, n4, n5, fun y c h1 h2 => p15.other h1 (p13.other h1 (by rw [q11]; exact n6 y c h2)), by rw [p15.2.2, p13.2.2, q11]; exact z8⟩, fun fs hl => c16.trans (X15.returnOut hexec hret (hb hbytes d57) hl)⟩
end New4
namespace New1
def yN : MethodName := ⟨"java/lang/String", "<init>", "([C)V"⟩
abbrev yB : ByteArray := jdk_42_method_3_code
theorem d0 : decode yB 0 = .ok (.aload_n 0, 1) := by decide +kernel
theorem d1 : decode yB 1 = .ok (.aload_n 1, 1) := by decide +kernel
theorem d2 : decode yB 2 = .ok (.iconst 0, 1) := by decide +kernel
theorem d3 : decode yB 3 = .ok (.aload_n 1, 1) := by decide +kernel
theorem d4 : decode yB 4 = .ok (.arraylength, 1) := by decide +kernel
theorem d5 : decode yB 5 = .ok (.aconst_null, 1) := by decide +kernel
theorem d6 : decode yB 6 = .ok (.invokespecial 27, 3) := by decide +kernel
theorem d9 : decode yB 9 = .ok (.return_, 1) := by decide +kernel
def site : List Cond := [New4.tab] ++ initW "java/lang/String" 27 New4.yN
def tab : Cond := tabOf yN yB 2 none site
def P (a : Addr) (D : Cell) (fV fC : Field) (b : Addr) (A : Cell) (z : Int32) (args : Array Value) (s : State) : Prop := args = #[.ref a, .ref b] ∧ Blank "java/lang/String" a D s ∧ Found "java/lang/String" "value" "[B" fV s ∧ Found "java/lang/String" "coder" "B" fC s ∧ Ch b A s ∧ StaticIs s "java/lang/String" "COMPACT_STRINGS" "Z" (.int z) ∧ ¬ z = 0 ∧ 0 < A.slots.size ∧ A.slots.size ≤ 536870912 ∧ ∀ i, i < A.slots.size → ¬ 255 < cv A i
def E (a : Addr) (D : Cell) (fV fC : Field) (A : Cell) (r : Option Value) (s u : State) : Prop := Got a D fV fC A 0 A.slots.size r s u
/-- new String(chars), not empty, no char above 255: a Latin-1 String of their low bytes -/
theorem law (l : Launch) (a : Addr) (D : Cell) (fV fC : Field) (b : Addr) (A : Cell) (z : Int32) : Law l yN 2 1 3 52 yB 2 none site (P a D fV fC b A z) (E a D fV fC A) [⟨a, fC.slot⟩, ⟨a, fV.slot⟩] 1 A.slots.size := by
  refine Law.of_walk (plainFor_of_name (by decide +kernel)) (by decide +kernel) (by decide +kernel) (by decide) (fun _ _ h => by rw [h.1]; rfl) (fun _ U U' hal hh h => ⟨h.1, h.2.1.mv hal hh, h.2.2.1.al hal, h.2.2.2.1.al hal, h.2.2.2.2.1.mv hal hh, h.2.2.2.2.2.1.there hal hh, h.2.2.2.2.2.2⟩) (fun r U U' V V' h1 hal h2 h => Got.mv r U U' V V' h1 hal h2 h) ?_
  intro p e s m args below meth c s₁ X0 hexec hbytes hml hret hlk hnm hown hh0 W hP
  obtain ⟨rfl, hB, f1, f2, hA, s1, hz, l0, l2, hp⟩ := hP
  have c1 : Steps p.tables e below (s₁.setTop (entryFrame m #[.ref a, .ref b] 2)) (s₁.setTop (mkF m 0 #[.val (.ref a), .val (.ref b)] [])) := entry rfl
  have c2 : Steps p.tables e below (s₁.setTop (entryFrame m #[.ref a, .ref b] 2)) (s₁.setTop (mkF m 6 #[.val (.ref a), .val (.ref b)] [.null, .int (Int32.ofNat A.slots.size), .int 0, .ref b, .ref a])) := c1.trans (by
    refine XS.aloadN X0.here hexec rfl (hb hbytes d0) rfl rfl ?_
    refine XS.aloadN X0.here hexec rfl (hb hbytes d1) rfl rfl ?_
    refine iconstV X0.here hexec rfl 0 (hb hbytes d2) (by decide) ?_
    refine XS.aloadN X0.here hexec rfl (hb hbytes d3) rfl rfl ?_
    refine X0.alen hexec (hA.1.mv X0.warmed.alike hh0) rfl rfl (hb hbytes d4) ?_
    refine XS.aconstNull X0.here hexec rfl (hb hbytes d5) ?_
    exact Steps.refl _)
  obtain ⟨v3, T3, X3, E3, g3⟩ := X0.callN hexec (New4.law l a D fV fC b A z 0 A.slots.size) rfl hown (wks W (initW "java/lang/String" 27 New4.yN)) (W New4.tab (by simp only [site, List.mem_cons, List.mem_append, true_or, or_true])) (W := 0) (Nat.le_of_ble_eq_true rfl) (Nat.le_of_ble_eq_true rfl) (Nat.le_refl _) (by show 0 + A.slots.size ≤ A.slots.size; omega) (g := (mkF m 6 #[.val (.ref a), .val (.ref b)] [.null, .int (Int32.ofNat A.slots.size), .int (Int32.ofNat 0), .ref b, .ref a])) rfl (by rw [hml]; rfl) c2 (argsL := [.ref b, .int (Int32.ofNat 0), .int (Int32.ofNat A.slots.size), .null]) (rest := []) rfl rfl (by show 2 * 0 + 0 ≤ _; decide) (hb hbytes d6) (⟨rfl, hB.mv X0.warmed.alike hh0, f1.al X0.warmed.alike, f2.al X0.warmed.alike, hA.mv X0.warmed.alike hh0, s1.there X0.warmed.alike hh0, hz, l0, by omega, l2, fun i hi => by rw [Nat.zero_add]; exact hp i hi⟩)
  have e0 := Got.mv _ s₁ s _ _ hh0.symm (Vm.Alike.refl _) rfl E3
  obtain rfl := e0.1
  have c4 : Steps p.tables e below (s₁.setTop (entryFrame m #[.ref a, .ref b] 2)) (T3.setTop (mkF m 9 #[.val (.ref a), .val (.ref b)] [])) := g3
  exact ⟨T3, none, _, _, _, X3, by simp, rfl, by omega, (fun _ => rfl), e0, fun fs hl => c4.trans (X3.returnOut hexec hret (hb hbytes d9) hl)⟩
theorem pays {l : Launch} {R : Room} {p : Program} {e : Env} {below : List Frame} {s : State} {sargs : Array Value} {len W : Nat} (a : Addr) (D : Cell) (fV fC : Field) (b : Addr) (A : Cell) (z : Int32) (htab : tab.before sargs s = true) (hfr : 4 ≤ R.frames) (hlo : W + 65 ≤ R.locals) :
    Back l R p e below s sargs yN len W (fun A₁ a₁ => A₁.cells + 1 ≤ R.cells ∧ A₁.slots + A.slots.size ≤ R.slots ∧ P a D fV fC b A z a₁ A₁.U) (fun A₁ _ v₁ B₁ => E a D fV fC A v₁ A₁.U B₁.U ∧ B₁.locs = A₁.locs ++ [⟨a, fC.slot⟩, ⟨a, fV.slot⟩] ∧ B₁.cells = A₁.cells + 1 ∧ B₁.slots = A₁.slots + A.slots.size) :=
  (law l a D fV fC b A z).pays htab hfr (by omega)
end New1
end StrChars
namespace StrChars.Road
open Jvm Sem ClassFile Op Lib Jvm.Stand Jvm.Free Jvm.Free.XT
open Jvm.Lib.Cold (StaticIs)
abbrev ST : String := "java/lang/String"
/-- every table word that New1's law asks, flat -/
abbrev words : List Jvm.Cond := [.code New1.yN New1.yB 2 none, .initialized ST, .methodLink ST 27 New4.yN, .instanceMethod New4.yN,
  .code New4.yN New4.yB 6 none, .fieldLink ST 38 ST "COMPACT_STRINGS" "Z", .laysFinal ST ST "value" "[B", .fieldLink ST 9 ST "value" "[B", .laysFinal ST ST "coder" "B", .fieldLink ST 15 ST "coder" "B",
  .methodLink ST 1 Lib.objectInit, .instanceMethod Lib.objectInit, .code Lib.objectInit ⟨#[0xb1]⟩ 1 none, .methodLink ST 177 Cmp3.yN, .static Cmp3.yN, .methodLink ST 47 CodL.yN, .static CodL.yN,
  .code Cmp3.yN Cmp3.yB 6 (some (.array .byte)), .initialized U16, .arrayClass .byte, .methodLink U16 115 Cmp5.yN, .static Cmp5.yN, .code Cmp5.yN Cmp5.yB 7 (some .int), .code CodL.yN CodL.yB 2 (some .byte)]
theorem tab_of {a : Array Value} {s : State} (h : ∀ w ∈ words, w.before a s = true) : New1.tab.before a s = true := by
  have h5 : Cmp5.tab.before a s = true := unparts (wk h (.code Cmp5.yN Cmp5.yB 7 (some .int))) (wks h (.initialized Cmp5.yN.cls :: Cmp5.site))
  have hc : CodL.tab.before a s = true := unparts (wk h (.code CodL.yN CodL.yB 2 (some .byte))) (wks h (.initialized CodL.yN.cls :: CodL.site))
  have q5 : ∀ w ∈ Cmp5.tab :: words, w.before a s = true := fun w hw => (List.mem_cons.mp hw).elim (fun e => e ▸ h5) (h w)
  have h3 : Cmp3.tab.before a s = true := unparts (wk q5 (.code Cmp3.yN Cmp3.yB 6 (some (.array .byte)))) (wks q5 (.initialized Cmp3.yN.cls :: Cmp3.site))
  have q3 : ∀ w ∈ Cmp3.tab :: CodL.tab :: words, w.before a s = true := fun w hw => (List.mem_cons.mp hw).elim (fun e => e ▸ h3) fun hw => (List.mem_cons.mp hw).elim (fun e => e ▸ hc) (h w)
  have h4 : New4.tab.before a s = true := unparts (wk q3 (.code New4.yN New4.yB 6 none)) (wks q3 (.initialized New4.yN.cls :: New4.site))
  have q4 : ∀ w ∈ New4.tab :: words, w.before a s = true := fun w hw => (List.mem_cons.mp hw).elim (fun e => e ▸ h4) (h w)
  exact unparts (wk q4 (.code New1.yN New1.yB 2 none)) (wks q4 (.initialized New1.yN.cls :: New1.site))
/-- the words ride from the start Z to the walk's own state -/
theorem moved {Z s : State} {a0 args : Array Value} (hZ : Z.Warmed39 s.vm) (hw : ∀ d ∈ words, d.before a0 Z = true) : ∀ d ∈ words, d.before args s = true := fun d hd => by
  have q := hw d hd
  have t : ∀ d ∈ words, d = .arrayClass .byte ∨ (d.onTables && d.keepsFace) = true := by decide +kernel
  rcases t d hd with rfl | t
  · exact RoadKit.mvA hZ q
  · exact RoadKit.mv hZ q t
/-- WHAT COMES BACK, over the tables of the start Z: h the heap at the call, h' behind it -/
def Q (Z : State) (x : Addr) (A : Cell) (h : Heap) (v : Option Value) (h' : Heap) (L : List Loc) : Prop := v = none ∧ (∀ y ∈ L, y.base = x) ∧ RoadKit.Keep h h' [x] ∧ h'.size = h.size + 1 ∧ RoadKit.Exa Z h' x ST ∧ RoadKit.Fld Z h' x ST "value" "[B" (.ref h.size) ∧ RoadKit.Fld Z h' x ST "coder" "B" (.int 0) ∧
  (∃ V : Cell, RoadKit.Arr Z h' h.size V .byte ∧ V.vm = .none ∧ Z.vm.findClass "[B" = some V.cls ∧ V.slots.size = A.slots.size ∧ ∀ j, j < A.slots.size → V.slots[j]? = some (.int (lo8 (cv A j)))) ∧
  ∀ (O n d : String) (w : Value), RoadKit.Fld Z h x O n d w → RoadKit.slotOf Z O n d ≠ RoadKit.slotOf Z ST "value" "[B" → RoadKit.slotOf Z O n d ≠ RoadKit.slotOf Z ST "coder" "B" → RoadKit.Fld Z h' x O n d w
/-- **new String(chars) AT A CALL, IN THE ROAD'S FORM**: for specialBack behind newO: x the fresh String, b the char[] with the cell A -/
theorem back {p : Program} {l : Launch} {e : Env} {R : Room} {s : State} {args : Array Value} {below : List Frame} {len W : Nat} {Z : State} {a0 : Array Value} {h : Heap} (hZ : Z.Warmed39 s.vm) (hw : ∀ d ∈ words, d.before a0 Z = true) {kI : Nat} (wi : (Jvm.Cond.instantiable ST kI).before a0 Z = true)
    {x b : Addr} {A : Cell} {z : Int32} {v0 c0 : Value} (E : RoadKit.Exa Z h x ST) (V : RoadKit.Fld Z h x ST "value" "[B" v0) (C : RoadKit.Fld Z h x ST "coder" "B" c0) (K : RoadKit.Arr Z h b A .char) (hty : Typed .char A) (S : RoadKit.Sta Z h ST "COMPACT_STRINGS" "Z" (.int z)) (hz : ¬ z = 0)
    (l0 : 0 < A.slots.size) (l2 : A.slots.size ≤ 536870912) (hp : ∀ i, i < A.slots.size → ¬ 255 < cv A i) (hfr : 4 ≤ R.frames) (hlo : W + 65 ≤ R.locals) :
    Back l R p e below s args New1.yN len W (fun P a => a = #[.ref x, .ref b] ∧ P.U.heap = h ∧ P.cells + 1 ≤ R.cells ∧ P.slots + A.slots.size ≤ R.slots)
      (fun P _ v B => ∃ L, Q Z x A h v B.U.heap L ∧ B.locs = P.locs ++ L ∧ B.cells = P.cells + 1 ∧ B.slots = P.slots + A.slots.size) := by
  intro m meth c P g ig mk a X hg hsize hdg hW hn hp'
  obtain ⟨rfl, rfl, r1, r2⟩ := hp'
  have al : Z.vm.Alike P.U.vm := hZ.alike.trans X.warmed.alike
  obtain ⟨D, cfV, kV, iV, fV, hD, gV, stV, knV, obV, asV, slV⟩ := id V
  obtain ⟨D', cfC, kC, iC, fC, hD', gC, stC, -, -, asC, slC⟩ := id C
  cases hD.symm.trans hD'
  obtain ⟨D2, kD, e1, e2, e3, e4, e5⟩ := id E
  cases hD.symm.trans e1
  obtain ⟨c2, k2, i1, i2, i3, -⟩ := Cond.instantiable_spec wi
  cases e2.symm.trans i1
  cases e3.symm.trans i2
  obtain ⟨kU, u1, u2⟩ := al.2.2 _ _ e3
  have hB : Blank ST x D P.U := ⟨hD, ⟨knV, fun q hq => by rw [hq] at obV; cases obV⟩, by rw [al.findClass]; exact e2, kU, u1, by rw [u2]; exact i3, by rw [u2]; exact e5 i3⟩
  have F1 : Found ST "value" "[B" fV P.U := ⟨SBG.found_only al ⟨cfV, kV, iV, gV⟩, stV⟩
  have F2 : Found ST "coder" "B" fC P.U := ⟨SBG.found_only al ⟨cfC, kC, iC, gC⟩, stC⟩
  have hA : Ch b A P.U := ⟨⟨K.1, State.isArrayOf_alike al K.2.1, K.2.2, by omega⟩, hty⟩
  have hS : StaticIs P.U ST "COMPACT_STRINGS" "Z" (.int z) := by
    obtain ⟨cfS, iS, kS, fS, st, cS, t1, t2, t3, t4, t5, t6, t7⟩ := S
    exact StaticIs.there (s := { Z with heap := P.U.heap }) ⟨cfS, iS, kS, fS, st, cS, t1, t2, t3, t4, t5, (fun q => by rw [q] at t6; cases t6), t7⟩ al rfl
  obtain ⟨v, B, X', ⟨⟨hv, E', V', q1, q2, q3, q4, q5, q6, q7, q8, q9, q10, q11⟩, hl, hc, hs⟩, st⟩ := New1.pays x D fV fC b A z (tab_of (moved hZ hw)) hfr hlo m meth c P g ig mk _ X hg hsize hdg hW hn ⟨r1, r2, rfl, hB, F1, F2, hA, hS, hz, l0, l2, hp⟩
  have al' : Z.vm.Alike B.U.vm := hZ.alike.trans X'.warmed.alike
  have hsz : E'.slots.size = D.slots.size := by
    obtain ⟨-, -, -, kB, w1, w2, w3⟩ := q1
    obtain ⟨kB', y1, y2⟩ := al'.2.2 _ _ e3
    rw [q2.2.1] at w1
    cases w1.symm.trans y1
    rw [w3, e5 i3, y2]
  refine ⟨v, B, X', ⟨_, ⟨hv, ?_, ⟨by omega, fun y cy hy hn' => q10 y cy (by simpa using hn') hy, fun y cy hy => ?_⟩, q11, ⟨E', _, q1.1, by rw [q2.2.1]; exact e2, by rw [q2.2.1]; exact e3, by rw [q2.1]; exact obV, fun _ => by rw [hsz]; exact e5 i3⟩,
    ⟨E', cfV, kV, iV, fV, q1.1, gV, stV, by rw [q2.1]; exact knV, by rw [q2.1]; exact obV, by rw [q2.2.1]; exact asV, q3⟩, ⟨E', cfC, kC, iC, fC, q1.1, gC, stC, by rw [q2.1]; exact knV, by rw [q2.1]; exact obV, by rw [q2.2.1]; exact asC, q4⟩,
    ⟨V', ⟨q5.1, State.isArrayOf_alike al'.symm q5.2.1, q5.2.2.1⟩, q6, by rw [← al'.findClass]; exact q7, q8, fun j hj => by have := q9 j hj; rwa [Nat.zero_add] at this⟩, fun O n d w F n1 n2 => ?_⟩, hl, hc, hs⟩, st⟩
  · intro y hy
    simp only [List.mem_cons, List.not_mem_nil, or_false] at hy
    rcases hy with rfl | rfl <;> rfl
  · by_cases q : y = x
    · subst q
      cases hD.symm.trans hy
      exact ⟨E', q1.1, q2.2.1, q2.1, hsz⟩
    · exact ⟨cy, q10 y cy q hy, rfl, rfl, rfl⟩
  · obtain ⟨D3, cf, k, i, f, g1, g2, g3, g4, g5, g6, g7⟩ := F
    cases hD.symm.trans g1
    simp only [RoadKit.slotOf, g2, gV, gC, Option.map_some, Option.getD_some] at n1 n2
    exact ⟨E', cf, k, i, f, q1.1, g2, g3, by rw [q2.1]; exact g4, by rw [q2.1]; exact g5, by rw [q2.2.1]; exact g6, by rw [q2.2.2 f.slot (by simp [n1, n2])]; exact g7⟩
end StrChars.Road
namespace StrChars.Road
open Jvm Sem ClassFile Op Lib Jvm.Stand Jvm.Free Jvm.Free.XT
/-- WHAT COMES BACK, the byte[] as a list of values -/
def QA (Z : State) (x : Addr) (zn : Int32) (cs : List Int32) (h : Heap) (v : Option Value) (h' : Heap) (L : List Loc) : Prop := v = none ∧ (∀ y ∈ L, y.base = x) ∧ RoadKit.Keep h h' [x] ∧ h'.size = h.size + 1 ∧ RoadKit.Exa Z h' x ST ∧ RoadKit.Fld Z h' x ST "value" "[B" (.ref h.size) ∧ RoadKit.Fld Z h' x ST "coder" "B" (.int 0) ∧
  (∃ kb, Z.vm.findClass "[B" = some kb ∧ RoadKit.Arv Z h' h.size kb .byte zn (cs.map fun c => .int (lo8 c)) (.int 0)) ∧
  ∀ (O n d : String) (w : Value), RoadKit.Fld Z h x O n d w → RoadKit.slotOf Z O n d ≠ RoadKit.slotOf Z ST "value" "[B" → RoadKit.slotOf Z O n d ≠ RoadKit.slotOf Z ST "coder" "B" → RoadKit.Fld Z h' x O n d w
/-- **new String(chars) AT A CALL, THE ARRAYS AS LISTS**: the char[] at b holds cs, not empty, no char above 255 -/
theorem backArv {p : Program} {l : Launch} {e : Env} {R : Room} {s : State} {args : Array Value} {below : List Frame} {len W : Nat} {Z : State} {a0 : Array Value} {h : Heap} (hZ : Z.Warmed39 s.vm) (hw : ∀ d ∈ words, d.before a0 Z = true) {kI : Nat} (wi : (Jvm.Cond.instantiable ST kI).before a0 Z = true)
    {x b : Addr} {k : ClassId} {zn z : Int32} {cs : List Int32} {dv v0 c0 : Value} (E : RoadKit.Exa Z h x ST) (V : RoadKit.Fld Z h x ST "value" "[B" v0) (C : RoadKit.Fld Z h x ST "coder" "B" c0) (K : RoadKit.Arv Z h b k .char zn (cs.map Value.int) dv) (S : RoadKit.Sta Z h ST "COMPACT_STRINGS" "Z" (.int z)) (hz : ¬ z = 0)
    (hlen : zn.toNatClampNeg = cs.length) (h0 : 0 < cs.length) (hbig : cs.length ≤ 536870912) (hall : ∀ c ∈ cs, ¬ 255 < c) (hfr : 4 ≤ R.frames) (hlo : W + 65 ≤ R.locals) :
    Back l R p e below s args New1.yN len W (fun P a => a = #[.ref x, .ref b] ∧ P.U.heap = h ∧ P.cells + 1 ≤ R.cells ∧ P.slots + cs.length ≤ R.slots)
      (fun P _ v B => ∃ L, QA Z x zn cs h v B.U.heap L ∧ B.locs = P.locs ++ L ∧ B.cells = P.cells + 1 ∧ B.slots = P.slots + cs.length) := by
  obtain ⟨A, K1, K2, K3, K4, K5, K6⟩ := K
  have e : A.slots.size = cs.length := K3.trans hlen
  have hat : ∀ (i : Nat) (hi : i < cs.length), A.slots[i]? = some (.int cs[i]) := fun i hi => by rw [K5 i (by omega)]; simp [List.getD_eq_getElem?_getD, hi]
  have hcv : ∀ (i : Nat) (hi : i < cs.length), cv A i = cs[i] := fun i hi => by unfold cv; rw [hat i hi]
  have hty : Typed .char A := fun i v hv => by
    have hi : i < A.slots.size := (Array.getElem?_eq_some_iff.mp hv).1
    have q := K5 i hi
    rw [hv] at q
    rw [Option.some.inj q]
    exact K6 i hi
  refine Back.mono (back hZ hw wi E V C K1 hty S hz (by omega) (by omega) (fun i hi => by rw [hcv i (by omega)]; exact hall _ (List.getElem_mem _)) hfr hlo) (fun P a hp => ⟨hp.1, hp.2.1, hp.2.2.1, by rw [e]; exact hp.2.2.2⟩) (fun P a v B hp hq => ?_)
  obtain ⟨L, ⟨q1, q2, q3, q4, q5, q6, q7, ⟨V', v1, v2, v3, v4, v5⟩, q9⟩, hl, hc, hs⟩ := hq
  refine ⟨L, ⟨q1, q2, q3, q4, q5, q6, q7, ⟨V'.cls, v3, V', v1, rfl, by rw [v4, e, hlen], K4, fun i hi => ?_, fun i hi => ?_⟩, q9⟩, hl, hc, by rw [hs, e]⟩
  · have hi' : i < cs.length := by omega
    rw [v5 i (by omega), hcv i hi']; simp [List.getD_eq_getElem?_getD, hi']
  · have hi' : i < cs.length := by omega
    simp only [List.getD_eq_getElem?_getD, List.getElem?_map, List.getElem?_eq_getElem hi', Option.map_some, Option.getD_some]
    exact fits_lo8 _
end StrChars.Road
namespace StrChars.Road
open Jvm Sem ClassFile Op Lib Jvm.Stand Jvm.Free Jvm.Free.XT
/-- WHAT COMES BACK, in the writer's own shape -/
def QV (Z : State) (x : Addr) (N : Int32) (bs : List Int32) (h : Heap) (n0 : Nat) (v : Option Value) (h' : Heap) (L : List Loc) : Prop := v = none ∧ RoadKit.Fr n0 L ∧ RoadKit.Keep h h' [x] ∧ RoadKit.Exa Z h' x ST ∧ RoadKit.Fld Z h' x ST "coder" "B" (.int 0) ∧
  ∃ (t : Addr) (kb : ClassId), n0 ≤ t ∧ h.size ≤ t ∧ ¬ t = x ∧ RoadKit.Fld Z h' x ST "value" "[B" (.ref t) ∧ RoadKit.Arv Z h' t kb .byte N (bs.map Value.int) (.int 0)
/-- **new String(chars) AT A CALL, FOR THE WRITER**: a char[] of n known ints, each 0 to 255 -/
theorem backV {p : Program} {l : Launch} {e : Env} {R : Room} {s : State} {args : Array Value} {below : List Frame} {len W : Nat} {Z : State} {a0 : Array Value} {h : Heap} (hZ : Z.Warmed39 s.vm) (hw : ∀ d ∈ words, d.before a0 Z = true) {kI : Nat} (wi : (Jvm.Cond.instantiable ST kI).before a0 Z = true)
    {x b : Addr} {kC : ClassId} {cs bs : List Int32} {d v0 c0 : Value} {z N : Int32} {n n0 : Nat} (hx0 : n0 ≤ x) (hh0 : n0 ≤ h.size) (E : RoadKit.Exa Z h x ST) (V : RoadKit.Fld Z h x ST "value" "[B" v0) (C : RoadKit.Fld Z h x ST "coder" "B" c0) (K : RoadKit.Arv Z h b kC .char N (cs.map Value.int) d) (S : RoadKit.Sta Z h ST "COMPACT_STRINGS" "Z" (.int z)) (hz : ¬ z = 0)
    (hn : cs.length = n) (hN : N = Int32.ofNat n) (l0 : 0 < n) (l2 : n ≤ 4000) (hp : ∀ c ∈ cs, ¬ c < 0 ∧ ¬ (255 : Int32) < c) (hb : bs = cs.map (fun c => c.toInt8.toInt32)) (hfr : 4 ≤ R.frames) (hlo : W + 65 ≤ R.locals) :
    Back l R p e below s args (⟨"java/lang/String", "<init>", "([C)V"⟩ : MethodName) len W (fun P a => a = #[.ref x, .ref b] ∧ P.U.heap = h ∧ P.cells + 1 ≤ R.cells ∧ P.slots + n ≤ R.slots)
      (fun P _ v B => ∃ L, QV Z x N bs h n0 v B.U.heap L ∧ B.locs = P.locs ++ L ∧ B.cells = P.cells + 1 ∧ B.slots = P.slots + n) := by
  subst hn hN hb
  refine Back.mono (backArv hZ hw wi E V C K S hz (n32 (by omega)) l0 (by omega) (fun c hc => (hp c hc).2) hfr hlo) (fun P a hp => hp) (fun P a v B hp hq => ?_)
  obtain ⟨L, ⟨q1, q2, q3, q4, q5, q6, q7, ⟨kb, v1, v2⟩, q9⟩, hl, hc, hs⟩ := hq
  exact ⟨L, ⟨q1, fun y hy => by rw [q2 y hy]; exact hx0, q3, q5, q7, h.size, kb, hh0, Nat.le_refl _, Nat.ne_of_gt E.lt, q6, by rw [List.map_map]; exact v2⟩, hl, hc, hs⟩
end StrChars.Road
end Jvm.Pilot.@@N@@

namespace Jvm.Pilot.@@N@@
open Jvm Jvm.ClassFile Sem Op Lib Jvm.Free Jvm.Stand Jvm.LawKit Jvm.RoadKit Bundle Jvm.Pilot.@@N@@.Jvm.D
abbrev HW (a0 : Array Value) (Z : State) : Prop := ∀ d ∈ tables_1, d.before a0 Z = true
theorem WW {Z : State} {a0 : Array Value} (hw : HW a0 Z) (i : Nat) {d : Jvm.Cond} (h : tables_1[i]? = some d := by rfl) : d.before a0 Z = true := hw _ (List.mem_of_getElem? h)
abbrev VI (x : Int32) : Value := .int x
abbrev VJ (x : Int64) : Value := .long x
abbrev VR (a : Addr) : Value := .ref a
abbrev SI (x : Int32) : Slot := .val (.int x)
abbrev SJ (x : Int64) : Slot := .val (.long x)
abbrev SR (a : Addr) : Slot := .val (.ref a)
abbrev SN : Slot := .val .null
abbrev SU : Slot := .unset
abbrev SS : Slot := .second
/-- from the frame g of T the run comes to an end of which G holds -/
def own_Fin (p : Program) (e : Env) (below : List Frame) (G : State → Outcome → Prop) (T : State) (g : JFrame) : Prop := ∃ U o, Steps p.tables e below (T.setTop g) U ∧ U.status = .running ∧ Ended U below o ∧ G U o
theorem own_go {p : Program} {e : Env} {below : List Frame} {G : State → Outcome → Prop} {T T' : State} {g g' : JFrame} (st : ∀ t, Steps p.tables e below (T'.setTop g') t → Steps p.tables e below (T.setTop g) t) (k : own_Fin p e below G T' g') : own_Fin p e below G T g := by
  obtain ⟨U, o, h1, h2⟩ := k
  exact ⟨U, o, st _ h1, h2⟩
theorem own_start {p : Program} {e : Env} {below : List Frame} {G : State → Outcome → Prop} {T : State} {g g' : JFrame} (q : g = g') (k : own_Fin p e below G T g') : ∃ U o, Steps p.tables e below (T.setTop g) U ∧ U.status = .running ∧ Ended U below o ∧ G U o := by
  subst q; exact k
theorem own_enter {l : Launch} {Z : State} {y : MethodName} {bytes : ByteArray} {maxL : Nat} {ret : Option FieldType} {ws : List Jvm.Cond} {R : Room} {A : Array Value} {h0 : Heap} {n0 : Nat} {Ls : Array Slot} {Q : Array Value → State → Outcome → State → Prop} (hp : plainFor y = true) (ef : ∀ m, entryFrame m A maxL = mkF m 0 Ls [])
    (k : ∀ (p : Program) (e : Env) (s : State) (m : MethodId) (below : List Frame) (meth : Method) (c : Code) (s₁ : State), p.tables.exec = Jvm.exec → c.code = bytes → c.maxLocals = maxL → s.vm.findClass y.cls = some m.cls → meth.name = y.name → meth.sig.returnType = ret → meth.locks = false →
      Stand p l e R s m A below meth c s₁ [] 0 0 → s₁.heap = h0 → Z.Warmed39 s.vm → s.heap = h0 → Fr n0 [] → own_Fin p e below (fun U o => Q A s o U) s₁ (mkF m 0 Ls [])) :
    MetFree l y (head1 (Jvm.Cond.code y bytes maxL ret :: ws) R) (fun a U => a = A ∧ Z.Warmed39 U.vm ∧ U.heap = h0) (fun _ _ _ _ _ => True) Q := by
  refine MetFree.of_bodySF hp hisR ?_
  intro p e s m args below meth c s₁ Bd hml hP hK
  obtain ⟨rfl, hZ, hh⟩ := hP
  exact own_start (ef m) (k p e s m below meth c s₁ Bd.exec Bd.bytes hml (findClass_of_methodNamed Bd.named) (name_of_methodNamed Bd.named Bd.method).1 Bd.returns Bd.notSynchronized (Stand.of_body Bd) (by rw [← hh, Bd.state]; rfl) hZ hh (Fr.nil n0))
theorem own_weak {l : Launch} {y : MethodName} {S : Spec} {P : Array Value → State → Prop} {K : Program → Env → List Frame → State → Array Value → Prop} {Q Q' : Array Value → State → Outcome → State → Prop} (h : MetFree l y S P K Q) (w : ∀ a s o t, Q a s o t → Q' a s o t) : MetFree l y S P K Q' := by
  intro p e ha hc hk s m args below hf happ hP hK
  obtain ⟨n, o, h1, h2, h3, h4⟩ := h p e ha hc hk s m args below hf happ hP hK
  exact ⟨n, o, h1, h2, h3, w _ _ _ _ h4⟩
theorem own_end {p : Program} {e : Env} {below : List Frame} {G : State → Outcome → Prop} {T U : State} {g : JFrame} {o : Outcome} (h1 : Steps p.tables e below (T.setTop g) U) (h2 : U.status = .running) (h3 : Ended U below o) (h4 : G U o) : own_Fin p e below G T g := ⟨U, o, h1, h2, h3, h4⟩
section Calls
variable {p : Program} {l : Launch} {e : Env} {R : Room} {s : State} {m : MethodId} {args : Array Value} {below : List Frame} {meth : Method} {c : Code} {T : State} {locs : List Loc} {cells slots : Nat} {Z : State} {a0 : Array Value} {h : Heap}
abbrev own_In (Z : State) (as' : Array Value) (h : Heap) : Array Value → State → Prop := fun a U => a = as' ∧ Z.Warmed39 U.vm ∧ U.heap = h
abbrev own_Out (Q : Option Value → Heap → List Loc → Prop) (rm : Room) : Array Value → State → Outcome → State → Prop := fun _ U o U' => ∃ v L, o = .returned v ∧ Q v U'.heap L ∧ FrameEnd U o U' L rm.cells rm.slots
abbrev own_OutW (Q : Option Value → Heap → List Loc → Prop) (rm : Room) : Array Value → State → Outcome → State → Prop := fun _ U o U' => ∃ v L, o = .returned v ∧ Q v U'.heap L ∧ ReturnedEndW U o U' L rm.cells rm.slots
abbrev own_np (y : MethodName) : Prop := y.cls ≠ "java/lang/invoke/MethodHandle" ∧ y.cls ≠ "java/lang/invoke/VarHandle"
/-- a static method by its contract -/
theorem own_cS {own : String} {index maxL k W : Nat} {y : MethodName} {bytes : ByteArray} {ret : Option FieldType} {rm : Room} {as' : Array Value} {Q : Option Value → Heap → List Loc → Prop} (X : Stand p l e R s m args below meth c T locs cells slots) (hx : p.tables.exec = Jvm.exec) (hZ : Z.Warmed39 s.vm) (hown : s.vm.findClass own = some m.cls)
    (w1 : (Jvm.Cond.methodLink own index y).before a0 Z = true) (w2 : (Jvm.Cond.static y).before a0 Z = true) (w3 : (Jvm.Cond.initialized y.cls).before a0 Z = true) (w4 : (Jvm.Cond.code y bytes maxL ret).before a0 Z = true)
    (hM : MetFree l y (head1 [Jvm.Cond.code y bytes maxL ret] rm) (own_In Z as' h) (fun _ _ _ _ _ => True) (own_Out Q rm)) (eT : T.heap = h) (hml : c.maxLocals = k) {g : JFrame} {ps : List FieldType} {r : Option FieldType} (hd : parseMethodDescriptor y.desc = some ⟨ps, r⟩) (hdg : decode c.code g.pc = .ok (.invokestatic index, 3)) (argsL rest : List Value)
    (hst : g.stack = argsL.reverse ++ rest := by rfl) (has : argsL.toArray = as' := by rfl) (hg : g.method = m := by rfl) (hsz : g.locals.size = k := by rfl) (hln : argsL.length = ps.length := by rfl) (hy : own_np y := by decide) (hW : 2 * g.monitorRoom + (rest.map fun v => v.category).sum ≤ W := by show 2 * 0 + _ ≤ _; exact Nat.le_of_eq rfl) (hf : rm.frames + 1 ≤ R.frames := by decide) (hl : W + (maxL + 11) + rm.locals ≤ R.locals := by decide) (hc : cells + rm.cells ≤ R.cells := by decide) (hs : slots + rm.slots ≤ R.slots := by decide) :
    ∃ (v : Option Value) (T' : State) (L : List Loc), Stand p l e R s m args below meth c T' (locs ++ L) (cells + rm.cells) (slots + rm.slots) ∧ Q v T'.heap L ∧ ∀ t, Steps p.tables e below (T'.setTop { g with pc := g.pc + 3, stack := v.toList ++ rest }) t → Steps p.tables e below (T.setTop g) t := by
  obtain ⟨v, _, ⟨T', L', k', n'⟩, -, X', ⟨L, hQ, h1, h2, h3⟩, st⟩ := Jvm.LawKit.callS X hx (y := y) hown (mvT hZ w1) (mvT hZ w2) (mvT hZ w3) (mvT hZ w4) hy (backOf (W := W) hM hZ w4 w3 hf hl) (g := g) hg (hsz.trans hml.symm) (argsL := argsL) (rest := rest) (lenOf hd hln) hst hW hdg (fun _ _ => ⟨has, eT, hc, hs⟩)
  dsimp only [Pt.U, Pt.locs, Pt.cells, Pt.slots] at X' h1 h2 h3 st hQ
  subst h1 h2 h3
  exact ⟨v, T', L, X', hQ, st⟩
/-- a constructor by its contract -/
theorem own_cI {own : String} {index maxL k W : Nat} {y : MethodName} {bytes : ByteArray} {rm : Room} {as' : Array Value} {Q : Option Value → Heap → List Loc → Prop} (X : Stand p l e R s m args below meth c T locs cells slots) (hx : p.tables.exec = Jvm.exec) (hZ : Z.Warmed39 s.vm) (hown : s.vm.findClass own = some m.cls)
    (w1 : (Jvm.Cond.methodLink own index y).before a0 Z = true) (w2 : (Jvm.Cond.instanceMethod y).before a0 Z = true) (w3 : (Jvm.Cond.initialized y.cls).before a0 Z = true) (w4 : (Jvm.Cond.code y bytes maxL none).before a0 Z = true)
    (hM : MetFree l y (head1 [Jvm.Cond.code y bytes maxL none] rm) (own_In Z as' h) (fun _ _ _ _ _ => True) (own_Out Q rm)) (eT : T.heap = h) (hml : c.maxLocals = k) {g : JFrame} {ps : List FieldType} {r : Option FieldType} (hd : parseMethodDescriptor y.desc = some ⟨ps, r⟩) (hdg : decode c.code g.pc = .ok (.invokespecial index, 3)) (a : Addr) (argsL rest : List Value)
    (hst : g.stack = argsL.reverse ++ .ref a :: rest := by rfl) (has : (.ref a :: argsL).toArray = as' := by rfl) (hg : g.method = m := by rfl) (hsz : g.locals.size = k := by rfl) (hln : argsL.length = ps.length := by rfl) (hn : y.name = "<init>" := by rfl) (hy : own_np y := by decide) (hW : 2 * g.monitorRoom + (rest.map fun v => v.category).sum ≤ W := by show 2 * 0 + _ ≤ _; exact Nat.le_of_eq rfl) (hf : rm.frames + 1 ≤ R.frames := by decide) (hl : W + (maxL + 11) + rm.locals ≤ R.locals := by decide) (hc : cells + rm.cells ≤ R.cells := by decide) (hs : slots + rm.slots ≤ R.slots := by decide) :
    ∃ (v : Option Value) (T' : State) (L : List Loc), Stand p l e R s m args below meth c T' (locs ++ L) (cells + rm.cells) (slots + rm.slots) ∧ Q v T'.heap L ∧ ∀ t, Steps p.tables e below (T'.setTop { g with pc := g.pc + 3, stack := v.toList ++ rest }) t → Steps p.tables e below (T.setTop g) t := by
  obtain ⟨v, _, ⟨T', L', k', n'⟩, -, X', ⟨L, hQ, h1, h2, h3⟩, st⟩ := X.specialBack hx (y := y) hn hown (mvT hZ w1) (mvT hZ w2) (mvT hZ w4) hy (backOf (W := W) hM hZ w4 w3 hf hl) (g := g) hg (hsz.trans hml.symm) (Steps.refl _) (a := a) (argsL := argsL) (rest := rest) (lenOf hd hln) hst hW hdg (fun _ _ => ⟨has, eT, hc, hs⟩)
  dsimp only [Pt.U, Pt.locs, Pt.cells, Pt.slots] at X' h1 h2 h3 st hQ
  subst h1 h2 h3
  exact ⟨v, T', L, X', hQ, fun t q => st.trans q⟩
/-- an instance method by its contract -/
theorem own_cV {own C : String} {index maxL k W : Nat} {y z : MethodName} {bytes : ByteArray} {ret : Option FieldType} {rm : Room} {as' : Array Value} {Q : Option Value → Heap → List Loc → Prop} (X : Stand p l e R s m args below meth c T locs cells slots) (hx : p.tables.exec = Jvm.exec) (hZ : Z.Warmed39 s.vm) (hown : s.vm.findClass own = some m.cls)
    (w1 : (Jvm.Cond.methodLink own index y).before a0 Z = true) (w2 : (Jvm.Cond.declares y).before a0 Z = true) (nf : NotFace s y) (w5 : (Jvm.Cond.selects C y z).before a0 Z = true) (w6 : (Jvm.Cond.instanceMethod z).before a0 Z = true) (w3 : (Jvm.Cond.initialized z.cls).before a0 Z = true) (w4 : (Jvm.Cond.code z bytes maxL ret).before a0 Z = true)
    (hM : MetFree l z (head1 [Jvm.Cond.code z bytes maxL ret] rm) (own_In Z as' h) (fun _ _ _ _ _ => True) (own_Out Q rm)) (eT : T.heap = h) {b : Addr} (E : Exa Z h b C) (hml : c.maxLocals = k) {g : JFrame} {ps : List FieldType} {r : Option FieldType} (hd : parseMethodDescriptor y.desc = some ⟨ps, r⟩) (hdg : decode c.code g.pc = .ok (.invokevirtual index, 3)) (argsL rest : List Value)
    (hst : g.stack = argsL.reverse ++ .ref b :: rest := by rfl) (has : (.ref b :: argsL).toArray = as' := by rfl) (hg : g.method = m := by rfl) (hsz : g.locals.size = k := by rfl) (hln : argsL.length = ps.length := by rfl) (hy : own_np y := by decide) (hW : 2 * g.monitorRoom + (rest.map fun v => v.category).sum ≤ W := by show 2 * 0 + _ ≤ _; exact Nat.le_of_eq rfl) (hf : rm.frames + 1 ≤ R.frames := by decide) (hl : W + (maxL + 11) + rm.locals ≤ R.locals := by decide) (hc : cells + rm.cells ≤ R.cells := by decide) (hs : slots + rm.slots ≤ R.slots := by decide) :
    ∃ (v : Option Value) (T' : State) (L : List Loc), Stand p l e R s m args below meth c T' (locs ++ L) (cells + rm.cells) (slots + rm.slots) ∧ Q v T'.heap L ∧ ∀ t, Steps p.tables e below (T'.setTop { g with pc := g.pc + 3, stack := v.toList ++ rest }) t → Steps p.tables e below (T.setTop g) t := by
  obtain ⟨cq, kq, qa, qb, qc⟩ := isOf hZ eT E
  obtain ⟨v, _, ⟨T', L', k', n'⟩, -, X', ⟨L, hQ, h1, h2, h3⟩, st⟩ := X.virtualBack hx (y := y) (z := z) hown (mvT hZ w1) (mvT hZ w2) nf (mvT hZ w5) (mvT hZ w6) hy (backOf (W := W) hM hZ w4 w3 hf hl) qa qc (g := g) hg (hsz.trans hml.symm) (Steps.refl _) (argsL := argsL) (rest := rest) (lenOf hd hln) hst hW hdg (fun _ _ => ⟨has, eT, hc, hs⟩)
  dsimp only [Pt.U, Pt.locs, Pt.cells, Pt.slots] at X' h1 h2 h3 st hQ
  subst h1 h2 h3
  exact ⟨v, T', L, X', hQ, fun t q => st.trans q⟩
theorem own_cF {own C : String} {index count maxL k W : Nat} {y z : MethodName} {bytes : ByteArray} {ret : Option FieldType} {rm : Room} {as' : Array Value} {Q : Option Value → Heap → List Loc → Prop} (X : Stand p l e R s m args below meth c T locs cells slots) (hx : p.tables.exec = Jvm.exec) (hZ : Z.Warmed39 s.vm) (hown : s.vm.findClass own = some m.cls)
    (w1 : (Jvm.Cond.methodLink own index y).before a0 Z = true) (w2 : (Jvm.Cond.declares y).before a0 Z = true) (w7 : (Jvm.Cond.interfaceMethod y.cls y.cls y.name y.desc).before args s = true) (w5 : (Jvm.Cond.selects C y z).before a0 Z = true) (w6 : (Jvm.Cond.instanceMethod z).before a0 Z = true) (w8 : (Jvm.Cond.publicMethod z).before a0 Z = true) (w9 : (Jvm.Cond.unhidden C y.name y.desc).before a0 Z = true) (w10 : (Jvm.Cond.castable C y.cls).before a0 Z = true) (w3 : (Jvm.Cond.initialized z.cls).before a0 Z = true) (w4 : (Jvm.Cond.code z bytes maxL ret).before a0 Z = true)
    (hM : MetFree l z (head1 [Jvm.Cond.code z bytes maxL ret] rm) (own_In Z as' h) (fun _ _ _ _ _ => True) (own_Out Q rm)) (eT : T.heap = h) {b : Addr} (E : Exa Z h b C) (hml : c.maxLocals = k) {g : JFrame} {ps : List FieldType} {r : Option FieldType} (hd : parseMethodDescriptor y.desc = some ⟨ps, r⟩) (hdg : decode c.code g.pc = .ok (.invokeinterface index count, 5)) (argsL rest : List Value)
    (hst : g.stack = argsL.reverse ++ .ref b :: rest := by rfl) (has : (.ref b :: argsL).toArray = as' := by rfl) (hg : g.method = m := by rfl) (hsz : g.locals.size = k := by rfl) (hln : argsL.length = ps.length := by rfl) (hy : own_np y := by decide) (hW : 2 * g.monitorRoom + (rest.map fun v => v.category).sum ≤ W := by show 2 * 0 + _ ≤ _; exact Nat.le_of_eq rfl) (hf : rm.frames + 1 ≤ R.frames := by decide) (hl : W + (maxL + 11) + rm.locals ≤ R.locals := by decide) (hc : cells + rm.cells ≤ R.cells := by decide) (hs : slots + rm.slots ≤ R.slots := by decide) :
    ∃ (v : Option Value) (T' : State) (L : List Loc), Stand p l e R s m args below meth c T' (locs ++ L) (cells + rm.cells) (slots + rm.slots) ∧ Q v T'.heap L ∧ ∀ t, Steps p.tables e below (T'.setTop { g with pc := g.pc + 5, stack := v.toList ++ rest }) t → Steps p.tables e below (T.setTop g) t := by
  obtain ⟨cq, kq, qa, qb, qc⟩ := isOf hZ eT E
  obtain ⟨v, _, ⟨T', L', k', n'⟩, -, X', ⟨L, hQ, h1, h2, h3⟩, st⟩ := X.interfaceBack hx (xi := y) (y := z) hown (mvT hZ w1) (mvT hZ w2) w7 (mvT hZ w5) (mvT hZ w6) (mvT hZ w8) (mvT hZ w9) (mvT hZ w10) hy (backOf (W := W) hM hZ w4 w3 hf hl) qa qb qc (g := g) hg (hsz.trans hml.symm) (Steps.refl _) (argsL := argsL) (rest := rest) (lenOf hd hln) hst hW hdg (fun _ _ => ⟨has, eT, hc, hs⟩)
  dsimp only [Pt.U, Pt.locs, Pt.cells, Pt.slots] at X' h1 h2 h3 st hQ
  subst h1 h2 h3
  exact ⟨v, T', L, X', hQ, fun t q => st.trans q⟩
end Calls
section CallsW
variable {p : Program} {l : Launch} {e : Env} {R : Room} {s : State} {vm0 : Vm} {m : MethodId} {args : Array Value} {below : List Frame} {meth : Method} {c : Code} {T : State} {locs : List Loc} {cells slots : Nat} {Z : State} {a0 : Array Value} {h : Heap} {k0 : Nat}
theorem own_cSW {own : String} {index maxL k W : Nat} {y : MethodName} {bytes : ByteArray} {ret : Option FieldType} {rm : Room} {as' : Array Value} {Q : Option Value → Heap → List Loc → Prop} (X : Stand p l e R (s.setVm vm0) m args below meth c T locs cells slots) (hx : p.tables.exec = Jvm.exec) (hZ : Z.Warmed39 (s.setVm vm0).vm) (hown : (s.setVm vm0).vm.findClass own = some m.cls) (hS : s.Since vm0 k0) (hk : k0 ≤ h.size)
    (w1 : (Jvm.Cond.methodLink own index y).before a0 Z = true) (w2 : (Jvm.Cond.static y).before a0 Z = true) (w3 : (Jvm.Cond.initialized y.cls).before a0 Z = true) (w4 : (Jvm.Cond.code y bytes maxL ret).before a0 Z = true)
    (hM : MetFree l y (head1 [Jvm.Cond.code y bytes maxL ret] rm) (own_In Z as' h) (fun _ _ _ _ _ => True) (own_OutW Q rm)) (eT : T.heap = h) (hml : c.maxLocals = k) {g : JFrame} {ps : List FieldType} {r : Option FieldType} (hd : parseMethodDescriptor y.desc = some ⟨ps, r⟩) (hdg : decode c.code g.pc = .ok (.invokestatic index, 3)) (argsL rest : List Value)
    (hst : g.stack = argsL.reverse ++ rest := by rfl) (has : argsL.toArray = as' := by rfl) (hg : g.method = m := by rfl) (hsz : g.locals.size = k := by rfl) (hln : argsL.length = ps.length := by rfl) (hy : own_np y := by decide) (hW : 2 * g.monitorRoom + (rest.map fun v => v.category).sum ≤ W := by show 2 * 0 + _ ≤ _; exact Nat.le_of_eq rfl) (hf : rm.frames + 1 ≤ R.frames := by decide) (hl : W + (maxL + 11) + rm.locals ≤ R.locals := by decide) (hc : cells + rm.cells ≤ R.cells := by decide) (hs : slots + rm.slots ≤ R.slots := by decide) :
    ∃ (v : Option Value) (T' : State) (L : List Loc), Stand p l e R (s.setVm T'.vm) m args below meth c T' (locs ++ L) (cells + rm.cells) (slots + rm.slots) ∧ Q v T'.heap L ∧ s.Since T'.vm T'.heap.size ∧ Z.Warmed39 (s.setVm T'.vm).vm ∧ (s.setVm T'.vm).vm.findClass own = some m.cls ∧ ∀ t, Steps p.tables e below (T'.setTop { g with pc := g.pc + 3, stack := v.toList ++ rest }) t → Steps p.tables e below (T.setTop g) t := by
  obtain ⟨v, _, ⟨T', L', k', n'⟩, -, X', hs', hg', ⟨L, hQ, h1, h2, h3⟩, st⟩ := callSS X hx (y := y) hown (mvT hZ w1) (mvT hZ w2) (mvT hZ w3) (mvT hZ w4) hy (backOfS (W := W) hM hZ w4 w3 hf hl) (g := g) hg (hsz.trans hml.symm) (argsL := argsL) (rest := rest) (lenOf hd hln) hst hW hdg (fun _ _ => ⟨has, eT, hc, hs⟩)
  dsimp only [Pt.U, Pt.locs, Pt.cells, Pt.slots] at X' h1 h2 h3 st hQ hs' hg'
  subst h1 h2 h3
  obtain ⟨Y, hS', hZ', ho'⟩ := rebS hS (n1 := T.heap.size) (by rw [eT]; exact hk) X' hs' hg' hZ hown
  exact ⟨v, T', L, Y, hQ, hS', hZ', ho', fun t q => st.trans q⟩
theorem own_cIW {own : String} {index maxL k W : Nat} {y : MethodName} {bytes : ByteArray} {rm : Room} {as' : Array Value} {Q : Option Value → Heap → List Loc → Prop} (X : Stand p l e R (s.setVm vm0) m args below meth c T locs cells slots) (hx : p.tables.exec = Jvm.exec) (hZ : Z.Warmed39 (s.setVm vm0).vm) (hown : (s.setVm vm0).vm.findClass own = some m.cls) (hS : s.Since vm0 k0) (hk : k0 ≤ h.size)
    (w1 : (Jvm.Cond.methodLink own index y).before a0 Z = true) (w2 : (Jvm.Cond.instanceMethod y).before a0 Z = true) (w3 : (Jvm.Cond.initialized y.cls).before a0 Z = true) (w4 : (Jvm.Cond.code y bytes maxL none).before a0 Z = true)
    (hM : MetFree l y (head1 [Jvm.Cond.code y bytes maxL none] rm) (own_In Z as' h) (fun _ _ _ _ _ => True) (own_OutW Q rm)) (eT : T.heap = h) (hml : c.maxLocals = k) {g : JFrame} {ps : List FieldType} {r : Option FieldType} (hd : parseMethodDescriptor y.desc = some ⟨ps, r⟩) (hdg : decode c.code g.pc = .ok (.invokespecial index, 3)) (a : Addr) (argsL rest : List Value)
    (hst : g.stack = argsL.reverse ++ .ref a :: rest := by rfl) (has : (.ref a :: argsL).toArray = as' := by rfl) (hg : g.method = m := by rfl) (hsz : g.locals.size = k := by rfl) (hln : argsL.length = ps.length := by rfl) (hn : y.name = "<init>" := by rfl) (hy : own_np y := by decide) (hW : 2 * g.monitorRoom + (rest.map fun v => v.category).sum ≤ W := by show 2 * 0 + _ ≤ _; exact Nat.le_of_eq rfl) (hf : rm.frames + 1 ≤ R.frames := by decide) (hl : W + (maxL + 11) + rm.locals ≤ R.locals := by decide) (hc : cells + rm.cells ≤ R.cells := by decide) (hs : slots + rm.slots ≤ R.slots := by decide) :
    ∃ (v : Option Value) (T' : State) (L : List Loc), Stand p l e R (s.setVm T'.vm) m args below meth c T' (locs ++ L) (cells + rm.cells) (slots + rm.slots) ∧ Q v T'.heap L ∧ s.Since T'.vm T'.heap.size ∧ Z.Warmed39 (s.setVm T'.vm).vm ∧ (s.setVm T'.vm).vm.findClass own = some m.cls ∧ ∀ t, Steps p.tables e below (T'.setTop { g with pc := g.pc + 3, stack := v.toList ++ rest }) t → Steps p.tables e below (T.setTop g) t := by
  obtain ⟨v, _, ⟨T', L', k', n'⟩, -, X', hs', hg', ⟨L, hQ, h1, h2, h3⟩, st⟩ := X.specialBackS hx (y := y) hn hown (mvT hZ w1) (mvT hZ w2) (mvT hZ w4) hy (backOfS (W := W) hM hZ w4 w3 hf hl) (g := g) hg (hsz.trans hml.symm) (Steps.refl _) (a := a) (argsL := argsL) (rest := rest) (lenOf hd hln) hst hW hdg (fun _ _ => ⟨has, eT, hc, hs⟩)
  dsimp only [Pt.U, Pt.locs, Pt.cells, Pt.slots] at X' h1 h2 h3 st hQ hs' hg'
  subst h1 h2 h3
  obtain ⟨Y, hS', hZ', ho'⟩ := rebS hS (n1 := T.heap.size) (by rw [eT]; exact hk) X' hs' hg' hZ hown
  exact ⟨v, T', L, Y, hQ, hS', hZ', ho', fun t q => st.trans q⟩
end CallsW
theorem own_and3 (x : Int32) (h0 : ¬ (x &&& (3 : Int32)) = (0 : Int32)) (h1 : ¬ (x &&& (3 : Int32)) = (1 : Int32)) (h2 : ¬ (x &&& (3 : Int32)) = (2 : Int32)) : (x &&& (3 : Int32)) = (3 : Int32) := by
  have h : (x &&& 3).toBitVec.toNat < 4 := by
    simp only [Int32.toBitVec_and, BitVec.toNat_and]
    exact Nat.lt_succ_of_le Nat.and_le_right
  have e : (x &&& 3) = Int32.ofNat (x &&& 3).toBitVec.toNat := by
    apply Int32.toBitVec_inj.mp
    show _ = BitVec.ofNat 32 _
    rw [BitVec.ofNat_toNat]; simp
  have t : ∀ k : Fin 4, ¬ Int32.ofNat k.val = 0 → ¬ Int32.ofNat k.val = 1 → ¬ Int32.ofNat k.val = 2 → Int32.ofNat k.val = 3 := by decide +kernel
  rw [e] at h0 h1 h2 ⊢
  exact t ⟨_, h⟩ h0 h1 h2
theorem own_c255 (x : Int32) : ¬ ((x &&& (255 : Int32)).toUInt32.toUInt16.toUInt32.toInt32) < 0 ∧ ¬ (255 : Int32) < ((x &&& (255 : Int32)).toUInt32.toUInt16.toUInt32.toInt32) := by
  have t : ∀ k : Fin 256, ¬ ((Int32.ofNat k.val).toUInt32.toUInt16.toUInt32.toInt32) < 0 ∧ ¬ (255 : Int32) < ((Int32.ofNat k.val).toUInt32.toUInt16.toUInt32.toInt32) := by decide +kernel
  have h : (x &&& 255).toBitVec.toNat < 256 := by
    simp only [Int32.toBitVec_and, BitVec.toNat_and]
    exact Nat.lt_succ_of_le Nat.and_le_right
  have e : (x &&& 255) = Int32.ofNat (x &&& 255).toBitVec.toNat := by
    apply Int32.toBitVec_inj.mp
    show _ = BitVec.ofNat 32 _
    rw [BitVec.ofNat_toNat]; simp
  rw [e]
  exact t ⟨_, h⟩
theorem own_and255 (x : Int32) : ¬ nar .char ((x &&& (255 : Int32)).toUInt32.toUInt16.toUInt32.toInt32) < 0 ∧ ¬ (255 : Int32) < nar .char ((x &&& (255 : Int32)).toUInt32.toUInt16.toUInt32.toInt32) := by
  have e : nar .char ((x &&& (255 : Int32)).toUInt32.toUInt16.toUInt32.toInt32) = ((x &&& (255 : Int32)).toUInt32.toUInt16.toUInt32.toInt32) := by simp only [nar, UInt32.toUInt32_toInt32, UInt16.toUInt16_toUInt32]
  rw [e]; exact own_c255 x
theorem own_nar2 (x : Int32) : ¬ nar .char (nar .char ((x &&& (255 : Int32)).toUInt32.toUInt16.toUInt32.toInt32)) < 0 ∧ ¬ (255 : Int32) < nar .char (nar .char ((x &&& (255 : Int32)).toUInt32.toUInt16.toUInt32.toInt32)) := by
  have e : nar .char (nar .char ((x &&& (255 : Int32)).toUInt32.toUInt16.toUInt32.toInt32)) = ((x &&& (255 : Int32)).toUInt32.toUInt16.toUInt32.toInt32) := by simp only [nar, UInt32.toUInt32_toInt32, UInt16.toUInt16_toUInt32]
  rw [e]; exact own_c255 x
theorem own_b63c (x : Int32) : (nar .char (nar .char ((x &&& (255 : Int32)).toUInt32.toUInt16.toUInt32.toInt32))).toInt8.toInt32 = (63 : Int32) ↔ nar .char ((x &&& (255 : Int32)).toUInt32.toUInt16.toUInt32.toInt32) = (63 : Int32) := by
  have t : ∀ k : Fin 256, (nar .char (nar .char ((Int32.ofNat k.val).toUInt32.toUInt16.toUInt32.toInt32))).toInt8.toInt32 = (63 : Int32) ↔ nar .char ((Int32.ofNat k.val).toUInt32.toUInt16.toUInt32.toInt32) = (63 : Int32) := by decide +kernel
  have h : (x &&& 255).toBitVec.toNat < 256 := by
    simp only [Int32.toBitVec_and, BitVec.toNat_and]
    exact Nat.lt_succ_of_le Nat.and_le_right
  have e : (x &&& 255) = Int32.ofNat (x &&& 255).toBitVec.toNat := by
    apply Int32.toBitVec_inj.mp
    show _ = BitVec.ofNat 32 _
    rw [BitVec.ofNat_toNat]; simp
  rw [e]
  exact t ⟨_, h⟩
theorem own_all0 {P : Int32 → Prop} : ∀ c ∈ ([] : List Int32), P c := fun _ q => nomatch q
theorem own_allS {P : Int32 → Prop} {y : Int32} {L : List Int32} (q : P y) (r : ∀ x ∈ L, P x) : ∀ x ∈ y :: L, P x := fun x z => (List.mem_cons.mp z).elim (fun u => u ▸ q) (r x)
def own_EL : List (String × Nat) := [("java/lang/String", 7)]
theorem own_enterH {l : Launch} {Z : State} {y : MethodName} {bytes : ByteArray} {maxL : Nat} {ret : Option FieldType} {ws : List Jvm.Cond} {R : Room} {A : Array Value} {h0 : Heap} {n0 : Nat} {Ls : Array Slot} {Q : Array Value → State → Outcome → State → Prop} (hp : plainFor y = true) (ef : ∀ m, entryFrame m A maxL = mkF m 0 Ls [])
    (k : ∀ (p : Program) (e : Env) (s : State) (m : MethodId) (below : List Frame) (meth : Method) (c : Code) (s₁ : State), p.tables.exec = Jvm.exec → c.code = bytes → c.maxLocals = maxL → s.vm.findClass y.cls = some m.cls → meth.name = y.name → meth.sig.returnType = ret → meth.locks = false →
      Stand p l e R s m A below meth c s₁ [] 0 0 → s₁.heap = h0 → Z.Warmed39 s.vm → s.heap = h0 → Fr n0 [] → CHv Z own_EL s.vm h0 → own_Fin p e below (fun U o => Q A s o U) s₁ (mkF m 0 Ls [])) :
    MetFree l y (head1 (Jvm.Cond.code y bytes maxL ret :: ws) R) (fun a U => a = A ∧ Z.Warmed39 U.vm ∧ U.heap = h0 ∧ CHv Z own_EL U.vm h0) (fun _ _ _ _ _ => True) Q := by
  refine MetFree.of_bodySF hp hisR ?_
  intro p e s m args below meth c s₁ Bd hml hP hK
  obtain ⟨rfl, hZ, hh, hC⟩ := hP
  exact own_start (ef m) (k p e s m below meth c s₁ Bd.exec Bd.bytes hml (findClass_of_methodNamed Bd.named) (name_of_methodNamed Bd.named Bd.method).1 Bd.returns Bd.notSynchronized (Stand.of_body Bd) (by rw [← hh, Bd.state]; rfl) hZ hh (Fr.nil n0) hC)
theorem own_safe {Z : State} {vm : Vm} {h : Heap} {EL : List (String × Nat)} {x : Addr} (hal : Z.vm.Alike vm) (E : Exa Z h x "java/lang/String") (F : Fld Z h x "java/lang/String" "value" "[B" .null) : Safe Z EL vm h x := fun B => by
  obtain ⟨pp, -, u, a, -, q, -, S, hx⟩ := B
  obtain ⟨cS, ⟨⟨s1, s2, s3, ⟨cv, kv, iv, s4, s4'⟩, -, s6, s7, s8, s9, s10, -⟩, hfS, hcS⟩, -, hB, -⟩ := S
  rcases hx with rfl | rfl
  · obtain ⟨cell, cf, k, i, f, h1, h2, -, -, -, -, h7⟩ := F
    have s1' : h[q.sa]? = some q.sC := s1
    cases s1'.symm.trans h1
    obtain ⟨k', z4⟩ := ff_back (U := Wst Z vm h) hal s4
    cases h2.symm.trans z4
    cases h7.symm.trans s8
  · obtain ⟨cell, k, e1, e2, -⟩ := E
    have s10' : h[q.sd]? = some q.SA := s10
    cases s10'.symm.trans e1
    have hB' : vm.findClass "[B" = some q.SA.cls := hB
    rw [hal.findClass] at hB'
    obtain ⟨k1, q1, q2⟩ := Vm.findClass_spec hB'
    obtain ⟨k2, q3, q4⟩ := Vm.findClass_spec e2
    cases q1.symm.trans q3
    exact absurd (q2.symm.trans q4) (by decide)
section CallsH
variable {p : Program} {l : Launch} {e : Env} {R : Room} {s : State} {vm0 : Vm} {m : MethodId} {args : Array Value} {below : List Frame} {meth : Method} {c : Code} {T : State} {locs : List Loc} {cells slots : Nat} {Z : State} {a0 : Array Value} {h : Heap} {k0 : Nat}
abbrev own_InH (Z : State) (as' : Array Value) (h : Heap) : Array Value → State → Prop := fun a U => a = as' ∧ Z.Warmed39 U.vm ∧ U.heap = h ∧ CHv Z own_EL U.vm h
abbrev own_OutH (Z : State) (Q : Option Value → Heap → List Loc → Prop) (rm : Room) : Array Value → State → Outcome → State → Prop := fun _ U o U' => ∃ v L, o = .returned v ∧ Q v U'.heap L ∧ CHr Z own_EL U.vm U.heap U'.vm U'.heap ∧ ReturnedEndW U o U' L rm.cells rm.slots
theorem own_cSH {own : String} {index maxL k W : Nat} {y : MethodName} {bytes : ByteArray} {ret : Option FieldType} {rm : Room} {as' : Array Value} {Q : Option Value → Heap → List Loc → Prop} (X : Stand p l e R (s.setVm vm0) m args below meth c T locs cells slots) (hx : p.tables.exec = Jvm.exec) (hZ : Z.Warmed39 (s.setVm vm0).vm) (hown : (s.setVm vm0).vm.findClass own = some m.cls) (hS : s.Since vm0 k0) (hk : k0 ≤ h.size) (hEL : EW Z a0 own_EL) (hR : CHv Z own_EL vm0 h)
    (w1 : (Jvm.Cond.methodLink own index y).before a0 Z = true) (w2 : (Jvm.Cond.static y).before a0 Z = true) (w3 : (Jvm.Cond.initialized y.cls).before a0 Z = true) (w4 : (Jvm.Cond.code y bytes maxL ret).before a0 Z = true)
    (hM : MetFree l y (head1 [Jvm.Cond.code y bytes maxL ret] rm) (own_InH Z as' h) (fun _ _ _ _ _ => True) (own_OutH Z Q rm)) (eT : T.heap = h) (hml : c.maxLocals = k) {g : JFrame} {ps : List FieldType} {r : Option FieldType} (hd : parseMethodDescriptor y.desc = some ⟨ps, r⟩) (hdg : decode c.code g.pc = .ok (.invokestatic index, 3)) (argsL rest : List Value)
    (hst : g.stack = argsL.reverse ++ rest := by rfl) (has : argsL.toArray = as' := by rfl) (hg : g.method = m := by rfl) (hsz : g.locals.size = k := by rfl) (hln : argsL.length = ps.length := by rfl) (hy : own_np y := by decide) (hW : 2 * g.monitorRoom + (rest.map fun v => v.category).sum ≤ W := by show 2 * 0 + _ ≤ _; exact Nat.le_of_eq rfl) (hf : rm.frames + 1 ≤ R.frames := by decide) (hl : W + (maxL + 11) + rm.locals ≤ R.locals := by decide) (hc : cells + rm.cells ≤ R.cells := by decide) (hs : slots + rm.slots ≤ R.slots := by decide) :
    ∃ (v : Option Value) (T' : State) (L : List Loc), Stand p l e R (s.setVm T'.vm) m args below meth c T' (locs ++ L) (cells + rm.cells) (slots + rm.slots) ∧ Q v T'.heap L ∧ s.Since T'.vm T'.heap.size ∧ Z.Warmed39 (s.setVm T'.vm).vm ∧ (s.setVm T'.vm).vm.findClass own = some m.cls ∧ CHr Z own_EL vm0 h T'.vm T'.heap ∧ ∀ t, Steps p.tables e below (T'.setTop { g with pc := g.pc + 3, stack := v.toList ++ rest }) t → Steps p.tables e below (T.setTop g) t := by
  obtain ⟨v, _, ⟨T', L', k', n'⟩, -, X', hs', hg', ⟨L, hQ, h1, h2, h3, hC⟩, st⟩ := callSS X hx (y := y) hown (mvT hZ w1) (mvT hZ w2) (mvT hZ w3) (mvT hZ w4) hy (backOfSH (W := W) hM hZ w4 w3 hf hl hEL hR) (g := g) hg (hsz.trans hml.symm) (argsL := argsL) (rest := rest) (lenOf hd hln) hst hW hdg (fun _ _ => ⟨has, eT, hc, hs⟩)
  dsimp only [Pt.U, Pt.locs, Pt.cells, Pt.slots] at X' h1 h2 h3 st hQ hs' hg' hC
  subst h1 h2 h3
  obtain ⟨Y, hS', hZ', ho'⟩ := rebS hS (n1 := T.heap.size) (by rw [eT]; exact hk) X' hs' hg' hZ hown
  exact ⟨v, T', L, Y, hQ, hS', hZ', ho', hC, fun t q => st.trans q⟩
theorem own_cIH {own : String} {index maxL k W : Nat} {y : MethodName} {bytes : ByteArray} {rm : Room} {as' : Array Value} {Q : Option Value → Heap → List Loc → Prop} (X : Stand p l e R (s.setVm vm0) m args below meth c T locs cells slots) (hx : p.tables.exec = Jvm.exec) (hZ : Z.Warmed39 (s.setVm vm0).vm) (hown : (s.setVm vm0).vm.findClass own = some m.cls) (hS : s.Since vm0 k0) (hk : k0 ≤ h.size) (hEL : EW Z a0 own_EL) (hR : CHv Z own_EL vm0 h)
    (w1 : (Jvm.Cond.methodLink own index y).before a0 Z = true) (w2 : (Jvm.Cond.instanceMethod y).before a0 Z = true) (w3 : (Jvm.Cond.initialized y.cls).before a0 Z = true) (w4 : (Jvm.Cond.code y bytes maxL none).before a0 Z = true)
    (hM : MetFree l y (head1 [Jvm.Cond.code y bytes maxL none] rm) (own_InH Z as' h) (fun _ _ _ _ _ => True) (own_OutH Z Q rm)) (eT : T.heap = h) (hml : c.maxLocals = k) {g : JFrame} {ps : List FieldType} {r : Option FieldType} (hd : parseMethodDescriptor y.desc = some ⟨ps, r⟩) (hdg : decode c.code g.pc = .ok (.invokespecial index, 3)) (a : Addr) (argsL rest : List Value)
    (hst : g.stack = argsL.reverse ++ .ref a :: rest := by rfl) (has : (.ref a :: argsL).toArray = as' := by rfl) (hg : g.method = m := by rfl) (hsz : g.locals.size = k := by rfl) (hln : argsL.length = ps.length := by rfl) (hn : y.name = "<init>" := by rfl) (hy : own_np y := by decide) (hW : 2 * g.monitorRoom + (rest.map fun v => v.category).sum ≤ W := by show 2 * 0 + _ ≤ _; exact Nat.le_of_eq rfl) (hf : rm.frames + 1 ≤ R.frames := by decide) (hl : W + (maxL + 11) + rm.locals ≤ R.locals := by decide) (hc : cells + rm.cells ≤ R.cells := by decide) (hs : slots + rm.slots ≤ R.slots := by decide) :
    ∃ (v : Option Value) (T' : State) (L : List Loc), Stand p l e R (s.setVm T'.vm) m args below meth c T' (locs ++ L) (cells + rm.cells) (slots + rm.slots) ∧ Q v T'.heap L ∧ s.Since T'.vm T'.heap.size ∧ Z.Warmed39 (s.setVm T'.vm).vm ∧ (s.setVm T'.vm).vm.findClass own = some m.cls ∧ CHr Z own_EL vm0 h T'.vm T'.heap ∧ ∀ t, Steps p.tables e below (T'.setTop { g with pc := g.pc + 3, stack := v.toList ++ rest }) t → Steps p.tables e below (T.setTop g) t := by
  obtain ⟨v, _, ⟨T', L', k', n'⟩, -, X', hs', hg', ⟨L, hQ, h1, h2, h3, hC⟩, st⟩ := X.specialBackS hx (y := y) hn hown (mvT hZ w1) (mvT hZ w2) (mvT hZ w4) hy (backOfSH (W := W) hM hZ w4 w3 hf hl hEL hR) (g := g) hg (hsz.trans hml.symm) (Steps.refl _) (a := a) (argsL := argsL) (rest := rest) (lenOf hd hln) hst hW hdg (fun _ _ => ⟨has, eT, hc, hs⟩)
  dsimp only [Pt.U, Pt.locs, Pt.cells, Pt.slots] at X' h1 h2 h3 st hQ hs' hg' hC
  subst h1 h2 h3
  obtain ⟨Y, hS', hZ', ho'⟩ := rebS hS (n1 := T.heap.size) (by rw [eT]; exact hk) X' hs' hg' hZ hown
  exact ⟨v, T', L, Y, hQ, hS', hZ', ho', hC, fun t q => st.trans q⟩
end CallsH
theorem d1_0 : decode method_2_code 0 = .ok (.iload_n 0, 1) := by decide +kernel
theorem d1_1 : decode method_2_code 1 = .ok (.bipush 7, 2) := by decide +kernel
theorem d1_3 : decode method_2_code 3 = .ok (.iand, 1) := by decide +kernel
theorem d1_4 : decode method_2_code 4 = .ok (.istore 4, 2) := by decide +kernel
theorem d1_6 : decode method_2_code 6 = .ok (.iload_n 1, 1) := by decide +kernel
theorem d1_7 : decode method_2_code 7 = .ok (.sipush 255, 3) := by decide +kernel
theorem d1_10 : decode method_2_code 10 = .ok (.iand, 1) := by decide +kernel
theorem d1_11 : decode method_2_code 11 = .ok (.i2c, 1) := by decide +kernel
theorem d1_12 : decode method_2_code 12 = .ok (.istore 5, 2) := by decide +kernel
theorem d1_14 : decode method_2_code 14 = .ok (.iload_n 2, 1) := by decide +kernel
theorem d1_15 : decode method_2_code 15 = .ok (.sipush 255, 3) := by decide +kernel
theorem d1_18 : decode method_2_code 18 = .ok (.iand, 1) := by decide +kernel
theorem d1_19 : decode method_2_code 19 = .ok (.i2c, 1) := by decide +kernel
theorem d1_20 : decode method_2_code 20 = .ok (.istore 6, 2) := by decide +kernel
theorem d1_22 : decode method_2_code 22 = .ok (.iload_n 3, 1) := by decide +kernel
theorem d1_23 : decode method_2_code 23 = .ok (.sipush 255, 3) := by decide +kernel
theorem d1_26 : decode method_2_code 26 = .ok (.iand, 1) := by decide +kernel
theorem d1_27 : decode method_2_code 27 = .ok (.i2c, 1) := by decide +kernel
theorem d1_28 : decode method_2_code 28 = .ok (.istore 7, 2) := by decide +kernel
theorem d1_30 : decode method_2_code 30 = .ok (.iload 4, 2) := by decide +kernel
theorem d1_32 : decode method_2_code 32 = .ok (.ifCond .ne 14, 3) := by decide +kernel
theorem d1_35 : decode method_2_code 35 = .ok (.new 7, 3) := by decide +kernel
abbrev cC0 : String := "java/lang/String"
theorem d1_38 : decode method_2_code 38 = .ok (.dup, 1) := by decide +kernel
theorem d1_39 : decode method_2_code 39 = .ok (.iconst 0, 1) := by decide +kernel
theorem d1_40 : decode method_2_code 40 = .ok (.newarray .char, 2) := by decide +kernel
theorem d1_42 : decode method_2_code 42 = .ok (.invokespecial 9, 3) := by decide +kernel
theorem d2_0 : decode jdk_42_method_3_code 0 = .ok (.aload_n 0, 1) := by decide +kernel
theorem d2_1 : decode jdk_42_method_3_code 1 = .ok (.aload_n 1, 1) := by decide +kernel
theorem d2_2 : decode jdk_42_method_3_code 2 = .ok (.iconst 0, 1) := by decide +kernel
theorem d2_3 : decode jdk_42_method_3_code 3 = .ok (.aload_n 1, 1) := by decide +kernel
theorem d2_4 : decode jdk_42_method_3_code 4 = .ok (.arraylength, 1) := by decide +kernel
theorem d2_5 : decode jdk_42_method_3_code 5 = .ok (.aconst_null, 1) := by decide +kernel
theorem d2_6 : decode jdk_42_method_3_code 6 = .ok (.invokespecial 27, 3) := by decide +kernel
theorem d3_0 : decode jdk_42_method_149_code 0 = .ok (.aload_n 0, 1) := by decide +kernel
theorem d3_1 : decode jdk_42_method_149_code 1 = .ok (.invokespecial 1, 3) := by decide +kernel
theorem d3_4 : decode jdk_42_method_149_code 4 = .ok (.iload_n 3, 1) := by decide +kernel
theorem d3_5 : decode jdk_42_method_149_code 5 = .ok (.ifCond .ne 22, 3) := by decide +kernel
theorem d3_8 : decode jdk_42_method_149_code 8 = .ok (.aload_n 0, 1) := by decide +kernel
theorem d3_9 : decode jdk_42_method_149_code 9 = .ok (.ldc 7, 2) := by decide +kernel
theorem d3_11 : decode jdk_42_method_149_code 11 = .ok (.getfield 9, 3) := by decide +kernel
theorem d3_14 : decode jdk_42_method_149_code 14 = .ok (.putfield 9, 3) := by decide +kernel
theorem d3_17 : decode jdk_42_method_149_code 17 = .ok (.aload_n 0, 1) := by decide +kernel
theorem d3_18 : decode jdk_42_method_149_code 18 = .ok (.ldc 7, 2) := by decide +kernel
theorem d3_20 : decode jdk_42_method_149_code 20 = .ok (.getfield 15, 3) := by decide +kernel
theorem d3_23 : decode jdk_42_method_149_code 23 = .ok (.putfield 15, 3) := by decide +kernel
theorem d3_26 : decode jdk_42_method_149_code 26 = .ok (.return_, 1) := by decide +kernel
abbrev yM0 : MethodName := ⟨cC0, "<init>", "([CIILjava/lang/Void;)V"⟩
theorem pn2 : plainName "java/lang/String" = true := by first | (simp [plainName, overriddenIn]; done) | decide +kernel
theorem pd0 : parseMethodDescriptor "([CIILjava/lang/Void;)V" = some ⟨[(.array .char), .int, .int, (.object "java/lang/Void")], none⟩ := by decide +kernel
theorem d2_9 : decode jdk_42_method_3_code 9 = .ok (.return_, 1) := by decide +kernel
abbrev yM1 : MethodName := ⟨cC0, "<init>", "([C)V"⟩
theorem pd1 : parseMethodDescriptor "([C)V" = some ⟨[(.array .char)], none⟩ := by decide +kernel
theorem d1_45 : decode method_2_code 45 = .ok (.areturn, 1) := by decide +kernel
abbrev cC1 : String := "com/example/wito/wito/delivery/VerdictFailedPermanentlyPinLaw"
abbrev yM2 : MethodName := ⟨cC1, "draw", "(IIII)Ljava/lang/String;"⟩
theorem pn0 : plainName "com/example/wito/wito/delivery/VerdictFailedPermanentlyPinLaw" = true := by first | (simp [plainName, overriddenIn]; done) | decide +kernel
theorem pd2 : parseMethodDescriptor "(IIII)Ljava/lang/String;" = some ⟨[.int, .int, .int, .int], some (.object "java/lang/String")⟩ := by decide +kernel
theorem d5_0 : decode prog_5_method_5_code 0 = .ok (.new 8, 3) := by decide +kernel
abbrev cC2 : String := "com/example/wito/wito/delivery/Verdict"
abbrev cC3 : String := "Lcom/example/wito/wito/delivery/Verdict$Outcome;"
abbrev cC4 : String := "Ljava/lang/String;"
theorem d5_3 : decode prog_5_method_5_code 3 = .ok (.dup, 1) := by decide +kernel
theorem d5_4 : decode prog_5_method_5_code 4 = .ok (.getstatic 33, 3) := by decide +kernel
theorem d5_7 : decode prog_5_method_5_code 7 = .ok (.aload_n 0, 1) := by decide +kernel
theorem d5_8 : decode prog_5_method_5_code 8 = .ok (.iconst 0, 1) := by decide +kernel
theorem d5_9 : decode prog_5_method_5_code 9 = .ok (.invokespecial 30, 3) := by decide +kernel
theorem d6_0 : decode prog_5_method_1_code 0 = .ok (.aload_n 0, 1) := by decide +kernel
theorem d6_1 : decode prog_5_method_1_code 1 = .ok (.invokespecial 1, 3) := by decide +kernel
theorem d6_4 : decode prog_5_method_1_code 4 = .ok (.aload_n 0, 1) := by decide +kernel
theorem d6_5 : decode prog_5_method_1_code 5 = .ok (.aload_n 1, 1) := by decide +kernel
theorem d6_6 : decode prog_5_method_1_code 6 = .ok (.putfield 7, 3) := by decide +kernel
theorem d6_9 : decode prog_5_method_1_code 9 = .ok (.aload_n 0, 1) := by decide +kernel
theorem d6_10 : decode prog_5_method_1_code 10 = .ok (.aload_n 2, 1) := by decide +kernel
theorem d6_11 : decode prog_5_method_1_code 11 = .ok (.putfield 13, 3) := by decide +kernel
theorem d6_14 : decode prog_5_method_1_code 14 = .ok (.aload_n 0, 1) := by decide +kernel
theorem d6_15 : decode prog_5_method_1_code 15 = .ok (.iload_n 3, 1) := by decide +kernel
theorem d6_16 : decode prog_5_method_1_code 16 = .ok (.putfield 17, 3) := by decide +kernel
theorem d6_19 : decode prog_5_method_1_code 19 = .ok (.return_, 1) := by decide +kernel
abbrev yM3 : MethodName := ⟨cC2, "<init>", "(Lcom/example/wito/wito/delivery/Verdict$Outcome;Ljava/lang/String;Z)V"⟩
theorem pn5 : plainName "com/example/wito/wito/delivery/Verdict" = true := by first | (simp [plainName, overriddenIn]; done) | decide +kernel
theorem pd3 : parseMethodDescriptor "(Lcom/example/wito/wito/delivery/Verdict$Outcome;Ljava/lang/String;Z)V" = some ⟨[(.object "com/example/wito/wito/delivery/Verdict$Outcome"), (.object "java/lang/String"), .boolean], none⟩ := by decide +kernel
theorem d5_12 : decode prog_5_method_5_code 12 = .ok (.areturn, 1) := by decide +kernel
abbrev yM4 : MethodName := ⟨cC2, "failedPermanently", "(Ljava/lang/String;)Lcom/example/wito/wito/delivery/Verdict;"⟩
theorem pd4 : parseMethodDescriptor "(Ljava/lang/String;)Lcom/example/wito/wito/delivery/Verdict;" = some ⟨[(.object "java/lang/String")], some (.object "com/example/wito/wito/delivery/Verdict")⟩ := by decide +kernel
theorem d7_0 : decode prog_5_method_8_code 0 = .ok (.aload_n 0, 1) := by decide +kernel
theorem d7_1 : decode prog_5_method_8_code 1 = .ok (.getfield 7, 3) := by decide +kernel
theorem d7_4 : decode prog_5_method_8_code 4 = .ok (.areturn, 1) := by decide +kernel
abbrev yM5 : MethodName := ⟨cC2, "outcome", "()Lcom/example/wito/wito/delivery/Verdict$Outcome;"⟩
theorem pd5 : parseMethodDescriptor "()Lcom/example/wito/wito/delivery/Verdict$Outcome;" = some ⟨[], some (.object "com/example/wito/wito/delivery/Verdict$Outcome")⟩ := by decide +kernel
theorem d8_0 : decode prog_5_method_10_code 0 = .ok (.aload_n 0, 1) := by decide +kernel
theorem d8_1 : decode prog_5_method_10_code 1 = .ok (.getfield 17, 3) := by decide +kernel
theorem d8_4 : decode prog_5_method_10_code 4 = .ok (.ireturn, 1) := by decide +kernel
abbrev yM6 : MethodName := ⟨cC2, "retryable", "()Z"⟩
theorem pd6 : parseMethodDescriptor "()Z" = some ⟨[], some .boolean⟩ := by decide +kernel
theorem d9_0 : decode prog_5_method_9_code 0 = .ok (.aload_n 0, 1) := by decide +kernel
theorem d9_1 : decode prog_5_method_9_code 1 = .ok (.getfield 13, 3) := by decide +kernel
theorem d9_4 : decode prog_5_method_9_code 4 = .ok (.areturn, 1) := by decide +kernel
abbrev yM7 : MethodName := ⟨cC2, "reason", "()Ljava/lang/String;"⟩
theorem pd7 : parseMethodDescriptor "()Ljava/lang/String;" = some ⟨[], some (.object "java/lang/String")⟩ := by decide +kernel
theorem d10_0 : decode jdk_42_method_66_code 0 = .ok (.aload_n 0, 1) := by decide +kernel
theorem d10_1 : decode jdk_42_method_66_code 1 = .ok (.aload_n 1, 1) := by decide +kernel
theorem d10_2 : decode jdk_42_method_66_code 2 = .ok (.if_acmp .ne 5, 3) := by decide +kernel
theorem d10_5 : decode jdk_42_method_66_code 5 = .ok (.iconst 1, 1) := by decide +kernel
theorem d10_6 : decode jdk_42_method_66_code 6 = .ok (.ireturn, 1) := by decide +kernel
abbrev yM8 : MethodName := ⟨cC0, "equals", "(Ljava/lang/Object;)Z"⟩
theorem pd8 : parseMethodDescriptor "(Ljava/lang/Object;)Z" = some ⟨[(.object "java/lang/Object")], some .boolean⟩ := by decide +kernel
theorem d1_46 : decode method_2_code 46 = .ok (.iload 4, 2) := by decide +kernel
theorem d1_48 : decode method_2_code 48 = .ok (.iconst 1, 1) := by decide +kernel
theorem d1_49 : decode method_2_code 49 = .ok (.if_icmp .ne 19, 3) := by decide +kernel
theorem d1_52 : decode method_2_code 52 = .ok (.new 7, 3) := by decide +kernel
theorem d1_55 : decode method_2_code 55 = .ok (.dup, 1) := by decide +kernel
theorem d1_56 : decode method_2_code 56 = .ok (.iconst 1, 1) := by decide +kernel
theorem d1_57 : decode method_2_code 57 = .ok (.newarray .char, 2) := by decide +kernel
theorem d1_59 : decode method_2_code 59 = .ok (.dup, 1) := by decide +kernel
theorem d1_60 : decode method_2_code 60 = .ok (.iconst 0, 1) := by decide +kernel
theorem d1_61 : decode method_2_code 61 = .ok (.iload 5, 2) := by decide +kernel
theorem d1_63 : decode method_2_code 63 = .ok (.castore, 1) := by decide +kernel
theorem d1_64 : decode method_2_code 64 = .ok (.invokespecial 9, 3) := by decide +kernel
theorem d1_67 : decode method_2_code 67 = .ok (.areturn, 1) := by decide +kernel
theorem d1_68 : decode method_2_code 68 = .ok (.iload 4, 2) := by decide +kernel
theorem d1_70 : decode method_2_code 70 = .ok (.iconst 2, 1) := by decide +kernel
theorem d1_71 : decode method_2_code 71 = .ok (.if_icmp .ne 24, 3) := by decide +kernel
theorem d1_74 : decode method_2_code 74 = .ok (.new 7, 3) := by decide +kernel
theorem d1_77 : decode method_2_code 77 = .ok (.dup, 1) := by decide +kernel
theorem d1_78 : decode method_2_code 78 = .ok (.iconst 2, 1) := by decide +kernel
theorem d1_79 : decode method_2_code 79 = .ok (.newarray .char, 2) := by decide +kernel
theorem d1_81 : decode method_2_code 81 = .ok (.dup, 1) := by decide +kernel
theorem d1_82 : decode method_2_code 82 = .ok (.iconst 0, 1) := by decide +kernel
theorem d1_83 : decode method_2_code 83 = .ok (.iload 5, 2) := by decide +kernel
theorem d1_85 : decode method_2_code 85 = .ok (.castore, 1) := by decide +kernel
theorem d1_86 : decode method_2_code 86 = .ok (.dup, 1) := by decide +kernel
theorem d1_87 : decode method_2_code 87 = .ok (.iconst 1, 1) := by decide +kernel
theorem d1_88 : decode method_2_code 88 = .ok (.iload 6, 2) := by decide +kernel
theorem d1_90 : decode method_2_code 90 = .ok (.castore, 1) := by decide +kernel
theorem d1_91 : decode method_2_code 91 = .ok (.invokespecial 9, 3) := by decide +kernel
theorem d1_94 : decode method_2_code 94 = .ok (.areturn, 1) := by decide +kernel
theorem d1_95 : decode method_2_code 95 = .ok (.iload 4, 2) := by decide +kernel
theorem d1_97 : decode method_2_code 97 = .ok (.iconst 3, 1) := by decide +kernel
theorem d1_98 : decode method_2_code 98 = .ok (.if_icmp .ne 29, 3) := by decide +kernel
theorem d1_101 : decode method_2_code 101 = .ok (.new 7, 3) := by decide +kernel
theorem d1_104 : decode method_2_code 104 = .ok (.dup, 1) := by decide +kernel
theorem d1_105 : decode method_2_code 105 = .ok (.iconst 3, 1) := by decide +kernel
theorem d1_106 : decode method_2_code 106 = .ok (.newarray .char, 2) := by decide +kernel
theorem d1_108 : decode method_2_code 108 = .ok (.dup, 1) := by decide +kernel
theorem d1_109 : decode method_2_code 109 = .ok (.iconst 0, 1) := by decide +kernel
theorem d1_110 : decode method_2_code 110 = .ok (.iload 5, 2) := by decide +kernel
theorem d1_112 : decode method_2_code 112 = .ok (.castore, 1) := by decide +kernel
theorem d1_113 : decode method_2_code 113 = .ok (.dup, 1) := by decide +kernel
theorem d1_114 : decode method_2_code 114 = .ok (.iconst 1, 1) := by decide +kernel
theorem d1_115 : decode method_2_code 115 = .ok (.iload 6, 2) := by decide +kernel
theorem d1_117 : decode method_2_code 117 = .ok (.castore, 1) := by decide +kernel
theorem d1_118 : decode method_2_code 118 = .ok (.dup, 1) := by decide +kernel
theorem d1_119 : decode method_2_code 119 = .ok (.iconst 2, 1) := by decide +kernel
theorem d1_120 : decode method_2_code 120 = .ok (.iload 7, 2) := by decide +kernel
theorem d1_122 : decode method_2_code 122 = .ok (.castore, 1) := by decide +kernel
theorem d1_123 : decode method_2_code 123 = .ok (.invokespecial 9, 3) := by decide +kernel
theorem d1_126 : decode method_2_code 126 = .ok (.areturn, 1) := by decide +kernel
theorem d1_127 : decode method_2_code 127 = .ok (.iload 4, 2) := by decide +kernel
theorem d1_129 : decode method_2_code 129 = .ok (.iconst 4, 1) := by decide +kernel
theorem d1_130 : decode method_2_code 130 = .ok (.if_icmp .ne 5, 3) := by decide +kernel
theorem d1_133 : decode method_2_code 133 = .ok (.aconst_null, 1) := by decide +kernel
theorem d1_134 : decode method_2_code 134 = .ok (.areturn, 1) := by decide +kernel
theorem d1_135 : decode method_2_code 135 = .ok (.iload 4, 2) := by decide +kernel
theorem d1_137 : decode method_2_code 137 = .ok (.iconst 5, 1) := by decide +kernel
theorem d1_138 : decode method_2_code 138 = .ok (.if_icmp .ne 9, 3) := by decide +kernel
theorem d1_141 : decode method_2_code 141 = .ok (.iload 5, 2) := by decide +kernel
theorem d1_143 : decode method_2_code 143 = .ok (.invokestatic 12, 3) := by decide +kernel
theorem d14_0 : decode jdk_42_method_139_code 0 = .ok (.getstatic 38, 3) := by decide +kernel
theorem d14_3 : decode jdk_42_method_139_code 3 = .ok (.ifCond .eq 23, 3) := by decide +kernel
theorem d14_6 : decode jdk_42_method_139_code 6 = .ok (.iload_n 0, 1) := by decide +kernel
theorem d14_7 : decode jdk_42_method_139_code 7 = .ok (.invokestatic 1015, 3) := by decide +kernel
theorem d15_0 : decode jdk_43_method_3_code 0 = .ok (.iload_n 0, 1) := by decide +kernel
theorem d15_1 : decode jdk_43_method_3_code 1 = .ok (.sipush 255, 3) := by decide +kernel
theorem d15_4 : decode jdk_43_method_3_code 4 = .ok (.if_icmp .gt 7, 3) := by decide +kernel
theorem d15_7 : decode jdk_43_method_3_code 7 = .ok (.iconst 1, 1) := by decide +kernel
theorem d15_8 : decode jdk_43_method_3_code 8 = .ok (.goto 4, 3) := by decide +kernel
theorem d15_12 : decode jdk_43_method_3_code 12 = .ok (.ireturn, 1) := by decide +kernel
abbrev cC5 : String := "java/lang/StringLatin1"
abbrev yM9 : MethodName := ⟨cC5, "canEncode", "(C)Z"⟩
theorem pn15 : plainName "java/lang/StringLatin1" = true := by first | (simp [plainName, overriddenIn]; done) | decide +kernel
theorem pd9 : parseMethodDescriptor "(C)Z" = some ⟨[.char], some .boolean⟩ := by decide +kernel
theorem d14_10 : decode jdk_42_method_139_code 10 = .ok (.ifCond .eq 16, 3) := by decide +kernel
theorem d14_13 : decode jdk_42_method_139_code 13 = .ok (.new 10, 3) := by decide +kernel
theorem d14_16 : decode jdk_42_method_139_code 16 = .ok (.dup, 1) := by decide +kernel
theorem d14_17 : decode jdk_42_method_139_code 17 = .ok (.iload_n 0, 1) := by decide +kernel
theorem d14_18 : decode jdk_42_method_139_code 18 = .ok (.invokestatic 1018, 3) := by decide +kernel
theorem d16_0 : decode jdk_43_method_46_code 0 = .ok (.iconst 1, 1) := by decide +kernel
theorem d16_1 : decode jdk_43_method_46_code 1 = .ok (.newarray .byte, 2) := by decide +kernel
theorem d16_3 : decode jdk_43_method_46_code 3 = .ok (.dup, 1) := by decide +kernel
theorem d16_4 : decode jdk_43_method_46_code 4 = .ok (.iconst 0, 1) := by decide +kernel
theorem d16_5 : decode jdk_43_method_46_code 5 = .ok (.iload_n 0, 1) := by decide +kernel
theorem d16_6 : decode jdk_43_method_46_code 6 = .ok (.i2b, 1) := by decide +kernel
theorem d16_7 : decode jdk_43_method_46_code 7 = .ok (.bastore, 1) := by decide +kernel
theorem d16_8 : decode jdk_43_method_46_code 8 = .ok (.areturn, 1) := by decide +kernel
abbrev yM10 : MethodName := ⟨cC5, "toBytes", "(C)[B"⟩
theorem pd10 : parseMethodDescriptor "(C)[B" = some ⟨[.char], some (.array .byte)⟩ := by decide +kernel
theorem d14_21 : decode jdk_42_method_139_code 21 = .ok (.iconst 0, 1) := by decide +kernel
theorem d14_22 : decode jdk_42_method_139_code 22 = .ok (.invokespecial 209, 3) := by decide +kernel
theorem d17_0 : decode jdk_42_method_151_code 0 = .ok (.aload_n 0, 1) := by decide +kernel
theorem d17_1 : decode jdk_42_method_151_code 1 = .ok (.invokespecial 1, 3) := by decide +kernel
theorem d17_4 : decode jdk_42_method_151_code 4 = .ok (.aload_n 0, 1) := by decide +kernel
theorem d17_5 : decode jdk_42_method_151_code 5 = .ok (.aload_n 1, 1) := by decide +kernel
theorem d17_6 : decode jdk_42_method_151_code 6 = .ok (.putfield 9, 3) := by decide +kernel
theorem d17_9 : decode jdk_42_method_151_code 9 = .ok (.aload_n 0, 1) := by decide +kernel
theorem d17_10 : decode jdk_42_method_151_code 10 = .ok (.iload_n 2, 1) := by decide +kernel
theorem d17_11 : decode jdk_42_method_151_code 11 = .ok (.putfield 15, 3) := by decide +kernel
theorem d17_14 : decode jdk_42_method_151_code 14 = .ok (.return_, 1) := by decide +kernel
abbrev yM11 : MethodName := ⟨cC0, "<init>", "([BB)V"⟩
theorem pd11 : parseMethodDescriptor "([BB)V" = some ⟨[(.array .byte), .byte], none⟩ := by decide +kernel
theorem d14_25 : decode jdk_42_method_139_code 25 = .ok (.areturn, 1) := by decide +kernel
abbrev yM12 : MethodName := ⟨cC0, "valueOf", "(C)Ljava/lang/String;"⟩
theorem pd12 : parseMethodDescriptor "(C)Ljava/lang/String;" = some ⟨[.char], some (.object "java/lang/String")⟩ := by decide +kernel
theorem d1_146 : decode method_2_code 146 = .ok (.areturn, 1) := by decide +kernel
theorem d1_147 : decode method_2_code 147 = .ok (.iload 4, 2) := by decide +kernel
theorem d1_149 : decode method_2_code 149 = .ok (.bipush 6, 2) := by decide +kernel
theorem d1_151 : decode method_2_code 151 = .ok (.if_icmp .ne 24, 3) := by decide +kernel
theorem d1_154 : decode method_2_code 154 = .ok (.new 7, 3) := by decide +kernel
theorem d1_157 : decode method_2_code 157 = .ok (.dup, 1) := by decide +kernel
theorem d1_158 : decode method_2_code 158 = .ok (.iconst 2, 1) := by decide +kernel
theorem d1_159 : decode method_2_code 159 = .ok (.newarray .char, 2) := by decide +kernel
theorem d1_161 : decode method_2_code 161 = .ok (.dup, 1) := by decide +kernel
theorem d1_162 : decode method_2_code 162 = .ok (.iconst 0, 1) := by decide +kernel
theorem d1_163 : decode method_2_code 163 = .ok (.iload 6, 2) := by decide +kernel
theorem d1_165 : decode method_2_code 165 = .ok (.castore, 1) := by decide +kernel
theorem d1_166 : decode method_2_code 166 = .ok (.dup, 1) := by decide +kernel
theorem d1_167 : decode method_2_code 167 = .ok (.iconst 1, 1) := by decide +kernel
theorem d1_168 : decode method_2_code 168 = .ok (.iload 7, 2) := by decide +kernel
theorem d1_170 : decode method_2_code 170 = .ok (.castore, 1) := by decide +kernel
theorem d1_171 : decode method_2_code 171 = .ok (.invokespecial 9, 3) := by decide +kernel
theorem d1_174 : decode method_2_code 174 = .ok (.areturn, 1) := by decide +kernel
theorem d1_175 : decode method_2_code 175 = .ok (.new 7, 3) := by decide +kernel
theorem d1_178 : decode method_2_code 178 = .ok (.dup, 1) := by decide +kernel
theorem d1_179 : decode method_2_code 179 = .ok (.iconst 3, 1) := by decide +kernel
theorem d1_180 : decode method_2_code 180 = .ok (.newarray .char, 2) := by decide +kernel
theorem d1_182 : decode method_2_code 182 = .ok (.dup, 1) := by decide +kernel
theorem d1_183 : decode method_2_code 183 = .ok (.iconst 0, 1) := by decide +kernel
theorem d1_184 : decode method_2_code 184 = .ok (.iload 7, 2) := by decide +kernel
theorem d1_186 : decode method_2_code 186 = .ok (.castore, 1) := by decide +kernel
theorem d1_187 : decode method_2_code 187 = .ok (.dup, 1) := by decide +kernel
theorem d1_188 : decode method_2_code 188 = .ok (.iconst 1, 1) := by decide +kernel
theorem d1_189 : decode method_2_code 189 = .ok (.iload 6, 2) := by decide +kernel
theorem d1_191 : decode method_2_code 191 = .ok (.castore, 1) := by decide +kernel
theorem d1_192 : decode method_2_code 192 = .ok (.dup, 1) := by decide +kernel
theorem d1_193 : decode method_2_code 193 = .ok (.iconst 2, 1) := by decide +kernel
theorem d1_194 : decode method_2_code 194 = .ok (.iload 5, 2) := by decide +kernel
theorem d1_196 : decode method_2_code 196 = .ok (.castore, 1) := by decide +kernel
theorem d1_197 : decode method_2_code 197 = .ok (.invokespecial 9, 3) := by decide +kernel
theorem d1_200 : decode method_2_code 200 = .ok (.areturn, 1) := by decide +kernel
def Q0 (n0 : Nat) (v : Option Value) (h : Heap) (L : List Loc) : Prop := v = some (.int (1 : Int32)) ∧ Fr n0 L
theorem ef3_1 (m : MethodId) (a1 : Addr) (a2 : Addr) (p3 : Int32) (p4 : Int32) : entryFrame m #[(.ref a1), (.ref a2), (.int p3), (.int p4), .null] 6 = mkF m 0 #[SR a1, SR a2, SI p3, SI p4, SN, SU] [] := by first | (simp [entryFrame, mkF, argsToLocals, Value.category]; done) | rfl
def Q3_1 (Z : State) (a1 : Addr) (a2 : Addr) (p3 : Int32) (p4 : Int32) (h0 : Heap) (n0 : Nat) (v : Option Value) (h : Heap) (L : List Loc) : Prop := ∃ (b10 : Addr) (kb10 : ClassId), v = none ∧ Fr n0 L ∧ Keep h0 h [a1] ∧ Exa Z h a1 cC0 ∧ Fld Z h a1 cC0 "value" "[B" (VR b10) ∧ Fld Z h a1 cC0 "coder" "B" (VI 0) ∧ Arv Z h b10 kb10 .byte 0 [] (VI 0)
set_option maxRecDepth 65536 in
set_option maxHeartbeats 40000000 in
theorem rm3_1 (l : Launch) (Z : State) (a0 : Array Value) (hw : HW a0 Z) (ws : List Jvm.Cond) (a1 : Addr) (a2 : Addr) (p3 : Int32) (p4 : Int32) (h0 : Heap) (n0 : Nat) (Z0 : n0 ≤ h0.size) (f6 : p4 = (0 : Int32)) (f7 : Exa Z h0 a1 cC0) (f8 : Fld Z h0 a1 cC0 "value" "[B" (.null)) (f16 : n0 ≤ a1) (f27 : Fld Z h0 a1 cC0 "coder" "B" (VI 0)) :
    MetFree l yM0 (head1 (Jvm.Cond.code yM0 jdk_42_method_149_code 6 none :: ws) ({ frames := 1, cells := 4, slots := 8, locals := 12 } : Room)) (fun a U => a = #[(.ref a1), (.ref a2), (.int p3), (.int p4), .null] ∧ Z.Warmed39 U.vm ∧ U.heap = h0 ∧ CHv Z own_EL U.vm h0) (fun _ _ _ _ _ => True) (fun _ U o U' => ∃ v L, o = .returned v ∧ Q3_1 Z a1 a2 p3 p4 h0 n0 v U'.heap L ∧ CHr Z own_EL U.vm U.heap U'.vm U'.heap ∧ ReturnedEndW U o U' L ({ frames := 1, cells := 4, slots := 8, locals := 12 } : Room).cells ({ frames := 1, cells := 4, slots := 8, locals := 12 } : Room).slots) := by
  refine own_enterH (n0 := n0) (plainFor_of_name pn2) (fun m => ef3_1 m a1 a2 p3 p4) ?_
  intro p e s m below meth c s₁ hx hby hml hown hnm hret hlk XY0 e0 hZ hh N0 hC0
  have X0 : Stand p l e ({ frames := 1, cells := 4, slots := 8, locals := 12 } : Room) (s.setVm s.vm) m _ below meth c s₁ [] 0 0 := XY0
  have hS0 : s.Since s.vm h0.size := (State.WarmedH.refl s).since _
  have hk0 : h0.size ≤ h0.size := Nat.le_refl _
  have hEL : EW Z a0 own_EL := (EW.cons (WW hw 18) (by decide) EW.nil)
  have hR0 : CHr Z own_EL s.vm h0 s.vm h0 := CHr.refl hC0
  show own_Fin p e below _ s₁ (mkF m 0 #[SR a1, SR a2, SI p3, SI p4, SN, SU] [])
  refine own_go (fun _ k => XS.aloadN X0.here hx rfl (hb hby d3_0) rfl rfl k) ?_
  show own_Fin p e below _ s₁ (mkF m 1 #[SR a1, SR a2, SI p3, SI p4, SN, SU] [VR a1])
  obtain ⟨T5, X5, e5, st5⟩ := initO X0 hx hZ hown (WW hw 15) (WW hw 16) (WW hw 17) e0 (g := (mkF m 1 #[SR a1, SR a2, SI p3, SI p4, SN, SU] [VR a1])) rfl (by rw [hml]; rfl) rfl (hb hby d3_1) (by decide) (W := 0) (by show 2 * 0 + _ ≤ _; exact Nat.le_of_eq rfl) (by decide)
  refine own_go st5 ?_
  show own_Fin p e below _ T5 (mkF m 4 #[SR a1, SR a2, SI p3, SI p4, SN, SU] [])
  refine own_go (fun _ k => XS.iloadN X5.here hx rfl (hb hby d3_4) rfl (XS.ifNo X5.here hx rfl (hb hby d3_5) rfl ((if0 _ _).trans (teq f6).2) (XS.aloadN X5.here hx rfl (hb hby d3_8) rfl rfl k))) ?_
  show own_Fin p e below _ T5 (mkF m 9 #[SR a1, SR a2, SI p3, SI p4, SN, SU] [VR a1])
  have wS : ∀ d ∈ Bundle.stringAtoms, d.before a0 Z = true := fun d hd => hw d ((by decide +kernel : ∀ d ∈ Bundle.stringAtoms, d ∈ tables_1) d hd)
  have sf9 : Safe Z own_EL (s.setVm s.vm).vm h0 a1 := own_safe (State.Warmed39.alike hZ) f7 f8
  obtain ⟨a10, T10, h10, k10, b10, kb10, X10, e10, E10, hS10, hk10, hZ10, ho10, xA10, xC10, xV10, xB10, la10, lb10, hC10, -, hs10, st10⟩ := ldcCH (vm0 := (s.setVm s.vm).vm) X5 hx hZ hown (WW hw 18) wS e5 hS0 hk0 hEL (List.mem_of_getElem? (i := 0) rfl) hR0.1 (vs := []) (z := 0) ⟨by decide, rfl⟩ (by decide) rfl (g := (mkF m 9 #[SR a1, SR a2, SI p3, SI p4, SN, SU] [VR a1])) rfl (hb hby d3_9) (n := 0) (by decide) (by decide) (by decide) (by decide)
  have hR10 := hR0.trans hC10
  have sf11 : Safe Z own_EL (s.setVm T10.vm).vm h10 a1 := CHr.safe hC10 f7.lt sf9
  refine own_go st10 ?_
  show own_Fin p e below _ T10 (mkF m 11 #[SR a1, SR a2, SI p3, SI p4, SN, SU] [VR a10, VR a1])
  obtain ⟨T12, X12, e12, st12⟩ := getF X10 hx hZ10 ho10 (host := "") (Or.inl (WW hw 24)) Via.refl e10 xV10 (g := (mkF m 11 #[SR a1, SR a2, SI p3, SI p4, SN, SU] [VR a10, VR a1])) rfl rfl (hb hby d3_11)
  refine own_go st12 ?_
  show own_Fin p e below _ T12 (mkF m 14 #[SR a1, SR a2, SI p3, SI p4, SN, SU] [VR b10, VR a1])
  have F13 : Exa Z h10 a1 cC0 := (f7.ext E10)
  have F14 : Fld Z h10 a1 cC0 "value" "[B" (.null) := (f8.ext E10)
  obtain ⟨T15, h15, X15, e15, W15, st15⟩ := putF X12 hx hZ10 ho10 (host := "") (Or.inl (WW hw 24)) Via.refl e12 F14 F13 (Or.inr ⟨(WW hw 20), rfl, hnm⟩) (WW hw 5) (ty := (.array .byte)) (by decide) rfl rfl (g := (mkF m 14 #[SR a1, SR a2, SI p3, SI p4, SN, SU] [VR b10, VR a1])) rfl rfl (hb hby d3_14)
  have N15 := Fr.snoc X15 N0 f16
  have hR17 := hR10.trans (CHr.wr W15 sf11 hR10.1)
  have sf18 : Safe Z own_EL (s.setVm T10.vm).vm h15 a1 := Safe.wr W15 sf11 hR10.1 sf11
  have Fw15 : Fld Z h15 a1 cC0 "value" "[B" (VR b10) := F14.same W15
  refine own_go st15 ?_
  show own_Fin p e below _ T15 (mkF m 17 #[SR a1, SR a2, SI p3, SI p4, SN, SU] [])
  refine own_go (fun _ k => XS.aloadN X15.here hx rfl (hb hby d3_17) rfl rfl k) ?_
  show own_Fin p e below _ T15 (mkF m 18 #[SR a1, SR a2, SI p3, SI p4, SN, SU] [VR a1])
  have F19 : Exa Z h15 a1 cC0 := (F13.wr W15)
  have z20 : h10.size ≤ h15.size := (Nat.le_of_eq (Wr.size W15).symm)
  obtain ⟨a21, T21, h21, k21, b21, kb21, X21, e21, E21, hS21, hk21, hZ21, ho21, xA21, xC21, xV21, xB21, la21, lb21, hC21, -, hs21, st21⟩ := ldcCH (vm0 := (s.setVm T10.vm).vm) X15 hx hZ10 ho10 (WW hw 18) wS e15 hS10 (Nat.le_trans hk10 z20) hEL (List.mem_of_getElem? (i := 0) rfl) hR17.1 (vs := []) (z := 0) ⟨by decide, rfl⟩ (by decide) rfl (g := (mkF m 18 #[SR a1, SR a2, SI p3, SI p4, SN, SU] [VR a1])) rfl (hb hby d3_18) (n := 0) (by decide) (by decide) (by decide) (by decide)
  have z22 : h0.size ≤ h10.size := E10.1
  have z23 : h0.size ≤ h15.size := Nat.le_trans z22 (Nat.le_of_eq (Wr.size W15).symm)
  have hR21 := hR17.trans hC21
  have sf24 : Safe Z own_EL (s.setVm T21.vm).vm h21 a1 := CHr.safe hC21 (Nat.lt_of_lt_of_le f7.lt z23) sf18
  refine own_go st21 ?_
  show own_Fin p e below _ T21 (mkF m 20 #[SR a1, SR a2, SI p3, SI p4, SN, SU] [VR a21, VR a1])
  obtain ⟨T25, X25, e25, st25⟩ := getF X21 hx hZ21 ho21 (host := "") (Or.inl (WW hw 25)) Via.refl e21 xC21 (g := (mkF m 20 #[SR a1, SR a2, SI p3, SI p4, SN, SU] [VR a21, VR a1])) rfl rfl (hb hby d3_20)
  refine own_go st25 ?_
  show own_Fin p e below _ T25 (mkF m 23 #[SR a1, SR a2, SI p3, SI p4, SN, SU] [VI 0, VR a1])
  have F26 : Exa Z h21 a1 cC0 := (F19.ext E21)
  have F28 : Fld Z h21 a1 cC0 "coder" "B" (VI 0) := (((f27.ext E10).other W15 (Or.inr (slot_ne (Or.inr (WW hw 21)) (Or.inr (WW hw 20)) (by decide) (t := .byte) (t' := (.array .byte)) (by decide) (by decide)))).ext E21)
  obtain ⟨T29, h29, X29, e29, W29, st29⟩ := putF X25 hx hZ21 ho21 (host := "") (Or.inl (WW hw 25)) Via.refl e25 F28 F26 (Or.inr ⟨(WW hw 21), rfl, hnm⟩) (WW hw 5) (ty := .byte) (by decide) rfl rfl (g := (mkF m 23 #[SR a1, SR a2, SI p3, SI p4, SN, SU] [VI 0, VR a1])) rfl rfl (hb hby d3_23)
  have N29 := Fr.snoc X29 N15 f16
  have hR30 := hR21.trans (CHr.wr W29 sf24 hR21.1)
  have sf31 : Safe Z own_EL (s.setVm T21.vm).vm h29 a1 := Safe.wr W29 sf24 hR21.1 sf24
  have Fw29 : Fld Z h29 a1 cC0 "coder" "B" (VI 0) := F28.same W29
  refine own_go st29 ?_
  show own_Fin p e below _ T29 (mkF m 26 #[SR a1, SR a2, SI p3, SI p4, SN, SU] [])
  have F32 : Exa Z h29 a1 cC0 := (F26.wr W29)
  have F33 : Fld Z h29 a1 cC0 "value" "[B" (VR b10) := ((Fw15.ext E21).other W29 (Or.inr (slot_ne (Or.inr (WW hw 20)) (Or.inr (WW hw 21)) (by decide) (t := (.array .byte)) (t' := .byte) (by decide) (by decide))))
  have F34 : Arv Z h29 b10 kb10 .byte 0 [] (VI 0) := (((xB10.other W15 (Ne.symm (hs10 a1 sf11).2)).ext E21).other W29 (Ne.symm (hs10 a1 sf11).2))
  have K35 : Keep h0 h29 [a1] := (((((Keep.refl h0 [a1]).ext E10).wr W15 (Or.inl (List.mem_of_getElem? (i := 0) rfl))).ext E21).wr W29 (Or.inl (List.mem_of_getElem? (i := 0) rfl)))
  have z36 : h21.size ≤ h29.size := (Nat.le_of_eq (Wr.size W29).symm)
  obtain ⟨fs, hr, hrun, hended, hend⟩ := Jvm.Stand.leaveW X29 hS21 (by rw [e29]; exact (Nat.le_trans hk21 z36)) (v := none) (fun _ => rfl)
  refine own_end (X29.returnOut hx hret (hb hby d3_26) hr) hrun hended ⟨_, _, rfl, ?_, ?_, hend.1, hend.2.1, hend.2.2.1, hend.2.2.2.mono (by decide) (by decide)⟩
  · show Q3_1 Z a1 a2 p3 p4 h0 n0 _ T29.heap _
    rw [e29]
    exact ⟨b10, kb10, rfl, N29, K35, F32, F33, Fw29, F34⟩
  · show CHr Z own_EL s.vm s.heap T29.vm T29.heap
    rw [hh, e29]
    exact hR30.trans (CHv.at X29 hZ21 hEL hR30.1)
theorem ef2_1 (m : MethodId) (a1 : Addr) (a2 : Addr) : entryFrame m #[(.ref a1), (.ref a2)] 2 = mkF m 0 #[SR a1, SR a2] [] := by first | (simp [entryFrame, mkF, argsToLocals, Value.category]; done) | rfl
def Q2_1 (Z : State) (a1 : Addr) (a2 : Addr) (k3 : ClassId) (h0 : Heap) (n0 : Nat) (v : Option Value) (h : Heap) (L : List Loc) : Prop := ∃ (b10_9 : Addr) (kb10_9 : ClassId), v = none ∧ Fr n0 L ∧ Keep h0 h [a1] ∧ Exa Z h a1 cC0 ∧ Fld Z h a1 cC0 "value" "[B" (VR b10_9) ∧ Fld Z h a1 cC0 "coder" "B" (VI 0) ∧ Arv Z h b10_9 kb10_9 .byte 0 [] (VI 0)
set_option maxRecDepth 65536 in
set_option maxHeartbeats 40000000 in
theorem rm2_1 (l : Launch) (Z : State) (a0 : Array Value) (hw : HW a0 Z) (ws : List Jvm.Cond) (a1 : Addr) (a2 : Addr) (k3 : ClassId) (h0 : Heap) (n0 : Nat) (Z0 : n0 ≤ h0.size) (f4 : Arv Z h0 a2 k3 .char 0 [] (VI 0)) (f6 : Exa Z h0 a1 cC0) (f7 : Fld Z h0 a1 cC0 "value" "[B" (.null)) (f8 : Fld Z h0 a1 cC0 "coder" "B" (VI 0)) (f10 : n0 ≤ a1) :
    MetFree l yM1 (head1 (Jvm.Cond.code yM1 jdk_42_method_3_code 2 none :: ws) ({ frames := 2, cells := 4, slots := 8, locals := 29 } : Room)) (fun a U => a = #[(.ref a1), (.ref a2)] ∧ Z.Warmed39 U.vm ∧ U.heap = h0 ∧ CHv Z own_EL U.vm h0) (fun _ _ _ _ _ => True) (fun _ U o U' => ∃ v L, o = .returned v ∧ Q2_1 Z a1 a2 k3 h0 n0 v U'.heap L ∧ CHr Z own_EL U.vm U.heap U'.vm U'.heap ∧ ReturnedEndW U o U' L ({ frames := 2, cells := 4, slots := 8, locals := 29 } : Room).cells ({ frames := 2, cells := 4, slots := 8, locals := 29 } : Room).slots) := by
  refine own_enterH (n0 := n0) (plainFor_of_name pn2) (fun m => ef2_1 m a1 a2) ?_
  intro p e s m below meth c s₁ hx hby hml hown hnm hret hlk XY0 e0 hZ hh N0 hC0
  have X0 : Stand p l e ({ frames := 2, cells := 4, slots := 8, locals := 29 } : Room) (s.setVm s.vm) m _ below meth c s₁ [] 0 0 := XY0
  have hS0 : s.Since s.vm h0.size := (State.WarmedH.refl s).since _
  have hk0 : h0.size ≤ h0.size := Nat.le_refl _
  have hEL : EW Z a0 own_EL := (EW.cons (WW hw 18) (by decide) EW.nil)
  have hR0 : CHr Z own_EL s.vm h0 s.vm h0 := CHr.refl hC0
  show own_Fin p e below _ s₁ (mkF m 0 #[SR a1, SR a2] [])
  refine own_go (fun _ k => XS.aloadN X0.here hx rfl (hb hby d2_0) rfl rfl (XS.aloadN X0.here hx rfl (hb hby d2_1) rfl rfl (XS.iconst X0.here hx rfl (hb hby d2_2) (XS.aloadN X0.here hx rfl (hb hby d2_3) rfl rfl k)))) ?_
  show own_Fin p e below _ s₁ (mkF m 4 #[SR a1, SR a2] [VR a2, VI 0, VR a2, VR a1])
  obtain ⟨cl5, Ar5, q5, Sz5, Nn5, Hs5, Gg5⟩ := id f4
  refine own_go (fun _ k => X0.arraylength hx (by rw [e0]; exact Ar5.1) (State.isArrayOf_alike hZ.alike Ar5.2.1) (g := (mkF m 4 #[SR a1, SR a2] [VR a2, VI 0, VR a2, VR a1])) rfl rfl (hb hby d2_4) _ k) ?_
  rw [len_of Sz5 Nn5]
  show own_Fin p e below _ s₁ (mkF m 5 #[SR a1, SR a2] [VI 0, VI 0, VR a2, VR a1])
  refine own_go (fun _ k => XS.aconstNull X0.here hx rfl (hb hby d2_5) k) ?_
  show own_Fin p e below _ s₁ (mkF m 6 #[SR a1, SR a2] [.null, VI 0, VI 0, VR a2, VR a1])
  obtain ⟨_, T9, L9, X9, hQ9, hS9, hZ9, ho9, hC9, st9⟩ := own_cIH (vm0 := (s.setVm s.vm).vm) X0 hx hZ hown hS0 hk0 hEL hR0.1 (WW hw 11) (WW hw 12) (WW hw 6) (WW hw 14) (rm3_1 l Z a0 hw [] a1 a2 (0 : Int32) (0 : Int32) h0 n0 Z0 (by decide : (0 : Int32) = (0 : Int32)) f6 f7 f10 f8) e0 hml (g := (mkF m 6 #[SR a1, SR a2] [.null, VI 0, VI 0, VR a2, VR a1])) pd0 (hb hby d2_6) a1 [VR a2, VI 0, VI 0, .null] [] (W := 0)
  have hR9 := hR0.trans hC9
  obtain ⟨b10_9, kb10_9, rfl, N9q, K9, o0_9, o1_9, o2_9, o3_9⟩ := hQ9
  have N9 := Fr.app N0 N9q
  refine own_go st9 ?_
  show own_Fin p e below _ T9 (mkF m 9 #[SR a1, SR a2] [])
  have K11 : Keep h0 T9.heap [a1] := ((Keep.refl h0 [a1]).trans K9 (allS (Or.inl (List.mem_of_getElem? (i := 0) rfl)) all0))
  obtain ⟨fs, hr, hrun, hended, hend⟩ := Jvm.Stand.leaveW X9 hS9 (Nat.le_refl _) (v := none) (fun _ => rfl)
  refine own_end (X9.returnOut hx hret (hb hby d2_9) hr) hrun hended ⟨_, _, rfl, ?_, ?_, hend.1, hend.2.1, hend.2.2.1, hend.2.2.2.mono (by decide) (by decide)⟩
  · show Q2_1 Z a1 a2 k3 h0 n0 _ T9.heap _
    exact ⟨b10_9, kb10_9, rfl, N9, K11, o0_9, o1_9, o2_9, o3_9⟩
  · show CHr Z own_EL s.vm s.heap T9.vm T9.heap
    rw [hh]
    exact hR9.trans (CHv.at X9 hZ9 hEL hR9.1)
theorem ef1_1 (m : MethodId) (p1 : Int32) (p2 : Int32) (p3 : Int32) (p4 : Int32) : entryFrame m #[(.int p1), (.int p2), (.int p3), (.int p4)] 8 = mkF m 0 #[SI p1, SI p2, SI p3, SI p4, SU, SU, SU, SU] [] := by first | (simp [entryFrame, mkF, argsToLocals, Value.category]; done) | rfl
def Q1_1 (Z : State) (p1 : Int32) (p2 : Int32) (p3 : Int32) (p4 : Int32) (h0 : Heap) (n0 : Nat) (v : Option Value) (h : Heap) (L : List Loc) : Prop := ∃ (b6 : Addr) (b10_9_15 : Addr) (kb10_9_15 : ClassId), v = some (.ref b6) ∧ Fr n0 L ∧ Keep h0 h [] ∧ h0.size ≤ b6 ∧ Exa Z h b6 cC0 ∧ Fld Z h b6 cC0 "value" "[B" (VR b10_9_15) ∧ Fld Z h b6 cC0 "coder" "B" (VI 0) ∧ Arv Z h b10_9_15 kb10_9_15 .byte 0 [] (VI 0)
set_option maxRecDepth 65536 in
set_option maxHeartbeats 40000000 in
theorem rm1_1 (l : Launch) (Z : State) (a0 : Array Value) (hw : HW a0 Z) (ws : List Jvm.Cond) (p1 : Int32) (p2 : Int32) (p3 : Int32) (p4 : Int32) (h0 : Heap) (n0 : Nat) (Z0 : n0 ≤ h0.size) (f5 : (p1 &&& (7 : Int32)) = (0 : Int32)) :
    MetFree l yM2 (head1 (Jvm.Cond.code yM2 method_2_code 8 (some (.object "java/lang/String")) :: ws) ({ frames := 3, cells := 6, slots := 12, locals := 43 } : Room)) (fun a U => a = #[(.int p1), (.int p2), (.int p3), (.int p4)] ∧ Z.Warmed39 U.vm ∧ U.heap = h0 ∧ CHv Z own_EL U.vm h0) (fun _ _ _ _ _ => True) (fun _ U o U' => ∃ v L, o = .returned v ∧ Q1_1 Z p1 p2 p3 p4 h0 n0 v U'.heap L ∧ CHr Z own_EL U.vm U.heap U'.vm U'.heap ∧ ReturnedEndW U o U' L ({ frames := 3, cells := 6, slots := 12, locals := 43 } : Room).cells ({ frames := 3, cells := 6, slots := 12, locals := 43 } : Room).slots) := by
  refine own_enterH (n0 := n0) (plainFor_of_name pn0) (fun m => ef1_1 m p1 p2 p3 p4) ?_
  intro p e s m below meth c s₁ hx hby hml hown hnm hret hlk XY0 e0 hZ hh N0 hC0
  have X0 : Stand p l e ({ frames := 3, cells := 6, slots := 12, locals := 43 } : Room) (s.setVm s.vm) m _ below meth c s₁ [] 0 0 := XY0
  have hS0 : s.Since s.vm h0.size := (State.WarmedH.refl s).since _
  have hk0 : h0.size ≤ h0.size := Nat.le_refl _
  have hEL : EW Z a0 own_EL := (EW.cons (WW hw 18) (by decide) EW.nil)
  have hR0 : CHr Z own_EL s.vm h0 s.vm h0 := CHr.refl hC0
  show own_Fin p e below _ s₁ (mkF m 0 #[SI p1, SI p2, SI p3, SI p4, SU, SU, SU, SU] [])
  refine own_go (fun _ k => XS.iloadN X0.here hx rfl (hb hby d1_0) rfl (XS.bipush X0.here hx rfl (hb hby d1_1) (XS.iand X0.here hx rfl (hb hby d1_3) rfl (XS.istore X0.here hx rfl (hb hby d1_4) rfl (l' := #[SI p1, SI p2, SI p3, SI p4, SI (p1 &&& (7 : Int32)), SU, SU, SU]) rfl (XS.iloadN X0.here hx rfl (hb hby d1_6) rfl (XS.sipush X0.here hx rfl (hb hby d1_7) (XS.iand X0.here hx rfl (hb hby d1_10) rfl (XS.i2c X0.here hx rfl (hb hby d1_11) rfl (XS.istore X0.here hx rfl (hb hby d1_12) rfl (l' := #[SI p1, SI p2, SI p3, SI p4, SI (p1 &&& (7 : Int32)), SI ((p2 &&& (255 : Int32)).toUInt32.toUInt16.toUInt32.toInt32), SU, SU]) rfl (XS.iloadN X0.here hx rfl (hb hby d1_14) rfl k)))))))))) ?_
  show own_Fin p e below _ s₁ (mkF m 15 #[SI p1, SI p2, SI p3, SI p4, SI (p1 &&& (7 : Int32)), SI ((p2 &&& (255 : Int32)).toUInt32.toUInt16.toUInt32.toInt32), SU, SU] [VI p3])
  refine own_go (fun _ k => XS.sipush X0.here hx rfl (hb hby d1_15) (XS.iand X0.here hx rfl (hb hby d1_18) rfl (XS.i2c X0.here hx rfl (hb hby d1_19) rfl (XS.istore X0.here hx rfl (hb hby d1_20) rfl (l' := #[SI p1, SI p2, SI p3, SI p4, SI (p1 &&& (7 : Int32)), SI ((p2 &&& (255 : Int32)).toUInt32.toUInt16.toUInt32.toInt32), SI ((p3 &&& (255 : Int32)).toUInt32.toUInt16.toUInt32.toInt32), SU]) rfl (XS.iloadN X0.here hx rfl (hb hby d1_22) rfl (XS.sipush X0.here hx rfl (hb hby d1_23) (XS.iand X0.here hx rfl (hb hby d1_26) rfl (XS.i2c X0.here hx rfl (hb hby d1_27) rfl (XS.istore X0.here hx rfl (hb hby d1_28) rfl (l' := #[SI p1, SI p2, SI p3, SI p4, SI (p1 &&& (7 : Int32)), SI ((p2 &&& (255 : Int32)).toUInt32.toUInt16.toUInt32.toInt32), SI ((p3 &&& (255 : Int32)).toUInt32.toUInt16.toUInt32.toInt32), SI ((p4 &&& (255 : Int32)).toUInt32.toUInt16.toUInt32.toInt32)]) rfl (XS.iload X0.here hx rfl (hb hby d1_30) rfl k)))))))))) ?_
  show own_Fin p e below _ s₁ (mkF m 32 #[SI p1, SI p2, SI p3, SI p4, SI (p1 &&& (7 : Int32)), SI ((p2 &&& (255 : Int32)).toUInt32.toUInt16.toUInt32.toInt32), SI ((p3 &&& (255 : Int32)).toUInt32.toUInt16.toUInt32.toInt32), SI ((p4 &&& (255 : Int32)).toUInt32.toUInt16.toUInt32.toInt32)] [VI (p1 &&& (7 : Int32))])
  refine own_go (fun _ k => XS.ifNo X0.here hx rfl (hb hby d1_32) rfl ((if0 _ _).trans (teq f5).2) k) ?_
  show own_Fin p e below _ s₁ (mkF m 35 #[SI p1, SI p2, SI p3, SI p4, SI (p1 &&& (7 : Int32)), SI ((p2 &&& (255 : Int32)).toUInt32.toUInt16.toUInt32.toInt32), SI ((p3 &&& (255 : Int32)).toUInt32.toUInt16.toUInt32.toInt32), SI ((p4 &&& (255 : Int32)).toUInt32.toUInt16.toUInt32.toInt32)] [])
  obtain ⟨T6, h6, X6, e6, E6, A6, D6, -, st6⟩ := newO X0 hx hZ hown (WW hw 4) (WW hw 5) (WW hw 6) e0 (g := (mkF m 35 #[SI p1, SI p2, SI p3, SI p4, SI (p1 &&& (7 : Int32)), SI ((p2 &&& (255 : Int32)).toUInt32.toUInt16.toUInt32.toInt32), SI ((p3 &&& (255 : Int32)).toUInt32.toUInt16.toUInt32.toInt32), SI ((p4 &&& (255 : Int32)).toUInt32.toUInt16.toUInt32.toInt32)] [])) rfl (hb hby d1_35) (by decide) (by decide)
  obtain ⟨b6, g6⟩ : ∃ z, z = h0.size := ⟨_, rfl⟩
  rw [← g6] at A6 D6 st6
  have hR7 := hR0.trans (CHr.ext E6 hR0.1)
  have F8 : Fld Z h6 b6 cC0 "value" "[B" (.null) := D6 (Or.inr (WW hw 20)) (ty := (.array .byte)) (by decide)
  have F9 : Fld Z h6 b6 cC0 "coder" "B" (VI 0) := D6 (Or.inr (WW hw 21)) (ty := .byte) (by decide)
  refine own_go st6 ?_
  show own_Fin p e below _ T6 (mkF m 38 #[SI p1, SI p2, SI p3, SI p4, SI (p1 &&& (7 : Int32)), SI ((p2 &&& (255 : Int32)).toUInt32.toUInt16.toUInt32.toInt32), SI ((p3 &&& (255 : Int32)).toUInt32.toUInt16.toUInt32.toInt32), SI ((p4 &&& (255 : Int32)).toUInt32.toUInt16.toUInt32.toInt32)] [VR b6])
  refine own_go (fun _ k => XS.dup X6.here hx rfl (hb hby d1_38) rfl rfl (XS.iconst X6.here hx rfl (hb hby d1_39) k)) ?_
  show own_Fin p e below _ T6 (mkF m 40 #[SI p1, SI p2, SI p3, SI p4, SI (p1 &&& (7 : Int32)), SI ((p2 &&& (255 : Int32)).toUInt32.toUInt16.toUInt32.toInt32), SI ((p3 &&& (255 : Int32)).toUInt32.toUInt16.toUInt32.toInt32), SI ((p4 &&& (255 : Int32)).toUInt32.toUInt16.toUInt32.toInt32)] [VI 0, VR b6, VR b6])
  obtain ⟨T10, h10, k10, X10, e10, E10, A10, st10⟩ := newP X6 hx hZ (WW hw 7) e6 (g := (mkF m 40 #[SI p1, SI p2, SI p3, SI p4, SI (p1 &&& (7 : Int32)), SI ((p2 &&& (255 : Int32)).toUInt32.toUInt16.toUInt32.toInt32), SI ((p3 &&& (255 : Int32)).toUInt32.toUInt16.toUInt32.toInt32), SI ((p4 &&& (255 : Int32)).toUInt32.toUInt16.toUInt32.toInt32)] [VI 0, VR b6, VR b6])) rfl (hb hby d1_40) rfl (by decide) (cap := 0) (by decide) (by decide) (by decide) (by decide)
  obtain ⟨b10, g10⟩ : ∃ z, z = h6.size := ⟨_, rfl⟩
  rw [← g10] at A10 st10
  have hR11 := hR7.trans (CHr.ext E10 hR7.1)
  have V10 : Arv Z h10 b10 k10 .char 0 [] (VI 0) := Arv.new A10 (by decide)
  refine own_go st10 ?_
  show own_Fin p e below _ T10 (mkF m 42 #[SI p1, SI p2, SI p3, SI p4, SI (p1 &&& (7 : Int32)), SI ((p2 &&& (255 : Int32)).toUInt32.toUInt16.toUInt32.toInt32), SI ((p3 &&& (255 : Int32)).toUInt32.toUInt16.toUInt32.toInt32), SI ((p4 &&& (255 : Int32)).toUInt32.toUInt16.toUInt32.toInt32)] [VR b10, VR b6, VR b6])
  have F12 : Exa Z h10 b6 cC0 := (A6.ext E10)
  have F13 : Fld Z h10 b6 cC0 "value" "[B" (.null) := (F8.ext E10)
  have F14 : Fld Z h10 b6 cC0 "coder" "B" (VI 0) := (F9.ext E10)
  have u16 : n0 ≤ b6 := Nat.le_trans Z0 (Nat.le_of_eq g6.symm)
  have z17 : h0.size ≤ h6.size := E6.1
  have z18 : h0.size ≤ h10.size := Nat.le_trans z17 E10.1
  obtain ⟨_, T15, L15, X15, hQ15, hS15, hZ15, ho15, hC15, st15⟩ := own_cIH (vm0 := (s.setVm s.vm).vm) X10 hx hZ hown hS0 (Nat.le_trans hk0 z18) hEL hR11.1 (WW hw 8) (WW hw 9) (WW hw 6) (WW hw 10) (rm2_1 l Z a0 hw [] b6 b10 k10 h10 n0 (Nat.le_trans Z0 z18) V10 F12 F13 F14 u16) e10 hml (g := (mkF m 42 #[SI p1, SI p2, SI p3, SI p4, SI (p1 &&& (7 : Int32)), SI ((p2 &&& (255 : Int32)).toUInt32.toUInt16.toUInt32.toInt32), SI ((p3 &&& (255 : Int32)).toUInt32.toUInt16.toUInt32.toInt32), SI ((p4 &&& (255 : Int32)).toUInt32.toUInt16.toUInt32.toInt32)] [VR b10, VR b6, VR b6])) pd1 (hb hby d1_42) b6 [VR b10] [VR b6] (W := 1)
  have hR15 := hR11.trans hC15
  obtain ⟨b10_9_15, kb10_9_15, rfl, N15q, K15, o0_15, o1_15, o2_15, o3_15⟩ := hQ15
  have N15 := Fr.app N0 N15q
  refine own_go st15 ?_
  show own_Fin p e below _ T15 (mkF m 45 #[SI p1, SI p2, SI p3, SI p4, SI (p1 &&& (7 : Int32)), SI ((p2 &&& (255 : Int32)).toUInt32.toUInt16.toUInt32.toInt32), SI ((p3 &&& (255 : Int32)).toUInt32.toUInt16.toUInt32.toInt32), SI ((p4 &&& (255 : Int32)).toUInt32.toUInt16.toUInt32.toInt32)] [VR b6])
  have K19 : Keep h0 T15.heap [] := ((((Keep.refl h0 []).ext E6).ext E10).trans K15 (allS (Or.inr (Nat.le_of_eq g6.symm)) all0))
  obtain ⟨fs, hr, hrun, hended, hend⟩ := Jvm.Stand.leaveW X15 hS15 (Nat.le_refl _) (v := some (.ref b6)) (fun h => by rw [hret] at h; cases h)
  refine own_end (retOut X15 hx hret rfl (Or.inr (Or.inr (Or.inr (Or.inr ⟨rfl, rfl, rfl⟩)))) (hb hby d1_45) hr) hrun hended ⟨_, _, rfl, ?_, ?_, hend.1, hend.2.1, hend.2.2.1, hend.2.2.2.mono (by decide) (by decide)⟩
  · show Q1_1 Z p1 p2 p3 p4 h0 n0 _ T15.heap _
    exact ⟨b6, b10_9_15, kb10_9_15, rfl, N15, K19, (Nat.le_of_eq g6.symm), o0_15, o1_15, o2_15, o3_15⟩
  · show CHr Z own_EL s.vm s.heap T15.vm T15.heap
    rw [hh]
    exact hR15.trans (CHv.at X15 hZ15 hEL hR15.1)
theorem ef6_1 (m : MethodId) (a1 : Addr) (a2 : Addr) (a3 : Addr) (p4 : Int32) : entryFrame m #[(.ref a1), (.ref a2), (.ref a3), (.int p4)] 4 = mkF m 0 #[SR a1, SR a2, SR a3, SI p4] [] := by first | (simp [entryFrame, mkF, argsToLocals, Value.category]; done) | rfl
def Q6_1 (Z : State) (a1 : Addr) (a2 : Addr) (a3 : Addr) (p4 : Int32) (h0 : Heap) (n0 : Nat) (v : Option Value) (h : Heap) (L : List Loc) : Prop := v = none ∧ Fr n0 L ∧ Keep h0 h [a1] ∧ Exa Z h a1 cC2 ∧ Fld Z h a1 cC2 "outcome" cC3 (VR a2) ∧ Fld Z h a1 cC2 "reason" cC4 (VR a3) ∧ Fld Z h a1 cC2 "retryable" "Z" (VI (nar .boolean p4))
set_option maxRecDepth 65536 in
set_option maxHeartbeats 40000000 in
theorem rm6_1 (l : Launch) (Z : State) (a0 : Array Value) (hw : HW a0 Z) (ws : List Jvm.Cond) (a1 : Addr) (a2 : Addr) (a3 : Addr) (p4 : Int32) (h0 : Heap) (n0 : Nat) (Z0 : n0 ≤ h0.size) (f6 : Exa Z h0 a1 cC2) (f7 : Fld Z h0 a1 cC2 "outcome" cC3 (.null)) (f9 : n0 ≤ a1) (f11 : Fld Z h0 a1 cC2 "reason" cC4 (.null)) (f15 : Fld Z h0 a1 cC2 "retryable" "Z" (VI 0)) :
    MetFree l yM3 (head1 (Jvm.Cond.code yM3 prog_5_method_1_code 4 none :: ws) ({ frames := 1, cells := 0, slots := 0, locals := 12 } : Room)) (fun a U => a = #[(.ref a1), (.ref a2), (.ref a3), (.int p4)] ∧ Z.Warmed39 U.vm ∧ U.heap = h0) (fun _ _ _ _ _ => True) (fun _ U o U' => ∃ v L, o = .returned v ∧ Q6_1 Z a1 a2 a3 p4 h0 n0 v U'.heap L ∧ FrameEnd U o U' L ({ frames := 1, cells := 0, slots := 0, locals := 12 } : Room).cells ({ frames := 1, cells := 0, slots := 0, locals := 12 } : Room).slots) := by
  refine own_enter (n0 := n0) (plainFor_of_name pn5) (fun m => ef6_1 m a1 a2 a3 p4) ?_
  intro p e s m below meth c s₁ hx hby hml hown hnm hret hlk X0 e0 hZ hh N0
  show own_Fin p e below _ s₁ (mkF m 0 #[SR a1, SR a2, SR a3, SI p4] [])
  refine own_go (fun _ k => XS.aloadN X0.here hx rfl (hb hby d6_0) rfl rfl k) ?_
  show own_Fin p e below _ s₁ (mkF m 1 #[SR a1, SR a2, SR a3, SI p4] [VR a1])
  obtain ⟨T5, X5, e5, st5⟩ := initO X0 hx hZ hown (WW hw 38) (WW hw 16) (WW hw 17) e0 (g := (mkF m 1 #[SR a1, SR a2, SR a3, SI p4] [VR a1])) rfl (by rw [hml]; rfl) rfl (hb hby d6_1) (by decide) (W := 0) (by show 2 * 0 + _ ≤ _; exact Nat.le_of_eq rfl) (by decide)
  refine own_go st5 ?_
  show own_Fin p e below _ T5 (mkF m 4 #[SR a1, SR a2, SR a3, SI p4] [])
  refine own_go (fun _ k => XS.aloadN X5.here hx rfl (hb hby d6_4) rfl rfl (XS.aloadN X5.here hx rfl (hb hby d6_5) rfl rfl k)) ?_
  show own_Fin p e below _ T5 (mkF m 6 #[SR a1, SR a2, SR a3, SI p4] [VR a2, VR a1])
  obtain ⟨T8, h8, X8, e8, W8, st8⟩ := putF X5 hx hZ hown (host := "") (Or.inl (WW hw 39)) Via.refl e5 f7 f6 (Or.inr ⟨(WW hw 40), rfl, hnm⟩) (WW hw 31) (ty := (.object "com/example/wito/wito/delivery/Verdict$Outcome")) (by decide) rfl rfl (g := (mkF m 6 #[SR a1, SR a2, SR a3, SI p4] [VR a2, VR a1])) rfl rfl (hb hby d6_6)
  have N8 := Fr.snoc X8 N0 f9
  have Fw8 : Fld Z h8 a1 cC2 "outcome" cC3 (VR a2) := f7.same W8
  refine own_go st8 ?_
  show own_Fin p e below _ T8 (mkF m 9 #[SR a1, SR a2, SR a3, SI p4] [])
  refine own_go (fun _ k => XS.aloadN X8.here hx rfl (hb hby d6_9) rfl rfl (XS.aloadN X8.here hx rfl (hb hby d6_10) rfl rfl k)) ?_
  show own_Fin p e below _ T8 (mkF m 11 #[SR a1, SR a2, SR a3, SI p4] [VR a3, VR a1])
  have F10 : Exa Z h8 a1 cC2 := (f6.wr W8)
  have F12 : Fld Z h8 a1 cC2 "reason" cC4 (.null) := (f11.other W8 (Or.inr (slot_ne (Or.inr (WW hw 42)) (Or.inr (WW hw 40)) (by decide) (t := (.object "java/lang/String")) (t' := (.object "com/example/wito/wito/delivery/Verdict$Outcome")) (by decide) (by decide))))
  obtain ⟨T13, h13, X13, e13, W13, st13⟩ := putF X8 hx hZ hown (host := "") (Or.inl (WW hw 41)) Via.refl e8 F12 F10 (Or.inr ⟨(WW hw 42), rfl, hnm⟩) (WW hw 31) (ty := (.object "java/lang/String")) (by decide) rfl rfl (g := (mkF m 11 #[SR a1, SR a2, SR a3, SI p4] [VR a3, VR a1])) rfl rfl (hb hby d6_11)
  have N13 := Fr.snoc X13 N8 f9
  have Fw13 : Fld Z h13 a1 cC2 "reason" cC4 (VR a3) := F12.same W13
  refine own_go st13 ?_
  show own_Fin p e below _ T13 (mkF m 14 #[SR a1, SR a2, SR a3, SI p4] [])
  refine own_go (fun _ k => XS.aloadN X13.here hx rfl (hb hby d6_14) rfl rfl (XS.iloadN X13.here hx rfl (hb hby d6_15) rfl k)) ?_
  show own_Fin p e below _ T13 (mkF m 16 #[SR a1, SR a2, SR a3, SI p4] [VI p4, VR a1])
  have F14 : Exa Z h13 a1 cC2 := (F10.wr W13)
  have F16 : Fld Z h13 a1 cC2 "retryable" "Z" (VI 0) := ((f15.other W8 (Or.inr (slot_ne (Or.inr (WW hw 44)) (Or.inr (WW hw 40)) (by decide) (t := .boolean) (t' := (.object "com/example/wito/wito/delivery/Verdict$Outcome")) (by decide) (by decide)))).other W13 (Or.inr (slot_ne (Or.inr (WW hw 44)) (Or.inr (WW hw 42)) (by decide) (t := .boolean) (t' := (.object "java/lang/String")) (by decide) (by decide))))
  obtain ⟨T17, h17, X17, e17, W17, st17⟩ := putFN X13 hx hZ hown (WW hw 43) Via.refl e13 F16 F14 (Or.inr ⟨(WW hw 44), rfl, hnm⟩) (WW hw 31) (ty := .boolean) (v' := (.int (nar .boolean p4))) (by decide) rfl (fits_nar_bool _) (g := (mkF m 16 #[SR a1, SR a2, SR a3, SI p4] [VI p4, VR a1])) rfl rfl (hb hby d6_16)
  have N17 := Fr.snoc X17 N13 f9
  have Fw17 : Fld Z h17 a1 cC2 "retryable" "Z" (VI (nar .boolean p4)) := F16.same W17
  refine own_go st17 ?_
  show own_Fin p e below _ T17 (mkF m 19 #[SR a1, SR a2, SR a3, SI p4] [])
  have F18 : Exa Z h17 a1 cC2 := (F14.wr W17)
  have F19 : Fld Z h17 a1 cC2 "outcome" cC3 (VR a2) := ((Fw8.other W13 (Or.inr (slot_ne (Or.inr (WW hw 40)) (Or.inr (WW hw 42)) (by decide) (t := (.object "com/example/wito/wito/delivery/Verdict$Outcome")) (t' := (.object "java/lang/String")) (by decide) (by decide)))).other W17 (Or.inr (slot_ne (Or.inr (WW hw 40)) (Or.inr (WW hw 44)) (by decide) (t := (.object "com/example/wito/wito/delivery/Verdict$Outcome")) (t' := .boolean) (by decide) (by decide))))
  have F20 : Fld Z h17 a1 cC2 "reason" cC4 (VR a3) := (Fw13.other W17 (Or.inr (slot_ne (Or.inr (WW hw 42)) (Or.inr (WW hw 44)) (by decide) (t := (.object "java/lang/String")) (t' := .boolean) (by decide) (by decide))))
  have K21 : Keep h0 h17 [a1] := ((((Keep.refl h0 [a1]).wr W8 (Or.inl (List.mem_of_getElem? (i := 0) rfl))).wr W13 (Or.inl (List.mem_of_getElem? (i := 0) rfl))).wr W17 (Or.inl (List.mem_of_getElem? (i := 0) rfl)))
  obtain ⟨fs, hr, hrun, hended, hW, hsame⟩ := X17.leave (v := none) (fun _ => rfl)
  refine own_end (X17.returnOut hx hret (hb hby d6_19) hr) hrun hended ⟨_, _, rfl, ?_, ⟨_, rfl⟩, hW, hsame.mono (by decide) (by decide)⟩
  show Q6_1 Z a1 a2 a3 p4 h0 n0 _ T17.heap _
  rw [e17]
  exact ⟨rfl, N17, K21, F18, F19, F20, Fw17⟩
theorem ef5_1 (m : MethodId) (a1 : Addr) : entryFrame m #[(.ref a1)] 1 = mkF m 0 #[SR a1] [] := by first | (simp [entryFrame, mkF, argsToLocals, Value.category]; done) | rfl
def Q5_1 (Z : State) (a1 : Addr) (a6 : Addr) (h0 : Heap) (n0 : Nat) (v : Option Value) (h : Heap) (L : List Loc) : Prop := ∃ (b2 : Addr), v = some (.ref b2) ∧ Fr n0 L ∧ Keep h0 h [] ∧ h0.size ≤ b2 ∧ Exa Z h b2 cC2 ∧ Fld Z h b2 cC2 "outcome" cC3 (VR a6) ∧ Fld Z h b2 cC2 "reason" cC4 (VR a1) ∧ Fld Z h b2 cC2 "retryable" "Z" (VI 0)
set_option maxRecDepth 65536 in
set_option maxHeartbeats 40000000 in
theorem rm5_1 (l : Launch) (Z : State) (a0 : Array Value) (hw : HW a0 Z) (ws : List Jvm.Cond) (a1 : Addr) (a6 : Addr) (h0 : Heap) (n0 : Nat) (Z0 : n0 ≤ h0.size) (f7 : Sta Z Z.heap "com/example/wito/wito/delivery/Verdict$Outcome" "FAILED" "Lcom/example/wito/wito/delivery/Verdict$Outcome;" (.ref a6)) (f8 : Old Z n0 h0) :
    MetFree l yM4 (head1 (Jvm.Cond.code yM4 prog_5_method_5_code 1 (some (.object "com/example/wito/wito/delivery/Verdict")) :: ws) ({ frames := 2, cells := 1, slots := 3, locals := 28 } : Room)) (fun a U => a = #[(.ref a1)] ∧ Z.Warmed39 U.vm ∧ U.heap = h0) (fun _ _ _ _ _ => True) (fun _ U o U' => ∃ v L, o = .returned v ∧ Q5_1 Z a1 a6 h0 n0 v U'.heap L ∧ FrameEnd U o U' L ({ frames := 2, cells := 1, slots := 3, locals := 28 } : Room).cells ({ frames := 2, cells := 1, slots := 3, locals := 28 } : Room).slots) := by
  refine own_enter (n0 := n0) (plainFor_of_name pn5) (fun m => ef5_1 m a1) ?_
  intro p e s m below meth c s₁ hx hby hml hown hnm hret hlk X0 e0 hZ hh N0
  show own_Fin p e below _ s₁ (mkF m 0 #[SR a1] [])
  obtain ⟨T2, h2, X2, e2, E2, A2, D2, -, st2⟩ := newO X0 hx hZ hown (WW hw 30) (WW hw 31) (WW hw 28) e0 (g := (mkF m 0 #[SR a1] [])) rfl (hb hby d5_0) (by decide) (by decide)
  obtain ⟨b2, g2⟩ : ∃ z, z = h0.size := ⟨_, rfl⟩
  rw [← g2] at A2 D2 st2
  have F3 : Fld Z h2 b2 cC2 "outcome" cC3 (.null) := D2 (Or.inr (WW hw 40)) (ty := (.object "com/example/wito/wito/delivery/Verdict$Outcome")) (by decide)
  have F4 : Fld Z h2 b2 cC2 "reason" cC4 (.null) := D2 (Or.inr (WW hw 42)) (ty := (.object "java/lang/String")) (by decide)
  have F5 : Fld Z h2 b2 cC2 "retryable" "Z" (VI 0) := D2 (Or.inr (WW hw 44)) (ty := .boolean) (by decide)
  refine own_go st2 ?_
  show own_Fin p e below _ T2 (mkF m 3 #[SR a1] [VR b2])
  refine own_go (fun _ k => XS.dup X2.here hx rfl (hb hby d5_3) rfl rfl k) ?_
  show own_Fin p e below _ T2 (mkF m 4 #[SR a1] [VR b2, VR b2])
  have O9 : Old Z n0 h2 := (f8.ext E2)
  obtain ⟨T10, X10, e10, st10⟩ := getS2 X2 hx hZ hown (host := "") (Or.inl (WW hw 32)) Via.refl e2 (f7.ext O9.2) (g := (mkF m 4 #[SR a1] [VR b2, VR b2])) rfl (hb hby d5_4)
  refine own_go st10 ?_
  show own_Fin p e below _ T10 (mkF m 7 #[SR a1] [VR a6, VR b2, VR b2])
  refine own_go (fun _ k => XS.aloadN X10.here hx rfl (hb hby d5_7) rfl rfl (XS.iconst X10.here hx rfl (hb hby d5_8) k)) ?_
  show own_Fin p e below _ T10 (mkF m 9 #[SR a1] [VI 0, VR a1, VR a6, VR b2, VR b2])
  have u11 : n0 ≤ b2 := Nat.le_trans Z0 (Nat.le_of_eq g2.symm)
  have z13 : h0.size ≤ h2.size := E2.1
  obtain ⟨_, T12, L12, X12, hQ12, st12⟩ := own_cI X10 hx hZ hown (WW hw 35) (WW hw 36) (WW hw 28) (WW hw 37) (rm6_1 l Z a0 hw [] b2 a6 a1 (0 : Int32) h2 n0 (Nat.le_trans Z0 z13) A2 F3 u11 F4 F5) e10 hml (g := (mkF m 9 #[SR a1] [VI 0, VR a1, VR a6, VR b2, VR b2])) pd3 (hb hby d5_9) b2 [VR a6, VR a1, VI 0] [VR b2] (W := 1)
  obtain ⟨rfl, N12q, K12, o0_12, o1_12, o2_12, o3_12⟩ := hQ12
  have N12 := Fr.app N0 N12q
  refine own_go st12 ?_
  show own_Fin p e below _ T12 (mkF m 12 #[SR a1] [VR b2])
  have K14 : Keep h0 T12.heap [] := (((Keep.refl h0 []).ext E2).trans K12 (allS (Or.inr (Nat.le_of_eq g2.symm)) all0))
  obtain ⟨fs, hr, hrun, hended, hW, hsame⟩ := X12.leave (v := some (.ref b2)) (fun h => by rw [hret] at h; cases h)
  refine own_end (retOut X12 hx hret rfl (Or.inr (Or.inr (Or.inr (Or.inr ⟨rfl, rfl, rfl⟩)))) (hb hby d5_12) hr) hrun hended ⟨_, _, rfl, ?_, ⟨_, rfl⟩, hW, hsame.mono (by decide) (by decide)⟩
  show Q5_1 Z a1 a6 h0 n0 _ T12.heap _
  exact ⟨b2, rfl, N12, K14, (Nat.le_of_eq g2.symm), o0_12, o1_12, o2_12, o3_12⟩
theorem ef7_1 (m : MethodId) (a1 : Addr) : entryFrame m #[(.ref a1)] 1 = mkF m 0 #[SR a1] [] := by first | (simp [entryFrame, mkF, argsToLocals, Value.category]; done) | rfl
def Q7_1 (Z : State) (a1 : Addr) (a2 : Addr) (h0 : Heap) (n0 : Nat) (v : Option Value) (h : Heap) (L : List Loc) : Prop := v = some (.ref a2) ∧ Fr n0 L ∧ h = h0
set_option maxRecDepth 65536 in
set_option maxHeartbeats 40000000 in
theorem rm7_1 (l : Launch) (Z : State) (a0 : Array Value) (hw : HW a0 Z) (ws : List Jvm.Cond) (a1 : Addr) (a2 : Addr) (h0 : Heap) (n0 : Nat) (Z0 : n0 ≤ h0.size) (f3 : Fld Z h0 a1 cC2 "outcome" cC3 (VR a2)) :
    MetFree l yM5 (head1 (Jvm.Cond.code yM5 prog_5_method_8_code 1 (some (.object "com/example/wito/wito/delivery/Verdict$Outcome")) :: ws) ({ frames := 0, cells := 0, slots := 0, locals := 0 } : Room)) (fun a U => a = #[(.ref a1)] ∧ Z.Warmed39 U.vm ∧ U.heap = h0) (fun _ _ _ _ _ => True) (fun _ U o U' => ∃ v L, o = .returned v ∧ Q7_1 Z a1 a2 h0 n0 v U'.heap L ∧ FrameEnd U o U' L ({ frames := 0, cells := 0, slots := 0, locals := 0 } : Room).cells ({ frames := 0, cells := 0, slots := 0, locals := 0 } : Room).slots) := by
  refine own_enter (n0 := n0) (plainFor_of_name pn5) (fun m => ef7_1 m a1) ?_
  intro p e s m below meth c s₁ hx hby hml hown hnm hret hlk X0 e0 hZ hh N0
  show own_Fin p e below _ s₁ (mkF m 0 #[SR a1] [])
  refine own_go (fun _ k => XS.aloadN X0.here hx rfl (hb hby d7_0) rfl rfl k) ?_
  show own_Fin p e below _ s₁ (mkF m 1 #[SR a1] [VR a1])
  obtain ⟨T4, X4, e4, st4⟩ := getF X0 hx hZ hown (host := "") (Or.inl (WW hw 39)) Via.refl e0 f3 (g := (mkF m 1 #[SR a1] [VR a1])) rfl rfl (hb hby d7_1)
  refine own_go st4 ?_
  show own_Fin p e below _ T4 (mkF m 4 #[SR a1] [VR a2])
  obtain ⟨fs, hr, hrun, hended, hW, hsame⟩ := X4.leave (v := some (.ref a2)) (fun h => by rw [hret] at h; cases h)
  refine own_end (retOut X4 hx hret rfl (Or.inr (Or.inr (Or.inr (Or.inr ⟨rfl, rfl, rfl⟩)))) (hb hby d7_4) hr) hrun hended ⟨_, _, rfl, ?_, ⟨_, rfl⟩, hW, hsame.mono (by decide) (by decide)⟩
  show Q7_1 Z a1 a2 h0 n0 _ T4.heap _
  rw [e4]
  exact ⟨rfl, N0, rfl⟩
theorem ef8_1 (m : MethodId) (a1 : Addr) : entryFrame m #[(.ref a1)] 1 = mkF m 0 #[SR a1] [] := by first | (simp [entryFrame, mkF, argsToLocals, Value.category]; done) | rfl
def Q8_1 (Z : State) (a1 : Addr) (h0 : Heap) (n0 : Nat) (v : Option Value) (h : Heap) (L : List Loc) : Prop := v = some (.int (0 : Int32)) ∧ Fr n0 L ∧ h = h0
set_option maxRecDepth 65536 in
set_option maxHeartbeats 40000000 in
theorem rm8_1 (l : Launch) (Z : State) (a0 : Array Value) (hw : HW a0 Z) (ws : List Jvm.Cond) (a1 : Addr) (h0 : Heap) (n0 : Nat) (Z0 : n0 ≤ h0.size) (f2 : Fld Z h0 a1 cC2 "retryable" "Z" (VI 0)) :
    MetFree l yM6 (head1 (Jvm.Cond.code yM6 prog_5_method_10_code 1 (some .boolean) :: ws) ({ frames := 0, cells := 0, slots := 0, locals := 0 } : Room)) (fun a U => a = #[(.ref a1)] ∧ Z.Warmed39 U.vm ∧ U.heap = h0) (fun _ _ _ _ _ => True) (fun _ U o U' => ∃ v L, o = .returned v ∧ Q8_1 Z a1 h0 n0 v U'.heap L ∧ FrameEnd U o U' L ({ frames := 0, cells := 0, slots := 0, locals := 0 } : Room).cells ({ frames := 0, cells := 0, slots := 0, locals := 0 } : Room).slots) := by
  refine own_enter (n0 := n0) (plainFor_of_name pn5) (fun m => ef8_1 m a1) ?_
  intro p e s m below meth c s₁ hx hby hml hown hnm hret hlk X0 e0 hZ hh N0
  show own_Fin p e below _ s₁ (mkF m 0 #[SR a1] [])
  refine own_go (fun _ k => XS.aloadN X0.here hx rfl (hb hby d8_0) rfl rfl k) ?_
  show own_Fin p e below _ s₁ (mkF m 1 #[SR a1] [VR a1])
  obtain ⟨T3, X3, e3, st3⟩ := getF X0 hx hZ hown (host := "") (Or.inl (WW hw 43)) Via.refl e0 f2 (g := (mkF m 1 #[SR a1] [VR a1])) rfl rfl (hb hby d8_1)
  refine own_go st3 ?_
  show own_Fin p e below _ T3 (mkF m 4 #[SR a1] [VI 0])
  obtain ⟨fs, hr, hrun, hended, hW, hsame⟩ := X3.leave (v := some (.int (0 : Int32))) (fun h => by rw [hret] at h; cases h)
  refine own_end (retN X3 hx (t := .boolean) hret (by simp) (hb hby d8_4) hr) hrun hended ⟨_, _, rfl, ?_, ⟨_, rfl⟩, hW, hsame.mono (by decide) (by decide)⟩
  show Q8_1 Z a1 h0 n0 _ T3.heap _
  rw [e3]
  exact ⟨rfl, N0, rfl⟩
theorem ef9_1 (m : MethodId) (a1 : Addr) : entryFrame m #[(.ref a1)] 1 = mkF m 0 #[SR a1] [] := by first | (simp [entryFrame, mkF, argsToLocals, Value.category]; done) | rfl
def Q9_1 (Z : State) (a1 : Addr) (a2 : Addr) (h0 : Heap) (n0 : Nat) (v : Option Value) (h : Heap) (L : List Loc) : Prop := v = some (.ref a2) ∧ Fr n0 L ∧ h = h0
set_option maxRecDepth 65536 in
set_option maxHeartbeats 40000000 in
theorem rm9_1 (l : Launch) (Z : State) (a0 : Array Value) (hw : HW a0 Z) (ws : List Jvm.Cond) (a1 : Addr) (a2 : Addr) (h0 : Heap) (n0 : Nat) (Z0 : n0 ≤ h0.size) (f3 : Fld Z h0 a1 cC2 "reason" cC4 (VR a2)) :
    MetFree l yM7 (head1 (Jvm.Cond.code yM7 prog_5_method_9_code 1 (some (.object "java/lang/String")) :: ws) ({ frames := 0, cells := 0, slots := 0, locals := 0 } : Room)) (fun a U => a = #[(.ref a1)] ∧ Z.Warmed39 U.vm ∧ U.heap = h0) (fun _ _ _ _ _ => True) (fun _ U o U' => ∃ v L, o = .returned v ∧ Q9_1 Z a1 a2 h0 n0 v U'.heap L ∧ FrameEnd U o U' L ({ frames := 0, cells := 0, slots := 0, locals := 0 } : Room).cells ({ frames := 0, cells := 0, slots := 0, locals := 0 } : Room).slots) := by
  refine own_enter (n0 := n0) (plainFor_of_name pn5) (fun m => ef9_1 m a1) ?_
  intro p e s m below meth c s₁ hx hby hml hown hnm hret hlk X0 e0 hZ hh N0
  show own_Fin p e below _ s₁ (mkF m 0 #[SR a1] [])
  refine own_go (fun _ k => XS.aloadN X0.here hx rfl (hb hby d9_0) rfl rfl k) ?_
  show own_Fin p e below _ s₁ (mkF m 1 #[SR a1] [VR a1])
  obtain ⟨T4, X4, e4, st4⟩ := getF X0 hx hZ hown (host := "") (Or.inl (WW hw 41)) Via.refl e0 f3 (g := (mkF m 1 #[SR a1] [VR a1])) rfl rfl (hb hby d9_1)
  refine own_go st4 ?_
  show own_Fin p e below _ T4 (mkF m 4 #[SR a1] [VR a2])
  obtain ⟨fs, hr, hrun, hended, hW, hsame⟩ := X4.leave (v := some (.ref a2)) (fun h => by rw [hret] at h; cases h)
  refine own_end (retOut X4 hx hret rfl (Or.inr (Or.inr (Or.inr (Or.inr ⟨rfl, rfl, rfl⟩)))) (hb hby d9_4) hr) hrun hended ⟨_, _, rfl, ?_, ⟨_, rfl⟩, hW, hsame.mono (by decide) (by decide)⟩
  show Q9_1 Z a1 a2 h0 n0 _ T4.heap _
  rw [e4]
  exact ⟨rfl, N0, rfl⟩
theorem ef10_1 (m : MethodId) (a1 : Addr) : entryFrame m #[(.ref a1), (.ref a1)] 3 = mkF m 0 #[SR a1, SR a1, SU] [] := by first | (simp [entryFrame, mkF, argsToLocals, Value.category]; done) | rfl
def Q10_1 (Z : State) (a1 : Addr) (h0 : Heap) (n0 : Nat) (v : Option Value) (h : Heap) (L : List Loc) : Prop := v = some (.int (1 : Int32)) ∧ Fr n0 L ∧ h = h0
set_option maxRecDepth 65536 in
set_option maxHeartbeats 40000000 in
theorem rm10_1 (l : Launch) (Z : State) (a0 : Array Value) (hw : HW a0 Z) (ws : List Jvm.Cond) (a1 : Addr) (h0 : Heap) (n0 : Nat) (Z0 : n0 ≤ h0.size) :
    MetFree l yM8 (head1 (Jvm.Cond.code yM8 jdk_42_method_66_code 3 (some .boolean) :: ws) ({ frames := 0, cells := 0, slots := 0, locals := 0 } : Room)) (fun a U => a = #[(.ref a1), (.ref a1)] ∧ Z.Warmed39 U.vm ∧ U.heap = h0) (fun _ _ _ _ _ => True) (fun _ U o U' => ∃ v L, o = .returned v ∧ Q10_1 Z a1 h0 n0 v U'.heap L ∧ FrameEnd U o U' L ({ frames := 0, cells := 0, slots := 0, locals := 0 } : Room).cells ({ frames := 0, cells := 0, slots := 0, locals := 0 } : Room).slots) := by
  refine own_enter (n0 := n0) (plainFor_of_name pn2) (fun m => ef10_1 m a1) ?_
  intro p e s m below meth c s₁ hx hby hml hown hnm hret hlk X0 e0 hZ hh N0
  show own_Fin p e below _ s₁ (mkF m 0 #[SR a1, SR a1, SU] [])
  refine own_go (fun _ k => XS.aloadN X0.here hx rfl (hb hby d10_0) rfl rfl (XS.aloadN X0.here hx rfl (hb hby d10_1) rfl rfl (Jvm.RoadKit.acmp (g := (mkF m 2 #[SR a1, SR a1, SU] [VR a1, VR a1])) X0 hx rfl rfl rfl (pc0 := 2) (pc' := 5) (same := true) rfl (hb hby d10_2) rfl (decide_eq_true rfl) (by decide) (by decide) (XS.iconst X0.here hx rfl (hb hby d10_5) k)))) ?_
  show own_Fin p e below _ s₁ (mkF m 6 #[SR a1, SR a1, SU] [VI 1])
  obtain ⟨fs, hr, hrun, hended, hW, hsame⟩ := X0.leave (v := some (.int (1 : Int32))) (fun h => by rw [hret] at h; cases h)
  refine own_end (retN X0 hx (t := .boolean) hret (by simp) (hb hby d10_6) hr) hrun hended ⟨_, _, rfl, ?_, ⟨_, rfl⟩, hW, hsame.mono (by decide) (by decide)⟩
  show Q10_1 Z a1 h0 n0 _ s₁.heap _
  rw [e0]
  exact ⟨rfl, N0, rfl⟩
theorem ef1_2 (m : MethodId) (p1 : Int32) (p2 : Int32) (p3 : Int32) (p4 : Int32) : entryFrame m #[(.int p1), (.int p2), (.int p3), (.int p4)] 8 = mkF m 0 #[SI p1, SI p2, SI p3, SI p4, SU, SU, SU, SU] [] := by first | (simp [entryFrame, mkF, argsToLocals, Value.category]; done) | rfl
def Q1_2 (Z : State) (p1 : Int32) (p2 : Int32) (p3 : Int32) (p4 : Int32) (p21 : Int32) (h0 : Heap) (n0 : Nat) (v : Option Value) (h : Heap) (L : List Loc) : Prop := ∃ (b7 : Addr) (t16 : Addr) (kb16 : ClassId), v = some (.ref b7) ∧ Fr n0 L ∧ Keep h0 h [] ∧ h0.size ≤ b7 ∧ h0.size ≤ t16 ∧ b7 ≠ t16 ∧ Exa Z h b7 cC0 ∧ Fld Z h b7 cC0 "coder" "B" (VI 0) ∧ Fld Z h b7 cC0 "value" "[B" (VR t16) ∧ Arv Z h t16 kb16 .byte 1 [VI ((nar .char ((p2 &&& (255 : Int32)).toUInt32.toUInt16.toUInt32.toInt32)).toInt8.toInt32)] (VI 0)
set_option maxRecDepth 65536 in
set_option maxHeartbeats 40000000 in
theorem rm1_2 (l : Launch) (Z : State) (a0 : Array Value) (hw : HW a0 Z) (ws : List Jvm.Cond) (p1 : Int32) (p2 : Int32) (p3 : Int32) (p4 : Int32) (p21 : Int32) (h0 : Heap) (n0 : Nat) (Z0 : n0 ≤ h0.size) (f5 : ¬ ((p1 &&& (7 : Int32)) = (0 : Int32))) (f6 : (p1 &&& (7 : Int32)) = (1 : Int32)) (f22 : Sta Z Z.heap "java/lang/String" "COMPACT_STRINGS" "Z" (.int p21)) (f23 : Old Z n0 h0) (f25 : ¬ (p21 = (0 : Int32))) :
    MetFree l yM2 (head1 (Jvm.Cond.code yM2 method_2_code 8 (some (.object "java/lang/String")) :: ws) ({ frames := 4, cells := 3, slots := 6, locals := 66 } : Room)) (fun a U => a = #[(.int p1), (.int p2), (.int p3), (.int p4)] ∧ Z.Warmed39 U.vm ∧ U.heap = h0) (fun _ _ _ _ _ => True) (fun _ U o U' => ∃ v L, o = .returned v ∧ Q1_2 Z p1 p2 p3 p4 p21 h0 n0 v U'.heap L ∧ FrameEnd U o U' L ({ frames := 4, cells := 3, slots := 6, locals := 66 } : Room).cells ({ frames := 4, cells := 3, slots := 6, locals := 66 } : Room).slots) := by
  refine own_enter (n0 := n0) (plainFor_of_name pn0) (fun m => ef1_2 m p1 p2 p3 p4) ?_
  intro p e s m below meth c s₁ hx hby hml hown hnm hret hlk X0 e0 hZ hh N0
  show own_Fin p e below _ s₁ (mkF m 0 #[SI p1, SI p2, SI p3, SI p4, SU, SU, SU, SU] [])
  refine own_go (fun _ k => XS.iloadN X0.here hx rfl (hb hby d1_0) rfl (XS.bipush X0.here hx rfl (hb hby d1_1) (XS.iand X0.here hx rfl (hb hby d1_3) rfl (XS.istore X0.here hx rfl (hb hby d1_4) rfl (l' := #[SI p1, SI p2, SI p3, SI p4, SI (p1 &&& (7 : Int32)), SU, SU, SU]) rfl (XS.iloadN X0.here hx rfl (hb hby d1_6) rfl (XS.sipush X0.here hx rfl (hb hby d1_7) (XS.iand X0.here hx rfl (hb hby d1_10) rfl (XS.i2c X0.here hx rfl (hb hby d1_11) rfl (XS.istore X0.here hx rfl (hb hby d1_12) rfl (l' := #[SI p1, SI p2, SI p3, SI p4, SI (p1 &&& (7 : Int32)), SI ((p2 &&& (255 : Int32)).toUInt32.toUInt16.toUInt32.toInt32), SU, SU]) rfl (XS.iloadN X0.here hx rfl (hb hby d1_14) rfl k)))))))))) ?_
  show own_Fin p e below _ s₁ (mkF m 15 #[SI p1, SI p2, SI p3, SI p4, SI (p1 &&& (7 : Int32)), SI ((p2 &&& (255 : Int32)).toUInt32.toUInt16.toUInt32.toInt32), SU, SU] [VI p3])
  refine own_go (fun _ k => XS.sipush X0.here hx rfl (hb hby d1_15) (XS.iand X0.here hx rfl (hb hby d1_18) rfl (XS.i2c X0.here hx rfl (hb hby d1_19) rfl (XS.istore X0.here hx rfl (hb hby d1_20) rfl (l' := #[SI p1, SI p2, SI p3, SI p4, SI (p1 &&& (7 : Int32)), SI ((p2 &&& (255 : Int32)).toUInt32.toUInt16.toUInt32.toInt32), SI ((p3 &&& (255 : Int32)).toUInt32.toUInt16.toUInt32.toInt32), SU]) rfl (XS.iloadN X0.here hx rfl (hb hby d1_22) rfl (XS.sipush X0.here hx rfl (hb hby d1_23) (XS.iand X0.here hx rfl (hb hby d1_26) rfl (XS.i2c X0.here hx rfl (hb hby d1_27) rfl (XS.istore X0.here hx rfl (hb hby d1_28) rfl (l' := #[SI p1, SI p2, SI p3, SI p4, SI (p1 &&& (7 : Int32)), SI ((p2 &&& (255 : Int32)).toUInt32.toUInt16.toUInt32.toInt32), SI ((p3 &&& (255 : Int32)).toUInt32.toUInt16.toUInt32.toInt32), SI ((p4 &&& (255 : Int32)).toUInt32.toUInt16.toUInt32.toInt32)]) rfl (XS.iload X0.here hx rfl (hb hby d1_30) rfl k)))))))))) ?_
  show own_Fin p e below _ s₁ (mkF m 32 #[SI p1, SI p2, SI p3, SI p4, SI (p1 &&& (7 : Int32)), SI ((p2 &&& (255 : Int32)).toUInt32.toUInt16.toUInt32.toInt32), SI ((p3 &&& (255 : Int32)).toUInt32.toUInt16.toUInt32.toInt32), SI ((p4 &&& (255 : Int32)).toUInt32.toUInt16.toUInt32.toInt32)] [VI (p1 &&& (7 : Int32))])
  refine own_go (fun _ k => XS.ifYes X0.here hx rfl (pc0 := 32) (pc' := 46) rfl (hb hby d1_32) rfl ((if0 _ _).trans (feq f5).2) (by decide) (by decide) (XS.iload X0.here hx rfl (hb hby d1_46) rfl (XS.iconst X0.here hx rfl (hb hby d1_48) (XS.icmpNo X0.here hx rfl (hb hby d1_49) rfl (teq f6).2 k)))) ?_
  show own_Fin p e below _ s₁ (mkF m 52 #[SI p1, SI p2, SI p3, SI p4, SI (p1 &&& (7 : Int32)), SI ((p2 &&& (255 : Int32)).toUInt32.toUInt16.toUInt32.toInt32), SI ((p3 &&& (255 : Int32)).toUInt32.toUInt16.toUInt32.toInt32), SI ((p4 &&& (255 : Int32)).toUInt32.toUInt16.toUInt32.toInt32)] [])
  obtain ⟨T7, h7, X7, e7, E7, A7, D7, -, st7⟩ := newO X0 hx hZ hown (WW hw 4) (WW hw 5) (WW hw 6) e0 (g := (mkF m 52 #[SI p1, SI p2, SI p3, SI p4, SI (p1 &&& (7 : Int32)), SI ((p2 &&& (255 : Int32)).toUInt32.toUInt16.toUInt32.toInt32), SI ((p3 &&& (255 : Int32)).toUInt32.toUInt16.toUInt32.toInt32), SI ((p4 &&& (255 : Int32)).toUInt32.toUInt16.toUInt32.toInt32)] [])) rfl (hb hby d1_52) (by decide) (by decide)
  obtain ⟨b7, g7⟩ : ∃ z, z = h0.size := ⟨_, rfl⟩
  rw [← g7] at A7 D7 st7
  have F8 : Fld Z h7 b7 cC0 "value" "[B" (.null) := D7 (Or.inr (WW hw 20)) (ty := (.array .byte)) (by decide)
  have F9 : Fld Z h7 b7 cC0 "coder" "B" (VI 0) := D7 (Or.inr (WW hw 21)) (ty := .byte) (by decide)
  refine own_go st7 ?_
  show own_Fin p e below _ T7 (mkF m 55 #[SI p1, SI p2, SI p3, SI p4, SI (p1 &&& (7 : Int32)), SI ((p2 &&& (255 : Int32)).toUInt32.toUInt16.toUInt32.toInt32), SI ((p3 &&& (255 : Int32)).toUInt32.toUInt16.toUInt32.toInt32), SI ((p4 &&& (255 : Int32)).toUInt32.toUInt16.toUInt32.toInt32)] [VR b7])
  refine own_go (fun _ k => XS.dup X7.here hx rfl (hb hby d1_55) rfl rfl (XS.iconst X7.here hx rfl (hb hby d1_56) k)) ?_
  show own_Fin p e below _ T7 (mkF m 57 #[SI p1, SI p2, SI p3, SI p4, SI (p1 &&& (7 : Int32)), SI ((p2 &&& (255 : Int32)).toUInt32.toUInt16.toUInt32.toInt32), SI ((p3 &&& (255 : Int32)).toUInt32.toUInt16.toUInt32.toInt32), SI ((p4 &&& (255 : Int32)).toUInt32.toUInt16.toUInt32.toInt32)] [VI 1, VR b7, VR b7])
  obtain ⟨T10, h10, k10, X10, e10, E10, A10, st10⟩ := newP X7 hx hZ (WW hw 7) e7 (g := (mkF m 57 #[SI p1, SI p2, SI p3, SI p4, SI (p1 &&& (7 : Int32)), SI ((p2 &&& (255 : Int32)).toUInt32.toUInt16.toUInt32.toInt32), SI ((p3 &&& (255 : Int32)).toUInt32.toUInt16.toUInt32.toInt32), SI ((p4 &&& (255 : Int32)).toUInt32.toUInt16.toUInt32.toInt32)] [VI 1, VR b7, VR b7])) rfl (hb hby d1_57) rfl (by decide) (cap := 1) (by decide) (by decide) (by decide) (by decide)
  obtain ⟨b10, g10⟩ : ∃ z, z = h7.size := ⟨_, rfl⟩
  rw [← g10] at A10 st10
  have V10 : Arv Z h10 b10 k10 .char 1 [VI 0] (VI 0) := (Arv.new A10 (by decide)).pad (pad_rep [] (.int (0 : Int32)) 1)
  refine own_go st10 ?_
  show own_Fin p e below _ T10 (mkF m 59 #[SI p1, SI p2, SI p3, SI p4, SI (p1 &&& (7 : Int32)), SI ((p2 &&& (255 : Int32)).toUInt32.toUInt16.toUInt32.toInt32), SI ((p3 &&& (255 : Int32)).toUInt32.toUInt16.toUInt32.toInt32), SI ((p4 &&& (255 : Int32)).toUInt32.toUInt16.toUInt32.toInt32)] [VR b10, VR b7, VR b7])
  refine own_go (fun _ k => XS.dup X10.here hx rfl (hb hby d1_59) rfl rfl (XS.iconst X10.here hx rfl (hb hby d1_60) (XS.iload X10.here hx rfl (hb hby d1_61) rfl k))) ?_
  show own_Fin p e below _ T10 (mkF m 63 #[SI p1, SI p2, SI p3, SI p4, SI (p1 &&& (7 : Int32)), SI ((p2 &&& (255 : Int32)).toUInt32.toUInt16.toUInt32.toInt32), SI ((p3 &&& (255 : Int32)).toUInt32.toUInt16.toUInt32.toInt32), SI ((p4 &&& (255 : Int32)).toUInt32.toUInt16.toUInt32.toInt32)] [VI ((p2 &&& (255 : Int32)).toUInt32.toUInt16.toUInt32.toInt32), VI 0, VR b10, VR b10, VR b7, VR b7])
  obtain ⟨cl11, Ar11, q11, Sz11, Nn11, Hs11, Gg11⟩ := id V10
  have i12 : ¬ ((0 : Int32) < 0 ∨ cl11.slots.size ≤ ((0 : Int32)).toNatClampNeg) := inb_of Sz11 ⟨(by decide : ¬ ((0 : Int32) < (0 : Int32))), (by decide : (0 : Int32) < (1 : Int32))⟩
  obtain ⟨T13, h13, X13, e13, W13, st13⟩ := stC X10 hx hZ e10 Ar11 (j := (0 : Int32)) i12 (g := (mkF m 63 #[SI p1, SI p2, SI p3, SI p4, SI (p1 &&& (7 : Int32)), SI ((p2 &&& (255 : Int32)).toUInt32.toUInt16.toUInt32.toInt32), SI ((p3 &&& (255 : Int32)).toUInt32.toUInt16.toUInt32.toInt32), SI ((p4 &&& (255 : Int32)).toUInt32.toUInt16.toUInt32.toInt32)] [VI ((p2 &&& (255 : Int32)).toUInt32.toUInt16.toUInt32.toInt32), VI 0, VR b10, VR b10, VR b7, VR b7])) rfl rfl (hb hby d1_63)
  have z15 : h0.size ≤ h7.size := E7.1
  have u14 : n0 ≤ b10 := Nat.le_trans Z0 (Nat.le_trans z15 (Nat.le_of_eq g10.symm))
  have N13 := Fr.snoc X13 N0 u14
  have V13 : Arv Z h13 b10 k10 .char 1 [VI (nar .char ((p2 &&& (255 : Int32)).toUInt32.toUInt16.toUInt32.toInt32))] (VI 0) := Arv.set Ar11 q11 Sz11 Nn11 Hs11 Gg11 (fits_nar_char _) W13 0 rfl (Nat.le_of_ble_eq_true rfl)
  refine own_go st13 ?_
  show own_Fin p e below _ T13 (mkF m 64 #[SI p1, SI p2, SI p3, SI p4, SI (p1 &&& (7 : Int32)), SI ((p2 &&& (255 : Int32)).toUInt32.toUInt16.toUInt32.toInt32), SI ((p3 &&& (255 : Int32)).toUInt32.toUInt16.toUInt32.toInt32), SI ((p4 &&& (255 : Int32)).toUInt32.toUInt16.toUInt32.toInt32)] [VR b10, VR b7, VR b7])
  have F17 : Exa Z h13 b7 cC0 := ((A7.ext E10).wr W13)
  have v18 : b7 ≠ b10 := Nat.ne_of_lt (Nat.lt_of_lt_of_le A7.lt (Nat.le_of_eq g10.symm))
  have F19 : Fld Z h13 b7 cC0 "value" "[B" (.null) := ((F8.ext E10).other W13 (Or.inl v18))
  have F20 : Fld Z h13 b7 cC0 "coder" "B" (VI 0) := ((F9.ext E10).other W13 (Or.inl v18))
  have O24 : Old Z n0 h13 := (((f23.ext E7).ext E10).wr W13 u14)
  have hws : ∀ d ∈ StrChars.Road.words, d.before a0 Z = true := fun d hd => hw d ((by decide +kernel : ∀ d ∈ StrChars.Road.words, d ∈ tables_1) d hd)
  have hp26 : ∀ c ∈ ([(nar .char ((p2 &&& (255 : Int32)).toUInt32.toUInt16.toUInt32.toInt32))] : List Int32), ¬ c < 0 ∧ ¬ (255 : Int32) < c := (own_allS (own_and255 p2) own_all0)
  have u27 : n0 ≤ b7 := Nat.le_trans Z0 (Nat.le_of_eq g7.symm)
  have z28 : h0.size ≤ h10.size := Nat.le_trans z15 E10.1
  have z29 : h0.size ≤ h13.size := Nat.le_trans z28 (Nat.le_of_eq (Wr.size W13).symm)
  obtain ⟨_, _, ⟨T16, L16, k16, n16⟩, -, X16, ⟨Lc16, hQ16, l16, y16, z16⟩, st16⟩ := X13.specialBack hx (y := yM1) rfl hown (mvT hZ (WW hw 8)) (mvT hZ (WW hw 9)) (mvT hZ (WW hw 10)) (by decide) (StrChars.Road.backV (W := 1) hZ hws (kI := 4) (WW hw 5) (cs := ([(nar .char ((p2 &&& (255 : Int32)).toUInt32.toUInt16.toUInt32.toInt32))] : List Int32)) (bs := ([(nar .char ((p2 &&& (255 : Int32)).toUInt32.toUInt16.toUInt32.toInt32))] : List Int32).map (fun c => c.toInt8.toInt32)) (n := 1) u27 (Nat.le_trans Z0 z29) F17 F19 F20 V13 (f22.ext O24.2) f25 rfl rfl (by decide) (by decide) hp26 rfl (by decide) (by decide)) (g := (mkF m 64 #[SI p1, SI p2, SI p3, SI p4, SI (p1 &&& (7 : Int32)), SI ((p2 &&& (255 : Int32)).toUInt32.toUInt16.toUInt32.toInt32), SI ((p3 &&& (255 : Int32)).toUInt32.toUInt16.toUInt32.toInt32), SI ((p4 &&& (255 : Int32)).toUInt32.toUInt16.toUInt32.toInt32)] [VR b10, VR b7, VR b7])) rfl (by rw [hml]; rfl) (Steps.refl _) (a := b7) (argsL := [VR b10]) (rest := [VR b7]) (lenOf pd1 rfl) rfl (by show 2 * 0 + _ ≤ _; exact Nat.le_of_eq rfl) (hb hby d1_64) (fun _ _ => ⟨rfl, e13, (by decide : 2 + 1 ≤ _), (by decide : 5 + 1 ≤ _)⟩)
  dsimp only [Pt.U, Pt.locs, Pt.cells, Pt.slots] at X16 l16 y16 z16 st16 hQ16
  subst l16 y16 z16
  obtain ⟨rfl, N16q, K16, oE16, oC16, t16, kb16, -, lo16, nt16, oV16, oA16⟩ := hQ16
  have N16 := Fr.app N13 N16q
  refine own_go (fun _ k => st16.trans k) ?_
  show own_Fin p e below _ T16 (mkF m 67 #[SI p1, SI p2, SI p3, SI p4, SI (p1 &&& (7 : Int32)), SI ((p2 &&& (255 : Int32)).toUInt32.toUInt16.toUInt32.toInt32), SI ((p3 &&& (255 : Int32)).toUInt32.toUInt16.toUInt32.toInt32), SI ((p4 &&& (255 : Int32)).toUInt32.toUInt16.toUInt32.toInt32)] [VR b7])
  have K30 : Keep h0 T16.heap [] := (((((Keep.refl h0 []).ext E7).ext E10).wr W13 (Or.inr (Nat.le_trans z15 (Nat.le_of_eq g10.symm)))).trans K16 (allS (Or.inr (Nat.le_of_eq g7.symm)) all0))
  obtain ⟨fs, hr, hrun, hended, hW, hsame⟩ := X16.leave (v := some (.ref b7)) (fun h => by rw [hret] at h; cases h)
  refine own_end (retOut X16 hx hret rfl (Or.inr (Or.inr (Or.inr (Or.inr ⟨rfl, rfl, rfl⟩)))) (hb hby d1_67) hr) hrun hended ⟨_, _, rfl, ?_, ⟨_, rfl⟩, hW, hsame.mono (by decide) (by decide)⟩
  show Q1_2 Z p1 p2 p3 p4 p21 h0 n0 _ T16.heap _
  exact ⟨b7, t16, kb16, rfl, N16, K30, (Nat.le_of_eq g7.symm), (Nat.le_trans z29 lo16), (Ne.symm nt16), oE16, oC16, oV16, oA16⟩
theorem ef1_3 (m : MethodId) (p1 : Int32) (p2 : Int32) (p3 : Int32) (p4 : Int32) : entryFrame m #[(.int p1), (.int p2), (.int p3), (.int p4)] 8 = mkF m 0 #[SI p1, SI p2, SI p3, SI p4, SU, SU, SU, SU] [] := by first | (simp [entryFrame, mkF, argsToLocals, Value.category]; done) | rfl
def Q1_3 (Z : State) (p1 : Int32) (p2 : Int32) (p3 : Int32) (p4 : Int32) (p25 : Int32) (h0 : Heap) (n0 : Nat) (v : Option Value) (h : Heap) (L : List Loc) : Prop := ∃ (b8 : Addr) (t20 : Addr) (kb20 : ClassId), v = some (.ref b8) ∧ Fr n0 L ∧ Keep h0 h [] ∧ h0.size ≤ b8 ∧ h0.size ≤ t20 ∧ b8 ≠ t20 ∧ Exa Z h b8 cC0 ∧ Fld Z h b8 cC0 "coder" "B" (VI 0) ∧ Fld Z h b8 cC0 "value" "[B" (VR t20) ∧ Arv Z h t20 kb20 .byte 2 [VI ((nar .char ((p2 &&& (255 : Int32)).toUInt32.toUInt16.toUInt32.toInt32)).toInt8.toInt32), VI ((nar .char ((p3 &&& (255 : Int32)).toUInt32.toUInt16.toUInt32.toInt32)).toInt8.toInt32)] (VI 0)
set_option maxRecDepth 65536 in
set_option maxHeartbeats 40000000 in
theorem rm1_3 (l : Launch) (Z : State) (a0 : Array Value) (hw : HW a0 Z) (ws : List Jvm.Cond) (p1 : Int32) (p2 : Int32) (p3 : Int32) (p4 : Int32) (p25 : Int32) (h0 : Heap) (n0 : Nat) (Z0 : n0 ≤ h0.size) (f5 : ¬ ((p1 &&& (7 : Int32)) = (0 : Int32))) (f6 : ¬ ((p1 &&& (7 : Int32)) = (1 : Int32))) (f7 : (p1 &&& (7 : Int32)) = (2 : Int32)) (f26 : Sta Z Z.heap "java/lang/String" "COMPACT_STRINGS" "Z" (.int p25)) (f27 : Old Z n0 h0) (f29 : ¬ (p25 = (0 : Int32))) :
    MetFree l yM2 (head1 (Jvm.Cond.code yM2 method_2_code 8 (some (.object "java/lang/String")) :: ws) ({ frames := 4, cells := 3, slots := 8, locals := 66 } : Room)) (fun a U => a = #[(.int p1), (.int p2), (.int p3), (.int p4)] ∧ Z.Warmed39 U.vm ∧ U.heap = h0) (fun _ _ _ _ _ => True) (fun _ U o U' => ∃ v L, o = .returned v ∧ Q1_3 Z p1 p2 p3 p4 p25 h0 n0 v U'.heap L ∧ FrameEnd U o U' L ({ frames := 4, cells := 3, slots := 8, locals := 66 } : Room).cells ({ frames := 4, cells := 3, slots := 8, locals := 66 } : Room).slots) := by
  refine own_enter (n0 := n0) (plainFor_of_name pn0) (fun m => ef1_3 m p1 p2 p3 p4) ?_
  intro p e s m below meth c s₁ hx hby hml hown hnm hret hlk X0 e0 hZ hh N0
  show own_Fin p e below _ s₁ (mkF m 0 #[SI p1, SI p2, SI p3, SI p4, SU, SU, SU, SU] [])
  refine own_go (fun _ k => XS.iloadN X0.here hx rfl (hb hby d1_0) rfl (XS.bipush X0.here hx rfl (hb hby d1_1) (XS.iand X0.here hx rfl (hb hby d1_3) rfl (XS.istore X0.here hx rfl (hb hby d1_4) rfl (l' := #[SI p1, SI p2, SI p3, SI p4, SI (p1 &&& (7 : Int32)), SU, SU, SU]) rfl (XS.iloadN X0.here hx rfl (hb hby d1_6) rfl (XS.sipush X0.here hx rfl (hb hby d1_7) (XS.iand X0.here hx rfl (hb hby d1_10) rfl (XS.i2c X0.here hx rfl (hb hby d1_11) rfl (XS.istore X0.here hx rfl (hb hby d1_12) rfl (l' := #[SI p1, SI p2, SI p3, SI p4, SI (p1 &&& (7 : Int32)), SI ((p2 &&& (255 : Int32)).toUInt32.toUInt16.toUInt32.toInt32), SU, SU]) rfl (XS.iloadN X0.here hx rfl (hb hby d1_14) rfl k)))))))))) ?_
  show own_Fin p e below _ s₁ (mkF m 15 #[SI p1, SI p2, SI p3, SI p4, SI (p1 &&& (7 : Int32)), SI ((p2 &&& (255 : Int32)).toUInt32.toUInt16.toUInt32.toInt32), SU, SU] [VI p3])
  refine own_go (fun _ k => XS.sipush X0.here hx rfl (hb hby d1_15) (XS.iand X0.here hx rfl (hb hby d1_18) rfl (XS.i2c X0.here hx rfl (hb hby d1_19) rfl (XS.istore X0.here hx rfl (hb hby d1_20) rfl (l' := #[SI p1, SI p2, SI p3, SI p4, SI (p1 &&& (7 : Int32)), SI ((p2 &&& (255 : Int32)).toUInt32.toUInt16.toUInt32.toInt32), SI ((p3 &&& (255 : Int32)).toUInt32.toUInt16.toUInt32.toInt32), SU]) rfl (XS.iloadN X0.here hx rfl (hb hby d1_22) rfl (XS.sipush X0.here hx rfl (hb hby d1_23) (XS.iand X0.here hx rfl (hb hby d1_26) rfl (XS.i2c X0.here hx rfl (hb hby d1_27) rfl (XS.istore X0.here hx rfl (hb hby d1_28) rfl (l' := #[SI p1, SI p2, SI p3, SI p4, SI (p1 &&& (7 : Int32)), SI ((p2 &&& (255 : Int32)).toUInt32.toUInt16.toUInt32.toInt32), SI ((p3 &&& (255 : Int32)).toUInt32.toUInt16.toUInt32.toInt32), SI ((p4 &&& (255 : Int32)).toUInt32.toUInt16.toUInt32.toInt32)]) rfl (XS.iload X0.here hx rfl (hb hby d1_30) rfl k)))))))))) ?_
  show own_Fin p e below _ s₁ (mkF m 32 #[SI p1, SI p2, SI p3, SI p4, SI (p1 &&& (7 : Int32)), SI ((p2 &&& (255 : Int32)).toUInt32.toUInt16.toUInt32.toInt32), SI ((p3 &&& (255 : Int32)).toUInt32.toUInt16.toUInt32.toInt32), SI ((p4 &&& (255 : Int32)).toUInt32.toUInt16.toUInt32.toInt32)] [VI (p1 &&& (7 : Int32))])
  refine own_go (fun _ k => XS.ifYes X0.here hx rfl (pc0 := 32) (pc' := 46) rfl (hb hby d1_32) rfl ((if0 _ _).trans (feq f5).2) (by decide) (by decide) (XS.iload X0.here hx rfl (hb hby d1_46) rfl (XS.iconst X0.here hx rfl (hb hby d1_48) (XS.icmpYes X0.here hx rfl (pc0 := 49) (pc' := 68) rfl (hb hby d1_49) rfl (feq f6).2 (by decide) (by decide) (XS.iload X0.here hx rfl (hb hby d1_68) rfl (XS.iconst X0.here hx rfl (hb hby d1_70) (XS.icmpNo X0.here hx rfl (hb hby d1_71) rfl (teq f7).2 k))))))) ?_
  show own_Fin p e below _ s₁ (mkF m 74 #[SI p1, SI p2, SI p3, SI p4, SI (p1 &&& (7 : Int32)), SI ((p2 &&& (255 : Int32)).toUInt32.toUInt16.toUInt32.toInt32), SI ((p3 &&& (255 : Int32)).toUInt32.toUInt16.toUInt32.toInt32), SI ((p4 &&& (255 : Int32)).toUInt32.toUInt16.toUInt32.toInt32)] [])
  obtain ⟨T8, h8, X8, e8, E8, A8, D8, -, st8⟩ := newO X0 hx hZ hown (WW hw 4) (WW hw 5) (WW hw 6) e0 (g := (mkF m 74 #[SI p1, SI p2, SI p3, SI p4, SI (p1 &&& (7 : Int32)), SI ((p2 &&& (255 : Int32)).toUInt32.toUInt16.toUInt32.toInt32), SI ((p3 &&& (255 : Int32)).toUInt32.toUInt16.toUInt32.toInt32), SI ((p4 &&& (255 : Int32)).toUInt32.toUInt16.toUInt32.toInt32)] [])) rfl (hb hby d1_74) (by decide) (by decide)
  obtain ⟨b8, g8⟩ : ∃ z, z = h0.size := ⟨_, rfl⟩
  rw [← g8] at A8 D8 st8
  have F9 : Fld Z h8 b8 cC0 "value" "[B" (.null) := D8 (Or.inr (WW hw 20)) (ty := (.array .byte)) (by decide)
  have F10 : Fld Z h8 b8 cC0 "coder" "B" (VI 0) := D8 (Or.inr (WW hw 21)) (ty := .byte) (by decide)
  refine own_go st8 ?_
  show own_Fin p e below _ T8 (mkF m 77 #[SI p1, SI p2, SI p3, SI p4, SI (p1 &&& (7 : Int32)), SI ((p2 &&& (255 : Int32)).toUInt32.toUInt16.toUInt32.toInt32), SI ((p3 &&& (255 : Int32)).toUInt32.toUInt16.toUInt32.toInt32), SI ((p4 &&& (255 : Int32)).toUInt32.toUInt16.toUInt32.toInt32)] [VR b8])
  refine own_go (fun _ k => XS.dup X8.here hx rfl (hb hby d1_77) rfl rfl (XS.iconst X8.here hx rfl (hb hby d1_78) k)) ?_
  show own_Fin p e below _ T8 (mkF m 79 #[SI p1, SI p2, SI p3, SI p4, SI (p1 &&& (7 : Int32)), SI ((p2 &&& (255 : Int32)).toUInt32.toUInt16.toUInt32.toInt32), SI ((p3 &&& (255 : Int32)).toUInt32.toUInt16.toUInt32.toInt32), SI ((p4 &&& (255 : Int32)).toUInt32.toUInt16.toUInt32.toInt32)] [VI 2, VR b8, VR b8])
  obtain ⟨T11, h11, k11, X11, e11, E11, A11, st11⟩ := newP X8 hx hZ (WW hw 7) e8 (g := (mkF m 79 #[SI p1, SI p2, SI p3, SI p4, SI (p1 &&& (7 : Int32)), SI ((p2 &&& (255 : Int32)).toUInt32.toUInt16.toUInt32.toInt32), SI ((p3 &&& (255 : Int32)).toUInt32.toUInt16.toUInt32.toInt32), SI ((p4 &&& (255 : Int32)).toUInt32.toUInt16.toUInt32.toInt32)] [VI 2, VR b8, VR b8])) rfl (hb hby d1_79) rfl (by decide) (cap := 2) (by decide) (by decide) (by decide) (by decide)
  obtain ⟨b11, g11⟩ : ∃ z, z = h8.size := ⟨_, rfl⟩
  rw [← g11] at A11 st11
  have V11 : Arv Z h11 b11 k11 .char 2 [VI 0, VI 0] (VI 0) := (Arv.new A11 (by decide)).pad (pad_rep [] (.int (0 : Int32)) 2)
  refine own_go st11 ?_
  show own_Fin p e below _ T11 (mkF m 81 #[SI p1, SI p2, SI p3, SI p4, SI (p1 &&& (7 : Int32)), SI ((p2 &&& (255 : Int32)).toUInt32.toUInt16.toUInt32.toInt32), SI ((p3 &&& (255 : Int32)).toUInt32.toUInt16.toUInt32.toInt32), SI ((p4 &&& (255 : Int32)).toUInt32.toUInt16.toUInt32.toInt32)] [VR b11, VR b8, VR b8])
  refine own_go (fun _ k => XS.dup X11.here hx rfl (hb hby d1_81) rfl rfl (XS.iconst X11.here hx rfl (hb hby d1_82) (XS.iload X11.here hx rfl (hb hby d1_83) rfl k))) ?_
  show own_Fin p e below _ T11 (mkF m 85 #[SI p1, SI p2, SI p3, SI p4, SI (p1 &&& (7 : Int32)), SI ((p2 &&& (255 : Int32)).toUInt32.toUInt16.toUInt32.toInt32), SI ((p3 &&& (255 : Int32)).toUInt32.toUInt16.toUInt32.toInt32), SI ((p4 &&& (255 : Int32)).toUInt32.toUInt16.toUInt32.toInt32)] [VI ((p2 &&& (255 : Int32)).toUInt32.toUInt16.toUInt32.toInt32), VI 0, VR b11, VR b11, VR b8, VR b8])
  obtain ⟨cl12, Ar12, q12, Sz12, Nn12, Hs12, Gg12⟩ := id V11
  have i13 : ¬ ((0 : Int32) < 0 ∨ cl12.slots.size ≤ ((0 : Int32)).toNatClampNeg) := inb_of Sz12 ⟨(by decide : ¬ ((0 : Int32) < (0 : Int32))), (by decide : (0 : Int32) < (2 : Int32))⟩
  obtain ⟨T14, h14, X14, e14, W14, st14⟩ := stC X11 hx hZ e11 Ar12 (j := (0 : Int32)) i13 (g := (mkF m 85 #[SI p1, SI p2, SI p3, SI p4, SI (p1 &&& (7 : Int32)), SI ((p2 &&& (255 : Int32)).toUInt32.toUInt16.toUInt32.toInt32), SI ((p3 &&& (255 : Int32)).toUInt32.toUInt16.toUInt32.toInt32), SI ((p4 &&& (255 : Int32)).toUInt32.toUInt16.toUInt32.toInt32)] [VI ((p2 &&& (255 : Int32)).toUInt32.toUInt16.toUInt32.toInt32), VI 0, VR b11, VR b11, VR b8, VR b8])) rfl rfl (hb hby d1_85)
  have z16 : h0.size ≤ h8.size := E8.1
  have u15 : n0 ≤ b11 := Nat.le_trans Z0 (Nat.le_trans z16 (Nat.le_of_eq g11.symm))
  have N14 := Fr.snoc X14 N0 u15
  have V14 : Arv Z h14 b11 k11 .char 2 [VI (nar .char ((p2 &&& (255 : Int32)).toUInt32.toUInt16.toUInt32.toInt32)), VI 0] (VI 0) := Arv.set Ar12 q12 Sz12 Nn12 Hs12 Gg12 (fits_nar_char _) W14 0 rfl (Nat.le_of_ble_eq_true rfl)
  refine own_go st14 ?_
  show own_Fin p e below _ T14 (mkF m 86 #[SI p1, SI p2, SI p3, SI p4, SI (p1 &&& (7 : Int32)), SI ((p2 &&& (255 : Int32)).toUInt32.toUInt16.toUInt32.toInt32), SI ((p3 &&& (255 : Int32)).toUInt32.toUInt16.toUInt32.toInt32), SI ((p4 &&& (255 : Int32)).toUInt32.toUInt16.toUInt32.toInt32)] [VR b11, VR b8, VR b8])
  refine own_go (fun _ k => XS.dup X14.here hx rfl (hb hby d1_86) rfl rfl (XS.iconst X14.here hx rfl (hb hby d1_87) (XS.iload X14.here hx rfl (hb hby d1_88) rfl k))) ?_
  show own_Fin p e below _ T14 (mkF m 90 #[SI p1, SI p2, SI p3, SI p4, SI (p1 &&& (7 : Int32)), SI ((p2 &&& (255 : Int32)).toUInt32.toUInt16.toUInt32.toInt32), SI ((p3 &&& (255 : Int32)).toUInt32.toUInt16.toUInt32.toInt32), SI ((p4 &&& (255 : Int32)).toUInt32.toUInt16.toUInt32.toInt32)] [VI ((p3 &&& (255 : Int32)).toUInt32.toUInt16.toUInt32.toInt32), VI 1, VR b11, VR b11, VR b8, VR b8])
  obtain ⟨cl17, Ar17, q17, Sz17, Nn17, Hs17, Gg17⟩ := id V14
  have i18 : ¬ ((1 : Int32) < 0 ∨ cl17.slots.size ≤ ((1 : Int32)).toNatClampNeg) := inb_of Sz17 ⟨(by decide : ¬ ((1 : Int32) < (0 : Int32))), (by decide : (1 : Int32) < (2 : Int32))⟩
  obtain ⟨T19, h19, X19, e19, W19, st19⟩ := stC X14 hx hZ e14 Ar17 (j := (1 : Int32)) i18 (g := (mkF m 90 #[SI p1, SI p2, SI p3, SI p4, SI (p1 &&& (7 : Int32)), SI ((p2 &&& (255 : Int32)).toUInt32.toUInt16.toUInt32.toInt32), SI ((p3 &&& (255 : Int32)).toUInt32.toUInt16.toUInt32.toInt32), SI ((p4 &&& (255 : Int32)).toUInt32.toUInt16.toUInt32.toInt32)] [VI ((p3 &&& (255 : Int32)).toUInt32.toUInt16.toUInt32.toInt32), VI 1, VR b11, VR b11, VR b8, VR b8])) rfl rfl (hb hby d1_90)
  have N19 := Fr.snoc X19 N14 u15
  have V19 : Arv Z h19 b11 k11 .char 2 [VI (nar .char ((p2 &&& (255 : Int32)).toUInt32.toUInt16.toUInt32.toInt32)), VI (nar .char ((p3 &&& (255 : Int32)).toUInt32.toUInt16.toUInt32.toInt32))] (VI 0) := Arv.set Ar17 q17 Sz17 Nn17 Hs17 Gg17 (fits_nar_char _) W19 1 rfl (Nat.le_of_ble_eq_true rfl)
  refine own_go st19 ?_
  show own_Fin p e below _ T19 (mkF m 91 #[SI p1, SI p2, SI p3, SI p4, SI (p1 &&& (7 : Int32)), SI ((p2 &&& (255 : Int32)).toUInt32.toUInt16.toUInt32.toInt32), SI ((p3 &&& (255 : Int32)).toUInt32.toUInt16.toUInt32.toInt32), SI ((p4 &&& (255 : Int32)).toUInt32.toUInt16.toUInt32.toInt32)] [VR b11, VR b8, VR b8])
  have F21 : Exa Z h19 b8 cC0 := (((A8.ext E11).wr W14).wr W19)
  have v22 : b8 ≠ b11 := Nat.ne_of_lt (Nat.lt_of_lt_of_le A8.lt (Nat.le_of_eq g11.symm))
  have F23 : Fld Z h19 b8 cC0 "value" "[B" (.null) := (((F9.ext E11).other W14 (Or.inl v22)).other W19 (Or.inl v22))
  have F24 : Fld Z h19 b8 cC0 "coder" "B" (VI 0) := (((F10.ext E11).other W14 (Or.inl v22)).other W19 (Or.inl v22))
  have O28 : Old Z n0 h19 := ((((f27.ext E8).ext E11).wr W14 u15).wr W19 u15)
  have hws : ∀ d ∈ StrChars.Road.words, d.before a0 Z = true := fun d hd => hw d ((by decide +kernel : ∀ d ∈ StrChars.Road.words, d ∈ tables_1) d hd)
  have hp30 : ∀ c ∈ ([(nar .char ((p2 &&& (255 : Int32)).toUInt32.toUInt16.toUInt32.toInt32)), (nar .char ((p3 &&& (255 : Int32)).toUInt32.toUInt16.toUInt32.toInt32))] : List Int32), ¬ c < 0 ∧ ¬ (255 : Int32) < c := (own_allS (own_and255 p2) (own_allS (own_and255 p3) own_all0))
  have u31 : n0 ≤ b8 := Nat.le_trans Z0 (Nat.le_of_eq g8.symm)
  have z32 : h0.size ≤ h11.size := Nat.le_trans z16 E11.1
  have z33 : h0.size ≤ h14.size := Nat.le_trans z32 (Nat.le_of_eq (Wr.size W14).symm)
  have z34 : h0.size ≤ h19.size := Nat.le_trans z33 (Nat.le_of_eq (Wr.size W19).symm)
  obtain ⟨_, _, ⟨T20, L20, k20, n20⟩, -, X20, ⟨Lc20, hQ20, l20, y20, z20⟩, st20⟩ := X19.specialBack hx (y := yM1) rfl hown (mvT hZ (WW hw 8)) (mvT hZ (WW hw 9)) (mvT hZ (WW hw 10)) (by decide) (StrChars.Road.backV (W := 1) hZ hws (kI := 4) (WW hw 5) (cs := ([(nar .char ((p2 &&& (255 : Int32)).toUInt32.toUInt16.toUInt32.toInt32)), (nar .char ((p3 &&& (255 : Int32)).toUInt32.toUInt16.toUInt32.toInt32))] : List Int32)) (bs := ([(nar .char ((p2 &&& (255 : Int32)).toUInt32.toUInt16.toUInt32.toInt32)), (nar .char ((p3 &&& (255 : Int32)).toUInt32.toUInt16.toUInt32.toInt32))] : List Int32).map (fun c => c.toInt8.toInt32)) (n := 2) u31 (Nat.le_trans Z0 z34) F21 F23 F24 V19 (f26.ext O28.2) f29 rfl rfl (by decide) (by decide) hp30 rfl (by decide) (by decide)) (g := (mkF m 91 #[SI p1, SI p2, SI p3, SI p4, SI (p1 &&& (7 : Int32)), SI ((p2 &&& (255 : Int32)).toUInt32.toUInt16.toUInt32.toInt32), SI ((p3 &&& (255 : Int32)).toUInt32.toUInt16.toUInt32.toInt32), SI ((p4 &&& (255 : Int32)).toUInt32.toUInt16.toUInt32.toInt32)] [VR b11, VR b8, VR b8])) rfl (by rw [hml]; rfl) (Steps.refl _) (a := b8) (argsL := [VR b11]) (rest := [VR b8]) (lenOf pd1 rfl) rfl (by show 2 * 0 + _ ≤ _; exact Nat.le_of_eq rfl) (hb hby d1_91) (fun _ _ => ⟨rfl, e19, (by decide : 2 + 1 ≤ _), (by decide : 6 + 2 ≤ _)⟩)
  dsimp only [Pt.U, Pt.locs, Pt.cells, Pt.slots] at X20 l20 y20 z20 st20 hQ20
  subst l20 y20 z20
  obtain ⟨rfl, N20q, K20, oE20, oC20, t20, kb20, -, lo20, nt20, oV20, oA20⟩ := hQ20
  have N20 := Fr.app N19 N20q
  refine own_go (fun _ k => st20.trans k) ?_
  show own_Fin p e below _ T20 (mkF m 94 #[SI p1, SI p2, SI p3, SI p4, SI (p1 &&& (7 : Int32)), SI ((p2 &&& (255 : Int32)).toUInt32.toUInt16.toUInt32.toInt32), SI ((p3 &&& (255 : Int32)).toUInt32.toUInt16.toUInt32.toInt32), SI ((p4 &&& (255 : Int32)).toUInt32.toUInt16.toUInt32.toInt32)] [VR b8])
  have K35 : Keep h0 T20.heap [] := ((((((Keep.refl h0 []).ext E8).ext E11).wr W14 (Or.inr (Nat.le_trans z16 (Nat.le_of_eq g11.symm)))).wr W19 (Or.inr (Nat.le_trans z16 (Nat.le_of_eq g11.symm)))).trans K20 (allS (Or.inr (Nat.le_of_eq g8.symm)) all0))
  obtain ⟨fs, hr, hrun, hended, hW, hsame⟩ := X20.leave (v := some (.ref b8)) (fun h => by rw [hret] at h; cases h)
  refine own_end (retOut X20 hx hret rfl (Or.inr (Or.inr (Or.inr (Or.inr ⟨rfl, rfl, rfl⟩)))) (hb hby d1_94) hr) hrun hended ⟨_, _, rfl, ?_, ⟨_, rfl⟩, hW, hsame.mono (by decide) (by decide)⟩
  show Q1_3 Z p1 p2 p3 p4 p25 h0 n0 _ T20.heap _
  exact ⟨b8, t20, kb20, rfl, N20, K35, (Nat.le_of_eq g8.symm), (Nat.le_trans z34 lo20), (Ne.symm nt20), oE20, oC20, oV20, oA20⟩
theorem ef1_4 (m : MethodId) (p1 : Int32) (p2 : Int32) (p3 : Int32) (p4 : Int32) : entryFrame m #[(.int p1), (.int p2), (.int p3), (.int p4)] 8 = mkF m 0 #[SI p1, SI p2, SI p3, SI p4, SU, SU, SU, SU] [] := by first | (simp [entryFrame, mkF, argsToLocals, Value.category]; done) | rfl
def Q1_4 (Z : State) (p1 : Int32) (p2 : Int32) (p3 : Int32) (p4 : Int32) (p29 : Int32) (h0 : Heap) (n0 : Nat) (v : Option Value) (h : Heap) (L : List Loc) : Prop := ∃ (b9 : Addr) (t24 : Addr) (kb24 : ClassId), v = some (.ref b9) ∧ Fr n0 L ∧ Keep h0 h [] ∧ h0.size ≤ b9 ∧ h0.size ≤ t24 ∧ b9 ≠ t24 ∧ Exa Z h b9 cC0 ∧ Fld Z h b9 cC0 "coder" "B" (VI 0) ∧ Fld Z h b9 cC0 "value" "[B" (VR t24) ∧ Arv Z h t24 kb24 .byte 3 [VI ((nar .char ((p2 &&& (255 : Int32)).toUInt32.toUInt16.toUInt32.toInt32)).toInt8.toInt32), VI ((nar .char ((p3 &&& (255 : Int32)).toUInt32.toUInt16.toUInt32.toInt32)).toInt8.toInt32), VI ((nar .char ((p4 &&& (255 : Int32)).toUInt32.toUInt16.toUInt32.toInt32)).toInt8.toInt32)] (VI 0)
set_option maxRecDepth 65536 in
set_option maxHeartbeats 40000000 in
theorem rm1_4 (l : Launch) (Z : State) (a0 : Array Value) (hw : HW a0 Z) (ws : List Jvm.Cond) (p1 : Int32) (p2 : Int32) (p3 : Int32) (p4 : Int32) (p29 : Int32) (h0 : Heap) (n0 : Nat) (Z0 : n0 ≤ h0.size) (f5 : ¬ ((p1 &&& (7 : Int32)) = (0 : Int32))) (f6 : ¬ ((p1 &&& (7 : Int32)) = (1 : Int32))) (f7 : ¬ ((p1 &&& (7 : Int32)) = (2 : Int32))) (f8 : (p1 &&& (7 : Int32)) = (3 : Int32)) (f30 : Sta Z Z.heap "java/lang/String" "COMPACT_STRINGS" "Z" (.int p29)) (f31 : Old Z n0 h0) (f33 : ¬ (p29 = (0 : Int32))) :
    MetFree l yM2 (head1 (Jvm.Cond.code yM2 method_2_code 8 (some (.object "java/lang/String")) :: ws) ({ frames := 4, cells := 3, slots := 10, locals := 66 } : Room)) (fun a U => a = #[(.int p1), (.int p2), (.int p3), (.int p4)] ∧ Z.Warmed39 U.vm ∧ U.heap = h0) (fun _ _ _ _ _ => True) (fun _ U o U' => ∃ v L, o = .returned v ∧ Q1_4 Z p1 p2 p3 p4 p29 h0 n0 v U'.heap L ∧ FrameEnd U o U' L ({ frames := 4, cells := 3, slots := 10, locals := 66 } : Room).cells ({ frames := 4, cells := 3, slots := 10, locals := 66 } : Room).slots) := by
  refine own_enter (n0 := n0) (plainFor_of_name pn0) (fun m => ef1_4 m p1 p2 p3 p4) ?_
  intro p e s m below meth c s₁ hx hby hml hown hnm hret hlk X0 e0 hZ hh N0
  show own_Fin p e below _ s₁ (mkF m 0 #[SI p1, SI p2, SI p3, SI p4, SU, SU, SU, SU] [])
  refine own_go (fun _ k => XS.iloadN X0.here hx rfl (hb hby d1_0) rfl (XS.bipush X0.here hx rfl (hb hby d1_1) (XS.iand X0.here hx rfl (hb hby d1_3) rfl (XS.istore X0.here hx rfl (hb hby d1_4) rfl (l' := #[SI p1, SI p2, SI p3, SI p4, SI (p1 &&& (7 : Int32)), SU, SU, SU]) rfl (XS.iloadN X0.here hx rfl (hb hby d1_6) rfl (XS.sipush X0.here hx rfl (hb hby d1_7) (XS.iand X0.here hx rfl (hb hby d1_10) rfl (XS.i2c X0.here hx rfl (hb hby d1_11) rfl (XS.istore X0.here hx rfl (hb hby d1_12) rfl (l' := #[SI p1, SI p2, SI p3, SI p4, SI (p1 &&& (7 : Int32)), SI ((p2 &&& (255 : Int32)).toUInt32.toUInt16.toUInt32.toInt32), SU, SU]) rfl (XS.iloadN X0.here hx rfl (hb hby d1_14) rfl k)))))))))) ?_
  show own_Fin p e below _ s₁ (mkF m 15 #[SI p1, SI p2, SI p3, SI p4, SI (p1 &&& (7 : Int32)), SI ((p2 &&& (255 : Int32)).toUInt32.toUInt16.toUInt32.toInt32), SU, SU] [VI p3])
  refine own_go (fun _ k => XS.sipush X0.here hx rfl (hb hby d1_15) (XS.iand X0.here hx rfl (hb hby d1_18) rfl (XS.i2c X0.here hx rfl (hb hby d1_19) rfl (XS.istore X0.here hx rfl (hb hby d1_20) rfl (l' := #[SI p1, SI p2, SI p3, SI p4, SI (p1 &&& (7 : Int32)), SI ((p2 &&& (255 : Int32)).toUInt32.toUInt16.toUInt32.toInt32), SI ((p3 &&& (255 : Int32)).toUInt32.toUInt16.toUInt32.toInt32), SU]) rfl (XS.iloadN X0.here hx rfl (hb hby d1_22) rfl (XS.sipush X0.here hx rfl (hb hby d1_23) (XS.iand X0.here hx rfl (hb hby d1_26) rfl (XS.i2c X0.here hx rfl (hb hby d1_27) rfl (XS.istore X0.here hx rfl (hb hby d1_28) rfl (l' := #[SI p1, SI p2, SI p3, SI p4, SI (p1 &&& (7 : Int32)), SI ((p2 &&& (255 : Int32)).toUInt32.toUInt16.toUInt32.toInt32), SI ((p3 &&& (255 : Int32)).toUInt32.toUInt16.toUInt32.toInt32), SI ((p4 &&& (255 : Int32)).toUInt32.toUInt16.toUInt32.toInt32)]) rfl (XS.iload X0.here hx rfl (hb hby d1_30) rfl k)))))))))) ?_
  show own_Fin p e below _ s₁ (mkF m 32 #[SI p1, SI p2, SI p3, SI p4, SI (p1 &&& (7 : Int32)), SI ((p2 &&& (255 : Int32)).toUInt32.toUInt16.toUInt32.toInt32), SI ((p3 &&& (255 : Int32)).toUInt32.toUInt16.toUInt32.toInt32), SI ((p4 &&& (255 : Int32)).toUInt32.toUInt16.toUInt32.toInt32)] [VI (p1 &&& (7 : Int32))])
  refine own_go (fun _ k => XS.ifYes X0.here hx rfl (pc0 := 32) (pc' := 46) rfl (hb hby d1_32) rfl ((if0 _ _).trans (feq f5).2) (by decide) (by decide) (XS.iload X0.here hx rfl (hb hby d1_46) rfl (XS.iconst X0.here hx rfl (hb hby d1_48) (XS.icmpYes X0.here hx rfl (pc0 := 49) (pc' := 68) rfl (hb hby d1_49) rfl (feq f6).2 (by decide) (by decide) (XS.iload X0.here hx rfl (hb hby d1_68) rfl (XS.iconst X0.here hx rfl (hb hby d1_70) (XS.icmpYes X0.here hx rfl (pc0 := 71) (pc' := 95) rfl (hb hby d1_71) rfl (feq f7).2 (by decide) (by decide) (XS.iload X0.here hx rfl (hb hby d1_95) rfl (XS.iconst X0.here hx rfl (hb hby d1_97) (XS.icmpNo X0.here hx rfl (hb hby d1_98) rfl (teq f8).2 k)))))))))) ?_
  show own_Fin p e below _ s₁ (mkF m 101 #[SI p1, SI p2, SI p3, SI p4, SI (p1 &&& (7 : Int32)), SI ((p2 &&& (255 : Int32)).toUInt32.toUInt16.toUInt32.toInt32), SI ((p3 &&& (255 : Int32)).toUInt32.toUInt16.toUInt32.toInt32), SI ((p4 &&& (255 : Int32)).toUInt32.toUInt16.toUInt32.toInt32)] [])
  obtain ⟨T9, h9, X9, e9, E9, A9, D9, -, st9⟩ := newO X0 hx hZ hown (WW hw 4) (WW hw 5) (WW hw 6) e0 (g := (mkF m 101 #[SI p1, SI p2, SI p3, SI p4, SI (p1 &&& (7 : Int32)), SI ((p2 &&& (255 : Int32)).toUInt32.toUInt16.toUInt32.toInt32), SI ((p3 &&& (255 : Int32)).toUInt32.toUInt16.toUInt32.toInt32), SI ((p4 &&& (255 : Int32)).toUInt32.toUInt16.toUInt32.toInt32)] [])) rfl (hb hby d1_101) (by decide) (by decide)
  obtain ⟨b9, g9⟩ : ∃ z, z = h0.size := ⟨_, rfl⟩
  rw [← g9] at A9 D9 st9
  have F10 : Fld Z h9 b9 cC0 "value" "[B" (.null) := D9 (Or.inr (WW hw 20)) (ty := (.array .byte)) (by decide)
  have F11 : Fld Z h9 b9 cC0 "coder" "B" (VI 0) := D9 (Or.inr (WW hw 21)) (ty := .byte) (by decide)
  refine own_go st9 ?_
  show own_Fin p e below _ T9 (mkF m 104 #[SI p1, SI p2, SI p3, SI p4, SI (p1 &&& (7 : Int32)), SI ((p2 &&& (255 : Int32)).toUInt32.toUInt16.toUInt32.toInt32), SI ((p3 &&& (255 : Int32)).toUInt32.toUInt16.toUInt32.toInt32), SI ((p4 &&& (255 : Int32)).toUInt32.toUInt16.toUInt32.toInt32)] [VR b9])
  refine own_go (fun _ k => XS.dup X9.here hx rfl (hb hby d1_104) rfl rfl (XS.iconst X9.here hx rfl (hb hby d1_105) k)) ?_
  show own_Fin p e below _ T9 (mkF m 106 #[SI p1, SI p2, SI p3, SI p4, SI (p1 &&& (7 : Int32)), SI ((p2 &&& (255 : Int32)).toUInt32.toUInt16.toUInt32.toInt32), SI ((p3 &&& (255 : Int32)).toUInt32.toUInt16.toUInt32.toInt32), SI ((p4 &&& (255 : Int32)).toUInt32.toUInt16.toUInt32.toInt32)] [VI 3, VR b9, VR b9])
  obtain ⟨T12, h12, k12, X12, e12, E12, A12, st12⟩ := newP X9 hx hZ (WW hw 7) e9 (g := (mkF m 106 #[SI p1, SI p2, SI p3, SI p4, SI (p1 &&& (7 : Int32)), SI ((p2 &&& (255 : Int32)).toUInt32.toUInt16.toUInt32.toInt32), SI ((p3 &&& (255 : Int32)).toUInt32.toUInt16.toUInt32.toInt32), SI ((p4 &&& (255 : Int32)).toUInt32.toUInt16.toUInt32.toInt32)] [VI 3, VR b9, VR b9])) rfl (hb hby d1_106) rfl (by decide) (cap := 3) (by decide) (by decide) (by decide) (by decide)
  obtain ⟨b12, g12⟩ : ∃ z, z = h9.size := ⟨_, rfl⟩
  rw [← g12] at A12 st12
  have V12 : Arv Z h12 b12 k12 .char 3 [VI 0, VI 0, VI 0] (VI 0) := (Arv.new A12 (by decide)).pad (pad_rep [] (.int (0 : Int32)) 3)
  refine own_go st12 ?_
  show own_Fin p e below _ T12 (mkF m 108 #[SI p1, SI p2, SI p3, SI p4, SI (p1 &&& (7 : Int32)), SI ((p2 &&& (255 : Int32)).toUInt32.toUInt16.toUInt32.toInt32), SI ((p3 &&& (255 : Int32)).toUInt32.toUInt16.toUInt32.toInt32), SI ((p4 &&& (255 : Int32)).toUInt32.toUInt16.toUInt32.toInt32)] [VR b12, VR b9, VR b9])
  refine own_go (fun _ k => XS.dup X12.here hx rfl (hb hby d1_108) rfl rfl (XS.iconst X12.here hx rfl (hb hby d1_109) (XS.iload X12.here hx rfl (hb hby d1_110) rfl k))) ?_
  show own_Fin p e below _ T12 (mkF m 112 #[SI p1, SI p2, SI p3, SI p4, SI (p1 &&& (7 : Int32)), SI ((p2 &&& (255 : Int32)).toUInt32.toUInt16.toUInt32.toInt32), SI ((p3 &&& (255 : Int32)).toUInt32.toUInt16.toUInt32.toInt32), SI ((p4 &&& (255 : Int32)).toUInt32.toUInt16.toUInt32.toInt32)] [VI ((p2 &&& (255 : Int32)).toUInt32.toUInt16.toUInt32.toInt32), VI 0, VR b12, VR b12, VR b9, VR b9])
  obtain ⟨cl13, Ar13, q13, Sz13, Nn13, Hs13, Gg13⟩ := id V12
  have i14 : ¬ ((0 : Int32) < 0 ∨ cl13.slots.size ≤ ((0 : Int32)).toNatClampNeg) := inb_of Sz13 ⟨(by decide : ¬ ((0 : Int32) < (0 : Int32))), (by decide : (0 : Int32) < (3 : Int32))⟩
  obtain ⟨T15, h15, X15, e15, W15, st15⟩ := stC X12 hx hZ e12 Ar13 (j := (0 : Int32)) i14 (g := (mkF m 112 #[SI p1, SI p2, SI p3, SI p4, SI (p1 &&& (7 : Int32)), SI ((p2 &&& (255 : Int32)).toUInt32.toUInt16.toUInt32.toInt32), SI ((p3 &&& (255 : Int32)).toUInt32.toUInt16.toUInt32.toInt32), SI ((p4 &&& (255 : Int32)).toUInt32.toUInt16.toUInt32.toInt32)] [VI ((p2 &&& (255 : Int32)).toUInt32.toUInt16.toUInt32.toInt32), VI 0, VR b12, VR b12, VR b9, VR b9])) rfl rfl (hb hby d1_112)
  have z17 : h0.size ≤ h9.size := E9.1
  have u16 : n0 ≤ b12 := Nat.le_trans Z0 (Nat.le_trans z17 (Nat.le_of_eq g12.symm))
  have N15 := Fr.snoc X15 N0 u16
  have V15 : Arv Z h15 b12 k12 .char 3 [VI (nar .char ((p2 &&& (255 : Int32)).toUInt32.toUInt16.toUInt32.toInt32)), VI 0, VI 0] (VI 0) := Arv.set Ar13 q13 Sz13 Nn13 Hs13 Gg13 (fits_nar_char _) W15 0 rfl (Nat.le_of_ble_eq_true rfl)
  refine own_go st15 ?_
  show own_Fin p e below _ T15 (mkF m 113 #[SI p1, SI p2, SI p3, SI p4, SI (p1 &&& (7 : Int32)), SI ((p2 &&& (255 : Int32)).toUInt32.toUInt16.toUInt32.toInt32), SI ((p3 &&& (255 : Int32)).toUInt32.toUInt16.toUInt32.toInt32), SI ((p4 &&& (255 : Int32)).toUInt32.toUInt16.toUInt32.toInt32)] [VR b12, VR b9, VR b9])
  refine own_go (fun _ k => XS.dup X15.here hx rfl (hb hby d1_113) rfl rfl (XS.iconst X15.here hx rfl (hb hby d1_114) (XS.iload X15.here hx rfl (hb hby d1_115) rfl k))) ?_
  show own_Fin p e below _ T15 (mkF m 117 #[SI p1, SI p2, SI p3, SI p4, SI (p1 &&& (7 : Int32)), SI ((p2 &&& (255 : Int32)).toUInt32.toUInt16.toUInt32.toInt32), SI ((p3 &&& (255 : Int32)).toUInt32.toUInt16.toUInt32.toInt32), SI ((p4 &&& (255 : Int32)).toUInt32.toUInt16.toUInt32.toInt32)] [VI ((p3 &&& (255 : Int32)).toUInt32.toUInt16.toUInt32.toInt32), VI 1, VR b12, VR b12, VR b9, VR b9])
  obtain ⟨cl18, Ar18, q18, Sz18, Nn18, Hs18, Gg18⟩ := id V15
  have i19 : ¬ ((1 : Int32) < 0 ∨ cl18.slots.size ≤ ((1 : Int32)).toNatClampNeg) := inb_of Sz18 ⟨(by decide : ¬ ((1 : Int32) < (0 : Int32))), (by decide : (1 : Int32) < (3 : Int32))⟩
  obtain ⟨T20, h20, X20, e20, W20, st20⟩ := stC X15 hx hZ e15 Ar18 (j := (1 : Int32)) i19 (g := (mkF m 117 #[SI p1, SI p2, SI p3, SI p4, SI (p1 &&& (7 : Int32)), SI ((p2 &&& (255 : Int32)).toUInt32.toUInt16.toUInt32.toInt32), SI ((p3 &&& (255 : Int32)).toUInt32.toUInt16.toUInt32.toInt32), SI ((p4 &&& (255 : Int32)).toUInt32.toUInt16.toUInt32.toInt32)] [VI ((p3 &&& (255 : Int32)).toUInt32.toUInt16.toUInt32.toInt32), VI 1, VR b12, VR b12, VR b9, VR b9])) rfl rfl (hb hby d1_117)
  have N20 := Fr.snoc X20 N15 u16
  have V20 : Arv Z h20 b12 k12 .char 3 [VI (nar .char ((p2 &&& (255 : Int32)).toUInt32.toUInt16.toUInt32.toInt32)), VI (nar .char ((p3 &&& (255 : Int32)).toUInt32.toUInt16.toUInt32.toInt32)), VI 0] (VI 0) := Arv.set Ar18 q18 Sz18 Nn18 Hs18 Gg18 (fits_nar_char _) W20 1 rfl (Nat.le_of_ble_eq_true rfl)
  refine own_go st20 ?_
  show own_Fin p e below _ T20 (mkF m 118 #[SI p1, SI p2, SI p3, SI p4, SI (p1 &&& (7 : Int32)), SI ((p2 &&& (255 : Int32)).toUInt32.toUInt16.toUInt32.toInt32), SI ((p3 &&& (255 : Int32)).toUInt32.toUInt16.toUInt32.toInt32), SI ((p4 &&& (255 : Int32)).toUInt32.toUInt16.toUInt32.toInt32)] [VR b12, VR b9, VR b9])
  refine own_go (fun _ k => XS.dup X20.here hx rfl (hb hby d1_118) rfl rfl (XS.iconst X20.here hx rfl (hb hby d1_119) (XS.iload X20.here hx rfl (hb hby d1_120) rfl k))) ?_
  show own_Fin p e below _ T20 (mkF m 122 #[SI p1, SI p2, SI p3, SI p4, SI (p1 &&& (7 : Int32)), SI ((p2 &&& (255 : Int32)).toUInt32.toUInt16.toUInt32.toInt32), SI ((p3 &&& (255 : Int32)).toUInt32.toUInt16.toUInt32.toInt32), SI ((p4 &&& (255 : Int32)).toUInt32.toUInt16.toUInt32.toInt32)] [VI ((p4 &&& (255 : Int32)).toUInt32.toUInt16.toUInt32.toInt32), VI 2, VR b12, VR b12, VR b9, VR b9])
  obtain ⟨cl21, Ar21, q21, Sz21, Nn21, Hs21, Gg21⟩ := id V20
  have i22 : ¬ ((2 : Int32) < 0 ∨ cl21.slots.size ≤ ((2 : Int32)).toNatClampNeg) := inb_of Sz21 ⟨(by decide : ¬ ((2 : Int32) < (0 : Int32))), (by decide : (2 : Int32) < (3 : Int32))⟩
  obtain ⟨T23, h23, X23, e23, W23, st23⟩ := stC X20 hx hZ e20 Ar21 (j := (2 : Int32)) i22 (g := (mkF m 122 #[SI p1, SI p2, SI p3, SI p4, SI (p1 &&& (7 : Int32)), SI ((p2 &&& (255 : Int32)).toUInt32.toUInt16.toUInt32.toInt32), SI ((p3 &&& (255 : Int32)).toUInt32.toUInt16.toUInt32.toInt32), SI ((p4 &&& (255 : Int32)).toUInt32.toUInt16.toUInt32.toInt32)] [VI ((p4 &&& (255 : Int32)).toUInt32.toUInt16.toUInt32.toInt32), VI 2, VR b12, VR b12, VR b9, VR b9])) rfl rfl (hb hby d1_122)
  have N23 := Fr.snoc X23 N20 u16
  have V23 : Arv Z h23 b12 k12 .char 3 [VI (nar .char ((p2 &&& (255 : Int32)).toUInt32.toUInt16.toUInt32.toInt32)), VI (nar .char ((p3 &&& (255 : Int32)).toUInt32.toUInt16.toUInt32.toInt32)), VI (nar .char ((p4 &&& (255 : Int32)).toUInt32.toUInt16.toUInt32.toInt32))] (VI 0) := Arv.set Ar21 q21 Sz21 Nn21 Hs21 Gg21 (fits_nar_char _) W23 2 rfl (Nat.le_of_ble_eq_true rfl)
  refine own_go st23 ?_
  show own_Fin p e below _ T23 (mkF m 123 #[SI p1, SI p2, SI p3, SI p4, SI (p1 &&& (7 : Int32)), SI ((p2 &&& (255 : Int32)).toUInt32.toUInt16.toUInt32.toInt32), SI ((p3 &&& (255 : Int32)).toUInt32.toUInt16.toUInt32.toInt32), SI ((p4 &&& (255 : Int32)).toUInt32.toUInt16.toUInt32.toInt32)] [VR b12, VR b9, VR b9])
  have F25 : Exa Z h23 b9 cC0 := ((((A9.ext E12).wr W15).wr W20).wr W23)
  have v26 : b9 ≠ b12 := Nat.ne_of_lt (Nat.lt_of_lt_of_le A9.lt (Nat.le_of_eq g12.symm))
  have F27 : Fld Z h23 b9 cC0 "value" "[B" (.null) := ((((F10.ext E12).other W15 (Or.inl v26)).other W20 (Or.inl v26)).other W23 (Or.inl v26))
  have F28 : Fld Z h23 b9 cC0 "coder" "B" (VI 0) := ((((F11.ext E12).other W15 (Or.inl v26)).other W20 (Or.inl v26)).other W23 (Or.inl v26))
  have O32 : Old Z n0 h23 := (((((f31.ext E9).ext E12).wr W15 u16).wr W20 u16).wr W23 u16)
  have hws : ∀ d ∈ StrChars.Road.words, d.before a0 Z = true := fun d hd => hw d ((by decide +kernel : ∀ d ∈ StrChars.Road.words, d ∈ tables_1) d hd)
  have hp34 : ∀ c ∈ ([(nar .char ((p2 &&& (255 : Int32)).toUInt32.toUInt16.toUInt32.toInt32)), (nar .char ((p3 &&& (255 : Int32)).toUInt32.toUInt16.toUInt32.toInt32)), (nar .char ((p4 &&& (255 : Int32)).toUInt32.toUInt16.toUInt32.toInt32))] : List Int32), ¬ c < 0 ∧ ¬ (255 : Int32) < c := (own_allS (own_and255 p2) (own_allS (own_and255 p3) (own_allS (own_and255 p4) own_all0)))
  have u35 : n0 ≤ b9 := Nat.le_trans Z0 (Nat.le_of_eq g9.symm)
  have z36 : h0.size ≤ h12.size := Nat.le_trans z17 E12.1
  have z37 : h0.size ≤ h15.size := Nat.le_trans z36 (Nat.le_of_eq (Wr.size W15).symm)
  have z38 : h0.size ≤ h20.size := Nat.le_trans z37 (Nat.le_of_eq (Wr.size W20).symm)
  have z39 : h0.size ≤ h23.size := Nat.le_trans z38 (Nat.le_of_eq (Wr.size W23).symm)
  obtain ⟨_, _, ⟨T24, L24, k24, n24⟩, -, X24, ⟨Lc24, hQ24, l24, y24, z24⟩, st24⟩ := X23.specialBack hx (y := yM1) rfl hown (mvT hZ (WW hw 8)) (mvT hZ (WW hw 9)) (mvT hZ (WW hw 10)) (by decide) (StrChars.Road.backV (W := 1) hZ hws (kI := 4) (WW hw 5) (cs := ([(nar .char ((p2 &&& (255 : Int32)).toUInt32.toUInt16.toUInt32.toInt32)), (nar .char ((p3 &&& (255 : Int32)).toUInt32.toUInt16.toUInt32.toInt32)), (nar .char ((p4 &&& (255 : Int32)).toUInt32.toUInt16.toUInt32.toInt32))] : List Int32)) (bs := ([(nar .char ((p2 &&& (255 : Int32)).toUInt32.toUInt16.toUInt32.toInt32)), (nar .char ((p3 &&& (255 : Int32)).toUInt32.toUInt16.toUInt32.toInt32)), (nar .char ((p4 &&& (255 : Int32)).toUInt32.toUInt16.toUInt32.toInt32))] : List Int32).map (fun c => c.toInt8.toInt32)) (n := 3) u35 (Nat.le_trans Z0 z39) F25 F27 F28 V23 (f30.ext O32.2) f33 rfl rfl (by decide) (by decide) hp34 rfl (by decide) (by decide)) (g := (mkF m 123 #[SI p1, SI p2, SI p3, SI p4, SI (p1 &&& (7 : Int32)), SI ((p2 &&& (255 : Int32)).toUInt32.toUInt16.toUInt32.toInt32), SI ((p3 &&& (255 : Int32)).toUInt32.toUInt16.toUInt32.toInt32), SI ((p4 &&& (255 : Int32)).toUInt32.toUInt16.toUInt32.toInt32)] [VR b12, VR b9, VR b9])) rfl (by rw [hml]; rfl) (Steps.refl _) (a := b9) (argsL := [VR b12]) (rest := [VR b9]) (lenOf pd1 rfl) rfl (by show 2 * 0 + _ ≤ _; exact Nat.le_of_eq rfl) (hb hby d1_123) (fun _ _ => ⟨rfl, e23, (by decide : 2 + 1 ≤ _), (by decide : 7 + 3 ≤ _)⟩)
  dsimp only [Pt.U, Pt.locs, Pt.cells, Pt.slots] at X24 l24 y24 z24 st24 hQ24
  subst l24 y24 z24
  obtain ⟨rfl, N24q, K24, oE24, oC24, t24, kb24, -, lo24, nt24, oV24, oA24⟩ := hQ24
  have N24 := Fr.app N23 N24q
  refine own_go (fun _ k => st24.trans k) ?_
  show own_Fin p e below _ T24 (mkF m 126 #[SI p1, SI p2, SI p3, SI p4, SI (p1 &&& (7 : Int32)), SI ((p2 &&& (255 : Int32)).toUInt32.toUInt16.toUInt32.toInt32), SI ((p3 &&& (255 : Int32)).toUInt32.toUInt16.toUInt32.toInt32), SI ((p4 &&& (255 : Int32)).toUInt32.toUInt16.toUInt32.toInt32)] [VR b9])
  have K40 : Keep h0 T24.heap [] := (((((((Keep.refl h0 []).ext E9).ext E12).wr W15 (Or.inr (Nat.le_trans z17 (Nat.le_of_eq g12.symm)))).wr W20 (Or.inr (Nat.le_trans z17 (Nat.le_of_eq g12.symm)))).wr W23 (Or.inr (Nat.le_trans z17 (Nat.le_of_eq g12.symm)))).trans K24 (allS (Or.inr (Nat.le_of_eq g9.symm)) all0))
  obtain ⟨fs, hr, hrun, hended, hW, hsame⟩ := X24.leave (v := some (.ref b9)) (fun h => by rw [hret] at h; cases h)
  refine own_end (retOut X24 hx hret rfl (Or.inr (Or.inr (Or.inr (Or.inr ⟨rfl, rfl, rfl⟩)))) (hb hby d1_126) hr) hrun hended ⟨_, _, rfl, ?_, ⟨_, rfl⟩, hW, hsame.mono (by decide) (by decide)⟩
  show Q1_4 Z p1 p2 p3 p4 p29 h0 n0 _ T24.heap _
  exact ⟨b9, t24, kb24, rfl, N24, K40, (Nat.le_of_eq g9.symm), (Nat.le_trans z39 lo24), (Ne.symm nt24), oE24, oC24, oV24, oA24⟩
theorem ef1_5 (m : MethodId) (p1 : Int32) (p2 : Int32) (p3 : Int32) (p4 : Int32) : entryFrame m #[(.int p1), (.int p2), (.int p3), (.int p4)] 8 = mkF m 0 #[SI p1, SI p2, SI p3, SI p4, SU, SU, SU, SU] [] := by first | (simp [entryFrame, mkF, argsToLocals, Value.category]; done) | rfl
def Q1_5 (Z : State) (p1 : Int32) (p2 : Int32) (p3 : Int32) (p4 : Int32) (h0 : Heap) (n0 : Nat) (v : Option Value) (h : Heap) (L : List Loc) : Prop := v = some .null ∧ Fr n0 L ∧ h = h0
set_option maxRecDepth 65536 in
set_option maxHeartbeats 40000000 in
theorem rm1_5 (l : Launch) (Z : State) (a0 : Array Value) (hw : HW a0 Z) (ws : List Jvm.Cond) (p1 : Int32) (p2 : Int32) (p3 : Int32) (p4 : Int32) (h0 : Heap) (n0 : Nat) (Z0 : n0 ≤ h0.size) (f5 : ¬ ((p1 &&& (7 : Int32)) = (0 : Int32))) (f6 : ¬ ((p1 &&& (7 : Int32)) = (1 : Int32))) (f7 : ¬ ((p1 &&& (7 : Int32)) = (2 : Int32))) (f8 : ¬ ((p1 &&& (7 : Int32)) = (3 : Int32))) (f9 : (p1 &&& (7 : Int32)) = (4 : Int32)) :
    MetFree l yM2 (head1 (Jvm.Cond.code yM2 method_2_code 8 (some (.object "java/lang/String")) :: ws) ({ frames := 0, cells := 0, slots := 0, locals := 0 } : Room)) (fun a U => a = #[(.int p1), (.int p2), (.int p3), (.int p4)] ∧ Z.Warmed39 U.vm ∧ U.heap = h0) (fun _ _ _ _ _ => True) (fun _ U o U' => ∃ v L, o = .returned v ∧ Q1_5 Z p1 p2 p3 p4 h0 n0 v U'.heap L ∧ FrameEnd U o U' L ({ frames := 0, cells := 0, slots := 0, locals := 0 } : Room).cells ({ frames := 0, cells := 0, slots := 0, locals := 0 } : Room).slots) := by
  refine own_enter (n0 := n0) (plainFor_of_name pn0) (fun m => ef1_5 m p1 p2 p3 p4) ?_
  intro p e s m below meth c s₁ hx hby hml hown hnm hret hlk X0 e0 hZ hh N0
  show own_Fin p e below _ s₁ (mkF m 0 #[SI p1, SI p2, SI p3, SI p4, SU, SU, SU, SU] [])
  refine own_go (fun _ k => XS.iloadN X0.here hx rfl (hb hby d1_0) rfl (XS.bipush X0.here hx rfl (hb hby d1_1) (XS.iand X0.here hx rfl (hb hby d1_3) rfl (XS.istore X0.here hx rfl (hb hby d1_4) rfl (l' := #[SI p1, SI p2, SI p3, SI p4, SI (p1 &&& (7 : Int32)), SU, SU, SU]) rfl (XS.iloadN X0.here hx rfl (hb hby d1_6) rfl (XS.sipush X0.here hx rfl (hb hby d1_7) (XS.iand X0.here hx rfl (hb hby d1_10) rfl (XS.i2c X0.here hx rfl (hb hby d1_11) rfl (XS.istore X0.here hx rfl (hb hby d1_12) rfl (l' := #[SI p1, SI p2, SI p3, SI p4, SI (p1 &&& (7 : Int32)), SI ((p2 &&& (255 : Int32)).toUInt32.toUInt16.toUInt32.toInt32), SU, SU]) rfl (XS.iloadN X0.here hx rfl (hb hby d1_14) rfl k)))))))))) ?_
  show own_Fin p e below _ s₁ (mkF m 15 #[SI p1, SI p2, SI p3, SI p4, SI (p1 &&& (7 : Int32)), SI ((p2 &&& (255 : Int32)).toUInt32.toUInt16.toUInt32.toInt32), SU, SU] [VI p3])
  refine own_go (fun _ k => XS.sipush X0.here hx rfl (hb hby d1_15) (XS.iand X0.here hx rfl (hb hby d1_18) rfl (XS.i2c X0.here hx rfl (hb hby d1_19) rfl (XS.istore X0.here hx rfl (hb hby d1_20) rfl (l' := #[SI p1, SI p2, SI p3, SI p4, SI (p1 &&& (7 : Int32)), SI ((p2 &&& (255 : Int32)).toUInt32.toUInt16.toUInt32.toInt32), SI ((p3 &&& (255 : Int32)).toUInt32.toUInt16.toUInt32.toInt32), SU]) rfl (XS.iloadN X0.here hx rfl (hb hby d1_22) rfl (XS.sipush X0.here hx rfl (hb hby d1_23) (XS.iand X0.here hx rfl (hb hby d1_26) rfl (XS.i2c X0.here hx rfl (hb hby d1_27) rfl (XS.istore X0.here hx rfl (hb hby d1_28) rfl (l' := #[SI p1, SI p2, SI p3, SI p4, SI (p1 &&& (7 : Int32)), SI ((p2 &&& (255 : Int32)).toUInt32.toUInt16.toUInt32.toInt32), SI ((p3 &&& (255 : Int32)).toUInt32.toUInt16.toUInt32.toInt32), SI ((p4 &&& (255 : Int32)).toUInt32.toUInt16.toUInt32.toInt32)]) rfl (XS.iload X0.here hx rfl (hb hby d1_30) rfl k)))))))))) ?_
  show own_Fin p e below _ s₁ (mkF m 32 #[SI p1, SI p2, SI p3, SI p4, SI (p1 &&& (7 : Int32)), SI ((p2 &&& (255 : Int32)).toUInt32.toUInt16.toUInt32.toInt32), SI ((p3 &&& (255 : Int32)).toUInt32.toUInt16.toUInt32.toInt32), SI ((p4 &&& (255 : Int32)).toUInt32.toUInt16.toUInt32.toInt32)] [VI (p1 &&& (7 : Int32))])
  refine own_go (fun _ k => XS.ifYes X0.here hx rfl (pc0 := 32) (pc' := 46) rfl (hb hby d1_32) rfl ((if0 _ _).trans (feq f5).2) (by decide) (by decide) (XS.iload X0.here hx rfl (hb hby d1_46) rfl (XS.iconst X0.here hx rfl (hb hby d1_48) (XS.icmpYes X0.here hx rfl (pc0 := 49) (pc' := 68) rfl (hb hby d1_49) rfl (feq f6).2 (by decide) (by decide) (XS.iload X0.here hx rfl (hb hby d1_68) rfl (XS.iconst X0.here hx rfl (hb hby d1_70) (XS.icmpYes X0.here hx rfl (pc0 := 71) (pc' := 95) rfl (hb hby d1_71) rfl (feq f7).2 (by decide) (by decide) (XS.iload X0.here hx rfl (hb hby d1_95) rfl (XS.iconst X0.here hx rfl (hb hby d1_97) (XS.icmpYes X0.here hx rfl (pc0 := 98) (pc' := 127) rfl (hb hby d1_98) rfl (feq f8).2 (by decide) (by decide) k)))))))))) ?_
  show own_Fin p e below _ s₁ (mkF m 127 #[SI p1, SI p2, SI p3, SI p4, SI (p1 &&& (7 : Int32)), SI ((p2 &&& (255 : Int32)).toUInt32.toUInt16.toUInt32.toInt32), SI ((p3 &&& (255 : Int32)).toUInt32.toUInt16.toUInt32.toInt32), SI ((p4 &&& (255 : Int32)).toUInt32.toUInt16.toUInt32.toInt32)] [])
  refine own_go (fun _ k => XS.iload X0.here hx rfl (hb hby d1_127) rfl (XS.iconst X0.here hx rfl (hb hby d1_129) (XS.icmpNo X0.here hx rfl (hb hby d1_130) rfl (teq f9).2 (XS.aconstNull X0.here hx rfl (hb hby d1_133) k)))) ?_
  show own_Fin p e below _ s₁ (mkF m 134 #[SI p1, SI p2, SI p3, SI p4, SI (p1 &&& (7 : Int32)), SI ((p2 &&& (255 : Int32)).toUInt32.toUInt16.toUInt32.toInt32), SI ((p3 &&& (255 : Int32)).toUInt32.toUInt16.toUInt32.toInt32), SI ((p4 &&& (255 : Int32)).toUInt32.toUInt16.toUInt32.toInt32)] [.null])
  obtain ⟨fs, hr, hrun, hended, hW, hsame⟩ := X0.leave (v := some .null) (fun h => by rw [hret] at h; cases h)
  refine own_end (retOut X0 hx hret rfl (Or.inr (Or.inr (Or.inr (Or.inr ⟨rfl, rfl, rfl⟩)))) (hb hby d1_134) hr) hrun hended ⟨_, _, rfl, ?_, ⟨_, rfl⟩, hW, hsame.mono (by decide) (by decide)⟩
  show Q1_5 Z p1 p2 p3 p4 h0 n0 _ s₁.heap _
  rw [e0]
  exact ⟨rfl, N0, rfl⟩
theorem ef6_2 (m : MethodId) (a1 : Addr) (a2 : Addr) (p3 : Int32) : entryFrame m #[(.ref a1), (.ref a2), .null, (.int p3)] 4 = mkF m 0 #[SR a1, SR a2, SN, SI p3] [] := by first | (simp [entryFrame, mkF, argsToLocals, Value.category]; done) | rfl
def Q6_2 (Z : State) (a1 : Addr) (a2 : Addr) (p3 : Int32) (h0 : Heap) (n0 : Nat) (v : Option Value) (h : Heap) (L : List Loc) : Prop := v = none ∧ Fr n0 L ∧ Keep h0 h [a1] ∧ Exa Z h a1 cC2 ∧ Fld Z h a1 cC2 "outcome" cC3 (VR a2) ∧ Fld Z h a1 cC2 "reason" cC4 (.null) ∧ Fld Z h a1 cC2 "retryable" "Z" (VI (nar .boolean p3))
set_option maxRecDepth 65536 in
set_option maxHeartbeats 40000000 in
theorem rm6_2 (l : Launch) (Z : State) (a0 : Array Value) (hw : HW a0 Z) (ws : List Jvm.Cond) (a1 : Addr) (a2 : Addr) (p3 : Int32) (h0 : Heap) (n0 : Nat) (Z0 : n0 ≤ h0.size) (f5 : Exa Z h0 a1 cC2) (f6 : Fld Z h0 a1 cC2 "outcome" cC3 (.null)) (f8 : n0 ≤ a1) (f10 : Fld Z h0 a1 cC2 "reason" cC4 (.null)) (f14 : Fld Z h0 a1 cC2 "retryable" "Z" (VI 0)) :
    MetFree l yM3 (head1 (Jvm.Cond.code yM3 prog_5_method_1_code 4 none :: ws) ({ frames := 1, cells := 0, slots := 0, locals := 12 } : Room)) (fun a U => a = #[(.ref a1), (.ref a2), .null, (.int p3)] ∧ Z.Warmed39 U.vm ∧ U.heap = h0) (fun _ _ _ _ _ => True) (fun _ U o U' => ∃ v L, o = .returned v ∧ Q6_2 Z a1 a2 p3 h0 n0 v U'.heap L ∧ FrameEnd U o U' L ({ frames := 1, cells := 0, slots := 0, locals := 12 } : Room).cells ({ frames := 1, cells := 0, slots := 0, locals := 12 } : Room).slots) := by
  refine own_enter (n0 := n0) (plainFor_of_name pn5) (fun m => ef6_2 m a1 a2 p3) ?_
  intro p e s m below meth c s₁ hx hby hml hown hnm hret hlk X0 e0 hZ hh N0
  show own_Fin p e below _ s₁ (mkF m 0 #[SR a1, SR a2, SN, SI p3] [])
  refine own_go (fun _ k => XS.aloadN X0.here hx rfl (hb hby d6_0) rfl rfl k) ?_
  show own_Fin p e below _ s₁ (mkF m 1 #[SR a1, SR a2, SN, SI p3] [VR a1])
  obtain ⟨T4, X4, e4, st4⟩ := initO X0 hx hZ hown (WW hw 38) (WW hw 16) (WW hw 17) e0 (g := (mkF m 1 #[SR a1, SR a2, SN, SI p3] [VR a1])) rfl (by rw [hml]; rfl) rfl (hb hby d6_1) (by decide) (W := 0) (by show 2 * 0 + _ ≤ _; exact Nat.le_of_eq rfl) (by decide)
  refine own_go st4 ?_
  show own_Fin p e below _ T4 (mkF m 4 #[SR a1, SR a2, SN, SI p3] [])
  refine own_go (fun _ k => XS.aloadN X4.here hx rfl (hb hby d6_4) rfl rfl (XS.aloadN X4.here hx rfl (hb hby d6_5) rfl rfl k)) ?_
  show own_Fin p e below _ T4 (mkF m 6 #[SR a1, SR a2, SN, SI p3] [VR a2, VR a1])
  obtain ⟨T7, h7, X7, e7, W7, st7⟩ := putF X4 hx hZ hown (host := "") (Or.inl (WW hw 39)) Via.refl e4 f6 f5 (Or.inr ⟨(WW hw 40), rfl, hnm⟩) (WW hw 31) (ty := (.object "com/example/wito/wito/delivery/Verdict$Outcome")) (by decide) rfl rfl (g := (mkF m 6 #[SR a1, SR a2, SN, SI p3] [VR a2, VR a1])) rfl rfl (hb hby d6_6)
  have N7 := Fr.snoc X7 N0 f8
  have Fw7 : Fld Z h7 a1 cC2 "outcome" cC3 (VR a2) := f6.same W7
  refine own_go st7 ?_
  show own_Fin p e below _ T7 (mkF m 9 #[SR a1, SR a2, SN, SI p3] [])
  refine own_go (fun _ k => XS.aloadN X7.here hx rfl (hb hby d6_9) rfl rfl (XS.aloadN X7.here hx rfl (hb hby d6_10) rfl rfl k)) ?_
  show own_Fin p e below _ T7 (mkF m 11 #[SR a1, SR a2, SN, SI p3] [.null, VR a1])
  have F9 : Exa Z h7 a1 cC2 := (f5.wr W7)
  have F11 : Fld Z h7 a1 cC2 "reason" cC4 (.null) := (f10.other W7 (Or.inr (slot_ne (Or.inr (WW hw 42)) (Or.inr (WW hw 40)) (by decide) (t := (.object "java/lang/String")) (t' := (.object "com/example/wito/wito/delivery/Verdict$Outcome")) (by decide) (by decide))))
  obtain ⟨T12, h12, X12, e12, W12, st12⟩ := putF X7 hx hZ hown (host := "") (Or.inl (WW hw 41)) Via.refl e7 F11 F9 (Or.inr ⟨(WW hw 42), rfl, hnm⟩) (WW hw 31) (ty := (.object "java/lang/String")) (by decide) rfl rfl (g := (mkF m 11 #[SR a1, SR a2, SN, SI p3] [.null, VR a1])) rfl rfl (hb hby d6_11)
  have N12 := Fr.snoc X12 N7 f8
  have Fw12 : Fld Z h12 a1 cC2 "reason" cC4 (.null) := F11.same W12
  refine own_go st12 ?_
  show own_Fin p e below _ T12 (mkF m 14 #[SR a1, SR a2, SN, SI p3] [])
  refine own_go (fun _ k => XS.aloadN X12.here hx rfl (hb hby d6_14) rfl rfl (XS.iloadN X12.here hx rfl (hb hby d6_15) rfl k)) ?_
  show own_Fin p e below _ T12 (mkF m 16 #[SR a1, SR a2, SN, SI p3] [VI p3, VR a1])
  have F13 : Exa Z h12 a1 cC2 := (F9.wr W12)
  have F15 : Fld Z h12 a1 cC2 "retryable" "Z" (VI 0) := ((f14.other W7 (Or.inr (slot_ne (Or.inr (WW hw 44)) (Or.inr (WW hw 40)) (by decide) (t := .boolean) (t' := (.object "com/example/wito/wito/delivery/Verdict$Outcome")) (by decide) (by decide)))).other W12 (Or.inr (slot_ne (Or.inr (WW hw 44)) (Or.inr (WW hw 42)) (by decide) (t := .boolean) (t' := (.object "java/lang/String")) (by decide) (by decide))))
  obtain ⟨T16, h16, X16, e16, W16, st16⟩ := putFN X12 hx hZ hown (WW hw 43) Via.refl e12 F15 F13 (Or.inr ⟨(WW hw 44), rfl, hnm⟩) (WW hw 31) (ty := .boolean) (v' := (.int (nar .boolean p3))) (by decide) rfl (fits_nar_bool _) (g := (mkF m 16 #[SR a1, SR a2, SN, SI p3] [VI p3, VR a1])) rfl rfl (hb hby d6_16)
  have N16 := Fr.snoc X16 N12 f8
  have Fw16 : Fld Z h16 a1 cC2 "retryable" "Z" (VI (nar .boolean p3)) := F15.same W16
  refine own_go st16 ?_
  show own_Fin p e below _ T16 (mkF m 19 #[SR a1, SR a2, SN, SI p3] [])
  have F17 : Exa Z h16 a1 cC2 := (F13.wr W16)
  have F18 : Fld Z h16 a1 cC2 "outcome" cC3 (VR a2) := ((Fw7.other W12 (Or.inr (slot_ne (Or.inr (WW hw 40)) (Or.inr (WW hw 42)) (by decide) (t := (.object "com/example/wito/wito/delivery/Verdict$Outcome")) (t' := (.object "java/lang/String")) (by decide) (by decide)))).other W16 (Or.inr (slot_ne (Or.inr (WW hw 40)) (Or.inr (WW hw 44)) (by decide) (t := (.object "com/example/wito/wito/delivery/Verdict$Outcome")) (t' := .boolean) (by decide) (by decide))))
  have F19 : Fld Z h16 a1 cC2 "reason" cC4 (.null) := (Fw12.other W16 (Or.inr (slot_ne (Or.inr (WW hw 42)) (Or.inr (WW hw 44)) (by decide) (t := (.object "java/lang/String")) (t' := .boolean) (by decide) (by decide))))
  have K20 : Keep h0 h16 [a1] := ((((Keep.refl h0 [a1]).wr W7 (Or.inl (List.mem_of_getElem? (i := 0) rfl))).wr W12 (Or.inl (List.mem_of_getElem? (i := 0) rfl))).wr W16 (Or.inl (List.mem_of_getElem? (i := 0) rfl)))
  obtain ⟨fs, hr, hrun, hended, hW, hsame⟩ := X16.leave (v := none) (fun _ => rfl)
  refine own_end (X16.returnOut hx hret (hb hby d6_19) hr) hrun hended ⟨_, _, rfl, ?_, ⟨_, rfl⟩, hW, hsame.mono (by decide) (by decide)⟩
  show Q6_2 Z a1 a2 p3 h0 n0 _ T16.heap _
  rw [e16]
  exact ⟨rfl, N16, K20, F17, F18, F19, Fw16⟩
theorem ef5_2 (m : MethodId)  : entryFrame m #[.null] 1 = mkF m 0 #[SN] [] := by first | (simp [entryFrame, mkF, argsToLocals, Value.category]; done) | rfl
def Q5_2 (Z : State) (a5 : Addr) (h0 : Heap) (n0 : Nat) (v : Option Value) (h : Heap) (L : List Loc) : Prop := ∃ (b1 : Addr), v = some (.ref b1) ∧ Fr n0 L ∧ Keep h0 h [] ∧ h0.size ≤ b1 ∧ Exa Z h b1 cC2 ∧ Fld Z h b1 cC2 "outcome" cC3 (VR a5) ∧ Fld Z h b1 cC2 "reason" cC4 (.null) ∧ Fld Z h b1 cC2 "retryable" "Z" (VI 0)
set_option maxRecDepth 65536 in
set_option maxHeartbeats 40000000 in
theorem rm5_2 (l : Launch) (Z : State) (a0 : Array Value) (hw : HW a0 Z) (ws : List Jvm.Cond) (a5 : Addr) (h0 : Heap) (n0 : Nat) (Z0 : n0 ≤ h0.size) (f6 : Sta Z Z.heap "com/example/wito/wito/delivery/Verdict$Outcome" "FAILED" "Lcom/example/wito/wito/delivery/Verdict$Outcome;" (.ref a5)) (f7 : Old Z n0 h0) :
    MetFree l yM4 (head1 (Jvm.Cond.code yM4 prog_5_method_5_code 1 (some (.object "com/example/wito/wito/delivery/Verdict")) :: ws) ({ frames := 2, cells := 1, slots := 3, locals := 28 } : Room)) (fun a U => a = #[.null] ∧ Z.Warmed39 U.vm ∧ U.heap = h0) (fun _ _ _ _ _ => True) (fun _ U o U' => ∃ v L, o = .returned v ∧ Q5_2 Z a5 h0 n0 v U'.heap L ∧ FrameEnd U o U' L ({ frames := 2, cells := 1, slots := 3, locals := 28 } : Room).cells ({ frames := 2, cells := 1, slots := 3, locals := 28 } : Room).slots) := by
  refine own_enter (n0 := n0) (plainFor_of_name pn5) (fun m => ef5_2 m ) ?_
  intro p e s m below meth c s₁ hx hby hml hown hnm hret hlk X0 e0 hZ hh N0
  show own_Fin p e below _ s₁ (mkF m 0 #[SN] [])
  obtain ⟨T1, h1, X1, e1, E1, A1, D1, -, st1⟩ := newO X0 hx hZ hown (WW hw 30) (WW hw 31) (WW hw 28) e0 (g := (mkF m 0 #[SN] [])) rfl (hb hby d5_0) (by decide) (by decide)
  obtain ⟨b1, g1⟩ : ∃ z, z = h0.size := ⟨_, rfl⟩
  rw [← g1] at A1 D1 st1
  have F2 : Fld Z h1 b1 cC2 "outcome" cC3 (.null) := D1 (Or.inr (WW hw 40)) (ty := (.object "com/example/wito/wito/delivery/Verdict$Outcome")) (by decide)
  have F3 : Fld Z h1 b1 cC2 "reason" cC4 (.null) := D1 (Or.inr (WW hw 42)) (ty := (.object "java/lang/String")) (by decide)
  have F4 : Fld Z h1 b1 cC2 "retryable" "Z" (VI 0) := D1 (Or.inr (WW hw 44)) (ty := .boolean) (by decide)
  refine own_go st1 ?_
  show own_Fin p e below _ T1 (mkF m 3 #[SN] [VR b1])
  refine own_go (fun _ k => XS.dup X1.here hx rfl (hb hby d5_3) rfl rfl k) ?_
  show own_Fin p e below _ T1 (mkF m 4 #[SN] [VR b1, VR b1])
  have O8 : Old Z n0 h1 := (f7.ext E1)
  obtain ⟨T9, X9, e9, st9⟩ := getS2 X1 hx hZ hown (host := "") (Or.inl (WW hw 32)) Via.refl e1 (f6.ext O8.2) (g := (mkF m 4 #[SN] [VR b1, VR b1])) rfl (hb hby d5_4)
  refine own_go st9 ?_
  show own_Fin p e below _ T9 (mkF m 7 #[SN] [VR a5, VR b1, VR b1])
  refine own_go (fun _ k => XS.aloadN X9.here hx rfl (hb hby d5_7) rfl rfl (XS.iconst X9.here hx rfl (hb hby d5_8) k)) ?_
  show own_Fin p e below _ T9 (mkF m 9 #[SN] [VI 0, .null, VR a5, VR b1, VR b1])
  have u10 : n0 ≤ b1 := Nat.le_trans Z0 (Nat.le_of_eq g1.symm)
  have z12 : h0.size ≤ h1.size := E1.1
  obtain ⟨_, T11, L11, X11, hQ11, st11⟩ := own_cI X9 hx hZ hown (WW hw 35) (WW hw 36) (WW hw 28) (WW hw 37) (rm6_2 l Z a0 hw [] b1 a5 (0 : Int32) h1 n0 (Nat.le_trans Z0 z12) A1 F2 u10 F3 F4) e9 hml (g := (mkF m 9 #[SN] [VI 0, .null, VR a5, VR b1, VR b1])) pd3 (hb hby d5_9) b1 [VR a5, .null, VI 0] [VR b1] (W := 1)
  obtain ⟨rfl, N11q, K11, o0_11, o1_11, o2_11, o3_11⟩ := hQ11
  have N11 := Fr.app N0 N11q
  refine own_go st11 ?_
  show own_Fin p e below _ T11 (mkF m 12 #[SN] [VR b1])
  have K13 : Keep h0 T11.heap [] := (((Keep.refl h0 []).ext E1).trans K11 (allS (Or.inr (Nat.le_of_eq g1.symm)) all0))
  obtain ⟨fs, hr, hrun, hended, hW, hsame⟩ := X11.leave (v := some (.ref b1)) (fun h => by rw [hret] at h; cases h)
  refine own_end (retOut X11 hx hret rfl (Or.inr (Or.inr (Or.inr (Or.inr ⟨rfl, rfl, rfl⟩)))) (hb hby d5_12) hr) hrun hended ⟨_, _, rfl, ?_, ⟨_, rfl⟩, hW, hsame.mono (by decide) (by decide)⟩
  show Q5_2 Z a5 h0 n0 _ T11.heap _
  exact ⟨b1, rfl, N11, K13, (Nat.le_of_eq g1.symm), o0_11, o1_11, o2_11, o3_11⟩
theorem ef9_2 (m : MethodId) (a1 : Addr) : entryFrame m #[(.ref a1)] 1 = mkF m 0 #[SR a1] [] := by first | (simp [entryFrame, mkF, argsToLocals, Value.category]; done) | rfl
def Q9_2 (Z : State) (a1 : Addr) (h0 : Heap) (n0 : Nat) (v : Option Value) (h : Heap) (L : List Loc) : Prop := v = some .null ∧ Fr n0 L ∧ h = h0
set_option maxRecDepth 65536 in
set_option maxHeartbeats 40000000 in
theorem rm9_2 (l : Launch) (Z : State) (a0 : Array Value) (hw : HW a0 Z) (ws : List Jvm.Cond) (a1 : Addr) (h0 : Heap) (n0 : Nat) (Z0 : n0 ≤ h0.size) (f2 : Fld Z h0 a1 cC2 "reason" cC4 (.null)) :
    MetFree l yM7 (head1 (Jvm.Cond.code yM7 prog_5_method_9_code 1 (some (.object "java/lang/String")) :: ws) ({ frames := 0, cells := 0, slots := 0, locals := 0 } : Room)) (fun a U => a = #[(.ref a1)] ∧ Z.Warmed39 U.vm ∧ U.heap = h0) (fun _ _ _ _ _ => True) (fun _ U o U' => ∃ v L, o = .returned v ∧ Q9_2 Z a1 h0 n0 v U'.heap L ∧ FrameEnd U o U' L ({ frames := 0, cells := 0, slots := 0, locals := 0 } : Room).cells ({ frames := 0, cells := 0, slots := 0, locals := 0 } : Room).slots) := by
  refine own_enter (n0 := n0) (plainFor_of_name pn5) (fun m => ef9_2 m a1) ?_
  intro p e s m below meth c s₁ hx hby hml hown hnm hret hlk X0 e0 hZ hh N0
  show own_Fin p e below _ s₁ (mkF m 0 #[SR a1] [])
  refine own_go (fun _ k => XS.aloadN X0.here hx rfl (hb hby d9_0) rfl rfl k) ?_
  show own_Fin p e below _ s₁ (mkF m 1 #[SR a1] [VR a1])
  obtain ⟨T3, X3, e3, st3⟩ := getF X0 hx hZ hown (host := "") (Or.inl (WW hw 41)) Via.refl e0 f2 (g := (mkF m 1 #[SR a1] [VR a1])) rfl rfl (hb hby d9_1)
  refine own_go st3 ?_
  show own_Fin p e below _ T3 (mkF m 4 #[SR a1] [.null])
  obtain ⟨fs, hr, hrun, hended, hW, hsame⟩ := X3.leave (v := some .null) (fun h => by rw [hret] at h; cases h)
  refine own_end (retOut X3 hx hret rfl (Or.inr (Or.inr (Or.inr (Or.inr ⟨rfl, rfl, rfl⟩)))) (hb hby d9_4) hr) hrun hended ⟨_, _, rfl, ?_, ⟨_, rfl⟩, hW, hsame.mono (by decide) (by decide)⟩
  show Q9_2 Z a1 h0 n0 _ T3.heap _
  rw [e3]
  exact ⟨rfl, N0, rfl⟩
theorem ef15_1 (m : MethodId) (p1 : Int32) : entryFrame m #[(.int p1)] 1 = mkF m 0 #[SI p1] [] := by first | (simp [entryFrame, mkF, argsToLocals, Value.category]; done) | rfl
def Q15_1 (Z : State) (p1 : Int32) (h0 : Heap) (n0 : Nat) (v : Option Value) (h : Heap) (L : List Loc) : Prop := v = some (.int (1 : Int32)) ∧ Fr n0 L ∧ h = h0
set_option maxRecDepth 65536 in
set_option maxHeartbeats 40000000 in
theorem rm15_1 (l : Launch) (Z : State) (a0 : Array Value) (hw : HW a0 Z) (ws : List Jvm.Cond) (p1 : Int32) (h0 : Heap) (n0 : Nat) (Z0 : n0 ≤ h0.size) (f2 : ¬ ((255 : Int32) < p1)) :
    MetFree l yM9 (head1 (Jvm.Cond.code yM9 jdk_43_method_3_code 1 (some .boolean) :: ws) ({ frames := 0, cells := 0, slots := 0, locals := 0 } : Room)) (fun a U => a = #[(.int p1)] ∧ Z.Warmed39 U.vm ∧ U.heap = h0) (fun _ _ _ _ _ => True) (fun _ U o U' => ∃ v L, o = .returned v ∧ Q15_1 Z p1 h0 n0 v U'.heap L ∧ FrameEnd U o U' L ({ frames := 0, cells := 0, slots := 0, locals := 0 } : Room).cells ({ frames := 0, cells := 0, slots := 0, locals := 0 } : Room).slots) := by
  refine own_enter (n0 := n0) (plainFor_of_name pn15) (fun m => ef15_1 m p1) ?_
  intro p e s m below meth c s₁ hx hby hml hown hnm hret hlk X0 e0 hZ hh N0
  show own_Fin p e below _ s₁ (mkF m 0 #[SI p1] [])
  refine own_go (fun _ k => XS.iloadN X0.here hx rfl (hb hby d15_0) rfl (XS.sipush X0.here hx rfl (hb hby d15_1) (XS.icmpNo X0.here hx rfl (hb hby d15_4) rfl (flt f2).2.2.1 (XS.iconst X0.here hx rfl (hb hby d15_7) (XS.goto X0.here hx rfl (pc0 := 8) (pc' := 12) rfl (hb hby d15_8) (by decide) (by decide) k))))) ?_
  show own_Fin p e below _ s₁ (mkF m 12 #[SI p1] [VI 1])
  obtain ⟨fs, hr, hrun, hended, hW, hsame⟩ := X0.leave (v := some (.int (1 : Int32))) (fun h => by rw [hret] at h; cases h)
  refine own_end (retN X0 hx (t := .boolean) hret (by simp) (hb hby d15_12) hr) hrun hended ⟨_, _, rfl, ?_, ⟨_, rfl⟩, hW, hsame.mono (by decide) (by decide)⟩
  show Q15_1 Z p1 h0 n0 _ s₁.heap _
  rw [e0]
  exact ⟨rfl, N0, rfl⟩
theorem ef16_1 (m : MethodId) (p1 : Int32) : entryFrame m #[(.int p1)] 1 = mkF m 0 #[SI p1] [] := by first | (simp [entryFrame, mkF, argsToLocals, Value.category]; done) | rfl
def Q16_1 (Z : State) (p1 : Int32) (h0 : Heap) (n0 : Nat) (v : Option Value) (h : Heap) (L : List Loc) : Prop := ∃ (b2 : Addr) (k2 : ClassId), v = some (.ref b2) ∧ Fr n0 L ∧ Keep h0 h [] ∧ h0.size ≤ b2 ∧ Arv Z h b2 k2 .byte 1 [VI (nar .byte (p1.toInt8.toInt32))] (VI 0)
set_option maxRecDepth 65536 in
set_option maxHeartbeats 40000000 in
theorem rm16_1 (l : Launch) (Z : State) (a0 : Array Value) (hw : HW a0 Z) (ws : List Jvm.Cond) (p1 : Int32) (h0 : Heap) (n0 : Nat) (Z0 : n0 ≤ h0.size) :
    MetFree l yM10 (head1 (Jvm.Cond.code yM10 jdk_43_method_46_code 1 (some (.array .byte)) :: ws) ({ frames := 0, cells := 1, slots := 1, locals := 0 } : Room)) (fun a U => a = #[(.int p1)] ∧ Z.Warmed39 U.vm ∧ U.heap = h0) (fun _ _ _ _ _ => True) (fun _ U o U' => ∃ v L, o = .returned v ∧ Q16_1 Z p1 h0 n0 v U'.heap L ∧ FrameEnd U o U' L ({ frames := 0, cells := 1, slots := 1, locals := 0 } : Room).cells ({ frames := 0, cells := 1, slots := 1, locals := 0 } : Room).slots) := by
  refine own_enter (n0 := n0) (plainFor_of_name pn15) (fun m => ef16_1 m p1) ?_
  intro p e s m below meth c s₁ hx hby hml hown hnm hret hlk X0 e0 hZ hh N0
  show own_Fin p e below _ s₁ (mkF m 0 #[SI p1] [])
  refine own_go (fun _ k => XS.iconst X0.here hx rfl (hb hby d16_0) k) ?_
  show own_Fin p e below _ s₁ (mkF m 1 #[SI p1] [VI 1])
  obtain ⟨T2, h2, k2, X2, e2, E2, A2, st2⟩ := newP X0 hx hZ (WW hw 19) e0 (g := (mkF m 1 #[SI p1] [VI 1])) rfl (hb hby d16_1) rfl (by decide) (cap := 1) (by decide) (by decide) (by decide) (by decide)
  obtain ⟨b2, g2⟩ : ∃ z, z = h0.size := ⟨_, rfl⟩
  rw [← g2] at A2 st2
  have V2 : Arv Z h2 b2 k2 .byte 1 [VI 0] (VI 0) := (Arv.new A2 (by decide)).pad (pad_rep [] (.int (0 : Int32)) 1)
  refine own_go st2 ?_
  show own_Fin p e below _ T2 (mkF m 3 #[SI p1] [VR b2])
  refine own_go (fun _ k => XS.dup X2.here hx rfl (hb hby d16_3) rfl rfl (XS.iconst X2.here hx rfl (hb hby d16_4) (XS.iloadN X2.here hx rfl (hb hby d16_5) rfl (XS.i2b X2.here hx rfl (hb hby d16_6) rfl k)))) ?_
  show own_Fin p e below _ T2 (mkF m 7 #[SI p1] [VI (p1.toInt8.toInt32), VI 0, VR b2, VR b2])
  obtain ⟨cl3, Ar3, q3, Sz3, Nn3, Hs3, Gg3⟩ := id V2
  have i4 : ¬ ((0 : Int32) < 0 ∨ cl3.slots.size ≤ ((0 : Int32)).toNatClampNeg) := inb_of Sz3 ⟨(by decide : ¬ ((0 : Int32) < (0 : Int32))), (by decide : (0 : Int32) < (1 : Int32))⟩
  obtain ⟨T5, h5, X5, e5, W5, st5⟩ := stB X2 hx hZ e2 Ar3 (j := (0 : Int32)) i4 (g := (mkF m 7 #[SI p1] [VI (p1.toInt8.toInt32), VI 0, VR b2, VR b2])) rfl rfl (hb hby d16_7)
  have u6 : n0 ≤ b2 := Nat.le_trans Z0 (Nat.le_of_eq g2.symm)
  have N5 := Fr.snoc X5 N0 u6
  have V5 : Arv Z h5 b2 k2 .byte 1 [VI (nar .byte (p1.toInt8.toInt32))] (VI 0) := Arv.set Ar3 q3 Sz3 Nn3 Hs3 Gg3 (fits_nar_byte _) W5 0 rfl (Nat.le_of_ble_eq_true rfl)
  refine own_go st5 ?_
  show own_Fin p e below _ T5 (mkF m 8 #[SI p1] [VR b2])
  have K7 : Keep h0 h5 [] := (((Keep.refl h0 []).ext E2).wr W5 (Or.inr (Nat.le_of_eq g2.symm)))
  obtain ⟨fs, hr, hrun, hended, hW, hsame⟩ := X5.leave (v := some (.ref b2)) (fun h => by rw [hret] at h; cases h)
  refine own_end (retOut X5 hx hret rfl (Or.inr (Or.inr (Or.inr (Or.inr ⟨rfl, rfl, rfl⟩)))) (hb hby d16_8) hr) hrun hended ⟨_, _, rfl, ?_, ⟨_, rfl⟩, hW, hsame.mono (by decide) (by decide)⟩
  show Q16_1 Z p1 h0 n0 _ T5.heap _
  rw [e5]
  exact ⟨b2, k2, rfl, N5, K7, (Nat.le_of_eq g2.symm), V5⟩
theorem ef17_1 (m : MethodId) (a1 : Addr) (a2 : Addr) (p3 : Int32) : entryFrame m #[(.ref a1), (.ref a2), (.int p3)] 3 = mkF m 0 #[SR a1, SR a2, SI p3] [] := by first | (simp [entryFrame, mkF, argsToLocals, Value.category]; done) | rfl
def Q17_1 (Z : State) (a1 : Addr) (a2 : Addr) (p3 : Int32) (h0 : Heap) (n0 : Nat) (v : Option Value) (h : Heap) (L : List Loc) : Prop := v = none ∧ Fr n0 L ∧ Keep h0 h [a1] ∧ Exa Z h a1 cC0 ∧ Fld Z h a1 cC0 "value" "[B" (VR a2) ∧ Fld Z h a1 cC0 "coder" "B" (VI (nar .byte p3))
set_option maxRecDepth 65536 in
set_option maxHeartbeats 40000000 in
theorem rm17_1 (l : Launch) (Z : State) (a0 : Array Value) (hw : HW a0 Z) (ws : List Jvm.Cond) (a1 : Addr) (a2 : Addr) (p3 : Int32) (h0 : Heap) (n0 : Nat) (Z0 : n0 ≤ h0.size) (f5 : Exa Z h0 a1 cC0) (f6 : Fld Z h0 a1 cC0 "value" "[B" (.null)) (f8 : n0 ≤ a1) (f10 : Fld Z h0 a1 cC0 "coder" "B" (VI 0)) :
    MetFree l yM11 (head1 (Jvm.Cond.code yM11 jdk_42_method_151_code 3 none :: ws) ({ frames := 1, cells := 0, slots := 0, locals := 12 } : Room)) (fun a U => a = #[(.ref a1), (.ref a2), (.int p3)] ∧ Z.Warmed39 U.vm ∧ U.heap = h0) (fun _ _ _ _ _ => True) (fun _ U o U' => ∃ v L, o = .returned v ∧ Q17_1 Z a1 a2 p3 h0 n0 v U'.heap L ∧ FrameEnd U o U' L ({ frames := 1, cells := 0, slots := 0, locals := 12 } : Room).cells ({ frames := 1, cells := 0, slots := 0, locals := 12 } : Room).slots) := by
  refine own_enter (n0 := n0) (plainFor_of_name pn2) (fun m => ef17_1 m a1 a2 p3) ?_
  intro p e s m below meth c s₁ hx hby hml hown hnm hret hlk X0 e0 hZ hh N0
  show own_Fin p e below _ s₁ (mkF m 0 #[SR a1, SR a2, SI p3] [])
  refine own_go (fun _ k => XS.aloadN X0.here hx rfl (hb hby d17_0) rfl rfl k) ?_
  show own_Fin p e below _ s₁ (mkF m 1 #[SR a1, SR a2, SI p3] [VR a1])
  obtain ⟨T4, X4, e4, st4⟩ := initO X0 hx hZ hown (WW hw 15) (WW hw 16) (WW hw 17) e0 (g := (mkF m 1 #[SR a1, SR a2, SI p3] [VR a1])) rfl (by rw [hml]; rfl) rfl (hb hby d17_1) (by decide) (W := 0) (by show 2 * 0 + _ ≤ _; exact Nat.le_of_eq rfl) (by decide)
  refine own_go st4 ?_
  show own_Fin p e below _ T4 (mkF m 4 #[SR a1, SR a2, SI p3] [])
  refine own_go (fun _ k => XS.aloadN X4.here hx rfl (hb hby d17_4) rfl rfl (XS.aloadN X4.here hx rfl (hb hby d17_5) rfl rfl k)) ?_
  show own_Fin p e below _ T4 (mkF m 6 #[SR a1, SR a2, SI p3] [VR a2, VR a1])
  obtain ⟨T7, h7, X7, e7, W7, st7⟩ := putF X4 hx hZ hown (host := "") (Or.inl (WW hw 24)) Via.refl e4 f6 f5 (Or.inr ⟨(WW hw 20), rfl, hnm⟩) (WW hw 5) (ty := (.array .byte)) (by decide) rfl rfl (g := (mkF m 6 #[SR a1, SR a2, SI p3] [VR a2, VR a1])) rfl rfl (hb hby d17_6)
  have N7 := Fr.snoc X7 N0 f8
  have Fw7 : Fld Z h7 a1 cC0 "value" "[B" (VR a2) := f6.same W7
  refine own_go st7 ?_
  show own_Fin p e below _ T7 (mkF m 9 #[SR a1, SR a2, SI p3] [])
  refine own_go (fun _ k => XS.aloadN X7.here hx rfl (hb hby d17_9) rfl rfl (XS.iloadN X7.here hx rfl (hb hby d17_10) rfl k)) ?_
  show own_Fin p e below _ T7 (mkF m 11 #[SR a1, SR a2, SI p3] [VI p3, VR a1])
  have F9 : Exa Z h7 a1 cC0 := (f5.wr W7)
  have F11 : Fld Z h7 a1 cC0 "coder" "B" (VI 0) := (f10.other W7 (Or.inr (slot_ne (Or.inr (WW hw 21)) (Or.inr (WW hw 20)) (by decide) (t := .byte) (t' := (.array .byte)) (by decide) (by decide))))
  obtain ⟨T12, h12, X12, e12, W12, st12⟩ := putFN X7 hx hZ hown (WW hw 25) Via.refl e7 F11 F9 (Or.inr ⟨(WW hw 21), rfl, hnm⟩) (WW hw 5) (ty := .byte) (v' := (.int (nar .byte p3))) (by decide) rfl (fits_nar_byte _) (g := (mkF m 11 #[SR a1, SR a2, SI p3] [VI p3, VR a1])) rfl rfl (hb hby d17_11)
  have N12 := Fr.snoc X12 N7 f8
  have Fw12 : Fld Z h12 a1 cC0 "coder" "B" (VI (nar .byte p3)) := F11.same W12
  refine own_go st12 ?_
  show own_Fin p e below _ T12 (mkF m 14 #[SR a1, SR a2, SI p3] [])
  have F13 : Exa Z h12 a1 cC0 := (F9.wr W12)
  have F14 : Fld Z h12 a1 cC0 "value" "[B" (VR a2) := (Fw7.other W12 (Or.inr (slot_ne (Or.inr (WW hw 20)) (Or.inr (WW hw 21)) (by decide) (t := (.array .byte)) (t' := .byte) (by decide) (by decide))))
  have K15 : Keep h0 h12 [a1] := (((Keep.refl h0 [a1]).wr W7 (Or.inl (List.mem_of_getElem? (i := 0) rfl))).wr W12 (Or.inl (List.mem_of_getElem? (i := 0) rfl)))
  obtain ⟨fs, hr, hrun, hended, hW, hsame⟩ := X12.leave (v := none) (fun _ => rfl)
  refine own_end (X12.returnOut hx hret (hb hby d17_14) hr) hrun hended ⟨_, _, rfl, ?_, ⟨_, rfl⟩, hW, hsame.mono (by decide) (by decide)⟩
  show Q17_1 Z a1 a2 p3 h0 n0 _ T12.heap _
  rw [e12]
  exact ⟨rfl, N12, K15, F13, F14, Fw12⟩
theorem ef14_1 (m : MethodId) (p1 : Int32) : entryFrame m #[(.int p1)] 1 = mkF m 0 #[SI p1] [] := by first | (simp [entryFrame, mkF, argsToLocals, Value.category]; done) | rfl
def Q14_1 (Z : State) (p1 : Int32) (p2 : Int32) (h0 : Heap) (n0 : Nat) (v : Option Value) (h : Heap) (L : List Loc) : Prop := ∃ (b9 : Addr) (b2_12 : Addr) (k2_12 : ClassId), v = some (.ref b9) ∧ Fr n0 L ∧ Keep h0 h [] ∧ h0.size ≤ b9 ∧ h0.size ≤ b2_12 ∧ b9 ≠ b2_12 ∧ Exa Z h b9 cC0 ∧ Fld Z h b9 cC0 "value" "[B" (VR b2_12) ∧ Fld Z h b9 cC0 "coder" "B" (VI 0) ∧ Arv Z h b2_12 k2_12 .byte 1 [VI (nar .byte (p1.toInt8.toInt32))] (VI 0)
set_option maxRecDepth 65536 in
set_option maxHeartbeats 40000000 in
theorem rm14_1 (l : Launch) (Z : State) (a0 : Array Value) (hw : HW a0 Z) (ws : List Jvm.Cond) (p1 : Int32) (p2 : Int32) (h0 : Heap) (n0 : Nat) (Z0 : n0 ≤ h0.size) (f3 : Sta Z Z.heap "java/lang/String" "COMPACT_STRINGS" "Z" (.int p2)) (f4 : Old Z n0 h0) (f6 : ¬ (p2 = (0 : Int32))) (f7 : ¬ ((255 : Int32) < p1)) :
    MetFree l yM12 (head1 (Jvm.Cond.code yM12 jdk_42_method_139_code 1 (some (.object "java/lang/String")) :: ws) ({ frames := 2, cells := 2, slots := 5, locals := 27 } : Room)) (fun a U => a = #[(.int p1)] ∧ Z.Warmed39 U.vm ∧ U.heap = h0) (fun _ _ _ _ _ => True) (fun _ U o U' => ∃ v L, o = .returned v ∧ Q14_1 Z p1 p2 h0 n0 v U'.heap L ∧ FrameEnd U o U' L ({ frames := 2, cells := 2, slots := 5, locals := 27 } : Room).cells ({ frames := 2, cells := 2, slots := 5, locals := 27 } : Room).slots) := by
  refine own_enter (n0 := n0) (plainFor_of_name pn2) (fun m => ef14_1 m p1) ?_
  intro p e s m below meth c s₁ hx hby hml hown hnm hret hlk X0 e0 hZ hh N0
  show own_Fin p e below _ s₁ (mkF m 0 #[SI p1] [])
  obtain ⟨T5, X5, e5, st5⟩ := getS2 X0 hx hZ hown (host := "") (Or.inl (WW hw 66)) Via.refl e0 (f3.ext f4.2) (g := (mkF m 0 #[SI p1] [])) rfl (hb hby d14_0)
  refine own_go st5 ?_
  show own_Fin p e below _ T5 (mkF m 3 #[SI p1] [VI p2])
  refine own_go (fun _ k => XS.ifNo X5.here hx rfl (hb hby d14_3) rfl ((if0 _ _).trans (feq f6).1) (XS.iloadN X5.here hx rfl (hb hby d14_6) rfl k)) ?_
  show own_Fin p e below _ T5 (mkF m 7 #[SI p1] [VI p1])
  obtain ⟨_, T8, L8, X8, hQ8, st8⟩ := own_cS X5 hx hZ hown (WW hw 80) (WW hw 81) (WW hw 82) (WW hw 83) (rm15_1 l Z a0 hw [] p1 h0 n0 Z0 f7) e5 hml (g := (mkF m 7 #[SI p1] [VI p1])) pd9 (hb hby d14_7) [VI p1] [] (W := 0)
  obtain ⟨rfl, N8q, e8⟩ := hQ8
  have N8 := Fr.app N0 N8q
  refine own_go st8 ?_
  show own_Fin p e below _ T8 (mkF m 10 #[SI p1] [VI 1])
  refine own_go (fun _ k => XS.ifNo X8.here hx rfl (hb hby d14_10) rfl ((if0 _ _).trans (feq (by decide : ¬ ((1 : Int32) = (0 : Int32)))).1) k) ?_
  show own_Fin p e below _ T8 (mkF m 13 #[SI p1] [])
  obtain ⟨T9, h9, X9, e9, E9, A9, D9, -, st9⟩ := newO X8 hx hZ hown (WW hw 84) (WW hw 5) (WW hw 6) e8 (g := (mkF m 13 #[SI p1] [])) rfl (hb hby d14_13) (by decide) (by decide)
  obtain ⟨b9, g9⟩ : ∃ z, z = h0.size := ⟨_, rfl⟩
  rw [← g9] at A9 D9 st9
  have F10 : Fld Z h9 b9 cC0 "value" "[B" (.null) := D9 (Or.inr (WW hw 20)) (ty := (.array .byte)) (by decide)
  have F11 : Fld Z h9 b9 cC0 "coder" "B" (VI 0) := D9 (Or.inr (WW hw 21)) (ty := .byte) (by decide)
  refine own_go st9 ?_
  show own_Fin p e below _ T9 (mkF m 16 #[SI p1] [VR b9])
  refine own_go (fun _ k => XS.dup X9.here hx rfl (hb hby d14_16) rfl rfl (XS.iloadN X9.here hx rfl (hb hby d14_17) rfl k)) ?_
  show own_Fin p e below _ T9 (mkF m 18 #[SI p1] [VI p1, VR b9, VR b9])
  have z13 : h0.size ≤ h9.size := E9.1
  obtain ⟨_, T12, L12, X12, hQ12, st12⟩ := own_cS X9 hx hZ hown (WW hw 85) (WW hw 86) (WW hw 82) (WW hw 87) (rm16_1 l Z a0 hw [] p1 h9 n0 (Nat.le_trans Z0 z13) ) e9 hml (g := (mkF m 18 #[SI p1] [VI p1, VR b9, VR b9])) pd10 (hb hby d14_18) [VI p1] [VR b9, VR b9] (W := 2)
  obtain ⟨b2_12, k2_12, rfl, N12q, K12, lob2_12, o0_12⟩ := hQ12
  have N12 := Fr.app N8 N12q
  refine own_go st12 ?_
  show own_Fin p e below _ T12 (mkF m 21 #[SI p1] [VR b2_12, VR b9, VR b9])
  refine own_go (fun _ k => XS.iconst X12.here hx rfl (hb hby d14_21) k) ?_
  show own_Fin p e below _ T12 (mkF m 22 #[SI p1] [VI 0, VR b2_12, VR b9, VR b9])
  have F14 : Exa Z T12.heap b9 cC0 := (A9.keep K12)
  have F15 : Fld Z T12.heap b9 cC0 "value" "[B" (.null) := (F10.keep K12 nin0)
  have u16 : n0 ≤ b9 := Nat.le_trans Z0 (Nat.le_of_eq g9.symm)
  have F17 : Fld Z T12.heap b9 cC0 "coder" "B" (VI 0) := (F11.keep K12 nin0)
  have z19 : h0.size ≤ T12.heap.size := Nat.le_trans z13 K12.1
  obtain ⟨_, T18, L18, X18, hQ18, st18⟩ := own_cI X12 hx hZ hown (WW hw 88) (WW hw 89) (WW hw 6) (WW hw 90) (rm17_1 l Z a0 hw [] b9 b2_12 (0 : Int32) T12.heap n0 (Nat.le_trans Z0 z19) F14 F15 u16 F17) rfl hml (g := (mkF m 22 #[SI p1] [VI 0, VR b2_12, VR b9, VR b9])) pd11 (hb hby d14_22) b9 [VR b2_12, VI 0] [VR b9] (W := 1)
  obtain ⟨rfl, N18q, K18, o0_18, o1_18, o2_18⟩ := hQ18
  have N18 := Fr.app N12 N18q
  refine own_go st18 ?_
  show own_Fin p e below _ T18 (mkF m 25 #[SI p1] [VR b9])
  have v20 : b9 ≠ b2_12 := Nat.ne_of_lt (Nat.lt_of_lt_of_le A9.lt lob2_12)
  have F21 : Arv Z T18.heap b2_12 k2_12 .byte 1 [VI (nar .byte (p1.toInt8.toInt32))] (VI 0) := (o0_12.keep K18 (ninS (Ne.symm v20) nin0))
  have K22 : Keep h0 T18.heap [] := ((((Keep.refl h0 []).ext E9).trans K12 all0).trans K18 (allS (Or.inr (Nat.le_of_eq g9.symm)) all0))
  obtain ⟨fs, hr, hrun, hended, hW, hsame⟩ := X18.leave (v := some (.ref b9)) (fun h => by rw [hret] at h; cases h)
  refine own_end (retOut X18 hx hret rfl (Or.inr (Or.inr (Or.inr (Or.inr ⟨rfl, rfl, rfl⟩)))) (hb hby d14_25) hr) hrun hended ⟨_, _, rfl, ?_, ⟨_, rfl⟩, hW, hsame.mono (by decide) (by decide)⟩
  show Q14_1 Z p1 p2 h0 n0 _ T18.heap _
  exact ⟨b9, b2_12, k2_12, rfl, N18, K22, (Nat.le_of_eq g9.symm), (Nat.le_trans z13 lob2_12), v20, o0_18, o1_18, o2_18, F21⟩
theorem ef1_6 (m : MethodId) (p1 : Int32) (p2 : Int32) (p3 : Int32) (p4 : Int32) : entryFrame m #[(.int p1), (.int p2), (.int p3), (.int p4)] 8 = mkF m 0 #[SI p1, SI p2, SI p3, SI p4, SU, SU, SU, SU] [] := by first | (simp [entryFrame, mkF, argsToLocals, Value.category]; done) | rfl
def Q1_6 (Z : State) (p1 : Int32) (p2 : Int32) (p3 : Int32) (p4 : Int32) (p11 : Int32) (h0 : Heap) (n0 : Nat) (v : Option Value) (h : Heap) (L : List Loc) : Prop := ∃ (b9_15 : Addr) (b2_12_15 : Addr) (k2_12_15 : ClassId), v = some (.ref b9_15) ∧ Fr n0 L ∧ Keep h0 h [] ∧ h0.size ≤ b9_15 ∧ h0.size ≤ b2_12_15 ∧ b9_15 ≠ b2_12_15 ∧ Exa Z h b9_15 cC0 ∧ Fld Z h b9_15 cC0 "value" "[B" (VR b2_12_15) ∧ Fld Z h b9_15 cC0 "coder" "B" (VI 0) ∧ Arv Z h b2_12_15 k2_12_15 .byte 1 [VI (nar .byte (((p2 &&& (255 : Int32)).toUInt32.toUInt16.toUInt32.toInt32).toInt8.toInt32))] (VI 0)
set_option maxRecDepth 65536 in
set_option maxHeartbeats 40000000 in
theorem rm1_6 (l : Launch) (Z : State) (a0 : Array Value) (hw : HW a0 Z) (ws : List Jvm.Cond) (p1 : Int32) (p2 : Int32) (p3 : Int32) (p4 : Int32) (p11 : Int32) (h0 : Heap) (n0 : Nat) (Z0 : n0 ≤ h0.size) (f5 : ¬ ((p1 &&& (7 : Int32)) = (0 : Int32))) (f6 : ¬ ((p1 &&& (7 : Int32)) = (1 : Int32))) (f7 : ¬ ((p1 &&& (7 : Int32)) = (2 : Int32))) (f8 : ¬ ((p1 &&& (7 : Int32)) = (3 : Int32))) (f9 : ¬ ((p1 &&& (7 : Int32)) = (4 : Int32))) (f10 : (p1 &&& (7 : Int32)) = (5 : Int32)) (f12 : Sta Z Z.heap "java/lang/String" "COMPACT_STRINGS" "Z" (.int p11)) (f13 : Old Z n0 h0) (f14 : ¬ (p11 = (0 : Int32))) :
    MetFree l yM2 (head1 (Jvm.Cond.code yM2 method_2_code 8 (some (.object "java/lang/String")) :: ws) ({ frames := 3, cells := 2, slots := 5, locals := 39 } : Room)) (fun a U => a = #[(.int p1), (.int p2), (.int p3), (.int p4)] ∧ Z.Warmed39 U.vm ∧ U.heap = h0) (fun _ _ _ _ _ => True) (fun _ U o U' => ∃ v L, o = .returned v ∧ Q1_6 Z p1 p2 p3 p4 p11 h0 n0 v U'.heap L ∧ FrameEnd U o U' L ({ frames := 3, cells := 2, slots := 5, locals := 39 } : Room).cells ({ frames := 3, cells := 2, slots := 5, locals := 39 } : Room).slots) := by
  refine own_enter (n0 := n0) (plainFor_of_name pn0) (fun m => ef1_6 m p1 p2 p3 p4) ?_
  intro p e s m below meth c s₁ hx hby hml hown hnm hret hlk X0 e0 hZ hh N0
  show own_Fin p e below _ s₁ (mkF m 0 #[SI p1, SI p2, SI p3, SI p4, SU, SU, SU, SU] [])
  refine own_go (fun _ k => XS.iloadN X0.here hx rfl (hb hby d1_0) rfl (XS.bipush X0.here hx rfl (hb hby d1_1) (XS.iand X0.here hx rfl (hb hby d1_3) rfl (XS.istore X0.here hx rfl (hb hby d1_4) rfl (l' := #[SI p1, SI p2, SI p3, SI p4, SI (p1 &&& (7 : Int32)), SU, SU, SU]) rfl (XS.iloadN X0.here hx rfl (hb hby d1_6) rfl (XS.sipush X0.here hx rfl (hb hby d1_7) (XS.iand X0.here hx rfl (hb hby d1_10) rfl (XS.i2c X0.here hx rfl (hb hby d1_11) rfl (XS.istore X0.here hx rfl (hb hby d1_12) rfl (l' := #[SI p1, SI p2, SI p3, SI p4, SI (p1 &&& (7 : Int32)), SI ((p2 &&& (255 : Int32)).toUInt32.toUInt16.toUInt32.toInt32), SU, SU]) rfl (XS.iloadN X0.here hx rfl (hb hby d1_14) rfl k)))))))))) ?_
  show own_Fin p e below _ s₁ (mkF m 15 #[SI p1, SI p2, SI p3, SI p4, SI (p1 &&& (7 : Int32)), SI ((p2 &&& (255 : Int32)).toUInt32.toUInt16.toUInt32.toInt32), SU, SU] [VI p3])
  refine own_go (fun _ k => XS.sipush X0.here hx rfl (hb hby d1_15) (XS.iand X0.here hx rfl (hb hby d1_18) rfl (XS.i2c X0.here hx rfl (hb hby d1_19) rfl (XS.istore X0.here hx rfl (hb hby d1_20) rfl (l' := #[SI p1, SI p2, SI p3, SI p4, SI (p1 &&& (7 : Int32)), SI ((p2 &&& (255 : Int32)).toUInt32.toUInt16.toUInt32.toInt32), SI ((p3 &&& (255 : Int32)).toUInt32.toUInt16.toUInt32.toInt32), SU]) rfl (XS.iloadN X0.here hx rfl (hb hby d1_22) rfl (XS.sipush X0.here hx rfl (hb hby d1_23) (XS.iand X0.here hx rfl (hb hby d1_26) rfl (XS.i2c X0.here hx rfl (hb hby d1_27) rfl (XS.istore X0.here hx rfl (hb hby d1_28) rfl (l' := #[SI p1, SI p2, SI p3, SI p4, SI (p1 &&& (7 : Int32)), SI ((p2 &&& (255 : Int32)).toUInt32.toUInt16.toUInt32.toInt32), SI ((p3 &&& (255 : Int32)).toUInt32.toUInt16.toUInt32.toInt32), SI ((p4 &&& (255 : Int32)).toUInt32.toUInt16.toUInt32.toInt32)]) rfl (XS.iload X0.here hx rfl (hb hby d1_30) rfl k)))))))))) ?_
  show own_Fin p e below _ s₁ (mkF m 32 #[SI p1, SI p2, SI p3, SI p4, SI (p1 &&& (7 : Int32)), SI ((p2 &&& (255 : Int32)).toUInt32.toUInt16.toUInt32.toInt32), SI ((p3 &&& (255 : Int32)).toUInt32.toUInt16.toUInt32.toInt32), SI ((p4 &&& (255 : Int32)).toUInt32.toUInt16.toUInt32.toInt32)] [VI (p1 &&& (7 : Int32))])
  refine own_go (fun _ k => XS.ifYes X0.here hx rfl (pc0 := 32) (pc' := 46) rfl (hb hby d1_32) rfl ((if0 _ _).trans (feq f5).2) (by decide) (by decide) (XS.iload X0.here hx rfl (hb hby d1_46) rfl (XS.iconst X0.here hx rfl (hb hby d1_48) (XS.icmpYes X0.here hx rfl (pc0 := 49) (pc' := 68) rfl (hb hby d1_49) rfl (feq f6).2 (by decide) (by decide) (XS.iload X0.here hx rfl (hb hby d1_68) rfl (XS.iconst X0.here hx rfl (hb hby d1_70) (XS.icmpYes X0.here hx rfl (pc0 := 71) (pc' := 95) rfl (hb hby d1_71) rfl (feq f7).2 (by decide) (by decide) (XS.iload X0.here hx rfl (hb hby d1_95) rfl (XS.iconst X0.here hx rfl (hb hby d1_97) (XS.icmpYes X0.here hx rfl (pc0 := 98) (pc' := 127) rfl (hb hby d1_98) rfl (feq f8).2 (by decide) (by decide) k)))))))))) ?_
  show own_Fin p e below _ s₁ (mkF m 127 #[SI p1, SI p2, SI p3, SI p4, SI (p1 &&& (7 : Int32)), SI ((p2 &&& (255 : Int32)).toUInt32.toUInt16.toUInt32.toInt32), SI ((p3 &&& (255 : Int32)).toUInt32.toUInt16.toUInt32.toInt32), SI ((p4 &&& (255 : Int32)).toUInt32.toUInt16.toUInt32.toInt32)] [])
  refine own_go (fun _ k => XS.iload X0.here hx rfl (hb hby d1_127) rfl (XS.iconst X0.here hx rfl (hb hby d1_129) (XS.icmpYes X0.here hx rfl (pc0 := 130) (pc' := 135) rfl (hb hby d1_130) rfl (feq f9).2 (by decide) (by decide) (XS.iload X0.here hx rfl (hb hby d1_135) rfl (XS.iconst X0.here hx rfl (hb hby d1_137) (XS.icmpNo X0.here hx rfl (hb hby d1_138) rfl (teq f10).2 (XS.iload X0.here hx rfl (hb hby d1_141) rfl k))))))) ?_
  show own_Fin p e below _ s₁ (mkF m 143 #[SI p1, SI p2, SI p3, SI p4, SI (p1 &&& (7 : Int32)), SI ((p2 &&& (255 : Int32)).toUInt32.toUInt16.toUInt32.toInt32), SI ((p3 &&& (255 : Int32)).toUInt32.toUInt16.toUInt32.toInt32), SI ((p4 &&& (255 : Int32)).toUInt32.toUInt16.toUInt32.toInt32)] [VI ((p2 &&& (255 : Int32)).toUInt32.toUInt16.toUInt32.toInt32)])
  obtain ⟨_, T15, L15, X15, hQ15, st15⟩ := own_cS X0 hx hZ hown (WW hw 77) (WW hw 78) (WW hw 6) (WW hw 79) (rm14_1 l Z a0 hw [] ((p2 &&& (255 : Int32)).toUInt32.toUInt16.toUInt32.toInt32) p11 h0 n0 Z0 f12 f13 f14 (own_c255 p2).2) e0 hml (g := (mkF m 143 #[SI p1, SI p2, SI p3, SI p4, SI (p1 &&& (7 : Int32)), SI ((p2 &&& (255 : Int32)).toUInt32.toUInt16.toUInt32.toInt32), SI ((p3 &&& (255 : Int32)).toUInt32.toUInt16.toUInt32.toInt32), SI ((p4 &&& (255 : Int32)).toUInt32.toUInt16.toUInt32.toInt32)] [VI ((p2 &&& (255 : Int32)).toUInt32.toUInt16.toUInt32.toInt32)])) pd12 (hb hby d1_143) [VI ((p2 &&& (255 : Int32)).toUInt32.toUInt16.toUInt32.toInt32)] [] (W := 0)
  obtain ⟨b9_15, b2_12_15, k2_12_15, rfl, N15q, K15, lob9_15, lob2_12_15, neb9b2_12_15, o0_15, o1_15, o2_15, o3_15⟩ := hQ15
  have N15 := Fr.app N0 N15q
  refine own_go st15 ?_
  show own_Fin p e below _ T15 (mkF m 146 #[SI p1, SI p2, SI p3, SI p4, SI (p1 &&& (7 : Int32)), SI ((p2 &&& (255 : Int32)).toUInt32.toUInt16.toUInt32.toInt32), SI ((p3 &&& (255 : Int32)).toUInt32.toUInt16.toUInt32.toInt32), SI ((p4 &&& (255 : Int32)).toUInt32.toUInt16.toUInt32.toInt32)] [VR b9_15])
  have K16 : Keep h0 T15.heap [] := ((Keep.refl h0 []).trans K15 all0)
  obtain ⟨fs, hr, hrun, hended, hW, hsame⟩ := X15.leave (v := some (.ref b9_15)) (fun h => by rw [hret] at h; cases h)
  refine own_end (retOut X15 hx hret rfl (Or.inr (Or.inr (Or.inr (Or.inr ⟨rfl, rfl, rfl⟩)))) (hb hby d1_146) hr) hrun hended ⟨_, _, rfl, ?_, ⟨_, rfl⟩, hW, hsame.mono (by decide) (by decide)⟩
  show Q1_6 Z p1 p2 p3 p4 p11 h0 n0 _ T15.heap _
  exact ⟨b9_15, b2_12_15, k2_12_15, rfl, N15, K16, lob9_15, lob2_12_15, neb9b2_12_15, o0_15, o1_15, o2_15, o3_15⟩
theorem ef1_7 (m : MethodId) (p1 : Int32) (p2 : Int32) (p3 : Int32) (p4 : Int32) : entryFrame m #[(.int p1), (.int p2), (.int p3), (.int p4)] 8 = mkF m 0 #[SI p1, SI p2, SI p3, SI p4, SU, SU, SU, SU] [] := by first | (simp [entryFrame, mkF, argsToLocals, Value.category]; done) | rfl
def Q1_7 (Z : State) (p1 : Int32) (p2 : Int32) (p3 : Int32) (p4 : Int32) (p29 : Int32) (h0 : Heap) (n0 : Nat) (v : Option Value) (h : Heap) (L : List Loc) : Prop := ∃ (b12 : Addr) (t24 : Addr) (kb24 : ClassId), v = some (.ref b12) ∧ Fr n0 L ∧ Keep h0 h [] ∧ h0.size ≤ b12 ∧ h0.size ≤ t24 ∧ b12 ≠ t24 ∧ Exa Z h b12 cC0 ∧ Fld Z h b12 cC0 "coder" "B" (VI 0) ∧ Fld Z h b12 cC0 "value" "[B" (VR t24) ∧ Arv Z h t24 kb24 .byte 2 [VI ((nar .char ((p3 &&& (255 : Int32)).toUInt32.toUInt16.toUInt32.toInt32)).toInt8.toInt32), VI ((nar .char ((p4 &&& (255 : Int32)).toUInt32.toUInt16.toUInt32.toInt32)).toInt8.toInt32)] (VI 0)
set_option maxRecDepth 65536 in
set_option maxHeartbeats 40000000 in
theorem rm1_7 (l : Launch) (Z : State) (a0 : Array Value) (hw : HW a0 Z) (ws : List Jvm.Cond) (p1 : Int32) (p2 : Int32) (p3 : Int32) (p4 : Int32) (p29 : Int32) (h0 : Heap) (n0 : Nat) (Z0 : n0 ≤ h0.size) (f5 : ¬ ((p1 &&& (7 : Int32)) = (0 : Int32))) (f6 : ¬ ((p1 &&& (7 : Int32)) = (1 : Int32))) (f7 : ¬ ((p1 &&& (7 : Int32)) = (2 : Int32))) (f8 : ¬ ((p1 &&& (7 : Int32)) = (3 : Int32))) (f9 : ¬ ((p1 &&& (7 : Int32)) = (4 : Int32))) (f10 : ¬ ((p1 &&& (7 : Int32)) = (5 : Int32))) (f11 : (p1 &&& (7 : Int32)) = (6 : Int32)) (f30 : Sta Z Z.heap "java/lang/String" "COMPACT_STRINGS" "Z" (.int p29)) (f31 : Old Z n0 h0) (f33 : ¬ (p29 = (0 : Int32))) :
    MetFree l yM2 (head1 (Jvm.Cond.code yM2 method_2_code 8 (some (.object "java/lang/String")) :: ws) ({ frames := 4, cells := 3, slots := 8, locals := 66 } : Room)) (fun a U => a = #[(.int p1), (.int p2), (.int p3), (.int p4)] ∧ Z.Warmed39 U.vm ∧ U.heap = h0) (fun _ _ _ _ _ => True) (fun _ U o U' => ∃ v L, o = .returned v ∧ Q1_7 Z p1 p2 p3 p4 p29 h0 n0 v U'.heap L ∧ FrameEnd U o U' L ({ frames := 4, cells := 3, slots := 8, locals := 66 } : Room).cells ({ frames := 4, cells := 3, slots := 8, locals := 66 } : Room).slots) := by
  refine own_enter (n0 := n0) (plainFor_of_name pn0) (fun m => ef1_7 m p1 p2 p3 p4) ?_
  intro p e s m below meth c s₁ hx hby hml hown hnm hret hlk X0 e0 hZ hh N0
  show own_Fin p e below _ s₁ (mkF m 0 #[SI p1, SI p2, SI p3, SI p4, SU, SU, SU, SU] [])
  refine own_go (fun _ k => XS.iloadN X0.here hx rfl (hb hby d1_0) rfl (XS.bipush X0.here hx rfl (hb hby d1_1) (XS.iand X0.here hx rfl (hb hby d1_3) rfl (XS.istore X0.here hx rfl (hb hby d1_4) rfl (l' := #[SI p1, SI p2, SI p3, SI p4, SI (p1 &&& (7 : Int32)), SU, SU, SU]) rfl (XS.iloadN X0.here hx rfl (hb hby d1_6) rfl (XS.sipush X0.here hx rfl (hb hby d1_7) (XS.iand X0.here hx rfl (hb hby d1_10) rfl (XS.i2c X0.here hx rfl (hb hby d1_11) rfl (XS.istore X0.here hx rfl (hb hby d1_12) rfl (l' := #[SI p1, SI p2, SI p3, SI p4, SI (p1 &&& (7 : Int32)), SI ((p2 &&& (255 : Int32)).toUInt32.toUInt16.toUInt32.toInt32), SU, SU]) rfl (XS.iloadN X0.here hx rfl (hb hby d1_14) rfl k)))))))))) ?_
  show own_Fin p e below _ s₁ (mkF m 15 #[SI p1, SI p2, SI p3, SI p4, SI (p1 &&& (7 : Int32)), SI ((p2 &&& (255 : Int32)).toUInt32.toUInt16.toUInt32.toInt32), SU, SU] [VI p3])
  refine own_go (fun _ k => XS.sipush X0.here hx rfl (hb hby d1_15) (XS.iand X0.here hx rfl (hb hby d1_18) rfl (XS.i2c X0.here hx rfl (hb hby d1_19) rfl (XS.istore X0.here hx rfl (hb hby d1_20) rfl (l' := #[SI p1, SI p2, SI p3, SI p4, SI (p1 &&& (7 : Int32)), SI ((p2 &&& (255 : Int32)).toUInt32.toUInt16.toUInt32.toInt32), SI ((p3 &&& (255 : Int32)).toUInt32.toUInt16.toUInt32.toInt32), SU]) rfl (XS.iloadN X0.here hx rfl (hb hby d1_22) rfl (XS.sipush X0.here hx rfl (hb hby d1_23) (XS.iand X0.here hx rfl (hb hby d1_26) rfl (XS.i2c X0.here hx rfl (hb hby d1_27) rfl (XS.istore X0.here hx rfl (hb hby d1_28) rfl (l' := #[SI p1, SI p2, SI p3, SI p4, SI (p1 &&& (7 : Int32)), SI ((p2 &&& (255 : Int32)).toUInt32.toUInt16.toUInt32.toInt32), SI ((p3 &&& (255 : Int32)).toUInt32.toUInt16.toUInt32.toInt32), SI ((p4 &&& (255 : Int32)).toUInt32.toUInt16.toUInt32.toInt32)]) rfl (XS.iload X0.here hx rfl (hb hby d1_30) rfl k)))))))))) ?_
  show own_Fin p e below _ s₁ (mkF m 32 #[SI p1, SI p2, SI p3, SI p4, SI (p1 &&& (7 : Int32)), SI ((p2 &&& (255 : Int32)).toUInt32.toUInt16.toUInt32.toInt32), SI ((p3 &&& (255 : Int32)).toUInt32.toUInt16.toUInt32.toInt32), SI ((p4 &&& (255 : Int32)).toUInt32.toUInt16.toUInt32.toInt32)] [VI (p1 &&& (7 : Int32))])
  refine own_go (fun _ k => XS.ifYes X0.here hx rfl (pc0 := 32) (pc' := 46) rfl (hb hby d1_32) rfl ((if0 _ _).trans (feq f5).2) (by decide) (by decide) (XS.iload X0.here hx rfl (hb hby d1_46) rfl (XS.iconst X0.here hx rfl (hb hby d1_48) (XS.icmpYes X0.here hx rfl (pc0 := 49) (pc' := 68) rfl (hb hby d1_49) rfl (feq f6).2 (by decide) (by decide) (XS.iload X0.here hx rfl (hb hby d1_68) rfl (XS.iconst X0.here hx rfl (hb hby d1_70) (XS.icmpYes X0.here hx rfl (pc0 := 71) (pc' := 95) rfl (hb hby d1_71) rfl (feq f7).2 (by decide) (by decide) (XS.iload X0.here hx rfl (hb hby d1_95) rfl (XS.iconst X0.here hx rfl (hb hby d1_97) (XS.icmpYes X0.here hx rfl (pc0 := 98) (pc' := 127) rfl (hb hby d1_98) rfl (feq f8).2 (by decide) (by decide) k)))))))))) ?_
  show own_Fin p e below _ s₁ (mkF m 127 #[SI p1, SI p2, SI p3, SI p4, SI (p1 &&& (7 : Int32)), SI ((p2 &&& (255 : Int32)).toUInt32.toUInt16.toUInt32.toInt32), SI ((p3 &&& (255 : Int32)).toUInt32.toUInt16.toUInt32.toInt32), SI ((p4 &&& (255 : Int32)).toUInt32.toUInt16.toUInt32.toInt32)] [])
  refine own_go (fun _ k => XS.iload X0.here hx rfl (hb hby d1_127) rfl (XS.iconst X0.here hx rfl (hb hby d1_129) (XS.icmpYes X0.here hx rfl (pc0 := 130) (pc' := 135) rfl (hb hby d1_130) rfl (feq f9).2 (by decide) (by decide) (XS.iload X0.here hx rfl (hb hby d1_135) rfl (XS.iconst X0.here hx rfl (hb hby d1_137) (XS.icmpYes X0.here hx rfl (pc0 := 138) (pc' := 147) rfl (hb hby d1_138) rfl (feq f10).2 (by decide) (by decide) (XS.iload X0.here hx rfl (hb hby d1_147) rfl (XS.bipush X0.here hx rfl (hb hby d1_149) (XS.icmpNo X0.here hx rfl (hb hby d1_151) rfl (teq f11).2 k))))))))) ?_
  show own_Fin p e below _ s₁ (mkF m 154 #[SI p1, SI p2, SI p3, SI p4, SI (p1 &&& (7 : Int32)), SI ((p2 &&& (255 : Int32)).toUInt32.toUInt16.toUInt32.toInt32), SI ((p3 &&& (255 : Int32)).toUInt32.toUInt16.toUInt32.toInt32), SI ((p4 &&& (255 : Int32)).toUInt32.toUInt16.toUInt32.toInt32)] [])
  obtain ⟨T12, h12, X12, e12, E12, A12, D12, -, st12⟩ := newO X0 hx hZ hown (WW hw 4) (WW hw 5) (WW hw 6) e0 (g := (mkF m 154 #[SI p1, SI p2, SI p3, SI p4, SI (p1 &&& (7 : Int32)), SI ((p2 &&& (255 : Int32)).toUInt32.toUInt16.toUInt32.toInt32), SI ((p3 &&& (255 : Int32)).toUInt32.toUInt16.toUInt32.toInt32), SI ((p4 &&& (255 : Int32)).toUInt32.toUInt16.toUInt32.toInt32)] [])) rfl (hb hby d1_154) (by decide) (by decide)
  obtain ⟨b12, g12⟩ : ∃ z, z = h0.size := ⟨_, rfl⟩
  rw [← g12] at A12 D12 st12
  have F13 : Fld Z h12 b12 cC0 "value" "[B" (.null) := D12 (Or.inr (WW hw 20)) (ty := (.array .byte)) (by decide)
  have F14 : Fld Z h12 b12 cC0 "coder" "B" (VI 0) := D12 (Or.inr (WW hw 21)) (ty := .byte) (by decide)
  refine own_go st12 ?_
  show own_Fin p e below _ T12 (mkF m 157 #[SI p1, SI p2, SI p3, SI p4, SI (p1 &&& (7 : Int32)), SI ((p2 &&& (255 : Int32)).toUInt32.toUInt16.toUInt32.toInt32), SI ((p3 &&& (255 : Int32)).toUInt32.toUInt16.toUInt32.toInt32), SI ((p4 &&& (255 : Int32)).toUInt32.toUInt16.toUInt32.toInt32)] [VR b12])
  refine own_go (fun _ k => XS.dup X12.here hx rfl (hb hby d1_157) rfl rfl (XS.iconst X12.here hx rfl (hb hby d1_158) k)) ?_
  show own_Fin p e below _ T12 (mkF m 159 #[SI p1, SI p2, SI p3, SI p4, SI (p1 &&& (7 : Int32)), SI ((p2 &&& (255 : Int32)).toUInt32.toUInt16.toUInt32.toInt32), SI ((p3 &&& (255 : Int32)).toUInt32.toUInt16.toUInt32.toInt32), SI ((p4 &&& (255 : Int32)).toUInt32.toUInt16.toUInt32.toInt32)] [VI 2, VR b12, VR b12])
  obtain ⟨T15, h15, k15, X15, e15, E15, A15, st15⟩ := newP X12 hx hZ (WW hw 7) e12 (g := (mkF m 159 #[SI p1, SI p2, SI p3, SI p4, SI (p1 &&& (7 : Int32)), SI ((p2 &&& (255 : Int32)).toUInt32.toUInt16.toUInt32.toInt32), SI ((p3 &&& (255 : Int32)).toUInt32.toUInt16.toUInt32.toInt32), SI ((p4 &&& (255 : Int32)).toUInt32.toUInt16.toUInt32.toInt32)] [VI 2, VR b12, VR b12])) rfl (hb hby d1_159) rfl (by decide) (cap := 2) (by decide) (by decide) (by decide) (by decide)
  obtain ⟨b15, g15⟩ : ∃ z, z = h12.size := ⟨_, rfl⟩
  rw [← g15] at A15 st15
  have V15 : Arv Z h15 b15 k15 .char 2 [VI 0, VI 0] (VI 0) := (Arv.new A15 (by decide)).pad (pad_rep [] (.int (0 : Int32)) 2)
  refine own_go st15 ?_
  show own_Fin p e below _ T15 (mkF m 161 #[SI p1, SI p2, SI p3, SI p4, SI (p1 &&& (7 : Int32)), SI ((p2 &&& (255 : Int32)).toUInt32.toUInt16.toUInt32.toInt32), SI ((p3 &&& (255 : Int32)).toUInt32.toUInt16.toUInt32.toInt32), SI ((p4 &&& (255 : Int32)).toUInt32.toUInt16.toUInt32.toInt32)] [VR b15, VR b12, VR b12])
  refine own_go (fun _ k => XS.dup X15.here hx rfl (hb hby d1_161) rfl rfl (XS.iconst X15.here hx rfl (hb hby d1_162) (XS.iload X15.here hx rfl (hb hby d1_163) rfl k))) ?_
  show own_Fin p e below _ T15 (mkF m 165 #[SI p1, SI p2, SI p3, SI p4, SI (p1 &&& (7 : Int32)), SI ((p2 &&& (255 : Int32)).toUInt32.toUInt16.toUInt32.toInt32), SI ((p3 &&& (255 : Int32)).toUInt32.toUInt16.toUInt32.toInt32), SI ((p4 &&& (255 : Int32)).toUInt32.toUInt16.toUInt32.toInt32)] [VI ((p3 &&& (255 : Int32)).toUInt32.toUInt16.toUInt32.toInt32), VI 0, VR b15, VR b15, VR b12, VR b12])
  obtain ⟨cl16, Ar16, q16, Sz16, Nn16, Hs16, Gg16⟩ := id V15
  have i17 : ¬ ((0 : Int32) < 0 ∨ cl16.slots.size ≤ ((0 : Int32)).toNatClampNeg) := inb_of Sz16 ⟨(by decide : ¬ ((0 : Int32) < (0 : Int32))), (by decide : (0 : Int32) < (2 : Int32))⟩
  obtain ⟨T18, h18, X18, e18, W18, st18⟩ := stC X15 hx hZ e15 Ar16 (j := (0 : Int32)) i17 (g := (mkF m 165 #[SI p1, SI p2, SI p3, SI p4, SI (p1 &&& (7 : Int32)), SI ((p2 &&& (255 : Int32)).toUInt32.toUInt16.toUInt32.toInt32), SI ((p3 &&& (255 : Int32)).toUInt32.toUInt16.toUInt32.toInt32), SI ((p4 &&& (255 : Int32)).toUInt32.toUInt16.toUInt32.toInt32)] [VI ((p3 &&& (255 : Int32)).toUInt32.toUInt16.toUInt32.toInt32), VI 0, VR b15, VR b15, VR b12, VR b12])) rfl rfl (hb hby d1_165)
  have z20 : h0.size ≤ h12.size := E12.1
  have u19 : n0 ≤ b15 := Nat.le_trans Z0 (Nat.le_trans z20 (Nat.le_of_eq g15.symm))
  have N18 := Fr.snoc X18 N0 u19
  have V18 : Arv Z h18 b15 k15 .char 2 [VI (nar .char ((p3 &&& (255 : Int32)).toUInt32.toUInt16.toUInt32.toInt32)), VI 0] (VI 0) := Arv.set Ar16 q16 Sz16 Nn16 Hs16 Gg16 (fits_nar_char _) W18 0 rfl (Nat.le_of_ble_eq_true rfl)
  refine own_go st18 ?_
  show own_Fin p e below _ T18 (mkF m 166 #[SI p1, SI p2, SI p3, SI p4, SI (p1 &&& (7 : Int32)), SI ((p2 &&& (255 : Int32)).toUInt32.toUInt16.toUInt32.toInt32), SI ((p3 &&& (255 : Int32)).toUInt32.toUInt16.toUInt32.toInt32), SI ((p4 &&& (255 : Int32)).toUInt32.toUInt16.toUInt32.toInt32)] [VR b15, VR b12, VR b12])
  refine own_go (fun _ k => XS.dup X18.here hx rfl (hb hby d1_166) rfl rfl (XS.iconst X18.here hx rfl (hb hby d1_167) (XS.iload X18.here hx rfl (hb hby d1_168) rfl k))) ?_
  show own_Fin p e below _ T18 (mkF m 170 #[SI p1, SI p2, SI p3, SI p4, SI (p1 &&& (7 : Int32)), SI ((p2 &&& (255 : Int32)).toUInt32.toUInt16.toUInt32.toInt32), SI ((p3 &&& (255 : Int32)).toUInt32.toUInt16.toUInt32.toInt32), SI ((p4 &&& (255 : Int32)).toUInt32.toUInt16.toUInt32.toInt32)] [VI ((p4 &&& (255 : Int32)).toUInt32.toUInt16.toUInt32.toInt32), VI 1, VR b15, VR b15, VR b12, VR b12])
  obtain ⟨cl21, Ar21, q21, Sz21, Nn21, Hs21, Gg21⟩ := id V18
  have i22 : ¬ ((1 : Int32) < 0 ∨ cl21.slots.size ≤ ((1 : Int32)).toNatClampNeg) := inb_of Sz21 ⟨(by decide : ¬ ((1 : Int32) < (0 : Int32))), (by decide : (1 : Int32) < (2 : Int32))⟩
  obtain ⟨T23, h23, X23, e23, W23, st23⟩ := stC X18 hx hZ e18 Ar21 (j := (1 : Int32)) i22 (g := (mkF m 170 #[SI p1, SI p2, SI p3, SI p4, SI (p1 &&& (7 : Int32)), SI ((p2 &&& (255 : Int32)).toUInt32.toUInt16.toUInt32.toInt32), SI ((p3 &&& (255 : Int32)).toUInt32.toUInt16.toUInt32.toInt32), SI ((p4 &&& (255 : Int32)).toUInt32.toUInt16.toUInt32.toInt32)] [VI ((p4 &&& (255 : Int32)).toUInt32.toUInt16.toUInt32.toInt32), VI 1, VR b15, VR b15, VR b12, VR b12])) rfl rfl (hb hby d1_170)
  have N23 := Fr.snoc X23 N18 u19
  have V23 : Arv Z h23 b15 k15 .char 2 [VI (nar .char ((p3 &&& (255 : Int32)).toUInt32.toUInt16.toUInt32.toInt32)), VI (nar .char ((p4 &&& (255 : Int32)).toUInt32.toUInt16.toUInt32.toInt32))] (VI 0) := Arv.set Ar21 q21 Sz21 Nn21 Hs21 Gg21 (fits_nar_char _) W23 1 rfl (Nat.le_of_ble_eq_true rfl)
  refine own_go st23 ?_
  show own_Fin p e below _ T23 (mkF m 171 #[SI p1, SI p2, SI p3, SI p4, SI (p1 &&& (7 : Int32)), SI ((p2 &&& (255 : Int32)).toUInt32.toUInt16.toUInt32.toInt32), SI ((p3 &&& (255 : Int32)).toUInt32.toUInt16.toUInt32.toInt32), SI ((p4 &&& (255 : Int32)).toUInt32.toUInt16.toUInt32.toInt32)] [VR b15, VR b12, VR b12])
  have F25 : Exa Z h23 b12 cC0 := (((A12.ext E15).wr W18).wr W23)
  have v26 : b12 ≠ b15 := Nat.ne_of_lt (Nat.lt_of_lt_of_le A12.lt (Nat.le_of_eq g15.symm))
  have F27 : Fld Z h23 b12 cC0 "value" "[B" (.null) := (((F13.ext E15).other W18 (Or.inl v26)).other W23 (Or.inl v26))
  have F28 : Fld Z h23 b12 cC0 "coder" "B" (VI 0) := (((F14.ext E15).other W18 (Or.inl v26)).other W23 (Or.inl v26))
  have O32 : Old Z n0 h23 := ((((f31.ext E12).ext E15).wr W18 u19).wr W23 u19)
  have hws : ∀ d ∈ StrChars.Road.words, d.before a0 Z = true := fun d hd => hw d ((by decide +kernel : ∀ d ∈ StrChars.Road.words, d ∈ tables_1) d hd)
  have hp34 : ∀ c ∈ ([(nar .char ((p3 &&& (255 : Int32)).toUInt32.toUInt16.toUInt32.toInt32)), (nar .char ((p4 &&& (255 : Int32)).toUInt32.toUInt16.toUInt32.toInt32))] : List Int32), ¬ c < 0 ∧ ¬ (255 : Int32) < c := (own_allS (own_and255 p3) (own_allS (own_and255 p4) own_all0))
  have u35 : n0 ≤ b12 := Nat.le_trans Z0 (Nat.le_of_eq g12.symm)
  have z36 : h0.size ≤ h15.size := Nat.le_trans z20 E15.1
  have z37 : h0.size ≤ h18.size := Nat.le_trans z36 (Nat.le_of_eq (Wr.size W18).symm)
  have z38 : h0.size ≤ h23.size := Nat.le_trans z37 (Nat.le_of_eq (Wr.size W23).symm)
  obtain ⟨_, _, ⟨T24, L24, k24, n24⟩, -, X24, ⟨Lc24, hQ24, l24, y24, z24⟩, st24⟩ := X23.specialBack hx (y := yM1) rfl hown (mvT hZ (WW hw 8)) (mvT hZ (WW hw 9)) (mvT hZ (WW hw 10)) (by decide) (StrChars.Road.backV (W := 1) hZ hws (kI := 4) (WW hw 5) (cs := ([(nar .char ((p3 &&& (255 : Int32)).toUInt32.toUInt16.toUInt32.toInt32)), (nar .char ((p4 &&& (255 : Int32)).toUInt32.toUInt16.toUInt32.toInt32))] : List Int32)) (bs := ([(nar .char ((p3 &&& (255 : Int32)).toUInt32.toUInt16.toUInt32.toInt32)), (nar .char ((p4 &&& (255 : Int32)).toUInt32.toUInt16.toUInt32.toInt32))] : List Int32).map (fun c => c.toInt8.toInt32)) (n := 2) u35 (Nat.le_trans Z0 z38) F25 F27 F28 V23 (f30.ext O32.2) f33 rfl rfl (by decide) (by decide) hp34 rfl (by decide) (by decide)) (g := (mkF m 171 #[SI p1, SI p2, SI p3, SI p4, SI (p1 &&& (7 : Int32)), SI ((p2 &&& (255 : Int32)).toUInt32.toUInt16.toUInt32.toInt32), SI ((p3 &&& (255 : Int32)).toUInt32.toUInt16.toUInt32.toInt32), SI ((p4 &&& (255 : Int32)).toUInt32.toUInt16.toUInt32.toInt32)] [VR b15, VR b12, VR b12])) rfl (by rw [hml]; rfl) (Steps.refl _) (a := b12) (argsL := [VR b15]) (rest := [VR b12]) (lenOf pd1 rfl) rfl (by show 2 * 0 + _ ≤ _; exact Nat.le_of_eq rfl) (hb hby d1_171) (fun _ _ => ⟨rfl, e23, (by decide : 2 + 1 ≤ _), (by decide : 6 + 2 ≤ _)⟩)
  dsimp only [Pt.U, Pt.locs, Pt.cells, Pt.slots] at X24 l24 y24 z24 st24 hQ24
  subst l24 y24 z24
  obtain ⟨rfl, N24q, K24, oE24, oC24, t24, kb24, -, lo24, nt24, oV24, oA24⟩ := hQ24
  have N24 := Fr.app N23 N24q
  refine own_go (fun _ k => st24.trans k) ?_
  show own_Fin p e below _ T24 (mkF m 174 #[SI p1, SI p2, SI p3, SI p4, SI (p1 &&& (7 : Int32)), SI ((p2 &&& (255 : Int32)).toUInt32.toUInt16.toUInt32.toInt32), SI ((p3 &&& (255 : Int32)).toUInt32.toUInt16.toUInt32.toInt32), SI ((p4 &&& (255 : Int32)).toUInt32.toUInt16.toUInt32.toInt32)] [VR b12])
  have K39 : Keep h0 T24.heap [] := ((((((Keep.refl h0 []).ext E12).ext E15).wr W18 (Or.inr (Nat.le_trans z20 (Nat.le_of_eq g15.symm)))).wr W23 (Or.inr (Nat.le_trans z20 (Nat.le_of_eq g15.symm)))).trans K24 (allS (Or.inr (Nat.le_of_eq g12.symm)) all0))
  obtain ⟨fs, hr, hrun, hended, hW, hsame⟩ := X24.leave (v := some (.ref b12)) (fun h => by rw [hret] at h; cases h)
  refine own_end (retOut X24 hx hret rfl (Or.inr (Or.inr (Or.inr (Or.inr ⟨rfl, rfl, rfl⟩)))) (hb hby d1_174) hr) hrun hended ⟨_, _, rfl, ?_, ⟨_, rfl⟩, hW, hsame.mono (by decide) (by decide)⟩
  show Q1_7 Z p1 p2 p3 p4 p29 h0 n0 _ T24.heap _
  exact ⟨b12, t24, kb24, rfl, N24, K39, (Nat.le_of_eq g12.symm), (Nat.le_trans z38 lo24), (Ne.symm nt24), oE24, oC24, oV24, oA24⟩
theorem ef1_8 (m : MethodId) (p1 : Int32) (p2 : Int32) (p3 : Int32) (p4 : Int32) : entryFrame m #[(.int p1), (.int p2), (.int p3), (.int p4)] 8 = mkF m 0 #[SI p1, SI p2, SI p3, SI p4, SU, SU, SU, SU] [] := by first | (simp [entryFrame, mkF, argsToLocals, Value.category]; done) | rfl
def Q1_8 (Z : State) (p1 : Int32) (p2 : Int32) (p3 : Int32) (p4 : Int32) (p32 : Int32) (h0 : Heap) (n0 : Nat) (v : Option Value) (h : Heap) (L : List Loc) : Prop := ∃ (b12 : Addr) (t27 : Addr) (kb27 : ClassId), v = some (.ref b12) ∧ Fr n0 L ∧ Keep h0 h [] ∧ h0.size ≤ b12 ∧ h0.size ≤ t27 ∧ b12 ≠ t27 ∧ Exa Z h b12 cC0 ∧ Fld Z h b12 cC0 "coder" "B" (VI 0) ∧ Fld Z h b12 cC0 "value" "[B" (VR t27) ∧ Arv Z h t27 kb27 .byte 3 [VI ((nar .char ((p4 &&& (255 : Int32)).toUInt32.toUInt16.toUInt32.toInt32)).toInt8.toInt32), VI ((nar .char ((p3 &&& (255 : Int32)).toUInt32.toUInt16.toUInt32.toInt32)).toInt8.toInt32), VI ((nar .char ((p2 &&& (255 : Int32)).toUInt32.toUInt16.toUInt32.toInt32)).toInt8.toInt32)] (VI 0)
set_option maxRecDepth 65536 in
set_option maxHeartbeats 40000000 in
theorem rm1_8 (l : Launch) (Z : State) (a0 : Array Value) (hw : HW a0 Z) (ws : List Jvm.Cond) (p1 : Int32) (p2 : Int32) (p3 : Int32) (p4 : Int32) (p32 : Int32) (h0 : Heap) (n0 : Nat) (Z0 : n0 ≤ h0.size) (f5 : ¬ ((p1 &&& (7 : Int32)) = (0 : Int32))) (f6 : ¬ ((p1 &&& (7 : Int32)) = (1 : Int32))) (f7 : ¬ ((p1 &&& (7 : Int32)) = (2 : Int32))) (f8 : ¬ ((p1 &&& (7 : Int32)) = (3 : Int32))) (f9 : ¬ ((p1 &&& (7 : Int32)) = (4 : Int32))) (f10 : ¬ ((p1 &&& (7 : Int32)) = (5 : Int32))) (f11 : ¬ ((p1 &&& (7 : Int32)) = (6 : Int32))) (f33 : Sta Z Z.heap "java/lang/String" "COMPACT_STRINGS" "Z" (.int p32)) (f34 : Old Z n0 h0) (f36 : ¬ (p32 = (0 : Int32))) :
    MetFree l yM2 (head1 (Jvm.Cond.code yM2 method_2_code 8 (some (.object "java/lang/String")) :: ws) ({ frames := 4, cells := 3, slots := 10, locals := 66 } : Room)) (fun a U => a = #[(.int p1), (.int p2), (.int p3), (.int p4)] ∧ Z.Warmed39 U.vm ∧ U.heap = h0) (fun _ _ _ _ _ => True) (fun _ U o U' => ∃ v L, o = .returned v ∧ Q1_8 Z p1 p2 p3 p4 p32 h0 n0 v U'.heap L ∧ FrameEnd U o U' L ({ frames := 4, cells := 3, slots := 10, locals := 66 } : Room).cells ({ frames := 4, cells := 3, slots := 10, locals := 66 } : Room).slots) := by
  refine own_enter (n0 := n0) (plainFor_of_name pn0) (fun m => ef1_8 m p1 p2 p3 p4) ?_
  intro p e s m below meth c s₁ hx hby hml hown hnm hret hlk X0 e0 hZ hh N0
  show own_Fin p e below _ s₁ (mkF m 0 #[SI p1, SI p2, SI p3, SI p4, SU, SU, SU, SU] [])
  refine own_go (fun _ k => XS.iloadN X0.here hx rfl (hb hby d1_0) rfl (XS.bipush X0.here hx rfl (hb hby d1_1) (XS.iand X0.here hx rfl (hb hby d1_3) rfl (XS.istore X0.here hx rfl (hb hby d1_4) rfl (l' := #[SI p1, SI p2, SI p3, SI p4, SI (p1 &&& (7 : Int32)), SU, SU, SU]) rfl (XS.iloadN X0.here hx rfl (hb hby d1_6) rfl (XS.sipush X0.here hx rfl (hb hby d1_7) (XS.iand X0.here hx rfl (hb hby d1_10) rfl (XS.i2c X0.here hx rfl (hb hby d1_11) rfl (XS.istore X0.here hx rfl (hb hby d1_12) rfl (l' := #[SI p1, SI p2, SI p3, SI p4, SI (p1 &&& (7 : Int32)), SI ((p2 &&& (255 : Int32)).toUInt32.toUInt16.toUInt32.toInt32), SU, SU]) rfl (XS.iloadN X0.here hx rfl (hb hby d1_14) rfl k)))))))))) ?_
  show own_Fin p e below _ s₁ (mkF m 15 #[SI p1, SI p2, SI p3, SI p4, SI (p1 &&& (7 : Int32)), SI ((p2 &&& (255 : Int32)).toUInt32.toUInt16.toUInt32.toInt32), SU, SU] [VI p3])
  refine own_go (fun _ k => XS.sipush X0.here hx rfl (hb hby d1_15) (XS.iand X0.here hx rfl (hb hby d1_18) rfl (XS.i2c X0.here hx rfl (hb hby d1_19) rfl (XS.istore X0.here hx rfl (hb hby d1_20) rfl (l' := #[SI p1, SI p2, SI p3, SI p4, SI (p1 &&& (7 : Int32)), SI ((p2 &&& (255 : Int32)).toUInt32.toUInt16.toUInt32.toInt32), SI ((p3 &&& (255 : Int32)).toUInt32.toUInt16.toUInt32.toInt32), SU]) rfl (XS.iloadN X0.here hx rfl (hb hby d1_22) rfl (XS.sipush X0.here hx rfl (hb hby d1_23) (XS.iand X0.here hx rfl (hb hby d1_26) rfl (XS.i2c X0.here hx rfl (hb hby d1_27) rfl (XS.istore X0.here hx rfl (hb hby d1_28) rfl (l' := #[SI p1, SI p2, SI p3, SI p4, SI (p1 &&& (7 : Int32)), SI ((p2 &&& (255 : Int32)).toUInt32.toUInt16.toUInt32.toInt32), SI ((p3 &&& (255 : Int32)).toUInt32.toUInt16.toUInt32.toInt32), SI ((p4 &&& (255 : Int32)).toUInt32.toUInt16.toUInt32.toInt32)]) rfl (XS.iload X0.here hx rfl (hb hby d1_30) rfl k)))))))))) ?_
  show own_Fin p e below _ s₁ (mkF m 32 #[SI p1, SI p2, SI p3, SI p4, SI (p1 &&& (7 : Int32)), SI ((p2 &&& (255 : Int32)).toUInt32.toUInt16.toUInt32.toInt32), SI ((p3 &&& (255 : Int32)).toUInt32.toUInt16.toUInt32.toInt32), SI ((p4 &&& (255 : Int32)).toUInt32.toUInt16.toUInt32.toInt32)] [VI (p1 &&& (7 : Int32))])
  refine own_go (fun _ k => XS.ifYes X0.here hx rfl (pc0 := 32) (pc' := 46) rfl (hb hby d1_32) rfl ((if0 _ _).trans (feq f5).2) (by decide) (by decide) (XS.iload X0.here hx rfl (hb hby d1_46) rfl (XS.iconst X0.here hx rfl (hb hby d1_48) (XS.icmpYes X0.here hx rfl (pc0 := 49) (pc' := 68) rfl (hb hby d1_49) rfl (feq f6).2 (by decide) (by decide) (XS.iload X0.here hx rfl (hb hby d1_68) rfl (XS.iconst X0.here hx rfl (hb hby d1_70) (XS.icmpYes X0.here hx rfl (pc0 := 71) (pc' := 95) rfl (hb hby d1_71) rfl (feq f7).2 (by decide) (by decide) (XS.iload X0.here hx rfl (hb hby d1_95) rfl (XS.iconst X0.here hx rfl (hb hby d1_97) (XS.icmpYes X0.here hx rfl (pc0 := 98) (pc' := 127) rfl (hb hby d1_98) rfl (feq f8).2 (by decide) (by decide) k)))))))))) ?_
  show own_Fin p e below _ s₁ (mkF m 127 #[SI p1, SI p2, SI p3, SI p4, SI (p1 &&& (7 : Int32)), SI ((p2 &&& (255 : Int32)).toUInt32.toUInt16.toUInt32.toInt32), SI ((p3 &&& (255 : Int32)).toUInt32.toUInt16.toUInt32.toInt32), SI ((p4 &&& (255 : Int32)).toUInt32.toUInt16.toUInt32.toInt32)] [])
  refine own_go (fun _ k => XS.iload X0.here hx rfl (hb hby d1_127) rfl (XS.iconst X0.here hx rfl (hb hby d1_129) (XS.icmpYes X0.here hx rfl (pc0 := 130) (pc' := 135) rfl (hb hby d1_130) rfl (feq f9).2 (by decide) (by decide) (XS.iload X0.here hx rfl (hb hby d1_135) rfl (XS.iconst X0.here hx rfl (hb hby d1_137) (XS.icmpYes X0.here hx rfl (pc0 := 138) (pc' := 147) rfl (hb hby d1_138) rfl (feq f10).2 (by decide) (by decide) (XS.iload X0.here hx rfl (hb hby d1_147) rfl (XS.bipush X0.here hx rfl (hb hby d1_149) (XS.icmpYes X0.here hx rfl (pc0 := 151) (pc' := 175) rfl (hb hby d1_151) rfl (feq f11).2 (by decide) (by decide) k))))))))) ?_
  show own_Fin p e below _ s₁ (mkF m 175 #[SI p1, SI p2, SI p3, SI p4, SI (p1 &&& (7 : Int32)), SI ((p2 &&& (255 : Int32)).toUInt32.toUInt16.toUInt32.toInt32), SI ((p3 &&& (255 : Int32)).toUInt32.toUInt16.toUInt32.toInt32), SI ((p4 &&& (255 : Int32)).toUInt32.toUInt16.toUInt32.toInt32)] [])
  obtain ⟨T12, h12, X12, e12, E12, A12, D12, -, st12⟩ := newO X0 hx hZ hown (WW hw 4) (WW hw 5) (WW hw 6) e0 (g := (mkF m 175 #[SI p1, SI p2, SI p3, SI p4, SI (p1 &&& (7 : Int32)), SI ((p2 &&& (255 : Int32)).toUInt32.toUInt16.toUInt32.toInt32), SI ((p3 &&& (255 : Int32)).toUInt32.toUInt16.toUInt32.toInt32), SI ((p4 &&& (255 : Int32)).toUInt32.toUInt16.toUInt32.toInt32)] [])) rfl (hb hby d1_175) (by decide) (by decide)
  obtain ⟨b12, g12⟩ : ∃ z, z = h0.size := ⟨_, rfl⟩
  rw [← g12] at A12 D12 st12
  have F13 : Fld Z h12 b12 cC0 "value" "[B" (.null) := D12 (Or.inr (WW hw 20)) (ty := (.array .byte)) (by decide)
  have F14 : Fld Z h12 b12 cC0 "coder" "B" (VI 0) := D12 (Or.inr (WW hw 21)) (ty := .byte) (by decide)
  refine own_go st12 ?_
  show own_Fin p e below _ T12 (mkF m 178 #[SI p1, SI p2, SI p3, SI p4, SI (p1 &&& (7 : Int32)), SI ((p2 &&& (255 : Int32)).toUInt32.toUInt16.toUInt32.toInt32), SI ((p3 &&& (255 : Int32)).toUInt32.toUInt16.toUInt32.toInt32), SI ((p4 &&& (255 : Int32)).toUInt32.toUInt16.toUInt32.toInt32)] [VR b12])
  refine own_go (fun _ k => XS.dup X12.here hx rfl (hb hby d1_178) rfl rfl (XS.iconst X12.here hx rfl (hb hby d1_179) k)) ?_
  show own_Fin p e below _ T12 (mkF m 180 #[SI p1, SI p2, SI p3, SI p4, SI (p1 &&& (7 : Int32)), SI ((p2 &&& (255 : Int32)).toUInt32.toUInt16.toUInt32.toInt32), SI ((p3 &&& (255 : Int32)).toUInt32.toUInt16.toUInt32.toInt32), SI ((p4 &&& (255 : Int32)).toUInt32.toUInt16.toUInt32.toInt32)] [VI 3, VR b12, VR b12])
  obtain ⟨T15, h15, k15, X15, e15, E15, A15, st15⟩ := newP X12 hx hZ (WW hw 7) e12 (g := (mkF m 180 #[SI p1, SI p2, SI p3, SI p4, SI (p1 &&& (7 : Int32)), SI ((p2 &&& (255 : Int32)).toUInt32.toUInt16.toUInt32.toInt32), SI ((p3 &&& (255 : Int32)).toUInt32.toUInt16.toUInt32.toInt32), SI ((p4 &&& (255 : Int32)).toUInt32.toUInt16.toUInt32.toInt32)] [VI 3, VR b12, VR b12])) rfl (hb hby d1_180) rfl (by decide) (cap := 3) (by decide) (by decide) (by decide) (by decide)
  obtain ⟨b15, g15⟩ : ∃ z, z = h12.size := ⟨_, rfl⟩
  rw [← g15] at A15 st15
  have V15 : Arv Z h15 b15 k15 .char 3 [VI 0, VI 0, VI 0] (VI 0) := (Arv.new A15 (by decide)).pad (pad_rep [] (.int (0 : Int32)) 3)
  refine own_go st15 ?_
  show own_Fin p e below _ T15 (mkF m 182 #[SI p1, SI p2, SI p3, SI p4, SI (p1 &&& (7 : Int32)), SI ((p2 &&& (255 : Int32)).toUInt32.toUInt16.toUInt32.toInt32), SI ((p3 &&& (255 : Int32)).toUInt32.toUInt16.toUInt32.toInt32), SI ((p4 &&& (255 : Int32)).toUInt32.toUInt16.toUInt32.toInt32)] [VR b15, VR b12, VR b12])
  refine own_go (fun _ k => XS.dup X15.here hx rfl (hb hby d1_182) rfl rfl (XS.iconst X15.here hx rfl (hb hby d1_183) (XS.iload X15.here hx rfl (hb hby d1_184) rfl k))) ?_
  show own_Fin p e below _ T15 (mkF m 186 #[SI p1, SI p2, SI p3, SI p4, SI (p1 &&& (7 : Int32)), SI ((p2 &&& (255 : Int32)).toUInt32.toUInt16.toUInt32.toInt32), SI ((p3 &&& (255 : Int32)).toUInt32.toUInt16.toUInt32.toInt32), SI ((p4 &&& (255 : Int32)).toUInt32.toUInt16.toUInt32.toInt32)] [VI ((p4 &&& (255 : Int32)).toUInt32.toUInt16.toUInt32.toInt32), VI 0, VR b15, VR b15, VR b12, VR b12])
  obtain ⟨cl16, Ar16, q16, Sz16, Nn16, Hs16, Gg16⟩ := id V15
  have i17 : ¬ ((0 : Int32) < 0 ∨ cl16.slots.size ≤ ((0 : Int32)).toNatClampNeg) := inb_of Sz16 ⟨(by decide : ¬ ((0 : Int32) < (0 : Int32))), (by decide : (0 : Int32) < (3 : Int32))⟩
  obtain ⟨T18, h18, X18, e18, W18, st18⟩ := stC X15 hx hZ e15 Ar16 (j := (0 : Int32)) i17 (g := (mkF m 186 #[SI p1, SI p2, SI p3, SI p4, SI (p1 &&& (7 : Int32)), SI ((p2 &&& (255 : Int32)).toUInt32.toUInt16.toUInt32.toInt32), SI ((p3 &&& (255 : Int32)).toUInt32.toUInt16.toUInt32.toInt32), SI ((p4 &&& (255 : Int32)).toUInt32.toUInt16.toUInt32.toInt32)] [VI ((p4 &&& (255 : Int32)).toUInt32.toUInt16.toUInt32.toInt32), VI 0, VR b15, VR b15, VR b12, VR b12])) rfl rfl (hb hby d1_186)
  have z20 : h0.size ≤ h12.size := E12.1
  have u19 : n0 ≤ b15 := Nat.le_trans Z0 (Nat.le_trans z20 (Nat.le_of_eq g15.symm))
  have N18 := Fr.snoc X18 N0 u19
  have V18 : Arv Z h18 b15 k15 .char 3 [VI (nar .char ((p4 &&& (255 : Int32)).toUInt32.toUInt16.toUInt32.toInt32)), VI 0, VI 0] (VI 0) := Arv.set Ar16 q16 Sz16 Nn16 Hs16 Gg16 (fits_nar_char _) W18 0 rfl (Nat.le_of_ble_eq_true rfl)
  refine own_go st18 ?_
  show own_Fin p e below _ T18 (mkF m 187 #[SI p1, SI p2, SI p3, SI p4, SI (p1 &&& (7 : Int32)), SI ((p2 &&& (255 : Int32)).toUInt32.toUInt16.toUInt32.toInt32), SI ((p3 &&& (255 : Int32)).toUInt32.toUInt16.toUInt32.toInt32), SI ((p4 &&& (255 : Int32)).toUInt32.toUInt16.toUInt32.toInt32)] [VR b15, VR b12, VR b12])
  refine own_go (fun _ k => XS.dup X18.here hx rfl (hb hby d1_187) rfl rfl (XS.iconst X18.here hx rfl (hb hby d1_188) (XS.iload X18.here hx rfl (hb hby d1_189) rfl k))) ?_
  show own_Fin p e below _ T18 (mkF m 191 #[SI p1, SI p2, SI p3, SI p4, SI (p1 &&& (7 : Int32)), SI ((p2 &&& (255 : Int32)).toUInt32.toUInt16.toUInt32.toInt32), SI ((p3 &&& (255 : Int32)).toUInt32.toUInt16.toUInt32.toInt32), SI ((p4 &&& (255 : Int32)).toUInt32.toUInt16.toUInt32.toInt32)] [VI ((p3 &&& (255 : Int32)).toUInt32.toUInt16.toUInt32.toInt32), VI 1, VR b15, VR b15, VR b12, VR b12])
  obtain ⟨cl21, Ar21, q21, Sz21, Nn21, Hs21, Gg21⟩ := id V18
  have i22 : ¬ ((1 : Int32) < 0 ∨ cl21.slots.size ≤ ((1 : Int32)).toNatClampNeg) := inb_of Sz21 ⟨(by decide : ¬ ((1 : Int32) < (0 : Int32))), (by decide : (1 : Int32) < (3 : Int32))⟩
  obtain ⟨T23, h23, X23, e23, W23, st23⟩ := stC X18 hx hZ e18 Ar21 (j := (1 : Int32)) i22 (g := (mkF m 191 #[SI p1, SI p2, SI p3, SI p4, SI (p1 &&& (7 : Int32)), SI ((p2 &&& (255 : Int32)).toUInt32.toUInt16.toUInt32.toInt32), SI ((p3 &&& (255 : Int32)).toUInt32.toUInt16.toUInt32.toInt32), SI ((p4 &&& (255 : Int32)).toUInt32.toUInt16.toUInt32.toInt32)] [VI ((p3 &&& (255 : Int32)).toUInt32.toUInt16.toUInt32.toInt32), VI 1, VR b15, VR b15, VR b12, VR b12])) rfl rfl (hb hby d1_191)
  have N23 := Fr.snoc X23 N18 u19
  have V23 : Arv Z h23 b15 k15 .char 3 [VI (nar .char ((p4 &&& (255 : Int32)).toUInt32.toUInt16.toUInt32.toInt32)), VI (nar .char ((p3 &&& (255 : Int32)).toUInt32.toUInt16.toUInt32.toInt32)), VI 0] (VI 0) := Arv.set Ar21 q21 Sz21 Nn21 Hs21 Gg21 (fits_nar_char _) W23 1 rfl (Nat.le_of_ble_eq_true rfl)
  refine own_go st23 ?_
  show own_Fin p e below _ T23 (mkF m 192 #[SI p1, SI p2, SI p3, SI p4, SI (p1 &&& (7 : Int32)), SI ((p2 &&& (255 : Int32)).toUInt32.toUInt16.toUInt32.toInt32), SI ((p3 &&& (255 : Int32)).toUInt32.toUInt16.toUInt32.toInt32), SI ((p4 &&& (255 : Int32)).toUInt32.toUInt16.toUInt32.toInt32)] [VR b15, VR b12, VR b12])
  refine own_go (fun _ k => XS.dup X23.here hx rfl (hb hby d1_192) rfl rfl (XS.iconst X23.here hx rfl (hb hby d1_193) (XS.iload X23.here hx rfl (hb hby d1_194) rfl k))) ?_
  show own_Fin p e below _ T23 (mkF m 196 #[SI p1, SI p2, SI p3, SI p4, SI (p1 &&& (7 : Int32)), SI ((p2 &&& (255 : Int32)).toUInt32.toUInt16.toUInt32.toInt32), SI ((p3 &&& (255 : Int32)).toUInt32.toUInt16.toUInt32.toInt32), SI ((p4 &&& (255 : Int32)).toUInt32.toUInt16.toUInt32.toInt32)] [VI ((p2 &&& (255 : Int32)).toUInt32.toUInt16.toUInt32.toInt32), VI 2, VR b15, VR b15, VR b12, VR b12])
  obtain ⟨cl24, Ar24, q24, Sz24, Nn24, Hs24, Gg24⟩ := id V23
  have i25 : ¬ ((2 : Int32) < 0 ∨ cl24.slots.size ≤ ((2 : Int32)).toNatClampNeg) := inb_of Sz24 ⟨(by decide : ¬ ((2 : Int32) < (0 : Int32))), (by decide : (2 : Int32) < (3 : Int32))⟩
  obtain ⟨T26, h26, X26, e26, W26, st26⟩ := stC X23 hx hZ e23 Ar24 (j := (2 : Int32)) i25 (g := (mkF m 196 #[SI p1, SI p2, SI p3, SI p4, SI (p1 &&& (7 : Int32)), SI ((p2 &&& (255 : Int32)).toUInt32.toUInt16.toUInt32.toInt32), SI ((p3 &&& (255 : Int32)).toUInt32.toUInt16.toUInt32.toInt32), SI ((p4 &&& (255 : Int32)).toUInt32.toUInt16.toUInt32.toInt32)] [VI ((p2 &&& (255 : Int32)).toUInt32.toUInt16.toUInt32.toInt32), VI 2, VR b15, VR b15, VR b12, VR b12])) rfl rfl (hb hby d1_196)
  have N26 := Fr.snoc X26 N23 u19
  have V26 : Arv Z h26 b15 k15 .char 3 [VI (nar .char ((p4 &&& (255 : Int32)).toUInt32.toUInt16.toUInt32.toInt32)), VI (nar .char ((p3 &&& (255 : Int32)).toUInt32.toUInt16.toUInt32.toInt32)), VI (nar .char ((p2 &&& (255 : Int32)).toUInt32.toUInt16.toUInt32.toInt32))] (VI 0) := Arv.set Ar24 q24 Sz24 Nn24 Hs24 Gg24 (fits_nar_char _) W26 2 rfl (Nat.le_of_ble_eq_true rfl)
  refine own_go st26 ?_
  show own_Fin p e below _ T26 (mkF m 197 #[SI p1, SI p2, SI p3, SI p4, SI (p1 &&& (7 : Int32)), SI ((p2 &&& (255 : Int32)).toUInt32.toUInt16.toUInt32.toInt32), SI ((p3 &&& (255 : Int32)).toUInt32.toUInt16.toUInt32.toInt32), SI ((p4 &&& (255 : Int32)).toUInt32.toUInt16.toUInt32.toInt32)] [VR b15, VR b12, VR b12])
  have F28 : Exa Z h26 b12 cC0 := ((((A12.ext E15).wr W18).wr W23).wr W26)
  have v29 : b12 ≠ b15 := Nat.ne_of_lt (Nat.lt_of_lt_of_le A12.lt (Nat.le_of_eq g15.symm))
  have F30 : Fld Z h26 b12 cC0 "value" "[B" (.null) := ((((F13.ext E15).other W18 (Or.inl v29)).other W23 (Or.inl v29)).other W26 (Or.inl v29))
  have F31 : Fld Z h26 b12 cC0 "coder" "B" (VI 0) := ((((F14.ext E15).other W18 (Or.inl v29)).other W23 (Or.inl v29)).other W26 (Or.inl v29))
  have O35 : Old Z n0 h26 := (((((f34.ext E12).ext E15).wr W18 u19).wr W23 u19).wr W26 u19)
  have hws : ∀ d ∈ StrChars.Road.words, d.before a0 Z = true := fun d hd => hw d ((by decide +kernel : ∀ d ∈ StrChars.Road.words, d ∈ tables_1) d hd)
  have hp37 : ∀ c ∈ ([(nar .char ((p4 &&& (255 : Int32)).toUInt32.toUInt16.toUInt32.toInt32)), (nar .char ((p3 &&& (255 : Int32)).toUInt32.toUInt16.toUInt32.toInt32)), (nar .char ((p2 &&& (255 : Int32)).toUInt32.toUInt16.toUInt32.toInt32))] : List Int32), ¬ c < 0 ∧ ¬ (255 : Int32) < c := (own_allS (own_and255 p4) (own_allS (own_and255 p3) (own_allS (own_and255 p2) own_all0)))
  have u38 : n0 ≤ b12 := Nat.le_trans Z0 (Nat.le_of_eq g12.symm)
  have z39 : h0.size ≤ h15.size := Nat.le_trans z20 E15.1
  have z40 : h0.size ≤ h18.size := Nat.le_trans z39 (Nat.le_of_eq (Wr.size W18).symm)
  have z41 : h0.size ≤ h23.size := Nat.le_trans z40 (Nat.le_of_eq (Wr.size W23).symm)
  have z42 : h0.size ≤ h26.size := Nat.le_trans z41 (Nat.le_of_eq (Wr.size W26).symm)
  obtain ⟨_, _, ⟨T27, L27, k27, n27⟩, -, X27, ⟨Lc27, hQ27, l27, y27, z27⟩, st27⟩ := X26.specialBack hx (y := yM1) rfl hown (mvT hZ (WW hw 8)) (mvT hZ (WW hw 9)) (mvT hZ (WW hw 10)) (by decide) (StrChars.Road.backV (W := 1) hZ hws (kI := 4) (WW hw 5) (cs := ([(nar .char ((p4 &&& (255 : Int32)).toUInt32.toUInt16.toUInt32.toInt32)), (nar .char ((p3 &&& (255 : Int32)).toUInt32.toUInt16.toUInt32.toInt32)), (nar .char ((p2 &&& (255 : Int32)).toUInt32.toUInt16.toUInt32.toInt32))] : List Int32)) (bs := ([(nar .char ((p4 &&& (255 : Int32)).toUInt32.toUInt16.toUInt32.toInt32)), (nar .char ((p3 &&& (255 : Int32)).toUInt32.toUInt16.toUInt32.toInt32)), (nar .char ((p2 &&& (255 : Int32)).toUInt32.toUInt16.toUInt32.toInt32))] : List Int32).map (fun c => c.toInt8.toInt32)) (n := 3) u38 (Nat.le_trans Z0 z42) F28 F30 F31 V26 (f33.ext O35.2) f36 rfl rfl (by decide) (by decide) hp37 rfl (by decide) (by decide)) (g := (mkF m 197 #[SI p1, SI p2, SI p3, SI p4, SI (p1 &&& (7 : Int32)), SI ((p2 &&& (255 : Int32)).toUInt32.toUInt16.toUInt32.toInt32), SI ((p3 &&& (255 : Int32)).toUInt32.toUInt16.toUInt32.toInt32), SI ((p4 &&& (255 : Int32)).toUInt32.toUInt16.toUInt32.toInt32)] [VR b15, VR b12, VR b12])) rfl (by rw [hml]; rfl) (Steps.refl _) (a := b12) (argsL := [VR b15]) (rest := [VR b12]) (lenOf pd1 rfl) rfl (by show 2 * 0 + _ ≤ _; exact Nat.le_of_eq rfl) (hb hby d1_197) (fun _ _ => ⟨rfl, e26, (by decide : 2 + 1 ≤ _), (by decide : 7 + 3 ≤ _)⟩)
  dsimp only [Pt.U, Pt.locs, Pt.cells, Pt.slots] at X27 l27 y27 z27 st27 hQ27
  subst l27 y27 z27
  obtain ⟨rfl, N27q, K27, oE27, oC27, t27, kb27, -, lo27, nt27, oV27, oA27⟩ := hQ27
  have N27 := Fr.app N26 N27q
  refine own_go (fun _ k => st27.trans k) ?_
  show own_Fin p e below _ T27 (mkF m 200 #[SI p1, SI p2, SI p3, SI p4, SI (p1 &&& (7 : Int32)), SI ((p2 &&& (255 : Int32)).toUInt32.toUInt16.toUInt32.toInt32), SI ((p3 &&& (255 : Int32)).toUInt32.toUInt16.toUInt32.toInt32), SI ((p4 &&& (255 : Int32)).toUInt32.toUInt16.toUInt32.toInt32)] [VR b12])
  have K43 : Keep h0 T27.heap [] := (((((((Keep.refl h0 []).ext E12).ext E15).wr W18 (Or.inr (Nat.le_trans z20 (Nat.le_of_eq g15.symm)))).wr W23 (Or.inr (Nat.le_trans z20 (Nat.le_of_eq g15.symm)))).wr W26 (Or.inr (Nat.le_trans z20 (Nat.le_of_eq g15.symm)))).trans K27 (allS (Or.inr (Nat.le_of_eq g12.symm)) all0))
  obtain ⟨fs, hr, hrun, hended, hW, hsame⟩ := X27.leave (v := some (.ref b12)) (fun h => by rw [hret] at h; cases h)
  refine own_end (retOut X27 hx hret rfl (Or.inr (Or.inr (Or.inr (Or.inr ⟨rfl, rfl, rfl⟩)))) (hb hby d1_200) hr) hrun hended ⟨_, _, rfl, ?_, ⟨_, rfl⟩, hW, hsame.mono (by decide) (by decide)⟩
  show Q1_8 Z p1 p2 p3 p4 p32 h0 n0 _ T27.heap _
  exact ⟨b12, t27, kb27, rfl, N27, K43, (Nat.le_of_eq g12.symm), (Nat.le_trans z42 lo27), (Ne.symm nt27), oE27, oC27, oV27, oA27⟩
theorem ef0 (m : MethodId) (p1 : Int32) (p2 : Int32) (p3 : Int32) (p4 : Int32) : entryFrame m #[(.int p1), (.int p2), (.int p3), (.int p4)] maxLocals = mkF m 0 #[SI p1, SI p2, SI p3, SI p4, SU, SU, SU] [] := by first | (simp [entryFrame, mkF, argsToLocals, Value.category, maxLocals]; done) | rfl
set_option maxRecDepth 65536 in
set_option maxHeartbeats 40000000 in
theorem rm0 (l : Launch) (Z : State) (a0 : Array Value) (hw : HW a0 Z) (ws : List Jvm.Cond) (p1 : Int32) (p2 : Int32) (p3 : Int32) (p4 : Int32) (G1 : Int32) (wF : Addr) (h0 : Heap) (n0 : Nat) (Z0 : n0 ≤ h0.size) (X00 : Old Z n0 h0) (O_G1 : Sta Z Z.heap "java/lang/String" "COMPACT_STRINGS" "Z" (.int G1)) (P_G1 : ¬ (G1 = (0 : Int32))) (O_wF : Sta Z Z.heap "com/example/wito/wito/delivery/Verdict$Outcome" "FAILED" "Lcom/example/wito/wito/delivery/Verdict$Outcome;" (.ref wF)) (E_wF : Exa Z h0 wF "com/example/wito/wito/delivery/Verdict$Outcome") :
    MetFree l x (head1 (Jvm.Cond.code x code maxLocals ret :: ws) room_1) (fun a U => a = #[(.int p1), (.int p2), (.int p3), (.int p4)] ∧ Z.Warmed39 U.vm ∧ U.heap = h0 ∧ CHv Z own_EL U.vm h0) (fun _ _ _ _ _ => True) (fun _ U o U' => ∃ v L, o = .returned v ∧ Q0 n0 v U'.heap L ∧ ReturnedEndW U o U' L 24 1152) := by
  refine own_enterH (n0 := n0) (plainFor_of_name pn0) (fun m => ef0 m p1 p2 p3 p4) ?_
  intro p e s m below meth c s₁ hx hby hml hown hnm hret hlk XY0 e0 hZ hh N0 hC0
  replace hml : c.maxLocals = 7 := hml
  have X0 : Stand p l e room_1 (s.setVm s.vm) m _ below meth c s₁ [] 0 0 := XY0
  have hS0 : s.Since s.vm h0.size := (State.WarmedH.refl s).since _
  have hk0 : h0.size ≤ h0.size := Nat.le_refl _
  have hEL : EW Z a0 own_EL := (EW.cons (WW hw 18) (by decide) EW.nil)
  have hR0 : CHr Z own_EL s.vm h0 s.vm h0 := CHr.refl hC0
  show own_Fin p e below _ s₁ (mkF m 0 #[SI p1, SI p2, SI p3, SI p4, SU, SU, SU] [])
  refine own_go (fun _ k => XS.iloadN X0.here hx rfl (hb hby at_0) rfl (XS.iloadN X0.here hx rfl (hb hby at_1) rfl (XS.iloadN X0.here hx rfl (hb hby at_2) rfl (XS.iloadN X0.here hx rfl (hb hby at_3) rfl k)))) ?_
  show own_Fin p e below _ s₁ (mkF m 4 #[SI p1, SI p2, SI p3, SI p4, SU, SU, SU] [VI p4, VI p3, VI p2, VI p1])
  by_cases hc0 : (p1 &&& (7 : Int32)) = (0 : Int32)
  ·
    obtain ⟨_, T101, L101, X101, hQ101, hS101, hZ101, ho101, hC101, st101⟩ := own_cSH (vm0 := (s.setVm s.vm).vm) X0 hx hZ hown hS0 hk0 hEL hR0.1 (WW hw 0) (WW hw 1) (WW hw 2) (WW hw 3) (rm1_1 l Z a0 hw [] p1 p2 p3 p4 h0 n0 Z0 hc0) e0 hml (g := (mkF m 4 #[SI p1, SI p2, SI p3, SI p4, SU, SU, SU] [VI p4, VI p3, VI p2, VI p1])) pd2 (hb hby at_4) [VI p1, VI p2, VI p3, VI p4] [] (W := 0)
    have hR101 := hR0.trans hC101
    obtain ⟨b6_101, b10_9_15_101, kb10_9_15_101, rfl, N101q, K101, lob6_101, o0_101, o1_101, o2_101, o3_101⟩ := hQ101
    have N101 := Fr.app N0 N101q
    refine own_go st101 ?_
    show own_Fin p e below _ T101 (mkF m 7 #[SI p1, SI p2, SI p3, SI p4, SU, SU, SU] [VR b6_101])
    refine own_go (fun _ k => XS.astore X101.here hx rfl (hb hby at_7) rfl rfl (l' := #[SI p1, SI p2, SI p3, SI p4, SR b6_101, SU, SU]) rfl (XS.aload X101.here hx rfl (hb hby at_9) rfl rfl k)) ?_
    show own_Fin p e below _ T101 (mkF m 11 #[SI p1, SI p2, SI p3, SI p4, SR b6_101, SU, SU] [VR b6_101])
    have O102 : Old Z n0 T101.heap := (X00.keep K101 all0)
    have z104 : h0.size ≤ T101.heap.size := K101.1
    obtain ⟨_, T103, L103, X103, hQ103, st103⟩ := own_cS X101 hx hZ101 ho101 (WW hw 26) (WW hw 27) (WW hw 28) (WW hw 29) (rm5_1 l Z a0 hw [] b6_101 wF T101.heap n0 (Nat.le_trans Z0 z104) O_wF O102) rfl hml (g := (mkF m 11 #[SI p1, SI p2, SI p3, SI p4, SR b6_101, SU, SU] [VR b6_101])) pd4 (hb hby at_11) [VR b6_101] [] (W := 0)
    obtain ⟨b2_103, rfl, N103q, K103, lob2_103, o0_103, o1_103, o2_103, o3_103⟩ := hQ103
    have hR105 := hR101.trans (CHr.keep K103 all0 hR101.1)
    have N103 := Fr.app N101 N103q
    refine own_go st103 ?_
    show own_Fin p e below _ T103 (mkF m 14 #[SI p1, SI p2, SI p3, SI p4, SR b6_101, SU, SU] [VR b2_103])
    refine own_go (fun _ k => XS.astore X103.here hx rfl (hb hby at_14) rfl rfl (l' := #[SI p1, SI p2, SI p3, SI p4, SR b6_101, SR b2_103, SU]) rfl (XS.aload X103.here hx rfl (hb hby at_16) rfl rfl (XS.ifnonnullYes X103.here hx rfl (pc0 := 18) (pc' := 23) rfl (hb hby at_18) rfl (by decide) (by decide) (XS.aload X103.here hx rfl (hb hby at_23) rfl rfl k)))) ?_
    show own_Fin p e below _ T103 (mkF m 25 #[SI p1, SI p2, SI p3, SI p4, SR b6_101, SR b2_103, SU] [VR b2_103])
    have z107 : h0.size ≤ T103.heap.size := Nat.le_trans z104 K103.1
    obtain ⟨_, T106, L106, X106, hQ106, st106⟩ := own_cV X103 hx hZ101 ho101 (WW hw 45) (WW hw 46) (notFace_of_selects (args := #[]) (mvT hZ101 (WW hw 48))) (WW hw 48) (WW hw 47) (WW hw 28) (WW hw 49) (rm7_1 l Z a0 hw [] b2_103 wF T103.heap n0 (Nat.le_trans Z0 z107) o1_103) rfl o0_103 hml (g := (mkF m 25 #[SI p1, SI p2, SI p3, SI p4, SR b6_101, SR b2_103, SU] [VR b2_103])) pd5 (hb hby at_25) [] [] (W := 0)
    obtain ⟨rfl, N106q, e106⟩ := hQ106
    have N106 := Fr.app N103 N106q
    refine own_go st106 ?_
    show own_Fin p e below _ T106 (mkF m 28 #[SI p1, SI p2, SI p3, SI p4, SR b6_101, SR b2_103, SU] [VR wF])
    have O108 : Old Z n0 T103.heap := (O102.keep K103 all0)
    obtain ⟨T109, X109, e109, st109⟩ := getS2 X106 hx hZ101 ho101 (host := "") (Or.inl (WW hw 50)) Via.refl e106 (O_wF.ext O108.2) (g := (mkF m 28 #[SI p1, SI p2, SI p3, SI p4, SR b6_101, SR b2_103, SU] [VR wF])) rfl (hb hby at_28)
    refine own_go st109 ?_
    show own_Fin p e below _ T109 (mkF m 31 #[SI p1, SI p2, SI p3, SI p4, SR b6_101, SR b2_103, SU] [VR wF, VR wF])
    refine own_go (fun _ k => Jvm.RoadKit.acmp (g := (mkF m 31 #[SI p1, SI p2, SI p3, SI p4, SR b6_101, SR b2_103, SU] [VR wF, VR wF])) X109 hx rfl rfl rfl (pc0 := 31) (pc' := 36) (same := true) rfl (hb hby at_31) rfl (decide_eq_true rfl) (by decide) (by decide) (XS.aload X109.here hx rfl (hb hby at_36) rfl rfl k)) ?_
    show own_Fin p e below _ T109 (mkF m 38 #[SI p1, SI p2, SI p3, SI p4, SR b6_101, SR b2_103, SU] [VR b2_103])
    obtain ⟨_, T110, L110, X110, hQ110, st110⟩ := own_cV X109 hx hZ101 ho101 (WW hw 51) (WW hw 52) (notFace_of_selects (args := #[]) (mvT hZ101 (WW hw 54))) (WW hw 54) (WW hw 53) (WW hw 28) (WW hw 55) (rm8_1 l Z a0 hw [] b2_103 T103.heap n0 (Nat.le_trans Z0 z107) o3_103) e109 o0_103 hml (g := (mkF m 38 #[SI p1, SI p2, SI p3, SI p4, SR b6_101, SR b2_103, SU] [VR b2_103])) pd6 (hb hby at_38) [] [] (W := 0)
    obtain ⟨rfl, N110q, e110⟩ := hQ110
    have N110 := Fr.app N106 N110q
    refine own_go st110 ?_
    show own_Fin p e below _ T110 (mkF m 41 #[SI p1, SI p2, SI p3, SI p4, SR b6_101, SR b2_103, SU] [VI 0])
    refine own_go (fun _ k => XS.ifYes X110.here hx rfl (pc0 := 41) (pc' := 46) rfl (hb hby at_41) rfl ((if0 _ _).trans (teq (by decide : (0 : Int32) = (0 : Int32))).1) (by decide) (by decide) (XS.aload X110.here hx rfl (hb hby at_46) rfl rfl k)) ?_
    show own_Fin p e below _ T110 (mkF m 48 #[SI p1, SI p2, SI p3, SI p4, SR b6_101, SR b2_103, SU] [VR b2_103])
    obtain ⟨_, T111, L111, X111, hQ111, st111⟩ := own_cV X110 hx hZ101 ho101 (WW hw 56) (WW hw 57) (notFace_of_selects (args := #[]) (mvT hZ101 (WW hw 59))) (WW hw 59) (WW hw 58) (WW hw 28) (WW hw 60) (rm9_1 l Z a0 hw [] b2_103 b6_101 T103.heap n0 (Nat.le_trans Z0 z107) o2_103) e110 o0_103 hml (g := (mkF m 48 #[SI p1, SI p2, SI p3, SI p4, SR b6_101, SR b2_103, SU] [VR b2_103])) pd7 (hb hby at_48) [] [] (W := 0)
    obtain ⟨rfl, N111q, e111⟩ := hQ111
    have N111 := Fr.app N110 N111q
    refine own_go st111 ?_
    show own_Fin p e below _ T111 (mkF m 51 #[SI p1, SI p2, SI p3, SI p4, SR b6_101, SR b2_103, SU] [VR b6_101])
    refine own_go (fun _ k => XS.astore X111.here hx rfl (hb hby at_51) rfl rfl (l' := #[SI p1, SI p2, SI p3, SI p4, SR b6_101, SR b2_103, SR b6_101]) rfl (XS.aload X111.here hx rfl (hb hby at_53) rfl rfl (XS.ifnonnullYes X111.here hx rfl (pc0 := 55) (pc' := 69) rfl (hb hby at_55) rfl (by decide) (by decide) (XS.aload X111.here hx rfl (hb hby at_69) rfl rfl (XS.aload X111.here hx rfl (hb hby at_71) rfl rfl k))))) ?_
    show own_Fin p e below _ T111 (mkF m 73 #[SI p1, SI p2, SI p3, SI p4, SR b6_101, SR b2_103, SR b6_101] [VR b6_101, VR b6_101])
    have F112 : Exa Z T103.heap b6_101 cC0 := (o0_101.keep K103)
    obtain ⟨_, T113, L113, X113, hQ113, st113⟩ := own_cV X111 hx hZ101 ho101 (WW hw 61) (WW hw 62) (notFace_of_selects (args := #[]) (mvT hZ101 (WW hw 64))) (WW hw 64) (WW hw 63) (WW hw 6) (WW hw 65) (rm10_1 l Z a0 hw [] b6_101 T103.heap n0 (Nat.le_trans Z0 z107) ) e111 F112 hml (g := (mkF m 73 #[SI p1, SI p2, SI p3, SI p4, SR b6_101, SR b2_103, SR b6_101] [VR b6_101, VR b6_101])) pd8 (hb hby at_73) [VR b6_101] [] (W := 0)
    obtain ⟨rfl, N113q, e113⟩ := hQ113
    have N113 := Fr.app N111 N113q
    refine own_go st113 ?_
    show own_Fin p e below _ T113 (mkF m 76 #[SI p1, SI p2, SI p3, SI p4, SR b6_101, SR b2_103, SR b6_101] [VI 1])
    have z114 : T101.heap.size ≤ T103.heap.size := K103.1
    obtain ⟨fs, hr, hrun, hended, hend⟩ := Jvm.Stand.leaveW X113 hS101 (by rw [e113]; exact (Nat.le_trans (Nat.le_refl _) z114)) (v := some (.int (1 : Int32))) (fun h => by rw [hret] at h; cases h)
    refine own_end (retN X113 hx (t := .boolean) hret (by simp) (hb hby at_76) hr) hrun hended ⟨_, _, rfl, ?_, hend.1, hend.2.1, hend.2.2.1, hend.2.2.2.mono (by decide) (by decide)⟩
    show Q0 n0 _ T113.heap _
    rw [e113]
    exact ⟨rfl, N113⟩
  ·
    by_cases hc1 : (p1 &&& (7 : Int32)) = (1 : Int32)
    ·
      obtain ⟨_, T101, L101, X101, hQ101, st101⟩ := own_cS X0 hx hZ hown (WW hw 0) (WW hw 1) (WW hw 2) (WW hw 3) (rm1_2 l Z a0 hw [] p1 p2 p3 p4 G1 h0 n0 Z0 hc0 hc1 O_G1 X00 P_G1) e0 hml (g := (mkF m 4 #[SI p1, SI p2, SI p3, SI p4, SU, SU, SU] [VI p4, VI p3, VI p2, VI p1])) pd2 (hb hby at_4) [VI p1, VI p2, VI p3, VI p4] [] (W := 0)
      obtain ⟨b7_101, t16_101, kb16_101, rfl, N101q, K101, lob7_101, lot16_101, neb7t16_101, o0_101, o1_101, o2_101, o3_101⟩ := hQ101
      have hR102 := hR0.trans (CHr.keep K101 all0 hR0.1)
      have N101 := Fr.app N0 N101q
      refine own_go st101 ?_
      show own_Fin p e below _ T101 (mkF m 7 #[SI p1, SI p2, SI p3, SI p4, SU, SU, SU] [VR b7_101])
      refine own_go (fun _ k => XS.astore X101.here hx rfl (hb hby at_7) rfl rfl (l' := #[SI p1, SI p2, SI p3, SI p4, SR b7_101, SU, SU]) rfl (XS.aload X101.here hx rfl (hb hby at_9) rfl rfl k)) ?_
      show own_Fin p e below _ T101 (mkF m 11 #[SI p1, SI p2, SI p3, SI p4, SR b7_101, SU, SU] [VR b7_101])
      have O103 : Old Z n0 T101.heap := (X00.keep K101 all0)
      have z105 : h0.size ≤ T101.heap.size := K101.1
      obtain ⟨_, T104, L104, X104, hQ104, st104⟩ := own_cS X101 hx hZ hown (WW hw 26) (WW hw 27) (WW hw 28) (WW hw 29) (rm5_1 l Z a0 hw [] b7_101 wF T101.heap n0 (Nat.le_trans Z0 z105) O_wF O103) rfl hml (g := (mkF m 11 #[SI p1, SI p2, SI p3, SI p4, SR b7_101, SU, SU] [VR b7_101])) pd4 (hb hby at_11) [VR b7_101] [] (W := 0)
      obtain ⟨b2_104, rfl, N104q, K104, lob2_104, o0_104, o1_104, o2_104, o3_104⟩ := hQ104
      have hR106 := hR102.trans (CHr.keep K104 all0 hR102.1)
      have N104 := Fr.app N101 N104q
      refine own_go st104 ?_
      show own_Fin p e below _ T104 (mkF m 14 #[SI p1, SI p2, SI p3, SI p4, SR b7_101, SU, SU] [VR b2_104])
      refine own_go (fun _ k => XS.astore X104.here hx rfl (hb hby at_14) rfl rfl (l' := #[SI p1, SI p2, SI p3, SI p4, SR b7_101, SR b2_104, SU]) rfl (XS.aload X104.here hx rfl (hb hby at_16) rfl rfl (XS.ifnonnullYes X104.here hx rfl (pc0 := 18) (pc' := 23) rfl (hb hby at_18) rfl (by decide) (by decide) (XS.aload X104.here hx rfl (hb hby at_23) rfl rfl k)))) ?_
      show own_Fin p e below _ T104 (mkF m 25 #[SI p1, SI p2, SI p3, SI p4, SR b7_101, SR b2_104, SU] [VR b2_104])
      have z108 : h0.size ≤ T104.heap.size := Nat.le_trans z105 K104.1
      obtain ⟨_, T107, L107, X107, hQ107, st107⟩ := own_cV X104 hx hZ hown (WW hw 45) (WW hw 46) (notFace_of_selects (args := #[]) (mvT hZ (WW hw 48))) (WW hw 48) (WW hw 47) (WW hw 28) (WW hw 49) (rm7_1 l Z a0 hw [] b2_104 wF T104.heap n0 (Nat.le_trans Z0 z108) o1_104) rfl o0_104 hml (g := (mkF m 25 #[SI p1, SI p2, SI p3, SI p4, SR b7_101, SR b2_104, SU] [VR b2_104])) pd5 (hb hby at_25) [] [] (W := 0)
      obtain ⟨rfl, N107q, e107⟩ := hQ107
      have N107 := Fr.app N104 N107q
      refine own_go st107 ?_
      show own_Fin p e below _ T107 (mkF m 28 #[SI p1, SI p2, SI p3, SI p4, SR b7_101, SR b2_104, SU] [VR wF])
      have O109 : Old Z n0 T104.heap := (O103.keep K104 all0)
      obtain ⟨T110, X110, e110, st110⟩ := getS2 X107 hx hZ hown (host := "") (Or.inl (WW hw 50)) Via.refl e107 (O_wF.ext O109.2) (g := (mkF m 28 #[SI p1, SI p2, SI p3, SI p4, SR b7_101, SR b2_104, SU] [VR wF])) rfl (hb hby at_28)
      refine own_go st110 ?_
      show own_Fin p e below _ T110 (mkF m 31 #[SI p1, SI p2, SI p3, SI p4, SR b7_101, SR b2_104, SU] [VR wF, VR wF])
      refine own_go (fun _ k => Jvm.RoadKit.acmp (g := (mkF m 31 #[SI p1, SI p2, SI p3, SI p4, SR b7_101, SR b2_104, SU] [VR wF, VR wF])) X110 hx rfl rfl rfl (pc0 := 31) (pc' := 36) (same := true) rfl (hb hby at_31) rfl (decide_eq_true rfl) (by decide) (by decide) (XS.aload X110.here hx rfl (hb hby at_36) rfl rfl k)) ?_
      show own_Fin p e below _ T110 (mkF m 38 #[SI p1, SI p2, SI p3, SI p4, SR b7_101, SR b2_104, SU] [VR b2_104])
      obtain ⟨_, T111, L111, X111, hQ111, st111⟩ := own_cV X110 hx hZ hown (WW hw 51) (WW hw 52) (notFace_of_selects (args := #[]) (mvT hZ (WW hw 54))) (WW hw 54) (WW hw 53) (WW hw 28) (WW hw 55) (rm8_1 l Z a0 hw [] b2_104 T104.heap n0 (Nat.le_trans Z0 z108) o3_104) e110 o0_104 hml (g := (mkF m 38 #[SI p1, SI p2, SI p3, SI p4, SR b7_101, SR b2_104, SU] [VR b2_104])) pd6 (hb hby at_38) [] [] (W := 0)
      obtain ⟨rfl, N111q, e111⟩ := hQ111
      have N111 := Fr.app N107 N111q
      refine own_go st111 ?_
      show own_Fin p e below _ T111 (mkF m 41 #[SI p1, SI p2, SI p3, SI p4, SR b7_101, SR b2_104, SU] [VI 0])
      refine own_go (fun _ k => XS.ifYes X111.here hx rfl (pc0 := 41) (pc' := 46) rfl (hb hby at_41) rfl ((if0 _ _).trans (teq (by decide : (0 : Int32) = (0 : Int32))).1) (by decide) (by decide) (XS.aload X111.here hx rfl (hb hby at_46) rfl rfl k)) ?_
      show own_Fin p e below _ T111 (mkF m 48 #[SI p1, SI p2, SI p3, SI p4, SR b7_101, SR b2_104, SU] [VR b2_104])
      obtain ⟨_, T112, L112, X112, hQ112, st112⟩ := own_cV X111 hx hZ hown (WW hw 56) (WW hw 57) (notFace_of_selects (args := #[]) (mvT hZ (WW hw 59))) (WW hw 59) (WW hw 58) (WW hw 28) (WW hw 60) (rm9_1 l Z a0 hw [] b2_104 b7_101 T104.heap n0 (Nat.le_trans Z0 z108) o2_104) e111 o0_104 hml (g := (mkF m 48 #[SI p1, SI p2, SI p3, SI p4, SR b7_101, SR b2_104, SU] [VR b2_104])) pd7 (hb hby at_48) [] [] (W := 0)
      obtain ⟨rfl, N112q, e112⟩ := hQ112
      have N112 := Fr.app N111 N112q
      refine own_go st112 ?_
      show own_Fin p e below _ T112 (mkF m 51 #[SI p1, SI p2, SI p3, SI p4, SR b7_101, SR b2_104, SU] [VR b7_101])
      refine own_go (fun _ k => XS.astore X112.here hx rfl (hb hby at_51) rfl rfl (l' := #[SI p1, SI p2, SI p3, SI p4, SR b7_101, SR b2_104, SR b7_101]) rfl (XS.aload X112.here hx rfl (hb hby at_53) rfl rfl (XS.ifnonnullYes X112.here hx rfl (pc0 := 55) (pc' := 69) rfl (hb hby at_55) rfl (by decide) (by decide) (XS.aload X112.here hx rfl (hb hby at_69) rfl rfl (XS.aload X112.here hx rfl (hb hby at_71) rfl rfl k))))) ?_
      show own_Fin p e below _ T112 (mkF m 73 #[SI p1, SI p2, SI p3, SI p4, SR b7_101, SR b2_104, SR b7_101] [VR b7_101, VR b7_101])
      have F113 : Exa Z T104.heap b7_101 cC0 := (o0_101.keep K104)
      obtain ⟨_, T114, L114, X114, hQ114, st114⟩ := own_cV X112 hx hZ hown (WW hw 61) (WW hw 62) (notFace_of_selects (args := #[]) (mvT hZ (WW hw 64))) (WW hw 64) (WW hw 63) (WW hw 6) (WW hw 65) (rm10_1 l Z a0 hw [] b7_101 T104.heap n0 (Nat.le_trans Z0 z108) ) e112 F113 hml (g := (mkF m 73 #[SI p1, SI p2, SI p3, SI p4, SR b7_101, SR b2_104, SR b7_101] [VR b7_101, VR b7_101])) pd8 (hb hby at_73) [VR b7_101] [] (W := 0)
      obtain ⟨rfl, N114q, e114⟩ := hQ114
      have N114 := Fr.app N112 N114q
      refine own_go st114 ?_
      show own_Fin p e below _ T114 (mkF m 76 #[SI p1, SI p2, SI p3, SI p4, SR b7_101, SR b2_104, SR b7_101] [VI 1])
      obtain ⟨fs, hr, hrun, hended, hend⟩ := Jvm.Stand.leaveW X114 hS0 (by rw [e114]; exact (Nat.le_trans hk0 z108)) (v := some (.int (1 : Int32))) (fun h => by rw [hret] at h; cases h)
      refine own_end (retN X114 hx (t := .boolean) hret (by simp) (hb hby at_76) hr) hrun hended ⟨_, _, rfl, ?_, hend.1, hend.2.1, hend.2.2.1, hend.2.2.2.mono (by decide) (by decide)⟩
      show Q0 n0 _ T114.heap _
      rw [e114]
      exact ⟨rfl, N114⟩
    ·
      by_cases hc2 : (p1 &&& (7 : Int32)) = (2 : Int32)
      ·
        obtain ⟨_, T101, L101, X101, hQ101, st101⟩ := own_cS X0 hx hZ hown (WW hw 0) (WW hw 1) (WW hw 2) (WW hw 3) (rm1_3 l Z a0 hw [] p1 p2 p3 p4 G1 h0 n0 Z0 hc0 hc1 hc2 O_G1 X00 P_G1) e0 hml (g := (mkF m 4 #[SI p1, SI p2, SI p3, SI p4, SU, SU, SU] [VI p4, VI p3, VI p2, VI p1])) pd2 (hb hby at_4) [VI p1, VI p2, VI p3, VI p4] [] (W := 0)
        obtain ⟨b8_101, t20_101, kb20_101, rfl, N101q, K101, lob8_101, lot20_101, neb8t20_101, o0_101, o1_101, o2_101, o3_101⟩ := hQ101
        have hR102 := hR0.trans (CHr.keep K101 all0 hR0.1)
        have N101 := Fr.app N0 N101q
        refine own_go st101 ?_
        show own_Fin p e below _ T101 (mkF m 7 #[SI p1, SI p2, SI p3, SI p4, SU, SU, SU] [VR b8_101])
        refine own_go (fun _ k => XS.astore X101.here hx rfl (hb hby at_7) rfl rfl (l' := #[SI p1, SI p2, SI p3, SI p4, SR b8_101, SU, SU]) rfl (XS.aload X101.here hx rfl (hb hby at_9) rfl rfl k)) ?_
        show own_Fin p e below _ T101 (mkF m 11 #[SI p1, SI p2, SI p3, SI p4, SR b8_101, SU, SU] [VR b8_101])
        have O103 : Old Z n0 T101.heap := (X00.keep K101 all0)
        have z105 : h0.size ≤ T101.heap.size := K101.1
        obtain ⟨_, T104, L104, X104, hQ104, st104⟩ := own_cS X101 hx hZ hown (WW hw 26) (WW hw 27) (WW hw 28) (WW hw 29) (rm5_1 l Z a0 hw [] b8_101 wF T101.heap n0 (Nat.le_trans Z0 z105) O_wF O103) rfl hml (g := (mkF m 11 #[SI p1, SI p2, SI p3, SI p4, SR b8_101, SU, SU] [VR b8_101])) pd4 (hb hby at_11) [VR b8_101] [] (W := 0)
        obtain ⟨b2_104, rfl, N104q, K104, lob2_104, o0_104, o1_104, o2_104, o3_104⟩ := hQ104
        have hR106 := hR102.trans (CHr.keep K104 all0 hR102.1)
        have N104 := Fr.app N101 N104q
        refine own_go st104 ?_
        show own_Fin p e below _ T104 (mkF m 14 #[SI p1, SI p2, SI p3, SI p4, SR b8_101, SU, SU] [VR b2_104])
        refine own_go (fun _ k => XS.astore X104.here hx rfl (hb hby at_14) rfl rfl (l' := #[SI p1, SI p2, SI p3, SI p4, SR b8_101, SR b2_104, SU]) rfl (XS.aload X104.here hx rfl (hb hby at_16) rfl rfl (XS.ifnonnullYes X104.here hx rfl (pc0 := 18) (pc' := 23) rfl (hb hby at_18) rfl (by decide) (by decide) (XS.aload X104.here hx rfl (hb hby at_23) rfl rfl k)))) ?_
        show own_Fin p e below _ T104 (mkF m 25 #[SI p1, SI p2, SI p3, SI p4, SR b8_101, SR b2_104, SU] [VR b2_104])
        have z108 : h0.size ≤ T104.heap.size := Nat.le_trans z105 K104.1
        obtain ⟨_, T107, L107, X107, hQ107, st107⟩ := own_cV X104 hx hZ hown (WW hw 45) (WW hw 46) (notFace_of_selects (args := #[]) (mvT hZ (WW hw 48))) (WW hw 48) (WW hw 47) (WW hw 28) (WW hw 49) (rm7_1 l Z a0 hw [] b2_104 wF T104.heap n0 (Nat.le_trans Z0 z108) o1_104) rfl o0_104 hml (g := (mkF m 25 #[SI p1, SI p2, SI p3, SI p4, SR b8_101, SR b2_104, SU] [VR b2_104])) pd5 (hb hby at_25) [] [] (W := 0)
        obtain ⟨rfl, N107q, e107⟩ := hQ107
        have N107 := Fr.app N104 N107q
        refine own_go st107 ?_
        show own_Fin p e below _ T107 (mkF m 28 #[SI p1, SI p2, SI p3, SI p4, SR b8_101, SR b2_104, SU] [VR wF])
        have O109 : Old Z n0 T104.heap := (O103.keep K104 all0)
        obtain ⟨T110, X110, e110, st110⟩ := getS2 X107 hx hZ hown (host := "") (Or.inl (WW hw 50)) Via.refl e107 (O_wF.ext O109.2) (g := (mkF m 28 #[SI p1, SI p2, SI p3, SI p4, SR b8_101, SR b2_104, SU] [VR wF])) rfl (hb hby at_28)
        refine own_go st110 ?_
        show own_Fin p e below _ T110 (mkF m 31 #[SI p1, SI p2, SI p3, SI p4, SR b8_101, SR b2_104, SU] [VR wF, VR wF])
        refine own_go (fun _ k => Jvm.RoadKit.acmp (g := (mkF m 31 #[SI p1, SI p2, SI p3, SI p4, SR b8_101, SR b2_104, SU] [VR wF, VR wF])) X110 hx rfl rfl rfl (pc0 := 31) (pc' := 36) (same := true) rfl (hb hby at_31) rfl (decide_eq_true rfl) (by decide) (by decide) (XS.aload X110.here hx rfl (hb hby at_36) rfl rfl k)) ?_
        show own_Fin p e below _ T110 (mkF m 38 #[SI p1, SI p2, SI p3, SI p4, SR b8_101, SR b2_104, SU] [VR b2_104])
        obtain ⟨_, T111, L111, X111, hQ111, st111⟩ := own_cV X110 hx hZ hown (WW hw 51) (WW hw 52) (notFace_of_selects (args := #[]) (mvT hZ (WW hw 54))) (WW hw 54) (WW hw 53) (WW hw 28) (WW hw 55) (rm8_1 l Z a0 hw [] b2_104 T104.heap n0 (Nat.le_trans Z0 z108) o3_104) e110 o0_104 hml (g := (mkF m 38 #[SI p1, SI p2, SI p3, SI p4, SR b8_101, SR b2_104, SU] [VR b2_104])) pd6 (hb hby at_38) [] [] (W := 0)
        obtain ⟨rfl, N111q, e111⟩ := hQ111
        have N111 := Fr.app N107 N111q
        refine own_go st111 ?_
        show own_Fin p e below _ T111 (mkF m 41 #[SI p1, SI p2, SI p3, SI p4, SR b8_101, SR b2_104, SU] [VI 0])
        refine own_go (fun _ k => XS.ifYes X111.here hx rfl (pc0 := 41) (pc' := 46) rfl (hb hby at_41) rfl ((if0 _ _).trans (teq (by decide : (0 : Int32) = (0 : Int32))).1) (by decide) (by decide) (XS.aload X111.here hx rfl (hb hby at_46) rfl rfl k)) ?_
        show own_Fin p e below _ T111 (mkF m 48 #[SI p1, SI p2, SI p3, SI p4, SR b8_101, SR b2_104, SU] [VR b2_104])
        obtain ⟨_, T112, L112, X112, hQ112, st112⟩ := own_cV X111 hx hZ hown (WW hw 56) (WW hw 57) (notFace_of_selects (args := #[]) (mvT hZ (WW hw 59))) (WW hw 59) (WW hw 58) (WW hw 28) (WW hw 60) (rm9_1 l Z a0 hw [] b2_104 b8_101 T104.heap n0 (Nat.le_trans Z0 z108) o2_104) e111 o0_104 hml (g := (mkF m 48 #[SI p1, SI p2, SI p3, SI p4, SR b8_101, SR b2_104, SU] [VR b2_104])) pd7 (hb hby at_48) [] [] (W := 0)
        obtain ⟨rfl, N112q, e112⟩ := hQ112
        have N112 := Fr.app N111 N112q
        refine own_go st112 ?_
        show own_Fin p e below _ T112 (mkF m 51 #[SI p1, SI p2, SI p3, SI p4, SR b8_101, SR b2_104, SU] [VR b8_101])
        refine own_go (fun _ k => XS.astore X112.here hx rfl (hb hby at_51) rfl rfl (l' := #[SI p1, SI p2, SI p3, SI p4, SR b8_101, SR b2_104, SR b8_101]) rfl (XS.aload X112.here hx rfl (hb hby at_53) rfl rfl (XS.ifnonnullYes X112.here hx rfl (pc0 := 55) (pc' := 69) rfl (hb hby at_55) rfl (by decide) (by decide) (XS.aload X112.here hx rfl (hb hby at_69) rfl rfl (XS.aload X112.here hx rfl (hb hby at_71) rfl rfl k))))) ?_
        show own_Fin p e below _ T112 (mkF m 73 #[SI p1, SI p2, SI p3, SI p4, SR b8_101, SR b2_104, SR b8_101] [VR b8_101, VR b8_101])
        have F113 : Exa Z T104.heap b8_101 cC0 := (o0_101.keep K104)
        obtain ⟨_, T114, L114, X114, hQ114, st114⟩ := own_cV X112 hx hZ hown (WW hw 61) (WW hw 62) (notFace_of_selects (args := #[]) (mvT hZ (WW hw 64))) (WW hw 64) (WW hw 63) (WW hw 6) (WW hw 65) (rm10_1 l Z a0 hw [] b8_101 T104.heap n0 (Nat.le_trans Z0 z108) ) e112 F113 hml (g := (mkF m 73 #[SI p1, SI p2, SI p3, SI p4, SR b8_101, SR b2_104, SR b8_101] [VR b8_101, VR b8_101])) pd8 (hb hby at_73) [VR b8_101] [] (W := 0)
        obtain ⟨rfl, N114q, e114⟩ := hQ114
        have N114 := Fr.app N112 N114q
        refine own_go st114 ?_
        show own_Fin p e below _ T114 (mkF m 76 #[SI p1, SI p2, SI p3, SI p4, SR b8_101, SR b2_104, SR b8_101] [VI 1])
        obtain ⟨fs, hr, hrun, hended, hend⟩ := Jvm.Stand.leaveW X114 hS0 (by rw [e114]; exact (Nat.le_trans hk0 z108)) (v := some (.int (1 : Int32))) (fun h => by rw [hret] at h; cases h)
        refine own_end (retN X114 hx (t := .boolean) hret (by simp) (hb hby at_76) hr) hrun hended ⟨_, _, rfl, ?_, hend.1, hend.2.1, hend.2.2.1, hend.2.2.2.mono (by decide) (by decide)⟩
        show Q0 n0 _ T114.heap _
        rw [e114]
        exact ⟨rfl, N114⟩
      ·
        by_cases hc3 : (p1 &&& (7 : Int32)) = (3 : Int32)
        ·
          obtain ⟨_, T101, L101, X101, hQ101, st101⟩ := own_cS X0 hx hZ hown (WW hw 0) (WW hw 1) (WW hw 2) (WW hw 3) (rm1_4 l Z a0 hw [] p1 p2 p3 p4 G1 h0 n0 Z0 hc0 hc1 hc2 hc3 O_G1 X00 P_G1) e0 hml (g := (mkF m 4 #[SI p1, SI p2, SI p3, SI p4, SU, SU, SU] [VI p4, VI p3, VI p2, VI p1])) pd2 (hb hby at_4) [VI p1, VI p2, VI p3, VI p4] [] (W := 0)
          obtain ⟨b9_101, t24_101, kb24_101, rfl, N101q, K101, lob9_101, lot24_101, neb9t24_101, o0_101, o1_101, o2_101, o3_101⟩ := hQ101
          have hR102 := hR0.trans (CHr.keep K101 all0 hR0.1)
          have N101 := Fr.app N0 N101q
          refine own_go st101 ?_
          show own_Fin p e below _ T101 (mkF m 7 #[SI p1, SI p2, SI p3, SI p4, SU, SU, SU] [VR b9_101])
          refine own_go (fun _ k => XS.astore X101.here hx rfl (hb hby at_7) rfl rfl (l' := #[SI p1, SI p2, SI p3, SI p4, SR b9_101, SU, SU]) rfl (XS.aload X101.here hx rfl (hb hby at_9) rfl rfl k)) ?_
          show own_Fin p e below _ T101 (mkF m 11 #[SI p1, SI p2, SI p3, SI p4, SR b9_101, SU, SU] [VR b9_101])
          have O103 : Old Z n0 T101.heap := (X00.keep K101 all0)
          have z105 : h0.size ≤ T101.heap.size := K101.1
          obtain ⟨_, T104, L104, X104, hQ104, st104⟩ := own_cS X101 hx hZ hown (WW hw 26) (WW hw 27) (WW hw 28) (WW hw 29) (rm5_1 l Z a0 hw [] b9_101 wF T101.heap n0 (Nat.le_trans Z0 z105) O_wF O103) rfl hml (g := (mkF m 11 #[SI p1, SI p2, SI p3, SI p4, SR b9_101, SU, SU] [VR b9_101])) pd4 (hb hby at_11) [VR b9_101] [] (W := 0)
          obtain ⟨b2_104, rfl, N104q, K104, lob2_104, o0_104, o1_104, o2_104, o3_104⟩ := hQ104
          have hR106 := hR102.trans (CHr.keep K104 all0 hR102.1)
          have N104 := Fr.app N101 N104q
          refine own_go st104 ?_
          show own_Fin p e below _ T104 (mkF m 14 #[SI p1, SI p2, SI p3, SI p4, SR b9_101, SU, SU] [VR b2_104])
          refine own_go (fun _ k => XS.astore X104.here hx rfl (hb hby at_14) rfl rfl (l' := #[SI p1, SI p2, SI p3, SI p4, SR b9_101, SR b2_104, SU]) rfl (XS.aload X104.here hx rfl (hb hby at_16) rfl rfl (XS.ifnonnullYes X104.here hx rfl (pc0 := 18) (pc' := 23) rfl (hb hby at_18) rfl (by decide) (by decide) (XS.aload X104.here hx rfl (hb hby at_23) rfl rfl k)))) ?_
          show own_Fin p e below _ T104 (mkF m 25 #[SI p1, SI p2, SI p3, SI p4, SR b9_101, SR b2_104, SU] [VR b2_104])
          have z108 : h0.size ≤ T104.heap.size := Nat.le_trans z105 K104.1
          obtain ⟨_, T107, L107, X107, hQ107, st107⟩ := own_cV X104 hx hZ hown (WW hw 45) (WW hw 46) (notFace_of_selects (args := #[]) (mvT hZ (WW hw 48))) (WW hw 48) (WW hw 47) (WW hw 28) (WW hw 49) (rm7_1 l Z a0 hw [] b2_104 wF T104.heap n0 (Nat.le_trans Z0 z108) o1_104) rfl o0_104 hml (g := (mkF m 25 #[SI p1, SI p2, SI p3, SI p4, SR b9_101, SR b2_104, SU] [VR b2_104])) pd5 (hb hby at_25) [] [] (W := 0)
          obtain ⟨rfl, N107q, e107⟩ := hQ107
          have N107 := Fr.app N104 N107q
          refine own_go st107 ?_
          show own_Fin p e below _ T107 (mkF m 28 #[SI p1, SI p2, SI p3, SI p4, SR b9_101, SR b2_104, SU] [VR wF])
          have O109 : Old Z n0 T104.heap := (O103.keep K104 all0)
          obtain ⟨T110, X110, e110, st110⟩ := getS2 X107 hx hZ hown (host := "") (Or.inl (WW hw 50)) Via.refl e107 (O_wF.ext O109.2) (g := (mkF m 28 #[SI p1, SI p2, SI p3, SI p4, SR b9_101, SR b2_104, SU] [VR wF])) rfl (hb hby at_28)
          refine own_go st110 ?_
          show own_Fin p e below _ T110 (mkF m 31 #[SI p1, SI p2, SI p3, SI p4, SR b9_101, SR b2_104, SU] [VR wF, VR wF])
          refine own_go (fun _ k => Jvm.RoadKit.acmp (g := (mkF m 31 #[SI p1, SI p2, SI p3, SI p4, SR b9_101, SR b2_104, SU] [VR wF, VR wF])) X110 hx rfl rfl rfl (pc0 := 31) (pc' := 36) (same := true) rfl (hb hby at_31) rfl (decide_eq_true rfl) (by decide) (by decide) (XS.aload X110.here hx rfl (hb hby at_36) rfl rfl k)) ?_
          show own_Fin p e below _ T110 (mkF m 38 #[SI p1, SI p2, SI p3, SI p4, SR b9_101, SR b2_104, SU] [VR b2_104])
          obtain ⟨_, T111, L111, X111, hQ111, st111⟩ := own_cV X110 hx hZ hown (WW hw 51) (WW hw 52) (notFace_of_selects (args := #[]) (mvT hZ (WW hw 54))) (WW hw 54) (WW hw 53) (WW hw 28) (WW hw 55) (rm8_1 l Z a0 hw [] b2_104 T104.heap n0 (Nat.le_trans Z0 z108) o3_104) e110 o0_104 hml (g := (mkF m 38 #[SI p1, SI p2, SI p3, SI p4, SR b9_101, SR b2_104, SU] [VR b2_104])) pd6 (hb hby at_38) [] [] (W := 0)
          obtain ⟨rfl, N111q, e111⟩ := hQ111
          have N111 := Fr.app N107 N111q
          refine own_go st111 ?_
          show own_Fin p e below _ T111 (mkF m 41 #[SI p1, SI p2, SI p3, SI p4, SR b9_101, SR b2_104, SU] [VI 0])
          refine own_go (fun _ k => XS.ifYes X111.here hx rfl (pc0 := 41) (pc' := 46) rfl (hb hby at_41) rfl ((if0 _ _).trans (teq (by decide : (0 : Int32) = (0 : Int32))).1) (by decide) (by decide) (XS.aload X111.here hx rfl (hb hby at_46) rfl rfl k)) ?_
          show own_Fin p e below _ T111 (mkF m 48 #[SI p1, SI p2, SI p3, SI p4, SR b9_101, SR b2_104, SU] [VR b2_104])
          obtain ⟨_, T112, L112, X112, hQ112, st112⟩ := own_cV X111 hx hZ hown (WW hw 56) (WW hw 57) (notFace_of_selects (args := #[]) (mvT hZ (WW hw 59))) (WW hw 59) (WW hw 58) (WW hw 28) (WW hw 60) (rm9_1 l Z a0 hw [] b2_104 b9_101 T104.heap n0 (Nat.le_trans Z0 z108) o2_104) e111 o0_104 hml (g := (mkF m 48 #[SI p1, SI p2, SI p3, SI p4, SR b9_101, SR b2_104, SU] [VR b2_104])) pd7 (hb hby at_48) [] [] (W := 0)
          obtain ⟨rfl, N112q, e112⟩ := hQ112
          have N112 := Fr.app N111 N112q
          refine own_go st112 ?_
          show own_Fin p e below _ T112 (mkF m 51 #[SI p1, SI p2, SI p3, SI p4, SR b9_101, SR b2_104, SU] [VR b9_101])
          refine own_go (fun _ k => XS.astore X112.here hx rfl (hb hby at_51) rfl rfl (l' := #[SI p1, SI p2, SI p3, SI p4, SR b9_101, SR b2_104, SR b9_101]) rfl (XS.aload X112.here hx rfl (hb hby at_53) rfl rfl (XS.ifnonnullYes X112.here hx rfl (pc0 := 55) (pc' := 69) rfl (hb hby at_55) rfl (by decide) (by decide) (XS.aload X112.here hx rfl (hb hby at_69) rfl rfl (XS.aload X112.here hx rfl (hb hby at_71) rfl rfl k))))) ?_
          show own_Fin p e below _ T112 (mkF m 73 #[SI p1, SI p2, SI p3, SI p4, SR b9_101, SR b2_104, SR b9_101] [VR b9_101, VR b9_101])
          have F113 : Exa Z T104.heap b9_101 cC0 := (o0_101.keep K104)
          obtain ⟨_, T114, L114, X114, hQ114, st114⟩ := own_cV X112 hx hZ hown (WW hw 61) (WW hw 62) (notFace_of_selects (args := #[]) (mvT hZ (WW hw 64))) (WW hw 64) (WW hw 63) (WW hw 6) (WW hw 65) (rm10_1 l Z a0 hw [] b9_101 T104.heap n0 (Nat.le_trans Z0 z108) ) e112 F113 hml (g := (mkF m 73 #[SI p1, SI p2, SI p3, SI p4, SR b9_101, SR b2_104, SR b9_101] [VR b9_101, VR b9_101])) pd8 (hb hby at_73) [VR b9_101] [] (W := 0)
          obtain ⟨rfl, N114q, e114⟩ := hQ114
          have N114 := Fr.app N112 N114q
          refine own_go st114 ?_
          show own_Fin p e below _ T114 (mkF m 76 #[SI p1, SI p2, SI p3, SI p4, SR b9_101, SR b2_104, SR b9_101] [VI 1])
          obtain ⟨fs, hr, hrun, hended, hend⟩ := Jvm.Stand.leaveW X114 hS0 (by rw [e114]; exact (Nat.le_trans hk0 z108)) (v := some (.int (1 : Int32))) (fun h => by rw [hret] at h; cases h)
          refine own_end (retN X114 hx (t := .boolean) hret (by simp) (hb hby at_76) hr) hrun hended ⟨_, _, rfl, ?_, hend.1, hend.2.1, hend.2.2.1, hend.2.2.2.mono (by decide) (by decide)⟩
          show Q0 n0 _ T114.heap _
          rw [e114]
          exact ⟨rfl, N114⟩
        ·
          by_cases hc4 : (p1 &&& (7 : Int32)) = (4 : Int32)
          ·
            obtain ⟨_, T101, L101, X101, hQ101, st101⟩ := own_cS X0 hx hZ hown (WW hw 0) (WW hw 1) (WW hw 2) (WW hw 3) (rm1_5 l Z a0 hw [] p1 p2 p3 p4 h0 n0 Z0 hc0 hc1 hc2 hc3 hc4) e0 hml (g := (mkF m 4 #[SI p1, SI p2, SI p3, SI p4, SU, SU, SU] [VI p4, VI p3, VI p2, VI p1])) pd2 (hb hby at_4) [VI p1, VI p2, VI p3, VI p4] [] (W := 0)
            obtain ⟨rfl, N101q, e101⟩ := hQ101
            have N101 := Fr.app N0 N101q
            refine own_go st101 ?_
            show own_Fin p e below _ T101 (mkF m 7 #[SI p1, SI p2, SI p3, SI p4, SU, SU, SU] [.null])
            refine own_go (fun _ k => XS.astore X101.here hx rfl (hb hby at_7) rfl rfl (l' := #[SI p1, SI p2, SI p3, SI p4, SN, SU, SU]) rfl (XS.aload X101.here hx rfl (hb hby at_9) rfl rfl k)) ?_
            show own_Fin p e below _ T101 (mkF m 11 #[SI p1, SI p2, SI p3, SI p4, SN, SU, SU] [.null])
            obtain ⟨_, T102, L102, X102, hQ102, st102⟩ := own_cS X101 hx hZ hown (WW hw 26) (WW hw 27) (WW hw 28) (WW hw 29) (rm5_2 l Z a0 hw [] wF h0 n0 Z0 O_wF X00) e101 hml (g := (mkF m 11 #[SI p1, SI p2, SI p3, SI p4, SN, SU, SU] [.null])) pd4 (hb hby at_11) [.null] [] (W := 0)
            obtain ⟨b1_102, rfl, N102q, K102, lob1_102, o0_102, o1_102, o2_102, o3_102⟩ := hQ102
            have hR103 := hR0.trans (CHr.keep K102 all0 hR0.1)
            have N102 := Fr.app N101 N102q
            refine own_go st102 ?_
            show own_Fin p e below _ T102 (mkF m 14 #[SI p1, SI p2, SI p3, SI p4, SN, SU, SU] [VR b1_102])
            refine own_go (fun _ k => XS.astore X102.here hx rfl (hb hby at_14) rfl rfl (l' := #[SI p1, SI p2, SI p3, SI p4, SN, SR b1_102, SU]) rfl (XS.aload X102.here hx rfl (hb hby at_16) rfl rfl (XS.ifnonnullYes X102.here hx rfl (pc0 := 18) (pc' := 23) rfl (hb hby at_18) rfl (by decide) (by decide) (XS.aload X102.here hx rfl (hb hby at_23) rfl rfl k)))) ?_
            show own_Fin p e below _ T102 (mkF m 25 #[SI p1, SI p2, SI p3, SI p4, SN, SR b1_102, SU] [VR b1_102])
            have z105 : h0.size ≤ T102.heap.size := K102.1
            obtain ⟨_, T104, L104, X104, hQ104, st104⟩ := own_cV X102 hx hZ hown (WW hw 45) (WW hw 46) (notFace_of_selects (args := #[]) (mvT hZ (WW hw 48))) (WW hw 48) (WW hw 47) (WW hw 28) (WW hw 49) (rm7_1 l Z a0 hw [] b1_102 wF T102.heap n0 (Nat.le_trans Z0 z105) o1_102) rfl o0_102 hml (g := (mkF m 25 #[SI p1, SI p2, SI p3, SI p4, SN, SR b1_102, SU] [VR b1_102])) pd5 (hb hby at_25) [] [] (W := 0)
            obtain ⟨rfl, N104q, e104⟩ := hQ104
            have N104 := Fr.app N102 N104q
            refine own_go st104 ?_
            show own_Fin p e below _ T104 (mkF m 28 #[SI p1, SI p2, SI p3, SI p4, SN, SR b1_102, SU] [VR wF])
            have O106 : Old Z n0 T102.heap := (X00.keep K102 all0)
            obtain ⟨T107, X107, e107, st107⟩ := getS2 X104 hx hZ hown (host := "") (Or.inl (WW hw 50)) Via.refl e104 (O_wF.ext O106.2) (g := (mkF m 28 #[SI p1, SI p2, SI p3, SI p4, SN, SR b1_102, SU] [VR wF])) rfl (hb hby at_28)
            refine own_go st107 ?_
            show own_Fin p e below _ T107 (mkF m 31 #[SI p1, SI p2, SI p3, SI p4, SN, SR b1_102, SU] [VR wF, VR wF])
            refine own_go (fun _ k => Jvm.RoadKit.acmp (g := (mkF m 31 #[SI p1, SI p2, SI p3, SI p4, SN, SR b1_102, SU] [VR wF, VR wF])) X107 hx rfl rfl rfl (pc0 := 31) (pc' := 36) (same := true) rfl (hb hby at_31) rfl (decide_eq_true rfl) (by decide) (by decide) (XS.aload X107.here hx rfl (hb hby at_36) rfl rfl k)) ?_
            show own_Fin p e below _ T107 (mkF m 38 #[SI p1, SI p2, SI p3, SI p4, SN, SR b1_102, SU] [VR b1_102])
            obtain ⟨_, T108, L108, X108, hQ108, st108⟩ := own_cV X107 hx hZ hown (WW hw 51) (WW hw 52) (notFace_of_selects (args := #[]) (mvT hZ (WW hw 54))) (WW hw 54) (WW hw 53) (WW hw 28) (WW hw 55) (rm8_1 l Z a0 hw [] b1_102 T102.heap n0 (Nat.le_trans Z0 z105) o3_102) e107 o0_102 hml (g := (mkF m 38 #[SI p1, SI p2, SI p3, SI p4, SN, SR b1_102, SU] [VR b1_102])) pd6 (hb hby at_38) [] [] (W := 0)
            obtain ⟨rfl, N108q, e108⟩ := hQ108
            have N108 := Fr.app N104 N108q
            refine own_go st108 ?_
            show own_Fin p e below _ T108 (mkF m 41 #[SI p1, SI p2, SI p3, SI p4, SN, SR b1_102, SU] [VI 0])
            refine own_go (fun _ k => XS.ifYes X108.here hx rfl (pc0 := 41) (pc' := 46) rfl (hb hby at_41) rfl ((if0 _ _).trans (teq (by decide : (0 : Int32) = (0 : Int32))).1) (by decide) (by decide) (XS.aload X108.here hx rfl (hb hby at_46) rfl rfl k)) ?_
            show own_Fin p e below _ T108 (mkF m 48 #[SI p1, SI p2, SI p3, SI p4, SN, SR b1_102, SU] [VR b1_102])
            obtain ⟨_, T109, L109, X109, hQ109, st109⟩ := own_cV X108 hx hZ hown (WW hw 56) (WW hw 57) (notFace_of_selects (args := #[]) (mvT hZ (WW hw 59))) (WW hw 59) (WW hw 58) (WW hw 28) (WW hw 60) (rm9_2 l Z a0 hw [] b1_102 T102.heap n0 (Nat.le_trans Z0 z105) o2_102) e108 o0_102 hml (g := (mkF m 48 #[SI p1, SI p2, SI p3, SI p4, SN, SR b1_102, SU] [VR b1_102])) pd7 (hb hby at_48) [] [] (W := 0)
            obtain ⟨rfl, N109q, e109⟩ := hQ109
            have N109 := Fr.app N108 N109q
            refine own_go st109 ?_
            show own_Fin p e below _ T109 (mkF m 51 #[SI p1, SI p2, SI p3, SI p4, SN, SR b1_102, SU] [.null])
            refine own_go (fun _ k => XS.astore X109.here hx rfl (hb hby at_51) rfl rfl (l' := #[SI p1, SI p2, SI p3, SI p4, SN, SR b1_102, SN]) rfl (XS.aload X109.here hx rfl (hb hby at_53) rfl rfl (XS.ifnonnullNo X109.here hx rfl (hb hby at_55) rfl (XS.aload X109.here hx rfl (hb hby at_58) rfl rfl (XS.ifnonnullNo X109.here hx rfl (hb hby at_60) rfl (XS.iconst X109.here hx rfl (hb hby at_63) (XS.goto X109.here hx rfl (pc0 := 64) (pc' := 68) rfl (hb hby at_64) (by decide) (by decide) k))))))) ?_
            show own_Fin p e below _ T109 (mkF m 68 #[SI p1, SI p2, SI p3, SI p4, SN, SR b1_102, SN] [VI 1])
            obtain ⟨fs, hr, hrun, hended, hend⟩ := Jvm.Stand.leaveW X109 hS0 (by rw [e109]; exact (Nat.le_trans hk0 z105)) (v := some (.int (1 : Int32))) (fun h => by rw [hret] at h; cases h)
            refine own_end (retN X109 hx (t := .boolean) hret (by simp) (hb hby at_68) hr) hrun hended ⟨_, _, rfl, ?_, hend.1, hend.2.1, hend.2.2.1, hend.2.2.2.mono (by decide) (by decide)⟩
            show Q0 n0 _ T109.heap _
            rw [e109]
            exact ⟨rfl, N109⟩
          ·
            by_cases hc5 : (p1 &&& (7 : Int32)) = (5 : Int32)
            ·
              obtain ⟨_, T101, L101, X101, hQ101, st101⟩ := own_cS X0 hx hZ hown (WW hw 0) (WW hw 1) (WW hw 2) (WW hw 3) (rm1_6 l Z a0 hw [] p1 p2 p3 p4 G1 h0 n0 Z0 hc0 hc1 hc2 hc3 hc4 hc5 O_G1 X00 P_G1) e0 hml (g := (mkF m 4 #[SI p1, SI p2, SI p3, SI p4, SU, SU, SU] [VI p4, VI p3, VI p2, VI p1])) pd2 (hb hby at_4) [VI p1, VI p2, VI p3, VI p4] [] (W := 0)
              obtain ⟨b9_15_101, b2_12_15_101, k2_12_15_101, rfl, N101q, K101, lob9_15_101, lob2_12_15_101, neb9_15b2_12_15_101, o0_101, o1_101, o2_101, o3_101⟩ := hQ101
              have hR102 := hR0.trans (CHr.keep K101 all0 hR0.1)
              have N101 := Fr.app N0 N101q
              refine own_go st101 ?_
              show own_Fin p e below _ T101 (mkF m 7 #[SI p1, SI p2, SI p3, SI p4, SU, SU, SU] [VR b9_15_101])
              refine own_go (fun _ k => XS.astore X101.here hx rfl (hb hby at_7) rfl rfl (l' := #[SI p1, SI p2, SI p3, SI p4, SR b9_15_101, SU, SU]) rfl (XS.aload X101.here hx rfl (hb hby at_9) rfl rfl k)) ?_
              show own_Fin p e below _ T101 (mkF m 11 #[SI p1, SI p2, SI p3, SI p4, SR b9_15_101, SU, SU] [VR b9_15_101])
              have O103 : Old Z n0 T101.heap := (X00.keep K101 all0)
              have z105 : h0.size ≤ T101.heap.size := K101.1
              obtain ⟨_, T104, L104, X104, hQ104, st104⟩ := own_cS X101 hx hZ hown (WW hw 26) (WW hw 27) (WW hw 28) (WW hw 29) (rm5_1 l Z a0 hw [] b9_15_101 wF T101.heap n0 (Nat.le_trans Z0 z105) O_wF O103) rfl hml (g := (mkF m 11 #[SI p1, SI p2, SI p3, SI p4, SR b9_15_101, SU, SU] [VR b9_15_101])) pd4 (hb hby at_11) [VR b9_15_101] [] (W := 0)
              obtain ⟨b2_104, rfl, N104q, K104, lob2_104, o0_104, o1_104, o2_104, o3_104⟩ := hQ104
              have hR106 := hR102.trans (CHr.keep K104 all0 hR102.1)
              have N104 := Fr.app N101 N104q
              refine own_go st104 ?_
              show own_Fin p e below _ T104 (mkF m 14 #[SI p1, SI p2, SI p3, SI p4, SR b9_15_101, SU, SU] [VR b2_104])
              refine own_go (fun _ k => XS.astore X104.here hx rfl (hb hby at_14) rfl rfl (l' := #[SI p1, SI p2, SI p3, SI p4, SR b9_15_101, SR b2_104, SU]) rfl (XS.aload X104.here hx rfl (hb hby at_16) rfl rfl (XS.ifnonnullYes X104.here hx rfl (pc0 := 18) (pc' := 23) rfl (hb hby at_18) rfl (by decide) (by decide) (XS.aload X104.here hx rfl (hb hby at_23) rfl rfl k)))) ?_
              show own_Fin p e below _ T104 (mkF m 25 #[SI p1, SI p2, SI p3, SI p4, SR b9_15_101, SR b2_104, SU] [VR b2_104])
              have z108 : h0.size ≤ T104.heap.size := Nat.le_trans z105 K104.1
              obtain ⟨_, T107, L107, X107, hQ107, st107⟩ := own_cV X104 hx hZ hown (WW hw 45) (WW hw 46) (notFace_of_selects (args := #[]) (mvT hZ (WW hw 48))) (WW hw 48) (WW hw 47) (WW hw 28) (WW hw 49) (rm7_1 l Z a0 hw [] b2_104 wF T104.heap n0 (Nat.le_trans Z0 z108) o1_104) rfl o0_104 hml (g := (mkF m 25 #[SI p1, SI p2, SI p3, SI p4, SR b9_15_101, SR b2_104, SU] [VR b2_104])) pd5 (hb hby at_25) [] [] (W := 0)
              obtain ⟨rfl, N107q, e107⟩ := hQ107
              have N107 := Fr.app N104 N107q
              refine own_go st107 ?_
              show own_Fin p e below _ T107 (mkF m 28 #[SI p1, SI p2, SI p3, SI p4, SR b9_15_101, SR b2_104, SU] [VR wF])
              have O109 : Old Z n0 T104.heap := (O103.keep K104 all0)
              obtain ⟨T110, X110, e110, st110⟩ := getS2 X107 hx hZ hown (host := "") (Or.inl (WW hw 50)) Via.refl e107 (O_wF.ext O109.2) (g := (mkF m 28 #[SI p1, SI p2, SI p3, SI p4, SR b9_15_101, SR b2_104, SU] [VR wF])) rfl (hb hby at_28)
              refine own_go st110 ?_
              show own_Fin p e below _ T110 (mkF m 31 #[SI p1, SI p2, SI p3, SI p4, SR b9_15_101, SR b2_104, SU] [VR wF, VR wF])
              refine own_go (fun _ k => Jvm.RoadKit.acmp (g := (mkF m 31 #[SI p1, SI p2, SI p3, SI p4, SR b9_15_101, SR b2_104, SU] [VR wF, VR wF])) X110 hx rfl rfl rfl (pc0 := 31) (pc' := 36) (same := true) rfl (hb hby at_31) rfl (decide_eq_true rfl) (by decide) (by decide) (XS.aload X110.here hx rfl (hb hby at_36) rfl rfl k)) ?_
              show own_Fin p e below _ T110 (mkF m 38 #[SI p1, SI p2, SI p3, SI p4, SR b9_15_101, SR b2_104, SU] [VR b2_104])
              obtain ⟨_, T111, L111, X111, hQ111, st111⟩ := own_cV X110 hx hZ hown (WW hw 51) (WW hw 52) (notFace_of_selects (args := #[]) (mvT hZ (WW hw 54))) (WW hw 54) (WW hw 53) (WW hw 28) (WW hw 55) (rm8_1 l Z a0 hw [] b2_104 T104.heap n0 (Nat.le_trans Z0 z108) o3_104) e110 o0_104 hml (g := (mkF m 38 #[SI p1, SI p2, SI p3, SI p4, SR b9_15_101, SR b2_104, SU] [VR b2_104])) pd6 (hb hby at_38) [] [] (W := 0)
              obtain ⟨rfl, N111q, e111⟩ := hQ111
              have N111 := Fr.app N107 N111q
              refine own_go st111 ?_
              show own_Fin p e below _ T111 (mkF m 41 #[SI p1, SI p2, SI p3, SI p4, SR b9_15_101, SR b2_104, SU] [VI 0])
              refine own_go (fun _ k => XS.ifYes X111.here hx rfl (pc0 := 41) (pc' := 46) rfl (hb hby at_41) rfl ((if0 _ _).trans (teq (by decide : (0 : Int32) = (0 : Int32))).1) (by decide) (by decide) (XS.aload X111.here hx rfl (hb hby at_46) rfl rfl k)) ?_
              show own_Fin p e below _ T111 (mkF m 48 #[SI p1, SI p2, SI p3, SI p4, SR b9_15_101, SR b2_104, SU] [VR b2_104])
              obtain ⟨_, T112, L112, X112, hQ112, st112⟩ := own_cV X111 hx hZ hown (WW hw 56) (WW hw 57) (notFace_of_selects (args := #[]) (mvT hZ (WW hw 59))) (WW hw 59) (WW hw 58) (WW hw 28) (WW hw 60) (rm9_1 l Z a0 hw [] b2_104 b9_15_101 T104.heap n0 (Nat.le_trans Z0 z108) o2_104) e111 o0_104 hml (g := (mkF m 48 #[SI p1, SI p2, SI p3, SI p4, SR b9_15_101, SR b2_104, SU] [VR b2_104])) pd7 (hb hby at_48) [] [] (W := 0)
              obtain ⟨rfl, N112q, e112⟩ := hQ112
              have N112 := Fr.app N111 N112q
              refine own_go st112 ?_
              show own_Fin p e below _ T112 (mkF m 51 #[SI p1, SI p2, SI p3, SI p4, SR b9_15_101, SR b2_104, SU] [VR b9_15_101])
              refine own_go (fun _ k => XS.astore X112.here hx rfl (hb hby at_51) rfl rfl (l' := #[SI p1, SI p2, SI p3, SI p4, SR b9_15_101, SR b2_104, SR b9_15_101]) rfl (XS.aload X112.here hx rfl (hb hby at_53) rfl rfl (XS.ifnonnullYes X112.here hx rfl (pc0 := 55) (pc' := 69) rfl (hb hby at_55) rfl (by decide) (by decide) (XS.aload X112.here hx rfl (hb hby at_69) rfl rfl (XS.aload X112.here hx rfl (hb hby at_71) rfl rfl k))))) ?_
              show own_Fin p e below _ T112 (mkF m 73 #[SI p1, SI p2, SI p3, SI p4, SR b9_15_101, SR b2_104, SR b9_15_101] [VR b9_15_101, VR b9_15_101])
              have F113 : Exa Z T104.heap b9_15_101 cC0 := (o0_101.keep K104)
              obtain ⟨_, T114, L114, X114, hQ114, st114⟩ := own_cV X112 hx hZ hown (WW hw 61) (WW hw 62) (notFace_of_selects (args := #[]) (mvT hZ (WW hw 64))) (WW hw 64) (WW hw 63) (WW hw 6) (WW hw 65) (rm10_1 l Z a0 hw [] b9_15_101 T104.heap n0 (Nat.le_trans Z0 z108) ) e112 F113 hml (g := (mkF m 73 #[SI p1, SI p2, SI p3, SI p4, SR b9_15_101, SR b2_104, SR b9_15_101] [VR b9_15_101, VR b9_15_101])) pd8 (hb hby at_73) [VR b9_15_101] [] (W := 0)
              obtain ⟨rfl, N114q, e114⟩ := hQ114
              have N114 := Fr.app N112 N114q
              refine own_go st114 ?_
              show own_Fin p e below _ T114 (mkF m 76 #[SI p1, SI p2, SI p3, SI p4, SR b9_15_101, SR b2_104, SR b9_15_101] [VI 1])
              obtain ⟨fs, hr, hrun, hended, hend⟩ := Jvm.Stand.leaveW X114 hS0 (by rw [e114]; exact (Nat.le_trans hk0 z108)) (v := some (.int (1 : Int32))) (fun h => by rw [hret] at h; cases h)
              refine own_end (retN X114 hx (t := .boolean) hret (by simp) (hb hby at_76) hr) hrun hended ⟨_, _, rfl, ?_, hend.1, hend.2.1, hend.2.2.1, hend.2.2.2.mono (by decide) (by decide)⟩
              show Q0 n0 _ T114.heap _
              rw [e114]
              exact ⟨rfl, N114⟩
            ·
              by_cases hc6 : (p1 &&& (7 : Int32)) = (6 : Int32)
              ·
                obtain ⟨_, T101, L101, X101, hQ101, st101⟩ := own_cS X0 hx hZ hown (WW hw 0) (WW hw 1) (WW hw 2) (WW hw 3) (rm1_7 l Z a0 hw [] p1 p2 p3 p4 G1 h0 n0 Z0 hc0 hc1 hc2 hc3 hc4 hc5 hc6 O_G1 X00 P_G1) e0 hml (g := (mkF m 4 #[SI p1, SI p2, SI p3, SI p4, SU, SU, SU] [VI p4, VI p3, VI p2, VI p1])) pd2 (hb hby at_4) [VI p1, VI p2, VI p3, VI p4] [] (W := 0)
                obtain ⟨b12_101, t24_101, kb24_101, rfl, N101q, K101, lob12_101, lot24_101, neb12t24_101, o0_101, o1_101, o2_101, o3_101⟩ := hQ101
                have hR102 := hR0.trans (CHr.keep K101 all0 hR0.1)
                have N101 := Fr.app N0 N101q
                refine own_go st101 ?_
                show own_Fin p e below _ T101 (mkF m 7 #[SI p1, SI p2, SI p3, SI p4, SU, SU, SU] [VR b12_101])
                refine own_go (fun _ k => XS.astore X101.here hx rfl (hb hby at_7) rfl rfl (l' := #[SI p1, SI p2, SI p3, SI p4, SR b12_101, SU, SU]) rfl (XS.aload X101.here hx rfl (hb hby at_9) rfl rfl k)) ?_
                show own_Fin p e below _ T101 (mkF m 11 #[SI p1, SI p2, SI p3, SI p4, SR b12_101, SU, SU] [VR b12_101])
                have O103 : Old Z n0 T101.heap := (X00.keep K101 all0)
                have z105 : h0.size ≤ T101.heap.size := K101.1
                obtain ⟨_, T104, L104, X104, hQ104, st104⟩ := own_cS X101 hx hZ hown (WW hw 26) (WW hw 27) (WW hw 28) (WW hw 29) (rm5_1 l Z a0 hw [] b12_101 wF T101.heap n0 (Nat.le_trans Z0 z105) O_wF O103) rfl hml (g := (mkF m 11 #[SI p1, SI p2, SI p3, SI p4, SR b12_101, SU, SU] [VR b12_101])) pd4 (hb hby at_11) [VR b12_101] [] (W := 0)
                obtain ⟨b2_104, rfl, N104q, K104, lob2_104, o0_104, o1_104, o2_104, o3_104⟩ := hQ104
                have hR106 := hR102.trans (CHr.keep K104 all0 hR102.1)
                have N104 := Fr.app N101 N104q
                refine own_go st104 ?_
                show own_Fin p e below _ T104 (mkF m 14 #[SI p1, SI p2, SI p3, SI p4, SR b12_101, SU, SU] [VR b2_104])
                refine own_go (fun _ k => XS.astore X104.here hx rfl (hb hby at_14) rfl rfl (l' := #[SI p1, SI p2, SI p3, SI p4, SR b12_101, SR b2_104, SU]) rfl (XS.aload X104.here hx rfl (hb hby at_16) rfl rfl (XS.ifnonnullYes X104.here hx rfl (pc0 := 18) (pc' := 23) rfl (hb hby at_18) rfl (by decide) (by decide) (XS.aload X104.here hx rfl (hb hby at_23) rfl rfl k)))) ?_
                show own_Fin p e below _ T104 (mkF m 25 #[SI p1, SI p2, SI p3, SI p4, SR b12_101, SR b2_104, SU] [VR b2_104])
                have z108 : h0.size ≤ T104.heap.size := Nat.le_trans z105 K104.1
                obtain ⟨_, T107, L107, X107, hQ107, st107⟩ := own_cV X104 hx hZ hown (WW hw 45) (WW hw 46) (notFace_of_selects (args := #[]) (mvT hZ (WW hw 48))) (WW hw 48) (WW hw 47) (WW hw 28) (WW hw 49) (rm7_1 l Z a0 hw [] b2_104 wF T104.heap n0 (Nat.le_trans Z0 z108) o1_104) rfl o0_104 hml (g := (mkF m 25 #[SI p1, SI p2, SI p3, SI p4, SR b12_101, SR b2_104, SU] [VR b2_104])) pd5 (hb hby at_25) [] [] (W := 0)
                obtain ⟨rfl, N107q, e107⟩ := hQ107
                have N107 := Fr.app N104 N107q
                refine own_go st107 ?_
                show own_Fin p e below _ T107 (mkF m 28 #[SI p1, SI p2, SI p3, SI p4, SR b12_101, SR b2_104, SU] [VR wF])
                have O109 : Old Z n0 T104.heap := (O103.keep K104 all0)
                obtain ⟨T110, X110, e110, st110⟩ := getS2 X107 hx hZ hown (host := "") (Or.inl (WW hw 50)) Via.refl e107 (O_wF.ext O109.2) (g := (mkF m 28 #[SI p1, SI p2, SI p3, SI p4, SR b12_101, SR b2_104, SU] [VR wF])) rfl (hb hby at_28)
                refine own_go st110 ?_
                show own_Fin p e below _ T110 (mkF m 31 #[SI p1, SI p2, SI p3, SI p4, SR b12_101, SR b2_104, SU] [VR wF, VR wF])
                refine own_go (fun _ k => Jvm.RoadKit.acmp (g := (mkF m 31 #[SI p1, SI p2, SI p3, SI p4, SR b12_101, SR b2_104, SU] [VR wF, VR wF])) X110 hx rfl rfl rfl (pc0 := 31) (pc' := 36) (same := true) rfl (hb hby at_31) rfl (decide_eq_true rfl) (by decide) (by decide) (XS.aload X110.here hx rfl (hb hby at_36) rfl rfl k)) ?_
                show own_Fin p e below _ T110 (mkF m 38 #[SI p1, SI p2, SI p3, SI p4, SR b12_101, SR b2_104, SU] [VR b2_104])
                obtain ⟨_, T111, L111, X111, hQ111, st111⟩ := own_cV X110 hx hZ hown (WW hw 51) (WW hw 52) (notFace_of_selects (args := #[]) (mvT hZ (WW hw 54))) (WW hw 54) (WW hw 53) (WW hw 28) (WW hw 55) (rm8_1 l Z a0 hw [] b2_104 T104.heap n0 (Nat.le_trans Z0 z108) o3_104) e110 o0_104 hml (g := (mkF m 38 #[SI p1, SI p2, SI p3, SI p4, SR b12_101, SR b2_104, SU] [VR b2_104])) pd6 (hb hby at_38) [] [] (W := 0)
                obtain ⟨rfl, N111q, e111⟩ := hQ111
                have N111 := Fr.app N107 N111q
                refine own_go st111 ?_
                show own_Fin p e below _ T111 (mkF m 41 #[SI p1, SI p2, SI p3, SI p4, SR b12_101, SR b2_104, SU] [VI 0])
                refine own_go (fun _ k => XS.ifYes X111.here hx rfl (pc0 := 41) (pc' := 46) rfl (hb hby at_41) rfl ((if0 _ _).trans (teq (by decide : (0 : Int32) = (0 : Int32))).1) (by decide) (by decide) (XS.aload X111.here hx rfl (hb hby at_46) rfl rfl k)) ?_
                show own_Fin p e below _ T111 (mkF m 48 #[SI p1, SI p2, SI p3, SI p4, SR b12_101, SR b2_104, SU] [VR b2_104])
                obtain ⟨_, T112, L112, X112, hQ112, st112⟩ := own_cV X111 hx hZ hown (WW hw 56) (WW hw 57) (notFace_of_selects (args := #[]) (mvT hZ (WW hw 59))) (WW hw 59) (WW hw 58) (WW hw 28) (WW hw 60) (rm9_1 l Z a0 hw [] b2_104 b12_101 T104.heap n0 (Nat.le_trans Z0 z108) o2_104) e111 o0_104 hml (g := (mkF m 48 #[SI p1, SI p2, SI p3, SI p4, SR b12_101, SR b2_104, SU] [VR b2_104])) pd7 (hb hby at_48) [] [] (W := 0)
                obtain ⟨rfl, N112q, e112⟩ := hQ112
                have N112 := Fr.app N111 N112q
                refine own_go st112 ?_
                show own_Fin p e below _ T112 (mkF m 51 #[SI p1, SI p2, SI p3, SI p4, SR b12_101, SR b2_104, SU] [VR b12_101])
                refine own_go (fun _ k => XS.astore X112.here hx rfl (hb hby at_51) rfl rfl (l' := #[SI p1, SI p2, SI p3, SI p4, SR b12_101, SR b2_104, SR b12_101]) rfl (XS.aload X112.here hx rfl (hb hby at_53) rfl rfl (XS.ifnonnullYes X112.here hx rfl (pc0 := 55) (pc' := 69) rfl (hb hby at_55) rfl (by decide) (by decide) (XS.aload X112.here hx rfl (hb hby at_69) rfl rfl (XS.aload X112.here hx rfl (hb hby at_71) rfl rfl k))))) ?_
                show own_Fin p e below _ T112 (mkF m 73 #[SI p1, SI p2, SI p3, SI p4, SR b12_101, SR b2_104, SR b12_101] [VR b12_101, VR b12_101])
                have F113 : Exa Z T104.heap b12_101 cC0 := (o0_101.keep K104)
                obtain ⟨_, T114, L114, X114, hQ114, st114⟩ := own_cV X112 hx hZ hown (WW hw 61) (WW hw 62) (notFace_of_selects (args := #[]) (mvT hZ (WW hw 64))) (WW hw 64) (WW hw 63) (WW hw 6) (WW hw 65) (rm10_1 l Z a0 hw [] b12_101 T104.heap n0 (Nat.le_trans Z0 z108) ) e112 F113 hml (g := (mkF m 73 #[SI p1, SI p2, SI p3, SI p4, SR b12_101, SR b2_104, SR b12_101] [VR b12_101, VR b12_101])) pd8 (hb hby at_73) [VR b12_101] [] (W := 0)
                obtain ⟨rfl, N114q, e114⟩ := hQ114
                have N114 := Fr.app N112 N114q
                refine own_go st114 ?_
                show own_Fin p e below _ T114 (mkF m 76 #[SI p1, SI p2, SI p3, SI p4, SR b12_101, SR b2_104, SR b12_101] [VI 1])
                obtain ⟨fs, hr, hrun, hended, hend⟩ := Jvm.Stand.leaveW X114 hS0 (by rw [e114]; exact (Nat.le_trans hk0 z108)) (v := some (.int (1 : Int32))) (fun h => by rw [hret] at h; cases h)
                refine own_end (retN X114 hx (t := .boolean) hret (by simp) (hb hby at_76) hr) hrun hended ⟨_, _, rfl, ?_, hend.1, hend.2.1, hend.2.2.1, hend.2.2.2.mono (by decide) (by decide)⟩
                show Q0 n0 _ T114.heap _
                rw [e114]
                exact ⟨rfl, N114⟩
              ·
                obtain ⟨_, T101, L101, X101, hQ101, st101⟩ := own_cS X0 hx hZ hown (WW hw 0) (WW hw 1) (WW hw 2) (WW hw 3) (rm1_8 l Z a0 hw [] p1 p2 p3 p4 G1 h0 n0 Z0 hc0 hc1 hc2 hc3 hc4 hc5 hc6 O_G1 X00 P_G1) e0 hml (g := (mkF m 4 #[SI p1, SI p2, SI p3, SI p4, SU, SU, SU] [VI p4, VI p3, VI p2, VI p1])) pd2 (hb hby at_4) [VI p1, VI p2, VI p3, VI p4] [] (W := 0)
                obtain ⟨b12_101, t27_101, kb27_101, rfl, N101q, K101, lob12_101, lot27_101, neb12t27_101, o0_101, o1_101, o2_101, o3_101⟩ := hQ101
                have hR102 := hR0.trans (CHr.keep K101 all0 hR0.1)
                have N101 := Fr.app N0 N101q
                refine own_go st101 ?_
                show own_Fin p e below _ T101 (mkF m 7 #[SI p1, SI p2, SI p3, SI p4, SU, SU, SU] [VR b12_101])
                refine own_go (fun _ k => XS.astore X101.here hx rfl (hb hby at_7) rfl rfl (l' := #[SI p1, SI p2, SI p3, SI p4, SR b12_101, SU, SU]) rfl (XS.aload X101.here hx rfl (hb hby at_9) rfl rfl k)) ?_
                show own_Fin p e below _ T101 (mkF m 11 #[SI p1, SI p2, SI p3, SI p4, SR b12_101, SU, SU] [VR b12_101])
                have O103 : Old Z n0 T101.heap := (X00.keep K101 all0)
                have z105 : h0.size ≤ T101.heap.size := K101.1
                obtain ⟨_, T104, L104, X104, hQ104, st104⟩ := own_cS X101 hx hZ hown (WW hw 26) (WW hw 27) (WW hw 28) (WW hw 29) (rm5_1 l Z a0 hw [] b12_101 wF T101.heap n0 (Nat.le_trans Z0 z105) O_wF O103) rfl hml (g := (mkF m 11 #[SI p1, SI p2, SI p3, SI p4, SR b12_101, SU, SU] [VR b12_101])) pd4 (hb hby at_11) [VR b12_101] [] (W := 0)
                obtain ⟨b2_104, rfl, N104q, K104, lob2_104, o0_104, o1_104, o2_104, o3_104⟩ := hQ104
                have hR106 := hR102.trans (CHr.keep K104 all0 hR102.1)
                have N104 := Fr.app N101 N104q
                refine own_go st104 ?_
                show own_Fin p e below _ T104 (mkF m 14 #[SI p1, SI p2, SI p3, SI p4, SR b12_101, SU, SU] [VR b2_104])
                refine own_go (fun _ k => XS.astore X104.here hx rfl (hb hby at_14) rfl rfl (l' := #[SI p1, SI p2, SI p3, SI p4, SR b12_101, SR b2_104, SU]) rfl (XS.aload X104.here hx rfl (hb hby at_16) rfl rfl (XS.ifnonnullYes X104.here hx rfl (pc0 := 18) (pc' := 23) rfl (hb hby at_18) rfl (by decide) (by decide) (XS.aload X104.here hx rfl (hb hby at_23) rfl rfl k)))) ?_
                show own_Fin p e below _ T104 (mkF m 25 #[SI p1, SI p2, SI p3, SI p4, SR b12_101, SR b2_104, SU] [VR b2_104])
                have z108 : h0.size ≤ T104.heap.size := Nat.le_trans z105 K104.1
                obtain ⟨_, T107, L107, X107, hQ107, st107⟩ := own_cV X104 hx hZ hown (WW hw 45) (WW hw 46) (notFace_of_selects (args := #[]) (mvT hZ (WW hw 48))) (WW hw 48) (WW hw 47) (WW hw 28) (WW hw 49) (rm7_1 l Z a0 hw [] b2_104 wF T104.heap n0 (Nat.le_trans Z0 z108) o1_104) rfl o0_104 hml (g := (mkF m 25 #[SI p1, SI p2, SI p3, SI p4, SR b12_101, SR b2_104, SU] [VR b2_104])) pd5 (hb hby at_25) [] [] (W := 0)
                obtain ⟨rfl, N107q, e107⟩ := hQ107
                have N107 := Fr.app N104 N107q
                refine own_go st107 ?_
                show own_Fin p e below _ T107 (mkF m 28 #[SI p1, SI p2, SI p3, SI p4, SR b12_101, SR b2_104, SU] [VR wF])
                have O109 : Old Z n0 T104.heap := (O103.keep K104 all0)
                obtain ⟨T110, X110, e110, st110⟩ := getS2 X107 hx hZ hown (host := "") (Or.inl (WW hw 50)) Via.refl e107 (O_wF.ext O109.2) (g := (mkF m 28 #[SI p1, SI p2, SI p3, SI p4, SR b12_101, SR b2_104, SU] [VR wF])) rfl (hb hby at_28)
                refine own_go st110 ?_
                show own_Fin p e below _ T110 (mkF m 31 #[SI p1, SI p2, SI p3, SI p4, SR b12_101, SR b2_104, SU] [VR wF, VR wF])
                refine own_go (fun _ k => Jvm.RoadKit.acmp (g := (mkF m 31 #[SI p1, SI p2, SI p3, SI p4, SR b12_101, SR b2_104, SU] [VR wF, VR wF])) X110 hx rfl rfl rfl (pc0 := 31) (pc' := 36) (same := true) rfl (hb hby at_31) rfl (decide_eq_true rfl) (by decide) (by decide) (XS.aload X110.here hx rfl (hb hby at_36) rfl rfl k)) ?_
                show own_Fin p e below _ T110 (mkF m 38 #[SI p1, SI p2, SI p3, SI p4, SR b12_101, SR b2_104, SU] [VR b2_104])
                obtain ⟨_, T111, L111, X111, hQ111, st111⟩ := own_cV X110 hx hZ hown (WW hw 51) (WW hw 52) (notFace_of_selects (args := #[]) (mvT hZ (WW hw 54))) (WW hw 54) (WW hw 53) (WW hw 28) (WW hw 55) (rm8_1 l Z a0 hw [] b2_104 T104.heap n0 (Nat.le_trans Z0 z108) o3_104) e110 o0_104 hml (g := (mkF m 38 #[SI p1, SI p2, SI p3, SI p4, SR b12_101, SR b2_104, SU] [VR b2_104])) pd6 (hb hby at_38) [] [] (W := 0)
                obtain ⟨rfl, N111q, e111⟩ := hQ111
                have N111 := Fr.app N107 N111q
                refine own_go st111 ?_
                show own_Fin p e below _ T111 (mkF m 41 #[SI p1, SI p2, SI p3, SI p4, SR b12_101, SR b2_104, SU] [VI 0])
                refine own_go (fun _ k => XS.ifYes X111.here hx rfl (pc0 := 41) (pc' := 46) rfl (hb hby at_41) rfl ((if0 _ _).trans (teq (by decide : (0 : Int32) = (0 : Int32))).1) (by decide) (by decide) (XS.aload X111.here hx rfl (hb hby at_46) rfl rfl k)) ?_
                show own_Fin p e below _ T111 (mkF m 48 #[SI p1, SI p2, SI p3, SI p4, SR b12_101, SR b2_104, SU] [VR b2_104])
                obtain ⟨_, T112, L112, X112, hQ112, st112⟩ := own_cV X111 hx hZ hown (WW hw 56) (WW hw 57) (notFace_of_selects (args := #[]) (mvT hZ (WW hw 59))) (WW hw 59) (WW hw 58) (WW hw 28) (WW hw 60) (rm9_1 l Z a0 hw [] b2_104 b12_101 T104.heap n0 (Nat.le_trans Z0 z108) o2_104) e111 o0_104 hml (g := (mkF m 48 #[SI p1, SI p2, SI p3, SI p4, SR b12_101, SR b2_104, SU] [VR b2_104])) pd7 (hb hby at_48) [] [] (W := 0)
                obtain ⟨rfl, N112q, e112⟩ := hQ112
                have N112 := Fr.app N111 N112q
                refine own_go st112 ?_
                show own_Fin p e below _ T112 (mkF m 51 #[SI p1, SI p2, SI p3, SI p4, SR b12_101, SR b2_104, SU] [VR b12_101])
                refine own_go (fun _ k => XS.astore X112.here hx rfl (hb hby at_51) rfl rfl (l' := #[SI p1, SI p2, SI p3, SI p4, SR b12_101, SR b2_104, SR b12_101]) rfl (XS.aload X112.here hx rfl (hb hby at_53) rfl rfl (XS.ifnonnullYes X112.here hx rfl (pc0 := 55) (pc' := 69) rfl (hb hby at_55) rfl (by decide) (by decide) (XS.aload X112.here hx rfl (hb hby at_69) rfl rfl (XS.aload X112.here hx rfl (hb hby at_71) rfl rfl k))))) ?_
                show own_Fin p e below _ T112 (mkF m 73 #[SI p1, SI p2, SI p3, SI p4, SR b12_101, SR b2_104, SR b12_101] [VR b12_101, VR b12_101])
                have F113 : Exa Z T104.heap b12_101 cC0 := (o0_101.keep K104)
                obtain ⟨_, T114, L114, X114, hQ114, st114⟩ := own_cV X112 hx hZ hown (WW hw 61) (WW hw 62) (notFace_of_selects (args := #[]) (mvT hZ (WW hw 64))) (WW hw 64) (WW hw 63) (WW hw 6) (WW hw 65) (rm10_1 l Z a0 hw [] b12_101 T104.heap n0 (Nat.le_trans Z0 z108) ) e112 F113 hml (g := (mkF m 73 #[SI p1, SI p2, SI p3, SI p4, SR b12_101, SR b2_104, SR b12_101] [VR b12_101, VR b12_101])) pd8 (hb hby at_73) [VR b12_101] [] (W := 0)
                obtain ⟨rfl, N114q, e114⟩ := hQ114
                have N114 := Fr.app N112 N114q
                refine own_go st114 ?_
                show own_Fin p e below _ T114 (mkF m 76 #[SI p1, SI p2, SI p3, SI p4, SR b12_101, SR b2_104, SR b12_101] [VI 1])
                obtain ⟨fs, hr, hrun, hended, hend⟩ := Jvm.Stand.leaveW X114 hS0 (by rw [e114]; exact (Nat.le_trans hk0 z108)) (v := some (.int (1 : Int32))) (fun h => by rw [hret] at h; cases h)
                refine own_end (retN X114 hx (t := .boolean) hret (by simp) (hb hby at_76) hr) hrun hended ⟨_, _, rfl, ?_, hend.1, hend.2.1, hend.2.2.1, hend.2.2.2.mono (by decide) (by decide)⟩
                show Q0 n0 _ T114.heap _
                rw [e114]
                exact ⟨rfl, N114⟩
set_option maxRecDepth 65536 in
set_option maxHeartbeats 40000000 in
theorem comes_1 {Post : Tables → Env → Array Value → State → Outcome → State → Prop} (hpost : ∀ tb e args s v u, (limb_1_1.after args s (.returned v) u = true ∧ limb_1_2.after args s (.returned v) u = true ∧ True) → ReturnedEndW s (.returned v) u (Jvm.fieldLocs frame_1_writes args s ++ Jvm.arrayLocs frame_1_arrays args s ++ Jvm.staticLocs frame_1_statics s) 24 1152 → Post tb e args s (.returned v) u) :
    ArmFor flags0 classFile x code maxLocals ret World_1 tables_1 room_1 Calls_1 rest_1 Pre_1 Post := by
  intro l hfl _ _ p e ha hc hk s m args below hf hA hF happ hP
  obtain ⟨hcalls, hrest, hpre⟩ := hP
  obtain ⟨-, -, -, hnamed, -, -, -, hat⟩ := (Spec.applies_iff hf).mp happ
  obtain ⟨hg, hn⟩ := and_e (Cond.before_iff.mp (show (Jvm.Cond.and given_1 narrow_1).before args s = true from hpre))
  obtain ⟨hcount, ha0⟩ := and_e hg
  obtain ⟨hv0, ha1⟩ := and_e ha0
  obtain ⟨hv1, ha2⟩ := and_e ha1
  obtain ⟨hv2, ha3⟩ := and_e ha2
  have hv3 := ha3
  obtain ⟨w0, w1, w2, w3, rfl⟩ : ∃ w0 w1 w2 w3 : Value, args = #[w0, w1, w2, w3] := by
    have hs : args.size = 4 := by simpa [Cond.value, given_1] using hcount
    obtain ⟨L⟩ := args
    match L, hs with
    | [w0, w1, w2, w3], _ => exact ⟨w0, w1, w2, w3, rfl⟩
  have hw := fun d (hd : d ∈ tables_1) => atoms_spec (ws := Jvm.Cond.code x code maxLocals ret :: tables_1) hat d (List.mem_cons_of_mem _ hd)
  obtain ⟨hsets, hown0⟩ := atoms_of _ (rest_1_c_eq ▸ (show rest_1_c.before _ s = true from hrest))
  obtain ⟨i0, ei0⟩ := is_v hv0
  obtain rfl : w0 = (.int i0) := Option.some.inj ei0
  obtain ⟨i1, ei1⟩ := is_v hv1
  obtain rfl : w1 = (.int i1) := Option.some.inj ei1
  obtain ⟨i2, ei2⟩ := is_v hv2
  obtain rfl : w2 = (.int i2) := Option.some.inj ei2
  obtain ⟨i3, ei3⟩ := is_v hv3
  obtain rfl : w3 = (.int i3) := Option.some.inj ei3
  obtain ⟨G1, e_G1⟩ := is_v (Cond.before_iff.mp (hsets _ (List.mem_of_getElem? (i := 1) rfl)))
  have S_G1 : Sta s s.heap "java/lang/String" "COMPACT_STRINGS" "Z" (.int G1) := Sta.start e_G1 (Or.inl (hsets _ (List.mem_of_getElem? (i := 0) rfl)))
  have c_G1 : ¬ (G1 = (0 : Int32)) := gotF (Cond.eq_ints e_G1 (Term.int_eval (0))) (not_v (Cond.before_iff.mp (hsets _ (List.mem_of_getElem? (i := 2) rfl))))
  obtain ⟨wF, e_wF⟩ := exa_v hn
  have S_wF : Sta s s.heap "com/example/wito/wito/delivery/Verdict$Outcome" "FAILED" "Lcom/example/wito/wito/delivery/Verdict$Outcome;" (.ref wF) := Sta.start e_wF (Or.inr ⟨(WW hw 33), (WW hw 34)⟩)
  have x_wF : Exa s s.heap wF "com/example/wito/wito/delivery/Verdict$Outcome" := Exa.start e_wF hn
  have hEL : EW s _ own_EL := (EW.cons (WW hw 18) (by decide) EW.nil)
  have hCH : CHv s own_EL s.vm s.heap := CHv.start hEL (fun q hq => hcalls.1 q hq) (hsets _ (List.mem_of_getElem? (i := 2) rfl)) (WW hw 19) (WW hw 5)
  obtain ⟨n, o, h1, h2, h3, _, L, rfl, ⟨rfl, N⟩, hq⟩ := rm0 l s _ hw tables_1 i0 i1 i2 i3 G1 wF s.heap s.heap.size (Nat.le_refl _) (Old.start s) S_G1 c_G1 S_wF x_wF p e ha hc hk s m _ below hf ((Spec.applies_iff_loose hf).mp happ).1 ⟨rfl, State.Warmed39.refl s, rfl, hCH⟩ trivial
  refine ⟨n, _, h1, h2, h3, hpost _ _ _ _ _ _ ⟨Cond.after_iff.mpr rfl, Cond.after_iff.mpr (eq_i res_at (Term.int_eval (1)) rfl), trivial⟩ ⟨hq.1, hq.2.1, hq.2.2.1, (hq.2.2.2.sift fun y hy => Or.inr (N y hy)).mono (by decide) (by decide)⟩⟩
theorem main_1_1 : Claimed_1_1 := comes_1 fun _ _ _ _ _ _ h hF => ⟨h.1, hF⟩
theorem main_1_2 : Claimed_1_2 := comes_1 fun _ _ _ _ _ _ h hF => ⟨h.2.1, hF⟩
end Jvm.Pilot.@@N@@
namespace Jvm.Pilot.@@N@@
open Jvm Jvm.ClassFile Sem Op Lib Jvm.Free Jvm.Stand Jvm.Pilot.@@N@@.Jvm.D
/-! MADE BY PROGRAM (witnessworld.py) out of the Statement's table words and the real class files: 20 classes; the members and pool entries that the words name. The judged class is class 1, her method 2. -/
namespace start1
open Jvm.ClassFile
def u (s : String) : CpInfo := .utf8 (stringToUtf16 s)
/-- a pool by its gaps: so many unusable entries, then the entry; so many at the end -/
def gap : Nat → List CpInfo → List CpInfo
  | 0, r => r
  | n + 1, r => .unusable :: gap n r
def poolList (es : List (Nat × CpInfo)) (last : Nat) : List CpInfo := es.foldr (fun e r => gap e.1 (e.2 :: r)) (gap last [])
def pool (es : List (Nat × CpInfo)) (last : Nat) : Array CpInfo := ⟨poolList es last⟩
def fileOf (pool : Array CpInfo) (this : Nat) (attrs : Array Attribute := #[]) (ms : Array MethodInfo := #[]) (fl : Nat := 33) (sup : Nat := 0) (ifs : Array Nat := #[]) (fds : Array FieldInfo := #[]) : ClassFile where
  minorVersion := 0
  majorVersion := 65
  constantPool := pool
  accessFlags := fl
  thisClass := this
  superClass := sup
  interfaces := ifs
  fields := fds
  methods := ms
  attributes := attrs
def plain (name : String) (sup : Option ClassId) : Class where
  name := name
  kind := .ordinary
  loader := none
  accessFlags := 33
  super := sup
  interfaces := #[]
  cf := none
  fields := #[]
  methods := #[]
  instanceTypes := #[]
  staticTypes := #[]
  resolved := #[]
  callSites := []
  init := .initialized
  statics := none
  mirror := none

def pool0 : Array CpInfo := pool [(5, u "<init>"), (0, u "()V"), (1, .class_ 10), (1, u "java/lang/Object")] 113

def k0c0 : Code := { maxStack := 0, maxLocals := 1, code := object_method_1_code, exceptionTable := #[], attributes := #[] }
def k0m0 : Method := { name := "<init>", desc := "()V", sig := { parameters := [], returnType := none }, accessFlags := 1, code := some k0c0 }
/-- java/lang/Object -/
def k0 : Class := { plain "java/lang/Object" none with
  accessFlags := 33
  interfaces := #[]
  cf := some (fileOf pool0 8 #[] #[{ accessFlags := 1, nameIndex := 5, descriptorIndex := 6, attributes := #[] }] 33 0 #[] #[])
  fields := #[]
  methods := #[k0m0]
  instanceTypes := #[]
  staticTypes := #[]
  resolved := Array.replicate 124 none
  statics := none }

def pool1 : Array CpInfo := pool [(2, .class_ 4), (1, u "java/lang/Object"), (0, u "<init>"), (0, u "()V"), (0, .class_ 8), (0, u "java/lang/String"), (0, .methodref 7 10), (0, .nameAndType 5 11), (0, u "([C)V"), (0, .methodref 7 13), (0, .nameAndType 14 15), (0, u "valueOf"), (0, u "(C)Ljava/lang/String;"), (0, .methodref 17 18), (0, .class_ 19), (0, .nameAndType 20 21), (0, u "com/example/wito/wito/delivery/VerdictFailedPermanentlyPinLaw"), (0, u "draw"), (0, u "(IIII)Ljava/lang/String;"), (0, .methodref 23 24), (0, .class_ 25), (0, .nameAndType 26 27), (0, u "com/example/wito/wito/delivery/Verdict"), (0, u "failedPermanently"), (0, u "(Ljava/lang/String;)Lcom/example/wito/wito/delivery/Verdict;"), (0, .methodref 23 29), (0, .nameAndType 30 31), (0, u "outcome"), (0, u "()Lcom/example/wito/wito/delivery/Verdict$Outcome;"), (0, .fieldref 33 34), (0, .class_ 35), (0, .nameAndType 36 37), (0, u "com/example/wito/wito/delivery/Verdict$Outcome"), (0, u "FAILED"), (0, u "Lcom/example/wito/wito/delivery/Verdict$Outcome;"), (0, .methodref 23 39), (0, .nameAndType 40 41), (0, u "retryable"), (0, u "()Z"), (0, .methodref 23 43), (0, .nameAndType 44 45), (0, u "reason"), (0, u "()Ljava/lang/String;"), (0, .methodref 7 47), (0, .nameAndType 48 49), (0, u "equals"), (0, u "(Ljava/lang/Object;)Z"), (3, u "law"), (0, u "(IIII)Z")] 4

def k1m0 : Method := { name := "<init>", desc := "()V", sig := { parameters := [], returnType := none }, accessFlags := 1, code := none }
def k1c1 : Code := { maxStack := 6, maxLocals := 8, code := method_2_code, exceptionTable := #[], attributes := #[] }
def k1m1 : Method := { name := "draw", desc := "(IIII)Ljava/lang/String;", sig := { parameters := [.int, .int, .int, .int], returnType := some (.object "java/lang/String") }, accessFlags := 10, code := some k1c1 }
def k1c2 : Code := { maxStack := 4, maxLocals := 7, code := code, exceptionTable := #[], attributes := #[] }
def k1m2 : Method := { name := "law", desc := "(IIII)Z", sig := { parameters := [.int, .int, .int, .int], returnType := some .boolean }, accessFlags := 9, code := some k1c2 }
/-- com/example/wito/wito/delivery/VerdictFailedPermanentlyPinLaw -/
def k1 : Class := { plain "com/example/wito/wito/delivery/VerdictFailedPermanentlyPinLaw" (some 0) with
  accessFlags := 49
  interfaces := #[]
  cf := some (fileOf pool1 17 #[] #[{ accessFlags := 1, nameIndex := 5, descriptorIndex := 6, attributes := #[] }, { accessFlags := 10, nameIndex := 20, descriptorIndex := 21, attributes := #[] }, { accessFlags := 9, nameIndex := 53, descriptorIndex := 54, attributes := #[] }] 49 2 #[] #[])
  fields := #[]
  methods := #[k1m0, k1m1, k1m2]
  instanceTypes := #[]
  staticTypes := #[]
  resolved := Array.replicate 59 none
  statics := none }

def pool2 : Array CpInfo := pool [(1, .class_ 2), (0, u "java/io/Serializable"), (0, .class_ 4), (0, u "java/lang/Object")] 2

/-- java/io/Serializable -/
def k2 : Class := { plain "java/io/Serializable" (some 0) with
  accessFlags := 1537
  interfaces := #[]
  cf := some (fileOf pool2 1 #[] #[] 1537 3 #[] #[])
  fields := #[]
  methods := #[]
  instanceTypes := #[]
  staticTypes := #[]
  resolved := Array.replicate 7 none
  statics := none }

def pool3 : Array CpInfo := pool [(1, .class_ 2), (0, u "java/lang/Comparable"), (0, .class_ 4), (0, u "java/lang/Object")] 7

/-- java/lang/Comparable -/
def k3 : Class := { plain "java/lang/Comparable" (some 0) with
  accessFlags := 1537
  interfaces := #[]
  cf := some (fileOf pool3 1 #[] #[] 1537 3 #[] #[])
  fields := #[]
  methods := #[]
  instanceTypes := #[]
  staticTypes := #[]
  resolved := Array.replicate 12 none
  statics := none }

def pool4 : Array CpInfo := pool [(2, .class_ 4), (1, u "java/lang/CharSequence"), (42, .class_ 48), (0, u "java/lang/CharSequence$1CodePointIterator"), (10, .class_ 60), (0, u "java/lang/CharSequence$1CharIterator"), (5, .class_ 67), (0, u "java/lang/Object")] 63

/-- java/lang/CharSequence -/
def k4 : Class := { plain "java/lang/CharSequence" (some 0) with
  accessFlags := 1537
  interfaces := #[]
  cf := some (fileOf pool4 2 #[.nestMembers #[47, 59]] #[] 1537 66 #[] #[])
  fields := #[]
  methods := #[]
  instanceTypes := #[]
  staticTypes := #[]
  resolved := Array.replicate 131 none
  statics := none }

def pool5 : Array CpInfo := pool [(1, .class_ 2), (0, u "java/lang/constant/Constable"), (0, .class_ 4), (0, u "java/lang/Object")] 6

/-- java/lang/constant/Constable -/
def k5 : Class := { plain "java/lang/constant/Constable" (some 0) with
  accessFlags := 1537
  interfaces := #[]
  cf := some (fileOf pool5 1 #[] #[] 1537 3 #[] #[])
  fields := #[]
  methods := #[]
  instanceTypes := #[]
  staticTypes := #[]
  resolved := Array.replicate 11 none
  statics := none }

def pool6 : Array CpInfo := pool [(1, .class_ 2), (0, u "java/lang/constant/ConstantDesc"), (0, .class_ 4), (0, u "java/lang/Object")] 32

/-- java/lang/constant/ConstantDesc -/
def k6 : Class := { plain "java/lang/constant/ConstantDesc" (some 0) with
  accessFlags := 1537
  interfaces := #[]
  cf := some (fileOf pool6 1 #[] #[] 1537 3 #[] #[])
  fields := #[]
  methods := #[]
  instanceTypes := #[]
  staticTypes := #[]
  resolved := Array.replicate 37 none
  statics := none }

def pool7 : Array CpInfo := pool [(1, .methodref 2 3), (0, .class_ 4), (0, .nameAndType 5 6), (0, u "java/lang/Object"), (0, u "<init>"), (0, u "()V"), (0, .string 8), (0, u ""), (0, .fieldref 10 11), (0, .class_ 12), (0, .nameAndType 13 14), (0, u "java/lang/String"), (0, u "value"), (0, u "[B"), (0, .fieldref 10 16), (0, .nameAndType 17 18), (0, u "coder"), (0, u "B"), (2, u "hash"), (0, u "I"), (2, u "hashIsZero"), (0, u "Z"), (0, .methodref 10 28), (0, .nameAndType 5 29), (0, u "([CIILjava/lang/Void;)V"), (8, .fieldref 10 39), (0, .nameAndType 40 26), (0, u "COMPACT_STRINGS"), (1, .class_ 44), (1, u "java/lang/StringUTF16"), (0, u "compress"), (1, .methodref 42 48), (0, .nameAndType 49 50), (0, u "coderFromArrayLen"), (0, u "([BI)B"), (2, u "toBytes"), (53, .class_ 109), (1, u "java/lang/StringLatin1"), (67, .methodref 42 178), (0, .nameAndType 45 179), (0, u "([CII)[B"), (29, .methodref 10 210), (0, .nameAndType 5 211), (0, u "([BB)V"), (157, u "(C)Z"), (173, u "equals"), (29, u "(Ljava/lang/Object;)Z"), (1, .class_ 576), (0, u "java/lang/CharSequence"), (22, u "CASE_INSENSITIVE_ORDER"), (0, u "Ljava/util/Comparator;"), (181, u "valueOf"), (0, u "(C)Ljava/lang/String;"), (226, u "([C)V"), (4, .methodref 107 1016), (0, .nameAndType 1017 369), (0, u "canEncode"), (0, .methodref 107 1019), (0, .nameAndType 53 1020), (0, u "(C)[B"), (80, u "serialPersistentFields"), (0, u "[Ljava/io/ObjectStreamField;"), (0, .class_ 1104), (0, u "java/lang/String$CaseInsensitiveComparator"), (1, .class_ 1107), (0, u "java/io/Serializable"), (0, .class_ 1109), (0, u "java/lang/Comparable"), (0, .class_ 1111), (0, u "java/lang/constant/Constable"), (0, .class_ 1113), (0, u "java/lang/constant/ConstantDesc"), (2, u "serialVersionUID"), (0, u "J"), (3, u "REPL"), (0, u "C"), (2, u "LATIN1"), (1, u "UTF16")] 323

def k7m0 : Method := { name := "<init>", desc := "()V", sig := { parameters := [], returnType := none }, accessFlags := 1, code := none }
def k7c1 : Code := { maxStack := 5, maxLocals := 2, code := jdk_42_method_3_code, exceptionTable := #[], attributes := #[] }
def k7m1 : Method := { name := "<init>", desc := "([C)V", sig := { parameters := [(.array .char)], returnType := none }, accessFlags := 1, code := some k7c1 }
def k7c2 : Code := { maxStack := 2, maxLocals := 3, code := jdk_42_method_66_code, exceptionTable := #[], attributes := #[] }
def k7m2 : Method := { name := "equals", desc := "(Ljava/lang/Object;)Z", sig := { parameters := [(.object "java/lang/Object")], returnType := some .boolean }, accessFlags := 1, code := some k7c2 }
def k7c3 : Code := { maxStack := 4, maxLocals := 1, code := jdk_42_method_139_code, exceptionTable := #[], attributes := #[] }
def k7m3 : Method := { name := "valueOf", desc := "(C)Ljava/lang/String;", sig := { parameters := [.char], returnType := some (.object "java/lang/String") }, accessFlags := 9, code := some k7c3 }
def k7c4 : Code := { maxStack := 4, maxLocals := 6, code := jdk_42_method_149_code, exceptionTable := #[], attributes := #[] }
def k7m4 : Method := { name := "<init>", desc := "([CIILjava/lang/Void;)V", sig := { parameters := [(.array .char), .int, .int, (.object "java/lang/Void")], returnType := none }, accessFlags := 2, code := some k7c4 }
def k7c5 : Code := { maxStack := 2, maxLocals := 3, code := jdk_42_method_151_code, exceptionTable := #[], attributes := #[] }
def k7m5 : Method := { name := "<init>", desc := "([BB)V", sig := { parameters := [(.array .byte), .byte], returnType := none }, accessFlags := 0, code := some k7c5 }
/-- java/lang/String -/
def k7 : Class := { plain "java/lang/String" (some 0) with
  accessFlags := 49
  interfaces := #[2, 3, 4, 5, 6]
  cf := some (fileOf pool7 10 #[.nestMembers #[1103]] #[{ accessFlags := 1, nameIndex := 5, descriptorIndex := 6, attributes := #[] }, { accessFlags := 1, nameIndex := 5, descriptorIndex := 1010, attributes := #[] }, { accessFlags := 1, nameIndex := 543, descriptorIndex := 573, attributes := #[] }, { accessFlags := 9, nameIndex := 782, descriptorIndex := 783, attributes := #[] }, { accessFlags := 2, nameIndex := 5, descriptorIndex := 29, attributes := #[] }, { accessFlags := 0, nameIndex := 5, descriptorIndex := 211, attributes := #[] }] 49 2 #[1106, 1108, 575, 1110, 1112] #[{ accessFlags := 18, nameIndex := 13, descriptorIndex := 14, attributes := #[] }, { accessFlags := 18, nameIndex := 17, descriptorIndex := 18, attributes := #[] }, { accessFlags := 2, nameIndex := 21, descriptorIndex := 22, attributes := #[] }, { accessFlags := 2, nameIndex := 25, descriptorIndex := 26, attributes := #[] }, { accessFlags := 26, nameIndex := 1116, descriptorIndex := 1117, attributes := #[] }, { accessFlags := 24, nameIndex := 40, descriptorIndex := 26, attributes := #[] }, { accessFlags := 26, nameIndex := 1101, descriptorIndex := 1102, attributes := #[] }, { accessFlags := 26, nameIndex := 1121, descriptorIndex := 1122, attributes := #[] }, { accessFlags := 25, nameIndex := 599, descriptorIndex := 600, attributes := #[] }, { accessFlags := 24, nameIndex := 1125, descriptorIndex := 18, attributes := #[] }, { accessFlags := 24, nameIndex := 1127, descriptorIndex := 18, attributes := #[] }])
  fields := #[{ name := "value", type := (.array .byte), accessFlags := 18, slot := 0, constantValue := 0 }, { name := "coder", type := .byte, accessFlags := 18, slot := 1, constantValue := 0 }, { name := "hash", type := .int, accessFlags := 2, slot := 2, constantValue := 0 }, { name := "hashIsZero", type := .boolean, accessFlags := 2, slot := 3, constantValue := 0 }, { name := "serialVersionUID", type := .long, accessFlags := 26, slot := 0, constantValue := 0 }, { name := "COMPACT_STRINGS", type := .boolean, accessFlags := 24, slot := 1, constantValue := 0 }, { name := "serialPersistentFields", type := (.array (.object "java/io/ObjectStreamField")), accessFlags := 26, slot := 2, constantValue := 0 }, { name := "REPL", type := .char, accessFlags := 26, slot := 3, constantValue := 0 }, { name := "CASE_INSENSITIVE_ORDER", type := (.object "java/util/Comparator"), accessFlags := 25, slot := 4, constantValue := 0 }, { name := "LATIN1", type := .byte, accessFlags := 24, slot := 5, constantValue := 0 }, { name := "UTF16", type := .byte, accessFlags := 24, slot := 6, constantValue := 0 }]
  methods := #[k7m0, k7m1, k7m2, k7m3, k7m4, k7m5]
  instanceTypes := #[(.array .byte), .byte, .int, .boolean]
  staticTypes := #[.long, .boolean, (.array (.object "java/io/ObjectStreamField")), .char, (.object "java/util/Comparator"), .byte, .byte]
  resolved := Array.replicate 1451 none
  statics := some 0 }

def pool8 : Array CpInfo := pool [(1, .methodref 2 3), (0, .class_ 4), (0, .nameAndType 5 6), (0, u "java/lang/Object"), (0, u "<init>"), (0, u "()V"), (0, .fieldref 8 9), (0, .class_ 10), (0, .nameAndType 11 12), (0, u "com/example/wito/wito/delivery/Verdict"), (0, u "outcome"), (0, u "Lcom/example/wito/wito/delivery/Verdict$Outcome;"), (0, .fieldref 8 14), (0, .nameAndType 15 16), (0, u "reason"), (0, u "Ljava/lang/String;"), (0, .fieldref 8 18), (0, .nameAndType 19 20), (0, u "retryable"), (0, u "Z"), (2, u "ACCEPTED"), (0, u "Lcom/example/wito/wito/delivery/Verdict;"), (1, .class_ 28), (1, u "com/example/wito/wito/delivery/Verdict$Outcome"), (1, .methodref 8 31), (0, .nameAndType 5 32), (0, u "(Lcom/example/wito/wito/delivery/Verdict$Outcome;Ljava/lang/String;Z)V"), (0, .fieldref 26 34), (0, .nameAndType 35 12), (0, u "FAILED"), (3, u "(Ljava/lang/String;)Lcom/example/wito/wito/delivery/Verdict;"), (2, u "failedPermanently"), (17, u "TOO_MANY_REQUESTS"), (0, u "I"), (2, u "SERVER_ERROR"), (10, u "()Lcom/example/wito/wito/delivery/Verdict$Outcome;"), (0, u "()Ljava/lang/String;"), (0, u "()Z")] 23

def k8c0 : Code := { maxStack := 2, maxLocals := 4, code := prog_5_method_1_code, exceptionTable := #[], attributes := #[] }
def k8m0 : Method := { name := "<init>", desc := "(Lcom/example/wito/wito/delivery/Verdict$Outcome;Ljava/lang/String;Z)V", sig := { parameters := [(.object "com/example/wito/wito/delivery/Verdict$Outcome"), (.object "java/lang/String"), .boolean], returnType := none }, accessFlags := 2, code := some k8c0 }
def k8c1 : Code := { maxStack := 5, maxLocals := 1, code := prog_5_method_5_code, exceptionTable := #[], attributes := #[] }
def k8m1 : Method := { name := "failedPermanently", desc := "(Ljava/lang/String;)Lcom/example/wito/wito/delivery/Verdict;", sig := { parameters := [(.object "java/lang/String")], returnType := some (.object "com/example/wito/wito/delivery/Verdict") }, accessFlags := 9, code := some k8c1 }
def k8c2 : Code := { maxStack := 1, maxLocals := 1, code := prog_5_method_8_code, exceptionTable := #[], attributes := #[] }
def k8m2 : Method := { name := "outcome", desc := "()Lcom/example/wito/wito/delivery/Verdict$Outcome;", sig := { parameters := [], returnType := some (.object "com/example/wito/wito/delivery/Verdict$Outcome") }, accessFlags := 1, code := some k8c2 }
def k8c3 : Code := { maxStack := 1, maxLocals := 1, code := prog_5_method_9_code, exceptionTable := #[], attributes := #[] }
def k8m3 : Method := { name := "reason", desc := "()Ljava/lang/String;", sig := { parameters := [], returnType := some (.object "java/lang/String") }, accessFlags := 1, code := some k8c3 }
def k8c4 : Code := { maxStack := 1, maxLocals := 1, code := prog_5_method_10_code, exceptionTable := #[], attributes := #[] }
def k8m4 : Method := { name := "retryable", desc := "()Z", sig := { parameters := [], returnType := some .boolean }, accessFlags := 1, code := some k8c4 }
/-- com/example/wito/wito/delivery/Verdict -/
def k8 : Class := { plain "com/example/wito/wito/delivery/Verdict" (some 0) with
  accessFlags := 49
  interfaces := #[]
  cf := some (fileOf pool8 8 #[.nestMembers #[26]] #[{ accessFlags := 2, nameIndex := 5, descriptorIndex := 32, attributes := #[] }, { accessFlags := 9, nameIndex := 42, descriptorIndex := 39, attributes := #[] }, { accessFlags := 1, nameIndex := 11, descriptorIndex := 75, attributes := #[] }, { accessFlags := 1, nameIndex := 15, descriptorIndex := 76, attributes := #[] }, { accessFlags := 1, nameIndex := 19, descriptorIndex := 77, attributes := #[] }] 49 2 #[] #[{ accessFlags := 26, nameIndex := 23, descriptorIndex := 24, attributes := #[] }, { accessFlags := 26, nameIndex := 60, descriptorIndex := 61, attributes := #[] }, { accessFlags := 26, nameIndex := 64, descriptorIndex := 61, attributes := #[] }, { accessFlags := 18, nameIndex := 11, descriptorIndex := 12, attributes := #[] }, { accessFlags := 18, nameIndex := 15, descriptorIndex := 16, attributes := #[] }, { accessFlags := 18, nameIndex := 19, descriptorIndex := 20, attributes := #[] }])
  fields := #[{ name := "ACCEPTED", type := (.object "com/example/wito/wito/delivery/Verdict"), accessFlags := 26, slot := 0, constantValue := 0 }, { name := "TOO_MANY_REQUESTS", type := .int, accessFlags := 26, slot := 1, constantValue := 0 }, { name := "SERVER_ERROR", type := .int, accessFlags := 26, slot := 2, constantValue := 0 }, { name := "outcome", type := (.object "com/example/wito/wito/delivery/Verdict$Outcome"), accessFlags := 18, slot := 0, constantValue := 0 }, { name := "reason", type := (.object "java/lang/String"), accessFlags := 18, slot := 1, constantValue := 0 }, { name := "retryable", type := .boolean, accessFlags := 18, slot := 2, constantValue := 0 }]
  methods := #[k8m0, k8m1, k8m2, k8m3, k8m4]
  instanceTypes := #[(.object "com/example/wito/wito/delivery/Verdict$Outcome"), (.object "java/lang/String"), .boolean]
  staticTypes := #[(.object "com/example/wito/wito/delivery/Verdict"), .int, .int]
  resolved := Array.replicate 101 none
  statics := none }

def pool9 : Array CpInfo := pool [(2, .class_ 4), (1, u "java/lang/Enum"), (0, u "name"), (0, u "Ljava/lang/String;"), (2, u "ordinal"), (0, u "I"), (1, .class_ 14), (1, u "java/lang/Object"), (4, u "hash"), (86, .class_ 108), (1, u "java/lang/Enum$EnumDesc"), (2, .class_ 112), (0, u "java/lang/constant/Constable"), (0, .class_ 114), (0, u "java/lang/Comparable"), (0, .class_ 116), (0, u "java/io/Serializable")] 87

/-- java/lang/Enum -/
def k9 : Class := { plain "java/lang/Enum" (some 0) with
  accessFlags := 1057
  interfaces := #[5, 3, 2]
  cf := some (fileOf pool9 2 #[.nestMembers #[106]] #[] 1057 12 #[111, 113, 115] #[{ accessFlags := 18, nameIndex := 5, descriptorIndex := 6, attributes := #[] }, { accessFlags := 18, nameIndex := 9, descriptorIndex := 10, attributes := #[] }, { accessFlags := 2, nameIndex := 19, descriptorIndex := 10, attributes := #[] }])
  fields := #[{ name := "name", type := (.object "java/lang/String"), accessFlags := 18, slot := 0, constantValue := 0 }, { name := "ordinal", type := .int, accessFlags := 18, slot := 1, constantValue := 0 }, { name := "hash", type := .int, accessFlags := 2, slot := 2, constantValue := 0 }]
  methods := #[]
  instanceTypes := #[(.object "java/lang/String"), .int, .int]
  staticTypes := #[]
  resolved := Array.replicate 204 none
  statics := none }

def pool10 : Array CpInfo := pool [(1, .class_ 2), (0, u "com/example/wito/wito/delivery/Verdict$Outcome"), (2, u "ACCEPTED"), (0, u "Lcom/example/wito/wito/delivery/Verdict$Outcome;"), (2, u "REJECTED"), (2, u "FAILED"), (2, u "$VALUES"), (0, u "[Lcom/example/wito/wito/delivery/Verdict$Outcome;"), (6, .class_ 25), (1, u "java/lang/Enum"), (26, .class_ 53), (0, u "com/example/wito/wito/delivery/Verdict")] 2

/-- com/example/wito/wito/delivery/Verdict$Outcome -/
def k10 : Class := { plain "com/example/wito/wito/delivery/Verdict$Outcome" (some 9) with
  accessFlags := 16433
  interfaces := #[]
  cf := some (fileOf pool10 1 #[.nestHost 52] #[] 16433 23 #[] #[{ accessFlags := 16409, nameIndex := 5, descriptorIndex := 6, attributes := #[] }, { accessFlags := 16409, nameIndex := 9, descriptorIndex := 6, attributes := #[] }, { accessFlags := 16409, nameIndex := 12, descriptorIndex := 6, attributes := #[] }, { accessFlags := 4122, nameIndex := 15, descriptorIndex := 16, attributes := #[] }])
  fields := #[{ name := "ACCEPTED", type := (.object "com/example/wito/wito/delivery/Verdict$Outcome"), accessFlags := 16409, slot := 0, constantValue := 0 }, { name := "REJECTED", type := (.object "com/example/wito/wito/delivery/Verdict$Outcome"), accessFlags := 16409, slot := 1, constantValue := 0 }, { name := "FAILED", type := (.object "com/example/wito/wito/delivery/Verdict$Outcome"), accessFlags := 16409, slot := 2, constantValue := 0 }, { name := "$VALUES", type := (.array (.object "com/example/wito/wito/delivery/Verdict$Outcome")), accessFlags := 4122, slot := 3, constantValue := 0 }]
  methods := #[]
  instanceTypes := #[(.object "java/lang/String"), .int, .int]
  staticTypes := #[(.object "com/example/wito/wito/delivery/Verdict$Outcome"), (.object "com/example/wito/wito/delivery/Verdict$Outcome"), (.object "com/example/wito/wito/delivery/Verdict$Outcome"), (.array (.object "com/example/wito/wito/delivery/Verdict$Outcome"))]
  resolved := Array.replicate 56 none
  statics := some 1 }

def pool11 : Array CpInfo := pool [(6, .class_ 8), (1, u "java/lang/Object"), (0, u "<init>"), (0, u "()V"), (1, .class_ 14), (1, u "java/lang/StringUTF16"), (31, u "$assertionsDisabled"), (0, u "Z"), (13, u "HI_BYTE_SHIFT"), (0, u "I"), (2, u "LO_BYTE_SHIFT"), (49, .methodref 12 116), (0, .nameAndType 117 118), (0, u "compress"), (0, u "([CI[BII)I"), (3, u "([CII)[B"), (138, u "coderFromArrayLen"), (0, u "([BI)B"), (106, .class_ 371), (1, u "java/lang/StringUTF16$LinesSpliterator"), (58, u "MAX_LENGTH"), (196, .class_ 628), (0, u "java/lang/StringUTF16$CodePointsSpliterator"), (0, .class_ 630), (0, u "java/lang/StringUTF16$CharsSpliterator")] 4

def k11m0 : Method := { name := "<init>", desc := "()V", sig := { parameters := [], returnType := none }, accessFlags := 0, code := none }
def k11c1 : Code := { maxStack := 2, maxLocals := 2, code := jdk_52_method_15_code, exceptionTable := #[], attributes := #[] }
def k11m1 : Method := { name := "coderFromArrayLen", desc := "([BI)B", sig := { parameters := [(.array .byte), .int], returnType := some .byte }, accessFlags := 8, code := some k11c1 }
def k11c2 : Code := { maxStack := 5, maxLocals := 6, code := jdk_52_method_16_code, exceptionTable := #[], attributes := #[] }
def k11m2 : Method := { name := "compress", desc := "([CII)[B", sig := { parameters := [(.array .char), .int, .int], returnType := some (.array .byte) }, accessFlags := 9, code := some k11c2 }
def k11c3 : Code := { maxStack := 3, maxLocals := 7, code := jdk_52_method_21_code, exceptionTable := #[], attributes := #[] }
def k11m3 : Method := { name := "compress", desc := "([CI[BII)I", sig := { parameters := [(.array .char), .int, (.array .byte), .int, .int], returnType := some .int }, accessFlags := 9, code := some k11c3 }
/-- java/lang/StringUTF16 -/
def k11 : Class := { plain "java/lang/StringUTF16" (some 0) with
  accessFlags := 48
  interfaces := #[]
  cf := some (fileOf pool11 12 #[.nestMembers #[627, 629, 369]] #[{ accessFlags := 0, nameIndex := 9, descriptorIndex := 10, attributes := #[] }, { accessFlags := 8, nameIndex := 261, descriptorIndex := 262, attributes := #[] }, { accessFlags := 9, nameIndex := 117, descriptorIndex := 122, attributes := #[] }, { accessFlags := 9, nameIndex := 117, descriptorIndex := 118, attributes := #[] }] 48 6 #[] #[{ accessFlags := 26, nameIndex := 61, descriptorIndex := 62, attributes := #[] }, { accessFlags := 26, nameIndex := 65, descriptorIndex := 62, attributes := #[] }, { accessFlags := 24, nameIndex := 430, descriptorIndex := 62, attributes := #[] }, { accessFlags := 4120, nameIndex := 46, descriptorIndex := 47, attributes := #[] }])
  fields := #[{ name := "HI_BYTE_SHIFT", type := .int, accessFlags := 26, slot := 0, constantValue := 0 }, { name := "LO_BYTE_SHIFT", type := .int, accessFlags := 26, slot := 1, constantValue := 0 }, { name := "MAX_LENGTH", type := .int, accessFlags := 24, slot := 2, constantValue := 0 }, { name := "$assertionsDisabled", type := .boolean, accessFlags := 4120, slot := 3, constantValue := 0 }]
  methods := #[k11m0, k11m1, k11m2, k11m3]
  instanceTypes := #[]
  staticTypes := #[.int, .int, .int, .boolean]
  resolved := Array.replicate 635 none
  statics := none }

def pool12 : Array CpInfo := pool [(4, .class_ 6), (1, u "java/lang/Object"), (0, u "<init>"), (0, u "()V"), (5, .class_ 16), (1, u "java/lang/StringLatin1"), (73, u "canEncode"), (14, u "(C)Z"), (15, u "$assertionsDisabled"), (0, u "Z"), (98, .class_ 223), (1, u "java/lang/StringLatin1$LinesSpliterator"), (156, u "toBytes"), (1, u "(C)[B"), (7, .class_ 391), (0, u "java/lang/StringLatin1$CharsSpliterator")] 3

def k12m0 : Method := { name := "<init>", desc := "()V", sig := { parameters := [], returnType := none }, accessFlags := 0, code := none }
def k12c1 : Code := { maxStack := 2, maxLocals := 1, code := jdk_43_method_3_code, exceptionTable := #[], attributes := #[] }
def k12m1 : Method := { name := "canEncode", desc := "(C)Z", sig := { parameters := [.char], returnType := some .boolean }, accessFlags := 9, code := some k12c1 }
def k12c2 : Code := { maxStack := 4, maxLocals := 1, code := jdk_43_method_46_code, exceptionTable := #[], attributes := #[] }
def k12m2 : Method := { name := "toBytes", desc := "(C)[B", sig := { parameters := [.char], returnType := some (.array .byte) }, accessFlags := 9, code := some k12c2 }
/-- java/lang/StringLatin1 -/
def k12 : Class := { plain "java/lang/StringLatin1" (some 0) with
  accessFlags := 48
  interfaces := #[]
  cf := some (fileOf pool12 14 #[.nestMembers #[390, 221]] #[{ accessFlags := 0, nameIndex := 7, descriptorIndex := 8, attributes := #[] }, { accessFlags := 9, nameIndex := 90, descriptorIndex := 105, attributes := #[] }, { accessFlags := 9, nameIndex := 380, descriptorIndex := 382, attributes := #[] }] 48 4 #[] #[{ accessFlags := 4120, nameIndex := 121, descriptorIndex := 122, attributes := #[] }])
  fields := #[{ name := "$assertionsDisabled", type := .boolean, accessFlags := 4120, slot := 0, constantValue := 0 }]
  methods := #[k12m0, k12m1, k12m2]
  instanceTypes := #[]
  staticTypes := #[.boolean]
  resolved := Array.replicate 395 none
  statics := none }

def pool13 : Array CpInfo := pool [(2, .class_ 4), (1, u "java/lang/Object"), (0, u "<init>"), (0, u "()V"), (17, .class_ 26), (1, u "jdk/internal/util/Preconditions"), (28, .class_ 56), (0, u "jdk/internal/util/Preconditions$4"), (57, .class_ 115), (0, u "jdk/internal/util/Preconditions$1"), (7, u "SIOOBE_FORMATTER"), (0, u "Ljava/util/function/BiFunction;"), (0, .class_ 126), (0, u "jdk/internal/util/Preconditions$2"), (3, u "AIOOBE_FORMATTER"), (0, .class_ 132), (0, u "jdk/internal/util/Preconditions$3"), (3, u "IOOBE_FORMATTER")] 57

def k13m0 : Method := { name := "<init>", desc := "()V", sig := { parameters := [], returnType := none }, accessFlags := 1, code := none }
/-- jdk/internal/util/Preconditions -/
def k13 : Class := { plain "jdk/internal/util/Preconditions" (some 0) with
  accessFlags := 33
  interfaces := #[]
  cf := some (fileOf pool13 24 #[.nestMembers #[55, 131, 125, 114]] #[{ accessFlags := 1, nameIndex := 5, descriptorIndex := 6, attributes := #[] }] 33 2 #[] #[{ accessFlags := 25, nameIndex := 123, descriptorIndex := 124, attributes := #[] }, { accessFlags := 25, nameIndex := 130, descriptorIndex := 124, attributes := #[] }, { accessFlags := 25, nameIndex := 136, descriptorIndex := 124, attributes := #[] }])
  fields := #[{ name := "SIOOBE_FORMATTER", type := (.object "java/util/function/BiFunction"), accessFlags := 25, slot := 0, constantValue := 0 }, { name := "AIOOBE_FORMATTER", type := (.object "java/util/function/BiFunction"), accessFlags := 25, slot := 1, constantValue := 0 }, { name := "IOOBE_FORMATTER", type := (.object "java/util/function/BiFunction"), accessFlags := 25, slot := 2, constantValue := 0 }]
  methods := #[k13m0]
  instanceTypes := #[]
  staticTypes := #[(.object "java/util/function/BiFunction"), (.object "java/util/function/BiFunction"), (.object "java/util/function/BiFunction")]
  resolved := Array.replicate 194 none
  statics := some 2 }

def pool14 : Array CpInfo := pool [(9, u "<init>"), (6, .class_ 18), (1, u "java/lang/Object"), (0, u "()V"), (1, .class_ 23), (1, u "jdk/internal/util/ArraysSupport"), (0, u "LOG2_ARRAY_LONG_INDEX_SCALE"), (0, u "I"), (2, u "U"), (0, u "Ljdk/internal/misc/Unsafe;"), (8, u "BIG_ENDIAN"), (0, u "Z"), (8, u "LOG2_BYTE_BIT_SIZE"), (4, u "LOG2_ARRAY_INT_INDEX_SCALE"), (54, u "JLA"), (0, u "Ljdk/internal/access/JavaLangAccess;"), (11, u "LOG2_ARRAY_BOOLEAN_INDEX_SCALE"), (9, u "LOG2_ARRAY_BYTE_INDEX_SCALE"), (5, u "LOG2_ARRAY_CHAR_INDEX_SCALE"), (5, u "LOG2_ARRAY_SHORT_INDEX_SCALE"), (18, u "LOG2_ARRAY_FLOAT_INDEX_SCALE"), (24, u "LOG2_ARRAY_DOUBLE_INDEX_SCALE"), (89, u "T_BOOLEAN"), (2, u "T_CHAR"), (1, u "T_FLOAT"), (1, u "T_DOUBLE"), (1, u "T_BYTE"), (1, u "T_SHORT"), (1, u "T_INT"), (1, u "T_LONG"), (1, u "SOFT_MAX_ARRAY_LENGTH")] 83

def k14m0 : Method := { name := "<init>", desc := "()V", sig := { parameters := [], returnType := none }, accessFlags := 2, code := none }
/-- jdk/internal/util/ArraysSupport -/
def k14 : Class := { plain "jdk/internal/util/ArraysSupport" (some 0) with
  accessFlags := 33
  interfaces := #[]
  cf := some (fileOf pool14 21 #[] #[{ accessFlags := 2, nameIndex := 9, descriptorIndex := 19, attributes := #[] }] 33 16 #[] #[{ accessFlags := 24, nameIndex := 28, descriptorIndex := 29, attributes := #[] }, { accessFlags := 26, nameIndex := 38, descriptorIndex := 39, attributes := #[] }, { accessFlags := 25, nameIndex := 121, descriptorIndex := 25, attributes := #[] }, { accessFlags := 25, nameIndex := 131, descriptorIndex := 25, attributes := #[] }, { accessFlags := 25, nameIndex := 137, descriptorIndex := 25, attributes := #[] }, { accessFlags := 25, nameIndex := 143, descriptorIndex := 25, attributes := #[] }, { accessFlags := 25, nameIndex := 53, descriptorIndex := 25, attributes := #[] }, { accessFlags := 25, nameIndex := 24, descriptorIndex := 25, attributes := #[] }, { accessFlags := 25, nameIndex := 162, descriptorIndex := 25, attributes := #[] }, { accessFlags := 25, nameIndex := 187, descriptorIndex := 25, attributes := #[] }, { accessFlags := 26, nameIndex := 48, descriptorIndex := 25, attributes := #[] }, { accessFlags := 25, nameIndex := 277, descriptorIndex := 25, attributes := #[] }, { accessFlags := 25, nameIndex := 280, descriptorIndex := 25, attributes := #[] }, { accessFlags := 25, nameIndex := 282, descriptorIndex := 25, attributes := #[] }, { accessFlags := 25, nameIndex := 284, descriptorIndex := 25, attributes := #[] }, { accessFlags := 25, nameIndex := 286, descriptorIndex := 25, attributes := #[] }, { accessFlags := 25, nameIndex := 288, descriptorIndex := 25, attributes := #[] }, { accessFlags := 25, nameIndex := 290, descriptorIndex := 25, attributes := #[] }, { accessFlags := 25, nameIndex := 292, descriptorIndex := 25, attributes := #[] }, { accessFlags := 26, nameIndex := 108, descriptorIndex := 109, attributes := #[] }, { accessFlags := 25, nameIndex := 294, descriptorIndex := 25, attributes := #[] }])
  fields := #[{ name := "U", type := (.object "jdk/internal/misc/Unsafe"), accessFlags := 24, slot := 0, constantValue := 0 }, { name := "BIG_ENDIAN", type := .boolean, accessFlags := 26, slot := 1, constantValue := 0 }, { name := "LOG2_ARRAY_BOOLEAN_INDEX_SCALE", type := .int, accessFlags := 25, slot := 2, constantValue := 0 }, { name := "LOG2_ARRAY_BYTE_INDEX_SCALE", type := .int, accessFlags := 25, slot := 3, constantValue := 0 }, { name := "LOG2_ARRAY_CHAR_INDEX_SCALE", type := .int, accessFlags := 25, slot := 4, constantValue := 0 }, { name := "LOG2_ARRAY_SHORT_INDEX_SCALE", type := .int, accessFlags := 25, slot := 5, constantValue := 0 }, { name := "LOG2_ARRAY_INT_INDEX_SCALE", type := .int, accessFlags := 25, slot := 6, constantValue := 0 }, { name := "LOG2_ARRAY_LONG_INDEX_SCALE", type := .int, accessFlags := 25, slot := 7, constantValue := 0 }, { name := "LOG2_ARRAY_FLOAT_INDEX_SCALE", type := .int, accessFlags := 25, slot := 8, constantValue := 0 }, { name := "LOG2_ARRAY_DOUBLE_INDEX_SCALE", type := .int, accessFlags := 25, slot := 9, constantValue := 0 }, { name := "LOG2_BYTE_BIT_SIZE", type := .int, accessFlags := 26, slot := 10, constantValue := 0 }, { name := "T_BOOLEAN", type := .int, accessFlags := 25, slot := 11, constantValue := 0 }, { name := "T_CHAR", type := .int, accessFlags := 25, slot := 12, constantValue := 0 }, { name := "T_FLOAT", type := .int, accessFlags := 25, slot := 13, constantValue := 0 }, { name := "T_DOUBLE", type := .int, accessFlags := 25, slot := 14, constantValue := 0 }, { name := "T_BYTE", type := .int, accessFlags := 25, slot := 15, constantValue := 0 }, { name := "T_SHORT", type := .int, accessFlags := 25, slot := 16, constantValue := 0 }, { name := "T_INT", type := .int, accessFlags := 25, slot := 17, constantValue := 0 }, { name := "T_LONG", type := .int, accessFlags := 25, slot := 18, constantValue := 0 }, { name := "JLA", type := (.object "jdk/internal/access/JavaLangAccess"), accessFlags := 26, slot := 19, constantValue := 0 }, { name := "SOFT_MAX_ARRAY_LENGTH", type := .int, accessFlags := 25, slot := 20, constantValue := 0 }]
  methods := #[k14m0]
  instanceTypes := #[]
  staticTypes := #[(.object "jdk/internal/misc/Unsafe"), .boolean, .int, .int, .int, .int, .int, .int, .int, .int, .int, .int, .int, .int, .int, .int, .int, .int, .int, (.object "jdk/internal/access/JavaLangAccess"), .int]
  resolved := Array.replicate 378 none
  statics := none }

def pool15 : Array CpInfo := pool [(1, u "java/lang/Cloneable"), (0, .class_ 1), (0, u "java/lang/Object"), (0, .class_ 3)] 3

/-- java/lang/Cloneable -/
def k15 : Class := { plain "java/lang/Cloneable" (some 0) with
  accessFlags := 1537
  interfaces := #[]
  cf := some (fileOf pool15 2 #[] #[] 1537 4 #[] #[])
  fields := #[]
  methods := #[]
  instanceTypes := #[]
  staticTypes := #[]
  resolved := Array.replicate 8 none
  statics := none }

/-- the primitive byte -/
def k16 : Class := { plain "byte" none with kind := .primitive 'B', accessFlags := 0x411 }
/-- [B -/
def k17 : Class := { plain "[B" (some 0) with kind := .array 16 .byte, interfaces := #[15, 2], accessFlags := 1041 }

/-- the primitive char -/
def k18 : Class := { plain "char" none with kind := .primitive 'C', accessFlags := 0x411 }
/-- [C -/
def k19 : Class := { plain "[C" (some 0) with kind := .array 18 .char, interfaces := #[15, 2], accessFlags := 1041 }

def heap : Heap := #[{ cls := 7, slots := #[.long 0, .int 1, .null, .int 0, .null, .int 0, .int 0], vm := .statics 7 },
  { cls := 10, slots := #[.null, .null, .ref 3, .null], vm := .statics 10 },
  { cls := 13, slots := #[.null, .null, .null], vm := .statics 13 },
  { cls := 10, slots := #[.null, .int 0, .int 0], vm := .none }]
def classes : Array Class := #[k0, k1, k2, k3, k4, k5, k6, k7, k8, k9, k10, k11, k12, k13, k14, k15, k16, k17, k18, k19]
def interned : List (Array UInt16 × Addr) := []
def slotsUsed : Nat := 17
def theMethod : MethodId := ⟨1, 2⟩
def args0 : Array Value := #[.int 1, .int 0, .int 0, .int 0]
def aboutOver (below : List Frame) : State where
  vm := { classes := classes, interned := interned.toArray }
  heap := heap
  slotsUsed := slotsUsed
  threads := #[{ frames := .invoking theMethod args0 :: below }]
def below0 : List Frame := [.native { method := ⟨0, 0⟩, args := #[] }]
def about1 : State := aboutOver below0
def p0 : Program := .bare "" "" ""
def e0 : Env := launch0.env 0 0 0
theorem w_frames : about1.frames = Frame.invoking theMethod args0 :: below0 := rfl
set_option maxRecDepth 65536 in
theorem w_args : argsFit about1.vm theMethod args0 = true := by decide +kernel
set_option maxRecDepth 65536 in
theorem w_heap : heapFits about1 = true := by decide +kernel
set_option maxRecDepth 65536 in
theorem w_runnable : about1.curStatus? = some .runnable := by decide +kernel
set_option maxRecDepth 65536 in
theorem w_alone : about1.alone = true := by decide +kernel
set_option maxRecDepth 65536 in
theorem w_named : about1.methodNamed? x = some theMethod := by decide +kernel
set_option maxRecDepth 65536 in
theorem w_hears : about1.hears theMethod below0 = true := by decide +kernel
set_option maxRecDepth 65536 in
theorem w_ripe : about1.ripe theMethod args0 below0 = true := by decide +kernel
theorem w_running : about1.status = .running := rfl
set_option maxRecDepth 65536 in
theorem w_room : about1.hasRoom e0.platform room_1 = true :=
  launch0.hasRoom_least _ room_1 (by decide +kernel) (by decide +kernel) (by decide +kernel) (by decide +kernel) (by decide +kernel) (by decide +kernel)
theorem allAtoms_all (ts : List Jvm.Cond) (a : Array Jvm.Value) (st : Jvm.State) : (allAtoms ts).before a st = ts.all (fun c => c.before a st) := by
  induction ts with
  | nil => rfl
  | cons c t ih =>
    show (Jvm.Cond.and c (allAtoms t)).before a st = _
    rw [Jvm.Cond.before_and, ih, List.all_cons]
def words1 : List Jvm.Cond := Jvm.Cond.code x code maxLocals ret :: tables_1
/-- a 'code' word, met by the world's own term for the bytes: nothing is compared byte by byte -/
theorem code_word {y : MethodName} {bytes : ByteArray} {mx : Nat} {rt : Option FieldType} {a : Array Value} {s : State} {m : MethodId} {meth : Method} {c : Code} (h1 : s.methodNamed? y = some m) (h2 : s.vm.method? m = some meth) (h3 : meth.code = some c) (h4 : c.code = bytes)
    (h5 : (c.maxLocals == mx && c.exceptionTable.isEmpty && decide (c.maxStack ≤ mostOperands) && decide (meth.sig.returnType = rt) && !meth.locks && decide (parseMethodDescriptor y.desc = some meth.sig)) = true) : (Jvm.Cond.code y bytes mx rt).before a s = true := by
  simp only [Bool.and_eq_true, beq_iff_eq, Bool.not_eq_true', decide_eq_true_eq] at h5
  obtain ⟨⟨⟨⟨⟨g1, g2⟩, g3⟩, g4⟩, g5⟩, g6⟩ := h5
  simp [Cond.before, Cond.holds, Cond.value, h1, h2, h3, h4, g1, g2, g3, g4, g5, g6]
def isCode : Jvm.Cond → Bool
  | .code _ _ _ _ => true
  | _ => false
theorem all_split {L : List Jvm.Cond} {P : Jvm.Cond → Bool} (h1 : L.all (fun c => isCode c || P c) = true) (h2 : ∀ c ∈ L.filter isCode, P c = true) : L.all P = true := by
  refine List.all_eq_true.mpr fun c hc => ?_
  have h := List.all_eq_true.mp h1 c hc
  rcases Bool.eq_false_or_eq_true (isCode c) with hi | hi
  · exact h2 c (List.mem_filter.mpr ⟨hc, hi⟩)
  · simpa [hi] using h
set_option maxRecDepth 65536 in
theorem w_c0 : (Jvm.Cond.code x code maxLocals ret).before args0 about1 = true := code_word (m := ⟨1, 2⟩) (meth := k1m2) (c := k1c2) (by decide +kernel) rfl rfl rfl (by decide +kernel)
set_option maxRecDepth 65536 in
theorem w_c1 : (Jvm.Cond.code ({ cls := "com/example/wito/wito/delivery/VerdictFailedPermanentlyPinLaw", name := "draw", desc := "(IIII)Ljava/lang/String;" } : Jvm.MethodName) method_2_code (8 : Nat) (Option.some (Jvm.ClassFile.FieldType.object "java/lang/String"))).before args0 about1 = true := code_word (m := ⟨1, 1⟩) (meth := k1m1) (c := k1c1) (by decide +kernel) rfl rfl rfl (by decide +kernel)
set_option maxRecDepth 65536 in
theorem w_c2 : (Jvm.Cond.code ({ cls := "java/lang/String", name := "<init>", desc := "([C)V" } : Jvm.MethodName) jdk_42_method_3_code (2 : Nat) (Option.none : Option Jvm.ClassFile.FieldType)).before args0 about1 = true := code_word (m := ⟨7, 1⟩) (meth := k7m1) (c := k7c1) (by decide +kernel) rfl rfl rfl (by decide +kernel)
set_option maxRecDepth 65536 in
theorem w_c3 : (Jvm.Cond.code ({ cls := "java/lang/String", name := "<init>", desc := "([CIILjava/lang/Void;)V" } : Jvm.MethodName) jdk_42_method_149_code (6 : Nat) (Option.none : Option Jvm.ClassFile.FieldType)).before args0 about1 = true := code_word (m := ⟨7, 4⟩) (meth := k7m4) (c := k7c4) (by decide +kernel) rfl rfl rfl (by decide +kernel)
set_option maxRecDepth 65536 in
theorem w_c4 : (Jvm.Cond.code ({ cls := "java/lang/Object", name := "<init>", desc := "()V" } : Jvm.MethodName) object_method_1_code (1 : Nat) (Option.none : Option Jvm.ClassFile.FieldType)).before args0 about1 = true := code_word (m := ⟨0, 0⟩) (meth := k0m0) (c := k0c0) (by decide +kernel) rfl rfl rfl (by decide +kernel)
set_option maxRecDepth 65536 in
theorem w_c5 : (Jvm.Cond.code ({ cls := "com/example/wito/wito/delivery/Verdict", name := "failedPermanently", desc := "(Ljava/lang/String;)Lcom/example/wito/wito/delivery/Verdict;" } : Jvm.MethodName) prog_5_method_5_code (1 : Nat) (Option.some (Jvm.ClassFile.FieldType.object "com/example/wito/wito/delivery/Verdict"))).before args0 about1 = true := code_word (m := ⟨8, 1⟩) (meth := k8m1) (c := k8c1) (by decide +kernel) rfl rfl rfl (by decide +kernel)
set_option maxRecDepth 65536 in
theorem w_c6 : (Jvm.Cond.code ({ cls := "com/example/wito/wito/delivery/Verdict", name := "<init>", desc := "(Lcom/example/wito/wito/delivery/Verdict$Outcome;Ljava/lang/String;Z)V" } : Jvm.MethodName) prog_5_method_1_code (4 : Nat) (Option.none : Option Jvm.ClassFile.FieldType)).before args0 about1 = true := code_word (m := ⟨8, 0⟩) (meth := k8m0) (c := k8c0) (by decide +kernel) rfl rfl rfl (by decide +kernel)
set_option maxRecDepth 65536 in
theorem w_c7 : (Jvm.Cond.code ({ cls := "com/example/wito/wito/delivery/Verdict", name := "outcome", desc := "()Lcom/example/wito/wito/delivery/Verdict$Outcome;" } : Jvm.MethodName) prog_5_method_8_code (1 : Nat) (Option.some (Jvm.ClassFile.FieldType.object "com/example/wito/wito/delivery/Verdict$Outcome"))).before args0 about1 = true := code_word (m := ⟨8, 2⟩) (meth := k8m2) (c := k8c2) (by decide +kernel) rfl rfl rfl (by decide +kernel)
set_option maxRecDepth 65536 in
theorem w_c8 : (Jvm.Cond.code ({ cls := "com/example/wito/wito/delivery/Verdict", name := "retryable", desc := "()Z" } : Jvm.MethodName) prog_5_method_10_code (1 : Nat) (Option.some Jvm.ClassFile.FieldType.boolean)).before args0 about1 = true := code_word (m := ⟨8, 4⟩) (meth := k8m4) (c := k8c4) (by decide +kernel) rfl rfl rfl (by decide +kernel)
set_option maxRecDepth 65536 in
theorem w_c9 : (Jvm.Cond.code ({ cls := "com/example/wito/wito/delivery/Verdict", name := "reason", desc := "()Ljava/lang/String;" } : Jvm.MethodName) prog_5_method_9_code (1 : Nat) (Option.some (Jvm.ClassFile.FieldType.object "java/lang/String"))).before args0 about1 = true := code_word (m := ⟨8, 3⟩) (meth := k8m3) (c := k8c3) (by decide +kernel) rfl rfl rfl (by decide +kernel)
set_option maxRecDepth 65536 in
theorem w_c10 : (Jvm.Cond.code ({ cls := "java/lang/String", name := "equals", desc := "(Ljava/lang/Object;)Z" } : Jvm.MethodName) jdk_42_method_66_code (3 : Nat) (Option.some Jvm.ClassFile.FieldType.boolean)).before args0 about1 = true := code_word (m := ⟨7, 2⟩) (meth := k7m2) (c := k7c2) (by decide +kernel) rfl rfl rfl (by decide +kernel)
set_option maxRecDepth 65536 in
theorem w_c11 : (Jvm.Cond.code ({ cls := "java/lang/StringUTF16", name := "compress", desc := "([CII)[B" } : Jvm.MethodName) jdk_52_method_16_code (6 : Nat) (Option.some (Jvm.ClassFile.FieldType.array Jvm.ClassFile.FieldType.byte))).before args0 about1 = true := code_word (m := ⟨11, 2⟩) (meth := k11m2) (c := k11c2) (by decide +kernel) rfl rfl rfl (by decide +kernel)
set_option maxRecDepth 65536 in
theorem w_c12 : (Jvm.Cond.code ({ cls := "java/lang/StringUTF16", name := "compress", desc := "([CI[BII)I" } : Jvm.MethodName) jdk_52_method_21_code (7 : Nat) (Option.some Jvm.ClassFile.FieldType.int)).before args0 about1 = true := code_word (m := ⟨11, 3⟩) (meth := k11m3) (c := k11c3) (by decide +kernel) rfl rfl rfl (by decide +kernel)
set_option maxRecDepth 65536 in
theorem w_c13 : (Jvm.Cond.code ({ cls := "java/lang/StringUTF16", name := "coderFromArrayLen", desc := "([BI)B" } : Jvm.MethodName) jdk_52_method_15_code (2 : Nat) (Option.some Jvm.ClassFile.FieldType.byte)).before args0 about1 = true := code_word (m := ⟨11, 1⟩) (meth := k11m1) (c := k11c1) (by decide +kernel) rfl rfl rfl (by decide +kernel)
set_option maxRecDepth 65536 in
theorem w_c14 : (Jvm.Cond.code ({ cls := "java/lang/String", name := "valueOf", desc := "(C)Ljava/lang/String;" } : Jvm.MethodName) jdk_42_method_139_code (1 : Nat) (Option.some (Jvm.ClassFile.FieldType.object "java/lang/String"))).before args0 about1 = true := code_word (m := ⟨7, 3⟩) (meth := k7m3) (c := k7c3) (by decide +kernel) rfl rfl rfl (by decide +kernel)
set_option maxRecDepth 65536 in
theorem w_c15 : (Jvm.Cond.code ({ cls := "java/lang/StringLatin1", name := "canEncode", desc := "(C)Z" } : Jvm.MethodName) jdk_43_method_3_code (1 : Nat) (Option.some Jvm.ClassFile.FieldType.boolean)).before args0 about1 = true := code_word (m := ⟨12, 1⟩) (meth := k12m1) (c := k12c1) (by decide +kernel) rfl rfl rfl (by decide +kernel)
set_option maxRecDepth 65536 in
theorem w_c16 : (Jvm.Cond.code ({ cls := "java/lang/StringLatin1", name := "toBytes", desc := "(C)[B" } : Jvm.MethodName) jdk_43_method_46_code (1 : Nat) (Option.some (Jvm.ClassFile.FieldType.array Jvm.ClassFile.FieldType.byte))).before args0 about1 = true := code_word (m := ⟨12, 2⟩) (meth := k12m2) (c := k12c2) (by decide +kernel) rfl rfl rfl (by decide +kernel)
set_option maxRecDepth 65536 in
theorem w_c17 : (Jvm.Cond.code ({ cls := "java/lang/String", name := "<init>", desc := "([BB)V" } : Jvm.MethodName) jdk_42_method_151_code (3 : Nat) (Option.none : Option Jvm.ClassFile.FieldType)).before args0 about1 = true := code_word (m := ⟨7, 5⟩) (meth := k7m5) (c := k7c5) (by decide +kernel) rfl rfl rfl (by decide +kernel)
def codes1 : List Jvm.Cond := [Jvm.Cond.code x code maxLocals ret, Jvm.Cond.code ({ cls := "com/example/wito/wito/delivery/VerdictFailedPermanentlyPinLaw", name := "draw", desc := "(IIII)Ljava/lang/String;" } : Jvm.MethodName) method_2_code (8 : Nat) (Option.some (Jvm.ClassFile.FieldType.object "java/lang/String")), Jvm.Cond.code ({ cls := "java/lang/String", name := "<init>", desc := "([C)V" } : Jvm.MethodName) jdk_42_method_3_code (2 : Nat) (Option.none : Option Jvm.ClassFile.FieldType), Jvm.Cond.code ({ cls := "java/lang/String", name := "<init>", desc := "([CIILjava/lang/Void;)V" } : Jvm.MethodName) jdk_42_method_149_code (6 : Nat) (Option.none : Option Jvm.ClassFile.FieldType), Jvm.Cond.code ({ cls := "java/lang/Object", name := "<init>", desc := "()V" } : Jvm.MethodName) object_method_1_code (1 : Nat) (Option.none : Option Jvm.ClassFile.FieldType), Jvm.Cond.code ({ cls := "com/example/wito/wito/delivery/Verdict", name := "failedPermanently", desc := "(Ljava/lang/String;)Lcom/example/wito/wito/delivery/Verdict;" } : Jvm.MethodName) prog_5_method_5_code (1 : Nat) (Option.some (Jvm.ClassFile.FieldType.object "com/example/wito/wito/delivery/Verdict")), Jvm.Cond.code ({ cls := "com/example/wito/wito/delivery/Verdict", name := "<init>", desc := "(Lcom/example/wito/wito/delivery/Verdict$Outcome;Ljava/lang/String;Z)V" } : Jvm.MethodName) prog_5_method_1_code (4 : Nat) (Option.none : Option Jvm.ClassFile.FieldType), Jvm.Cond.code ({ cls := "com/example/wito/wito/delivery/Verdict", name := "outcome", desc := "()Lcom/example/wito/wito/delivery/Verdict$Outcome;" } : Jvm.MethodName) prog_5_method_8_code (1 : Nat) (Option.some (Jvm.ClassFile.FieldType.object "com/example/wito/wito/delivery/Verdict$Outcome")), Jvm.Cond.code ({ cls := "com/example/wito/wito/delivery/Verdict", name := "retryable", desc := "()Z" } : Jvm.MethodName) prog_5_method_10_code (1 : Nat) (Option.some Jvm.ClassFile.FieldType.boolean), Jvm.Cond.code ({ cls := "com/example/wito/wito/delivery/Verdict", name := "reason", desc := "()Ljava/lang/String;" } : Jvm.MethodName) prog_5_method_9_code (1 : Nat) (Option.some (Jvm.ClassFile.FieldType.object "java/lang/String")), Jvm.Cond.code ({ cls := "java/lang/String", name := "equals", desc := "(Ljava/lang/Object;)Z" } : Jvm.MethodName) jdk_42_method_66_code (3 : Nat) (Option.some Jvm.ClassFile.FieldType.boolean), Jvm.Cond.code ({ cls := "java/lang/StringUTF16", name := "compress", desc := "([CII)[B" } : Jvm.MethodName) jdk_52_method_16_code (6 : Nat) (Option.some (Jvm.ClassFile.FieldType.array Jvm.ClassFile.FieldType.byte)), Jvm.Cond.code ({ cls := "java/lang/StringUTF16", name := "compress", desc := "([CI[BII)I" } : Jvm.MethodName) jdk_52_method_21_code (7 : Nat) (Option.some Jvm.ClassFile.FieldType.int), Jvm.Cond.code ({ cls := "java/lang/StringUTF16", name := "coderFromArrayLen", desc := "([BI)B" } : Jvm.MethodName) jdk_52_method_15_code (2 : Nat) (Option.some Jvm.ClassFile.FieldType.byte), Jvm.Cond.code ({ cls := "java/lang/String", name := "valueOf", desc := "(C)Ljava/lang/String;" } : Jvm.MethodName) jdk_42_method_139_code (1 : Nat) (Option.some (Jvm.ClassFile.FieldType.object "java/lang/String")), Jvm.Cond.code ({ cls := "java/lang/StringLatin1", name := "canEncode", desc := "(C)Z" } : Jvm.MethodName) jdk_43_method_3_code (1 : Nat) (Option.some Jvm.ClassFile.FieldType.boolean), Jvm.Cond.code ({ cls := "java/lang/StringLatin1", name := "toBytes", desc := "(C)[B" } : Jvm.MethodName) jdk_43_method_46_code (1 : Nat) (Option.some (Jvm.ClassFile.FieldType.array Jvm.ClassFile.FieldType.byte)), Jvm.Cond.code ({ cls := "java/lang/String", name := "<init>", desc := "([BB)V" } : Jvm.MethodName) jdk_42_method_151_code (3 : Nat) (Option.none : Option Jvm.ClassFile.FieldType)]
set_option maxRecDepth 65536 in
theorem codes_eq : words1.filter isCode = codes1 := rfl
theorem w_codes : ∀ c ∈ words1.filter isCode, c.before args0 about1 = true := by
  rw [codes_eq]
  intro c hc
  simp only [codes1, List.mem_cons, List.not_mem_nil, or_false] at hc
  rcases hc with rfl | rfl | rfl | rfl | rfl | rfl | rfl | rfl | rfl | rfl | rfl | rfl | rfl | rfl | rfl | rfl | rfl | rfl
  · exact w_c0
  · exact w_c1
  · exact w_c2
  · exact w_c3
  · exact w_c4
  · exact w_c5
  · exact w_c6
  · exact w_c7
  · exact w_c8
  · exact w_c9
  · exact w_c10
  · exact w_c11
  · exact w_c12
  · exact w_c13
  · exact w_c14
  · exact w_c15
  · exact w_c16
  · exact w_c17
set_option maxRecDepth 65536 in
theorem w_t1 : (words1.take 24).all (fun c => isCode c || c.before args0 about1) = true := by decide +kernel
set_option maxRecDepth 65536 in
theorem w_t2 : ((words1.drop 24).take 24).all (fun c => isCode c || c.before args0 about1) = true := by decide +kernel
set_option maxRecDepth 65536 in
theorem w_t3 : (((words1.drop 24).drop 24).take 24).all (fun c => isCode c || c.before args0 about1) = true := by decide +kernel
set_option maxRecDepth 65536 in
theorem w_t4 : (((words1.drop 24).drop 24).drop 24).all (fun c => isCode c || c.before args0 about1) = true := by decide +kernel
theorem w_tables : (allAtoms (Jvm.Cond.code x code maxLocals ret :: tables_1)).before args0 about1 = true := by
  rw [allAtoms_all]
  show words1.all (fun c => c.before args0 about1) = true
  refine all_split ?_ w_codes
  rw [← List.take_append_drop 24 words1, List.all_append, w_t1, ← List.take_append_drop 24 (words1.drop 24), List.all_append, w_t2, ← List.take_append_drop 24 ((words1.drop 24).drop 24), List.all_append, w_t3, w_t4]
  rfl
set_option maxRecDepth 65536 in
theorem w_rest : rest_1_c.before args0 about1 = true := by decide +kernel
set_option maxRecDepth 65536 in
theorem w_case : (Jvm.Cond.and given_1 narrow_1).before args0 about1 = true := by decide +kernel
set_option maxRecDepth 65536 in
theorem w_consts : constsHeld consts_1 about1 := Jvm.Lit.constsHeldB_iff.mp (by decide +kernel)
theorem w_applies : (headSpec (Jvm.Cond.code x code maxLocals ret :: tables_1) room_1).applies x e0.platform about1 = true :=
  (Spec.applies_iff w_frames).mpr ⟨w_running, w_runnable, w_alone, w_named, w_hears, w_ripe, w_room, w_tables⟩
theorem atStart : AtStart classFile x code maxLocals ret World_1 tables_1 room_1 Calls_1 rest_1 Pre_1 launch0 p0 e0 about1 theMethod args0 below0 :=
  ⟨lists_1, trivial, launch0.admits_env _ _ _, launch0.least_env, fairChoices_fair.cas, fairChoices_fair.clock, w_frames, w_args, w_heap, w_applies, ⟨w_consts, trivial⟩, w_rest, w_case⟩
end start1
theorem witness_1 : WitnessClaimed_1 := ⟨start1.p0, start1.e0, start1.about1, start1.theMethod, start1.args0, start1.below0, start1.atStart⟩
end Jvm.Pilot.@@N@@
