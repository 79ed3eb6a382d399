import JvmDerived
import JvmDerived.Pilot.@@N@@Statement
import JvmDerived.Pilot.@@N@@Code
set_option linter.unusedVariables false
set_option linter.unusedSimpArgs false
/- laws to paste: Road.backV (cut by pick.py; bodies as the Statement names them) -/
namespace Jvm.Pilot.@@N@@
namespace StrChars
open Jvm Sem ClassFile Op Lib Jvm.Stand Jvm.Free.XT Jvm.Free.ALB Jvm.Free.JM Jvm.Free
open Jvm.Lib.Cold (StaticIs)
/-- a char array whose places are chars -/
def Ch (a : Addr) (A : Cell) (U : State) : Prop := Arr .char a A U ∧ Typed .char A
theorem Ch.mv {a : Addr} {A : Cell} {U U' : State} (h : Ch a A U) (hal : U.vm.Alike U'.vm) (hh : U'.heap = U.heap) : Ch a A U' := ⟨h.1.mv hal hh, h.2⟩
theorem Ch.keep {a : Addr} {A : Cell} {U U' : State} (h : Ch a A U) (hal : U.vm.Alike U'.vm) (hk : U'.heap[a]? = some A) : Ch a A U' := ⟨h.1.keep hal hk, h.2⟩
/-- what place i of a char[]'s cell holds -/
def cv (A : Cell) (i : Nat) : Int32 := match A.slots[i]? with | some (.int x) => x | _ => 0
theorem Ch.get {a : Addr} {A : Cell} {U : State} (h : Ch a A U) {i : Nat} (hi : i < A.slots.size) : A.slots[i]? = some (.int (cv A i)) := by
  have e := Array.getElem?_eq_getElem hi
  have f := h.2 i _ e
  unfold cv; rw [e]
  generalize A.slots[i] = v at f
  cases v <;> simp [fits] at f ⊢
/-- the byte that i2b leaves of a char -/
def lo8 (x : Int32) : Int32 := x.toInt8.toInt32
theorem fits_lo8 (y : Int32) : fits .byte (.int (lo8 y)) = true := by
  have h1 := y.toInt8.le_toInt
  have h2 := y.toInt8.toInt_lt
  simp only [lo8, fits, Bool.and_eq_true, decide_eq_true_eq, Int32.le_iff_toInt_le, Int8.toInt_toInt32, show (-128 : Int32).toInt = -128 from by decide, show (127 : Int32).toInt = 127 from by decide]
  omega
/-- A' is A but that each place j of lo .. hi - 1 holds f j -/
def Laid (A A' : Cell) (lo hi : Nat) (f : Nat → Value) : Prop := A'.cls = A.cls ∧ A'.vm = A.vm ∧ A'.slots.size = A.slots.size ∧ ∀ i, A'.slots[i]? = if lo ≤ i ∧ i < hi then some (f i) else A.slots[i]?
theorem Laid.zero (A : Cell) (lo : Nat) (f : Nat → Value) : Laid A A lo (lo + 0) f := ⟨rfl, rfl, rfl, fun i => by rw [if_neg (by omega)]⟩
theorem Laid.step {A Ak : Cell} {lo k : Nat} {f : Nat → Value} {v : Value} (h : Laid A Ak lo k f) (hlo : lo ≤ k) (hk : k < Ak.slots.size) (hv : v = f k) : Laid A (Ak.setSlot k v) lo (k + 1) f := by
  refine ⟨h.1, h.2.1, by simpa [Cell.setSlot] using h.2.2.1, fun i => ?_⟩
  by_cases e : k = i
  · subst e; rw [Cell.slots_setSlot_self v hk, if_pos (by omega), hv]
  · rw [Cell.slots_setSlot_ne v e, h.2.2.2 i]
    by_cases q : lo ≤ i ∧ i < k
    · rw [if_pos q, if_pos (by omega)]
    · rw [if_neg q, if_neg (by omega)]
def U16 : String := "java/lang/StringUTF16"
namespace Cmp5
def yN : MethodName := ⟨"java/lang/StringUTF16", "compress", "([CI[BII)I"⟩
abbrev yB : ByteArray := jdk_52_method_21_code
theorem d0 : decode yB 0 = .ok (.iconst 0, 1) := by decide +kernel
theorem d1 : decode yB 1 = .ok (.istore 5, 2) := by decide +kernel
theorem d3 : decode yB 3 = .ok (.iload 5, 2) := by decide +kernel
theorem d5 : decode yB 5 = .ok (.iload 4, 2) := by decide +kernel
theorem d7 : decode yB 7 = .ok (.if_icmp (.ge) 37, 3) := by decide +kernel
theorem d10 : decode yB 10 = .ok (.aload_n 0, 1) := by decide +kernel
theorem d11 : decode yB 11 = .ok (.iload_n 1, 1) := by decide +kernel
theorem d12 : decode yB 12 = .ok (.caload, 1) := by decide +kernel
theorem d13 : decode yB 13 = .ok (.istore 6, 2) := by decide +kernel
theorem d15 : decode yB 15 = .ok (.iload 6, 2) := by decide +kernel
theorem d17 : decode yB 17 = .ok (.sipush 255, 3) := by decide +kernel
theorem d20 : decode yB 20 = .ok (.if_icmp (.le) 6, 3) := by decide +kernel
theorem d26 : decode yB 26 = .ok (.aload_n 2, 1) := by decide +kernel
theorem d27 : decode yB 27 = .ok (.iload_n 3, 1) := by decide +kernel
theorem d28 : decode yB 28 = .ok (.iload 6, 2) := by decide +kernel
theorem d30 : decode yB 30 = .ok (.i2b, 1) := by decide +kernel
theorem d31 : decode yB 31 = .ok (.bastore, 1) := by decide +kernel
theorem d32 : decode yB 32 = .ok (.iinc 1 1, 3) := by decide +kernel
theorem d35 : decode yB 35 = .ok (.iinc 3 1, 3) := by decide +kernel
theorem d38 : decode yB 38 = .ok (.iinc 5 1, 3) := by decide +kernel
theorem d41 : decode yB 41 = .ok (.goto (-38), 3) := by decide +kernel
theorem d44 : decode yB 44 = .ok (.iload 4, 2) := by decide +kernel
theorem d46 : decode yB 46 = .ok (.ireturn, 1) := by decide +kernel
def site : List Cond := []
def tab : Cond := tabOf yN yB 7 (some .int) site
def P (b : Addr) (A : Cell) (d : Addr) (B : Cell) (o q len : Nat) (args : Array Value) (s : State) : Prop := args = #[.ref b, .int (Int32.ofNat o), .ref d, .int (Int32.ofNat q), .int (Int32.ofNat len)] ∧ Ch b A s ∧ Arr .byte d B s ∧ b ≠ d ∧ o + len ≤ A.slots.size ∧ q + len ≤ B.slots.size ∧ ∀ i, i < len → ¬ 255 < cv A (o + i)
def E (b : Addr) (A : Cell) (d : Addr) (B : Cell) (o q len : Nat) (r : Option Value) (s u : State) : Prop := r = some (.int (Int32.ofNat len)) ∧ ∃ B', Put d B' s u ∧ Laid B B' q (q + len) (fun j => Value.int (lo8 (cv A (o + (j - q)))))
/-- no char of the range above 255: len; the places written hold each char's low byte -/
theorem law (l : Launch) (b : Addr) (A : Cell) (d : Addr) (B : Cell) (o q len : Nat) : Law l yN 5 5 0 0 yB 7 (some .int) site (P b A d B o q len) (E b A d B o q len) (copyLocs d q len) 0 0 := by
  refine Law.of_walk (plainFor_of_name (by decide +kernel)) (by decide +kernel) (by decide +kernel) (by decide) (fun _ _ h => by rw [h.1]; rfl) (fun _ U U' hal hh h => ⟨h.1, h.2.1.mv hal hh, h.2.2.1.mv hal hh, h.2.2.2⟩) (fun r U U' V V' h1 hal h2 h => ⟨h.1, h.2.elim fun B' q => ⟨B', q.1.mv h1 h2, q.2⟩⟩) ?_
  intro p e s m args below meth c s₁ X0 hexec hbytes hml hret hlk hnm hown hh0 W hP
  obtain ⟨rfl, hA, hB, hne, l1, l2, hp⟩ := hP
  have c1 : Steps p.tables e below (s₁.setTop (entryFrame m #[.ref b, .int (Int32.ofNat o), .ref d, .int (Int32.ofNat q), .int (Int32.ofNat len)] 7)) (s₁.setTop (mkF m 0 #[.val (.ref b), .val (.int (Int32.ofNat o)), .val (.ref d), .val (.int (Int32.ofNat q)), .val (.int (Int32.ofNat len)), .unset, .unset] [])) := entry rfl
  have hA0 := hA.1.mv X0.warmed.alike hh0
  have hB0 := hB.mv X0.warmed.alike hh0
  have a31 := hA.1.2.2.2
  have c2 : Steps p.tables e below (s₁.setTop (entryFrame m #[.ref b, .int (Int32.ofNat o), .ref d, .int (Int32.ofNat q), .int (Int32.ofNat len)] 7)) (s₁.setTop (mkF m 3 #[.val (.ref b), .val (.int (Int32.ofNat o)), .val (.ref d), .val (.int (Int32.ofNat q)), .val (.int (Int32.ofNat len)), .val (.int 0), .unset] [])) := c1.trans (by
    refine iconstV X0.here hexec rfl 0 (hb hbytes d0) (by decide) ?_
    refine XS.istore X0.here hexec rfl (hb hbytes d1) rfl rfl ?_
    exact Steps.refl _)
  have loop : ∀ (r i : Nat), i + r = len → ∀ (z : Slot), (z = .unset ∨ ∃ w, z = .val w ∧ w.category = 1) → ∀ (Tl : State) (Bk : Cell), Stand p l e { frames := 0, locals := 0, cells := 0, slots := 0 } s m #[.ref b, .int (Int32.ofNat o), .ref d, .int (Int32.ofNat q), .int (Int32.ofNat len)] below meth c Tl ([] ++ copyLocs d q i) 0 0 → Put d Bk s₁ Tl → Laid B Bk q (q + i) (fun j => Value.int (lo8 (cv A (o + (j - q))))) →
      Steps p.tables e below (s₁.setTop (entryFrame m #[.ref b, .int (Int32.ofNat o), .ref d, .int (Int32.ofNat q), .int (Int32.ofNat len)] 7)) (Tl.setTop (mkF m 3 #[.val (.ref b), .val (.int (Int32.ofNat (o + i))), .val (.ref d), .val (.int (Int32.ofNat (q + i))), .val (.int (Int32.ofNat len)), .val (.int (Int32.ofNat i)), z] [])) → ∃ (T' : State) (B' : Cell) (z' : Slot), Stand p l e { frames := 0, locals := 0, cells := 0, slots := 0 } s m #[.ref b, .int (Int32.ofNat o), .ref d, .int (Int32.ofNat q), .int (Int32.ofNat len)] below meth c T' ([] ++ copyLocs d q len) 0 0 ∧ Put d B' s₁ T' ∧ Laid B B' q (q + len) (fun j => Value.int (lo8 (cv A (o + (j - q))))) ∧
      Steps p.tables e below (s₁.setTop (entryFrame m #[.ref b, .int (Int32.ofNat o), .ref d, .int (Int32.ofNat q), .int (Int32.ofNat len)] 7)) (T'.setTop (mkF m 3 #[.val (.ref b), .val (.int (Int32.ofNat (o + len))), .val (.ref d), .val (.int (Int32.ofNat (q + len))), .val (.int (Int32.ofNat len)), .val (.int (Int32.ofNat len)), z'] [])) := by
    intro r
    induction r with
    | zero =>
      intro i hi z hz Tl Bk Xl pl fl cl
      have hil : i = len := by omega
      rw [hil] at Xl fl cl
      exact ⟨Tl, Bk, z, Xl, pl, fl, cl⟩
    | succ r ih =>
      intro i hi z hz Tl Bk Xl pl fl cl
      have all := X0.warmed.alike.symm.trans Xl.warmed.alike
      have hAl := hA0.keep all (pl.other hne hA0.1)
      have hBk := hB0.like all pl.1 fl.1 fl.2.1 fl.2.2.1
      have hlt : q + i < Bk.slots.size := by rw [fl.2.2.1]; omega
      have c3 : Steps p.tables e below (s₁.setTop (entryFrame m #[.ref b, .int (Int32.ofNat o), .ref d, .int (Int32.ofNat q), .int (Int32.ofNat len)] 7)) (Tl.setTop (mkF m 12 #[.val (.ref b), .val (.int (Int32.ofNat (o + i))), .val (.ref d), .val (.int (Int32.ofNat (q + i))), .val (.int (Int32.ofNat len)), .val (.int (Int32.ofNat i)), z] [.int (Int32.ofNat (o + i)), .ref b])) := cl.trans (by
        refine XS.iload Xl.here hexec rfl (hb hbytes d3) rfl ?_
        refine XS.iload Xl.here hexec rfl (hb hbytes d5) rfl ?_
        refine XS.icmpNo Xl.here hexec rfl (hb hbytes d7) rfl (ii_ge_f (lt32 (by omega) (by omega))) ?_
        refine XS.aloadN Xl.here hexec rfl (hb hbytes d10) rfl rfl ?_
        refine XS.iloadN Xl.here hexec rfl (hb hbytes d11) rfl ?_
        exact Steps.refl _)
      have c4 : Steps p.tables e below (s₁.setTop (entryFrame m #[.ref b, .int (Int32.ofNat o), .ref d, .int (Int32.ofNat q), .int (Int32.ofNat len)] 7)) (Tl.setTop (mkF m 13 #[.val (.ref b), .val (.int (Int32.ofNat (o + i))), .val (.ref d), .val (.int (Int32.ofNat (q + i))), .val (.int (Int32.ofNat len)), .val (.int (Int32.ofNat i)), z] [.int (cv A (o + i))])) := c3.trans (by
        refine Xl.aget hexec hAl rfl (hA.get (i := o + i) (by omega)) rfl rfl (hb hbytes d12) ?_
        exact Steps.refl _)
      have c5 : Steps p.tables e below (s₁.setTop (entryFrame m #[.ref b, .int (Int32.ofNat o), .ref d, .int (Int32.ofNat q), .int (Int32.ofNat len)] 7)) (Tl.setTop (mkF m 15 #[.val (.ref b), .val (.int (Int32.ofNat (o + i))), .val (.ref d), .val (.int (Int32.ofNat (q + i))), .val (.int (Int32.ofNat len)), .val (.int (Int32.ofNat i)), .val (.int (cv A (o + i)))] [])) := c4.trans (by
        refine XS.istoreS Xl.here hexec rfl (hb hbytes d13) rfl rfl hz ?_
        exact Steps.refl _)
      have c6 : Steps p.tables e below (s₁.setTop (entryFrame m #[.ref b, .int (Int32.ofNat o), .ref d, .int (Int32.ofNat q), .int (Int32.ofNat len)] 7)) (Tl.setTop (mkF m 31 #[.val (.ref b), .val (.int (Int32.ofNat (o + i))), .val (.ref d), .val (.int (Int32.ofNat (q + i))), .val (.int (Int32.ofNat len)), .val (.int (Int32.ofNat i)), .val (.int (cv A (o + i)))] [.int (lo8 (cv A (o + i))), .int (Int32.ofNat (q + i)), .ref d])) := c5.trans (by
        refine XS.iload Xl.here hexec rfl (hb hbytes d15) rfl ?_
        refine sipushV Xl.here hexec rfl 255 (hb hbytes d17) (by decide) ?_
        refine XS.icmpYes Xl.here hexec rfl (pc0 := 20) rfl (hb hbytes d20) rfl (ii_le_t (hp i (by omega))) (by decide) rfl ?_
        refine XS.aloadN Xl.here hexec rfl (hb hbytes d26) rfl rfl ?_
        refine XS.iloadN Xl.here hexec rfl (hb hbytes d27) rfl ?_
        refine XS.iload Xl.here hexec rfl (hb hbytes d28) rfl ?_
        refine i2b Xl.here hexec rfl (hb hbytes d30) rfl ?_
        exact Steps.refl _)
      obtain ⟨T7, X7, p7, st7⟩ := Xl.aput hexec hBk rfl hlt rfl (fits_lo8 (cv A (o + i))) (g := (mkF m 31 #[.val (.ref b), .val (.int (Int32.ofNat (o + i))), .val (.ref d), .val (.int (Int32.ofNat (q + i))), .val (.int (Int32.ofNat len)), .val (.int (Int32.ofNat i)), .val (.int (cv A (o + i)))] [.int (lo8 (cv A (o + i))), .int (Int32.ofNat (q + i)), .ref d])) rfl (rest := []) rfl (hb hbytes d31)
      have c8 : Steps p.tables e below (s₁.setTop (entryFrame m #[.ref b, .int (Int32.ofNat o), .ref d, .int (Int32.ofNat q), .int (Int32.ofNat len)] 7)) (T7.setTop (mkF m 32 #[.val (.ref b), .val (.int (Int32.ofNat (o + i))), .val (.ref d), .val (.int (Int32.ofNat (q + i))), .val (.int (Int32.ofNat len)), .val (.int (Int32.ofNat i)), .val (.int (cv A (o + i)))] [])) := c6.trans (st7 _ (Steps.refl _))
      have c9 : Steps p.tables e below (s₁.setTop (entryFrame m #[.ref b, .int (Int32.ofNat o), .ref d, .int (Int32.ofNat q), .int (Int32.ofNat len)] 7)) (T7.setTop (mkF m 3 #[.val (.ref b), .val (.int (Int32.ofNat (o + i) + 1)), .val (.ref d), .val (.int (Int32.ofNat (q + i) + 1)), .val (.int (Int32.ofNat len)), .val (.int (Int32.ofNat i + 1)), .val (.int (cv A (o + i)))] [])) := c8.trans (by
        refine iincV X7.here hexec rfl 1 (hb hbytes d32) (by decide) rfl rfl ?_
        refine iincV X7.here hexec rfl 1 (hb hbytes d35) (by decide) rfl rfl ?_
        refine iincV X7.here hexec rfl 1 (hb hbytes d38) (by decide) rfl rfl ?_
        refine XS.goto X7.here hexec rfl (pc0 := 41) rfl (hb hbytes d41) (by decide) rfl ?_
        exact Steps.refl _)
      have c10 : Steps p.tables e below (s₁.setTop (entryFrame m #[.ref b, .int (Int32.ofNat o), .ref d, .int (Int32.ofNat q), .int (Int32.ofNat len)] 7)) (T7.setTop (mkF m 3 #[.val (.ref b), .val (.int (Int32.ofNat (o + (i + 1)))), .val (.ref d), .val (.int (Int32.ofNat (q + (i + 1)))), .val (.int (Int32.ofNat len)), .val (.int (Int32.ofNat (i + 1))), .val (.int (cv A (o + i)))] [])) := by
        have := c9
        rw [succ32, succ32, succ32] at this
        exact this
      exact ih (i + 1) (by omega) _ (Or.inr ⟨_, rfl, rfl⟩) T7 _ (by rw [copyLocs_step, ← List.append_assoc]; exact X7) (pl.trans p7) (fl.step (by omega) hlt (by simp)) c10
  obtain ⟨T9, B9, z9, X9, p9, f9, g9⟩ := loop len 0 (by omega) .unset (Or.inl rfl) s₁ B (by simpa [copyLocs] using X0) ⟨hB0.1, fun _ _ => rfl, rfl⟩ (Laid.zero _ _ _) c2
  have c11 : Steps p.tables e below (s₁.setTop (entryFrame m #[.ref b, .int (Int32.ofNat o), .ref d, .int (Int32.ofNat q), .int (Int32.ofNat len)] 7)) (T9.setTop (mkF m 46 #[.val (.ref b), .val (.int (Int32.ofNat (o + len))), .val (.ref d), .val (.int (Int32.ofNat (q + len))), .val (.int (Int32.ofNat len)), .val (.int (Int32.ofNat len)), z9] [.int (Int32.ofNat len)])) := g9.trans (by
    refine XS.iload X9.here hexec rfl (hb hbytes d3) rfl ?_
    refine XS.iload X9.here hexec rfl (hb hbytes d5) rfl ?_
    refine XS.icmpYes X9.here hexec rfl (pc0 := 7) rfl (hb hbytes d7) rfl (ii_ge_t (nlt32 (by omega) (Nat.le_refl _))) (by decide) rfl ?_
    refine XS.iload X9.here hexec rfl (hb hbytes d44) rfl ?_
    exact Steps.refl _)
  exact ⟨T9, some (.int (Int32.ofNat len)), _, _, _, X9, by simp, rfl, rfl, (fun h => by cases h), ⟨rfl, B9, p9.from hh0, f9⟩, fun fs hl => c11.trans (X9.ireturnOut hexec hret rfl (Or.inl rfl) (hb hbytes d46) hl)⟩
end Cmp5
namespace Cmp3
def yN : MethodName := ⟨"java/lang/StringUTF16", "compress", "([CII)[B"⟩
abbrev yB : ByteArray := jdk_52_method_16_code
theorem d0 : decode yB 0 = .ok (.iload_n 2, 1) := by decide +kernel
theorem d1 : decode yB 1 = .ok (.newarray .byte, 2) := by decide +kernel
theorem d3 : decode yB 3 = .ok (.astore_n 3, 1) := by decide +kernel
theorem d4 : decode yB 4 = .ok (.aload_n 0, 1) := by decide +kernel
theorem d5 : decode yB 5 = .ok (.iload_n 1, 1) := by decide +kernel
theorem d6 : decode yB 6 = .ok (.aload_n 3, 1) := by decide +kernel
theorem d7 : decode yB 7 = .ok (.iconst 0, 1) := by decide +kernel
theorem d8 : decode yB 8 = .ok (.iload_n 2, 1) := by decide +kernel
theorem d9 : decode yB 9 = .ok (.invokestatic 115, 3) := by decide +kernel
theorem d12 : decode yB 12 = .ok (.istore 4, 2) := by decide +kernel
theorem d14 : decode yB 14 = .ok (.iload 4, 2) := by decide +kernel
theorem d16 : decode yB 16 = .ok (.iload_n 2, 1) := by decide +kernel
theorem d17 : decode yB 17 = .ok (.if_icmp (.eq) 40, 3) := by decide +kernel
theorem d57 : decode yB 57 = .ok (.aload_n 3, 1) := by decide +kernel
theorem d58 : decode yB 58 = .ok (.areturn, 1) := by decide +kernel
def site : List Cond := [.arrayClass .byte, Cmp5.tab] ++ staticW U16 115 Cmp5.yN
def tab : Cond := tabOf yN yB 6 (some (.array .byte)) site
def P (b : Addr) (A : Cell) (o len : Nat) (args : Array Value) (s : State) : Prop := args = #[.ref b, .int (Int32.ofNat o), .int (Int32.ofNat len)] ∧ Ch b A s ∧ o + len ≤ A.slots.size ∧ len ≤ 536870912 ∧ ∀ i, i < len → ¬ 255 < cv A (o + i)
def E (b : Addr) (A : Cell) (o len : Nat) (r : Option Value) (s u : State) : Prop := NewArr .byte "[B" len (fun j => .int (lo8 (cv A (o + j)))) r s u ∧ u.heap.size = s.heap.size + 1
/-- no char of the range above 255: a new byte[] of their low bytes -/
theorem law (l : Launch) (b : Addr) (A : Cell) (o len : Nat) : Law l yN 3 3 1 18 yB 6 (some (.array .byte)) site (P b A o len) (E b A o len) [] 1 len := by
  refine Law.of_walk (plainFor_of_name (by decide +kernel)) (by decide +kernel) (by decide +kernel) (by decide) (fun _ _ h => by rw [h.1]; rfl) (fun _ U U' hal hh h => ⟨h.1, h.2.1.mv hal hh, h.2.2⟩) (fun r U U' V V' h1 hal h2 h => ⟨NewArr.mv r U U' V V' h1 hal h2 h.1, by rw [h1, h2]; exact h.2⟩) ?_
  intro p e s m args below meth c s₁ X0 hexec hbytes hml hret hlk hnm hown hh0 W hP
  obtain ⟨rfl, hA, l1, l2, hp⟩ := hP
  have a31 := hA.1.2.2.2
  have c1 : Steps p.tables e below (s₁.setTop (entryFrame m #[.ref b, .int (Int32.ofNat o), .int (Int32.ofNat len)] 6)) (s₁.setTop (mkF m 0 #[.val (.ref b), .val (.int (Int32.ofNat o)), .val (.int (Int32.ofNat len)), .unset, .unset, .unset] [])) := entry rfl
  have c2 : Steps p.tables e below (s₁.setTop (entryFrame m #[.ref b, .int (Int32.ofNat o), .int (Int32.ofNat len)] 6)) (s₁.setTop (mkF m 1 #[.val (.ref b), .val (.int (Int32.ofNat o)), .val (.int (Int32.ofNat len)), .unset, .unset, .unset] [.int (Int32.ofNat len)])) := c1.trans (by
    refine XS.iloadN X0.here hexec rfl (hb hbytes d0) rfl ?_
    exact Steps.refl _)
  obtain ⟨T3, B3, X3, ba3, bs3, bv3, bh3, bf3, st3⟩ := X0.anew hexec (atype := .byte) (wk W (.arrayClass .byte)) rfl (by show len * 1 ≤ _; omega) (by omega) (g := (mkF m 1 #[.val (.ref b), .val (.int (Int32.ofNat o)), .val (.int (Int32.ofNat len)), .unset, .unset, .unset] [.int (Int32.ofNat len)])) rfl (hb hbytes d1) (rest := []) rfl (Nat.le_refl _) (by show 0 + len ≤ len; omega)
  rw [hh0] at ba3 st3
  have kp3 : XT.Kept s T3 := (XT.Kept.of_eq hh0).push bh3
  have hA3 := hA.keep X3.warmed.alike (kp3 _ _ hA.1.1)
  have hne : b ≠ s.heap.size := hA.1.ne
  have c4 : Steps p.tables e below (s₁.setTop (entryFrame m #[.ref b, .int (Int32.ofNat o), .int (Int32.ofNat len)] 6)) (T3.setTop (mkF m 3 #[.val (.ref b), .val (.int (Int32.ofNat o)), .val (.int (Int32.ofNat len)), .unset, .unset, .unset] [.ref s.heap.size])) := c2.trans (st3 _ (Steps.refl _))
  have c5 : Steps p.tables e below (s₁.setTop (entryFrame m #[.ref b, .int (Int32.ofNat o), .int (Int32.ofNat len)] 6)) (T3.setTop (mkF m 9 #[.val (.ref b), .val (.int (Int32.ofNat o)), .val (.int (Int32.ofNat len)), .val (.ref s.heap.size), .unset, .unset] [.int (Int32.ofNat len), .int 0, .ref s.heap.size, .int (Int32.ofNat o), .ref b])) := c4.trans (by
    refine XS.astoreN X3.here hexec rfl (hb hbytes d3) rfl rfl rfl ?_
    refine XS.aloadN X3.here hexec rfl (hb hbytes d4) rfl rfl ?_
    refine XS.iloadN X3.here hexec rfl (hb hbytes d5) rfl ?_
    refine XS.aloadN X3.here hexec rfl (hb hbytes d6) rfl rfl ?_
    refine iconstV X3.here hexec rfl 0 (hb hbytes d7) (by decide) ?_
    refine XS.iloadN X3.here hexec rfl (hb hbytes d8) rfl ?_
    exact Steps.refl _)
  obtain ⟨v6, T6, X6, E6, g6⟩ := X3.callS hexec (Cmp5.law l b A s.heap.size B3 o 0 len) hown (wks W (staticW U16 115 Cmp5.yN)) (wk W Cmp5.tab) (W := 0) (Nat.le_of_ble_eq_true rfl) (Nat.le_of_ble_eq_true rfl) (Nat.le_refl _) (by show 0 + len + 0 ≤ len; omega) (g := (mkF m 9 #[.val (.ref b), .val (.int (Int32.ofNat o)), .val (.int (Int32.ofNat len)), .val (.ref s.heap.size), .unset, .unset] [.int (Int32.ofNat len), .int (Int32.ofNat 0), .ref s.heap.size, .int (Int32.ofNat o), .ref b])) rfl (by rw [hml]; rfl) c5 (argsL := [.ref b, .int (Int32.ofNat o), .ref s.heap.size, .int (Int32.ofNat 0), .int (Int32.ofNat len)]) (rest := []) rfl rfl (by show 2 * 0 + 0 ≤ _; decide) (hb hbytes d9) (⟨rfl, hA3, ba3, hne, l1, by rw [bs3]; simp, hp⟩)
  obtain ⟨rfl, B6, p6, f6⟩ := E6
  have c7 : Steps p.tables e below (s₁.setTop (entryFrame m #[.ref b, .int (Int32.ofNat o), .int (Int32.ofNat len)] 6)) (T6.setTop (mkF m 12 #[.val (.ref b), .val (.int (Int32.ofNat o)), .val (.int (Int32.ofNat len)), .val (.ref s.heap.size), .unset, .unset] [.int (Int32.ofNat len)])) := g6
  have c8 : Steps p.tables e below (s₁.setTop (entryFrame m #[.ref b, .int (Int32.ofNat o), .int (Int32.ofNat len)] 6)) (T6.setTop (mkF m 58 #[.val (.ref b), .val (.int (Int32.ofNat o)), .val (.int (Int32.ofNat len)), .val (.ref s.heap.size), .val (.int (Int32.ofNat len)), .unset] [.ref s.heap.size])) := c7.trans (by
    refine XS.istore X6.here hexec rfl (hb hbytes d12) rfl rfl ?_
    refine XS.iload X6.here hexec rfl (hb hbytes d14) rfl ?_
    refine XS.iloadN X6.here hexec rfl (hb hbytes d16) rfl ?_
    refine XS.icmpYes X6.here hexec rfl (pc0 := 17) rfl (hb hbytes d17) rfl (ii_eq_t rfl) (by decide) rfl ?_
    refine XS.aloadN X6.here hexec rfl (hb hbytes d57) rfl rfl ?_
    exact Steps.refl _)
  have X8 := X6.wide (L' := []) (cells' := 1) (slots' := len) (fun x hx hlt => by
    simp only [List.nil_append, copyLocs, List.mem_map, List.mem_range] at hx
    obtain ⟨i, -, rfl⟩ := hx
    exact absurd hlt (Nat.lt_irrefl _)) (Nat.le_refl _) (by omega)
  exact ⟨T6, some (.ref s.heap.size), _, _, _, X8, rfl, rfl, rfl, (fun h => by cases h), ⟨⟨rfl, B6, ba3.like (X3.warmed.alike.symm.trans X6.warmed.alike) p6.1 f6.1 f6.2.1 f6.2.2.1, f6.2.1.trans bv3, by rw [X6.warmed.alike.findClass, f6.1]; exact bf3, by rw [f6.2.2.1, bs3]; simp, fun j hj => by rw [f6.2.2.2 j, if_pos (by omega)]; rfl, kp3.put p6 (Nat.le_refl _)⟩, by rw [p6.2.2, bh3, hh0]; simp⟩, fun fs hl => c8.trans (X8.areturnOut hexec rfl hret rfl (hb hbytes d58) hl)⟩
end Cmp3
namespace CodL
def yN : MethodName := ⟨"java/lang/StringUTF16", "coderFromArrayLen", "([BI)B"⟩
abbrev yB : ByteArray := jdk_52_method_15_code
theorem d0 : decode yB 0 = .ok (.iload_n 1, 1) := by decide +kernel
theorem d1 : decode yB 1 = .ok (.aload_n 0, 1) := by decide +kernel
theorem d2 : decode yB 2 = .ok (.arraylength, 1) := by decide +kernel
theorem d3 : decode yB 3 = .ok (.isub, 1) := by decide +kernel
theorem d4 : decode yB 4 = .ok (.bipush 31, 2) := by decide +kernel
theorem d6 : decode yB 6 = .ok (.iushr, 1) := by decide +kernel
theorem d7 : decode yB 7 = .ok (.i2b, 1) := by decide +kernel
theorem d8 : decode yB 8 = .ok (.ireturn, 1) := by decide +kernel
def site : List Cond := []
def tab : Cond := tabOf yN yB 2 (some .byte) site
def P (d : Addr) (B : Cell) (args : Array Value) (s : State) : Prop := args = #[.ref d, .int (Int32.ofNat B.slots.size)] ∧ Arr .byte d B s
def E (r : Option Value) (s u : State) : Prop := XT.PureE (some (.int 0)) r s u
/-- an array as long as the number of chars: LATIN1 -/
theorem law (l : Launch) (d : Addr) (B : Cell) : Law l yN 2 2 0 0 yB 2 (some .byte) site (P d B) E [] 0 0 := by
  refine Law.of_walk (plainFor_of_name (by decide +kernel)) (by decide +kernel) (by decide +kernel) (by decide) (fun _ _ h => by rw [h.1]; rfl) (fun _ U U' hal hh h => ⟨h.1, h.2.mv hal hh⟩) (fun r U U' V V' h1 hal h2 h => XT.PureE.mv r U U' V V' h1 hal h2 h) ?_
  intro p e s m args below meth c s₁ X0 hexec hbytes hml hret hlk hnm hown hh0 W hP
  obtain ⟨rfl, hB⟩ := hP
  have hB0 := hB.mv X0.warmed.alike hh0
  have c1 : Steps p.tables e below (s₁.setTop (entryFrame m #[.ref d, .int (Int32.ofNat B.slots.size)] 2)) (s₁.setTop (mkF m 0 #[.val (.ref d), .val (.int (Int32.ofNat B.slots.size))] [])) := entry rfl
  have c2 : Steps p.tables e below (s₁.setTop (entryFrame m #[.ref d, .int (Int32.ofNat B.slots.size)] 2)) (s₁.setTop (mkF m 2 #[.val (.ref d), .val (.int (Int32.ofNat B.slots.size))] [.ref d, .int (Int32.ofNat B.slots.size)])) := c1.trans (by
    refine XS.iloadN X0.here hexec rfl (hb hbytes d0) rfl ?_
    refine XS.aloadN X0.here hexec rfl (hb hbytes d1) rfl rfl ?_
    exact Steps.refl _)
  have c3 : Steps p.tables e below (s₁.setTop (entryFrame m #[.ref d, .int (Int32.ofNat B.slots.size)] 2)) (s₁.setTop (mkF m 8 #[.val (.ref d), .val (.int (Int32.ofNat B.slots.size))] [.int (lo8 (ushr (Int32.ofNat B.slots.size - Int32.ofNat B.slots.size) 31))])) := c2.trans (by
    refine X0.alen hexec hB0 rfl rfl (hb hbytes d2) ?_
    refine XS.isub X0.here hexec rfl (hb hbytes d3) rfl ?_
    refine bipushV X0.here hexec rfl 31 (hb hbytes d4) (by decide) ?_
    refine iushr X0.here hexec rfl (hb hbytes d6) rfl ?_
    refine i2b X0.here hexec rfl (hb hbytes d7) rfl ?_
    exact Steps.refl _)
  have e0 : lo8 (ushr (Int32.ofNat B.slots.size - Int32.ofNat B.slots.size) 31) = 0 := by rw [Int32.sub_self]; decide
  rw [e0] at c3
  exact ⟨s₁, some (.int 0), _, _, _, X0, rfl, rfl, rfl, (fun h => by cases h), ⟨rfl, hh0⟩, fun fs hl => c3.trans (X0.ireturnOut hexec hret rfl (Or.inr (Or.inr (Or.inl rfl))) (hb hbytes d8) hl)⟩
end CodL
/-- the String at a is Latin-1 over a new byte[] (the heap's one new cell): the low bytes of the len chars of A from o on; every cell but a is kept -/
def Got (a : Addr) (D : Cell) (fV fC : Field) (A : Cell) (o len : Nat) (r : Option Value) (s u : State) : Prop := r = none ∧ ∃ D' V : Cell, Blank "java/lang/String" a D' u ∧ Same D D' [fV.slot, fC.slot] ∧ D'.slots[fV.slot]? = some (.ref s.heap.size) ∧ D'.slots[fC.slot]? = some (.int 0) ∧ Arr .byte s.heap.size V u ∧ V.vm = .none ∧ u.vm.findClass "[B" = some V.cls ∧ V.slots.size = len ∧ (∀ j, j < len → V.slots[j]? = some (.int (lo8 (cv A (o + j))))) ∧ (∀ (y : Addr) (c : Cell), y ≠ a → s.heap[y]? = some c → u.heap[y]? = some c) ∧ u.heap.size = s.heap.size + 1
theorem Got.mv {a : Addr} {D A : Cell} {fV fC : Field} {o len : Nat} : ∀ r (U U' V V' : State), U'.heap = U.heap → V.vm.Alike V'.vm → V'.heap = V.heap → Got a D fV fC A o len r U V → Got a D fV fC A o len r U' V' :=
  fun r U U' V V' h1 hal h2 ⟨e0, D', X, a1, a2, a3, a4, a5, a6, a7, a8, a9, a10, a11⟩ => ⟨e0, D', X, a1.mv hal h2, a2, by rw [h1]; exact a3, a4, by rw [h1]; exact a5.mv hal h2, a6, by rw [hal.findClass]; exact a7, a8, a9, by rw [h1, h2]; exact a10, by rw [h1, h2]; exact a11⟩
namespace New4
def yN : MethodName := ⟨"java/lang/String", "<init>", "([CIILjava/lang/Void;)V"⟩
abbrev yB : ByteArray := jdk_42_method_149_code
theorem d0 : decode yB 0 = .ok (.aload_n 0, 1) := by decide +kernel
theorem d1 : decode yB 1 = .ok (.invokespecial 1, 3) := by decide +kernel
theorem d4 : decode yB 4 = .ok (.iload_n 3, 1) := by decide +kernel
theorem d5 : decode yB 5 = .ok (.ifCond (.ne) 22, 3) := by decide +kernel
theorem d27 : decode yB 27 = .ok (.getstatic 38, 3) := by decide +kernel
theorem d30 : decode yB 30 = .ok (.ifCond (.eq) 28, 3) := by decide +kernel
theorem d33 : decode yB 33 = .ok (.aload_n 1, 1) := by decide +kernel
theorem d34 : decode yB 34 = .ok (.iload_n 2, 1) := by decide +kernel
theorem d35 : decode yB 35 = .ok (.iload_n 3, 1) := by decide +kernel
theorem d36 : decode yB 36 = .ok (.invokestatic 177, 3) := by decide +kernel
theorem d39 : decode yB 39 = .ok (.astore 5, 2) := by decide +kernel
theorem d41 : decode yB 41 = .ok (.aload_n 0, 1) := by decide +kernel
theorem d42 : decode yB 42 = .ok (.aload 5, 2) := by decide +kernel
theorem d44 : decode yB 44 = .ok (.iload_n 3, 1) := by decide +kernel
theorem d45 : decode yB 45 = .ok (.invokestatic 47, 3) := by decide +kernel
theorem d48 : decode yB 48 = .ok (.putfield 15, 3) := by decide +kernel
theorem d51 : decode yB 51 = .ok (.aload_n 0, 1) := by decide +kernel
theorem d52 : decode yB 52 = .ok (.aload 5, 2) := by decide +kernel
theorem d54 : decode yB 54 = .ok (.putfield 9, 3) := by decide +kernel
theorem d57 : decode yB 57 = .ok (.return_, 1) := by decide +kernel
def site : List Cond := [.fieldLink "java/lang/String" 38 "java/lang/String" "COMPACT_STRINGS" "Z", Cmp3.tab, CodL.tab, .laysFinal "java/lang/String" "java/lang/String" "value" "[B", .fieldLink "java/lang/String" 9 "java/lang/String" "value" "[B", .laysFinal "java/lang/String" "java/lang/String" "coder" "B", .fieldLink "java/lang/String" 15 "java/lang/String" "coder" "B"] ++ objW "java/lang/String" 1 ++ staticW "java/lang/String" 177 Cmp3.yN ++ staticW "java/lang/String" 47 CodL.yN
def tab : Cond := tabOf yN yB 6 none site
def P (a : Addr) (D : Cell) (fV fC : Field) (b : Addr) (A : Cell) (z : Int32) (o len : Nat) (args : Array Value) (s : State) : Prop := args = #[.ref a, .ref b, .int (Int32.ofNat o), .int (Int32.ofNat len), .null] ∧ Blank "java/lang/String" a D s ∧ Found "java/lang/String" "value" "[B" fV s ∧ Found "java/lang/String" "coder" "B" fC s ∧ Ch b A s ∧ StaticIs s "java/lang/String" "COMPACT_STRINGS" "Z" (.int z) ∧ ¬ z = 0 ∧ 0 < len ∧ o + len ≤ A.slots.size ∧ len ≤ 536870912 ∧ ∀ i, i < len → ¬ 255 < cv A (o + i)
def E (a : Addr) (D : Cell) (fV fC : Field) (A : Cell) (o len : Nat) (r : Option Value) (s u : State) : Prop := Got a D fV fC A o len r s u
/-- len > 0, no char of the range above 255: a Latin-1 String of their low bytes -/
theorem law (l : Launch) (a : Addr) (D : Cell) (fV fC : Field) (b : Addr) (A : Cell) (z : Int32) (o len : Nat) : Law l yN 5 4 2 35 yB 6 none site (P a D fV fC b A z o len) (E a D fV fC A o len) [⟨a, fC.slot⟩, ⟨a, fV.slot⟩] 1 len := by
  refine Law.of_walk (plainFor_of_name (by decide +kernel)) (by decide +kernel) (by decide +kernel) (by decide) (fun _ _ h => by rw [h.1]; rfl) (fun _ U U' hal hh h => ⟨h.1, h.2.1.mv hal hh, h.2.2.1.al hal, h.2.2.2.1.al hal, h.2.2.2.2.1.mv hal hh, h.2.2.2.2.2.1.there hal hh, h.2.2.2.2.2.2⟩) (fun r U U' V V' h1 hal h2 h => Got.mv r U U' V V' h1 hal h2 h) ?_
  intro p e s m args below meth c s₁ X0 hexec hbytes hml hret hlk hnm hown hh0 W hP
  obtain ⟨rfl, hB, f1, f2, hA, s1, hz, l0, l1, l2, hp⟩ := hP
  have a31 := hA.1.2.2.2
  have c1 : Steps p.tables e below (s₁.setTop (entryFrame m #[.ref a, .ref b, .int (Int32.ofNat o), .int (Int32.ofNat len), .null] 6)) (s₁.setTop (mkF m 0 #[.val (.ref a), .val (.ref b), .val (.int (Int32.ofNat o)), .val (.int (Int32.ofNat len)), .val .null, .unset] [])) := entry rfl
  have c2 : Steps p.tables e below (s₁.setTop (entryFrame m #[.ref a, .ref b, .int (Int32.ofNat o), .int (Int32.ofNat len), .null] 6)) (s₁.setTop (mkF m 1 #[.val (.ref a), .val (.ref b), .val (.int (Int32.ofNat o)), .val (.int (Int32.ofNat len)), .val .null, .unset] [.ref a])) := c1.trans (by
    refine XS.aloadN X0.here hexec rfl (hb hbytes d0) rfl rfl ?_
    exact Steps.refl _)
  obtain ⟨T3, X3, q3, st3⟩ := X0.oinit hexec hown (wks W (objW "java/lang/String" 1)) (g := (mkF m 1 #[.val (.ref a), .val (.ref b), .val (.int (Int32.ofNat o)), .val (.int (Int32.ofNat len)), .val .null, .unset] [.ref a])) rfl (by rw [hml]; rfl) (rest := []) rfl (hb hbytes d1) (W := 0) (by show 2 * 0 + 0 ≤ _; decide) (Nat.le_of_ble_eq_true rfl) (Nat.le_of_ble_eq_true rfl)
  have hh3 := q3.trans hh0
  have c4 : Steps p.tables e below (s₁.setTop (entryFrame m #[.ref a, .ref b, .int (Int32.ofNat o), .int (Int32.ofNat len), .null] 6)) (T3.setTop (mkF m 27 #[.val (.ref a), .val (.ref b), .val (.int (Int32.ofNat o)), .val (.int (Int32.ofNat len)), .val .null, .unset] [])) := (c2.trans (st3 _ (Steps.refl _))).trans (by
    refine XS.iloadN X3.here hexec rfl (hb hbytes d4) rfl ?_
    refine XS.ifYes X3.here hexec rfl (pc0 := 5) rfl (hb hbytes d5) rfl (i0_ne_t (nz32 (by omega) l0)) (by decide) rfl ?_
    exact Steps.refl _)
  obtain ⟨T5, X5, q5, st5⟩ := X3.sget hexec hown (wk W (.fieldLink "java/lang/String" 38 "java/lang/String" "COMPACT_STRINGS" "Z")) s1 (fun _ _ h => by rw [hh3]; exact h) (g := (mkF m 27 #[.val (.ref a), .val (.ref b), .val (.int (Int32.ofNat o)), .val (.int (Int32.ofNat len)), .val .null, .unset] [])) rfl (hb hbytes d27)
  have hh5 := q5.trans hh3
  have c6 : Steps p.tables e below (s₁.setTop (entryFrame m #[.ref a, .ref b, .int (Int32.ofNat o), .int (Int32.ofNat len), .null] 6)) (T5.setTop (mkF m 30 #[.val (.ref a), .val (.ref b), .val (.int (Int32.ofNat o)), .val (.int (Int32.ofNat len)), .val .null, .unset] [.int z])) := c4.trans (st5 _ (Steps.refl _))
  have c7 : Steps p.tables e below (s₁.setTop (entryFrame m #[.ref a, .ref b, .int (Int32.ofNat o), .int (Int32.ofNat len), .null] 6)) (T5.setTop (mkF m 36 #[.val (.ref a), .val (.ref b), .val (.int (Int32.ofNat o)), .val (.int (Int32.ofNat len)), .val .null, .unset] [.int (Int32.ofNat len), .int (Int32.ofNat o), .ref b])) := c6.trans (by
    refine XS.ifNo X5.here hexec rfl (hb hbytes d30) rfl (i0_eq_f hz) ?_
    refine XS.aloadN X5.here hexec rfl (hb hbytes d33) rfl rfl ?_
    refine XS.iloadN X5.here hexec rfl (hb hbytes d34) rfl ?_
    refine XS.iloadN X5.here hexec rfl (hb hbytes d35) rfl ?_
    exact Steps.refl _)
  obtain ⟨v8, T8, X8, E8, g8⟩ := X5.callS hexec (Cmp3.law l b A o len) hown (wks W (staticW "java/lang/String" 177 Cmp3.yN)) (wk W Cmp3.tab) (W := 0) (Nat.le_of_ble_eq_true rfl) (Nat.le_of_ble_eq_true rfl) (Nat.le_refl _) (by show 0 + len ≤ len; omega) (g := (mkF m 36 #[.val (.ref a), .val (.ref b), .val (.int (Int32.ofNat o)), .val (.int (Int32.ofNat len)), .val .null, .unset] [.int (Int32.ofNat len), .int (Int32.ofNat o), .ref b])) rfl (by rw [hml]; rfl) c7 (argsL := [.ref b, .int (Int32.ofNat o), .int (Int32.ofNat len)]) (rest := []) rfl rfl (by show 2 * 0 + 0 ≤ _; decide) (hb hbytes d36) (⟨rfl, hA.mv X5.warmed.alike hh5, l1, l2, hp⟩)
  obtain ⟨e8, z8⟩ := E8
  obtain ⟨rfl, N, n1, n2, n3, n4, n5, n6⟩ := NewArr.mv _ T5 s _ _ hh5.symm (Vm.Alike.refl _) rfl e8
  rw [hh5] at z8
  have hB1 := hB.keep X8.warmed.alike (n6 _ _ hB.1)
  have hne : s.heap.size ≠ a := (Nat.ne_of_lt (Array.getElem?_eq_some_iff.mp hB.1).1).symm
  have c9 : Steps p.tables e below (s₁.setTop (entryFrame m #[.ref a, .ref b, .int (Int32.ofNat o), .int (Int32.ofNat len), .null] 6)) (T8.setTop (mkF m 39 #[.val (.ref a), .val (.ref b), .val (.int (Int32.ofNat o)), .val (.int (Int32.ofNat len)), .val .null, .unset] [.ref s.heap.size])) := g8
  have c10 : Steps p.tables e below (s₁.setTop (entryFrame m #[.ref a, .ref b, .int (Int32.ofNat o), .int (Int32.ofNat len), .null] 6)) (T8.setTop (mkF m 45 #[.val (.ref a), .val (.ref b), .val (.int (Int32.ofNat o)), .val (.int (Int32.ofNat len)), .val .null, .val (.ref s.heap.size)] [.int (Int32.ofNat N.slots.size), .ref s.heap.size, .ref a])) := by
    have hc : Steps p.tables e below (s₁.setTop (entryFrame m #[.ref a, .ref b, .int (Int32.ofNat o), .int (Int32.ofNat len), .null] 6)) (T8.setTop (mkF m 45 #[.val (.ref a), .val (.ref b), .val (.int (Int32.ofNat o)), .val (.int (Int32.ofNat len)), .val .null, .val (.ref s.heap.size)] [.int (Int32.ofNat len), .ref s.heap.size, .ref a])) := c9.trans (by
      refine XS.astore X8.here hexec rfl (hb hbytes d39) rfl rfl rfl ?_
      refine XS.aloadN X8.here hexec rfl (hb hbytes d41) rfl rfl ?_
      refine XS.aload X8.here hexec rfl (hb hbytes d42) rfl rfl ?_
      refine XS.iloadN X8.here hexec rfl (hb hbytes d44) rfl ?_
      exact Steps.refl _)
    rw [n4]; exact hc
  obtain ⟨v11, T11, X11, E11, g11⟩ := X8.callS hexec (CodL.law l s.heap.size N) hown (wks W (staticW "java/lang/String" 47 CodL.yN)) (wk W CodL.tab) (W := 1) (Nat.le_of_ble_eq_true rfl) (Nat.le_of_ble_eq_true rfl) (Nat.le_refl _) (by show 0 + len + 0 ≤ len; omega) (g := (mkF m 45 #[.val (.ref a), .val (.ref b), .val (.int (Int32.ofNat o)), .val (.int (Int32.ofNat len)), .val .null, .val (.ref s.heap.size)] [.int (Int32.ofNat N.slots.size), .ref s.heap.size, .ref a])) rfl (by rw [hml]; rfl) c10 (argsL := [.ref s.heap.size, .int (Int32.ofNat N.slots.size)]) (rest := [.ref a]) rfl rfl (by show 2 * 0 + (1 + 0) ≤ _; decide) (hb hbytes d45) (⟨rfl, n1⟩)
  obtain ⟨rfl, q11⟩ := E11
  have hB11 := hB1.mv (X8.warmed.alike.symm.trans X11.warmed.alike) q11
  have c12 : Steps p.tables e below (s₁.setTop (entryFrame m #[.ref a, .ref b, .int (Int32.ofNat o), .int (Int32.ofNat len), .null] 6)) (T11.setTop (mkF m 48 #[.val (.ref a), .val (.ref b), .val (.int (Int32.ofNat o)), .val (.int (Int32.ofNat len)), .val .null, .val (.ref s.heap.size)] [.int 0, .ref a])) := g11
  obtain ⟨T13, X13, p13, bl13, sl13, st13⟩ := X11.finit hexec hown (wk W (.fieldLink "java/lang/String" 15 "java/lang/String" "coder" "B")) (Or.inr ⟨_, (wk W (.laysFinal "java/lang/String" "java/lang/String" "coder" "B"))⟩) (Or.inl ⟨rfl, hnm⟩) f2 (Or.inl rfl) hB11 (t := .byte) (by decide +kernel) rfl (g := (mkF m 48 #[.val (.ref a), .val (.ref b), .val (.int (Int32.ofNat o)), .val (.int (Int32.ofNat len)), .val .null, .val (.ref s.heap.size)] [.int 0, .ref a])) rfl (rest := []) rfl (hb hbytes d48)
  have c14 : Steps p.tables e below (s₁.setTop (entryFrame m #[.ref a, .ref b, .int (Int32.ofNat o), .int (Int32.ofNat len), .null] 6)) (T13.setTop (mkF m 54 #[.val (.ref a), .val (.ref b), .val (.int (Int32.ofNat o)), .val (.int (Int32.ofNat len)), .val .null, .val (.ref s.heap.size)] [.ref s.heap.size, .ref a])) := (c12.trans (st13 _ (Steps.refl _))).trans (by
    refine XS.aloadN X13.here hexec rfl (hb hbytes d51) rfl rfl ?_
    refine XS.aload X13.here hexec rfl (hb hbytes d52) rfl rfl ?_
    exact Steps.refl _)
  obtain ⟨T15, X15, p15, bl15, sl15, st15⟩ := X13.finit hexec hown (wk W (.fieldLink "java/lang/String" 9 "java/lang/String" "value" "[B")) (Or.inr ⟨_, (wk W (.laysFinal "java/lang/String" "java/lang/String" "value" "[B"))⟩) (Or.inl ⟨rfl, hnm⟩) f1 (Or.inl rfl) bl13 (t := (.array .byte)) (by decide +kernel) rfl (g := (mkF m 54 #[.val (.ref a), .val (.ref b), .val (.int (Int32.ofNat o)), .val (.int (Int32.ofNat len)), .val .null, .val (.ref s.heap.size)] [.ref s.heap.size, .ref a])) rfl (rest := []) rfl (hb hbytes d54)
  have c16 : Steps p.tables e below (s₁.setTop (entryFrame m #[.ref a, .ref b, .int (Int32.ofNat o), .int (Int32.ofNat len), .null] 6)) (T15.setTop (mkF m 57 #[.val (.ref a), .val (.ref b), .val (.int (Int32.ofNat o)), .val (.int (Int32.ofNat len)), .val .null, .val (.ref s.heap.size)] [])) := c14.trans (st15 _ (Steps.refl _))
  have ap := apart (Or.inr ⟨_, (wk W (.laysFinal "java/lang/String" "java/lang/String" "value" "[B"))⟩) (Or.inr ⟨_, (wk W (.laysFinal "java/lang/String" "java/lang/String" "coder" "B"))⟩) f1 f2 (t₁ := .array .byte) (t₂ := .byte) (by decide +kernel) (by decide +kernel) (by decide)
  have al := X8.warmed.alike.symm.trans X15.warmed.alike
  have n7 : T11.heap[s.heap.size]? = some N := by rw [q11]; exact n1.1
  exact ⟨T15, none, _, _, _, X15, by simp, rfl, by omega, (fun _ => rfl), ⟨rfl, _, N, bl15, ((Same.refl D _).set _ (by simp)).set _ (by simp), sl15, (Cell.slots_setSlot_ne _ ap).trans sl13, n1.keep al (p15.other hne (p13.other hne n7)), n2, by rw [al.findClass]; exact n3, n4, n5, fun y c h1 h2 => p15.other h1 (p13.other h1 (by rw [q11]; exact n6 y c h2)), by rw [p15.2.2, p13.2.2, q11]; exact z8⟩, fun fs hl => c16.trans (X15.returnOut hexec hret (hb hbytes d57) hl)⟩
end New4
namespace New1
def yN : MethodName := ⟨"java/lang/String", "<init>", "([C)V"⟩
abbrev yB : ByteArray := jdk_42_method_3_code
theorem d0 : decode yB 0 = .ok (.aload_n 0, 1) := by decide +kernel
theorem d1 : decode yB 1 = .ok (.aload_n 1, 1) := by decide +kernel
theorem d2 : decode yB 2 = .ok (.iconst 0, 1) := by decide +kernel
theorem d3 : decode yB 3 = .ok (.aload_n 1, 1) := by decide +kernel
theorem d4 : decode yB 4 = .ok (.arraylength, 1) := by decide +kernel
theorem d5 : decode yB 5 = .ok (.aconst_null, 1) := by decide +kernel
theorem d6 : decode yB 6 = .ok (.invokespecial 27, 3) := by decide +kernel
theorem d9 : decode yB 9 = .ok (.return_, 1) := by decide +kernel
def site : List Cond := [New4.tab] ++ initW "java/lang/String" 27 New4.yN
def tab : Cond := tabOf yN yB 2 none site
def P (a : Addr) (D : Cell) (fV fC : Field) (b : Addr) (A : Cell) (z : Int32) (args : Array Value) (s : State) : Prop := args = #[.ref a, .ref b] ∧ Blank "java/lang/String" a D s ∧ Found "java/lang/String" "value" "[B" fV s ∧ Found "java/lang/String" "coder" "B" fC s ∧ Ch b A s ∧ StaticIs s "java/lang/String" "COMPACT_STRINGS" "Z" (.int z) ∧ ¬ z = 0 ∧ 0 < A.slots.size ∧ A.slots.size ≤ 536870912 ∧ ∀ i, i < A.slots.size → ¬ 255 < cv A i
def E (a : Addr) (D : Cell) (fV fC : Field) (A : Cell) (r : Option Value) (s u : State) : Prop := Got a D fV fC A 0 A.slots.size r s u
/-- new String(chars), not empty, no char above 255: a Latin-1 String of their low bytes -/
theorem law (l : Launch) (a : Addr) (D : Cell) (fV fC : Field) (b : Addr) (A : Cell) (z : Int32) : Law l yN 2 1 3 52 yB 2 none site (P a D fV fC b A z) (E a D fV fC A) [⟨a, fC.slot⟩, ⟨a, fV.slot⟩] 1 A.slots.size := by
  refine Law.of_walk (plainFor_of_name (by decide +kernel)) (by decide +kernel) (by decide +kernel) (by decide) (fun _ _ h => by rw [h.1]; rfl) (fun _ U U' hal hh h => ⟨h.1, h.2.1.mv hal hh, h.2.2.1.al hal, h.2.2.2.1.al hal, h.2.2.2.2.1.mv hal hh, h.2.2.2.2.2.1.there hal hh, h.2.2.2.2.2.2⟩) (fun r U U' V V' h1 hal h2 h => Got.mv r U U' V V' h1 hal h2 h) ?_
  intro p e s m args below meth c s₁ X0 hexec hbytes hml hret hlk hnm hown hh0 W hP
  obtain ⟨rfl, hB, f1, f2, hA, s1, hz, l0, l2, hp⟩ := hP
  have c1 : Steps p.tables e below (s₁.setTop (entryFrame m #[.ref a, .ref b] 2)) (s₁.setTop (mkF m 0 #[.val (.ref a), .val (.ref b)] [])) := entry rfl
  have c2 : Steps p.tables e below (s₁.setTop (entryFrame m #[.ref a, .ref b] 2)) (s₁.setTop (mkF m 6 #[.val (.ref a), .val (.ref b)] [.null, .int (Int32.ofNat A.slots.size), .int 0, .ref b, .ref a])) := c1.trans (by
    refine XS.aloadN X0.here hexec rfl (hb hbytes d0) rfl rfl ?_
    refine XS.aloadN X0.here hexec rfl (hb hbytes d1) rfl rfl ?_
    refine iconstV X0.here hexec rfl 0 (hb hbytes d2) (by decide) ?_
    refine XS.aloadN X0.here hexec rfl (hb hbytes d3) rfl rfl ?_
    refine X0.alen hexec (hA.1.mv X0.warmed.alike hh0) rfl rfl (hb hbytes d4) ?_
    refine XS.aconstNull X0.here hexec rfl (hb hbytes d5) ?_
    exact Steps.refl _)
  obtain ⟨v3, T3, X3, E3, g3⟩ := X0.callN hexec (New4.law l a D fV fC b A z 0 A.slots.size) rfl hown (wks W (initW "java/lang/String" 27 New4.yN)) (W New4.tab (by simp only [site, List.mem_cons, List.mem_append, true_or, or_true])) (W := 0) (Nat.le_of_ble_eq_true rfl) (Nat.le_of_ble_eq_true rfl) (Nat.le_refl _) (by show 0 + A.slots.size ≤ A.slots.size; omega) (g := (mkF m 6 #[.val (.ref a), .val (.ref b)] [.null, .int (Int32.ofNat A.slots.size), .int (Int32.ofNat 0), .ref b, .ref a])) rfl (by rw [hml]; rfl) c2 (argsL := [.ref b, .int (Int32.ofNat 0), .int (Int32.ofNat A.slots.size), .null]) (rest := []) rfl rfl (by show 2 * 0 + 0 ≤ _; decide) (hb hbytes d6) (⟨rfl, hB.mv X0.warmed.alike hh0, f1.al X0.warmed.alike, f2.al X0.warmed.alike, hA.mv X0.warmed.alike hh0, s1.there X0.warmed.alike hh0, hz, l0, by omega, l2, fun i hi => by rw [Nat.zero_add]; exact hp i hi⟩)
  have e0 := Got.mv _ s₁ s _ _ hh0.symm (Vm.Alike.refl _) rfl E3
  obtain rfl := e0.1
  have c4 : Steps p.tables e below (s₁.setTop (entryFrame m #[.ref a, .ref b] 2)) (T3.setTop (mkF m 9 #[.val (.ref a), .val (.ref b)] [])) := g3
  exact ⟨T3, none, _, _, _, X3, by simp, rfl, by omega, (fun _ => rfl), e0, fun fs hl => c4.trans (X3.returnOut hexec hret (hb hbytes d9) hl)⟩
theorem pays {l : Launch} {R : Room} {p : Program} {e : Env} {below : List Frame} {s : State} {sargs : Array Value} {len W : Nat} (a : Addr) (D : Cell) (fV fC : Field) (b : Addr) (A : Cell) (z : Int32) (htab : tab.before sargs s = true) (hfr : 4 ≤ R.frames) (hlo : W + 65 ≤ R.locals) :
    Back l R p e below s sargs yN len W (fun A₁ a₁ => A₁.cells + 1 ≤ R.cells ∧ A₁.slots + A.slots.size ≤ R.slots ∧ P a D fV fC b A z a₁ A₁.U) (fun A₁ _ v₁ B₁ => E a D fV fC A v₁ A₁.U B₁.U ∧ B₁.locs = A₁.locs ++ [⟨a, fC.slot⟩, ⟨a, fV.slot⟩] ∧ B₁.cells = A₁.cells + 1 ∧ B₁.slots = A₁.slots + A.slots.size) :=
  (law l a D fV fC b A z).pays htab hfr (by omega)
end New1
end StrChars
namespace StrChars.Road
open Jvm Sem ClassFile Op Lib Jvm.Stand Jvm.Free Jvm.Free.XT
open Jvm.Lib.Cold (StaticIs)
abbrev ST : String := "java/lang/String"
/-- every table word that New1's law asks, flat -/
abbrev words : List Jvm.Cond := [.code New1.yN New1.yB 2 none, .initialized ST, .methodLink ST 27 New4.yN, .instanceMethod New4.yN,
  .code New4.yN New4.yB 6 none, .fieldLink ST 38 ST "COMPACT_STRINGS" "Z", .laysFinal ST ST "value" "[B", .fieldLink ST 9 ST "value" "[B", .laysFinal ST ST "coder" "B", .fieldLink ST 15 ST "coder" "B",
  .methodLink ST 1 Lib.objectInit, .instanceMethod Lib.objectInit, .code Lib.objectInit ⟨#[0xb1]⟩ 1 none, .methodLink ST 177 Cmp3.yN, .static Cmp3.yN, .methodLink ST 47 CodL.yN, .static CodL.yN,
  .code Cmp3.yN Cmp3.yB 6 (some (.array .byte)), .initialized U16, .arrayClass .byte, .methodLink U16 115 Cmp5.yN, .static Cmp5.yN, .code Cmp5.yN Cmp5.yB 7 (some .int), .code CodL.yN CodL.yB 2 (some .byte)]
theorem tab_of {a : Array Value} {s : State} (h : ∀ w ∈ words, w.before a s = true) : New1.tab.before a s = true := by
  have h5 : Cmp5.tab.before a s = true := unparts (wk h (.code Cmp5.yN Cmp5.yB 7 (some .int))) (wks h (.initialized Cmp5.yN.cls :: Cmp5.site))
  have hc : CodL.tab.before a s = true := unparts (wk h (.code CodL.yN CodL.yB 2 (some .byte))) (wks h (.initialized CodL.yN.cls :: CodL.site))
  have q5 : ∀ w ∈ Cmp5.tab :: words, w.before a s = true := fun w hw => (List.mem_cons.mp hw).elim (fun e => e ▸ h5) (h w)
  have h3 : Cmp3.tab.before a s = true := unparts (wk q5 (.code Cmp3.yN Cmp3.yB 6 (some (.array .byte)))) (wks q5 (.initialized Cmp3.yN.cls :: Cmp3.site))
  have q3 : ∀ w ∈ Cmp3.tab :: CodL.tab :: words, w.before a s = true := fun w hw => (List.mem_cons.mp hw).elim (fun e => e ▸ h3) fun hw => (List.mem_cons.mp hw).elim (fun e => e ▸ hc) (h w)
  have h4 : New4.tab.before a s = true := unparts (wk q3 (.code New4.yN New4.yB 6 none)) (wks q3 (.initialized New4.yN.cls :: New4.site))
  have q4 : ∀ w ∈ New4.tab :: words, w.before a s = true := fun w hw => (List.mem_cons.mp hw).elim (fun e => e ▸ h4) (h w)
  exact unparts (wk q4 (.code New1.yN New1.yB 2 none)) (wks q4 (.initialized New1.yN.cls :: New1.site))
/-- the words ride from the start Z to the walk's own state -/
theorem moved {Z s : State} {a0 args : Array Value} (hZ : Z.Warmed39 s.vm) (hw : ∀ d ∈ words, d.before a0 Z = true) : ∀ d ∈ words, d.before args s = true := fun d hd => by
  have q := hw d hd
  have t : ∀ d ∈ words, d = .arrayClass .byte ∨ (d.onTables && d.keepsFace) = true := by decide +kernel
  rcases t d hd with rfl | t
  · exact RoadKit.mvA hZ q
  · exact RoadKit.mv hZ q t
/-- WHAT COMES BACK, over the tables of the start Z: h the heap at the call, h' behind it -/
def Q (Z : State) (x : Addr) (A : Cell) (h : Heap) (v : Option Value) (h' : Heap) (L : List Loc) : Prop := v = none ∧ (∀ y ∈ L, y.base = x) ∧ RoadKit.Keep h h' [x] ∧ h'.size = h.size + 1 ∧ RoadKit.Exa Z h' x ST ∧ RoadKit.Fld Z h' x ST "value" "[B" (.ref h.size) ∧ RoadKit.Fld Z h' x ST "coder" "B" (.int 0) ∧
  (∃ V : Cell, RoadKit.Arr Z h' h.size V .byte ∧ V.vm = .none ∧ Z.vm.findClass "[B" = some V.cls ∧ V.slots.size = A.slots.size ∧ ∀ j, j < A.slots.size → V.slots[j]? = some (.int (lo8 (cv A j)))) ∧
  ∀ (O n d : String) (w : Value), RoadKit.Fld Z h x O n d w → RoadKit.slotOf Z O n d ≠ RoadKit.slotOf Z ST "value" "[B" → RoadKit.slotOf Z O n d ≠ RoadKit.slotOf Z ST "coder" "B" → RoadKit.Fld Z h' x O n d w
/-- **new String(chars) AT A CALL, IN THE ROAD'S FORM**: for specialBack behind newO: x the fresh String, b the char[] with the cell A -/
theorem back {p : Program} {l : Launch} {e : Env} {R : Room} {s : State} {args : Array Value} {below : List Frame} {len W : Nat} {Z : State} {a0 : Array Value} {h : Heap} (hZ : Z.Warmed39 s.vm) (hw : ∀ d ∈ words, d.before a0 Z = true) {kI : Nat} (wi : (Jvm.Cond.instantiable ST kI).before a0 Z = true)
    {x b : Addr} {A : Cell} {z : Int32} {v0 c0 : Value} (E : RoadKit.Exa Z h x ST) (V : RoadKit.Fld Z h x ST "value" "[B" v0) (C : RoadKit.Fld Z h x ST "coder" "B" c0) (K : RoadKit.Arr Z h b A .char) (hty : Typed .char A) (S : RoadKit.Sta Z h ST "COMPACT_STRINGS" "Z" (.int z)) (hz : ¬ z = 0)
    (l0 : 0 < A.slots.size) (l2 : A.slots.size ≤ 536870912) (hp : ∀ i, i < A.slots.size → ¬ 255 < cv A i) (hfr : 4 ≤ R.frames) (hlo : W + 65 ≤ R.locals) :
    Back l R p e below s args New1.yN len W (fun P a => a = #[.ref x, .ref b] ∧ P.U.heap = h ∧ P.cells + 1 ≤ R.cells ∧ P.slots + A.slots.size ≤ R.slots)
      (fun P _ v B => ∃ L, Q Z x A h v B.U.heap L ∧ B.locs = P.locs ++ L ∧ B.cells = P.cells + 1 ∧ B.slots = P.slots + A.slots.size) := by
  intro m meth c P g ig mk a X hg hsize hdg hW hn hp'
  obtain ⟨rfl, rfl, r1, r2⟩ := hp'
  have al : Z.vm.Alike P.U.vm := hZ.alike.trans X.warmed.alike
  obtain ⟨D, cfV, kV, iV, fV, hD, gV, stV, knV, obV, asV, slV⟩ := id V
  obtain ⟨D', cfC, kC, iC, fC, hD', gC, stC, -, -, asC, slC⟩ := id C
  cases hD.symm.trans hD'
  obtain ⟨D2, kD, e1, e2, e3, e4, e5⟩ := id E
  cases hD.symm.trans e1
  obtain ⟨c2, k2, i1, i2, i3, -⟩ := Cond.instantiable_spec wi
  cases e2.symm.trans i1
  cases e3.symm.trans i2
  obtain ⟨kU, u1, u2⟩ := al.2.2 _ _ e3
  have hB : Blank ST x D P.U := ⟨hD, ⟨knV, fun q hq => by rw [hq] at obV; cases obV⟩, by rw [al.findClass]; exact e2, kU, u1, by rw [u2]; exact i3, by rw [u2]; exact e5 i3⟩
  have F1 : Found ST "value" "[B" fV P.U := ⟨SBG.found_only al ⟨cfV, kV, iV, gV⟩, stV⟩
  have F2 : Found ST "coder" "B" fC P.U := ⟨SBG.found_only al ⟨cfC, kC, iC, gC⟩, stC⟩
  have hA : Ch b A P.U := ⟨⟨K.1, State.isArrayOf_alike al K.2.1, K.2.2, by omega⟩, hty⟩
  have hS : StaticIs P.U ST "COMPACT_STRINGS" "Z" (.int z) := by
    obtain ⟨cfS, iS, kS, fS, st, cS, t1, t2, t3, t4, t5, t6, t7⟩ := S
    exact StaticIs.there (s := { Z with heap := P.U.heap }) ⟨cfS, iS, kS, fS, st, cS, t1, t2, t3, t4, t5, (fun q => by rw [q] at t6; cases t6), t7⟩ al rfl
  obtain ⟨v, B, X', ⟨⟨hv, E', V', q1, q2, q3, q4, q5, q6, q7, q8, q9, q10, q11⟩, hl, hc, hs⟩, st⟩ := New1.pays x D fV fC b A z (tab_of (moved hZ hw)) hfr hlo m meth c P g ig mk _ X hg hsize hdg hW hn ⟨r1, r2, rfl, hB, F1, F2, hA, hS, hz, l0, l2, hp⟩
  have al' : Z.vm.Alike B.U.vm := hZ.alike.trans X'.warmed.alike
  have hsz : E'.slots.size = D.slots.size := by
    obtain ⟨-, -, -, kB, w1, w2, w3⟩ := q1
    obtain ⟨kB', y1, y2⟩ := al'.2.2 _ _ e3
    rw [q2.2.1] at w1
    cases w1.symm.trans y1
    rw [w3, e5 i3, y2]
  refine ⟨v, B, X', ⟨_, ⟨hv, ?_, ⟨by omega, fun y cy hy hn' => q10 y cy (by simpa using hn') hy, fun y cy hy => ?_⟩, q11, ⟨E', _, q1.1, by rw [q2.2.1]; exact e2, by rw [q2.2.1]; exact e3, by rw [q2.1]; exact obV, fun _ => by rw [hsz]; exact e5 i3⟩,
    ⟨E', cfV, kV, iV, fV, q1.1, gV, stV, by rw [q2.1]; exact knV, by rw [q2.1]; exact obV, by rw [q2.2.1]; exact asV, q3⟩, ⟨E', cfC, kC, iC, fC, q1.1, gC, stC, by rw [q2.1]; exact knV, by rw [q2.1]; exact obV, by rw [q2.2.1]; exact asC, q4⟩,
    ⟨V', ⟨q5.1, State.isArrayOf_alike al'.symm q5.2.1, q5.2.2.1⟩, q6, by rw [← al'.findClass]; exact q7, q8, fun j hj => by have := q9 j hj; rwa [Nat.zero_add] at this⟩, fun O n d w F n1 n2 => ?_⟩, hl, hc, hs⟩, st⟩
  · intro y hy
    simp only [List.mem_cons, List.not_mem_nil, or_false] at hy
    rcases hy with rfl | rfl <;> rfl
  · by_cases q : y = x
    · subst q
      cases hD.symm.trans hy
      exact ⟨E', q1.1, q2.2.1, q2.1, hsz⟩
    · exact ⟨cy, q10 y cy q hy, rfl, rfl, rfl⟩
  · obtain ⟨D3, cf, k, i, f, g1, g2, g3, g4, g5, g6, g7⟩ := F
    cases hD.symm.trans g1
    simp only [RoadKit.slotOf, g2, gV, gC, Option.map_some, Option.getD_some] at n1 n2
    exact ⟨E', cf, k, i, f, q1.1, g2, g3, by rw [q2.1]; exact g4, by rw [q2.1]; exact g5, by rw [q2.2.1]; exact g6, by rw [q2.2.2 f.slot (by simp [n1, n2])]; exact g7⟩
end StrChars.Road
namespace StrChars.Road
open Jvm Sem ClassFile Op Lib Jvm.Stand Jvm.Free Jvm.Free.XT
/-- WHAT COMES BACK, the byte[] as a list of values -/
def QA (Z : State) (x : Addr) (zn : Int32) (cs : List Int32) (h : Heap) (v : Option Value) (h' : Heap) (L : List Loc) : Prop := v = none ∧ (∀ y ∈ L, y.base = x) ∧ RoadKit.Keep h h' [x] ∧ h'.size = h.size + 1 ∧ RoadKit.Exa Z h' x ST ∧ RoadKit.Fld Z h' x ST "value" "[B" (.ref h.size) ∧ RoadKit.Fld Z h' x ST "coder" "B" (.int 0) ∧
  (∃ kb, Z.vm.findClass "[B" = some kb ∧ RoadKit.Arv Z h' h.size kb .byte zn (cs.map fun c => .int (lo8 c)) (.int 0)) ∧
  ∀ (O n d : String) (w : Value), RoadKit.Fld Z h x O n d w → RoadKit.slotOf Z O n d ≠ RoadKit.slotOf Z ST "value" "[B" → RoadKit.slotOf Z O n d ≠ RoadKit.slotOf Z ST "coder" "B" → RoadKit.Fld Z h' x O n d w
/-- **new String(chars) AT A CALL, THE ARRAYS AS LISTS**: the char[] at b holds cs, not empty, no char above 255 -/
theorem backArv {p : Program} {l : Launch} {e : Env} {R : Room} {s : State} {args : Array Value} {below : List Frame} {len W : Nat} {Z : State} {a0 : Array Value} {h : Heap} (hZ : Z.Warmed39 s.vm) (hw : ∀ d ∈ words, d.before a0 Z = true) {kI : Nat} (wi : (Jvm.Cond.instantiable ST kI).before a0 Z = true)
    {x b : Addr} {k : ClassId} {zn z : Int32} {cs : List Int32} {dv v0 c0 : Value} (E : RoadKit.Exa Z h x ST) (V : RoadKit.Fld Z h x ST "value" "[B" v0) (C : RoadKit.Fld Z h x ST "coder" "B" c0) (K : RoadKit.Arv Z h b k .char zn (cs.map Value.int) dv) (S : RoadKit.Sta Z h ST "COMPACT_STRINGS" "Z" (.int z)) (hz : ¬ z = 0)
    (hlen : zn.toNatClampNeg = cs.length) (h0 : 0 < cs.length) (hbig : cs.length ≤ 536870912) (hall : ∀ c ∈ cs, ¬ 255 < c) (hfr : 4 ≤ R.frames) (hlo : W + 65 ≤ R.locals) :
    Back l R p e below s args New1.yN len W (fun P a => a = #[.ref x, .ref b] ∧ P.U.heap = h ∧ P.cells + 1 ≤ R.cells ∧ P.slots + cs.length ≤ R.slots)
      (fun P _ v B => ∃ L, QA Z x zn cs h v B.U.heap L ∧ B.locs = P.locs ++ L ∧ B.cells = P.cells + 1 ∧ B.slots = P.slots + cs.length) := by
  obtain ⟨A, K1, K2, K3, K4, K5, K6⟩ := K
  have e : A.slots.size = cs.length := K3.trans hlen
  have hat : ∀ (i : Nat) (hi : i < cs.length), A.slots[i]? = some (.int cs[i]) := fun i hi => by rw [K5 i (by omega)]; simp [List.getD_eq_getElem?_getD, hi]
  have hcv : ∀ (i : Nat) (hi : i < cs.length), cv A i = cs[i] := fun i hi => by unfold cv; rw [hat i hi]
  have hty : Typed .char A := fun i v hv => by
    have hi : i < A.slots.size := (Array.getElem?_eq_some_iff.mp hv).1
    have q := K5 i hi
    rw [hv] at q
    rw [Option.some.inj q]
    exact K6 i hi
  refine Back.mono (back hZ hw wi E V C K1 hty S hz (by omega) (by omega) (fun i hi => by rw [hcv i (by omega)]; exact hall _ (List.getElem_mem _)) hfr hlo) (fun P a hp => ⟨hp.1, hp.2.1, hp.2.2.1, by rw [e]; exact hp.2.2.2⟩) (fun P a v B hp hq => ?_)
  obtain ⟨L, ⟨q1, q2, q3, q4, q5, q6, q7, ⟨V', v1, v2, v3, v4, v5⟩, q9⟩, hl, hc, hs⟩ := hq
  refine ⟨L, ⟨q1, q2, q3, q4, q5, q6, q7, ⟨V'.cls, v3, V', v1, rfl, by rw [v4, e, hlen], K4, fun i hi => ?_, fun i hi => ?_⟩, q9⟩, hl, hc, by rw [hs, e]⟩
  · have hi' : i < cs.length := by omega
    rw [v5 i (by omega), hcv i hi']; simp [List.getD_eq_getElem?_getD, hi']
  · have hi' : i < cs.length := by omega
    simp only [List.getD_eq_getElem?_getD, List.getElem?_map, List.getElem?_eq_getElem hi', Option.map_some, Option.getD_some]
    exact fits_lo8 _
end StrChars.Road
namespace StrChars.Road
open Jvm Sem ClassFile Op Lib Jvm.Stand Jvm.Free Jvm.Free.XT
/-- WHAT COMES BACK, in the writer's own shape -/
def QV (Z : State) (x : Addr) (N : Int32) (bs : List Int32) (h : Heap) (n0 : Nat) (v : Option Value) (h' : Heap) (L : List Loc) : Prop := v = none ∧ RoadKit.Fr n0 L ∧ RoadKit.Keep h h' [x] ∧ RoadKit.Exa Z h' x ST ∧ RoadKit.Fld Z h' x ST "coder" "B" (.int 0) ∧
  ∃ (t : Addr) (kb : ClassId), n0 ≤ t ∧ h.size ≤ t ∧ ¬ t = x ∧ RoadKit.Fld Z h' x ST "value" "[B" (.ref t) ∧ RoadKit.Arv Z h' t kb .byte N (bs.map Value.int) (.int 0)
/-- **new String(chars) AT A CALL, FOR THE WRITER**: a char[] of n known ints, each 0 to 255 -/
theorem backV {p : Program} {l : Launch} {e : Env} {R : Room} {s : State} {args : Array Value} {below : List Frame} {len W : Nat} {Z : State} {a0 : Array Value} {h : Heap} (hZ : Z.Warmed39 s.vm) (hw : ∀ d ∈ words, d.before a0 Z = true) {kI : Nat} (wi : (Jvm.Cond.instantiable ST kI).before a0 Z = true)
    {x b : Addr} {kC : ClassId} {cs bs : List Int32} {d v0 c0 : Value} {z N : Int32} {n n0 : Nat} (hx0 : n0 ≤ x) (hh0 : n0 ≤ h.size) (E : RoadKit.Exa Z h x ST) (V : RoadKit.Fld Z h x ST "value" "[B" v0) (C : RoadKit.Fld Z h x ST "coder" "B" c0) (K : RoadKit.Arv Z h b kC .char N (cs.map Value.int) d) (S : RoadKit.Sta Z h ST "COMPACT_STRINGS" "Z" (.int z)) (hz : ¬ z = 0)
    (hn : cs.length = n) (hN : N = Int32.ofNat n) (l0 : 0 < n) (l2 : n ≤ 4000) (hp : ∀ c ∈ cs, ¬ c < 0 ∧ ¬ (255 : Int32) < c) (hb : bs = cs.map (fun c => c.toInt8.toInt32)) (hfr : 4 ≤ R.frames) (hlo : W + 65 ≤ R.locals) :
    Back l R p e below s args (⟨"java/lang/String", "<init>", "([C)V"⟩ : MethodName) len W (fun P a => a = #[.ref x, .ref b] ∧ P.U.heap = h ∧ P.cells + 1 ≤ R.cells ∧ P.slots + n ≤ R.slots)
      (fun P _ v B => ∃ L, QV Z x N bs h n0 v B.U.heap L ∧ B.locs = P.locs ++ L ∧ B.cells = P.cells + 1 ∧ B.slots = P.slots + n) := by
  subst hn hN hb
  refine Back.mono (backArv hZ hw wi E V C K S hz (n32 (by omega)) l0 (by omega) (fun c hc => (hp c hc).2) hfr hlo) (fun P a hp => hp) (fun P a v B hp hq => ?_)
  obtain ⟨L, ⟨q1, q2, q3, q4, q5, q6, q7, ⟨kb, v1, v2⟩, q9⟩, hl, hc, hs⟩ := hq
  exact ⟨L, ⟨q1, fun y hy => by rw [q2 y hy]; exact hx0, q3, q5, q7, h.size, kb, hh0, Nat.le_refl _, Nat.ne_of_gt E.lt, q6, by rw [List.map_map]; exact v2⟩, hl, hc, hs⟩
end StrChars.Road
end Jvm.Pilot.@@N@@

namespace Jvm.Pilot.@@N@@
open Jvm Jvm.ClassFile Sem Op Lib Jvm.Free Jvm.Stand Jvm.LawKit Jvm.RoadKit Bundle Jvm.Pilot.@@N@@.Jvm.D
abbrev HW (a0 : Array Value) (Z : State) : Prop := ∀ d ∈ tables_1, d.before a0 Z = true
theorem WW {Z : State} {a0 : Array Value} (hw : HW a0 Z) (i : Nat) {d : Jvm.Cond} (h : tables_1[i]? = some d := by rfl) : d.before a0 Z = true := hw _ (List.mem_of_getElem? h)
abbrev VI (x : Int32) : Value := .int x
abbrev VJ (x : Int64) : Value := .long x
abbrev VR (a : Addr) : Value := .ref a
abbrev SI (x : Int32) : Slot := .val (.int x)
abbrev SJ (x : Int64) : Slot := .val (.long x)
abbrev SR (a : Addr) : Slot := .val (.ref a)
abbrev SN : Slot := .val .null
abbrev SU : Slot := .unset
abbrev SS : Slot := .second
/-- from the frame g of T the run comes to an end of which G holds -/
def own_Fin (p : Program) (e : Env) (below : List Frame) (G : State → Outcome → Prop) (T : State) (g : JFrame) : Prop := ∃ U o, Steps p.tables e below (T.setTop g) U ∧ U.status = .running ∧ Ended U below o ∧ G U o
theorem own_go {p : Program} {e : Env} {below : List Frame} {G : State → Outcome → Prop} {T T' : State} {g g' : JFrame} (st : ∀ t, Steps p.tables e below (T'.setTop g') t → Steps p.tables e below (T.setTop g) t) (k : own_Fin p e below G T' g') : own_Fin p e below G T g := by
  obtain ⟨U, o, h1, h2⟩ := k
  exact ⟨U, o, st _ h1, h2⟩
theorem own_start {p : Program} {e : Env} {below : List Frame} {G : State → Outcome → Prop} {T : State} {g g' : JFrame} (q : g = g') (k : own_Fin p e below G T g') : ∃ U o, Steps p.tables e below (T.setTop g) U ∧ U.status = .running ∧ Ended U below o ∧ G U o := by
  subst q; exact k
theorem own_enter {l : Launch} {Z : State} {y : MethodName} {bytes : ByteArray} {maxL : Nat} {ret : Option FieldType} {ws : List Jvm.Cond} {R : Room} {A : Array Value} {h0 : Heap} {n0 : Nat} {Ls : Array Slot} {Q : Array Value → State → Outcome → State → Prop} (hp : plainFor y = true) (ef : ∀ m, entryFrame m A maxL = mkF m 0 Ls [])
    (k : ∀ (p : Program) (e : Env) (s : State) (m : MethodId) (below : List Frame) (meth : Method) (c : Code) (s₁ : State), p.tables.exec = Jvm.exec → c.code = bytes → c.maxLocals = maxL → s.vm.findClass y.cls = some m.cls → meth.name = y.name → meth.sig.returnType = ret → meth.locks = false →
      Stand p l e R s m A below meth c s₁ [] 0 0 → s₁.heap = h0 → Z.Warmed39 s.vm → s.heap = h0 → Fr n0 [] → own_Fin p e below (fun U o => Q A s o U) s₁ (mkF m 0 Ls [])) :
    MetFree l y (head1 (Jvm.Cond.code y bytes maxL ret :: ws) R) (fun a U => a = A ∧ Z.Warmed39 U.vm ∧ U.heap = h0) (fun _ _ _ _ _ => True) Q := by
  refine MetFree.of_bodySF hp hisR ?_
  intro p e s m args below meth c s₁ Bd hml hP hK
  obtain ⟨rfl, hZ, hh⟩ := hP
  exact own_start (ef m) (k p e s m below meth c s₁ Bd.exec Bd.bytes hml (findClass_of_methodNamed Bd.named) (name_of_methodNamed Bd.named Bd.method).1 Bd.returns Bd.notSynchronized (Stand.of_body Bd) (by rw [← hh, Bd.state]; rfl) hZ hh (Fr.nil n0))
theorem own_weak {l : Launch} {y : MethodName} {S : Spec} {P : Array Value → State → Prop} {K : Program → Env → List Frame → State → Array Value → Prop} {Q Q' : Array Value → State → Outcome → State → Prop} (h : MetFree l y S P K Q) (w : ∀ a s o t, Q a s o t → Q' a s o t) : MetFree l y S P K Q' := by
  intro p e ha hc hk s m args below hf happ hP hK
  obtain ⟨n, o, h1, h2, h3, h4⟩ := h p e ha hc hk s m args below hf happ hP hK
  exact ⟨n, o, h1, h2, h3, w _ _ _ _ h4⟩
theorem own_end {p : Program} {e : Env} {below : List Frame} {G : State → Outcome → Prop} {T U : State} {g : JFrame} {o : Outcome} (h1 : Steps p.tables e below (T.setTop g) U) (h2 : U.status = .running) (h3 : Ended U below o) (h4 : G U o) : own_Fin p e below G T g := ⟨U, o, h1, h2, h3, h4⟩
section Calls
variable {p : Program} {l : Launch} {e : Env} {R : Room} {s : State} {m : MethodId} {args : Array Value} {below : List Frame} {meth : Method} {c : Code} {T : State} {locs : List Loc} {cells slots : Nat} {Z : State} {a0 : Array Value} {h : Heap}
abbrev own_In (Z : State) (as' : Array Value) (h : Heap) : Array Value → State → Prop := fun a U => a = as' ∧ Z.Warmed39 U.vm ∧ U.heap = h
abbrev own_Out (Q : Option Value → Heap → List Loc → Prop) (rm : Room) : Array Value → State → Outcome → State → Prop := fun _ U o U' => ∃ v L, o = .returned v ∧ Q v U'.heap L ∧ FrameEnd U o U' L rm.cells rm.slots
abbrev own_OutW (Q : Option Value → Heap → List Loc → Prop) (rm : Room) : Array Value → State → Outcome → State → Prop := fun _ U o U' => ∃ v L, o = .returned v ∧ Q v U'.heap L ∧ ReturnedEndW U o U' L rm.cells rm.slots
abbrev own_np (y : MethodName) : Prop := y.cls ≠ "java/lang/invoke/MethodHandle" ∧ y.cls ≠ "java/lang/invoke/VarHandle"
/-- a static method by its contract -/
theorem own_cS {own : String} {index maxL k W : Nat} {y : MethodName} {bytes : ByteArray} {ret : Option FieldType} {rm : Room} {as' : Array Value} {Q : Option Value → Heap → List Loc → Prop} (X : Stand p l e R s m args below meth c T locs cells slots) (hx : p.tables.exec = Jvm.exec) (hZ : Z.Warmed39 s.vm) (hown : s.vm.findClass own = some m.cls)
    (w1 : (Jvm.Cond.methodLink own index y).before a0 Z = true) (w2 : (Jvm.Cond.static y).before a0 Z = true) (w3 : (Jvm.Cond.initialized y.cls).before a0 Z = true) (w4 : (Jvm.Cond.code y bytes maxL ret).before a0 Z = true)
    (hM : MetFree l y (head1 [Jvm.Cond.code y bytes maxL ret] rm) (own_In Z as' h) (fun _ _ _ _ _ => True) (own_Out Q rm)) (eT : T.heap = h) (hml : c.maxLocals = k) {g : JFrame} {ps : List FieldType} {r : Option FieldType} (hd : parseMethodDescriptor y.desc = some ⟨ps, r⟩) (hdg : decode c.code g.pc = .ok (.invokestatic index, 3)) (argsL rest : List Value)
    (hst : g.stack = argsL.reverse ++ rest := by rfl) (has : argsL.toArray = as' := by rfl) (hg : g.method = m := by rfl) (hsz : g.locals.size = k := by rfl) (hln : argsL.length = ps.length := by rfl) (hy : own_np y := by decide) (hW : 2 * g.monitorRoom + (rest.map fun v => v.category).sum ≤ W := by show 2 * 0 + _ ≤ _; exact Nat.le_of_eq rfl) (hf : rm.frames + 1 ≤ R.frames := by decide) (hl : W + (maxL + 11) + rm.locals ≤ R.locals := by decide) (hc : cells + rm.cells ≤ R.cells := by decide) (hs : slots + rm.slots ≤ R.slots := by decide) :
    ∃ (v : Option Value) (T' : State) (L : List Loc), Stand p l e R s m args below meth c T' (locs ++ L) (cells + rm.cells) (slots + rm.slots) ∧ Q v T'.heap L ∧ ∀ t, Steps p.tables e below (T'.setTop { g with pc := g.pc + 3, stack := v.toList ++ rest }) t → Steps p.tables e below (T.setTop g) t := by
  obtain ⟨v, _, ⟨T', L', k', n'⟩, -, X', ⟨L, hQ, h1, h2, h3⟩, st⟩ := Jvm.LawKit.callS X hx (y := y) hown (mvT hZ w1) (mvT hZ w2) (mvT hZ w3) (mvT hZ w4) hy (backOf (W := W) hM hZ w4 w3 hf hl) (g := g) hg (hsz.trans hml.symm) (argsL := argsL) (rest := rest) (lenOf hd hln) hst hW hdg (fun _ _ => ⟨has, eT, hc, hs⟩)
  dsimp only [Pt.U, Pt.locs, Pt.cells, Pt.slots] at X' h1 h2 h3 st hQ
  subst h1 h2 h3
  exact ⟨v, T', L, X', hQ, st⟩
/-- a constructor by its contract -/
theorem own_cI {own : String} {index maxL k W : Nat} {y : MethodName} {bytes : ByteArray} {rm : Room} {as' : Array Value} {Q : Option Value → Heap → List Loc → Prop} (X : Stand p l e R s m args below meth c T locs cells slots) (hx : p.tables.exec = Jvm.exec) (hZ : Z.Warmed39 s.vm) (hown : s.vm.findClass own = some m.cls)
    (w1 : (Jvm.Cond.methodLink own index y).before a0 Z = true) (w2 : (Jvm.Cond.instanceMethod y).before a0 Z = true) (w3 : (Jvm.Cond.initialized y.cls).before a0 Z = true) (w4 : (Jvm.Cond.code y bytes maxL none).before a0 Z = true)
    (hM : MetFree l y (head1 [Jvm.Cond.code y bytes maxL none] rm) (own_In Z as' h) (fun _ _ _ _ _ => True) (own_Out Q rm)) (eT : T.heap = h) (hml : c.maxLocals = k) {g : JFrame} {ps : List FieldType} {r : Option FieldType} (hd : parseMethodDescriptor y.desc = some ⟨ps, r⟩) (hdg : decode c.code g.pc = .ok (.invokespecial index, 3)) (a : Addr) (argsL rest : List Value)
    (hst : g.stack = argsL.reverse ++ .ref a :: rest := by rfl) (has : (.ref a :: argsL).toArray = as' := by rfl) (hg : g.method = m := by rfl) (hsz : g.locals.size = k := by rfl) (hln : argsL.length = ps.length := by rfl) (hn : y.name = "<init>" := by rfl) (hy : own_np y := by decide) (hW : 2 * g.monitorRoom + (rest.map fun v => v.category).sum ≤ W := by show 2 * 0 + _ ≤ _; exact Nat.le_of_eq rfl) (hf : rm.frames + 1 ≤ R.frames := by decide) (hl : W + (maxL + 11) + rm.locals ≤ R.locals := by decide) (hc : cells + rm.cells ≤ R.cells := by decide) (hs : slots + rm.slots ≤ R.slots := by decide) :
    ∃ (v : Option Value) (T' : State) (L : List Loc), Stand p l e R s m args below meth c T' (locs ++ L) (cells + rm.cells) (slots + rm.slots) ∧ Q v T'.heap L ∧ ∀ t, Steps p.tables e below (T'.setTop { g with pc := g.pc + 3, stack := v.toList ++ rest }) t → Steps p.tables e below (T.setTop g) t := by
  obtain ⟨v, _, ⟨T', L', k', n'⟩, -, X', ⟨L, hQ, h1, h2, h3⟩, st⟩ := X.specialBack hx (y := y) hn hown (mvT hZ w1) (mvT hZ w2) (mvT hZ w4) hy (backOf (W := W) hM hZ w4 w3 hf hl) (g := g) hg (hsz.trans hml.symm) (Steps.refl _) (a := a) (argsL := argsL) (rest := rest) (lenOf hd hln) hst hW hdg (fun _ _ => ⟨has, eT, hc, hs⟩)
  dsimp only [Pt.U, Pt.locs, Pt.cells, Pt.slots] at X' h1 h2 h3 st hQ
  subst h1 h2 h3
  exact ⟨v, T', L, X', hQ, fun t q => st.trans q⟩
/-- an instance method by its contract -/
theorem own_cV {own C : String} {index maxL k W : Nat} {y z : MethodName} {bytes : ByteArray} {ret : Option FieldType} {rm : Room} {as' : Array Value} {Q : Option Value → Heap → List Loc → Prop} (X : Stand p l e R s m args below meth c T locs cells slots) (hx : p.tables.exec = Jvm.exec) (hZ : Z.Warmed39 s.vm) (hown : s.vm.findClass own = some m.cls)
    (w1 : (Jvm.Cond.methodLink own index y).before a0 Z = true) (w2 : (Jvm.Cond.declares y).before a0 Z = true) (nf : NotFace s y) (w5 : (Jvm.Cond.selects C y z).before a0 Z = true) (w6 : (Jvm.Cond.instanceMethod z).before a0 Z = true) (w3 : (Jvm.Cond.initialized z.cls).before a0 Z = true) (w4 : (Jvm.Cond.code z bytes maxL ret).before a0 Z = true)
    (hM : MetFree l z (head1 [Jvm.Cond.code z bytes maxL ret] rm) (own_In Z as' h) (fun _ _ _ _ _ => True) (own_Out Q rm)) (eT : T.heap = h) {b : Addr} (E : Exa Z h b C) (hml : c.maxLocals = k) {g : JFrame} {ps : List FieldType} {r : Option FieldType} (hd : parseMethodDescriptor y.desc = some ⟨ps, r⟩) (hdg : decode c.code g.pc = .ok (.invokevirtual index, 3)) (argsL rest : List Value)
    (hst : g.stack = argsL.reverse ++ .ref b :: rest := by rfl) (has : (.ref b :: argsL).toArray = as' := by rfl) (hg : g.method = m := by rfl) (hsz : g.locals.size = k := by rfl) (hln : argsL.length = ps.length := by rfl) (hy : own_np y := by decide) (hW : 2 * g.monitorRoom + (rest.map fun v => v.category).sum ≤ W := by show 2 * 0 + _ ≤ _; exact Nat.le_of_eq rfl) (hf : rm.frames + 1 ≤ R.frames := by decide) (hl : W + (maxL + 11) + rm.locals ≤ R.locals := by decide) (hc : cells + rm.cells ≤ R.cells := by decide) (hs : slots + rm.slots ≤ R.slots := by decide) :
    ∃ (v : Option Value) (T' : State) (L : List Loc), Stand p l e R s m args below meth c T' (locs ++ L) (cells + rm.cells) (slots + rm.slots) ∧ Q v T'.heap L ∧ ∀ t, Steps p.tables e below (T'.setTop { g with pc := g.pc + 3, stack := v.toList ++ rest }) t → Steps p.tables e below (T.setTop g) t := by
  obtain ⟨cq, kq, qa, qb, qc⟩ := isOf hZ eT E
  obtain ⟨v, _, ⟨T', L', k', n'⟩, -, X', ⟨L, hQ, h1, h2, h3⟩, st⟩ := X.virtualBack hx (y := y) (z := z) hown (mvT hZ w1) (mvT hZ w2) nf (mvT hZ w5) (mvT hZ w6) hy (backOf (W := W) hM hZ w4 w3 hf hl) qa qc (g := g) hg (hsz.trans hml.symm) (Steps.refl _) (argsL := argsL) (rest := rest) (lenOf hd hln) hst hW hdg (fun _ _ => ⟨has, eT, hc, hs⟩)
  dsimp only [Pt.U, Pt.locs, Pt.cells, Pt.slots] at X' h1 h2 h3 st hQ
  subst h1 h2 h3
  exact ⟨v, T', L, X', hQ, fun t q => st.trans q⟩
theorem own_cF {own C : String} {index count maxL k W : Nat} {y z : MethodName} {bytes : ByteArray} {ret : Option FieldType} {rm : Room} {as' : Array Value} {Q : Option Value → Heap → List Loc → Prop} (X : Stand p l e R s m args below meth c T locs cells slots) (hx : p.tables.exec = Jvm.exec) (hZ : Z.Warmed39 s.vm) (hown : s.vm.findClass own = some m.cls)
    (w1 : (Jvm.Cond.methodLink own index y).before a0 Z = true) (w2 : (Jvm.Cond.declares y).before a0 Z = true) (w7 : (Jvm.Cond.interfaceMethod y.cls y.cls y.name y.desc).before args s = true) (w5 : (Jvm.Cond.selects C y z).before a0 Z = true) (w6 : (Jvm.Cond.instanceMethod z).before a0 Z = true) (w8 : (Jvm.Cond.publicMethod z).before a0 Z = true) (w9 : (Jvm.Cond.unhidden C y.name y.desc).before a0 Z = true) (w10 : (Jvm.Cond.castable C y.cls).before a0 Z = true) (w3 : (Jvm.Cond.initialized z.cls).before a0 Z = true) (w4 : (Jvm.Cond.code z bytes maxL ret).before a0 Z = true)
    (hM : MetFree l z (head1 [Jvm.Cond.code z bytes maxL ret] rm) (own_In Z as' h) (fun _ _ _ _ _ => True) (own_Out Q rm)) (eT : T.heap = h) {b : Addr} (E : Exa Z h b C) (hml : c.maxLocals = k) {g : JFrame} {ps : List FieldType} {r : Option FieldType} (hd : parseMethodDescriptor y.desc = some ⟨ps, r⟩) (hdg : decode c.code g.pc = .ok (.invokeinterface index count, 5)) (argsL rest : List Value)
    (hst : g.stack = argsL.reverse ++ .ref b :: rest := by rfl) (has : (.ref b :: argsL).toArray = as' := by rfl) (hg : g.method = m := by rfl) (hsz : g.locals.size = k := by rfl) (hln : argsL.length = ps.length := by rfl) (hy : own_np y := by decide) (hW : 2 * g.monitorRoom + (rest.map fun v => v.category).sum ≤ W := by show 2 * 0 + _ ≤ _; exact Nat.le_of_eq rfl) (hf : rm.frames + 1 ≤ R.frames := by decide) (hl : W + (maxL + 11) + rm.locals ≤ R.locals := by decide) (hc : cells + rm.cells ≤ R.cells := by decide) (hs : slots + rm.slots ≤ R.slots := by decide) :
    ∃ (v : Option Value) (T' : State) (L : List Loc), Stand p l e R s m args below meth c T' (locs ++ L) (cells + rm.cells) (slots + rm.slots) ∧ Q v T'.heap L ∧ ∀ t, Steps p.tables e below (T'.setTop { g with pc := g.pc + 5, stack := v.toList ++ rest }) t → Steps p.tables e below (T.setTop g) t := by
  obtain ⟨cq, kq, qa, qb, qc⟩ := isOf hZ eT E
  obtain ⟨v, _, ⟨T', L', k', n'⟩, -, X', ⟨L, hQ, h1, h2, h3⟩, st⟩ := X.interfaceBack hx (xi := y) (y := z) hown (mvT hZ w1) (mvT hZ w2) w7 (mvT hZ w5) (mvT hZ w6) (mvT hZ w8) (mvT hZ w9) (mvT hZ w10) hy (backOf (W := W) hM hZ w4 w3 hf hl) qa qb qc (g := g) hg (hsz.trans hml.symm) (Steps.refl _) (argsL := argsL) (rest := rest) (lenOf hd hln) hst hW hdg (fun _ _ => ⟨has, eT, hc, hs⟩)
  dsimp only [Pt.U, Pt.locs, Pt.cells, Pt.slots] at X' h1 h2 h3 st hQ
  subst h1 h2 h3
  exact ⟨v, T', L, X', hQ, fun t q => st.trans q⟩
end Calls
section CallsW
variable {p : Program} {l : Launch} {e : Env} {R : Room} {s : State} {vm0 : Vm} {m : MethodId} {args : Array Value} {below : List Frame} {meth : Method} {c : Code} {T : State} {locs : List Loc} {cells slots : Nat} {Z : State} {a0 : Array Value} {h : Heap} {k0 : Nat}
theorem own_cSW {own : String} {index maxL k W : Nat} {y : MethodName} {bytes : ByteArray} {ret : Option FieldType} {rm : Room} {as' : Array Value} {Q : Option Value → Heap → List Loc → Prop} (X : Stand p l e R (s.setVm vm0) m args below meth c T locs cells slots) (hx : p.tables.exec = Jvm.exec) (hZ : Z.Warmed39 (s.setVm vm0).vm) (hown : (s.setVm vm0).vm.findClass own = some m.cls) (hS : s.Since vm0 k0) (hk : k0 ≤ h.size)
    (w1 : (Jvm.Cond.methodLink own index y).before a0 Z = true) (w2 : (Jvm.Cond.static y).before a0 Z = true) (w3 : (Jvm.Cond.initialized y.cls).before a0 Z = true) (w4 : (Jvm.Cond.code y bytes maxL ret).before a0 Z = true)
    (hM : MetFree l y (head1 [Jvm.Cond.code y bytes maxL ret] rm) (own_In Z as' h) (fun _ _ _ _ _ => True) (own_OutW Q rm)) (eT : T.heap = h) (hml : c.maxLocals = k) {g : JFrame} {ps : List FieldType} {r : Option FieldType} (hd : parseMethodDescriptor y.desc = some ⟨ps, r⟩) (hdg : decode c.code g.pc = .ok (.invokestatic index, 3)) (argsL rest : List Value)
    (hst : g.stack = argsL.reverse ++ rest := by rfl) (has : argsL.toArray = as' := by rfl) (hg : g.method = m := by rfl) (hsz : g.locals.size = k := by rfl) (hln : argsL.length = ps.length := by rfl) (hy : own_np y := by decide) (hW : 2 * g.monitorRoom + (rest.map fun v => v.category).sum ≤ W := by show 2 * 0 + _ ≤ _; exact Nat.le_of_eq rfl) (hf : rm.frames + 1 ≤ R.frames := by decide) (hl : W + (maxL + 11) + rm.locals ≤ R.locals := by decide) (hc : cells + rm.cells ≤ R.cells := by decide) (hs : slots + rm.slots ≤ R.slots := by decide) :
    ∃ (v : Option Value) (T' : State) (L : List Loc), Stand p l e R (s.setVm T'.vm) m args below meth c T' (locs ++ L) (cells + rm.cells) (slots + rm.slots) ∧ Q v T'.heap L ∧ s.Since T'.vm T'.heap.size ∧ Z.Warmed39 (s.setVm T'.vm).vm ∧ (s.setVm T'.vm).vm.findClass own = some m.cls ∧ ∀ t, Steps p.tables e below (T'.setTop { g with pc := g.pc + 3, stack := v.toList ++ rest }) t → Steps p.tables e below (T.setTop g) t := by
  obtain ⟨v, _, ⟨T', L', k', n'⟩, -, X', hs', hg', ⟨L, hQ, h1, h2, h3⟩, st⟩ := callSS X hx (y := y) hown (mvT hZ w1) (mvT hZ w2) (mvT hZ w3) (mvT hZ w4) hy (backOfS (W := W) hM hZ w4 w3 hf hl) (g := g) hg (hsz.trans hml.symm) (argsL := argsL) (rest := rest) (lenOf hd hln) hst hW hdg (fun _ _ => ⟨has, eT, hc, hs⟩)
  dsimp only [Pt.U, Pt.locs, Pt.cells, Pt.slots] at X' h1 h2 h3 st hQ hs' hg'
  subst h1 h2 h3
  obtain ⟨Y, hS', hZ', ho'⟩ := rebS hS (n1 := T.heap.size) (by rw [eT]; exact hk) X' hs' hg' hZ hown
  exact ⟨v, T', L, Y, hQ, hS', hZ', ho', fun t q => st.trans q⟩
theorem own_cIW {own : String} {index maxL k W : Nat} {y : MethodName} {bytes : ByteArray} {rm : Room} {as' : Array Value} {Q : Option Value → Heap → List Loc → Prop} (X : Stand p l e R (s.setVm vm0) m args below meth c T locs cells slots) (hx : p.tables.exec = Jvm.exec) (hZ : Z.Warmed39 (s.setVm vm0).vm) (hown : (s.setVm vm0).vm.findClass own = some m.cls) (hS : s.Since vm0 k0) (hk : k0 ≤ h.size)
    (w1 : (Jvm.Cond.methodLink own index y).before a0 Z = true) (w2 : (Jvm.Cond.instanceMethod y).before a0 Z = true) (w3 : (Jvm.Cond.initialized y.cls).before a0 Z = true) (w4 : (Jvm.Cond.code y bytes maxL none).before a0 Z = true)
    (hM : MetFree l y (head1 [Jvm.Cond.code y bytes maxL none] rm) (own_In Z as' h) (fun _ _ _ _ _ => True) (own_OutW Q rm)) (eT : T.heap = h) (hml : c.maxLocals = k) {g : JFrame} {ps : List FieldType} {r : Option FieldType} (hd : parseMethodDescriptor y.desc = some ⟨ps, r⟩) (hdg : decode c.code g.pc = .ok (.invokespecial index, 3)) (a : Addr) (argsL rest : List Value)
    (hst : g.stack = argsL.reverse ++ .ref a :: rest := by rfl) (has : (.ref a :: argsL).toArray = as' := by rfl) (hg : g.method = m := by rfl) (hsz : g.locals.size = k := by rfl) (hln : argsL.length = ps.length := by rfl) (hn : y.name = "<init>" := by rfl) (hy : own_np y := by decide) (hW : 2 * g.monitorRoom + (rest.map fun v => v.category).sum ≤ W := by show 2 * 0 + _ ≤ _; exact Nat.le_of_eq rfl) (hf : rm.frames + 1 ≤ R.frames := by decide) (hl : W + (maxL + 11) + rm.locals ≤ R.locals := by decide) (hc : cells + rm.cells ≤ R.cells := by decide) (hs : slots + rm.slots ≤ R.slots := by decide) :
    ∃ (v : Option Value) (T' : State) (L : List Loc), Stand p l e R (s.setVm T'.vm) m args below meth c T' (locs ++ L) (cells + rm.cells) (slots + rm.slots) ∧ Q v T'.heap L ∧ s.Since T'.vm T'.heap.size ∧ Z.Warmed39 (s.setVm T'.vm).vm ∧ (s.setVm T'.vm).vm.findClass own = some m.cls ∧ ∀ t, Steps p.tables e below (T'.setTop { g with pc := g.pc + 3, stack := v.toList ++ rest }) t → Steps p.tables e below (T.setTop g) t := by
  obtain ⟨v, _, ⟨T', L', k', n'⟩, -, X', hs', hg', ⟨L, hQ, h1, h2, h3⟩, st⟩ := X.specialBackS hx (y := y) hn hown (mvT hZ w1) (mvT hZ w2) (mvT hZ w4) hy (backOfS (W := W) hM hZ w4 w3 hf hl) (g := g) hg (hsz.trans hml.symm) (Steps.refl _) (a := a) (argsL := argsL) (rest := rest) (lenOf hd hln) hst hW hdg (fun _ _ => ⟨has, eT, hc, hs⟩)
  dsimp only [Pt.U, Pt.locs, Pt.cells, Pt.slots] at X' h1 h2 h3 st hQ hs' hg'
  subst h1 h2 h3
  obtain ⟨Y, hS', hZ', ho'⟩ := rebS hS (n1 := T.heap.size) (by rw [eT]; exact hk) X' hs' hg' hZ hown
  exact ⟨v, T', L, Y, hQ, hS', hZ', ho', fun t q => st.trans q⟩
end CallsW
theorem own_and3 (x : Int32) (h0 : ¬ (x &&& (3 : Int32)) = (0 : Int32)) (h1 : ¬ (x &&& (3 : Int32)) = (1 : Int32)) (h2 : ¬ (x &&& (3 : Int32)) = (2 : Int32)) : (x &&& (3 : Int32)) = (3 : Int32) := by
  have h : (x &&& 3).toBitVec.toNat < 4 := by
    simp only [Int32.toBitVec_and, BitVec.toNat_and]
    exact Nat.lt_succ_of_le Nat.and_le_right
  have e : (x &&& 3) = Int32.ofNat (x &&& 3).toBitVec.toNat := by
    apply Int32.toBitVec_inj.mp
    show _ = BitVec.ofNat 32 _
    rw [BitVec.ofNat_toNat]; simp
  have t : ∀ k : Fin 4, ¬ Int32.ofNat k.val = 0 → ¬ Int32.ofNat k.val = 1 → ¬ Int32.ofNat k.val = 2 → Int32.ofNat k.val = 3 := by decide +kernel
  rw [e] at h0 h1 h2 ⊢
  exact t ⟨_, h⟩ h0 h1 h2
theorem own_c255 (x : Int32) : ¬ ((x &&& (255 : Int32)).toUInt32.toUInt16.toUInt32.toInt32) < 0 ∧ ¬ (255 : Int32) < ((x &&& (255 : Int32)).toUInt32.toUInt16.toUInt32.toInt32) := by
  have t : ∀ k : Fin 256, ¬ ((Int32.ofNat k.val).toUInt32.toUInt16.toUInt32.toInt32) < 0 ∧ ¬ (255 : Int32) < ((Int32.ofNat k.val).toUInt32.toUInt16.toUInt32.toInt32) := by decide +kernel
  have h : (x &&& 255).toBitVec.toNat < 256 := by
    simp only [Int32.toBitVec_and, BitVec.toNat_and]
    exact Nat.lt_succ_of_le Nat.and_le_right
  have e : (x &&& 255) = Int32.ofNat (x &&& 255).toBitVec.toNat := by
    apply Int32.toBitVec_inj.mp
    show _ = BitVec.ofNat 32 _
    rw [BitVec.ofNat_toNat]; simp
  rw [e]
  exact t ⟨_, h⟩
theorem own_and255 (x : Int32) : ¬ nar .char ((x &&& (255 : Int32)).toUInt32.toUInt16.toUInt32.toInt32) < 0 ∧ ¬ (255 : Int32) < nar .char ((x &&& (255 : Int32)).toUInt32.toUInt16.toUInt32.toInt32) := by
  have e : nar .char ((x &&& (255 : Int32)).toUInt32.toUInt16.toUInt32.toInt32) = ((x &&& (255 : Int32)).toUInt32.toUInt16.toUInt32.toInt32) := by simp only [nar, UInt32.toUInt32_toInt32, UInt16.toUInt16_toUInt32]
  rw [e]; exact own_c255 x
theorem own_nar2 (x : Int32) : ¬ nar .char (nar .char ((x &&& (255 : Int32)).toUInt32.toUInt16.toUInt32.toInt32)) < 0 ∧ ¬ (255 : Int32) < nar .char (nar .char ((x &&& (255 : Int32)).toUInt32.toUInt16.toUInt32.toInt32)) := by
  have e : nar .char (nar .char ((x &&& (255 : Int32)).toUInt32.toUInt16.toUInt32.toInt32)) = ((x &&& (255 : Int32)).toUInt32.toUInt16.toUInt32.toInt32) := by simp only [nar, UInt32.toUInt32_toInt32, UInt16.toUInt16_toUInt32]
  rw [e]; exact own_c255 x
theorem own_b63c (x : Int32) : (nar .char (nar .char ((x &&& (255 : Int32)).toUInt32.toUInt16.toUInt32.toInt32))).toInt8.toInt32 = (63 : Int32) ↔ nar .char ((x &&& (255 : Int32)).toUInt32.toUInt16.toUInt32.toInt32) = (63 : Int32) := by
  have t : ∀ k : Fin 256, (nar .char (nar .char ((Int32.ofNat k.val).toUInt32.toUInt16.toUInt32.toInt32))).toInt8.toInt32 = (63 : Int32) ↔ nar .char ((Int32.ofNat k.val).toUInt32.toUInt16.toUInt32.toInt32) = (63 : Int32) := by decide +kernel
  have h : (x &&& 255).toBitVec.toNat < 256 := by
    simp only [Int32.toBitVec_and, BitVec.toNat_and]
    exact Nat.lt_succ_of_le Nat.and_le_right
  have e : (x &&& 255) = Int32.ofNat (x &&& 255).toBitVec.toNat := by
    apply Int32.toBitVec_inj.mp
    show _ = BitVec.ofNat 32 _
    rw [BitVec.ofNat_toNat]; simp
  rw [e]
  exact t ⟨_, h⟩
theorem own_all0 {P : Int32 → Prop} : ∀ c ∈ ([] : List Int32), P c := fun _ q => nomatch q
theorem own_allS {P : Int32 → Prop} {y : Int32} {L : List Int32} (q : P y) (r : ∀ x ∈ L, P x) : ∀ x ∈ y :: L, P x := fun x z => (List.mem_cons.mp z).elim (fun u => u ▸ q) (r x)
theorem own_ord {s : State} {args : Array Value} {t : Term} {a : Addr} {k : Int32} (ev : t.eval args s none [] s = some (.ref a)) (h : (Jvm.Cond.eq (Jvm.Term.field t "java/lang/Enum" "ordinal" "I") (Jvm.Term.int k)).value args s none s [] = some true) : Fld s s.heap a "java/lang/Enum" "ordinal" "I" (.int k) := by
  obtain ⟨x, y, h1, h2, h3, h4⟩ := cmp_v (Or.inl h)
  rw [Term.int_eval] at h2
  cases h2
  obtain ⟨z, rfl⟩ : ∃ z, x = .int z := h4
  have e : z = k := gotT (Cond.eq_ints h1 (Term.int_eval k)) h
  subst e
  rw [fld_at ev] at h1
  exact Fld.start h1
theorem d1_0 : decode method_2_code 0 = .ok (.iload_n 0, 1) := by decide +kernel
theorem d1_1 : decode method_2_code 1 = .ok (.iconst 3, 1) := by decide +kernel
theorem d1_2 : decode method_2_code 2 = .ok (.iand, 1) := by decide +kernel
theorem d1_3 : decode method_2_code 3 = .ok (.istore 4, 2) := by decide +kernel
theorem d1_5 : decode method_2_code 5 = .ok (.iload 4, 2) := by decide +kernel
theorem d1_7 : decode method_2_code 7 = .ok (.iconst 1, 1) := by decide +kernel
theorem d1_8 : decode method_2_code 8 = .ok (.if_icmp .gt 28, 3) := by decide +kernel
theorem d1_36 : decode method_2_code 36 = .ok (.iload 4, 2) := by decide +kernel
theorem d1_38 : decode method_2_code 38 = .ok (.iconst 2, 1) := by decide +kernel
theorem d1_39 : decode method_2_code 39 = .ok (.if_icmp .ne 38, 3) := by decide +kernel
theorem d1_42 : decode method_2_code 42 = .ok (.iconst 2, 1) := by decide +kernel
theorem d1_43 : decode method_2_code 43 = .ok (.newarray .char, 2) := by decide +kernel
theorem d1_45 : decode method_2_code 45 = .ok (.astore 5, 2) := by decide +kernel
theorem d1_47 : decode method_2_code 47 = .ok (.aload 5, 2) := by decide +kernel
theorem d1_49 : decode method_2_code 49 = .ok (.iconst 0, 1) := by decide +kernel
theorem d1_50 : decode method_2_code 50 = .ok (.iload_n 1, 1) := by decide +kernel
theorem d1_51 : decode method_2_code 51 = .ok (.sipush 255, 3) := by decide +kernel
theorem d1_54 : decode method_2_code 54 = .ok (.iand, 1) := by decide +kernel
theorem d1_55 : decode method_2_code 55 = .ok (.i2c, 1) := by decide +kernel
theorem d1_56 : decode method_2_code 56 = .ok (.castore, 1) := by decide +kernel
theorem d1_57 : decode method_2_code 57 = .ok (.aload 5, 2) := by decide +kernel
theorem d1_59 : decode method_2_code 59 = .ok (.iconst 1, 1) := by decide +kernel
theorem d1_60 : decode method_2_code 60 = .ok (.iload_n 2, 1) := by decide +kernel
theorem d1_61 : decode method_2_code 61 = .ok (.sipush 255, 3) := by decide +kernel
theorem d1_64 : decode method_2_code 64 = .ok (.iand, 1) := by decide +kernel
theorem d1_65 : decode method_2_code 65 = .ok (.i2c, 1) := by decide +kernel
theorem d1_66 : decode method_2_code 66 = .ok (.castore, 1) := by decide +kernel
theorem d1_67 : decode method_2_code 67 = .ok (.new 7, 3) := by decide +kernel
abbrev cC0 : String := "java/lang/String"
theorem d1_70 : decode method_2_code 70 = .ok (.dup, 1) := by decide +kernel
theorem d1_71 : decode method_2_code 71 = .ok (.aload 5, 2) := by decide +kernel
theorem d1_73 : decode method_2_code 73 = .ok (.invokespecial 9, 3) := by decide +kernel
theorem pd0 : parseMethodDescriptor "([C)V" = some ⟨[(.array .char)], none⟩ := by decide +kernel
abbrev yM0 : MethodName := ⟨cC0, "<init>", "([C)V"⟩
theorem d1_76 : decode method_2_code 76 = .ok (.areturn, 1) := by decide +kernel
abbrev cC1 : String := "com/example/holdfast/holdfast/core/GatewayAnswerPendingPinLaw"
abbrev yM1 : MethodName := ⟨cC1, "draw", "(IIII)Ljava/lang/String;"⟩
theorem pn0 : plainName "com/example/holdfast/holdfast/core/GatewayAnswerPendingPinLaw" = true := by first | (simp [plainName, overriddenIn]; done) | decide +kernel
theorem pd1 : parseMethodDescriptor "(IIII)Ljava/lang/String;" = some ⟨[.int, .int, .int, .int], some (.object "java/lang/String")⟩ := by decide +kernel
theorem d8_0 : decode prog_1_method_4_code 0 = .ok (.new 37, 3) := by decide +kernel
abbrev cC2 : String := "com/example/holdfast/holdfast/core/GatewayAnswer"
abbrev cC3 : String := "Lcom/example/holdfast/holdfast/core/GatewayAnswer$Outcome;"
abbrev cC4 : String := "Ljava/lang/String;"
theorem d8_3 : decode prog_1_method_4_code 3 = .ok (.dup, 1) := by decide +kernel
theorem d8_4 : decode prog_1_method_4_code 4 = .ok (.getstatic 53, 3) := by decide +kernel
theorem d8_7 : decode prog_1_method_4_code 7 = .ok (.aload_n 0, 1) := by decide +kernel
theorem d8_8 : decode prog_1_method_4_code 8 = .ok (.aconst_null, 1) := by decide +kernel
theorem d8_9 : decode prog_1_method_4_code 9 = .ok (.invokespecial 50, 3) := by decide +kernel
theorem d9_0 : decode prog_1_method_1_code 0 = .ok (.aload_n 0, 1) := by decide +kernel
theorem d9_1 : decode prog_1_method_1_code 1 = .ok (.invokespecial 1, 3) := by decide +kernel
theorem d10_0 : decode jdk_30_method_1_code 0 = .ok (.aload_n 0, 1) := by decide +kernel
theorem d10_1 : decode jdk_30_method_1_code 1 = .ok (.invokespecial 1, 3) := by decide +kernel
theorem d10_4 : decode jdk_30_method_1_code 4 = .ok (.return_, 1) := by decide +kernel
abbrev cC5 : String := "java/lang/Record"
abbrev yM2 : MethodName := ⟨cC5, "<init>", "()V"⟩
theorem pn10 : plainName "java/lang/Record" = true := by first | (simp [plainName, overriddenIn]; done) | decide +kernel
theorem pd2 : parseMethodDescriptor "()V" = some ⟨[], none⟩ := by decide +kernel
theorem d9_4 : decode prog_1_method_1_code 4 = .ok (.aload_n 1, 1) := by decide +kernel
theorem d9_5 : decode prog_1_method_1_code 5 = .ok (.ldc 7, 2) := by decide +kernel
theorem d9_7 : decode prog_1_method_1_code 7 = .ok (.invokestatic 9, 3) := by decide +kernel
theorem d11_0 : decode jdk_31_method_11_code 0 = .ok (.aload_n 0, 1) := by decide +kernel
theorem d11_1 : decode jdk_31_method_11_code 1 = .ok (.ifnonnull 12, 3) := by decide +kernel
theorem d11_13 : decode jdk_31_method_11_code 13 = .ok (.aload_n 0, 1) := by decide +kernel
theorem d11_14 : decode jdk_31_method_11_code 14 = .ok (.areturn, 1) := by decide +kernel
abbrev cC6 : String := "java/util/Objects"
abbrev yM3 : MethodName := ⟨cC6, "requireNonNull", "(Ljava/lang/Object;Ljava/lang/String;)Ljava/lang/Object;"⟩
theorem pn11 : plainName "java/util/Objects" = true := by first | (simp [plainName, overriddenIn]; done) | decide +kernel
theorem pd3 : parseMethodDescriptor "(Ljava/lang/Object;Ljava/lang/String;)Ljava/lang/Object;" = some ⟨[(.object "java/lang/Object"), (.object "java/lang/String")], some (.object "java/lang/Object")⟩ := by decide +kernel
theorem d9_10 : decode prog_1_method_1_code 10 = .ok (.pop, 1) := by decide +kernel
theorem d9_11 : decode prog_1_method_1_code 11 = .ok (.aload_n 2, 1) := by decide +kernel
theorem d9_12 : decode prog_1_method_1_code 12 = .ok (.ifnull 10, 3) := by decide +kernel
theorem d9_15 : decode prog_1_method_1_code 15 = .ok (.aload_n 2, 1) := by decide +kernel
theorem d9_16 : decode prog_1_method_1_code 16 = .ok (.invokevirtual 15, 3) := by decide +kernel
theorem d12_0 : decode jdk_42_method_55_code 0 = .ok (.aload_n 0, 1) := by decide +kernel
theorem d12_1 : decode jdk_42_method_55_code 1 = .ok (.getfield 9, 3) := by decide +kernel
theorem d12_4 : decode jdk_42_method_55_code 4 = .ok (.arraylength, 1) := by decide +kernel
theorem d12_5 : decode jdk_42_method_55_code 5 = .ok (.ifCond .ne 7, 3) := by decide +kernel
theorem d12_12 : decode jdk_42_method_55_code 12 = .ok (.iconst 0, 1) := by decide +kernel
theorem d12_13 : decode jdk_42_method_55_code 13 = .ok (.ireturn, 1) := by decide +kernel
abbrev yM4 : MethodName := ⟨cC0, "isEmpty", "()Z"⟩
theorem pn2 : plainName "java/lang/String" = true := by first | (simp [plainName, overriddenIn]; done) | decide +kernel
theorem pd4 : parseMethodDescriptor "()Z" = some ⟨[], some .boolean⟩ := by decide +kernel
theorem d9_19 : decode prog_1_method_1_code 19 = .ok (.ifCond .eq 13, 3) := by decide +kernel
theorem d9_32 : decode prog_1_method_1_code 32 = .ok (.aload_n 1, 1) := by decide +kernel
theorem d9_33 : decode prog_1_method_1_code 33 = .ok (.getstatic 28, 3) := by decide +kernel
theorem d9_36 : decode prog_1_method_1_code 36 = .ok (.if_acmp .ne 7, 3) := by decide +kernel
theorem d9_43 : decode prog_1_method_1_code 43 = .ok (.iconst 0, 1) := by decide +kernel
theorem d9_44 : decode prog_1_method_1_code 44 = .ok (.istore 4, 2) := by decide +kernel
theorem d9_46 : decode prog_1_method_1_code 46 = .ok (.iload 4, 2) := by decide +kernel
theorem d9_48 : decode prog_1_method_1_code 48 = .ok (.aload_n 3, 1) := by decide +kernel
theorem d9_49 : decode prog_1_method_1_code 49 = .ok (.ifnull 14, 3) := by decide +kernel
theorem d9_63 : decode prog_1_method_1_code 63 = .ok (.iconst 0, 1) := by decide +kernel
theorem d9_64 : decode prog_1_method_1_code 64 = .ok (.if_icmp .eq 13, 3) := by decide +kernel
theorem d9_77 : decode prog_1_method_1_code 77 = .ok (.aload_n 0, 1) := by decide +kernel
theorem d9_78 : decode prog_1_method_1_code 78 = .ok (.aload_n 1, 1) := by decide +kernel
theorem d9_79 : decode prog_1_method_1_code 79 = .ok (.putfield 36, 3) := by decide +kernel
theorem d9_82 : decode prog_1_method_1_code 82 = .ok (.aload_n 0, 1) := by decide +kernel
theorem d9_83 : decode prog_1_method_1_code 83 = .ok (.aload_n 2, 1) := by decide +kernel
theorem d9_84 : decode prog_1_method_1_code 84 = .ok (.putfield 40, 3) := by decide +kernel
theorem d9_87 : decode prog_1_method_1_code 87 = .ok (.aload_n 0, 1) := by decide +kernel
theorem d9_88 : decode prog_1_method_1_code 88 = .ok (.aload_n 3, 1) := by decide +kernel
theorem d9_89 : decode prog_1_method_1_code 89 = .ok (.putfield 44, 3) := by decide +kernel
theorem d9_92 : decode prog_1_method_1_code 92 = .ok (.return_, 1) := by decide +kernel
abbrev yM5 : MethodName := ⟨cC2, "<init>", "(Lcom/example/holdfast/holdfast/core/GatewayAnswer$Outcome;Ljava/lang/String;Ljava/lang/String;)V"⟩
theorem pn8 : plainName "com/example/holdfast/holdfast/core/GatewayAnswer" = true := by first | (simp [plainName, overriddenIn]; done) | decide +kernel
theorem pd5 : parseMethodDescriptor "(Lcom/example/holdfast/holdfast/core/GatewayAnswer$Outcome;Ljava/lang/String;Ljava/lang/String;)V" = some ⟨[(.object "com/example/holdfast/holdfast/core/GatewayAnswer$Outcome"), (.object "java/lang/String"), (.object "java/lang/String")], none⟩ := by decide +kernel
theorem d8_12 : decode prog_1_method_4_code 12 = .ok (.areturn, 1) := by decide +kernel
abbrev yM6 : MethodName := ⟨cC2, "pending", "(Ljava/lang/String;)Lcom/example/holdfast/holdfast/core/GatewayAnswer;"⟩
theorem pd6 : parseMethodDescriptor "(Ljava/lang/String;)Lcom/example/holdfast/holdfast/core/GatewayAnswer;" = some ⟨[(.object "java/lang/String")], some (.object "com/example/holdfast/holdfast/core/GatewayAnswer")⟩ := by decide +kernel
theorem d13_0 : decode prog_1_method_8_code 0 = .ok (.aload_n 0, 1) := by decide +kernel
theorem d13_1 : decode prog_1_method_8_code 1 = .ok (.getfield 36, 3) := by decide +kernel
theorem d13_4 : decode prog_1_method_8_code 4 = .ok (.areturn, 1) := by decide +kernel
abbrev yM7 : MethodName := ⟨cC2, "outcome", "()Lcom/example/holdfast/holdfast/core/GatewayAnswer$Outcome;"⟩
theorem pd7 : parseMethodDescriptor "()Lcom/example/holdfast/holdfast/core/GatewayAnswer$Outcome;" = some ⟨[], some (.object "com/example/holdfast/holdfast/core/GatewayAnswer$Outcome")⟩ := by decide +kernel
theorem d14_0 : decode prog_1_method_9_code 0 = .ok (.aload_n 0, 1) := by decide +kernel
theorem d14_1 : decode prog_1_method_9_code 1 = .ok (.getfield 40, 3) := by decide +kernel
theorem d14_4 : decode prog_1_method_9_code 4 = .ok (.areturn, 1) := by decide +kernel
abbrev yM8 : MethodName := ⟨cC2, "transactionId", "()Ljava/lang/String;"⟩
theorem pd8 : parseMethodDescriptor "()Ljava/lang/String;" = some ⟨[], some (.object "java/lang/String")⟩ := by decide +kernel
theorem d15_0 : decode jdk_42_method_66_code 0 = .ok (.aload_n 0, 1) := by decide +kernel
theorem d15_1 : decode jdk_42_method_66_code 1 = .ok (.aload_n 1, 1) := by decide +kernel
theorem d15_2 : decode jdk_42_method_66_code 2 = .ok (.if_acmp .ne 5, 3) := by decide +kernel
theorem d15_5 : decode jdk_42_method_66_code 5 = .ok (.iconst 1, 1) := by decide +kernel
theorem d15_6 : decode jdk_42_method_66_code 6 = .ok (.ireturn, 1) := by decide +kernel
abbrev yM9 : MethodName := ⟨cC0, "equals", "(Ljava/lang/Object;)Z"⟩
theorem pd9 : parseMethodDescriptor "(Ljava/lang/Object;)Z" = some ⟨[(.object "java/lang/Object")], some .boolean⟩ := by decide +kernel
theorem d16_0 : decode prog_1_method_10_code 0 = .ok (.aload_n 0, 1) := by decide +kernel
theorem d16_1 : decode prog_1_method_10_code 1 = .ok (.getfield 44, 3) := by decide +kernel
theorem d16_4 : decode prog_1_method_10_code 4 = .ok (.areturn, 1) := by decide +kernel
abbrev yM10 : MethodName := ⟨cC2, "declineReason", "()Ljava/lang/String;"⟩
theorem d1_77 : decode method_2_code 77 = .ok (.iconst 3, 1) := by decide +kernel
theorem d1_78 : decode method_2_code 78 = .ok (.newarray .char, 2) := by decide +kernel
theorem d1_80 : decode method_2_code 80 = .ok (.astore 5, 2) := by decide +kernel
theorem d1_82 : decode method_2_code 82 = .ok (.aload 5, 2) := by decide +kernel
theorem d1_84 : decode method_2_code 84 = .ok (.iconst 0, 1) := by decide +kernel
theorem d1_85 : decode method_2_code 85 = .ok (.iload_n 1, 1) := by decide +kernel
theorem d1_86 : decode method_2_code 86 = .ok (.sipush 255, 3) := by decide +kernel
theorem d1_89 : decode method_2_code 89 = .ok (.iand, 1) := by decide +kernel
theorem d1_90 : decode method_2_code 90 = .ok (.i2c, 1) := by decide +kernel
theorem d1_91 : decode method_2_code 91 = .ok (.castore, 1) := by decide +kernel
theorem d1_92 : decode method_2_code 92 = .ok (.aload 5, 2) := by decide +kernel
theorem d1_94 : decode method_2_code 94 = .ok (.iconst 1, 1) := by decide +kernel
theorem d1_95 : decode method_2_code 95 = .ok (.iload_n 2, 1) := by decide +kernel
theorem d1_96 : decode method_2_code 96 = .ok (.sipush 255, 3) := by decide +kernel
theorem d1_99 : decode method_2_code 99 = .ok (.iand, 1) := by decide +kernel
theorem d1_100 : decode method_2_code 100 = .ok (.i2c, 1) := by decide +kernel
theorem d1_101 : decode method_2_code 101 = .ok (.castore, 1) := by decide +kernel
theorem d1_102 : decode method_2_code 102 = .ok (.aload 5, 2) := by decide +kernel
theorem d1_104 : decode method_2_code 104 = .ok (.iconst 2, 1) := by decide +kernel
theorem d1_105 : decode method_2_code 105 = .ok (.iload_n 3, 1) := by decide +kernel
theorem d1_106 : decode method_2_code 106 = .ok (.sipush 255, 3) := by decide +kernel
theorem d1_109 : decode method_2_code 109 = .ok (.iand, 1) := by decide +kernel
theorem d1_110 : decode method_2_code 110 = .ok (.i2c, 1) := by decide +kernel
theorem d1_111 : decode method_2_code 111 = .ok (.castore, 1) := by decide +kernel
theorem d1_112 : decode method_2_code 112 = .ok (.new 7, 3) := by decide +kernel
theorem d1_115 : decode method_2_code 115 = .ok (.dup, 1) := by decide +kernel
theorem d1_116 : decode method_2_code 116 = .ok (.aload 5, 2) := by decide +kernel
theorem d1_118 : decode method_2_code 118 = .ok (.invokespecial 9, 3) := by decide +kernel
theorem d1_121 : decode method_2_code 121 = .ok (.areturn, 1) := by decide +kernel
theorem d1_11 : decode method_2_code 11 = .ok (.iconst 1, 1) := by decide +kernel
theorem d1_12 : decode method_2_code 12 = .ok (.newarray .char, 2) := by decide +kernel
theorem d1_14 : decode method_2_code 14 = .ok (.astore 5, 2) := by decide +kernel
theorem d1_16 : decode method_2_code 16 = .ok (.aload 5, 2) := by decide +kernel
theorem d1_18 : decode method_2_code 18 = .ok (.iconst 0, 1) := by decide +kernel
theorem d1_19 : decode method_2_code 19 = .ok (.iload_n 1, 1) := by decide +kernel
theorem d1_20 : decode method_2_code 20 = .ok (.sipush 255, 3) := by decide +kernel
theorem d1_23 : decode method_2_code 23 = .ok (.iand, 1) := by decide +kernel
theorem d1_24 : decode method_2_code 24 = .ok (.i2c, 1) := by decide +kernel
theorem d1_25 : decode method_2_code 25 = .ok (.castore, 1) := by decide +kernel
theorem d1_26 : decode method_2_code 26 = .ok (.new 7, 3) := by decide +kernel
theorem d1_29 : decode method_2_code 29 = .ok (.dup, 1) := by decide +kernel
theorem d1_30 : decode method_2_code 30 = .ok (.aload 5, 2) := by decide +kernel
theorem d1_32 : decode method_2_code 32 = .ok (.invokespecial 9, 3) := by decide +kernel
theorem d1_35 : decode method_2_code 35 = .ok (.areturn, 1) := by decide +kernel
def Q0 (n0 : Nat) (v : Option Value) (h : Heap) (L : List Loc) : Prop := v = some (.int (1 : Int32)) ∧ Fr n0 L
theorem ef1_1 (m : MethodId) (p1 : Int32) (p2 : Int32) (p3 : Int32) (p4 : Int32) : entryFrame m #[(.int p1), (.int p2), (.int p3), (.int p4)] 6 = mkF m 0 #[SI p1, SI p2, SI p3, SI p4, SU, SU] [] := by first | (simp [entryFrame, mkF, argsToLocals, Value.category]; done) | rfl
def Q1_1 (Z : State) (p1 : Int32) (p2 : Int32) (p3 : Int32) (p4 : Int32) (p20 : Int32) (h0 : Heap) (n0 : Nat) (v : Option Value) (h : Heap) (L : List Loc) : Prop := ∃ (b15 : Addr) (t19 : Addr) (kb19 : ClassId), v = some (.ref b15) ∧ Fr n0 L ∧ Keep h0 h [] ∧ h0.size ≤ b15 ∧ h0.size ≤ t19 ∧ b15 ≠ t19 ∧ Exa Z h b15 cC0 ∧ Fld Z h b15 cC0 "coder" "B" (VI 0) ∧ Fld Z h b15 cC0 "value" "[B" (VR t19) ∧ Arv Z h t19 kb19 .byte 2 [VI ((nar .char ((p2 &&& (255 : Int32)).toUInt32.toUInt16.toUInt32.toInt32)).toInt8.toInt32), VI ((nar .char ((p3 &&& (255 : Int32)).toUInt32.toUInt16.toUInt32.toInt32)).toInt8.toInt32)] (VI 0)
set_option maxRecDepth 65536 in
set_option maxHeartbeats 40000000 in
theorem rm1_1 (l : Launch) (Z : State) (a0 : Array Value) (hw : HW a0 Z) (ws : List Jvm.Cond) (p1 : Int32) (p2 : Int32) (p3 : Int32) (p4 : Int32) (p20 : Int32) (h0 : Heap) (n0 : Nat) (Z0 : n0 ≤ h0.size) (f5 : (1 : Int32) < (p1 &&& (3 : Int32))) (f6 : (p1 &&& (3 : Int32)) = (2 : Int32)) (f21 : Sta Z Z.heap "java/lang/String" "COMPACT_STRINGS" "Z" (.int p20)) (f22 : Old Z n0 h0) (f24 : ¬ (p20 = (0 : Int32))) :
    MetFree l yM1 (head1 (Jvm.Cond.code yM1 method_2_code 6 (some (.object "java/lang/String")) :: ws) ({ frames := 4, cells := 3, slots := 8, locals := 66 } : Room)) (fun a U => a = #[(.int p1), (.int p2), (.int p3), (.int p4)] ∧ Z.Warmed39 U.vm ∧ U.heap = h0) (fun _ _ _ _ _ => True) (fun _ U o U' => ∃ v L, o = .returned v ∧ Q1_1 Z p1 p2 p3 p4 p20 h0 n0 v U'.heap L ∧ FrameEnd U o U' L ({ frames := 4, cells := 3, slots := 8, locals := 66 } : Room).cells ({ frames := 4, cells := 3, slots := 8, locals := 66 } : Room).slots) := by
  refine own_enter (n0 := n0) (plainFor_of_name pn0) (fun m => ef1_1 m p1 p2 p3 p4) ?_
  intro p e s m below meth c s₁ hx hby hml hown hnm hret hlk X0 e0 hZ hh N0
  show own_Fin p e below _ s₁ (mkF m 0 #[SI p1, SI p2, SI p3, SI p4, SU, SU] [])
  refine own_go (fun _ k => XS.iloadN X0.here hx rfl (hb hby d1_0) rfl (XS.iconst X0.here hx rfl (hb hby d1_1) (XS.iand X0.here hx rfl (hb hby d1_2) rfl (XS.istore X0.here hx rfl (hb hby d1_3) rfl (l' := #[SI p1, SI p2, SI p3, SI p4, SI (p1 &&& (3 : Int32)), SU]) rfl (XS.iload X0.here hx rfl (hb hby d1_5) rfl (XS.iconst X0.here hx rfl (hb hby d1_7) (XS.icmpYes X0.here hx rfl (pc0 := 8) (pc' := 36) rfl (hb hby d1_8) rfl (tlt f5).2.2.1 (by decide) (by decide) (XS.iload X0.here hx rfl (hb hby d1_36) rfl (XS.iconst X0.here hx rfl (hb hby d1_38) (XS.icmpNo X0.here hx rfl (hb hby d1_39) rfl (teq f6).2 k)))))))))) ?_
  show own_Fin p e below _ s₁ (mkF m 42 #[SI p1, SI p2, SI p3, SI p4, SI (p1 &&& (3 : Int32)), SU] [])
  refine own_go (fun _ k => XS.iconst X0.here hx rfl (hb hby d1_42) k) ?_
  show own_Fin p e below _ s₁ (mkF m 43 #[SI p1, SI p2, SI p3, SI p4, SI (p1 &&& (3 : Int32)), SU] [VI 2])
  obtain ⟨T7, h7, k7, X7, e7, E7, A7, st7⟩ := newP X0 hx hZ (WW hw 4) e0 (g := (mkF m 43 #[SI p1, SI p2, SI p3, SI p4, SI (p1 &&& (3 : Int32)), SU] [VI 2])) rfl (hb hby d1_43) rfl (by decide) (cap := 2) (by decide) (by decide) (by decide) (by decide)
  obtain ⟨b7, g7⟩ : ∃ z, z = h0.size := ⟨_, rfl⟩
  rw [← g7] at A7 st7
  have V7 : Arv Z h7 b7 k7 .char 2 [VI 0, VI 0] (VI 0) := (Arv.new A7 (by decide)).pad (pad_rep [] (.int (0 : Int32)) 2)
  refine own_go st7 ?_
  show own_Fin p e below _ T7 (mkF m 45 #[SI p1, SI p2, SI p3, SI p4, SI (p1 &&& (3 : Int32)), SU] [VR b7])
  refine own_go (fun _ k => XS.astore X7.here hx rfl (hb hby d1_45) rfl rfl (l' := #[SI p1, SI p2, SI p3, SI p4, SI (p1 &&& (3 : Int32)), SR b7]) rfl (XS.aload X7.here hx rfl (hb hby d1_47) rfl rfl (XS.iconst X7.here hx rfl (hb hby d1_49) (XS.iloadN X7.here hx rfl (hb hby d1_50) rfl (XS.sipush X7.here hx rfl (hb hby d1_51) (XS.iand X7.here hx rfl (hb hby d1_54) rfl (XS.i2c X7.here hx rfl (hb hby d1_55) rfl k))))))) ?_
  show own_Fin p e below _ T7 (mkF m 56 #[SI p1, SI p2, SI p3, SI p4, SI (p1 &&& (3 : Int32)), SR b7] [VI ((p2 &&& (255 : Int32)).toUInt32.toUInt16.toUInt32.toInt32), VI 0, VR b7])
  obtain ⟨cl8, Ar8, q8, Sz8, Nn8, Hs8, Gg8⟩ := id V7
  have i9 : ¬ ((0 : Int32) < 0 ∨ cl8.slots.size ≤ ((0 : Int32)).toNatClampNeg) := inb_of Sz8 ⟨(by decide : ¬ ((0 : Int32) < (0 : Int32))), (by decide : (0 : Int32) < (2 : Int32))⟩
  obtain ⟨T10, h10, X10, e10, W10, st10⟩ := stC X7 hx hZ e7 Ar8 (j := (0 : Int32)) i9 (g := (mkF m 56 #[SI p1, SI p2, SI p3, SI p4, SI (p1 &&& (3 : Int32)), SR b7] [VI ((p2 &&& (255 : Int32)).toUInt32.toUInt16.toUInt32.toInt32), VI 0, VR b7])) rfl rfl (hb hby d1_56)
  have u11 : n0 ≤ b7 := Nat.le_trans Z0 (Nat.le_of_eq g7.symm)
  have N10 := Fr.snoc X10 N0 u11
  have V10 : Arv Z h10 b7 k7 .char 2 [VI (nar .char ((p2 &&& (255 : Int32)).toUInt32.toUInt16.toUInt32.toInt32)), VI 0] (VI 0) := Arv.set Ar8 q8 Sz8 Nn8 Hs8 Gg8 (fits_nar_char _) W10 0 rfl (Nat.le_of_ble_eq_true rfl)
  refine own_go st10 ?_
  show own_Fin p e below _ T10 (mkF m 57 #[SI p1, SI p2, SI p3, SI p4, SI (p1 &&& (3 : Int32)), SR b7] [])
  refine own_go (fun _ k => XS.aload X10.here hx rfl (hb hby d1_57) rfl rfl (XS.iconst X10.here hx rfl (hb hby d1_59) (XS.iloadN X10.here hx rfl (hb hby d1_60) rfl (XS.sipush X10.here hx rfl (hb hby d1_61) (XS.iand X10.here hx rfl (hb hby d1_64) rfl (XS.i2c X10.here hx rfl (hb hby d1_65) rfl k)))))) ?_
  show own_Fin p e below _ T10 (mkF m 66 #[SI p1, SI p2, SI p3, SI p4, SI (p1 &&& (3 : Int32)), SR b7] [VI ((p3 &&& (255 : Int32)).toUInt32.toUInt16.toUInt32.toInt32), VI 1, VR b7])
  obtain ⟨cl12, Ar12, q12, Sz12, Nn12, Hs12, Gg12⟩ := id V10
  have i13 : ¬ ((1 : Int32) < 0 ∨ cl12.slots.size ≤ ((1 : Int32)).toNatClampNeg) := inb_of Sz12 ⟨(by decide : ¬ ((1 : Int32) < (0 : Int32))), (by decide : (1 : Int32) < (2 : Int32))⟩
  obtain ⟨T14, h14, X14, e14, W14, st14⟩ := stC X10 hx hZ e10 Ar12 (j := (1 : Int32)) i13 (g := (mkF m 66 #[SI p1, SI p2, SI p3, SI p4, SI (p1 &&& (3 : Int32)), SR b7] [VI ((p3 &&& (255 : Int32)).toUInt32.toUInt16.toUInt32.toInt32), VI 1, VR b7])) rfl rfl (hb hby d1_66)
  have N14 := Fr.snoc X14 N10 u11
  have V14 : Arv Z h14 b7 k7 .char 2 [VI (nar .char ((p2 &&& (255 : Int32)).toUInt32.toUInt16.toUInt32.toInt32)), VI (nar .char ((p3 &&& (255 : Int32)).toUInt32.toUInt16.toUInt32.toInt32))] (VI 0) := Arv.set Ar12 q12 Sz12 Nn12 Hs12 Gg12 (fits_nar_char _) W14 1 rfl (Nat.le_of_ble_eq_true rfl)
  refine own_go st14 ?_
  show own_Fin p e below _ T14 (mkF m 67 #[SI p1, SI p2, SI p3, SI p4, SI (p1 &&& (3 : Int32)), SR b7] [])
  obtain ⟨T15, h15, X15, e15, E15, A15, D15, -, st15⟩ := newO X14 hx hZ hown (WW hw 5) (WW hw 6) (WW hw 7) e14 (g := (mkF m 67 #[SI p1, SI p2, SI p3, SI p4, SI (p1 &&& (3 : Int32)), SR b7] [])) rfl (hb hby d1_67) (by decide) (by decide)
  obtain ⟨b15, g15⟩ : ∃ z, z = h14.size := ⟨_, rfl⟩
  rw [← g15] at A15 D15 st15
  have F16 : Fld Z h15 b15 cC0 "coder" "B" (VI 0) := D15 (Or.inr (WW hw 31)) (ty := .byte) (by decide)
  have F17 : Fld Z h15 b15 cC0 "value" "[B" (.null) := D15 (Or.inr (WW hw 33)) (ty := (.array .byte)) (by decide)
  refine own_go st15 ?_
  show own_Fin p e below _ T15 (mkF m 70 #[SI p1, SI p2, SI p3, SI p4, SI (p1 &&& (3 : Int32)), SR b7] [VR b15])
  refine own_go (fun _ k => XS.dup X15.here hx rfl (hb hby d1_70) rfl rfl (XS.aload X15.here hx rfl (hb hby d1_71) rfl rfl k)) ?_
  show own_Fin p e below _ T15 (mkF m 73 #[SI p1, SI p2, SI p3, SI p4, SI (p1 &&& (3 : Int32)), SR b7] [VR b7, VR b15, VR b15])
  have F18 : Arv Z h15 b7 k7 .char 2 [VI (nar .char ((p2 &&& (255 : Int32)).toUInt32.toUInt16.toUInt32.toInt32)), VI (nar .char ((p3 &&& (255 : Int32)).toUInt32.toUInt16.toUInt32.toInt32))] (VI 0) := (V14.ext E15)
  have O23 : Old Z n0 h15 := ((((f22.ext E7).wr W10 u11).wr W14 u11).ext E15)
  have hws : ∀ d ∈ StrChars.Road.words, d.before a0 Z = true := fun d hd => hw d ((by decide +kernel : ∀ d ∈ StrChars.Road.words, d ∈ tables_1) d hd)
  have hp25 : ∀ c ∈ ([(nar .char ((p2 &&& (255 : Int32)).toUInt32.toUInt16.toUInt32.toInt32)), (nar .char ((p3 &&& (255 : Int32)).toUInt32.toUInt16.toUInt32.toInt32))] : List Int32), ¬ c < 0 ∧ ¬ (255 : Int32) < c := (own_allS (own_and255 p2) (own_allS (own_and255 p3) own_all0))
  have z27 : h0.size ≤ h7.size := E7.1
  have z28 : h0.size ≤ h10.size := Nat.le_trans z27 (Nat.le_of_eq (Wr.size W10).symm)
  have z29 : h0.size ≤ h14.size := Nat.le_trans z28 (Nat.le_of_eq (Wr.size W14).symm)
  have u26 : n0 ≤ b15 := Nat.le_trans Z0 (Nat.le_trans z29 (Nat.le_of_eq g15.symm))
  have z30 : h0.size ≤ h15.size := Nat.le_trans z29 E15.1
  obtain ⟨_, _, ⟨T19, L19, k19, n19⟩, -, X19, ⟨Lc19, hQ19, l19, y19, z19⟩, st19⟩ := X15.specialBack hx (y := yM0) rfl hown (mvT hZ (WW hw 8)) (mvT hZ (WW hw 9)) (mvT hZ (WW hw 10)) (by decide) (StrChars.Road.backV (W := 1) hZ hws (kI := 4) (WW hw 6) (cs := ([(nar .char ((p2 &&& (255 : Int32)).toUInt32.toUInt16.toUInt32.toInt32)), (nar .char ((p3 &&& (255 : Int32)).toUInt32.toUInt16.toUInt32.toInt32))] : List Int32)) (bs := ([(nar .char ((p2 &&& (255 : Int32)).toUInt32.toUInt16.toUInt32.toInt32)), (nar .char ((p3 &&& (255 : Int32)).toUInt32.toUInt16.toUInt32.toInt32))] : List Int32).map (fun c => c.toInt8.toInt32)) (n := 2) u26 (Nat.le_trans Z0 z30) A15 F17 F16 F18 (f21.ext O23.2) f24 rfl rfl (by decide) (by decide) hp25 rfl (by decide) (by decide)) (g := (mkF m 73 #[SI p1, SI p2, SI p3, SI p4, SI (p1 &&& (3 : Int32)), SR b7] [VR b7, VR b15, VR b15])) rfl (by rw [hml]; rfl) (Steps.refl _) (a := b15) (argsL := [VR b7]) (rest := [VR b15]) (lenOf pd0 rfl) rfl (by show 2 * 0 + _ ≤ _; exact Nat.le_of_eq rfl) (hb hby d1_73) (fun _ _ => ⟨rfl, e15, (by decide : 2 + 1 ≤ _), (by decide : 6 + 2 ≤ _)⟩)
  dsimp only [Pt.U, Pt.locs, Pt.cells, Pt.slots] at X19 l19 y19 z19 st19 hQ19
  subst l19 y19 z19
  obtain ⟨rfl, N19q, K19, oE19, oC19, t19, kb19, -, lo19, nt19, oV19, oA19⟩ := hQ19
  have N19 := Fr.app N14 N19q
  refine own_go (fun _ k => st19.trans k) ?_
  show own_Fin p e below _ T19 (mkF m 76 #[SI p1, SI p2, SI p3, SI p4, SI (p1 &&& (3 : Int32)), SR b7] [VR b15])
  have K31 : Keep h0 T19.heap [] := ((((((Keep.refl h0 []).ext E7).wr W10 (Or.inr (Nat.le_of_eq g7.symm))).wr W14 (Or.inr (Nat.le_of_eq g7.symm))).ext E15).trans K19 (allS (Or.inr (Nat.le_trans z29 (Nat.le_of_eq g15.symm))) all0))
  obtain ⟨fs, hr, hrun, hended, hW, hsame⟩ := X19.leave (v := some (.ref b15)) (fun h => by rw [hret] at h; cases h)
  refine own_end (retOut X19 hx hret rfl (Or.inr (Or.inr (Or.inr (Or.inr ⟨rfl, rfl, rfl⟩)))) (hb hby d1_76) hr) hrun hended ⟨_, _, rfl, ?_, ⟨_, rfl⟩, hW, hsame.mono (by decide) (by decide)⟩
  show Q1_1 Z p1 p2 p3 p4 p20 h0 n0 _ T19.heap _
  exact ⟨b15, t19, kb19, rfl, N19, K31, (Nat.le_trans z29 (Nat.le_of_eq g15.symm)), (Nat.le_trans z30 lo19), (Ne.symm nt19), oE19, oC19, oV19, oA19⟩
theorem ef10_1 (m : MethodId) (a1 : Addr) : entryFrame m #[(.ref a1)] 1 = mkF m 0 #[SR a1] [] := by first | (simp [entryFrame, mkF, argsToLocals, Value.category]; done) | rfl
def Q10_1 (Z : State) (a1 : Addr) (h0 : Heap) (n0 : Nat) (v : Option Value) (h : Heap) (L : List Loc) : Prop := v = none ∧ Fr n0 L ∧ h = h0
set_option maxRecDepth 65536 in
set_option maxHeartbeats 40000000 in
theorem rm10_1 (l : Launch) (Z : State) (a0 : Array Value) (hw : HW a0 Z) (ws : List Jvm.Cond) (a1 : Addr) (h0 : Heap) (n0 : Nat) (Z0 : n0 ≤ h0.size) :
    MetFree l yM2 (head1 (Jvm.Cond.code yM2 jdk_30_method_1_code 1 none :: ws) ({ frames := 1, cells := 0, slots := 0, locals := 12 } : Room)) (fun a U => a = #[(.ref a1)] ∧ Z.Warmed39 U.vm ∧ U.heap = h0) (fun _ _ _ _ _ => True) (fun _ U o U' => ∃ v L, o = .returned v ∧ Q10_1 Z a1 h0 n0 v U'.heap L ∧ FrameEnd U o U' L ({ frames := 1, cells := 0, slots := 0, locals := 12 } : Room).cells ({ frames := 1, cells := 0, slots := 0, locals := 12 } : Room).slots) := by
  refine own_enter (n0 := n0) (plainFor_of_name pn10) (fun m => ef10_1 m a1) ?_
  intro p e s m below meth c s₁ hx hby hml hown hnm hret hlk X0 e0 hZ hh N0
  show own_Fin p e below _ s₁ (mkF m 0 #[SR a1] [])
  refine own_go (fun _ k => XS.aloadN X0.here hx rfl (hb hby d10_0) rfl rfl k) ?_
  show own_Fin p e below _ s₁ (mkF m 1 #[SR a1] [VR a1])
  obtain ⟨T2, X2, e2, st2⟩ := initO X0 hx hZ hown (WW hw 51) (WW hw 16) (WW hw 17) e0 (g := (mkF m 1 #[SR a1] [VR a1])) rfl (by rw [hml]; rfl) rfl (hb hby d10_1) (by decide) (W := 0) (by show 2 * 0 + _ ≤ _; exact Nat.le_of_eq rfl) (by decide)
  refine own_go st2 ?_
  show own_Fin p e below _ T2 (mkF m 4 #[SR a1] [])
  obtain ⟨fs, hr, hrun, hended, hW, hsame⟩ := X2.leave (v := none) (fun _ => rfl)
  refine own_end (X2.returnOut hx hret (hb hby d10_4) hr) hrun hended ⟨_, _, rfl, ?_, ⟨_, rfl⟩, hW, hsame.mono (by decide) (by decide)⟩
  show Q10_1 Z a1 h0 n0 _ T2.heap _
  rw [e2]
  exact ⟨rfl, N0, rfl⟩
theorem ef11_1 (m : MethodId) (a1 : Addr) (a2 : Addr) : entryFrame m #[(.ref a1), (.ref a2)] 2 = mkF m 0 #[SR a1, SR a2] [] := by first | (simp [entryFrame, mkF, argsToLocals, Value.category]; done) | rfl
def Q11_1 (Z : State) (a1 : Addr) (a2 : Addr) (h0 : Heap) (n0 : Nat) (v : Option Value) (h : Heap) (L : List Loc) : Prop := v = some (.ref a1) ∧ Fr n0 L ∧ h = h0
set_option maxRecDepth 65536 in
set_option maxHeartbeats 40000000 in
theorem rm11_1 (l : Launch) (Z : State) (a0 : Array Value) (hw : HW a0 Z) (ws : List Jvm.Cond) (a1 : Addr) (a2 : Addr) (h0 : Heap) (n0 : Nat) (Z0 : n0 ≤ h0.size) :
    MetFree l yM3 (head1 (Jvm.Cond.code yM3 jdk_31_method_11_code 2 (some (.object "java/lang/Object")) :: ws) ({ frames := 0, cells := 0, slots := 0, locals := 0 } : Room)) (fun a U => a = #[(.ref a1), (.ref a2)] ∧ Z.Warmed39 U.vm ∧ U.heap = h0) (fun _ _ _ _ _ => True) (fun _ U o U' => ∃ v L, o = .returned v ∧ Q11_1 Z a1 a2 h0 n0 v U'.heap L ∧ FrameEnd U o U' L ({ frames := 0, cells := 0, slots := 0, locals := 0 } : Room).cells ({ frames := 0, cells := 0, slots := 0, locals := 0 } : Room).slots) := by
  refine own_enter (n0 := n0) (plainFor_of_name pn11) (fun m => ef11_1 m a1 a2) ?_
  intro p e s m below meth c s₁ hx hby hml hown hnm hret hlk X0 e0 hZ hh N0
  show own_Fin p e below _ s₁ (mkF m 0 #[SR a1, SR a2] [])
  refine own_go (fun _ k => XS.aloadN X0.here hx rfl (hb hby d11_0) rfl rfl (XS.ifnonnullYes X0.here hx rfl (pc0 := 1) (pc' := 13) rfl (hb hby d11_1) rfl (by decide) (by decide) (XS.aloadN X0.here hx rfl (hb hby d11_13) rfl rfl k))) ?_
  show own_Fin p e below _ s₁ (mkF m 14 #[SR a1, SR a2] [VR a1])
  obtain ⟨fs, hr, hrun, hended, hW, hsame⟩ := X0.leave (v := some (.ref a1)) (fun h => by rw [hret] at h; cases h)
  refine own_end (retOut X0 hx hret rfl (Or.inr (Or.inr (Or.inr (Or.inr ⟨rfl, rfl, rfl⟩)))) (hb hby d11_14) hr) hrun hended ⟨_, _, rfl, ?_, ⟨_, rfl⟩, hW, hsame.mono (by decide) (by decide)⟩
  show Q11_1 Z a1 a2 h0 n0 _ s₁.heap _
  rw [e0]
  exact ⟨rfl, N0, rfl⟩
theorem ef12_1 (m : MethodId) (a1 : Addr) : entryFrame m #[(.ref a1)] 1 = mkF m 0 #[SR a1] [] := by first | (simp [entryFrame, mkF, argsToLocals, Value.category]; done) | rfl
def Q12_1 (Z : State) (a1 : Addr) (a2 : Addr) (k5 : ClassId) (p6 : Int32) (p7 : Int32) (h0 : Heap) (n0 : Nat) (v : Option Value) (h : Heap) (L : List Loc) : Prop := v = some (.int (0 : Int32)) ∧ Fr n0 L ∧ h = h0
set_option maxRecDepth 65536 in
set_option maxHeartbeats 40000000 in
theorem rm12_1 (l : Launch) (Z : State) (a0 : Array Value) (hw : HW a0 Z) (ws : List Jvm.Cond) (a1 : Addr) (a2 : Addr) (k5 : ClassId) (p6 : Int32) (p7 : Int32) (h0 : Heap) (n0 : Nat) (Z0 : n0 ≤ h0.size) (f3 : Fld Z h0 a1 cC0 "value" "[B" (VR a2)) (f8 : Arv Z h0 a2 k5 .byte 2 [VI p6, VI p7] (VI 0)) :
    MetFree l yM4 (head1 (Jvm.Cond.code yM4 jdk_42_method_55_code 1 (some .boolean) :: ws) ({ frames := 0, cells := 0, slots := 0, locals := 0 } : Room)) (fun a U => a = #[(.ref a1)] ∧ Z.Warmed39 U.vm ∧ U.heap = h0) (fun _ _ _ _ _ => True) (fun _ U o U' => ∃ v L, o = .returned v ∧ Q12_1 Z a1 a2 k5 p6 p7 h0 n0 v U'.heap L ∧ FrameEnd U o U' L ({ frames := 0, cells := 0, slots := 0, locals := 0 } : Room).cells ({ frames := 0, cells := 0, slots := 0, locals := 0 } : Room).slots) := by
  refine own_enter (n0 := n0) (plainFor_of_name pn2) (fun m => ef12_1 m a1) ?_
  intro p e s m below meth c s₁ hx hby hml hown hnm hret hlk X0 e0 hZ hh N0
  show own_Fin p e below _ s₁ (mkF m 0 #[SR a1] [])
  refine own_go (fun _ k => XS.aloadN X0.here hx rfl (hb hby d12_0) rfl rfl k) ?_
  show own_Fin p e below _ s₁ (mkF m 1 #[SR a1] [VR a1])
  obtain ⟨T4, X4, e4, st4⟩ := getF X0 hx hZ hown (host := "") (Or.inl (WW hw 32)) Via.refl e0 f3 (g := (mkF m 1 #[SR a1] [VR a1])) rfl rfl (hb hby d12_1)
  refine own_go st4 ?_
  show own_Fin p e below _ T4 (mkF m 4 #[SR a1] [VR a2])
  obtain ⟨cl9, Ar9, q9, Sz9, Nn9, Hs9, Gg9⟩ := id f8
  refine own_go (fun _ k => X4.arraylength hx (by rw [e4]; exact Ar9.1) (State.isArrayOf_alike hZ.alike Ar9.2.1) (g := (mkF m 4 #[SR a1] [VR a2])) rfl rfl (hb hby d12_4) _ k) ?_
  rw [len_of Sz9 Nn9]
  show own_Fin p e below _ T4 (mkF m 5 #[SR a1] [VI 2])
  refine own_go (fun _ k => XS.ifYes X4.here hx rfl (pc0 := 5) (pc' := 12) rfl (hb hby d12_5) rfl ((if0 _ _).trans (feq (by decide : ¬ ((2 : Int32) = (0 : Int32)))).2) (by decide) (by decide) (XS.iconst X4.here hx rfl (hb hby d12_12) k)) ?_
  show own_Fin p e below _ T4 (mkF m 13 #[SR a1] [VI 0])
  obtain ⟨fs, hr, hrun, hended, hW, hsame⟩ := X4.leave (v := some (.int (0 : Int32))) (fun h => by rw [hret] at h; cases h)
  refine own_end (retN X4 hx (t := .boolean) hret (by simp) (hb hby d12_13) hr) hrun hended ⟨_, _, rfl, ?_, ⟨_, rfl⟩, hW, hsame.mono (by decide) (by decide)⟩
  show Q12_1 Z a1 a2 k5 p6 p7 h0 n0 _ T4.heap _
  rw [e4]
  exact ⟨rfl, N0, rfl⟩
theorem ef9_1 (m : MethodId) (a1 : Addr) (a2 : Addr) (a3 : Addr) : entryFrame m #[(.ref a1), (.ref a2), (.ref a3), .null] 5 = mkF m 0 #[SR a1, SR a2, SR a3, SN, SU] [] := by first | (simp [entryFrame, mkF, argsToLocals, Value.category]; done) | rfl
def Q9_1 (Z : State) (a1 : Addr) (a2 : Addr) (a3 : Addr) (a10 : Addr) (k13 : ClassId) (p14 : Int32) (p15 : Int32) (a19 : Addr) (h0 : Heap) (n0 : Nat) (v : Option Value) (h : Heap) (L : List Loc) : Prop := v = none ∧ Fr n0 L ∧ Keep h0 h [a1] ∧ Exa Z h a1 cC2 ∧ Fld Z h a1 cC2 "outcome" cC3 (VR a2) ∧ Fld Z h a1 cC2 "transactionId" cC4 (VR a3) ∧ Fld Z h a1 cC2 "declineReason" cC4 (.null)
set_option maxRecDepth 65536 in
set_option maxHeartbeats 40000000 in
theorem rm9_1 (l : Launch) (Z : State) (a0 : Array Value) (hw : HW a0 Z) (ws : List Jvm.Cond) (a1 : Addr) (a2 : Addr) (a3 : Addr) (a10 : Addr) (k13 : ClassId) (p14 : Int32) (p15 : Int32) (a19 : Addr) (h0 : Heap) (n0 : Nat) (Z0 : n0 ≤ h0.size) (f8 : Exa Z h0 a3 cC0) (f11 : Fld Z h0 a3 cC0 "value" "[B" (VR a10)) (f16 : Arv Z h0 a10 k13 .byte 2 [VI p14, VI p15] (VI 0)) (f20 : Sta Z Z.heap "com/example/holdfast/holdfast/core/GatewayAnswer$Outcome" "DECLINED" "Lcom/example/holdfast/holdfast/core/GatewayAnswer$Outcome;" (.ref a19)) (f21 : Old Z n0 h0) (f24 : a2 ≠ a19) (f25 : Exa Z h0 a1 cC2) (f27 : Fld Z h0 a1 cC2 "outcome" cC3 (.null)) (f30 : n0 ≤ a1) (f32 : Fld Z h0 a1 cC2 "transactionId" cC4 (.null)) (f36 : Fld Z h0 a1 cC2 "declineReason" cC4 (.null)) :
    MetFree l yM5 (head1 (Jvm.Cond.code yM5 prog_1_method_1_code 5 none :: ws) ({ frames := 2, cells := 2, slots := 32, locals := 24 } : Room)) (fun a U => a = #[(.ref a1), (.ref a2), (.ref a3), .null] ∧ Z.Warmed39 U.vm ∧ U.heap = h0) (fun _ _ _ _ _ => True) (fun _ U o U' => ∃ v L, o = .returned v ∧ Q9_1 Z a1 a2 a3 a10 k13 p14 p15 a19 h0 n0 v U'.heap L ∧ ReturnedEndW U o U' L ({ frames := 2, cells := 2, slots := 32, locals := 24 } : Room).cells ({ frames := 2, cells := 2, slots := 32, locals := 24 } : Room).slots) := by
  refine own_enter (n0 := n0) (plainFor_of_name pn8) (fun m => ef9_1 m a1 a2 a3) ?_
  intro p e s m below meth c s₁ hx hby hml hown hnm hret hlk XY0 e0 hZ hh N0
  have X0 : Stand p l e ({ frames := 2, cells := 2, slots := 32, locals := 24 } : Room) (s.setVm s.vm) m _ below meth c s₁ [] 0 0 := XY0
  have hS0 : s.Since s.vm h0.size := (State.WarmedH.refl s).since _
  have hk0 : h0.size ≤ h0.size := Nat.le_refl _
  show own_Fin p e below _ s₁ (mkF m 0 #[SR a1, SR a2, SR a3, SN, SU] [])
  refine own_go (fun _ k => XS.aloadN X0.here hx rfl (hb hby d9_0) rfl rfl k) ?_
  show own_Fin p e below _ s₁ (mkF m 1 #[SR a1, SR a2, SR a3, SN, SU] [VR a1])
  obtain ⟨_, T4, L4, X4, hQ4, st4⟩ := own_cI X0 hx hZ hown (WW hw 46) (WW hw 47) (WW hw 49) (WW hw 50) (rm10_1 l Z a0 hw [] a1 h0 n0 Z0 ) e0 hml (g := (mkF m 1 #[SR a1, SR a2, SR a3, SN, SU] [VR a1])) pd2 (hb hby d9_1) a1 [] [] (W := 0)
  obtain ⟨rfl, N4q, e4⟩ := hQ4
  have N4 := Fr.app N0 N4q
  refine own_go st4 ?_
  show own_Fin p e below _ T4 (mkF m 4 #[SR a1, SR a2, SR a3, SN, SU] [])
  refine own_go (fun _ k => XS.aloadN X4.here hx rfl (hb hby d9_4) rfl rfl k) ?_
  show own_Fin p e below _ T4 (mkF m 5 #[SR a1, SR a2, SR a3, SN, SU] [VR a2])
  have wS : ∀ d ∈ Bundle.stringAtoms, d.before a0 Z = true := fun d hd => hw d ((by decide +kernel : ∀ d ∈ Bundle.stringAtoms, d ∈ tables_1) d hd)
  obtain ⟨a5, T5, h5, k5, X5, e5, E5, hS5, hk5, hZ5, ho5, st5⟩ := ldcS (vm0 := (s.setVm s.vm).vm) X4 hx hZ hown (WW hw 52) wS e4 hS0 hk0 (g := (mkF m 5 #[SR a1, SR a2, SR a3, SN, SU] [VR a2])) rfl (hb hby d9_5) (n := 28) (by decide) (by decide) (by decide) (by decide)
  refine own_go st5 ?_
  show own_Fin p e below _ T5 (mkF m 7 #[SR a1, SR a2, SR a3, SN, SU] [VR a5, VR a2])
  have z7 : h0.size ≤ h5.size := E5.1
  obtain ⟨_, T6, L6, X6, hQ6, st6⟩ := own_cS X5 hx hZ5 ho5 (WW hw 55) (WW hw 56) (WW hw 57) (WW hw 58) (rm11_1 l Z a0 hw [] a2 a5 h5 n0 (Nat.le_trans Z0 z7) ) e5 hml (g := (mkF m 7 #[SR a1, SR a2, SR a3, SN, SU] [VR a5, VR a2])) pd3 (hb hby d9_7) [VR a2, VR a5] [] (W := 0)
  obtain ⟨rfl, N6q, e6⟩ := hQ6
  have N6 := Fr.app N4 N6q
  refine own_go st6 ?_
  show own_Fin p e below _ T6 (mkF m 10 #[SR a1, SR a2, SR a3, SN, SU] [VR a2])
  refine own_go (fun _ k => XS.pop X6.here hx rfl (hb hby d9_10) rfl rfl (XS.aloadN X6.here hx rfl (hb hby d9_11) rfl rfl (XS.ifnullNo X6.here hx rfl (hb hby d9_12) rfl (XS.aloadN X6.here hx rfl (hb hby d9_15) rfl rfl k)))) ?_
  show own_Fin p e below _ T6 (mkF m 16 #[SR a1, SR a2, SR a3, SN, SU] [VR a3])
  have F9 : Exa Z h5 a3 cC0 := (f8.ext E5)
  have F12 : Fld Z h5 a3 cC0 "value" "[B" (VR a10) := (f11.ext E5)
  have F17 : Arv Z h5 a10 k13 .byte 2 [VI p14, VI p15] (VI 0) := (f16.ext E5)
  obtain ⟨_, T18, L18, X18, hQ18, st18⟩ := own_cV X6 hx hZ5 ho5 (WW hw 59) (WW hw 60) (notFace_of_selects (args := #[]) (mvT hZ5 (WW hw 62))) (WW hw 62) (WW hw 61) (WW hw 7) (WW hw 63) (rm12_1 l Z a0 hw [] a3 a10 k13 p14 p15 h5 n0 (Nat.le_trans Z0 z7) F12 F17) e6 F9 hml (g := (mkF m 16 #[SR a1, SR a2, SR a3, SN, SU] [VR a3])) pd4 (hb hby d9_16) [] [] (W := 0)
  obtain ⟨rfl, N18q, e18⟩ := hQ18
  have N18 := Fr.app N6 N18q
  refine own_go st18 ?_
  show own_Fin p e below _ T18 (mkF m 19 #[SR a1, SR a2, SR a3, SN, SU] [VI 0])
  refine own_go (fun _ k => XS.ifYes X18.here hx rfl (pc0 := 19) (pc' := 32) rfl (hb hby d9_19) rfl ((if0 _ _).trans (teq (by decide : (0 : Int32) = (0 : Int32))).1) (by decide) (by decide) (XS.aloadN X18.here hx rfl (hb hby d9_32) rfl rfl k)) ?_
  show own_Fin p e below _ T18 (mkF m 33 #[SR a1, SR a2, SR a3, SN, SU] [VR a2])
  have O22 : Old Z n0 h5 := (f21.ext E5)
  obtain ⟨T23, X23, e23, st23⟩ := getS2 X18 hx hZ5 ho5 (host := "") (Or.inl (WW hw 64)) Via.refl e18 (f20.ext O22.2) (g := (mkF m 33 #[SR a1, SR a2, SR a3, SN, SU] [VR a2])) rfl (hb hby d9_33)
  refine own_go st23 ?_
  show own_Fin p e below _ T23 (mkF m 36 #[SR a1, SR a2, SR a3, SN, SU] [VR a19, VR a2])
  refine own_go (fun _ k => Jvm.RoadKit.acmp (g := (mkF m 36 #[SR a1, SR a2, SR a3, SN, SU] [VR a19, VR a2])) X23 hx rfl rfl rfl (pc0 := 36) (pc' := 43) (same := false) rfl (hb hby d9_36) rfl (decide_eq_false fun q => f24 (Value.ref.inj q)) (by decide) (by decide) (XS.iconst X23.here hx rfl (hb hby d9_43) (XS.istore X23.here hx rfl (hb hby d9_44) rfl (l' := #[SR a1, SR a2, SR a3, SN, SI 0]) rfl (XS.iload X23.here hx rfl (hb hby d9_46) rfl (XS.aloadN X23.here hx rfl (hb hby d9_48) rfl rfl (XS.ifnullYes X23.here hx rfl (pc0 := 49) (pc' := 63) rfl (hb hby d9_49) rfl (by decide) (by decide) (XS.iconst X23.here hx rfl (hb hby d9_63) (XS.icmpYes X23.here hx rfl (pc0 := 64) (pc' := 77) rfl (hb hby d9_64) rfl (teq (by decide : (0 : Int32) = (0 : Int32))).1 (by decide) (by decide) (XS.aloadN X23.here hx rfl (hb hby d9_77) rfl rfl (XS.aloadN X23.here hx rfl (hb hby d9_78) rfl rfl k)))))))))) ?_
  show own_Fin p e below _ T23 (mkF m 79 #[SR a1, SR a2, SR a3, SN, SI 0] [VR a2, VR a1])
  have F26 : Exa Z h5 a1 cC2 := (f25.ext E5)
  have F28 : Fld Z h5 a1 cC2 "outcome" cC3 (.null) := (f27.ext E5)
  obtain ⟨T29, h29, X29, e29, W29, st29⟩ := putF X23 hx hZ5 ho5 (host := "") (Or.inl (WW hw 66)) Via.refl e23 F28 F26 (Or.inr ⟨(WW hw 67), rfl, hnm⟩) (WW hw 39) (ty := (.object "com/example/holdfast/holdfast/core/GatewayAnswer$Outcome")) (by decide) rfl rfl (g := (mkF m 79 #[SR a1, SR a2, SR a3, SN, SI 0] [VR a2, VR a1])) rfl rfl (hb hby d9_79)
  have N29 := Fr.snoc X29 N18 f30
  have Fw29 : Fld Z h29 a1 cC2 "outcome" cC3 (VR a2) := F28.same W29
  refine own_go st29 ?_
  show own_Fin p e below _ T29 (mkF m 82 #[SR a1, SR a2, SR a3, SN, SI 0] [])
  refine own_go (fun _ k => XS.aloadN X29.here hx rfl (hb hby d9_82) rfl rfl (XS.aloadN X29.here hx rfl (hb hby d9_83) rfl rfl k)) ?_
  show own_Fin p e below _ T29 (mkF m 84 #[SR a1, SR a2, SR a3, SN, SI 0] [VR a3, VR a1])
  have F31 : Exa Z h29 a1 cC2 := (F26.wr W29)
  have F33 : Fld Z h29 a1 cC2 "transactionId" cC4 (.null) := ((f32.ext E5).other W29 (Or.inr (slot_ne (Or.inr (WW hw 69)) (Or.inr (WW hw 67)) (by decide) (t := (.object "java/lang/String")) (t' := (.object "com/example/holdfast/holdfast/core/GatewayAnswer$Outcome")) (by decide) (by decide))))
  obtain ⟨T34, h34, X34, e34, W34, st34⟩ := putF X29 hx hZ5 ho5 (host := "") (Or.inl (WW hw 68)) Via.refl e29 F33 F31 (Or.inr ⟨(WW hw 69), rfl, hnm⟩) (WW hw 39) (ty := (.object "java/lang/String")) (by decide) rfl rfl (g := (mkF m 84 #[SR a1, SR a2, SR a3, SN, SI 0] [VR a3, VR a1])) rfl rfl (hb hby d9_84)
  have N34 := Fr.snoc X34 N29 f30
  have Fw34 : Fld Z h34 a1 cC2 "transactionId" cC4 (VR a3) := F33.same W34
  refine own_go st34 ?_
  show own_Fin p e below _ T34 (mkF m 87 #[SR a1, SR a2, SR a3, SN, SI 0] [])
  refine own_go (fun _ k => XS.aloadN X34.here hx rfl (hb hby d9_87) rfl rfl (XS.aloadN X34.here hx rfl (hb hby d9_88) rfl rfl k)) ?_
  show own_Fin p e below _ T34 (mkF m 89 #[SR a1, SR a2, SR a3, SN, SI 0] [.null, VR a1])
  have F35 : Exa Z h34 a1 cC2 := (F31.wr W34)
  have F37 : Fld Z h34 a1 cC2 "declineReason" cC4 (.null) := (((f36.ext E5).other W29 (Or.inr (slot_ne (Or.inr (WW hw 71)) (Or.inr (WW hw 67)) (by decide) (t := (.object "java/lang/String")) (t' := (.object "com/example/holdfast/holdfast/core/GatewayAnswer$Outcome")) (by decide) (by decide)))).other W34 (Or.inr (slot_ne (Or.inr (WW hw 71)) (Or.inr (WW hw 69)) (by decide) (t := (.object "java/lang/String")) (t' := (.object "java/lang/String")) (by decide) (by decide))))
  obtain ⟨T38, h38, X38, e38, W38, st38⟩ := putF X34 hx hZ5 ho5 (host := "") (Or.inl (WW hw 70)) Via.refl e34 F37 F35 (Or.inr ⟨(WW hw 71), rfl, hnm⟩) (WW hw 39) (ty := (.object "java/lang/String")) (by decide) rfl rfl (g := (mkF m 89 #[SR a1, SR a2, SR a3, SN, SI 0] [.null, VR a1])) rfl rfl (hb hby d9_89)
  have N38 := Fr.snoc X38 N34 f30
  have Fw38 : Fld Z h38 a1 cC2 "declineReason" cC4 (.null) := F37.same W38
  refine own_go st38 ?_
  show own_Fin p e below _ T38 (mkF m 92 #[SR a1, SR a2, SR a3, SN, SI 0] [])
  have F39 : Exa Z h38 a1 cC2 := (F35.wr W38)
  have F40 : Fld Z h38 a1 cC2 "outcome" cC3 (VR a2) := ((Fw29.other W34 (Or.inr (slot_ne (Or.inr (WW hw 67)) (Or.inr (WW hw 69)) (by decide) (t := (.object "com/example/holdfast/holdfast/core/GatewayAnswer$Outcome")) (t' := (.object "java/lang/String")) (by decide) (by decide)))).other W38 (Or.inr (slot_ne (Or.inr (WW hw 67)) (Or.inr (WW hw 71)) (by decide) (t := (.object "com/example/holdfast/holdfast/core/GatewayAnswer$Outcome")) (t' := (.object "java/lang/String")) (by decide) (by decide))))
  have F41 : Fld Z h38 a1 cC2 "transactionId" cC4 (VR a3) := (Fw34.other W38 (Or.inr (slot_ne (Or.inr (WW hw 69)) (Or.inr (WW hw 71)) (by decide) (t := (.object "java/lang/String")) (t' := (.object "java/lang/String")) (by decide) (by decide))))
  have K42 : Keep h0 h38 [a1] := (((((Keep.refl h0 [a1]).ext E5).wr W29 (Or.inl (List.mem_of_getElem? (i := 0) rfl))).wr W34 (Or.inl (List.mem_of_getElem? (i := 0) rfl))).wr W38 (Or.inl (List.mem_of_getElem? (i := 0) rfl)))
  have z43 : h5.size ≤ h29.size := (Nat.le_of_eq (Wr.size W29).symm)
  have z44 : h5.size ≤ h34.size := Nat.le_trans z43 (Nat.le_of_eq (Wr.size W34).symm)
  have z45 : h5.size ≤ h38.size := Nat.le_trans z44 (Nat.le_of_eq (Wr.size W38).symm)
  obtain ⟨fs, hr, hrun, hended, hend⟩ := Jvm.Stand.leaveW X38 hS5 (by rw [e38]; exact (Nat.le_trans hk5 z45)) (v := none) (fun _ => rfl)
  refine own_end (X38.returnOut hx hret (hb hby d9_92) hr) hrun hended ⟨_, _, rfl, ?_, hend.1, hend.2.1, hend.2.2.1, hend.2.2.2.mono (by decide) (by decide)⟩
  show Q9_1 Z a1 a2 a3 a10 k13 p14 p15 a19 h0 n0 _ T38.heap _
  rw [e38]
  exact ⟨rfl, N38, K42, F39, F40, F41, Fw38⟩
theorem ef8_1 (m : MethodId) (a1 : Addr) : entryFrame m #[(.ref a1)] 1 = mkF m 0 #[SR a1] [] := by first | (simp [entryFrame, mkF, argsToLocals, Value.category]; done) | rfl
def Q8_1 (Z : State) (a1 : Addr) (a6 : Addr) (a13 : Addr) (k16 : ClassId) (p17 : Int32) (p18 : Int32) (a21 : Addr) (h0 : Heap) (n0 : Nat) (v : Option Value) (h : Heap) (L : List Loc) : Prop := ∃ (b2 : Addr), v = some (.ref b2) ∧ Fr n0 L ∧ Keep h0 h [] ∧ h0.size ≤ b2 ∧ Exa Z h b2 cC2 ∧ Fld Z h b2 cC2 "outcome" cC3 (VR a6) ∧ Fld Z h b2 cC2 "transactionId" cC4 (VR a1) ∧ Fld Z h b2 cC2 "declineReason" cC4 (.null)
set_option maxRecDepth 65536 in
set_option maxHeartbeats 40000000 in
theorem rm8_1 (l : Launch) (Z : State) (a0 : Array Value) (hw : HW a0 Z) (ws : List Jvm.Cond) (a1 : Addr) (a6 : Addr) (a13 : Addr) (k16 : ClassId) (p17 : Int32) (p18 : Int32) (a21 : Addr) (h0 : Heap) (n0 : Nat) (Z0 : n0 ≤ h0.size) (f7 : Sta Z Z.heap "com/example/holdfast/holdfast/core/GatewayAnswer$Outcome" "PENDING" "Lcom/example/holdfast/holdfast/core/GatewayAnswer$Outcome;" (.ref a6)) (f8 : Old Z n0 h0) (f11 : Exa Z h0 a1 cC0) (f14 : Fld Z h0 a1 cC0 "value" "[B" (VR a13)) (f19 : Arv Z h0 a13 k16 .byte 2 [VI p17, VI p18] (VI 0)) (f22 : Sta Z Z.heap "com/example/holdfast/holdfast/core/GatewayAnswer$Outcome" "DECLINED" "Lcom/example/holdfast/holdfast/core/GatewayAnswer$Outcome;" (.ref a21)) (f23 : a6 ≠ a21) :
    MetFree l yM6 (head1 (Jvm.Cond.code yM6 prog_1_method_4_code 1 (some (.object "com/example/holdfast/holdfast/core/GatewayAnswer")) :: ws) ({ frames := 3, cells := 3, slots := 35, locals := 41 } : Room)) (fun a U => a = #[(.ref a1)] ∧ Z.Warmed39 U.vm ∧ U.heap = h0) (fun _ _ _ _ _ => True) (fun _ U o U' => ∃ v L, o = .returned v ∧ Q8_1 Z a1 a6 a13 k16 p17 p18 a21 h0 n0 v U'.heap L ∧ ReturnedEndW U o U' L ({ frames := 3, cells := 3, slots := 35, locals := 41 } : Room).cells ({ frames := 3, cells := 3, slots := 35, locals := 41 } : Room).slots) := by
  refine own_enter (n0 := n0) (plainFor_of_name pn8) (fun m => ef8_1 m a1) ?_
  intro p e s m below meth c s₁ hx hby hml hown hnm hret hlk XY0 e0 hZ hh N0
  have X0 : Stand p l e ({ frames := 3, cells := 3, slots := 35, locals := 41 } : Room) (s.setVm s.vm) m _ below meth c s₁ [] 0 0 := XY0
  have hS0 : s.Since s.vm h0.size := (State.WarmedH.refl s).since _
  have hk0 : h0.size ≤ h0.size := Nat.le_refl _
  show own_Fin p e below _ s₁ (mkF m 0 #[SR a1] [])
  obtain ⟨T2, h2, X2, e2, E2, A2, D2, -, st2⟩ := newO X0 hx hZ hown (WW hw 38) (WW hw 39) (WW hw 36) e0 (g := (mkF m 0 #[SR a1] [])) rfl (hb hby d8_0) (by decide) (by decide)
  obtain ⟨b2, g2⟩ : ∃ z, z = h0.size := ⟨_, rfl⟩
  rw [← g2] at A2 D2 st2
  have F3 : Fld Z h2 b2 cC2 "outcome" cC3 (.null) := D2 (Or.inr (WW hw 67)) (ty := (.object "com/example/holdfast/holdfast/core/GatewayAnswer$Outcome")) (by decide)
  have F4 : Fld Z h2 b2 cC2 "transactionId" cC4 (.null) := D2 (Or.inr (WW hw 69)) (ty := (.object "java/lang/String")) (by decide)
  have F5 : Fld Z h2 b2 cC2 "declineReason" cC4 (.null) := D2 (Or.inr (WW hw 71)) (ty := (.object "java/lang/String")) (by decide)
  refine own_go st2 ?_
  show own_Fin p e below _ T2 (mkF m 3 #[SR a1] [VR b2])
  refine own_go (fun _ k => XS.dup X2.here hx rfl (hb hby d8_3) rfl rfl k) ?_
  show own_Fin p e below _ T2 (mkF m 4 #[SR a1] [VR b2, VR b2])
  have O9 : Old Z n0 h2 := (f8.ext E2)
  obtain ⟨T10, X10, e10, st10⟩ := getS2 X2 hx hZ hown (host := "") (Or.inl (WW hw 40)) Via.refl e2 (f7.ext O9.2) (g := (mkF m 4 #[SR a1] [VR b2, VR b2])) rfl (hb hby d8_4)
  refine own_go st10 ?_
  show own_Fin p e below _ T10 (mkF m 7 #[SR a1] [VR a6, VR b2, VR b2])
  refine own_go (fun _ k => XS.aloadN X10.here hx rfl (hb hby d8_7) rfl rfl (XS.aconstNull X10.here hx rfl (hb hby d8_8) k)) ?_
  show own_Fin p e below _ T10 (mkF m 9 #[SR a1] [.null, VR a1, VR a6, VR b2, VR b2])
  have F12 : Exa Z h2 a1 cC0 := (f11.ext E2)
  have F15 : Fld Z h2 a1 cC0 "value" "[B" (VR a13) := (f14.ext E2)
  have F20 : Arv Z h2 a13 k16 .byte 2 [VI p17, VI p18] (VI 0) := (f19.ext E2)
  have u25 : n0 ≤ b2 := Nat.le_trans Z0 (Nat.le_of_eq g2.symm)
  have z26 : h0.size ≤ h2.size := E2.1
  obtain ⟨_, T24, L24, X24, hQ24, hS24, hZ24, ho24, st24⟩ := own_cIW (vm0 := (s.setVm s.vm).vm) X10 hx hZ hown hS0 (Nat.le_trans hk0 z26) (WW hw 43) (WW hw 44) (WW hw 36) (WW hw 45) (rm9_1 l Z a0 hw [] b2 a6 a1 a13 k16 p17 p18 a21 h2 n0 (Nat.le_trans Z0 z26) F12 F15 F20 f22 O9 f23 A2 F3 u25 F4 F5) e10 hml (g := (mkF m 9 #[SR a1] [.null, VR a1, VR a6, VR b2, VR b2])) pd5 (hb hby d8_9) b2 [VR a6, VR a1, .null] [VR b2] (W := 1)
  obtain ⟨rfl, N24q, K24, o0_24, o1_24, o2_24, o3_24⟩ := hQ24
  have N24 := Fr.app N0 N24q
  refine own_go st24 ?_
  show own_Fin p e below _ T24 (mkF m 12 #[SR a1] [VR b2])
  have K27 : Keep h0 T24.heap [] := (((Keep.refl h0 []).ext E2).trans K24 (allS (Or.inr (Nat.le_of_eq g2.symm)) all0))
  obtain ⟨fs, hr, hrun, hended, hend⟩ := Jvm.Stand.leaveW X24 hS24 (Nat.le_refl _) (v := some (.ref b2)) (fun h => by rw [hret] at h; cases h)
  refine own_end (retOut X24 hx hret rfl (Or.inr (Or.inr (Or.inr (Or.inr ⟨rfl, rfl, rfl⟩)))) (hb hby d8_12) hr) hrun hended ⟨_, _, rfl, ?_, hend.1, hend.2.1, hend.2.2.1, hend.2.2.2.mono (by decide) (by decide)⟩
  show Q8_1 Z a1 a6 a13 k16 p17 p18 a21 h0 n0 _ T24.heap _
  exact ⟨b2, rfl, N24, K27, (Nat.le_of_eq g2.symm), o0_24, o1_24, o2_24, o3_24⟩
theorem ef13_1 (m : MethodId) (a1 : Addr) : entryFrame m #[(.ref a1)] 1 = mkF m 0 #[SR a1] [] := by first | (simp [entryFrame, mkF, argsToLocals, Value.category]; done) | rfl
def Q13_1 (Z : State) (a1 : Addr) (a2 : Addr) (h0 : Heap) (n0 : Nat) (v : Option Value) (h : Heap) (L : List Loc) : Prop := v = some (.ref a2) ∧ Fr n0 L ∧ h = h0
set_option maxRecDepth 65536 in
set_option maxHeartbeats 40000000 in
theorem rm13_1 (l : Launch) (Z : State) (a0 : Array Value) (hw : HW a0 Z) (ws : List Jvm.Cond) (a1 : Addr) (a2 : Addr) (h0 : Heap) (n0 : Nat) (Z0 : n0 ≤ h0.size) (f3 : Fld Z h0 a1 cC2 "outcome" cC3 (VR a2)) :
    MetFree l yM7 (head1 (Jvm.Cond.code yM7 prog_1_method_8_code 1 (some (.object "com/example/holdfast/holdfast/core/GatewayAnswer$Outcome")) :: ws) ({ frames := 0, cells := 0, slots := 0, locals := 0 } : Room)) (fun a U => a = #[(.ref a1)] ∧ Z.Warmed39 U.vm ∧ U.heap = h0) (fun _ _ _ _ _ => True) (fun _ U o U' => ∃ v L, o = .returned v ∧ Q13_1 Z a1 a2 h0 n0 v U'.heap L ∧ FrameEnd U o U' L ({ frames := 0, cells := 0, slots := 0, locals := 0 } : Room).cells ({ frames := 0, cells := 0, slots := 0, locals := 0 } : Room).slots) := by
  refine own_enter (n0 := n0) (plainFor_of_name pn8) (fun m => ef13_1 m a1) ?_
  intro p e s m below meth c s₁ hx hby hml hown hnm hret hlk X0 e0 hZ hh N0
  show own_Fin p e below _ s₁ (mkF m 0 #[SR a1] [])
  refine own_go (fun _ k => XS.aloadN X0.here hx rfl (hb hby d13_0) rfl rfl k) ?_
  show own_Fin p e below _ s₁ (mkF m 1 #[SR a1] [VR a1])
  obtain ⟨T4, X4, e4, st4⟩ := getF X0 hx hZ hown (host := "") (Or.inl (WW hw 66)) Via.refl e0 f3 (g := (mkF m 1 #[SR a1] [VR a1])) rfl rfl (hb hby d13_1)
  refine own_go st4 ?_
  show own_Fin p e below _ T4 (mkF m 4 #[SR a1] [VR a2])
  obtain ⟨fs, hr, hrun, hended, hW, hsame⟩ := X4.leave (v := some (.ref a2)) (fun h => by rw [hret] at h; cases h)
  refine own_end (retOut X4 hx hret rfl (Or.inr (Or.inr (Or.inr (Or.inr ⟨rfl, rfl, rfl⟩)))) (hb hby d13_4) hr) hrun hended ⟨_, _, rfl, ?_, ⟨_, rfl⟩, hW, hsame.mono (by decide) (by decide)⟩
  show Q13_1 Z a1 a2 h0 n0 _ T4.heap _
  rw [e4]
  exact ⟨rfl, N0, rfl⟩
theorem ef14_1 (m : MethodId) (a1 : Addr) : entryFrame m #[(.ref a1)] 1 = mkF m 0 #[SR a1] [] := by first | (simp [entryFrame, mkF, argsToLocals, Value.category]; done) | rfl
def Q14_1 (Z : State) (a1 : Addr) (a2 : Addr) (h0 : Heap) (n0 : Nat) (v : Option Value) (h : Heap) (L : List Loc) : Prop := v = some (.ref a2) ∧ Fr n0 L ∧ h = h0
set_option maxRecDepth 65536 in
set_option maxHeartbeats 40000000 in
theorem rm14_1 (l : Launch) (Z : State) (a0 : Array Value) (hw : HW a0 Z) (ws : List Jvm.Cond) (a1 : Addr) (a2 : Addr) (h0 : Heap) (n0 : Nat) (Z0 : n0 ≤ h0.size) (f3 : Fld Z h0 a1 cC2 "transactionId" cC4 (VR a2)) :
    MetFree l yM8 (head1 (Jvm.Cond.code yM8 prog_1_method_9_code 1 (some (.object "java/lang/String")) :: ws) ({ frames := 0, cells := 0, slots := 0, locals := 0 } : Room)) (fun a U => a = #[(.ref a1)] ∧ Z.Warmed39 U.vm ∧ U.heap = h0) (fun _ _ _ _ _ => True) (fun _ U o U' => ∃ v L, o = .returned v ∧ Q14_1 Z a1 a2 h0 n0 v U'.heap L ∧ FrameEnd U o U' L ({ frames := 0, cells := 0, slots := 0, locals := 0 } : Room).cells ({ frames := 0, cells := 0, slots := 0, locals := 0 } : Room).slots) := by
  refine own_enter (n0 := n0) (plainFor_of_name pn8) (fun m => ef14_1 m a1) ?_
  intro p e s m below meth c s₁ hx hby hml hown hnm hret hlk X0 e0 hZ hh N0
  show own_Fin p e below _ s₁ (mkF m 0 #[SR a1] [])
  refine own_go (fun _ k => XS.aloadN X0.here hx rfl (hb hby d14_0) rfl rfl k) ?_
  show own_Fin p e below _ s₁ (mkF m 1 #[SR a1] [VR a1])
  obtain ⟨T4, X4, e4, st4⟩ := getF X0 hx hZ hown (host := "") (Or.inl (WW hw 68)) Via.refl e0 f3 (g := (mkF m 1 #[SR a1] [VR a1])) rfl rfl (hb hby d14_1)
  refine own_go st4 ?_
  show own_Fin p e below _ T4 (mkF m 4 #[SR a1] [VR a2])
  obtain ⟨fs, hr, hrun, hended, hW, hsame⟩ := X4.leave (v := some (.ref a2)) (fun h => by rw [hret] at h; cases h)
  refine own_end (retOut X4 hx hret rfl (Or.inr (Or.inr (Or.inr (Or.inr ⟨rfl, rfl, rfl⟩)))) (hb hby d14_4) hr) hrun hended ⟨_, _, rfl, ?_, ⟨_, rfl⟩, hW, hsame.mono (by decide) (by decide)⟩
  show Q14_1 Z a1 a2 h0 n0 _ T4.heap _
  rw [e4]
  exact ⟨rfl, N0, rfl⟩
theorem ef15_1 (m : MethodId) (a1 : Addr) : entryFrame m #[(.ref a1), (.ref a1)] 3 = mkF m 0 #[SR a1, SR a1, SU] [] := by first | (simp [entryFrame, mkF, argsToLocals, Value.category]; done) | rfl
def Q15_1 (Z : State) (a1 : Addr) (h0 : Heap) (n0 : Nat) (v : Option Value) (h : Heap) (L : List Loc) : Prop := v = some (.int (1 : Int32)) ∧ Fr n0 L ∧ h = h0
set_option maxRecDepth 65536 in
set_option maxHeartbeats 40000000 in
theorem rm15_1 (l : Launch) (Z : State) (a0 : Array Value) (hw : HW a0 Z) (ws : List Jvm.Cond) (a1 : Addr) (h0 : Heap) (n0 : Nat) (Z0 : n0 ≤ h0.size) :
    MetFree l yM9 (head1 (Jvm.Cond.code yM9 jdk_42_method_66_code 3 (some .boolean) :: ws) ({ frames := 0, cells := 0, slots := 0, locals := 0 } : Room)) (fun a U => a = #[(.ref a1), (.ref a1)] ∧ Z.Warmed39 U.vm ∧ U.heap = h0) (fun _ _ _ _ _ => True) (fun _ U o U' => ∃ v L, o = .returned v ∧ Q15_1 Z a1 h0 n0 v U'.heap L ∧ FrameEnd U o U' L ({ frames := 0, cells := 0, slots := 0, locals := 0 } : Room).cells ({ frames := 0, cells := 0, slots := 0, locals := 0 } : Room).slots) := by
  refine own_enter (n0 := n0) (plainFor_of_name pn2) (fun m => ef15_1 m a1) ?_
  intro p e s m below meth c s₁ hx hby hml hown hnm hret hlk X0 e0 hZ hh N0
  show own_Fin p e below _ s₁ (mkF m 0 #[SR a1, SR a1, SU] [])
  refine own_go (fun _ k => XS.aloadN X0.here hx rfl (hb hby d15_0) rfl rfl (XS.aloadN X0.here hx rfl (hb hby d15_1) rfl rfl (Jvm.RoadKit.acmp (g := (mkF m 2 #[SR a1, SR a1, SU] [VR a1, VR a1])) X0 hx rfl rfl rfl (pc0 := 2) (pc' := 5) (same := true) rfl (hb hby d15_2) rfl (decide_eq_true rfl) (by decide) (by decide) (XS.iconst X0.here hx rfl (hb hby d15_5) k)))) ?_
  show own_Fin p e below _ s₁ (mkF m 6 #[SR a1, SR a1, SU] [VI 1])
  obtain ⟨fs, hr, hrun, hended, hW, hsame⟩ := X0.leave (v := some (.int (1 : Int32))) (fun h => by rw [hret] at h; cases h)
  refine own_end (retN X0 hx (t := .boolean) hret (by simp) (hb hby d15_6) hr) hrun hended ⟨_, _, rfl, ?_, ⟨_, rfl⟩, hW, hsame.mono (by decide) (by decide)⟩
  show Q15_1 Z a1 h0 n0 _ s₁.heap _
  rw [e0]
  exact ⟨rfl, N0, rfl⟩
theorem ef16_1 (m : MethodId) (a1 : Addr) : entryFrame m #[(.ref a1)] 1 = mkF m 0 #[SR a1] [] := by first | (simp [entryFrame, mkF, argsToLocals, Value.category]; done) | rfl
def Q16_1 (Z : State) (a1 : Addr) (h0 : Heap) (n0 : Nat) (v : Option Value) (h : Heap) (L : List Loc) : Prop := v = some .null ∧ Fr n0 L ∧ h = h0
set_option maxRecDepth 65536 in
set_option maxHeartbeats 40000000 in
theorem rm16_1 (l : Launch) (Z : State) (a0 : Array Value) (hw : HW a0 Z) (ws : List Jvm.Cond) (a1 : Addr) (h0 : Heap) (n0 : Nat) (Z0 : n0 ≤ h0.size) (f2 : Fld Z h0 a1 cC2 "declineReason" cC4 (.null)) :
    MetFree l yM10 (head1 (Jvm.Cond.code yM10 prog_1_method_10_code 1 (some (.object "java/lang/String")) :: ws) ({ frames := 0, cells := 0, slots := 0, locals := 0 } : Room)) (fun a U => a = #[(.ref a1)] ∧ Z.Warmed39 U.vm ∧ U.heap = h0) (fun _ _ _ _ _ => True) (fun _ U o U' => ∃ v L, o = .returned v ∧ Q16_1 Z a1 h0 n0 v U'.heap L ∧ FrameEnd U o U' L ({ frames := 0, cells := 0, slots := 0, locals := 0 } : Room).cells ({ frames := 0, cells := 0, slots := 0, locals := 0 } : Room).slots) := by
  refine own_enter (n0 := n0) (plainFor_of_name pn8) (fun m => ef16_1 m a1) ?_
  intro p e s m below meth c s₁ hx hby hml hown hnm hret hlk X0 e0 hZ hh N0
  show own_Fin p e below _ s₁ (mkF m 0 #[SR a1] [])
  refine own_go (fun _ k => XS.aloadN X0.here hx rfl (hb hby d16_0) rfl rfl k) ?_
  show own_Fin p e below _ s₁ (mkF m 1 #[SR a1] [VR a1])
  obtain ⟨T3, X3, e3, st3⟩ := getF X0 hx hZ hown (host := "") (Or.inl (WW hw 70)) Via.refl e0 f2 (g := (mkF m 1 #[SR a1] [VR a1])) rfl rfl (hb hby d16_1)
  refine own_go st3 ?_
  show own_Fin p e below _ T3 (mkF m 4 #[SR a1] [.null])
  obtain ⟨fs, hr, hrun, hended, hW, hsame⟩ := X3.leave (v := some .null) (fun h => by rw [hret] at h; cases h)
  refine own_end (retOut X3 hx hret rfl (Or.inr (Or.inr (Or.inr (Or.inr ⟨rfl, rfl, rfl⟩)))) (hb hby d16_4) hr) hrun hended ⟨_, _, rfl, ?_, ⟨_, rfl⟩, hW, hsame.mono (by decide) (by decide)⟩
  show Q16_1 Z a1 h0 n0 _ T3.heap _
  rw [e3]
  exact ⟨rfl, N0, rfl⟩
theorem ef1_2 (m : MethodId) (p1 : Int32) (p2 : Int32) (p3 : Int32) (p4 : Int32) : entryFrame m #[(.int p1), (.int p2), (.int p3), (.int p4)] 6 = mkF m 0 #[SI p1, SI p2, SI p3, SI p4, SU, SU] [] := by first | (simp [entryFrame, mkF, argsToLocals, Value.category]; done) | rfl
def Q1_2 (Z : State) (p1 : Int32) (p2 : Int32) (p3 : Int32) (p4 : Int32) (p23 : Int32) (h0 : Heap) (n0 : Nat) (v : Option Value) (h : Heap) (L : List Loc) : Prop := ∃ (b18 : Addr) (t22 : Addr) (kb22 : ClassId), v = some (.ref b18) ∧ Fr n0 L ∧ Keep h0 h [] ∧ h0.size ≤ b18 ∧ h0.size ≤ t22 ∧ b18 ≠ t22 ∧ Exa Z h b18 cC0 ∧ Fld Z h b18 cC0 "coder" "B" (VI 0) ∧ Fld Z h b18 cC0 "value" "[B" (VR t22) ∧ Arv Z h t22 kb22 .byte 3 [VI ((nar .char ((p2 &&& (255 : Int32)).toUInt32.toUInt16.toUInt32.toInt32)).toInt8.toInt32), VI ((nar .char ((p3 &&& (255 : Int32)).toUInt32.toUInt16.toUInt32.toInt32)).toInt8.toInt32), VI ((nar .char ((p4 &&& (255 : Int32)).toUInt32.toUInt16.toUInt32.toInt32)).toInt8.toInt32)] (VI 0)
set_option maxRecDepth 65536 in
set_option maxHeartbeats 40000000 in
theorem rm1_2 (l : Launch) (Z : State) (a0 : Array Value) (hw : HW a0 Z) (ws : List Jvm.Cond) (p1 : Int32) (p2 : Int32) (p3 : Int32) (p4 : Int32) (p23 : Int32) (h0 : Heap) (n0 : Nat) (Z0 : n0 ≤ h0.size) (f5 : (1 : Int32) < (p1 &&& (3 : Int32))) (f6 : ¬ ((p1 &&& (3 : Int32)) = (2 : Int32))) (f24 : Sta Z Z.heap "java/lang/String" "COMPACT_STRINGS" "Z" (.int p23)) (f25 : Old Z n0 h0) (f27 : ¬ (p23 = (0 : Int32))) :
    MetFree l yM1 (head1 (Jvm.Cond.code yM1 method_2_code 6 (some (.object "java/lang/String")) :: ws) ({ frames := 4, cells := 3, slots := 10, locals := 66 } : Room)) (fun a U => a = #[(.int p1), (.int p2), (.int p3), (.int p4)] ∧ Z.Warmed39 U.vm ∧ U.heap = h0) (fun _ _ _ _ _ => True) (fun _ U o U' => ∃ v L, o = .returned v ∧ Q1_2 Z p1 p2 p3 p4 p23 h0 n0 v U'.heap L ∧ FrameEnd U o U' L ({ frames := 4, cells := 3, slots := 10, locals := 66 } : Room).cells ({ frames := 4, cells := 3, slots := 10, locals := 66 } : Room).slots) := by
  refine own_enter (n0 := n0) (plainFor_of_name pn0) (fun m => ef1_2 m p1 p2 p3 p4) ?_
  intro p e s m below meth c s₁ hx hby hml hown hnm hret hlk X0 e0 hZ hh N0
  show own_Fin p e below _ s₁ (mkF m 0 #[SI p1, SI p2, SI p3, SI p4, SU, SU] [])
  refine own_go (fun _ k => XS.iloadN X0.here hx rfl (hb hby d1_0) rfl (XS.iconst X0.here hx rfl (hb hby d1_1) (XS.iand X0.here hx rfl (hb hby d1_2) rfl (XS.istore X0.here hx rfl (hb hby d1_3) rfl (l' := #[SI p1, SI p2, SI p3, SI p4, SI (p1 &&& (3 : Int32)), SU]) rfl (XS.iload X0.here hx rfl (hb hby d1_5) rfl (XS.iconst X0.here hx rfl (hb hby d1_7) (XS.icmpYes X0.here hx rfl (pc0 := 8) (pc' := 36) rfl (hb hby d1_8) rfl (tlt f5).2.2.1 (by decide) (by decide) (XS.iload X0.here hx rfl (hb hby d1_36) rfl (XS.iconst X0.here hx rfl (hb hby d1_38) (XS.icmpYes X0.here hx rfl (pc0 := 39) (pc' := 77) rfl (hb hby d1_39) rfl (feq f6).2 (by decide) (by decide) k)))))))))) ?_
  show own_Fin p e below _ s₁ (mkF m 77 #[SI p1, SI p2, SI p3, SI p4, SI (p1 &&& (3 : Int32)), SU] [])
  refine own_go (fun _ k => XS.iconst X0.here hx rfl (hb hby d1_77) k) ?_
  show own_Fin p e below _ s₁ (mkF m 78 #[SI p1, SI p2, SI p3, SI p4, SI (p1 &&& (3 : Int32)), SU] [VI 3])
  obtain ⟨T7, h7, k7, X7, e7, E7, A7, st7⟩ := newP X0 hx hZ (WW hw 4) e0 (g := (mkF m 78 #[SI p1, SI p2, SI p3, SI p4, SI (p1 &&& (3 : Int32)), SU] [VI 3])) rfl (hb hby d1_78) rfl (by decide) (cap := 3) (by decide) (by decide) (by decide) (by decide)
  obtain ⟨b7, g7⟩ : ∃ z, z = h0.size := ⟨_, rfl⟩
  rw [← g7] at A7 st7
  have V7 : Arv Z h7 b7 k7 .char 3 [VI 0, VI 0, VI 0] (VI 0) := (Arv.new A7 (by decide)).pad (pad_rep [] (.int (0 : Int32)) 3)
  refine own_go st7 ?_
  show own_Fin p e below _ T7 (mkF m 80 #[SI p1, SI p2, SI p3, SI p4, SI (p1 &&& (3 : Int32)), SU] [VR b7])
  refine own_go (fun _ k => XS.astore X7.here hx rfl (hb hby d1_80) rfl rfl (l' := #[SI p1, SI p2, SI p3, SI p4, SI (p1 &&& (3 : Int32)), SR b7]) rfl (XS.aload X7.here hx rfl (hb hby d1_82) rfl rfl (XS.iconst X7.here hx rfl (hb hby d1_84) (XS.iloadN X7.here hx rfl (hb hby d1_85) rfl (XS.sipush X7.here hx rfl (hb hby d1_86) (XS.iand X7.here hx rfl (hb hby d1_89) rfl (XS.i2c X7.here hx rfl (hb hby d1_90) rfl k))))))) ?_
  show own_Fin p e below _ T7 (mkF m 91 #[SI p1, SI p2, SI p3, SI p4, SI (p1 &&& (3 : Int32)), SR b7] [VI ((p2 &&& (255 : Int32)).toUInt32.toUInt16.toUInt32.toInt32), VI 0, VR b7])
  obtain ⟨cl8, Ar8, q8, Sz8, Nn8, Hs8, Gg8⟩ := id V7
  have i9 : ¬ ((0 : Int32) < 0 ∨ cl8.slots.size ≤ ((0 : Int32)).toNatClampNeg) := inb_of Sz8 ⟨(by decide : ¬ ((0 : Int32) < (0 : Int32))), (by decide : (0 : Int32) < (3 : Int32))⟩
  obtain ⟨T10, h10, X10, e10, W10, st10⟩ := stC X7 hx hZ e7 Ar8 (j := (0 : Int32)) i9 (g := (mkF m 91 #[SI p1, SI p2, SI p3, SI p4, SI (p1 &&& (3 : Int32)), SR b7] [VI ((p2 &&& (255 : Int32)).toUInt32.toUInt16.toUInt32.toInt32), VI 0, VR b7])) rfl rfl (hb hby d1_91)
  have u11 : n0 ≤ b7 := Nat.le_trans Z0 (Nat.le_of_eq g7.symm)
  have N10 := Fr.snoc X10 N0 u11
  have V10 : Arv Z h10 b7 k7 .char 3 [VI (nar .char ((p2 &&& (255 : Int32)).toUInt32.toUInt16.toUInt32.toInt32)), VI 0, VI 0] (VI 0) := Arv.set Ar8 q8 Sz8 Nn8 Hs8 Gg8 (fits_nar_char _) W10 0 rfl (Nat.le_of_ble_eq_true rfl)
  refine own_go st10 ?_
  show own_Fin p e below _ T10 (mkF m 92 #[SI p1, SI p2, SI p3, SI p4, SI (p1 &&& (3 : Int32)), SR b7] [])
  refine own_go (fun _ k => XS.aload X10.here hx rfl (hb hby d1_92) rfl rfl (XS.iconst X10.here hx rfl (hb hby d1_94) (XS.iloadN X10.here hx rfl (hb hby d1_95) rfl (XS.sipush X10.here hx rfl (hb hby d1_96) (XS.iand X10.here hx rfl (hb hby d1_99) rfl (XS.i2c X10.here hx rfl (hb hby d1_100) rfl k)))))) ?_
  show own_Fin p e below _ T10 (mkF m 101 #[SI p1, SI p2, SI p3, SI p4, SI (p1 &&& (3 : Int32)), SR b7] [VI ((p3 &&& (255 : Int32)).toUInt32.toUInt16.toUInt32.toInt32), VI 1, VR b7])
  obtain ⟨cl12, Ar12, q12, Sz12, Nn12, Hs12, Gg12⟩ := id V10
  have i13 : ¬ ((1 : Int32) < 0 ∨ cl12.slots.size ≤ ((1 : Int32)).toNatClampNeg) := inb_of Sz12 ⟨(by decide : ¬ ((1 : Int32) < (0 : Int32))), (by decide : (1 : Int32) < (3 : Int32))⟩
  obtain ⟨T14, h14, X14, e14, W14, st14⟩ := stC X10 hx hZ e10 Ar12 (j := (1 : Int32)) i13 (g := (mkF m 101 #[SI p1, SI p2, SI p3, SI p4, SI (p1 &&& (3 : Int32)), SR b7] [VI ((p3 &&& (255 : Int32)).toUInt32.toUInt16.toUInt32.toInt32), VI 1, VR b7])) rfl rfl (hb hby d1_101)
  have N14 := Fr.snoc X14 N10 u11
  have V14 : Arv Z h14 b7 k7 .char 3 [VI (nar .char ((p2 &&& (255 : Int32)).toUInt32.toUInt16.toUInt32.toInt32)), VI (nar .char ((p3 &&& (255 : Int32)).toUInt32.toUInt16.toUInt32.toInt32)), VI 0] (VI 0) := Arv.set Ar12 q12 Sz12 Nn12 Hs12 Gg12 (fits_nar_char _) W14 1 rfl (Nat.le_of_ble_eq_true rfl)
  refine own_go st14 ?_
  show own_Fin p e below _ T14 (mkF m 102 #[SI p1, SI p2, SI p3, SI p4, SI (p1 &&& (3 : Int32)), SR b7] [])
  refine own_go (fun _ k => XS.aload X14.here hx rfl (hb hby d1_102) rfl rfl (XS.iconst X14.here hx rfl (hb hby d1_104) (XS.iloadN X14.here hx rfl (hb hby d1_105) rfl (XS.sipush X14.here hx rfl (hb hby d1_106) (XS.iand X14.here hx rfl (hb hby d1_109) rfl (XS.i2c X14.here hx rfl (hb hby d1_110) rfl k)))))) ?_
  show own_Fin p e below _ T14 (mkF m 111 #[SI p1, SI p2, SI p3, SI p4, SI (p1 &&& (3 : Int32)), SR b7] [VI ((p4 &&& (255 : Int32)).toUInt32.toUInt16.toUInt32.toInt32), VI 2, VR b7])
  obtain ⟨cl15, Ar15, q15, Sz15, Nn15, Hs15, Gg15⟩ := id V14
  have i16 : ¬ ((2 : Int32) < 0 ∨ cl15.slots.size ≤ ((2 : Int32)).toNatClampNeg) := inb_of Sz15 ⟨(by decide : ¬ ((2 : Int32) < (0 : Int32))), (by decide : (2 : Int32) < (3 : Int32))⟩
  obtain ⟨T17, h17, X17, e17, W17, st17⟩ := stC X14 hx hZ e14 Ar15 (j := (2 : Int32)) i16 (g := (mkF m 111 #[SI p1, SI p2, SI p3, SI p4, SI (p1 &&& (3 : Int32)), SR b7] [VI ((p4 &&& (255 : Int32)).toUInt32.toUInt16.toUInt32.toInt32), VI 2, VR b7])) rfl rfl (hb hby d1_111)
  have N17 := Fr.snoc X17 N14 u11
  have V17 : Arv Z h17 b7 k7 .char 3 [VI (nar .char ((p2 &&& (255 : Int32)).toUInt32.toUInt16.toUInt32.toInt32)), VI (nar .char ((p3 &&& (255 : Int32)).toUInt32.toUInt16.toUInt32.toInt32)), VI (nar .char ((p4 &&& (255 : Int32)).toUInt32.toUInt16.toUInt32.toInt32))] (VI 0) := Arv.set Ar15 q15 Sz15 Nn15 Hs15 Gg15 (fits_nar_char _) W17 2 rfl (Nat.le_of_ble_eq_true rfl)
  refine own_go st17 ?_
  show own_Fin p e below _ T17 (mkF m 112 #[SI p1, SI p2, SI p3, SI p4, SI (p1 &&& (3 : Int32)), SR b7] [])
  obtain ⟨T18, h18, X18, e18, E18, A18, D18, -, st18⟩ := newO X17 hx hZ hown (WW hw 5) (WW hw 6) (WW hw 7) e17 (g := (mkF m 112 #[SI p1, SI p2, SI p3, SI p4, SI (p1 &&& (3 : Int32)), SR b7] [])) rfl (hb hby d1_112) (by decide) (by decide)
  obtain ⟨b18, g18⟩ : ∃ z, z = h17.size := ⟨_, rfl⟩
  rw [← g18] at A18 D18 st18
  have F19 : Fld Z h18 b18 cC0 "coder" "B" (VI 0) := D18 (Or.inr (WW hw 31)) (ty := .byte) (by decide)
  have F20 : Fld Z h18 b18 cC0 "value" "[B" (.null) := D18 (Or.inr (WW hw 33)) (ty := (.array .byte)) (by decide)
  refine own_go st18 ?_
  show own_Fin p e below _ T18 (mkF m 115 #[SI p1, SI p2, SI p3, SI p4, SI (p1 &&& (3 : Int32)), SR b7] [VR b18])
  refine own_go (fun _ k => XS.dup X18.here hx rfl (hb hby d1_115) rfl rfl (XS.aload X18.here hx rfl (hb hby d1_116) rfl rfl k)) ?_
  show own_Fin p e below _ T18 (mkF m 118 #[SI p1, SI p2, SI p3, SI p4, SI (p1 &&& (3 : Int32)), SR b7] [VR b7, VR b18, VR b18])
  have F21 : Arv Z h18 b7 k7 .char 3 [VI (nar .char ((p2 &&& (255 : Int32)).toUInt32.toUInt16.toUInt32.toInt32)), VI (nar .char ((p3 &&& (255 : Int32)).toUInt32.toUInt16.toUInt32.toInt32)), VI (nar .char ((p4 &&& (255 : Int32)).toUInt32.toUInt16.toUInt32.toInt32))] (VI 0) := (V17.ext E18)
  have O26 : Old Z n0 h18 := (((((f25.ext E7).wr W10 u11).wr W14 u11).wr W17 u11).ext E18)
  have hws : ∀ d ∈ StrChars.Road.words, d.before a0 Z = true := fun d hd => hw d ((by decide +kernel : ∀ d ∈ StrChars.Road.words, d ∈ tables_1) d hd)
  have hp28 : ∀ c ∈ ([(nar .char ((p2 &&& (255 : Int32)).toUInt32.toUInt16.toUInt32.toInt32)), (nar .char ((p3 &&& (255 : Int32)).toUInt32.toUInt16.toUInt32.toInt32)), (nar .char ((p4 &&& (255 : Int32)).toUInt32.toUInt16.toUInt32.toInt32))] : List Int32), ¬ c < 0 ∧ ¬ (255 : Int32) < c := (own_allS (own_and255 p2) (own_allS (own_and255 p3) (own_allS (own_and255 p4) own_all0)))
  have z30 : h0.size ≤ h7.size := E7.1
  have z31 : h0.size ≤ h10.size := Nat.le_trans z30 (Nat.le_of_eq (Wr.size W10).symm)
  have z32 : h0.size ≤ h14.size := Nat.le_trans z31 (Nat.le_of_eq (Wr.size W14).symm)
  have z33 : h0.size ≤ h17.size := Nat.le_trans z32 (Nat.le_of_eq (Wr.size W17).symm)
  have u29 : n0 ≤ b18 := Nat.le_trans Z0 (Nat.le_trans z33 (Nat.le_of_eq g18.symm))
  have z34 : h0.size ≤ h18.size := Nat.le_trans z33 E18.1
  obtain ⟨_, _, ⟨T22, L22, k22, n22⟩, -, X22, ⟨Lc22, hQ22, l22, y22, z22⟩, st22⟩ := X18.specialBack hx (y := yM0) rfl hown (mvT hZ (WW hw 8)) (mvT hZ (WW hw 9)) (mvT hZ (WW hw 10)) (by decide) (StrChars.Road.backV (W := 1) hZ hws (kI := 4) (WW hw 6) (cs := ([(nar .char ((p2 &&& (255 : Int32)).toUInt32.toUInt16.toUInt32.toInt32)), (nar .char ((p3 &&& (255 : Int32)).toUInt32.toUInt16.toUInt32.toInt32)), (nar .char ((p4 &&& (255 : Int32)).toUInt32.toUInt16.toUInt32.toInt32))] : List Int32)) (bs := ([(nar .char ((p2 &&& (255 : Int32)).toUInt32.toUInt16.toUInt32.toInt32)), (nar .char ((p3 &&& (255 : Int32)).toUInt32.toUInt16.toUInt32.toInt32)), (nar .char ((p4 &&& (255 : Int32)).toUInt32.toUInt16.toUInt32.toInt32))] : List Int32).map (fun c => c.toInt8.toInt32)) (n := 3) u29 (Nat.le_trans Z0 z34) A18 F20 F19 F21 (f24.ext O26.2) f27 rfl rfl (by decide) (by decide) hp28 rfl (by decide) (by decide)) (g := (mkF m 118 #[SI p1, SI p2, SI p3, SI p4, SI (p1 &&& (3 : Int32)), SR b7] [VR b7, VR b18, VR b18])) rfl (by rw [hml]; rfl) (Steps.refl _) (a := b18) (argsL := [VR b7]) (rest := [VR b18]) (lenOf pd0 rfl) rfl (by show 2 * 0 + _ ≤ _; exact Nat.le_of_eq rfl) (hb hby d1_118) (fun _ _ => ⟨rfl, e18, (by decide : 2 + 1 ≤ _), (by decide : 7 + 3 ≤ _)⟩)
  dsimp only [Pt.U, Pt.locs, Pt.cells, Pt.slots] at X22 l22 y22 z22 st22 hQ22
  subst l22 y22 z22
  obtain ⟨rfl, N22q, K22, oE22, oC22, t22, kb22, -, lo22, nt22, oV22, oA22⟩ := hQ22
  have N22 := Fr.app N17 N22q
  refine own_go (fun _ k => st22.trans k) ?_
  show own_Fin p e below _ T22 (mkF m 121 #[SI p1, SI p2, SI p3, SI p4, SI (p1 &&& (3 : Int32)), SR b7] [VR b18])
  have K35 : Keep h0 T22.heap [] := (((((((Keep.refl h0 []).ext E7).wr W10 (Or.inr (Nat.le_of_eq g7.symm))).wr W14 (Or.inr (Nat.le_of_eq g7.symm))).wr W17 (Or.inr (Nat.le_of_eq g7.symm))).ext E18).trans K22 (allS (Or.inr (Nat.le_trans z33 (Nat.le_of_eq g18.symm))) all0))
  obtain ⟨fs, hr, hrun, hended, hW, hsame⟩ := X22.leave (v := some (.ref b18)) (fun h => by rw [hret] at h; cases h)
  refine own_end (retOut X22 hx hret rfl (Or.inr (Or.inr (Or.inr (Or.inr ⟨rfl, rfl, rfl⟩)))) (hb hby d1_121) hr) hrun hended ⟨_, _, rfl, ?_, ⟨_, rfl⟩, hW, hsame.mono (by decide) (by decide)⟩
  show Q1_2 Z p1 p2 p3 p4 p23 h0 n0 _ T22.heap _
  exact ⟨b18, t22, kb22, rfl, N22, K35, (Nat.le_trans z33 (Nat.le_of_eq g18.symm)), (Nat.le_trans z34 lo22), (Ne.symm nt22), oE22, oC22, oV22, oA22⟩
theorem ef12_2 (m : MethodId) (a1 : Addr) : entryFrame m #[(.ref a1)] 1 = mkF m 0 #[SR a1] [] := by first | (simp [entryFrame, mkF, argsToLocals, Value.category]; done) | rfl
def Q12_2 (Z : State) (a1 : Addr) (a2 : Addr) (k5 : ClassId) (p6 : Int32) (p7 : Int32) (p8 : Int32) (h0 : Heap) (n0 : Nat) (v : Option Value) (h : Heap) (L : List Loc) : Prop := v = some (.int (0 : Int32)) ∧ Fr n0 L ∧ h = h0
set_option maxRecDepth 65536 in
set_option maxHeartbeats 40000000 in
theorem rm12_2 (l : Launch) (Z : State) (a0 : Array Value) (hw : HW a0 Z) (ws : List Jvm.Cond) (a1 : Addr) (a2 : Addr) (k5 : ClassId) (p6 : Int32) (p7 : Int32) (p8 : Int32) (h0 : Heap) (n0 : Nat) (Z0 : n0 ≤ h0.size) (f3 : Fld Z h0 a1 cC0 "value" "[B" (VR a2)) (f9 : Arv Z h0 a2 k5 .byte 3 [VI p6, VI p7, VI p8] (VI 0)) :
    MetFree l yM4 (head1 (Jvm.Cond.code yM4 jdk_42_method_55_code 1 (some .boolean) :: ws) ({ frames := 0, cells := 0, slots := 0, locals := 0 } : Room)) (fun a U => a = #[(.ref a1)] ∧ Z.Warmed39 U.vm ∧ U.heap = h0) (fun _ _ _ _ _ => True) (fun _ U o U' => ∃ v L, o = .returned v ∧ Q12_2 Z a1 a2 k5 p6 p7 p8 h0 n0 v U'.heap L ∧ FrameEnd U o U' L ({ frames := 0, cells := 0, slots := 0, locals := 0 } : Room).cells ({ frames := 0, cells := 0, slots := 0, locals := 0 } : Room).slots) := by
  refine own_enter (n0 := n0) (plainFor_of_name pn2) (fun m => ef12_2 m a1) ?_
  intro p e s m below meth c s₁ hx hby hml hown hnm hret hlk X0 e0 hZ hh N0
  show own_Fin p e below _ s₁ (mkF m 0 #[SR a1] [])
  refine own_go (fun _ k => XS.aloadN X0.here hx rfl (hb hby d12_0) rfl rfl k) ?_
  show own_Fin p e below _ s₁ (mkF m 1 #[SR a1] [VR a1])
  obtain ⟨T4, X4, e4, st4⟩ := getF X0 hx hZ hown (host := "") (Or.inl (WW hw 32)) Via.refl e0 f3 (g := (mkF m 1 #[SR a1] [VR a1])) rfl rfl (hb hby d12_1)
  refine own_go st4 ?_
  show own_Fin p e below _ T4 (mkF m 4 #[SR a1] [VR a2])
  obtain ⟨cl10, Ar10, q10, Sz10, Nn10, Hs10, Gg10⟩ := id f9
  refine own_go (fun _ k => X4.arraylength hx (by rw [e4]; exact Ar10.1) (State.isArrayOf_alike hZ.alike Ar10.2.1) (g := (mkF m 4 #[SR a1] [VR a2])) rfl rfl (hb hby d12_4) _ k) ?_
  rw [len_of Sz10 Nn10]
  show own_Fin p e below _ T4 (mkF m 5 #[SR a1] [VI 3])
  refine own_go (fun _ k => XS.ifYes X4.here hx rfl (pc0 := 5) (pc' := 12) rfl (hb hby d12_5) rfl ((if0 _ _).trans (feq (by decide : ¬ ((3 : Int32) = (0 : Int32)))).2) (by decide) (by decide) (XS.iconst X4.here hx rfl (hb hby d12_12) k)) ?_
  show own_Fin p e below _ T4 (mkF m 13 #[SR a1] [VI 0])
  obtain ⟨fs, hr, hrun, hended, hW, hsame⟩ := X4.leave (v := some (.int (0 : Int32))) (fun h => by rw [hret] at h; cases h)
  refine own_end (retN X4 hx (t := .boolean) hret (by simp) (hb hby d12_13) hr) hrun hended ⟨_, _, rfl, ?_, ⟨_, rfl⟩, hW, hsame.mono (by decide) (by decide)⟩
  show Q12_2 Z a1 a2 k5 p6 p7 p8 h0 n0 _ T4.heap _
  rw [e4]
  exact ⟨rfl, N0, rfl⟩
theorem ef9_2 (m : MethodId) (a1 : Addr) (a2 : Addr) (a3 : Addr) : entryFrame m #[(.ref a1), (.ref a2), (.ref a3), .null] 5 = mkF m 0 #[SR a1, SR a2, SR a3, SN, SU] [] := by first | (simp [entryFrame, mkF, argsToLocals, Value.category]; done) | rfl
def Q9_2 (Z : State) (a1 : Addr) (a2 : Addr) (a3 : Addr) (a10 : Addr) (k13 : ClassId) (p14 : Int32) (p15 : Int32) (p16 : Int32) (a20 : Addr) (h0 : Heap) (n0 : Nat) (v : Option Value) (h : Heap) (L : List Loc) : Prop := v = none ∧ Fr n0 L ∧ Keep h0 h [a1] ∧ Exa Z h a1 cC2 ∧ Fld Z h a1 cC2 "outcome" cC3 (VR a2) ∧ Fld Z h a1 cC2 "transactionId" cC4 (VR a3) ∧ Fld Z h a1 cC2 "declineReason" cC4 (.null)
set_option maxRecDepth 65536 in
set_option maxHeartbeats 40000000 in
theorem rm9_2 (l : Launch) (Z : State) (a0 : Array Value) (hw : HW a0 Z) (ws : List Jvm.Cond) (a1 : Addr) (a2 : Addr) (a3 : Addr) (a10 : Addr) (k13 : ClassId) (p14 : Int32) (p15 : Int32) (p16 : Int32) (a20 : Addr) (h0 : Heap) (n0 : Nat) (Z0 : n0 ≤ h0.size) (f8 : Exa Z h0 a3 cC0) (f11 : Fld Z h0 a3 cC0 "value" "[B" (VR a10)) (f17 : Arv Z h0 a10 k13 .byte 3 [VI p14, VI p15, VI p16] (VI 0)) (f21 : Sta Z Z.heap "com/example/holdfast/holdfast/core/GatewayAnswer$Outcome" "DECLINED" "Lcom/example/holdfast/holdfast/core/GatewayAnswer$Outcome;" (.ref a20)) (f22 : Old Z n0 h0) (f25 : a2 ≠ a20) (f26 : Exa Z h0 a1 cC2) (f28 : Fld Z h0 a1 cC2 "outcome" cC3 (.null)) (f31 : n0 ≤ a1) (f33 : Fld Z h0 a1 cC2 "transactionId" cC4 (.null)) (f37 : Fld Z h0 a1 cC2 "declineReason" cC4 (.null)) :
    MetFree l yM5 (head1 (Jvm.Cond.code yM5 prog_1_method_1_code 5 none :: ws) ({ frames := 2, cells := 2, slots := 32, locals := 24 } : Room)) (fun a U => a = #[(.ref a1), (.ref a2), (.ref a3), .null] ∧ Z.Warmed39 U.vm ∧ U.heap = h0) (fun _ _ _ _ _ => True) (fun _ U o U' => ∃ v L, o = .returned v ∧ Q9_2 Z a1 a2 a3 a10 k13 p14 p15 p16 a20 h0 n0 v U'.heap L ∧ ReturnedEndW U o U' L ({ frames := 2, cells := 2, slots := 32, locals := 24 } : Room).cells ({ frames := 2, cells := 2, slots := 32, locals := 24 } : Room).slots) := by
  refine own_enter (n0 := n0) (plainFor_of_name pn8) (fun m => ef9_2 m a1 a2 a3) ?_
  intro p e s m below meth c s₁ hx hby hml hown hnm hret hlk XY0 e0 hZ hh N0
  have X0 : Stand p l e ({ frames := 2, cells := 2, slots := 32, locals := 24 } : Room) (s.setVm s.vm) m _ below meth c s₁ [] 0 0 := XY0
  have hS0 : s.Since s.vm h0.size := (State.WarmedH.refl s).since _
  have hk0 : h0.size ≤ h0.size := Nat.le_refl _
  show own_Fin p e below _ s₁ (mkF m 0 #[SR a1, SR a2, SR a3, SN, SU] [])
  refine own_go (fun _ k => XS.aloadN X0.here hx rfl (hb hby d9_0) rfl rfl k) ?_
  show own_Fin p e below _ s₁ (mkF m 1 #[SR a1, SR a2, SR a3, SN, SU] [VR a1])
  obtain ⟨_, T4, L4, X4, hQ4, st4⟩ := own_cI X0 hx hZ hown (WW hw 46) (WW hw 47) (WW hw 49) (WW hw 50) (rm10_1 l Z a0 hw [] a1 h0 n0 Z0 ) e0 hml (g := (mkF m 1 #[SR a1, SR a2, SR a3, SN, SU] [VR a1])) pd2 (hb hby d9_1) a1 [] [] (W := 0)
  obtain ⟨rfl, N4q, e4⟩ := hQ4
  have N4 := Fr.app N0 N4q
  refine own_go st4 ?_
  show own_Fin p e below _ T4 (mkF m 4 #[SR a1, SR a2, SR a3, SN, SU] [])
  refine own_go (fun _ k => XS.aloadN X4.here hx rfl (hb hby d9_4) rfl rfl k) ?_
  show own_Fin p e below _ T4 (mkF m 5 #[SR a1, SR a2, SR a3, SN, SU] [VR a2])
  have wS : ∀ d ∈ Bundle.stringAtoms, d.before a0 Z = true := fun d hd => hw d ((by decide +kernel : ∀ d ∈ Bundle.stringAtoms, d ∈ tables_1) d hd)
  obtain ⟨a5, T5, h5, k5, X5, e5, E5, hS5, hk5, hZ5, ho5, st5⟩ := ldcS (vm0 := (s.setVm s.vm).vm) X4 hx hZ hown (WW hw 52) wS e4 hS0 hk0 (g := (mkF m 5 #[SR a1, SR a2, SR a3, SN, SU] [VR a2])) rfl (hb hby d9_5) (n := 28) (by decide) (by decide) (by decide) (by decide)
  refine own_go st5 ?_
  show own_Fin p e below _ T5 (mkF m 7 #[SR a1, SR a2, SR a3, SN, SU] [VR a5, VR a2])
  have z7 : h0.size ≤ h5.size := E5.1
  obtain ⟨_, T6, L6, X6, hQ6, st6⟩ := own_cS X5 hx hZ5 ho5 (WW hw 55) (WW hw 56) (WW hw 57) (WW hw 58) (rm11_1 l Z a0 hw [] a2 a5 h5 n0 (Nat.le_trans Z0 z7) ) e5 hml (g := (mkF m 7 #[SR a1, SR a2, SR a3, SN, SU] [VR a5, VR a2])) pd3 (hb hby d9_7) [VR a2, VR a5] [] (W := 0)
  obtain ⟨rfl, N6q, e6⟩ := hQ6
  have N6 := Fr.app N4 N6q
  refine own_go st6 ?_
  show own_Fin p e below _ T6 (mkF m 10 #[SR a1, SR a2, SR a3, SN, SU] [VR a2])
  refine own_go (fun _ k => XS.pop X6.here hx rfl (hb hby d9_10) rfl rfl (XS.aloadN X6.here hx rfl (hb hby d9_11) rfl rfl (XS.ifnullNo X6.here hx rfl (hb hby d9_12) rfl (XS.aloadN X6.here hx rfl (hb hby d9_15) rfl rfl k)))) ?_
  show own_Fin p e below _ T6 (mkF m 16 #[SR a1, SR a2, SR a3, SN, SU] [VR a3])
  have F9 : Exa Z h5 a3 cC0 := (f8.ext E5)
  have F12 : Fld Z h5 a3 cC0 "value" "[B" (VR a10) := (f11.ext E5)
  have F18 : Arv Z h5 a10 k13 .byte 3 [VI p14, VI p15, VI p16] (VI 0) := (f17.ext E5)
  obtain ⟨_, T19, L19, X19, hQ19, st19⟩ := own_cV X6 hx hZ5 ho5 (WW hw 59) (WW hw 60) (notFace_of_selects (args := #[]) (mvT hZ5 (WW hw 62))) (WW hw 62) (WW hw 61) (WW hw 7) (WW hw 63) (rm12_2 l Z a0 hw [] a3 a10 k13 p14 p15 p16 h5 n0 (Nat.le_trans Z0 z7) F12 F18) e6 F9 hml (g := (mkF m 16 #[SR a1, SR a2, SR a3, SN, SU] [VR a3])) pd4 (hb hby d9_16) [] [] (W := 0)
  obtain ⟨rfl, N19q, e19⟩ := hQ19
  have N19 := Fr.app N6 N19q
  refine own_go st19 ?_
  show own_Fin p e below _ T19 (mkF m 19 #[SR a1, SR a2, SR a3, SN, SU] [VI 0])
  refine own_go (fun _ k => XS.ifYes X19.here hx rfl (pc0 := 19) (pc' := 32) rfl (hb hby d9_19) rfl ((if0 _ _).trans (teq (by decide : (0 : Int32) = (0 : Int32))).1) (by decide) (by decide) (XS.aloadN X19.here hx rfl (hb hby d9_32) rfl rfl k)) ?_
  show own_Fin p e below _ T19 (mkF m 33 #[SR a1, SR a2, SR a3, SN, SU] [VR a2])
  have O23 : Old Z n0 h5 := (f22.ext E5)
  obtain ⟨T24, X24, e24, st24⟩ := getS2 X19 hx hZ5 ho5 (host := "") (Or.inl (WW hw 64)) Via.refl e19 (f21.ext O23.2) (g := (mkF m 33 #[SR a1, SR a2, SR a3, SN, SU] [VR a2])) rfl (hb hby d9_33)
  refine own_go st24 ?_
  show own_Fin p e below _ T24 (mkF m 36 #[SR a1, SR a2, SR a3, SN, SU] [VR a20, VR a2])
  refine own_go (fun _ k => Jvm.RoadKit.acmp (g := (mkF m 36 #[SR a1, SR a2, SR a3, SN, SU] [VR a20, VR a2])) X24 hx rfl rfl rfl (pc0 := 36) (pc' := 43) (same := false) rfl (hb hby d9_36) rfl (decide_eq_false fun q => f25 (Value.ref.inj q)) (by decide) (by decide) (XS.iconst X24.here hx rfl (hb hby d9_43) (XS.istore X24.here hx rfl (hb hby d9_44) rfl (l' := #[SR a1, SR a2, SR a3, SN, SI 0]) rfl (XS.iload X24.here hx rfl (hb hby d9_46) rfl (XS.aloadN X24.here hx rfl (hb hby d9_48) rfl rfl (XS.ifnullYes X24.here hx rfl (pc0 := 49) (pc' := 63) rfl (hb hby d9_49) rfl (by decide) (by decide) (XS.iconst X24.here hx rfl (hb hby d9_63) (XS.icmpYes X24.here hx rfl (pc0 := 64) (pc' := 77) rfl (hb hby d9_64) rfl (teq (by decide : (0 : Int32) = (0 : Int32))).1 (by decide) (by decide) (XS.aloadN X24.here hx rfl (hb hby d9_77) rfl rfl (XS.aloadN X24.here hx rfl (hb hby d9_78) rfl rfl k)))))))))) ?_
  show own_Fin p e below _ T24 (mkF m 79 #[SR a1, SR a2, SR a3, SN, SI 0] [VR a2, VR a1])
  have F27 : Exa Z h5 a1 cC2 := (f26.ext E5)
  have F29 : Fld Z h5 a1 cC2 "outcome" cC3 (.null) := (f28.ext E5)
  obtain ⟨T30, h30, X30, e30, W30, st30⟩ := putF X24 hx hZ5 ho5 (host := "") (Or.inl (WW hw 66)) Via.refl e24 F29 F27 (Or.inr ⟨(WW hw 67), rfl, hnm⟩) (WW hw 39) (ty := (.object "com/example/holdfast/holdfast/core/GatewayAnswer$Outcome")) (by decide) rfl rfl (g := (mkF m 79 #[SR a1, SR a2, SR a3, SN, SI 0] [VR a2, VR a1])) rfl rfl (hb hby d9_79)
  have N30 := Fr.snoc X30 N19 f31
  have Fw30 : Fld Z h30 a1 cC2 "outcome" cC3 (VR a2) := F29.same W30
  refine own_go st30 ?_
  show own_Fin p e below _ T30 (mkF m 82 #[SR a1, SR a2, SR a3, SN, SI 0] [])
  refine own_go (fun _ k => XS.aloadN X30.here hx rfl (hb hby d9_82) rfl rfl (XS.aloadN X30.here hx rfl (hb hby d9_83) rfl rfl k)) ?_
  show own_Fin p e below _ T30 (mkF m 84 #[SR a1, SR a2, SR a3, SN, SI 0] [VR a3, VR a1])
  have F32 : Exa Z h30 a1 cC2 := (F27.wr W30)
  have F34 : Fld Z h30 a1 cC2 "transactionId" cC4 (.null) := ((f33.ext E5).other W30 (Or.inr (slot_ne (Or.inr (WW hw 69)) (Or.inr (WW hw 67)) (by decide) (t := (.object "java/lang/String")) (t' := (.object "com/example/holdfast/holdfast/core/GatewayAnswer$Outcome")) (by decide) (by decide))))
  obtain ⟨T35, h35, X35, e35, W35, st35⟩ := putF X30 hx hZ5 ho5 (host := "") (Or.inl (WW hw 68)) Via.refl e30 F34 F32 (Or.inr ⟨(WW hw 69), rfl, hnm⟩) (WW hw 39) (ty := (.object "java/lang/String")) (by decide) rfl rfl (g := (mkF m 84 #[SR a1, SR a2, SR a3, SN, SI 0] [VR a3, VR a1])) rfl rfl (hb hby d9_84)
  have N35 := Fr.snoc X35 N30 f31
  have Fw35 : Fld Z h35 a1 cC2 "transactionId" cC4 (VR a3) := F34.same W35
  refine own_go st35 ?_
  show own_Fin p e below _ T35 (mkF m 87 #[SR a1, SR a2, SR a3, SN, SI 0] [])
  refine own_go (fun _ k => XS.aloadN X35.here hx rfl (hb hby d9_87) rfl rfl (XS.aloadN X35.here hx rfl (hb hby d9_88) rfl rfl k)) ?_
  show own_Fin p e below _ T35 (mkF m 89 #[SR a1, SR a2, SR a3, SN, SI 0] [.null, VR a1])
  have F36 : Exa Z h35 a1 cC2 := (F32.wr W35)
  have F38 : Fld Z h35 a1 cC2 "declineReason" cC4 (.null) := (((f37.ext E5).other W30 (Or.inr (slot_ne (Or.inr (WW hw 71)) (Or.inr (WW hw 67)) (by decide) (t := (.object "java/lang/String")) (t' := (.object "com/example/holdfast/holdfast/core/GatewayAnswer$Outcome")) (by decide) (by decide)))).other W35 (Or.inr (slot_ne (Or.inr (WW hw 71)) (Or.inr (WW hw 69)) (by decide) (t := (.object "java/lang/String")) (t' := (.object "java/lang/String")) (by decide) (by decide))))
  obtain ⟨T39, h39, X39, e39, W39, st39⟩ := putF X35 hx hZ5 ho5 (host := "") (Or.inl (WW hw 70)) Via.refl e35 F38 F36 (Or.inr ⟨(WW hw 71), rfl, hnm⟩) (WW hw 39) (ty := (.object "java/lang/String")) (by decide) rfl rfl (g := (mkF m 89 #[SR a1, SR a2, SR a3, SN, SI 0] [.null, VR a1])) rfl rfl (hb hby d9_89)
  have N39 := Fr.snoc X39 N35 f31
  have Fw39 : Fld Z h39 a1 cC2 "declineReason" cC4 (.null) := F38.same W39
  refine own_go st39 ?_
  show own_Fin p e below _ T39 (mkF m 92 #[SR a1, SR a2, SR a3, SN, SI 0] [])
  have F40 : Exa Z h39 a1 cC2 := (F36.wr W39)
  have F41 : Fld Z h39 a1 cC2 "outcome" cC3 (VR a2) := ((Fw30.other W35 (Or.inr (slot_ne (Or.inr (WW hw 67)) (Or.inr (WW hw 69)) (by decide) (t := (.object "com/example/holdfast/holdfast/core/GatewayAnswer$Outcome")) (t' := (.object "java/lang/String")) (by decide) (by decide)))).other W39 (Or.inr (slot_ne (Or.inr (WW hw 67)) (Or.inr (WW hw 71)) (by decide) (t := (.object "com/example/holdfast/holdfast/core/GatewayAnswer$Outcome")) (t' := (.object "java/lang/String")) (by decide) (by decide))))
  have F42 : Fld Z h39 a1 cC2 "transactionId" cC4 (VR a3) := (Fw35.other W39 (Or.inr (slot_ne (Or.inr (WW hw 69)) (Or.inr (WW hw 71)) (by decide) (t := (.object "java/lang/String")) (t' := (.object "java/lang/String")) (by decide) (by decide))))
  have K43 : Keep h0 h39 [a1] := (((((Keep.refl h0 [a1]).ext E5).wr W30 (Or.inl (List.mem_of_getElem? (i := 0) rfl))).wr W35 (Or.inl (List.mem_of_getElem? (i := 0) rfl))).wr W39 (Or.inl (List.mem_of_getElem? (i := 0) rfl)))
  have z44 : h5.size ≤ h30.size := (Nat.le_of_eq (Wr.size W30).symm)
  have z45 : h5.size ≤ h35.size := Nat.le_trans z44 (Nat.le_of_eq (Wr.size W35).symm)
  have z46 : h5.size ≤ h39.size := Nat.le_trans z45 (Nat.le_of_eq (Wr.size W39).symm)
  obtain ⟨fs, hr, hrun, hended, hend⟩ := Jvm.Stand.leaveW X39 hS5 (by rw [e39]; exact (Nat.le_trans hk5 z46)) (v := none) (fun _ => rfl)
  refine own_end (X39.returnOut hx hret (hb hby d9_92) hr) hrun hended ⟨_, _, rfl, ?_, hend.1, hend.2.1, hend.2.2.1, hend.2.2.2.mono (by decide) (by decide)⟩
  show Q9_2 Z a1 a2 a3 a10 k13 p14 p15 p16 a20 h0 n0 _ T39.heap _
  rw [e39]
  exact ⟨rfl, N39, K43, F40, F41, F42, Fw39⟩
theorem ef8_2 (m : MethodId) (a1 : Addr) : entryFrame m #[(.ref a1)] 1 = mkF m 0 #[SR a1] [] := by first | (simp [entryFrame, mkF, argsToLocals, Value.category]; done) | rfl
def Q8_2 (Z : State) (a1 : Addr) (a6 : Addr) (a13 : Addr) (k16 : ClassId) (p17 : Int32) (p18 : Int32) (p19 : Int32) (a22 : Addr) (h0 : Heap) (n0 : Nat) (v : Option Value) (h : Heap) (L : List Loc) : Prop := ∃ (b2 : Addr), v = some (.ref b2) ∧ Fr n0 L ∧ Keep h0 h [] ∧ h0.size ≤ b2 ∧ Exa Z h b2 cC2 ∧ Fld Z h b2 cC2 "outcome" cC3 (VR a6) ∧ Fld Z h b2 cC2 "transactionId" cC4 (VR a1) ∧ Fld Z h b2 cC2 "declineReason" cC4 (.null)
set_option maxRecDepth 65536 in
set_option maxHeartbeats 40000000 in
theorem rm8_2 (l : Launch) (Z : State) (a0 : Array Value) (hw : HW a0 Z) (ws : List Jvm.Cond) (a1 : Addr) (a6 : Addr) (a13 : Addr) (k16 : ClassId) (p17 : Int32) (p18 : Int32) (p19 : Int32) (a22 : Addr) (h0 : Heap) (n0 : Nat) (Z0 : n0 ≤ h0.size) (f7 : Sta Z Z.heap "com/example/holdfast/holdfast/core/GatewayAnswer$Outcome" "PENDING" "Lcom/example/holdfast/holdfast/core/GatewayAnswer$Outcome;" (.ref a6)) (f8 : Old Z n0 h0) (f11 : Exa Z h0 a1 cC0) (f14 : Fld Z h0 a1 cC0 "value" "[B" (VR a13)) (f20 : Arv Z h0 a13 k16 .byte 3 [VI p17, VI p18, VI p19] (VI 0)) (f23 : Sta Z Z.heap "com/example/holdfast/holdfast/core/GatewayAnswer$Outcome" "DECLINED" "Lcom/example/holdfast/holdfast/core/GatewayAnswer$Outcome;" (.ref a22)) (f24 : a6 ≠ a22) :
    MetFree l yM6 (head1 (Jvm.Cond.code yM6 prog_1_method_4_code 1 (some (.object "com/example/holdfast/holdfast/core/GatewayAnswer")) :: ws) ({ frames := 3, cells := 3, slots := 35, locals := 41 } : Room)) (fun a U => a = #[(.ref a1)] ∧ Z.Warmed39 U.vm ∧ U.heap = h0) (fun _ _ _ _ _ => True) (fun _ U o U' => ∃ v L, o = .returned v ∧ Q8_2 Z a1 a6 a13 k16 p17 p18 p19 a22 h0 n0 v U'.heap L ∧ ReturnedEndW U o U' L ({ frames := 3, cells := 3, slots := 35, locals := 41 } : Room).cells ({ frames := 3, cells := 3, slots := 35, locals := 41 } : Room).slots) := by
  refine own_enter (n0 := n0) (plainFor_of_name pn8) (fun m => ef8_2 m a1) ?_
  intro p e s m below meth c s₁ hx hby hml hown hnm hret hlk XY0 e0 hZ hh N0
  have X0 : Stand p l e ({ frames := 3, cells := 3, slots := 35, locals := 41 } : Room) (s.setVm s.vm) m _ below meth c s₁ [] 0 0 := XY0
  have hS0 : s.Since s.vm h0.size := (State.WarmedH.refl s).since _
  have hk0 : h0.size ≤ h0.size := Nat.le_refl _
  show own_Fin p e below _ s₁ (mkF m 0 #[SR a1] [])
  obtain ⟨T2, h2, X2, e2, E2, A2, D2, -, st2⟩ := newO X0 hx hZ hown (WW hw 38) (WW hw 39) (WW hw 36) e0 (g := (mkF m 0 #[SR a1] [])) rfl (hb hby d8_0) (by decide) (by decide)
  obtain ⟨b2, g2⟩ : ∃ z, z = h0.size := ⟨_, rfl⟩
  rw [← g2] at A2 D2 st2
  have F3 : Fld Z h2 b2 cC2 "outcome" cC3 (.null) := D2 (Or.inr (WW hw 67)) (ty := (.object "com/example/holdfast/holdfast/core/GatewayAnswer$Outcome")) (by decide)
  have F4 : Fld Z h2 b2 cC2 "transactionId" cC4 (.null) := D2 (Or.inr (WW hw 69)) (ty := (.object "java/lang/String")) (by decide)
  have F5 : Fld Z h2 b2 cC2 "declineReason" cC4 (.null) := D2 (Or.inr (WW hw 71)) (ty := (.object "java/lang/String")) (by decide)
  refine own_go st2 ?_
  show own_Fin p e below _ T2 (mkF m 3 #[SR a1] [VR b2])
  refine own_go (fun _ k => XS.dup X2.here hx rfl (hb hby d8_3) rfl rfl k) ?_
  show own_Fin p e below _ T2 (mkF m 4 #[SR a1] [VR b2, VR b2])
  have O9 : Old Z n0 h2 := (f8.ext E2)
  obtain ⟨T10, X10, e10, st10⟩ := getS2 X2 hx hZ hown (host := "") (Or.inl (WW hw 40)) Via.refl e2 (f7.ext O9.2) (g := (mkF m 4 #[SR a1] [VR b2, VR b2])) rfl (hb hby d8_4)
  refine own_go st10 ?_
  show own_Fin p e below _ T10 (mkF m 7 #[SR a1] [VR a6, VR b2, VR b2])
  refine own_go (fun _ k => XS.aloadN X10.here hx rfl (hb hby d8_7) rfl rfl (XS.aconstNull X10.here hx rfl (hb hby d8_8) k)) ?_
  show own_Fin p e below _ T10 (mkF m 9 #[SR a1] [.null, VR a1, VR a6, VR b2, VR b2])
  have F12 : Exa Z h2 a1 cC0 := (f11.ext E2)
  have F15 : Fld Z h2 a1 cC0 "value" "[B" (VR a13) := (f14.ext E2)
  have F21 : Arv Z h2 a13 k16 .byte 3 [VI p17, VI p18, VI p19] (VI 0) := (f20.ext E2)
  have u26 : n0 ≤ b2 := Nat.le_trans Z0 (Nat.le_of_eq g2.symm)
  have z27 : h0.size ≤ h2.size := E2.1
  obtain ⟨_, T25, L25, X25, hQ25, hS25, hZ25, ho25, st25⟩ := own_cIW (vm0 := (s.setVm s.vm).vm) X10 hx hZ hown hS0 (Nat.le_trans hk0 z27) (WW hw 43) (WW hw 44) (WW hw 36) (WW hw 45) (rm9_2 l Z a0 hw [] b2 a6 a1 a13 k16 p17 p18 p19 a22 h2 n0 (Nat.le_trans Z0 z27) F12 F15 F21 f23 O9 f24 A2 F3 u26 F4 F5) e10 hml (g := (mkF m 9 #[SR a1] [.null, VR a1, VR a6, VR b2, VR b2])) pd5 (hb hby d8_9) b2 [VR a6, VR a1, .null] [VR b2] (W := 1)
  obtain ⟨rfl, N25q, K25, o0_25, o1_25, o2_25, o3_25⟩ := hQ25
  have N25 := Fr.app N0 N25q
  refine own_go st25 ?_
  show own_Fin p e below _ T25 (mkF m 12 #[SR a1] [VR b2])
  have K28 : Keep h0 T25.heap [] := (((Keep.refl h0 []).ext E2).trans K25 (allS (Or.inr (Nat.le_of_eq g2.symm)) all0))
  obtain ⟨fs, hr, hrun, hended, hend⟩ := Jvm.Stand.leaveW X25 hS25 (Nat.le_refl _) (v := some (.ref b2)) (fun h => by rw [hret] at h; cases h)
  refine own_end (retOut X25 hx hret rfl (Or.inr (Or.inr (Or.inr (Or.inr ⟨rfl, rfl, rfl⟩)))) (hb hby d8_12) hr) hrun hended ⟨_, _, rfl, ?_, hend.1, hend.2.1, hend.2.2.1, hend.2.2.2.mono (by decide) (by decide)⟩
  show Q8_2 Z a1 a6 a13 k16 p17 p18 p19 a22 h0 n0 _ T25.heap _
  exact ⟨b2, rfl, N25, K28, (Nat.le_of_eq g2.symm), o0_25, o1_25, o2_25, o3_25⟩
theorem ef1_3 (m : MethodId) (p1 : Int32) (p2 : Int32) (p3 : Int32) (p4 : Int32) : entryFrame m #[(.int p1), (.int p2), (.int p3), (.int p4)] 6 = mkF m 0 #[SI p1, SI p2, SI p3, SI p4, SU, SU] [] := by first | (simp [entryFrame, mkF, argsToLocals, Value.category]; done) | rfl
def Q1_3 (Z : State) (p1 : Int32) (p2 : Int32) (p3 : Int32) (p4 : Int32) (p16 : Int32) (h0 : Heap) (n0 : Nat) (v : Option Value) (h : Heap) (L : List Loc) : Prop := ∃ (b11 : Addr) (t15 : Addr) (kb15 : ClassId), v = some (.ref b11) ∧ Fr n0 L ∧ Keep h0 h [] ∧ h0.size ≤ b11 ∧ h0.size ≤ t15 ∧ b11 ≠ t15 ∧ Exa Z h b11 cC0 ∧ Fld Z h b11 cC0 "coder" "B" (VI 0) ∧ Fld Z h b11 cC0 "value" "[B" (VR t15) ∧ Arv Z h t15 kb15 .byte 1 [VI ((nar .char ((p2 &&& (255 : Int32)).toUInt32.toUInt16.toUInt32.toInt32)).toInt8.toInt32)] (VI 0)
set_option maxRecDepth 65536 in
set_option maxHeartbeats 40000000 in
theorem rm1_3 (l : Launch) (Z : State) (a0 : Array Value) (hw : HW a0 Z) (ws : List Jvm.Cond) (p1 : Int32) (p2 : Int32) (p3 : Int32) (p4 : Int32) (p16 : Int32) (h0 : Heap) (n0 : Nat) (Z0 : n0 ≤ h0.size) (f5 : ¬ ((1 : Int32) < (p1 &&& (3 : Int32)))) (f17 : Sta Z Z.heap "java/lang/String" "COMPACT_STRINGS" "Z" (.int p16)) (f18 : Old Z n0 h0) (f20 : ¬ (p16 = (0 : Int32))) :
    MetFree l yM1 (head1 (Jvm.Cond.code yM1 method_2_code 6 (some (.object "java/lang/String")) :: ws) ({ frames := 4, cells := 3, slots := 6, locals := 66 } : Room)) (fun a U => a = #[(.int p1), (.int p2), (.int p3), (.int p4)] ∧ Z.Warmed39 U.vm ∧ U.heap = h0) (fun _ _ _ _ _ => True) (fun _ U o U' => ∃ v L, o = .returned v ∧ Q1_3 Z p1 p2 p3 p4 p16 h0 n0 v U'.heap L ∧ FrameEnd U o U' L ({ frames := 4, cells := 3, slots := 6, locals := 66 } : Room).cells ({ frames := 4, cells := 3, slots := 6, locals := 66 } : Room).slots) := by
  refine own_enter (n0 := n0) (plainFor_of_name pn0) (fun m => ef1_3 m p1 p2 p3 p4) ?_
  intro p e s m below meth c s₁ hx hby hml hown hnm hret hlk X0 e0 hZ hh N0
  show own_Fin p e below _ s₁ (mkF m 0 #[SI p1, SI p2, SI p3, SI p4, SU, SU] [])
  refine own_go (fun _ k => XS.iloadN X0.here hx rfl (hb hby d1_0) rfl (XS.iconst X0.here hx rfl (hb hby d1_1) (XS.iand X0.here hx rfl (hb hby d1_2) rfl (XS.istore X0.here hx rfl (hb hby d1_3) rfl (l' := #[SI p1, SI p2, SI p3, SI p4, SI (p1 &&& (3 : Int32)), SU]) rfl (XS.iload X0.here hx rfl (hb hby d1_5) rfl (XS.iconst X0.here hx rfl (hb hby d1_7) (XS.icmpNo X0.here hx rfl (hb hby d1_8) rfl (flt f5).2.2.1 (XS.iconst X0.here hx rfl (hb hby d1_11) k)))))))) ?_
  show own_Fin p e below _ s₁ (mkF m 12 #[SI p1, SI p2, SI p3, SI p4, SI (p1 &&& (3 : Int32)), SU] [VI 1])
  obtain ⟨T6, h6, k6, X6, e6, E6, A6, st6⟩ := newP X0 hx hZ (WW hw 4) e0 (g := (mkF m 12 #[SI p1, SI p2, SI p3, SI p4, SI (p1 &&& (3 : Int32)), SU] [VI 1])) rfl (hb hby d1_12) rfl (by decide) (cap := 1) (by decide) (by decide) (by decide) (by decide)
  obtain ⟨b6, g6⟩ : ∃ z, z = h0.size := ⟨_, rfl⟩
  rw [← g6] at A6 st6
  have V6 : Arv Z h6 b6 k6 .char 1 [VI 0] (VI 0) := (Arv.new A6 (by decide)).pad (pad_rep [] (.int (0 : Int32)) 1)
  refine own_go st6 ?_
  show own_Fin p e below _ T6 (mkF m 14 #[SI p1, SI p2, SI p3, SI p4, SI (p1 &&& (3 : Int32)), SU] [VR b6])
  refine own_go (fun _ k => XS.astore X6.here hx rfl (hb hby d1_14) rfl rfl (l' := #[SI p1, SI p2, SI p3, SI p4, SI (p1 &&& (3 : Int32)), SR b6]) rfl (XS.aload X6.here hx rfl (hb hby d1_16) rfl rfl (XS.iconst X6.here hx rfl (hb hby d1_18) (XS.iloadN X6.here hx rfl (hb hby d1_19) rfl (XS.sipush X6.here hx rfl (hb hby d1_20) (XS.iand X6.here hx rfl (hb hby d1_23) rfl (XS.i2c X6.here hx rfl (hb hby d1_24) rfl k))))))) ?_
  show own_Fin p e below _ T6 (mkF m 25 #[SI p1, SI p2, SI p3, SI p4, SI (p1 &&& (3 : Int32)), SR b6] [VI ((p2 &&& (255 : Int32)).toUInt32.toUInt16.toUInt32.toInt32), VI 0, VR b6])
  obtain ⟨cl7, Ar7, q7, Sz7, Nn7, Hs7, Gg7⟩ := id V6
  have i8 : ¬ ((0 : Int32) < 0 ∨ cl7.slots.size ≤ ((0 : Int32)).toNatClampNeg) := inb_of Sz7 ⟨(by decide : ¬ ((0 : Int32) < (0 : Int32))), (by decide : (0 : Int32) < (1 : Int32))⟩
  obtain ⟨T9, h9, X9, e9, W9, st9⟩ := stC X6 hx hZ e6 Ar7 (j := (0 : Int32)) i8 (g := (mkF m 25 #[SI p1, SI p2, SI p3, SI p4, SI (p1 &&& (3 : Int32)), SR b6] [VI ((p2 &&& (255 : Int32)).toUInt32.toUInt16.toUInt32.toInt32), VI 0, VR b6])) rfl rfl (hb hby d1_25)
  have u10 : n0 ≤ b6 := Nat.le_trans Z0 (Nat.le_of_eq g6.symm)
  have N9 := Fr.snoc X9 N0 u10
  have V9 : Arv Z h9 b6 k6 .char 1 [VI (nar .char ((p2 &&& (255 : Int32)).toUInt32.toUInt16.toUInt32.toInt32))] (VI 0) := Arv.set Ar7 q7 Sz7 Nn7 Hs7 Gg7 (fits_nar_char _) W9 0 rfl (Nat.le_of_ble_eq_true rfl)
  refine own_go st9 ?_
  show own_Fin p e below _ T9 (mkF m 26 #[SI p1, SI p2, SI p3, SI p4, SI (p1 &&& (3 : Int32)), SR b6] [])
  obtain ⟨T11, h11, X11, e11, E11, A11, D11, -, st11⟩ := newO X9 hx hZ hown (WW hw 5) (WW hw 6) (WW hw 7) e9 (g := (mkF m 26 #[SI p1, SI p2, SI p3, SI p4, SI (p1 &&& (3 : Int32)), SR b6] [])) rfl (hb hby d1_26) (by decide) (by decide)
  obtain ⟨b11, g11⟩ : ∃ z, z = h9.size := ⟨_, rfl⟩
  rw [← g11] at A11 D11 st11
  have F12 : Fld Z h11 b11 cC0 "coder" "B" (VI 0) := D11 (Or.inr (WW hw 31)) (ty := .byte) (by decide)
  have F13 : Fld Z h11 b11 cC0 "value" "[B" (.null) := D11 (Or.inr (WW hw 33)) (ty := (.array .byte)) (by decide)
  refine own_go st11 ?_
  show own_Fin p e below _ T11 (mkF m 29 #[SI p1, SI p2, SI p3, SI p4, SI (p1 &&& (3 : Int32)), SR b6] [VR b11])
  refine own_go (fun _ k => XS.dup X11.here hx rfl (hb hby d1_29) rfl rfl (XS.aload X11.here hx rfl (hb hby d1_30) rfl rfl k)) ?_
  show own_Fin p e below _ T11 (mkF m 32 #[SI p1, SI p2, SI p3, SI p4, SI (p1 &&& (3 : Int32)), SR b6] [VR b6, VR b11, VR b11])
  have F14 : Arv Z h11 b6 k6 .char 1 [VI (nar .char ((p2 &&& (255 : Int32)).toUInt32.toUInt16.toUInt32.toInt32))] (VI 0) := (V9.ext E11)
  have O19 : Old Z n0 h11 := (((f18.ext E6).wr W9 u10).ext E11)
  have hws : ∀ d ∈ StrChars.Road.words, d.before a0 Z = true := fun d hd => hw d ((by decide +kernel : ∀ d ∈ StrChars.Road.words, d ∈ tables_1) d hd)
  have hp21 : ∀ c ∈ ([(nar .char ((p2 &&& (255 : Int32)).toUInt32.toUInt16.toUInt32.toInt32))] : List Int32), ¬ c < 0 ∧ ¬ (255 : Int32) < c := (own_allS (own_and255 p2) own_all0)
  have z23 : h0.size ≤ h6.size := E6.1
  have z24 : h0.size ≤ h9.size := Nat.le_trans z23 (Nat.le_of_eq (Wr.size W9).symm)
  have u22 : n0 ≤ b11 := Nat.le_trans Z0 (Nat.le_trans z24 (Nat.le_of_eq g11.symm))
  have z25 : h0.size ≤ h11.size := Nat.le_trans z24 E11.1
  obtain ⟨_, _, ⟨T15, L15, k15, n15⟩, -, X15, ⟨Lc15, hQ15, l15, y15, z15⟩, st15⟩ := X11.specialBack hx (y := yM0) rfl hown (mvT hZ (WW hw 8)) (mvT hZ (WW hw 9)) (mvT hZ (WW hw 10)) (by decide) (StrChars.Road.backV (W := 1) hZ hws (kI := 4) (WW hw 6) (cs := ([(nar .char ((p2 &&& (255 : Int32)).toUInt32.toUInt16.toUInt32.toInt32))] : List Int32)) (bs := ([(nar .char ((p2 &&& (255 : Int32)).toUInt32.toUInt16.toUInt32.toInt32))] : List Int32).map (fun c => c.toInt8.toInt32)) (n := 1) u22 (Nat.le_trans Z0 z25) A11 F13 F12 F14 (f17.ext O19.2) f20 rfl rfl (by decide) (by decide) hp21 rfl (by decide) (by decide)) (g := (mkF m 32 #[SI p1, SI p2, SI p3, SI p4, SI (p1 &&& (3 : Int32)), SR b6] [VR b6, VR b11, VR b11])) rfl (by rw [hml]; rfl) (Steps.refl _) (a := b11) (argsL := [VR b6]) (rest := [VR b11]) (lenOf pd0 rfl) rfl (by show 2 * 0 + _ ≤ _; exact Nat.le_of_eq rfl) (hb hby d1_32) (fun _ _ => ⟨rfl, e11, (by decide : 2 + 1 ≤ _), (by decide : 5 + 1 ≤ _)⟩)
  dsimp only [Pt.U, Pt.locs, Pt.cells, Pt.slots] at X15 l15 y15 z15 st15 hQ15
  subst l15 y15 z15
  obtain ⟨rfl, N15q, K15, oE15, oC15, t15, kb15, -, lo15, nt15, oV15, oA15⟩ := hQ15
  have N15 := Fr.app N9 N15q
  refine own_go (fun _ k => st15.trans k) ?_
  show own_Fin p e below _ T15 (mkF m 35 #[SI p1, SI p2, SI p3, SI p4, SI (p1 &&& (3 : Int32)), SR b6] [VR b11])
  have K26 : Keep h0 T15.heap [] := (((((Keep.refl h0 []).ext E6).wr W9 (Or.inr (Nat.le_of_eq g6.symm))).ext E11).trans K15 (allS (Or.inr (Nat.le_trans z24 (Nat.le_of_eq g11.symm))) all0))
  obtain ⟨fs, hr, hrun, hended, hW, hsame⟩ := X15.leave (v := some (.ref b11)) (fun h => by rw [hret] at h; cases h)
  refine own_end (retOut X15 hx hret rfl (Or.inr (Or.inr (Or.inr (Or.inr ⟨rfl, rfl, rfl⟩)))) (hb hby d1_35) hr) hrun hended ⟨_, _, rfl, ?_, ⟨_, rfl⟩, hW, hsame.mono (by decide) (by decide)⟩
  show Q1_3 Z p1 p2 p3 p4 p16 h0 n0 _ T15.heap _
  exact ⟨b11, t15, kb15, rfl, N15, K26, (Nat.le_trans z24 (Nat.le_of_eq g11.symm)), (Nat.le_trans z25 lo15), (Ne.symm nt15), oE15, oC15, oV15, oA15⟩
theorem ef12_3 (m : MethodId) (a1 : Addr) : entryFrame m #[(.ref a1)] 1 = mkF m 0 #[SR a1] [] := by first | (simp [entryFrame, mkF, argsToLocals, Value.category]; done) | rfl
def Q12_3 (Z : State) (a1 : Addr) (a2 : Addr) (k5 : ClassId) (p6 : Int32) (h0 : Heap) (n0 : Nat) (v : Option Value) (h : Heap) (L : List Loc) : Prop := v = some (.int (0 : Int32)) ∧ Fr n0 L ∧ h = h0
set_option maxRecDepth 65536 in
set_option maxHeartbeats 40000000 in
theorem rm12_3 (l : Launch) (Z : State) (a0 : Array Value) (hw : HW a0 Z) (ws : List Jvm.Cond) (a1 : Addr) (a2 : Addr) (k5 : ClassId) (p6 : Int32) (h0 : Heap) (n0 : Nat) (Z0 : n0 ≤ h0.size) (f3 : Fld Z h0 a1 cC0 "value" "[B" (VR a2)) (f7 : Arv Z h0 a2 k5 .byte 1 [VI p6] (VI 0)) :
    MetFree l yM4 (head1 (Jvm.Cond.code yM4 jdk_42_method_55_code 1 (some .boolean) :: ws) ({ frames := 0, cells := 0, slots := 0, locals := 0 } : Room)) (fun a U => a = #[(.ref a1)] ∧ Z.Warmed39 U.vm ∧ U.heap = h0) (fun _ _ _ _ _ => True) (fun _ U o U' => ∃ v L, o = .returned v ∧ Q12_3 Z a1 a2 k5 p6 h0 n0 v U'.heap L ∧ FrameEnd U o U' L ({ frames := 0, cells := 0, slots := 0, locals := 0 } : Room).cells ({ frames := 0, cells := 0, slots := 0, locals := 0 } : Room).slots) := by
  refine own_enter (n0 := n0) (plainFor_of_name pn2) (fun m => ef12_3 m a1) ?_
  intro p e s m below meth c s₁ hx hby hml hown hnm hret hlk X0 e0 hZ hh N0
  show own_Fin p e below _ s₁ (mkF m 0 #[SR a1] [])
  refine own_go (fun _ k => XS.aloadN X0.here hx rfl (hb hby d12_0) rfl rfl k) ?_
  show own_Fin p e below _ s₁ (mkF m 1 #[SR a1] [VR a1])
  obtain ⟨T4, X4, e4, st4⟩ := getF X0 hx hZ hown (host := "") (Or.inl (WW hw 32)) Via.refl e0 f3 (g := (mkF m 1 #[SR a1] [VR a1])) rfl rfl (hb hby d12_1)
  refine own_go st4 ?_
  show own_Fin p e below _ T4 (mkF m 4 #[SR a1] [VR a2])
  obtain ⟨cl8, Ar8, q8, Sz8, Nn8, Hs8, Gg8⟩ := id f7
  refine own_go (fun _ k => X4.arraylength hx (by rw [e4]; exact Ar8.1) (State.isArrayOf_alike hZ.alike Ar8.2.1) (g := (mkF m 4 #[SR a1] [VR a2])) rfl rfl (hb hby d12_4) _ k) ?_
  rw [len_of Sz8 Nn8]
  show own_Fin p e below _ T4 (mkF m 5 #[SR a1] [VI 1])
  refine own_go (fun _ k => XS.ifYes X4.here hx rfl (pc0 := 5) (pc' := 12) rfl (hb hby d12_5) rfl ((if0 _ _).trans (feq (by decide : ¬ ((1 : Int32) = (0 : Int32)))).2) (by decide) (by decide) (XS.iconst X4.here hx rfl (hb hby d12_12) k)) ?_
  show own_Fin p e below _ T4 (mkF m 13 #[SR a1] [VI 0])
  obtain ⟨fs, hr, hrun, hended, hW, hsame⟩ := X4.leave (v := some (.int (0 : Int32))) (fun h => by rw [hret] at h; cases h)
  refine own_end (retN X4 hx (t := .boolean) hret (by simp) (hb hby d12_13) hr) hrun hended ⟨_, _, rfl, ?_, ⟨_, rfl⟩, hW, hsame.mono (by decide) (by decide)⟩
  show Q12_3 Z a1 a2 k5 p6 h0 n0 _ T4.heap _
  rw [e4]
  exact ⟨rfl, N0, rfl⟩
theorem ef9_3 (m : MethodId) (a1 : Addr) (a2 : Addr) (a3 : Addr) : entryFrame m #[(.ref a1), (.ref a2), (.ref a3), .null] 5 = mkF m 0 #[SR a1, SR a2, SR a3, SN, SU] [] := by first | (simp [entryFrame, mkF, argsToLocals, Value.category]; done) | rfl
def Q9_3 (Z : State) (a1 : Addr) (a2 : Addr) (a3 : Addr) (a10 : Addr) (k13 : ClassId) (p14 : Int32) (a18 : Addr) (h0 : Heap) (n0 : Nat) (v : Option Value) (h : Heap) (L : List Loc) : Prop := v = none ∧ Fr n0 L ∧ Keep h0 h [a1] ∧ Exa Z h a1 cC2 ∧ Fld Z h a1 cC2 "outcome" cC3 (VR a2) ∧ Fld Z h a1 cC2 "transactionId" cC4 (VR a3) ∧ Fld Z h a1 cC2 "declineReason" cC4 (.null)
set_option maxRecDepth 65536 in
set_option maxHeartbeats 40000000 in
theorem rm9_3 (l : Launch) (Z : State) (a0 : Array Value) (hw : HW a0 Z) (ws : List Jvm.Cond) (a1 : Addr) (a2 : Addr) (a3 : Addr) (a10 : Addr) (k13 : ClassId) (p14 : Int32) (a18 : Addr) (h0 : Heap) (n0 : Nat) (Z0 : n0 ≤ h0.size) (f8 : Exa Z h0 a3 cC0) (f11 : Fld Z h0 a3 cC0 "value" "[B" (VR a10)) (f15 : Arv Z h0 a10 k13 .byte 1 [VI p14] (VI 0)) (f19 : Sta Z Z.heap "com/example/holdfast/holdfast/core/GatewayAnswer$Outcome" "DECLINED" "Lcom/example/holdfast/holdfast/core/GatewayAnswer$Outcome;" (.ref a18)) (f20 : Old Z n0 h0) (f23 : a2 ≠ a18) (f24 : Exa Z h0 a1 cC2) (f26 : Fld Z h0 a1 cC2 "outcome" cC3 (.null)) (f29 : n0 ≤ a1) (f31 : Fld Z h0 a1 cC2 "transactionId" cC4 (.null)) (f35 : Fld Z h0 a1 cC2 "declineReason" cC4 (.null)) :
    MetFree l yM5 (head1 (Jvm.Cond.code yM5 prog_1_method_1_code 5 none :: ws) ({ frames := 2, cells := 2, slots := 32, locals := 24 } : Room)) (fun a U => a = #[(.ref a1), (.ref a2), (.ref a3), .null] ∧ Z.Warmed39 U.vm ∧ U.heap = h0) (fun _ _ _ _ _ => True) (fun _ U o U' => ∃ v L, o = .returned v ∧ Q9_3 Z a1 a2 a3 a10 k13 p14 a18 h0 n0 v U'.heap L ∧ ReturnedEndW U o U' L ({ frames := 2, cells := 2, slots := 32, locals := 24 } : Room).cells ({ frames := 2, cells := 2, slots := 32, locals := 24 } : Room).slots) := by
  refine own_enter (n0 := n0) (plainFor_of_name pn8) (fun m => ef9_3 m a1 a2 a3) ?_
  intro p e s m below meth c s₁ hx hby hml hown hnm hret hlk XY0 e0 hZ hh N0
  have X0 : Stand p l e ({ frames := 2, cells := 2, slots := 32, locals := 24 } : Room) (s.setVm s.vm) m _ below meth c s₁ [] 0 0 := XY0
  have hS0 : s.Since s.vm h0.size := (State.WarmedH.refl s).since _
  have hk0 : h0.size ≤ h0.size := Nat.le_refl _
  show own_Fin p e below _ s₁ (mkF m 0 #[SR a1, SR a2, SR a3, SN, SU] [])
  refine own_go (fun _ k => XS.aloadN X0.here hx rfl (hb hby d9_0) rfl rfl k) ?_
  show own_Fin p e below _ s₁ (mkF m 1 #[SR a1, SR a2, SR a3, SN, SU] [VR a1])
  obtain ⟨_, T4, L4, X4, hQ4, st4⟩ := own_cI X0 hx hZ hown (WW hw 46) (WW hw 47) (WW hw 49) (WW hw 50) (rm10_1 l Z a0 hw [] a1 h0 n0 Z0 ) e0 hml (g := (mkF m 1 #[SR a1, SR a2, SR a3, SN, SU] [VR a1])) pd2 (hb hby d9_1) a1 [] [] (W := 0)
  obtain ⟨rfl, N4q, e4⟩ := hQ4
  have N4 := Fr.app N0 N4q
  refine own_go st4 ?_
  show own_Fin p e below _ T4 (mkF m 4 #[SR a1, SR a2, SR a3, SN, SU] [])
  refine own_go (fun _ k => XS.aloadN X4.here hx rfl (hb hby d9_4) rfl rfl k) ?_
  show own_Fin p e below _ T4 (mkF m 5 #[SR a1, SR a2, SR a3, SN, SU] [VR a2])
  have wS : ∀ d ∈ Bundle.stringAtoms, d.before a0 Z = true := fun d hd => hw d ((by decide +kernel : ∀ d ∈ Bundle.stringAtoms, d ∈ tables_1) d hd)
  obtain ⟨a5, T5, h5, k5, X5, e5, E5, hS5, hk5, hZ5, ho5, st5⟩ := ldcS (vm0 := (s.setVm s.vm).vm) X4 hx hZ hown (WW hw 52) wS e4 hS0 hk0 (g := (mkF m 5 #[SR a1, SR a2, SR a3, SN, SU] [VR a2])) rfl (hb hby d9_5) (n := 28) (by decide) (by decide) (by decide) (by decide)
  refine own_go st5 ?_
  show own_Fin p e below _ T5 (mkF m 7 #[SR a1, SR a2, SR a3, SN, SU] [VR a5, VR a2])
  have z7 : h0.size ≤ h5.size := E5.1
  obtain ⟨_, T6, L6, X6, hQ6, st6⟩ := own_cS X5 hx hZ5 ho5 (WW hw 55) (WW hw 56) (WW hw 57) (WW hw 58) (rm11_1 l Z a0 hw [] a2 a5 h5 n0 (Nat.le_trans Z0 z7) ) e5 hml (g := (mkF m 7 #[SR a1, SR a2, SR a3, SN, SU] [VR a5, VR a2])) pd3 (hb hby d9_7) [VR a2, VR a5] [] (W := 0)
  obtain ⟨rfl, N6q, e6⟩ := hQ6
  have N6 := Fr.app N4 N6q
  refine own_go st6 ?_
  show own_Fin p e below _ T6 (mkF m 10 #[SR a1, SR a2, SR a3, SN, SU] [VR a2])
  refine own_go (fun _ k => XS.pop X6.here hx rfl (hb hby d9_10) rfl rfl (XS.aloadN X6.here hx rfl (hb hby d9_11) rfl rfl (XS.ifnullNo X6.here hx rfl (hb hby d9_12) rfl (XS.aloadN X6.here hx rfl (hb hby d9_15) rfl rfl k)))) ?_
  show own_Fin p e below _ T6 (mkF m 16 #[SR a1, SR a2, SR a3, SN, SU] [VR a3])
  have F9 : Exa Z h5 a3 cC0 := (f8.ext E5)
  have F12 : Fld Z h5 a3 cC0 "value" "[B" (VR a10) := (f11.ext E5)
  have F16 : Arv Z h5 a10 k13 .byte 1 [VI p14] (VI 0) := (f15.ext E5)
  obtain ⟨_, T17, L17, X17, hQ17, st17⟩ := own_cV X6 hx hZ5 ho5 (WW hw 59) (WW hw 60) (notFace_of_selects (args := #[]) (mvT hZ5 (WW hw 62))) (WW hw 62) (WW hw 61) (WW hw 7) (WW hw 63) (rm12_3 l Z a0 hw [] a3 a10 k13 p14 h5 n0 (Nat.le_trans Z0 z7) F12 F16) e6 F9 hml (g := (mkF m 16 #[SR a1, SR a2, SR a3, SN, SU] [VR a3])) pd4 (hb hby d9_16) [] [] (W := 0)
  obtain ⟨rfl, N17q, e17⟩ := hQ17
  have N17 := Fr.app N6 N17q
  refine own_go st17 ?_
  show own_Fin p e below _ T17 (mkF m 19 #[SR a1, SR a2, SR a3, SN, SU] [VI 0])
  refine own_go (fun _ k => XS.ifYes X17.here hx rfl (pc0 := 19) (pc' := 32) rfl (hb hby d9_19) rfl ((if0 _ _).trans (teq (by decide : (0 : Int32) = (0 : Int32))).1) (by decide) (by decide) (XS.aloadN X17.here hx rfl (hb hby d9_32) rfl rfl k)) ?_
  show own_Fin p e below _ T17 (mkF m 33 #[SR a1, SR a2, SR a3, SN, SU] [VR a2])
  have O21 : Old Z n0 h5 := (f20.ext E5)
  obtain ⟨T22, X22, e22, st22⟩ := getS2 X17 hx hZ5 ho5 (host := "") (Or.inl (WW hw 64)) Via.refl e17 (f19.ext O21.2) (g := (mkF m 33 #[SR a1, SR a2, SR a3, SN, SU] [VR a2])) rfl (hb hby d9_33)
  refine own_go st22 ?_
  show own_Fin p e below _ T22 (mkF m 36 #[SR a1, SR a2, SR a3, SN, SU] [VR a18, VR a2])
  refine own_go (fun _ k => Jvm.RoadKit.acmp (g := (mkF m 36 #[SR a1, SR a2, SR a3, SN, SU] [VR a18, VR a2])) X22 hx rfl rfl rfl (pc0 := 36) (pc' := 43) (same := false) rfl (hb hby d9_36) rfl (decide_eq_false fun q => f23 (Value.ref.inj q)) (by decide) (by decide) (XS.iconst X22.here hx rfl (hb hby d9_43) (XS.istore X22.here hx rfl (hb hby d9_44) rfl (l' := #[SR a1, SR a2, SR a3, SN, SI 0]) rfl (XS.iload X22.here hx rfl (hb hby d9_46) rfl (XS.aloadN X22.here hx rfl (hb hby d9_48) rfl rfl (XS.ifnullYes X22.here hx rfl (pc0 := 49) (pc' := 63) rfl (hb hby d9_49) rfl (by decide) (by decide) (XS.iconst X22.here hx rfl (hb hby d9_63) (XS.icmpYes X22.here hx rfl (pc0 := 64) (pc' := 77) rfl (hb hby d9_64) rfl (teq (by decide : (0 : Int32) = (0 : Int32))).1 (by decide) (by decide) (XS.aloadN X22.here hx rfl (hb hby d9_77) rfl rfl (XS.aloadN X22.here hx rfl (hb hby d9_78) rfl rfl k)))))))))) ?_
  show own_Fin p e below _ T22 (mkF m 79 #[SR a1, SR a2, SR a3, SN, SI 0] [VR a2, VR a1])
  have F25 : Exa Z h5 a1 cC2 := (f24.ext E5)
  have F27 : Fld Z h5 a1 cC2 "outcome" cC3 (.null) := (f26.ext E5)
  obtain ⟨T28, h28, X28, e28, W28, st28⟩ := putF X22 hx hZ5 ho5 (host := "") (Or.inl (WW hw 66)) Via.refl e22 F27 F25 (Or.inr ⟨(WW hw 67), rfl, hnm⟩) (WW hw 39) (ty := (.object "com/example/holdfast/holdfast/core/GatewayAnswer$Outcome")) (by decide) rfl rfl (g := (mkF m 79 #[SR a1, SR a2, SR a3, SN, SI 0] [VR a2, VR a1])) rfl rfl (hb hby d9_79)
  have N28 := Fr.snoc X28 N17 f29
  have Fw28 : Fld Z h28 a1 cC2 "outcome" cC3 (VR a2) := F27.same W28
  refine own_go st28 ?_
  show own_Fin p e below _ T28 (mkF m 82 #[SR a1, SR a2, SR a3, SN, SI 0] [])
  refine own_go (fun _ k => XS.aloadN X28.here hx rfl (hb hby d9_82) rfl rfl (XS.aloadN X28.here hx rfl (hb hby d9_83) rfl rfl k)) ?_
  show own_Fin p e below _ T28 (mkF m 84 #[SR a1, SR a2, SR a3, SN, SI 0] [VR a3, VR a1])
  have F30 : Exa Z h28 a1 cC2 := (F25.wr W28)
  have F32 : Fld Z h28 a1 cC2 "transactionId" cC4 (.null) := ((f31.ext E5).other W28 (Or.inr (slot_ne (Or.inr (WW hw 69)) (Or.inr (WW hw 67)) (by decide) (t := (.object "java/lang/String")) (t' := (.object "com/example/holdfast/holdfast/core/GatewayAnswer$Outcome")) (by decide) (by decide))))
  obtain ⟨T33, h33, X33, e33, W33, st33⟩ := putF X28 hx hZ5 ho5 (host := "") (Or.inl (WW hw 68)) Via.refl e28 F32 F30 (Or.inr ⟨(WW hw 69), rfl, hnm⟩) (WW hw 39) (ty := (.object "java/lang/String")) (by decide) rfl rfl (g := (mkF m 84 #[SR a1, SR a2, SR a3, SN, SI 0] [VR a3, VR a1])) rfl rfl (hb hby d9_84)
  have N33 := Fr.snoc X33 N28 f29
  have Fw33 : Fld Z h33 a1 cC2 "transactionId" cC4 (VR a3) := F32.same W33
  refine own_go st33 ?_
  show own_Fin p e below _ T33 (mkF m 87 #[SR a1, SR a2, SR a3, SN, SI 0] [])
  refine own_go (fun _ k => XS.aloadN X33.here hx rfl (hb hby d9_87) rfl rfl (XS.aloadN X33.here hx rfl (hb hby d9_88) rfl rfl k)) ?_
  show own_Fin p e below _ T33 (mkF m 89 #[SR a1, SR a2, SR a3, SN, SI 0] [.null, VR a1])
  have F34 : Exa Z h33 a1 cC2 := (F30.wr W33)
  have F36 : Fld Z h33 a1 cC2 "declineReason" cC4 (.null) := (((f35.ext E5).other W28 (Or.inr (slot_ne (Or.inr (WW hw 71)) (Or.inr (WW hw 67)) (by decide) (t := (.object "java/lang/String")) (t' := (.object "com/example/holdfast/holdfast/core/GatewayAnswer$Outcome")) (by decide) (by decide)))).other W33 (Or.inr (slot_ne (Or.inr (WW hw 71)) (Or.inr (WW hw 69)) (by decide) (t := (.object "java/lang/String")) (t' := (.object "java/lang/String")) (by decide) (by decide))))
  obtain ⟨T37, h37, X37, e37, W37, st37⟩ := putF X33 hx hZ5 ho5 (host := "") (Or.inl (WW hw 70)) Via.refl e33 F36 F34 (Or.inr ⟨(WW hw 71), rfl, hnm⟩) (WW hw 39) (ty := (.object "java/lang/String")) (by decide) rfl rfl (g := (mkF m 89 #[SR a1, SR a2, SR a3, SN, SI 0] [.null, VR a1])) rfl rfl (hb hby d9_89)
  have N37 := Fr.snoc X37 N33 f29
  have Fw37 : Fld Z h37 a1 cC2 "declineReason" cC4 (.null) := F36.same W37
  refine own_go st37 ?_
  show own_Fin p e below _ T37 (mkF m 92 #[SR a1, SR a2, SR a3, SN, SI 0] [])
  have F38 : Exa Z h37 a1 cC2 := (F34.wr W37)
  have F39 : Fld Z h37 a1 cC2 "outcome" cC3 (VR a2) := ((Fw28.other W33 (Or.inr (slot_ne (Or.inr (WW hw 67)) (Or.inr (WW hw 69)) (by decide) (t := (.object "com/example/holdfast/holdfast/core/GatewayAnswer$Outcome")) (t' := (.object "java/lang/String")) (by decide) (by decide)))).other W37 (Or.inr (slot_ne (Or.inr (WW hw 67)) (Or.inr (WW hw 71)) (by decide) (t := (.object "com/example/holdfast/holdfast/core/GatewayAnswer$Outcome")) (t' := (.object "java/lang/String")) (by decide) (by decide))))
  have F40 : Fld Z h37 a1 cC2 "transactionId" cC4 (VR a3) := (Fw33.other W37 (Or.inr (slot_ne (Or.inr (WW hw 69)) (Or.inr (WW hw 71)) (by decide) (t := (.object "java/lang/String")) (t' := (.object "java/lang/String")) (by decide) (by decide))))
  have K41 : Keep h0 h37 [a1] := (((((Keep.refl h0 [a1]).ext E5).wr W28 (Or.inl (List.mem_of_getElem? (i := 0) rfl))).wr W33 (Or.inl (List.mem_of_getElem? (i := 0) rfl))).wr W37 (Or.inl (List.mem_of_getElem? (i := 0) rfl)))
  have z42 : h5.size ≤ h28.size := (Nat.le_of_eq (Wr.size W28).symm)
  have z43 : h5.size ≤ h33.size := Nat.le_trans z42 (Nat.le_of_eq (Wr.size W33).symm)
  have z44 : h5.size ≤ h37.size := Nat.le_trans z43 (Nat.le_of_eq (Wr.size W37).symm)
  obtain ⟨fs, hr, hrun, hended, hend⟩ := Jvm.Stand.leaveW X37 hS5 (by rw [e37]; exact (Nat.le_trans hk5 z44)) (v := none) (fun _ => rfl)
  refine own_end (X37.returnOut hx hret (hb hby d9_92) hr) hrun hended ⟨_, _, rfl, ?_, hend.1, hend.2.1, hend.2.2.1, hend.2.2.2.mono (by decide) (by decide)⟩
  show Q9_3 Z a1 a2 a3 a10 k13 p14 a18 h0 n0 _ T37.heap _
  rw [e37]
  exact ⟨rfl, N37, K41, F38, F39, F40, Fw37⟩
theorem ef8_3 (m : MethodId) (a1 : Addr) : entryFrame m #[(.ref a1)] 1 = mkF m 0 #[SR a1] [] := by first | (simp [entryFrame, mkF, argsToLocals, Value.category]; done) | rfl
def Q8_3 (Z : State) (a1 : Addr) (a6 : Addr) (a13 : Addr) (k16 : ClassId) (p17 : Int32) (a20 : Addr) (h0 : Heap) (n0 : Nat) (v : Option Value) (h : Heap) (L : List Loc) : Prop := ∃ (b2 : Addr), v = some (.ref b2) ∧ Fr n0 L ∧ Keep h0 h [] ∧ h0.size ≤ b2 ∧ Exa Z h b2 cC2 ∧ Fld Z h b2 cC2 "outcome" cC3 (VR a6) ∧ Fld Z h b2 cC2 "transactionId" cC4 (VR a1) ∧ Fld Z h b2 cC2 "declineReason" cC4 (.null)
set_option maxRecDepth 65536 in
set_option maxHeartbeats 40000000 in
theorem rm8_3 (l : Launch) (Z : State) (a0 : Array Value) (hw : HW a0 Z) (ws : List Jvm.Cond) (a1 : Addr) (a6 : Addr) (a13 : Addr) (k16 : ClassId) (p17 : Int32) (a20 : Addr) (h0 : Heap) (n0 : Nat) (Z0 : n0 ≤ h0.size) (f7 : Sta Z Z.heap "com/example/holdfast/holdfast/core/GatewayAnswer$Outcome" "PENDING" "Lcom/example/holdfast/holdfast/core/GatewayAnswer$Outcome;" (.ref a6)) (f8 : Old Z n0 h0) (f11 : Exa Z h0 a1 cC0) (f14 : Fld Z h0 a1 cC0 "value" "[B" (VR a13)) (f18 : Arv Z h0 a13 k16 .byte 1 [VI p17] (VI 0)) (f21 : Sta Z Z.heap "com/example/holdfast/holdfast/core/GatewayAnswer$Outcome" "DECLINED" "Lcom/example/holdfast/holdfast/core/GatewayAnswer$Outcome;" (.ref a20)) (f22 : a6 ≠ a20) :
    MetFree l yM6 (head1 (Jvm.Cond.code yM6 prog_1_method_4_code 1 (some (.object "com/example/holdfast/holdfast/core/GatewayAnswer")) :: ws) ({ frames := 3, cells := 3, slots := 35, locals := 41 } : Room)) (fun a U => a = #[(.ref a1)] ∧ Z.Warmed39 U.vm ∧ U.heap = h0) (fun _ _ _ _ _ => True) (fun _ U o U' => ∃ v L, o = .returned v ∧ Q8_3 Z a1 a6 a13 k16 p17 a20 h0 n0 v U'.heap L ∧ ReturnedEndW U o U' L ({ frames := 3, cells := 3, slots := 35, locals := 41 } : Room).cells ({ frames := 3, cells := 3, slots := 35, locals := 41 } : Room).slots) := by
  refine own_enter (n0 := n0) (plainFor_of_name pn8) (fun m => ef8_3 m a1) ?_
  intro p e s m below meth c s₁ hx hby hml hown hnm hret hlk XY0 e0 hZ hh N0
  have X0 : Stand p l e ({ frames := 3, cells := 3, slots := 35, locals := 41 } : Room) (s.setVm s.vm) m _ below meth c s₁ [] 0 0 := XY0
  have hS0 : s.Since s.vm h0.size := (State.WarmedH.refl s).since _
  have hk0 : h0.size ≤ h0.size := Nat.le_refl _
  show own_Fin p e below _ s₁ (mkF m 0 #[SR a1] [])
  obtain ⟨T2, h2, X2, e2, E2, A2, D2, -, st2⟩ := newO X0 hx hZ hown (WW hw 38) (WW hw 39) (WW hw 36) e0 (g := (mkF m 0 #[SR a1] [])) rfl (hb hby d8_0) (by decide) (by decide)
  obtain ⟨b2, g2⟩ : ∃ z, z = h0.size := ⟨_, rfl⟩
  rw [← g2] at A2 D2 st2
  have F3 : Fld Z h2 b2 cC2 "outcome" cC3 (.null) := D2 (Or.inr (WW hw 67)) (ty := (.object "com/example/holdfast/holdfast/core/GatewayAnswer$Outcome")) (by decide)
  have F4 : Fld Z h2 b2 cC2 "transactionId" cC4 (.null) := D2 (Or.inr (WW hw 69)) (ty := (.object "java/lang/String")) (by decide)
  have F5 : Fld Z h2 b2 cC2 "declineReason" cC4 (.null) := D2 (Or.inr (WW hw 71)) (ty := (.object "java/lang/String")) (by decide)
  refine own_go st2 ?_
  show own_Fin p e below _ T2 (mkF m 3 #[SR a1] [VR b2])
  refine own_go (fun _ k => XS.dup X2.here hx rfl (hb hby d8_3) rfl rfl k) ?_
  show own_Fin p e below _ T2 (mkF m 4 #[SR a1] [VR b2, VR b2])
  have O9 : Old Z n0 h2 := (f8.ext E2)
  obtain ⟨T10, X10, e10, st10⟩ := getS2 X2 hx hZ hown (host := "") (Or.inl (WW hw 40)) Via.refl e2 (f7.ext O9.2) (g := (mkF m 4 #[SR a1] [VR b2, VR b2])) rfl (hb hby d8_4)
  refine own_go st10 ?_
  show own_Fin p e below _ T10 (mkF m 7 #[SR a1] [VR a6, VR b2, VR b2])
  refine own_go (fun _ k => XS.aloadN X10.here hx rfl (hb hby d8_7) rfl rfl (XS.aconstNull X10.here hx rfl (hb hby d8_8) k)) ?_
  show own_Fin p e below _ T10 (mkF m 9 #[SR a1] [.null, VR a1, VR a6, VR b2, VR b2])
  have F12 : Exa Z h2 a1 cC0 := (f11.ext E2)
  have F15 : Fld Z h2 a1 cC0 "value" "[B" (VR a13) := (f14.ext E2)
  have F19 : Arv Z h2 a13 k16 .byte 1 [VI p17] (VI 0) := (f18.ext E2)
  have u24 : n0 ≤ b2 := Nat.le_trans Z0 (Nat.le_of_eq g2.symm)
  have z25 : h0.size ≤ h2.size := E2.1
  obtain ⟨_, T23, L23, X23, hQ23, hS23, hZ23, ho23, st23⟩ := own_cIW (vm0 := (s.setVm s.vm).vm) X10 hx hZ hown hS0 (Nat.le_trans hk0 z25) (WW hw 43) (WW hw 44) (WW hw 36) (WW hw 45) (rm9_3 l Z a0 hw [] b2 a6 a1 a13 k16 p17 a20 h2 n0 (Nat.le_trans Z0 z25) F12 F15 F19 f21 O9 f22 A2 F3 u24 F4 F5) e10 hml (g := (mkF m 9 #[SR a1] [.null, VR a1, VR a6, VR b2, VR b2])) pd5 (hb hby d8_9) b2 [VR a6, VR a1, .null] [VR b2] (W := 1)
  obtain ⟨rfl, N23q, K23, o0_23, o1_23, o2_23, o3_23⟩ := hQ23
  have N23 := Fr.app N0 N23q
  refine own_go st23 ?_
  show own_Fin p e below _ T23 (mkF m 12 #[SR a1] [VR b2])
  have K26 : Keep h0 T23.heap [] := (((Keep.refl h0 []).ext E2).trans K23 (allS (Or.inr (Nat.le_of_eq g2.symm)) all0))
  obtain ⟨fs, hr, hrun, hended, hend⟩ := Jvm.Stand.leaveW X23 hS23 (Nat.le_refl _) (v := some (.ref b2)) (fun h => by rw [hret] at h; cases h)
  refine own_end (retOut X23 hx hret rfl (Or.inr (Or.inr (Or.inr (Or.inr ⟨rfl, rfl, rfl⟩)))) (hb hby d8_12) hr) hrun hended ⟨_, _, rfl, ?_, hend.1, hend.2.1, hend.2.2.1, hend.2.2.2.mono (by decide) (by decide)⟩
  show Q8_3 Z a1 a6 a13 k16 p17 a20 h0 n0 _ T23.heap _
  exact ⟨b2, rfl, N23, K26, (Nat.le_of_eq g2.symm), o0_23, o1_23, o2_23, o3_23⟩
theorem ef0 (m : MethodId) (p1 : Int32) (p2 : Int32) (p3 : Int32) (p4 : Int32) : entryFrame m #[(.int p1), (.int p2), (.int p3), (.int p4)] maxLocals = mkF m 0 #[SI p1, SI p2, SI p3, SI p4, SU, SU] [] := by first | (simp [entryFrame, mkF, argsToLocals, Value.category, maxLocals]; done) | rfl
set_option maxRecDepth 65536 in
set_option maxHeartbeats 40000000 in
theorem rm0 (l : Launch) (Z : State) (a0 : Array Value) (hw : HW a0 Z) (ws : List Jvm.Cond) (p1 : Int32) (p2 : Int32) (p3 : Int32) (p4 : Int32) (G1 : Int32) (wP : Addr) (wD : Addr) (h0 : Heap) (n0 : Nat) (Z0 : n0 ≤ h0.size) (X00 : Old Z n0 h0) (O_G1 : Sta Z Z.heap "java/lang/String" "COMPACT_STRINGS" "Z" (.int G1)) (P_G1 : ¬ (G1 = (0 : Int32))) (O_wP : Sta Z Z.heap "com/example/holdfast/holdfast/core/GatewayAnswer$Outcome" "PENDING" "Lcom/example/holdfast/holdfast/core/GatewayAnswer$Outcome;" (.ref wP)) (E_wP : Exa Z h0 wP "com/example/holdfast/holdfast/core/GatewayAnswer$Outcome") (O_wD : Sta Z Z.heap "com/example/holdfast/holdfast/core/GatewayAnswer$Outcome" "DECLINED" "Lcom/example/holdfast/holdfast/core/GatewayAnswer$Outcome;" (.ref wD)) (E_wD : Exa Z h0 wD "com/example/holdfast/holdfast/core/GatewayAnswer$Outcome") (D_wP_wD : wP ≠ wD) :
    MetFree l x (head1 (Jvm.Cond.code x code maxLocals ret :: ws) room_1) (fun a U => a = #[(.int p1), (.int p2), (.int p3), (.int p4)] ∧ Z.Warmed39 U.vm ∧ U.heap = h0) (fun _ _ _ _ _ => True) (fun _ U o U' => ∃ v L, o = .returned v ∧ Q0 n0 v U'.heap L ∧ ReturnedEndW U o U' L 24 1152) := by
  refine own_enter (n0 := n0) (plainFor_of_name pn0) (fun m => ef0 m p1 p2 p3 p4) ?_
  intro p e s m below meth c s₁ hx hby hml hown hnm hret hlk XY0 e0 hZ hh N0
  replace hml : c.maxLocals = 6 := hml
  have X0 : Stand p l e room_1 (s.setVm s.vm) m _ below meth c s₁ [] 0 0 := XY0
  have hS0 : s.Since s.vm h0.size := (State.WarmedH.refl s).since _
  have hk0 : h0.size ≤ h0.size := Nat.le_refl _
  show own_Fin p e below _ s₁ (mkF m 0 #[SI p1, SI p2, SI p3, SI p4, SU, SU] [])
  refine own_go (fun _ k => XS.iloadN X0.here hx rfl (hb hby at_0) rfl (XS.iloadN X0.here hx rfl (hb hby at_1) rfl (XS.iloadN X0.here hx rfl (hb hby at_2) rfl (XS.iloadN X0.here hx rfl (hb hby at_3) rfl k)))) ?_
  show own_Fin p e below _ s₁ (mkF m 4 #[SI p1, SI p2, SI p3, SI p4, SU, SU] [VI p4, VI p3, VI p2, VI p1])
  by_cases hc0 : (1 : Int32) < (p1 &&& (3 : Int32))
  ·
    by_cases hc1 : (p1 &&& (3 : Int32)) = (2 : Int32)
    ·
      obtain ⟨_, T101, L101, X101, hQ101, st101⟩ := own_cS X0 hx hZ hown (WW hw 0) (WW hw 1) (WW hw 2) (WW hw 3) (rm1_1 l Z a0 hw [] p1 p2 p3 p4 G1 h0 n0 Z0 hc0 hc1 O_G1 X00 P_G1) e0 hml (g := (mkF m 4 #[SI p1, SI p2, SI p3, SI p4, SU, SU] [VI p4, VI p3, VI p2, VI p1])) pd1 (hb hby at_4) [VI p1, VI p2, VI p3, VI p4] [] (W := 0)
      obtain ⟨b15_101, t19_101, kb19_101, rfl, N101q, K101, lob15_101, lot19_101, neb15t19_101, o0_101, o1_101, o2_101, o3_101⟩ := hQ101
      have N101 := Fr.app N0 N101q
      refine own_go st101 ?_
      show own_Fin p e below _ T101 (mkF m 7 #[SI p1, SI p2, SI p3, SI p4, SU, SU] [VR b15_101])
      refine own_go (fun _ k => XS.astore X101.here hx rfl (hb hby at_7) rfl rfl (l' := #[SI p1, SI p2, SI p3, SI p4, SR b15_101, SU]) rfl (XS.aload X101.here hx rfl (hb hby at_9) rfl rfl k)) ?_
      show own_Fin p e below _ T101 (mkF m 11 #[SI p1, SI p2, SI p3, SI p4, SR b15_101, SU] [VR b15_101])
      have O102 : Old Z n0 T101.heap := (X00.keep K101 all0)
      have z104 : h0.size ≤ T101.heap.size := K101.1
      obtain ⟨_, T103, L103, X103, hQ103, hS103, hZ103, ho103, st103⟩ := own_cSW (vm0 := (s.setVm s.vm).vm) X101 hx hZ hown hS0 (Nat.le_trans hk0 z104) (WW hw 34) (WW hw 35) (WW hw 36) (WW hw 37) (rm8_1 l Z a0 hw [] b15_101 wP t19_101 kb19_101 ((nar .char ((p2 &&& (255 : Int32)).toUInt32.toUInt16.toUInt32.toInt32)).toInt8.toInt32) ((nar .char ((p3 &&& (255 : Int32)).toUInt32.toUInt16.toUInt32.toInt32)).toInt8.toInt32) wD T101.heap n0 (Nat.le_trans Z0 z104) O_wP O102 o0_101 o2_101 o3_101 O_wD D_wP_wD) rfl hml (g := (mkF m 11 #[SI p1, SI p2, SI p3, SI p4, SR b15_101, SU] [VR b15_101])) pd6 (hb hby at_11) [VR b15_101] [] (W := 0)
      obtain ⟨b2_103, rfl, N103q, K103, lob2_103, o0_103, o1_103, o2_103, o3_103⟩ := hQ103
      have N103 := Fr.app N101 N103q
      refine own_go st103 ?_
      show own_Fin p e below _ T103 (mkF m 14 #[SI p1, SI p2, SI p3, SI p4, SR b15_101, SU] [VR b2_103])
      refine own_go (fun _ k => XS.astore X103.here hx rfl (hb hby at_14) rfl rfl (l' := #[SI p1, SI p2, SI p3, SI p4, SR b15_101, SR b2_103]) rfl (XS.aload X103.here hx rfl (hb hby at_16) rfl rfl k)) ?_
      show own_Fin p e below _ T103 (mkF m 18 #[SI p1, SI p2, SI p3, SI p4, SR b15_101, SR b2_103] [VR b2_103])
      have z106 : h0.size ≤ T103.heap.size := Nat.le_trans z104 K103.1
      obtain ⟨_, T105, L105, X105, hQ105, st105⟩ := own_cV X103 hx hZ103 ho103 (WW hw 72) (WW hw 73) (notFace_of_selects (args := #[]) (mvT hZ103 (WW hw 75))) (WW hw 75) (WW hw 74) (WW hw 36) (WW hw 76) (rm13_1 l Z a0 hw [] b2_103 wP T103.heap n0 (Nat.le_trans Z0 z106) o1_103) rfl o0_103 hml (g := (mkF m 18 #[SI p1, SI p2, SI p3, SI p4, SR b15_101, SR b2_103] [VR b2_103])) pd7 (hb hby at_18) [] [] (W := 0)
      obtain ⟨rfl, N105q, e105⟩ := hQ105
      have N105 := Fr.app N103 N105q
      refine own_go st105 ?_
      show own_Fin p e below _ T105 (mkF m 21 #[SI p1, SI p2, SI p3, SI p4, SR b15_101, SR b2_103] [VR wP])
      have O107 : Old Z n0 T103.heap := (O102.keep K103 all0)
      obtain ⟨T108, X108, e108, st108⟩ := getS2 X105 hx hZ103 ho103 (host := "") (Or.inl (WW hw 77)) Via.refl e105 (O_wP.ext O107.2) (g := (mkF m 21 #[SI p1, SI p2, SI p3, SI p4, SR b15_101, SR b2_103] [VR wP])) rfl (hb hby at_21)
      refine own_go st108 ?_
      show own_Fin p e below _ T108 (mkF m 24 #[SI p1, SI p2, SI p3, SI p4, SR b15_101, SR b2_103] [VR wP, VR wP])
      refine own_go (fun _ k => Jvm.RoadKit.acmp (g := (mkF m 24 #[SI p1, SI p2, SI p3, SI p4, SR b15_101, SR b2_103] [VR wP, VR wP])) X108 hx rfl rfl rfl (pc0 := 24) (pc' := 27) (same := true) rfl (hb hby at_24) rfl (decide_eq_true rfl) (by decide) (by decide) (XS.aload X108.here hx rfl (hb hby at_27) rfl rfl (XS.aload X108.here hx rfl (hb hby at_29) rfl rfl k))) ?_
      show own_Fin p e below _ T108 (mkF m 31 #[SI p1, SI p2, SI p3, SI p4, SR b15_101, SR b2_103] [VR b2_103, VR b15_101])
      obtain ⟨_, T109, L109, X109, hQ109, st109⟩ := own_cV X108 hx hZ103 ho103 (WW hw 78) (WW hw 79) (notFace_of_selects (args := #[]) (mvT hZ103 (WW hw 81))) (WW hw 81) (WW hw 80) (WW hw 36) (WW hw 82) (rm14_1 l Z a0 hw [] b2_103 b15_101 T103.heap n0 (Nat.le_trans Z0 z106) o2_103) e108 o0_103 hml (g := (mkF m 31 #[SI p1, SI p2, SI p3, SI p4, SR b15_101, SR b2_103] [VR b2_103, VR b15_101])) pd8 (hb hby at_31) [] [VR b15_101] (W := 1)
      obtain ⟨rfl, N109q, e109⟩ := hQ109
      have N109 := Fr.app N105 N109q
      refine own_go st109 ?_
      show own_Fin p e below _ T109 (mkF m 34 #[SI p1, SI p2, SI p3, SI p4, SR b15_101, SR b2_103] [VR b15_101, VR b15_101])
      have F110 : Exa Z T103.heap b15_101 cC0 := (o0_101.keep K103)
      obtain ⟨_, T111, L111, X111, hQ111, st111⟩ := own_cV X109 hx hZ103 ho103 (WW hw 83) (WW hw 84) (notFace_of_selects (args := #[]) (mvT hZ103 (WW hw 86))) (WW hw 86) (WW hw 85) (WW hw 7) (WW hw 87) (rm15_1 l Z a0 hw [] b15_101 T103.heap n0 (Nat.le_trans Z0 z106) ) e109 F110 hml (g := (mkF m 34 #[SI p1, SI p2, SI p3, SI p4, SR b15_101, SR b2_103] [VR b15_101, VR b15_101])) pd9 (hb hby at_34) [VR b15_101] [] (W := 0)
      obtain ⟨rfl, N111q, e111⟩ := hQ111
      have N111 := Fr.app N109 N111q
      refine own_go st111 ?_
      show own_Fin p e below _ T111 (mkF m 37 #[SI p1, SI p2, SI p3, SI p4, SR b15_101, SR b2_103] [VI 1])
      refine own_go (fun _ k => XS.ifNo X111.here hx rfl (hb hby at_37) rfl ((if0 _ _).trans (feq (by decide : ¬ ((1 : Int32) = (0 : Int32)))).1) (XS.aload X111.here hx rfl (hb hby at_40) rfl rfl k)) ?_
      show own_Fin p e below _ T111 (mkF m 42 #[SI p1, SI p2, SI p3, SI p4, SR b15_101, SR b2_103] [VR b2_103])
      obtain ⟨_, T112, L112, X112, hQ112, st112⟩ := own_cV X111 hx hZ103 ho103 (WW hw 88) (WW hw 89) (notFace_of_selects (args := #[]) (mvT hZ103 (WW hw 91))) (WW hw 91) (WW hw 90) (WW hw 36) (WW hw 92) (rm16_1 l Z a0 hw [] b2_103 T103.heap n0 (Nat.le_trans Z0 z106) o3_103) e111 o0_103 hml (g := (mkF m 42 #[SI p1, SI p2, SI p3, SI p4, SR b15_101, SR b2_103] [VR b2_103])) pd8 (hb hby at_42) [] [] (W := 0)
      obtain ⟨rfl, N112q, e112⟩ := hQ112
      have N112 := Fr.app N111 N112q
      refine own_go st112 ?_
      show own_Fin p e below _ T112 (mkF m 45 #[SI p1, SI p2, SI p3, SI p4, SR b15_101, SR b2_103] [.null])
      refine own_go (fun _ k => XS.ifnonnullNo X112.here hx rfl (hb hby at_45) rfl (XS.iconst X112.here hx rfl (hb hby at_48) (XS.goto X112.here hx rfl (pc0 := 49) (pc' := 53) rfl (hb hby at_49) (by decide) (by decide) k))) ?_
      show own_Fin p e below _ T112 (mkF m 53 #[SI p1, SI p2, SI p3, SI p4, SR b15_101, SR b2_103] [VI 1])
      obtain ⟨fs, hr, hrun, hended, hend⟩ := Jvm.Stand.leaveW X112 hS103 (by rw [e112]; exact (Nat.le_refl _)) (v := some (.int (1 : Int32))) (fun h => by rw [hret] at h; cases h)
      refine own_end (retN X112 hx (t := .boolean) hret (by simp) (hb hby at_53) hr) hrun hended ⟨_, _, rfl, ?_, hend.1, hend.2.1, hend.2.2.1, hend.2.2.2.mono (by decide) (by decide)⟩
      show Q0 n0 _ T112.heap _
      rw [e112]
      exact ⟨rfl, N112⟩
    ·
      obtain ⟨_, T101, L101, X101, hQ101, st101⟩ := own_cS X0 hx hZ hown (WW hw 0) (WW hw 1) (WW hw 2) (WW hw 3) (rm1_2 l Z a0 hw [] p1 p2 p3 p4 G1 h0 n0 Z0 hc0 hc1 O_G1 X00 P_G1) e0 hml (g := (mkF m 4 #[SI p1, SI p2, SI p3, SI p4, SU, SU] [VI p4, VI p3, VI p2, VI p1])) pd1 (hb hby at_4) [VI p1, VI p2, VI p3, VI p4] [] (W := 0)
      obtain ⟨b18_101, t22_101, kb22_101, rfl, N101q, K101, lob18_101, lot22_101, neb18t22_101, o0_101, o1_101, o2_101, o3_101⟩ := hQ101
      have N101 := Fr.app N0 N101q
      refine own_go st101 ?_
      show own_Fin p e below _ T101 (mkF m 7 #[SI p1, SI p2, SI p3, SI p4, SU, SU] [VR b18_101])
      refine own_go (fun _ k => XS.astore X101.here hx rfl (hb hby at_7) rfl rfl (l' := #[SI p1, SI p2, SI p3, SI p4, SR b18_101, SU]) rfl (XS.aload X101.here hx rfl (hb hby at_9) rfl rfl k)) ?_
      show own_Fin p e below _ T101 (mkF m 11 #[SI p1, SI p2, SI p3, SI p4, SR b18_101, SU] [VR b18_101])
      have O102 : Old Z n0 T101.heap := (X00.keep K101 all0)
      have z104 : h0.size ≤ T101.heap.size := K101.1
      obtain ⟨_, T103, L103, X103, hQ103, hS103, hZ103, ho103, st103⟩ := own_cSW (vm0 := (s.setVm s.vm).vm) X101 hx hZ hown hS0 (Nat.le_trans hk0 z104) (WW hw 34) (WW hw 35) (WW hw 36) (WW hw 37) (rm8_2 l Z a0 hw [] b18_101 wP t22_101 kb22_101 ((nar .char ((p2 &&& (255 : Int32)).toUInt32.toUInt16.toUInt32.toInt32)).toInt8.toInt32) ((nar .char ((p3 &&& (255 : Int32)).toUInt32.toUInt16.toUInt32.toInt32)).toInt8.toInt32) ((nar .char ((p4 &&& (255 : Int32)).toUInt32.toUInt16.toUInt32.toInt32)).toInt8.toInt32) wD T101.heap n0 (Nat.le_trans Z0 z104) O_wP O102 o0_101 o2_101 o3_101 O_wD D_wP_wD) rfl hml (g := (mkF m 11 #[SI p1, SI p2, SI p3, SI p4, SR b18_101, SU] [VR b18_101])) pd6 (hb hby at_11) [VR b18_101] [] (W := 0)
      obtain ⟨b2_103, rfl, N103q, K103, lob2_103, o0_103, o1_103, o2_103, o3_103⟩ := hQ103
      have N103 := Fr.app N101 N103q
      refine own_go st103 ?_
      show own_Fin p e below _ T103 (mkF m 14 #[SI p1, SI p2, SI p3, SI p4, SR b18_101, SU] [VR b2_103])
      refine own_go (fun _ k => XS.astore X103.here hx rfl (hb hby at_14) rfl rfl (l' := #[SI p1, SI p2, SI p3, SI p4, SR b18_101, SR b2_103]) rfl (XS.aload X103.here hx rfl (hb hby at_16) rfl rfl k)) ?_
      show own_Fin p e below _ T103 (mkF m 18 #[SI p1, SI p2, SI p3, SI p4, SR b18_101, SR b2_103] [VR b2_103])
      have z106 : h0.size ≤ T103.heap.size := Nat.le_trans z104 K103.1
      obtain ⟨_, T105, L105, X105, hQ105, st105⟩ := own_cV X103 hx hZ103 ho103 (WW hw 72) (WW hw 73) (notFace_of_selects (args := #[]) (mvT hZ103 (WW hw 75))) (WW hw 75) (WW hw 74) (WW hw 36) (WW hw 76) (rm13_1 l Z a0 hw [] b2_103 wP T103.heap n0 (Nat.le_trans Z0 z106) o1_103) rfl o0_103 hml (g := (mkF m 18 #[SI p1, SI p2, SI p3, SI p4, SR b18_101, SR b2_103] [VR b2_103])) pd7 (hb hby at_18) [] [] (W := 0)
      obtain ⟨rfl, N105q, e105⟩ := hQ105
      have N105 := Fr.app N103 N105q
      refine own_go st105 ?_
      show own_Fin p e below _ T105 (mkF m 21 #[SI p1, SI p2, SI p3, SI p4, SR b18_101, SR b2_103] [VR wP])
      have O107 : Old Z n0 T103.heap := (O102.keep K103 all0)
      obtain ⟨T108, X108, e108, st108⟩ := getS2 X105 hx hZ103 ho103 (host := "") (Or.inl (WW hw 77)) Via.refl e105 (O_wP.ext O107.2) (g := (mkF m 21 #[SI p1, SI p2, SI p3, SI p4, SR b18_101, SR b2_103] [VR wP])) rfl (hb hby at_21)
      refine own_go st108 ?_
      show own_Fin p e below _ T108 (mkF m 24 #[SI p1, SI p2, SI p3, SI p4, SR b18_101, SR b2_103] [VR wP, VR wP])
      refine own_go (fun _ k => Jvm.RoadKit.acmp (g := (mkF m 24 #[SI p1, SI p2, SI p3, SI p4, SR b18_101, SR b2_103] [VR wP, VR wP])) X108 hx rfl rfl rfl (pc0 := 24) (pc' := 27) (same := true) rfl (hb hby at_24) rfl (decide_eq_true rfl) (by decide) (by decide) (XS.aload X108.here hx rfl (hb hby at_27) rfl rfl (XS.aload X108.here hx rfl (hb hby at_29) rfl rfl k))) ?_
      show own_Fin p e below _ T108 (mkF m 31 #[SI p1, SI p2, SI p3, SI p4, SR b18_101, SR b2_103] [VR b2_103, VR b18_101])
      obtain ⟨_, T109, L109, X109, hQ109, st109⟩ := own_cV X108 hx hZ103 ho103 (WW hw 78) (WW hw 79) (notFace_of_selects (args := #[]) (mvT hZ103 (WW hw 81))) (WW hw 81) (WW hw 80) (WW hw 36) (WW hw 82) (rm14_1 l Z a0 hw [] b2_103 b18_101 T103.heap n0 (Nat.le_trans Z0 z106) o2_103) e108 o0_103 hml (g := (mkF m 31 #[SI p1, SI p2, SI p3, SI p4, SR b18_101, SR b2_103] [VR b2_103, VR b18_101])) pd8 (hb hby at_31) [] [VR b18_101] (W := 1)
      obtain ⟨rfl, N109q, e109⟩ := hQ109
      have N109 := Fr.app N105 N109q
      refine own_go st109 ?_
      show own_Fin p e below _ T109 (mkF m 34 #[SI p1, SI p2, SI p3, SI p4, SR b18_101, SR b2_103] [VR b18_101, VR b18_101])
      have F110 : Exa Z T103.heap b18_101 cC0 := (o0_101.keep K103)
      obtain ⟨_, T111, L111, X111, hQ111, st111⟩ := own_cV X109 hx hZ103 ho103 (WW hw 83) (WW hw 84) (notFace_of_selects (args := #[]) (mvT hZ103 (WW hw 86))) (WW hw 86) (WW hw 85) (WW hw 7) (WW hw 87) (rm15_1 l Z a0 hw [] b18_101 T103.heap n0 (Nat.le_trans Z0 z106) ) e109 F110 hml (g := (mkF m 34 #[SI p1, SI p2, SI p3, SI p4, SR b18_101, SR b2_103] [VR b18_101, VR b18_101])) pd9 (hb hby at_34) [VR b18_101] [] (W := 0)
      obtain ⟨rfl, N111q, e111⟩ := hQ111
      have N111 := Fr.app N109 N111q
      refine own_go st111 ?_
      show own_Fin p e below _ T111 (mkF m 37 #[SI p1, SI p2, SI p3, SI p4, SR b18_101, SR b2_103] [VI 1])
      refine own_go (fun _ k => XS.ifNo X111.here hx rfl (hb hby at_37) rfl ((if0 _ _).trans (feq (by decide : ¬ ((1 : Int32) = (0 : Int32)))).1) (XS.aload X111.here hx rfl (hb hby at_40) rfl rfl k)) ?_
      show own_Fin p e below _ T111 (mkF m 42 #[SI p1, SI p2, SI p3, SI p4, SR b18_101, SR b2_103] [VR b2_103])
      obtain ⟨_, T112, L112, X112, hQ112, st112⟩ := own_cV X111 hx hZ103 ho103 (WW hw 88) (WW hw 89) (notFace_of_selects (args := #[]) (mvT hZ103 (WW hw 91))) (WW hw 91) (WW hw 90) (WW hw 36) (WW hw 92) (rm16_1 l Z a0 hw [] b2_103 T103.heap n0 (Nat.le_trans Z0 z106) o3_103) e111 o0_103 hml (g := (mkF m 42 #[SI p1, SI p2, SI p3, SI p4, SR b18_101, SR b2_103] [VR b2_103])) pd8 (hb hby at_42) [] [] (W := 0)
      obtain ⟨rfl, N112q, e112⟩ := hQ112
      have N112 := Fr.app N111 N112q
      refine own_go st112 ?_
      show own_Fin p e below _ T112 (mkF m 45 #[SI p1, SI p2, SI p3, SI p4, SR b18_101, SR b2_103] [.null])
      refine own_go (fun _ k => XS.ifnonnullNo X112.here hx rfl (hb hby at_45) rfl (XS.iconst X112.here hx rfl (hb hby at_48) (XS.goto X112.here hx rfl (pc0 := 49) (pc' := 53) rfl (hb hby at_49) (by decide) (by decide) k))) ?_
      show own_Fin p e below _ T112 (mkF m 53 #[SI p1, SI p2, SI p3, SI p4, SR b18_101, SR b2_103] [VI 1])
      obtain ⟨fs, hr, hrun, hended, hend⟩ := Jvm.Stand.leaveW X112 hS103 (by rw [e112]; exact (Nat.le_refl _)) (v := some (.int (1 : Int32))) (fun h => by rw [hret] at h; cases h)
      refine own_end (retN X112 hx (t := .boolean) hret (by simp) (hb hby at_53) hr) hrun hended ⟨_, _, rfl, ?_, hend.1, hend.2.1, hend.2.2.1, hend.2.2.2.mono (by decide) (by decide)⟩
      show Q0 n0 _ T112.heap _
      rw [e112]
      exact ⟨rfl, N112⟩
  ·
    obtain ⟨_, T101, L101, X101, hQ101, st101⟩ := own_cS X0 hx hZ hown (WW hw 0) (WW hw 1) (WW hw 2) (WW hw 3) (rm1_3 l Z a0 hw [] p1 p2 p3 p4 G1 h0 n0 Z0 hc0 O_G1 X00 P_G1) e0 hml (g := (mkF m 4 #[SI p1, SI p2, SI p3, SI p4, SU, SU] [VI p4, VI p3, VI p2, VI p1])) pd1 (hb hby at_4) [VI p1, VI p2, VI p3, VI p4] [] (W := 0)
    obtain ⟨b11_101, t15_101, kb15_101, rfl, N101q, K101, lob11_101, lot15_101, neb11t15_101, o0_101, o1_101, o2_101, o3_101⟩ := hQ101
    have N101 := Fr.app N0 N101q
    refine own_go st101 ?_
    show own_Fin p e below _ T101 (mkF m 7 #[SI p1, SI p2, SI p3, SI p4, SU, SU] [VR b11_101])
    refine own_go (fun _ k => XS.astore X101.here hx rfl (hb hby at_7) rfl rfl (l' := #[SI p1, SI p2, SI p3, SI p4, SR b11_101, SU]) rfl (XS.aload X101.here hx rfl (hb hby at_9) rfl rfl k)) ?_
    show own_Fin p e below _ T101 (mkF m 11 #[SI p1, SI p2, SI p3, SI p4, SR b11_101, SU] [VR b11_101])
    have O102 : Old Z n0 T101.heap := (X00.keep K101 all0)
    have z104 : h0.size ≤ T101.heap.size := K101.1
    obtain ⟨_, T103, L103, X103, hQ103, hS103, hZ103, ho103, st103⟩ := own_cSW (vm0 := (s.setVm s.vm).vm) X101 hx hZ hown hS0 (Nat.le_trans hk0 z104) (WW hw 34) (WW hw 35) (WW hw 36) (WW hw 37) (rm8_3 l Z a0 hw [] b11_101 wP t15_101 kb15_101 ((nar .char ((p2 &&& (255 : Int32)).toUInt32.toUInt16.toUInt32.toInt32)).toInt8.toInt32) wD T101.heap n0 (Nat.le_trans Z0 z104) O_wP O102 o0_101 o2_101 o3_101 O_wD D_wP_wD) rfl hml (g := (mkF m 11 #[SI p1, SI p2, SI p3, SI p4, SR b11_101, SU] [VR b11_101])) pd6 (hb hby at_11) [VR b11_101] [] (W := 0)
    obtain ⟨b2_103, rfl, N103q, K103, lob2_103, o0_103, o1_103, o2_103, o3_103⟩ := hQ103
    have N103 := Fr.app N101 N103q
    refine own_go st103 ?_
    show own_Fin p e below _ T103 (mkF m 14 #[SI p1, SI p2, SI p3, SI p4, SR b11_101, SU] [VR b2_103])
    refine own_go (fun _ k => XS.astore X103.here hx rfl (hb hby at_14) rfl rfl (l' := #[SI p1, SI p2, SI p3, SI p4, SR b11_101, SR b2_103]) rfl (XS.aload X103.here hx rfl (hb hby at_16) rfl rfl k)) ?_
    show own_Fin p e below _ T103 (mkF m 18 #[SI p1, SI p2, SI p3, SI p4, SR b11_101, SR b2_103] [VR b2_103])
    have z106 : h0.size ≤ T103.heap.size := Nat.le_trans z104 K103.1
    obtain ⟨_, T105, L105, X105, hQ105, st105⟩ := own_cV X103 hx hZ103 ho103 (WW hw 72) (WW hw 73) (notFace_of_selects (args := #[]) (mvT hZ103 (WW hw 75))) (WW hw 75) (WW hw 74) (WW hw 36) (WW hw 76) (rm13_1 l Z a0 hw [] b2_103 wP T103.heap n0 (Nat.le_trans Z0 z106) o1_103) rfl o0_103 hml (g := (mkF m 18 #[SI p1, SI p2, SI p3, SI p4, SR b11_101, SR b2_103] [VR b2_103])) pd7 (hb hby at_18) [] [] (W := 0)
    obtain ⟨rfl, N105q, e105⟩ := hQ105
    have N105 := Fr.app N103 N105q
    refine own_go st105 ?_
    show own_Fin p e below _ T105 (mkF m 21 #[SI p1, SI p2, SI p3, SI p4, SR b11_101, SR b2_103] [VR wP])
    have O107 : Old Z n0 T103.heap := (O102.keep K103 all0)
    obtain ⟨T108, X108, e108, st108⟩ := getS2 X105 hx hZ103 ho103 (host := "") (Or.inl (WW hw 77)) Via.refl e105 (O_wP.ext O107.2) (g := (mkF m 21 #[SI p1, SI p2, SI p3, SI p4, SR b11_101, SR b2_103] [VR wP])) rfl (hb hby at_21)
    refine own_go st108 ?_
    show own_Fin p e below _ T108 (mkF m 24 #[SI p1, SI p2, SI p3, SI p4, SR b11_101, SR b2_103] [VR wP, VR wP])
    refine own_go (fun _ k => Jvm.RoadKit.acmp (g := (mkF m 24 #[SI p1, SI p2, SI p3, SI p4, SR b11_101, SR b2_103] [VR wP, VR wP])) X108 hx rfl rfl rfl (pc0 := 24) (pc' := 27) (same := true) rfl (hb hby at_24) rfl (decide_eq_true rfl) (by decide) (by decide) (XS.aload X108.here hx rfl (hb hby at_27) rfl rfl (XS.aload X108.here hx rfl (hb hby at_29) rfl rfl k))) ?_
    show own_Fin p e below _ T108 (mkF m 31 #[SI p1, SI p2, SI p3, SI p4, SR b11_101, SR b2_103] [VR b2_103, VR b11_101])
    obtain ⟨_, T109, L109, X109, hQ109, st109⟩ := own_cV X108 hx hZ103 ho103 (WW hw 78) (WW hw 79) (notFace_of_selects (args := #[]) (mvT hZ103 (WW hw 81))) (WW hw 81) (WW hw 80) (WW hw 36) (WW hw 82) (rm14_1 l Z a0 hw [] b2_103 b11_101 T103.heap n0 (Nat.le_trans Z0 z106) o2_103) e108 o0_103 hml (g := (mkF m 31 #[SI p1, SI p2, SI p3, SI p4, SR b11_101, SR b2_103] [VR b2_103, VR b11_101])) pd8 (hb hby at_31) [] [VR b11_101] (W := 1)
    obtain ⟨rfl, N109q, e109⟩ := hQ109
    have N109 := Fr.app N105 N109q
    refine own_go st109 ?_
    show own_Fin p e below _ T109 (mkF m 34 #[SI p1, SI p2, SI p3, SI p4, SR b11_101, SR b2_103] [VR b11_101, VR b11_101])
    have F110 : Exa Z T103.heap b11_101 cC0 := (o0_101.keep K103)
    obtain ⟨_, T111, L111, X111, hQ111, st111⟩ := own_cV X109 hx hZ103 ho103 (WW hw 83) (WW hw 84) (notFace_of_selects (args := #[]) (mvT hZ103 (WW hw 86))) (WW hw 86) (WW hw 85) (WW hw 7) (WW hw 87) (rm15_1 l Z a0 hw [] b11_101 T103.heap n0 (Nat.le_trans Z0 z106) ) e109 F110 hml (g := (mkF m 34 #[SI p1, SI p2, SI p3, SI p4, SR b11_101, SR b2_103] [VR b11_101, VR b11_101])) pd9 (hb hby at_34) [VR b11_101] [] (W := 0)
    obtain ⟨rfl, N111q, e111⟩ := hQ111
    have N111 := Fr.app N109 N111q
    refine own_go st111 ?_
    show own_Fin p e below _ T111 (mkF m 37 #[SI p1, SI p2, SI p3, SI p4, SR b11_101, SR b2_103] [VI 1])
    refine own_go (fun _ k => XS.ifNo X111.here hx rfl (hb hby at_37) rfl ((if0 _ _).trans (feq (by decide : ¬ ((1 : Int32) = (0 : Int32)))).1) (XS.aload X111.here hx rfl (hb hby at_40) rfl rfl k)) ?_
    show own_Fin p e below _ T111 (mkF m 42 #[SI p1, SI p2, SI p3, SI p4, SR b11_101, SR b2_103] [VR b2_103])
    obtain ⟨_, T112, L112, X112, hQ112, st112⟩ := own_cV X111 hx hZ103 ho103 (WW hw 88) (WW hw 89) (notFace_of_selects (args := #[]) (mvT hZ103 (WW hw 91))) (WW hw 91) (WW hw 90) (WW hw 36) (WW hw 92) (rm16_1 l Z a0 hw [] b2_103 T103.heap n0 (Nat.le_trans Z0 z106) o3_103) e111 o0_103 hml (g := (mkF m 42 #[SI p1, SI p2, SI p3, SI p4, SR b11_101, SR b2_103] [VR b2_103])) pd8 (hb hby at_42) [] [] (W := 0)
    obtain ⟨rfl, N112q, e112⟩ := hQ112
    have N112 := Fr.app N111 N112q
    refine own_go st112 ?_
    show own_Fin p e below _ T112 (mkF m 45 #[SI p1, SI p2, SI p3, SI p4, SR b11_101, SR b2_103] [.null])
    refine own_go (fun _ k => XS.ifnonnullNo X112.here hx rfl (hb hby at_45) rfl (XS.iconst X112.here hx rfl (hb hby at_48) (XS.goto X112.here hx rfl (pc0 := 49) (pc' := 53) rfl (hb hby at_49) (by decide) (by decide) k))) ?_
    show own_Fin p e below _ T112 (mkF m 53 #[SI p1, SI p2, SI p3, SI p4, SR b11_101, SR b2_103] [VI 1])
    obtain ⟨fs, hr, hrun, hended, hend⟩ := Jvm.Stand.leaveW X112 hS103 (by rw [e112]; exact (Nat.le_refl _)) (v := some (.int (1 : Int32))) (fun h => by rw [hret] at h; cases h)
    refine own_end (retN X112 hx (t := .boolean) hret (by simp) (hb hby at_53) hr) hrun hended ⟨_, _, rfl, ?_, hend.1, hend.2.1, hend.2.2.1, hend.2.2.2.mono (by decide) (by decide)⟩
    show Q0 n0 _ T112.heap _
    rw [e112]
    exact ⟨rfl, N112⟩
set_option maxRecDepth 65536 in
set_option maxHeartbeats 40000000 in
theorem comes_1 {Post : Tables → Env → Array Value → State → Outcome → State → Prop} (hpost : ∀ tb e args s v u, (limb_1_1.after args s (.returned v) u = true ∧ limb_1_2.after args s (.returned v) u = true ∧ True) → ReturnedEndW s (.returned v) u (Jvm.fieldLocs frame_1_writes args s ++ Jvm.arrayLocs frame_1_arrays args s ++ Jvm.staticLocs frame_1_statics s) 24 1152 → Post tb e args s (.returned v) u) :
    ArmFor flags0 classFile x code maxLocals ret World_1 tables_1 room_1 Calls_1 rest_1 Pre_1 Post := by
  intro l hfl _ _ p e ha hc hk s m args below hf hA hF happ hP
  obtain ⟨hcalls, hrest, hpre⟩ := hP
  obtain ⟨-, -, -, hnamed, -, -, -, hat⟩ := (Spec.applies_iff hf).mp happ
  obtain ⟨hg, hn⟩ := and_e (Cond.before_iff.mp (show (Jvm.Cond.and given_1 narrow_1).before args s = true from hpre))
  obtain ⟨hcount, ha0⟩ := and_e hg
  obtain ⟨hv0, ha1⟩ := and_e ha0
  obtain ⟨hv1, ha2⟩ := and_e ha1
  obtain ⟨hv2, ha3⟩ := and_e ha2
  have hv3 := ha3
  obtain ⟨w0, w1, w2, w3, rfl⟩ : ∃ w0 w1 w2 w3 : Value, args = #[w0, w1, w2, w3] := by
    have hs : args.size = 4 := by simpa [Cond.value, given_1] using hcount
    obtain ⟨L⟩ := args
    match L, hs with
    | [w0, w1, w2, w3], _ => exact ⟨w0, w1, w2, w3, rfl⟩
  have hw := fun d (hd : d ∈ tables_1) => atoms_spec (ws := Jvm.Cond.code x code maxLocals ret :: tables_1) hat d (List.mem_cons_of_mem _ hd)
  obtain ⟨hsets, hown0⟩ := atoms_of _ (rest_1_c_eq ▸ (show rest_1_c.before _ s = true from hrest))
  obtain ⟨i0, ei0⟩ := is_v hv0
  obtain rfl : w0 = (.int i0) := Option.some.inj ei0
  obtain ⟨i1, ei1⟩ := is_v hv1
  obtain rfl : w1 = (.int i1) := Option.some.inj ei1
  obtain ⟨i2, ei2⟩ := is_v hv2
  obtain rfl : w2 = (.int i2) := Option.some.inj ei2
  obtain ⟨i3, ei3⟩ := is_v hv3
  obtain rfl : w3 = (.int i3) := Option.some.inj ei3
  obtain ⟨hnl, hnr⟩ := and_e hn
  obtain ⟨hnrl, hnrr⟩ := and_e hnr
  obtain ⟨hnrrl, hnrrr⟩ := and_e hnrr
  obtain ⟨G1, e_G1⟩ := is_v (Cond.before_iff.mp (hsets _ (List.mem_of_getElem? (i := 1) rfl)))
  have S_G1 : Sta s s.heap "java/lang/String" "COMPACT_STRINGS" "Z" (.int G1) := Sta.start e_G1 (Or.inl (hsets _ (List.mem_of_getElem? (i := 0) rfl)))
  have c_G1 : ¬ (G1 = (0 : Int32)) := gotF (Cond.eq_ints e_G1 (Term.int_eval (0))) (not_v (Cond.before_iff.mp (hsets _ (List.mem_of_getElem? (i := 2) rfl))))
  obtain ⟨wP, e_wP⟩ := exa_v hnl
  have S_wP : Sta s s.heap "com/example/holdfast/holdfast/core/GatewayAnswer$Outcome" "PENDING" "Lcom/example/holdfast/holdfast/core/GatewayAnswer$Outcome;" (.ref wP) := Sta.start e_wP (Or.inr ⟨(WW hw 41), (WW hw 42)⟩)
  have x_wP : Exa s s.heap wP "com/example/holdfast/holdfast/core/GatewayAnswer$Outcome" := Exa.start e_wP hnl
  obtain ⟨wD, e_wD⟩ := exa_v hnrl
  have S_wD : Sta s s.heap "com/example/holdfast/holdfast/core/GatewayAnswer$Outcome" "DECLINED" "Lcom/example/holdfast/holdfast/core/GatewayAnswer$Outcome;" (.ref wD) := Sta.start e_wD (Or.inr ⟨(WW hw 41), (WW hw 65)⟩)
  have x_wD : Exa s s.heap wD "com/example/holdfast/holdfast/core/GatewayAnswer$Outcome" := Exa.start e_wD hnrl
  have o_wP : Fld s s.heap wP "java/lang/Enum" "ordinal" "I" (.int (2 : Int32)) := own_ord e_wP hnrrl
  have o_wD : Fld s s.heap wD "java/lang/Enum" "ordinal" "I" (.int (1 : Int32)) := own_ord e_wD hnrrr
  obtain ⟨n, o, h1, h2, h3, _, L, rfl, ⟨rfl, N⟩, hq⟩ := rm0 l s _ hw tables_1 i0 i1 i2 i3 G1 wP wD s.heap s.heap.size (Nat.le_refl _) (Old.start s) S_G1 c_G1 S_wP x_wP S_wD x_wD (Fld.ne o_wP o_wD (by decide)) p e ha hc hk s m _ below hf ((Spec.applies_iff_loose hf).mp happ).1 ⟨rfl, State.Warmed39.refl s, rfl⟩ trivial
  refine ⟨n, _, h1, h2, h3, hpost _ _ _ _ _ _ ⟨Cond.after_iff.mpr rfl, Cond.after_iff.mpr (eq_i res_at (Term.int_eval (1)) rfl), trivial⟩ ⟨hq.1, hq.2.1, hq.2.2.1, (hq.2.2.2.sift fun y hy => Or.inr (N y hy)).mono (by decide) (by decide)⟩⟩
theorem main_1_1 : Claimed_1_1 := comes_1 fun _ _ _ _ _ _ h hF => ⟨h.1, hF⟩
theorem main_1_2 : Claimed_1_2 := comes_1 fun _ _ _ _ _ _ h hF => ⟨h.2.1, hF⟩
end Jvm.Pilot.@@N@@
namespace Jvm.Pilot.@@N@@
open Jvm Jvm.ClassFile Sem Op Lib Jvm.Free Jvm.Stand Jvm.Pilot.@@N@@.Jvm.D
/-! MADE BY PROGRAM (witnessworld.py) out of the Statement's table words and the real class files: 22 classes; the members and pool entries that the words name. The judged class is class 1, her method 2. -/
namespace start1
open Jvm.ClassFile
def u (s : String) : CpInfo := .utf8 (stringToUtf16 s)
/-- a pool by its gaps: so many unusable entries, then the entry; so many at the end -/
def gap : Nat → List CpInfo → List CpInfo
  | 0, r => r
  | n + 1, r => .unusable :: gap n r
def poolList (es : List (Nat × CpInfo)) (last : Nat) : List CpInfo := es.foldr (fun e r => gap e.1 (e.2 :: r)) (gap last [])
def pool (es : List (Nat × CpInfo)) (last : Nat) : Array CpInfo := ⟨poolList es last⟩
def fileOf (pool : Array CpInfo) (this : Nat) (attrs : Array Attribute := #[]) (ms : Array MethodInfo := #[]) (fl : Nat := 33) (sup : Nat := 0) (ifs : Array Nat := #[]) (fds : Array FieldInfo := #[]) : ClassFile where
  minorVersion := 0
  majorVersion := 65
  constantPool := pool
  accessFlags := fl
  thisClass := this
  superClass := sup
  interfaces := ifs
  fields := fds
  methods := ms
  attributes := attrs
def plain (name : String) (sup : Option ClassId) : Class where
  name := name
  kind := .ordinary
  loader := none
  accessFlags := 33
  super := sup
  interfaces := #[]
  cf := none
  fields := #[]
  methods := #[]
  instanceTypes := #[]
  staticTypes := #[]
  resolved := #[]
  callSites := []
  init := .initialized
  statics := none
  mirror := none

def pool0 : Array CpInfo := pool [(5, u "<init>"), (0, u "()V"), (1, .class_ 10), (1, u "java/lang/Object")] 113

def k0c0 : Code := { maxStack := 0, maxLocals := 1, code := object_method_1_code, exceptionTable := #[], attributes := #[] }
def k0m0 : Method := { name := "<init>", desc := "()V", sig := { parameters := [], returnType := none }, accessFlags := 1, code := some k0c0 }
/-- java/lang/Object -/
def k0 : Class := { plain "java/lang/Object" none with
  accessFlags := 33
  interfaces := #[]
  cf := some (fileOf pool0 8 #[] #[{ accessFlags := 1, nameIndex := 5, descriptorIndex := 6, attributes := #[] }] 33 0 #[] #[])
  fields := #[]
  methods := #[k0m0]
  instanceTypes := #[]
  staticTypes := #[]
  resolved := Array.replicate 124 none
  statics := none }

def pool1 : Array CpInfo := pool [(2, .class_ 4), (1, u "java/lang/Object"), (0, u "<init>"), (0, u "()V"), (0, .class_ 8), (0, u "java/lang/String"), (0, .methodref 7 10), (0, .nameAndType 5 11), (0, u "([C)V"), (0, .methodref 13 14), (0, .class_ 15), (0, .nameAndType 16 17), (0, u "com/example/holdfast/holdfast/core/GatewayAnswerPendingPinLaw"), (0, u "draw"), (0, u "(IIII)Ljava/lang/String;"), (0, .methodref 19 20), (0, .class_ 21), (0, .nameAndType 22 23), (0, u "com/example/holdfast/holdfast/core/GatewayAnswer"), (0, u "pending"), (0, u "(Ljava/lang/String;)Lcom/example/holdfast/holdfast/core/GatewayAnswer;"), (0, .methodref 19 25), (0, .nameAndType 26 27), (0, u "outcome"), (0, u "()Lcom/example/holdfast/holdfast/core/GatewayAnswer$Outcome;"), (0, .fieldref 29 30), (0, .class_ 31), (0, .nameAndType 32 33), (0, u "com/example/holdfast/holdfast/core/GatewayAnswer$Outcome"), (0, u "PENDING"), (0, u "Lcom/example/holdfast/holdfast/core/GatewayAnswer$Outcome;"), (0, .methodref 19 35), (0, .nameAndType 36 37), (0, u "transactionId"), (0, u "()Ljava/lang/String;"), (0, .methodref 7 39), (0, .nameAndType 40 41), (0, u "equals"), (0, u "(Ljava/lang/Object;)Z"), (0, .methodref 19 43), (0, .nameAndType 44 37), (0, u "declineReason"), (3, u "law"), (0, u "(IIII)Z")] 4

def k1m0 : Method := { name := "<init>", desc := "()V", sig := { parameters := [], returnType := none }, accessFlags := 1, code := none }
def k1c1 : Code := { maxStack := 4, maxLocals := 6, code := method_2_code, exceptionTable := #[], attributes := #[] }
def k1m1 : Method := { name := "draw", desc := "(IIII)Ljava/lang/String;", sig := { parameters := [.int, .int, .int, .int], returnType := some (.object "java/lang/String") }, accessFlags := 10, code := some k1c1 }
def k1c2 : Code := { maxStack := 4, maxLocals := 6, code := code, exceptionTable := #[], attributes := #[] }
def k1m2 : Method := { name := "law", desc := "(IIII)Z", sig := { parameters := [.int, .int, .int, .int], returnType := some .boolean }, accessFlags := 9, code := some k1c2 }
/-- com/example/holdfast/holdfast/core/GatewayAnswerPendingPinLaw -/
def k1 : Class := { plain "com/example/holdfast/holdfast/core/GatewayAnswerPendingPinLaw" (some 0) with
  accessFlags := 49
  interfaces := #[]
  cf := some (fileOf pool1 13 #[] #[{ accessFlags := 1, nameIndex := 5, descriptorIndex := 6, attributes := #[] }, { accessFlags := 10, nameIndex := 16, descriptorIndex := 17, attributes := #[] }, { accessFlags := 9, nameIndex := 48, descriptorIndex := 49, attributes := #[] }] 49 2 #[] #[])
  fields := #[]
  methods := #[k1m0, k1m1, k1m2]
  instanceTypes := #[]
  staticTypes := #[]
  resolved := Array.replicate 54 none
  statics := none }

def pool2 : Array CpInfo := pool [(1, .class_ 2), (0, u "java/io/Serializable"), (0, .class_ 4), (0, u "java/lang/Object")] 2

/-- java/io/Serializable -/
def k2 : Class := { plain "java/io/Serializable" (some 0) with
  accessFlags := 1537
  interfaces := #[]
  cf := some (fileOf pool2 1 #[] #[] 1537 3 #[] #[])
  fields := #[]
  methods := #[]
  instanceTypes := #[]
  staticTypes := #[]
  resolved := Array.replicate 7 none
  statics := none }

def pool3 : Array CpInfo := pool [(1, .class_ 2), (0, u "java/lang/Comparable"), (0, .class_ 4), (0, u "java/lang/Object")] 7

/-- java/lang/Comparable -/
def k3 : Class := { plain "java/lang/Comparable" (some 0) with
  accessFlags := 1537
  interfaces := #[]
  cf := some (fileOf pool3 1 #[] #[] 1537 3 #[] #[])
  fields := #[]
  methods := #[]
  instanceTypes := #[]
  staticTypes := #[]
  resolved := Array.replicate 12 none
  statics := none }

def pool4 : Array CpInfo := pool [(2, .class_ 4), (1, u "java/lang/CharSequence"), (42, .class_ 48), (0, u "java/lang/CharSequence$1CodePointIterator"), (10, .class_ 60), (0, u "java/lang/CharSequence$1CharIterator"), (5, .class_ 67), (0, u "java/lang/Object")] 63

/-- java/lang/CharSequence -/
def k4 : Class := { plain "java/lang/CharSequence" (some 0) with
  accessFlags := 1537
  interfaces := #[]
  cf := some (fileOf pool4 2 #[.nestMembers #[47, 59]] #[] 1537 66 #[] #[])
  fields := #[]
  methods := #[]
  instanceTypes := #[]
  staticTypes := #[]
  resolved := Array.replicate 131 none
  statics := none }

def pool5 : Array CpInfo := pool [(1, .class_ 2), (0, u "java/lang/constant/Constable"), (0, .class_ 4), (0, u "java/lang/Object")] 6

/-- java/lang/constant/Constable -/
def k5 : Class := { plain "java/lang/constant/Constable" (some 0) with
  accessFlags := 1537
  interfaces := #[]
  cf := some (fileOf pool5 1 #[] #[] 1537 3 #[] #[])
  fields := #[]
  methods := #[]
  instanceTypes := #[]
  staticTypes := #[]
  resolved := Array.replicate 11 none
  statics := none }

def pool6 : Array CpInfo := pool [(1, .class_ 2), (0, u "java/lang/constant/ConstantDesc"), (0, .class_ 4), (0, u "java/lang/Object")] 32

/-- java/lang/constant/ConstantDesc -/
def k6 : Class := { plain "java/lang/constant/ConstantDesc" (some 0) with
  accessFlags := 1537
  interfaces := #[]
  cf := some (fileOf pool6 1 #[] #[] 1537 3 #[] #[])
  fields := #[]
  methods := #[]
  instanceTypes := #[]
  staticTypes := #[]
  resolved := Array.replicate 37 none
  statics := none }

def pool7 : Array CpInfo := pool [(1, .methodref 2 3), (0, .class_ 4), (0, .nameAndType 5 6), (0, u "java/lang/Object"), (0, u "<init>"), (0, u "()V"), (2, .fieldref 10 11), (0, .class_ 12), (0, .nameAndType 13 14), (0, u "java/lang/String"), (0, u "value"), (0, u "[B"), (0, .fieldref 10 16), (0, .nameAndType 17 18), (0, u "coder"), (0, u "B"), (2, u "hash"), (0, u "I"), (2, u "hashIsZero"), (0, u "Z"), (0, .methodref 10 28), (0, .nameAndType 5 29), (0, u "([CIILjava/lang/Void;)V"), (8, .fieldref 10 39), (0, .nameAndType 40 26), (0, u "COMPACT_STRINGS"), (1, .class_ 44), (1, u "java/lang/StringUTF16"), (0, u "compress"), (1, .methodref 42 48), (0, .nameAndType 49 50), (0, u "coderFromArrayLen"), (0, u "([BI)B"), (91, u "()Z"), (34, .methodref 42 178), (0, .nameAndType 45 179), (0, u "([CII)[B"), (363, u "equals"), (29, u "(Ljava/lang/Object;)Z"), (1, .class_ 576), (0, u "java/lang/CharSequence"), (22, u "CASE_INSENSITIVE_ORDER"), (0, u "Ljava/util/Comparator;"), (91, u "isEmpty"), (317, u "([C)V"), (90, u "serialPersistentFields"), (0, u "[Ljava/io/ObjectStreamField;"), (0, .class_ 1104), (0, u "java/lang/String$CaseInsensitiveComparator"), (1, .class_ 1107), (0, u "java/io/Serializable"), (0, .class_ 1109), (0, u "java/lang/Comparable"), (0, .class_ 1111), (0, u "java/lang/constant/Constable"), (0, .class_ 1113), (0, u "java/lang/constant/ConstantDesc"), (2, u "serialVersionUID"), (0, u "J"), (3, u "REPL"), (0, u "C"), (2, u "LATIN1"), (1, u "UTF16")] 323

def k7m0 : Method := { name := "<init>", desc := "()V", sig := { parameters := [], returnType := none }, accessFlags := 1, code := none }
def k7c1 : Code := { maxStack := 5, maxLocals := 2, code := jdk_42_method_3_code, exceptionTable := #[], attributes := #[] }
def k7m1 : Method := { name := "<init>", desc := "([C)V", sig := { parameters := [(.array .char)], returnType := none }, accessFlags := 1, code := some k7c1 }
def k7c2 : Code := { maxStack := 1, maxLocals := 1, code := jdk_42_method_55_code, exceptionTable := #[], attributes := #[] }
def k7m2 : Method := { name := "isEmpty", desc := "()Z", sig := { parameters := [], returnType := some .boolean }, accessFlags := 1, code := some k7c2 }
def k7c3 : Code := { maxStack := 2, maxLocals := 3, code := jdk_42_method_66_code, exceptionTable := #[], attributes := #[] }
def k7m3 : Method := { name := "equals", desc := "(Ljava/lang/Object;)Z", sig := { parameters := [(.object "java/lang/Object")], returnType := some .boolean }, accessFlags := 1, code := some k7c3 }
def k7c4 : Code := { maxStack := 4, maxLocals := 6, code := jdk_42_method_149_code, exceptionTable := #[], attributes := #[] }
def k7m4 : Method := { name := "<init>", desc := "([CIILjava/lang/Void;)V", sig := { parameters := [(.array .char), .int, .int, (.object "java/lang/Void")], returnType := none }, accessFlags := 2, code := some k7c4 }
/-- java/lang/String -/
def k7 : Class := { plain "java/lang/String" (some 0) with
  accessFlags := 49
  interfaces := #[2, 3, 4, 5, 6]
  cf := some (fileOf pool7 10 #[.nestMembers #[1103]] #[{ accessFlags := 1, nameIndex := 5, descriptorIndex := 6, attributes := #[] }, { accessFlags := 1, nameIndex := 5, descriptorIndex := 1010, attributes := #[] }, { accessFlags := 1, nameIndex := 692, descriptorIndex := 142, attributes := #[] }, { accessFlags := 1, nameIndex := 543, descriptorIndex := 573, attributes := #[] }, { accessFlags := 2, nameIndex := 5, descriptorIndex := 29, attributes := #[] }] 49 2 #[1106, 1108, 575, 1110, 1112] #[{ accessFlags := 18, nameIndex := 13, descriptorIndex := 14, attributes := #[] }, { accessFlags := 18, nameIndex := 17, descriptorIndex := 18, attributes := #[] }, { accessFlags := 2, nameIndex := 21, descriptorIndex := 22, attributes := #[] }, { accessFlags := 2, nameIndex := 25, descriptorIndex := 26, attributes := #[] }, { accessFlags := 26, nameIndex := 1116, descriptorIndex := 1117, attributes := #[] }, { accessFlags := 24, nameIndex := 40, descriptorIndex := 26, attributes := #[] }, { accessFlags := 26, nameIndex := 1101, descriptorIndex := 1102, attributes := #[] }, { accessFlags := 26, nameIndex := 1121, descriptorIndex := 1122, attributes := #[] }, { accessFlags := 25, nameIndex := 599, descriptorIndex := 600, attributes := #[] }, { accessFlags := 24, nameIndex := 1125, descriptorIndex := 18, attributes := #[] }, { accessFlags := 24, nameIndex := 1127, descriptorIndex := 18, attributes := #[] }])
  fields := #[{ name := "value", type := (.array .byte), accessFlags := 18, slot := 0, constantValue := 0 }, { name := "coder", type := .byte, accessFlags := 18, slot := 1, constantValue := 0 }, { name := "hash", type := .int, accessFlags := 2, slot := 2, constantValue := 0 }, { name := "hashIsZero", type := .boolean, accessFlags := 2, slot := 3, constantValue := 0 }, { name := "serialVersionUID", type := .long, accessFlags := 26, slot := 0, constantValue := 0 }, { name := "COMPACT_STRINGS", type := .boolean, accessFlags := 24, slot := 1, constantValue := 0 }, { name := "serialPersistentFields", type := (.array (.object "java/io/ObjectStreamField")), accessFlags := 26, slot := 2, constantValue := 0 }, { name := "REPL", type := .char, accessFlags := 26, slot := 3, constantValue := 0 }, { name := "CASE_INSENSITIVE_ORDER", type := (.object "java/util/Comparator"), accessFlags := 25, slot := 4, constantValue := 0 }, { name := "LATIN1", type := .byte, accessFlags := 24, slot := 5, constantValue := 0 }, { name := "UTF16", type := .byte, accessFlags := 24, slot := 6, constantValue := 0 }]
  methods := #[k7m0, k7m1, k7m2, k7m3, k7m4]
  instanceTypes := #[(.array .byte), .byte, .int, .boolean]
  staticTypes := #[.long, .boolean, (.array (.object "java/io/ObjectStreamField")), .char, (.object "java/util/Comparator"), .byte, .byte]
  resolved := Array.replicate 1451 none
  statics := some 0 }

def pool8 : Array CpInfo := pool [(6, .class_ 8), (1, u "java/lang/Object"), (0, u "<init>"), (0, u "()V"), (1, .class_ 14), (1, u "java/lang/StringUTF16"), (31, u "$assertionsDisabled"), (0, u "Z"), (13, u "HI_BYTE_SHIFT"), (0, u "I"), (2, u "LO_BYTE_SHIFT"), (49, .methodref 12 116), (0, .nameAndType 117 118), (0, u "compress"), (0, u "([CI[BII)I"), (3, u "([CII)[B"), (138, u "coderFromArrayLen"), (0, u "([BI)B"), (106, .class_ 371), (1, u "java/lang/StringUTF16$LinesSpliterator"), (58, u "MAX_LENGTH"), (196, .class_ 628), (0, u "java/lang/StringUTF16$CodePointsSpliterator"), (0, .class_ 630), (0, u "java/lang/StringUTF16$CharsSpliterator")] 4

def k8m0 : Method := { name := "<init>", desc := "()V", sig := { parameters := [], returnType := none }, accessFlags := 0, code := none }
def k8c1 : Code := { maxStack := 2, maxLocals := 2, code := jdk_52_method_15_code, exceptionTable := #[], attributes := #[] }
def k8m1 : Method := { name := "coderFromArrayLen", desc := "([BI)B", sig := { parameters := [(.array .byte), .int], returnType := some .byte }, accessFlags := 8, code := some k8c1 }
def k8c2 : Code := { maxStack := 5, maxLocals := 6, code := jdk_52_method_16_code, exceptionTable := #[], attributes := #[] }
def k8m2 : Method := { name := "compress", desc := "([CII)[B", sig := { parameters := [(.array .char), .int, .int], returnType := some (.array .byte) }, accessFlags := 9, code := some k8c2 }
def k8c3 : Code := { maxStack := 3, maxLocals := 7, code := jdk_52_method_21_code, exceptionTable := #[], attributes := #[] }
def k8m3 : Method := { name := "compress", desc := "([CI[BII)I", sig := { parameters := [(.array .char), .int, (.array .byte), .int, .int], returnType := some .int }, accessFlags := 9, code := some k8c3 }
/-- java/lang/StringUTF16 -/
def k8 : Class := { plain "java/lang/StringUTF16" (some 0) with
  accessFlags := 48
  interfaces := #[]
  cf := some (fileOf pool8 12 #[.nestMembers #[627, 629, 369]] #[{ accessFlags := 0, nameIndex := 9, descriptorIndex := 10, attributes := #[] }, { accessFlags := 8, nameIndex := 261, descriptorIndex := 262, attributes := #[] }, { accessFlags := 9, nameIndex := 117, descriptorIndex := 122, attributes := #[] }, { accessFlags := 9, nameIndex := 117, descriptorIndex := 118, attributes := #[] }] 48 6 #[] #[{ accessFlags := 26, nameIndex := 61, descriptorIndex := 62, attributes := #[] }, { accessFlags := 26, nameIndex := 65, descriptorIndex := 62, attributes := #[] }, { accessFlags := 24, nameIndex := 430, descriptorIndex := 62, attributes := #[] }, { accessFlags := 4120, nameIndex := 46, descriptorIndex := 47, attributes := #[] }])
  fields := #[{ name := "HI_BYTE_SHIFT", type := .int, accessFlags := 26, slot := 0, constantValue := 0 }, { name := "LO_BYTE_SHIFT", type := .int, accessFlags := 26, slot := 1, constantValue := 0 }, { name := "MAX_LENGTH", type := .int, accessFlags := 24, slot := 2, constantValue := 0 }, { name := "$assertionsDisabled", type := .boolean, accessFlags := 4120, slot := 3, constantValue := 0 }]
  methods := #[k8m0, k8m1, k8m2, k8m3]
  instanceTypes := #[]
  staticTypes := #[.int, .int, .int, .boolean]
  resolved := Array.replicate 635 none
  statics := none }

def pool9 : Array CpInfo := pool [(1, .methodref 2 3), (0, .class_ 4), (0, .nameAndType 5 6), (0, u "java/lang/Object"), (0, u "<init>"), (0, u "()V"), (0, .class_ 8), (0, u "java/lang/Record")] 13

def k9c0 : Code := { maxStack := 1, maxLocals := 1, code := jdk_30_method_1_code, exceptionTable := #[], attributes := #[] }
def k9m0 : Method := { name := "<init>", desc := "()V", sig := { parameters := [], returnType := none }, accessFlags := 4, code := some k9c0 }
/-- java/lang/Record -/
def k9 : Class := { plain "java/lang/Record" (some 0) with
  accessFlags := 1057
  interfaces := #[]
  cf := some (fileOf pool9 7 #[] #[{ accessFlags := 4, nameIndex := 5, descriptorIndex := 6, attributes := #[] }] 1057 2 #[] #[])
  fields := #[]
  methods := #[k9m0]
  instanceTypes := #[]
  staticTypes := #[]
  resolved := Array.replicate 22 none
  statics := none }

def pool10 : Array CpInfo := pool [(1, .methodref 2 3), (0, .class_ 4), (0, .nameAndType 5 6), (0, u "java/lang/Record"), (0, u "<init>"), (0, u "()V"), (0, .string 8), (0, u "outcome"), (0, .methodref 10 11), (0, .class_ 12), (0, .nameAndType 13 14), (0, u "java/util/Objects"), (0, u "requireNonNull"), (0, u "(Ljava/lang/Object;Ljava/lang/String;)Ljava/lang/Object;"), (0, .methodref 16 17), (0, .class_ 18), (0, .nameAndType 19 20), (0, u "java/lang/String"), (0, u "isEmpty"), (0, u "()Z"), (7, .fieldref 29 30), (0, .class_ 31), (0, .nameAndType 32 33), (0, u "com/example/holdfast/holdfast/core/GatewayAnswer$Outcome"), (0, u "DECLINED"), (0, u "Lcom/example/holdfast/holdfast/core/GatewayAnswer$Outcome;"), (2, .fieldref 37 38), (0, .class_ 39), (0, .nameAndType 8 33), (0, u "com/example/holdfast/holdfast/core/GatewayAnswer"), (0, .fieldref 37 41), (0, .nameAndType 42 43), (0, u "transactionId"), (0, u "Ljava/lang/String;"), (0, .fieldref 37 45), (0, .nameAndType 46 43), (0, u "declineReason"), (3, .methodref 37 51), (0, .nameAndType 5 52), (0, u "(Lcom/example/holdfast/holdfast/core/GatewayAnswer$Outcome;Ljava/lang/String;Ljava/lang/String;)V"), (0, .fieldref 29 54), (0, .nameAndType 55 33), (0, u "PENDING"), (17, u "(Ljava/lang/String;)Lcom/example/holdfast/holdfast/core/GatewayAnswer;"), (2, u "pending"), (0, u "()Ljava/lang/String;"), (2, u "()Lcom/example/holdfast/holdfast/core/GatewayAnswer$Outcome;")] 24

def k10c0 : Code := { maxStack := 3, maxLocals := 5, code := prog_1_method_1_code, exceptionTable := #[], attributes := #[] }
def k10m0 : Method := { name := "<init>", desc := "(Lcom/example/holdfast/holdfast/core/GatewayAnswer$Outcome;Ljava/lang/String;Ljava/lang/String;)V", sig := { parameters := [(.object "com/example/holdfast/holdfast/core/GatewayAnswer$Outcome"), (.object "java/lang/String"), (.object "java/lang/String")], returnType := none }, accessFlags := 1, code := some k10c0 }
def k10c1 : Code := { maxStack := 5, maxLocals := 1, code := prog_1_method_4_code, exceptionTable := #[], attributes := #[] }
def k10m1 : Method := { name := "pending", desc := "(Ljava/lang/String;)Lcom/example/holdfast/holdfast/core/GatewayAnswer;", sig := { parameters := [(.object "java/lang/String")], returnType := some (.object "com/example/holdfast/holdfast/core/GatewayAnswer") }, accessFlags := 9, code := some k10c1 }
def k10c2 : Code := { maxStack := 1, maxLocals := 1, code := prog_1_method_8_code, exceptionTable := #[], attributes := #[] }
def k10m2 : Method := { name := "outcome", desc := "()Lcom/example/holdfast/holdfast/core/GatewayAnswer$Outcome;", sig := { parameters := [], returnType := some (.object "com/example/holdfast/holdfast/core/GatewayAnswer$Outcome") }, accessFlags := 1, code := some k10c2 }
def k10c3 : Code := { maxStack := 1, maxLocals := 1, code := prog_1_method_9_code, exceptionTable := #[], attributes := #[] }
def k10m3 : Method := { name := "transactionId", desc := "()Ljava/lang/String;", sig := { parameters := [], returnType := some (.object "java/lang/String") }, accessFlags := 1, code := some k10c3 }
def k10c4 : Code := { maxStack := 1, maxLocals := 1, code := prog_1_method_10_code, exceptionTable := #[], attributes := #[] }
def k10m4 : Method := { name := "declineReason", desc := "()Ljava/lang/String;", sig := { parameters := [], returnType := some (.object "java/lang/String") }, accessFlags := 1, code := some k10c4 }
/-- com/example/holdfast/holdfast/core/GatewayAnswer -/
def k10 : Class := { plain "com/example/holdfast/holdfast/core/GatewayAnswer" (some 9) with
  accessFlags := 49
  interfaces := #[]
  cf := some (fileOf pool10 37 #[.nestMembers #[29]] #[{ accessFlags := 1, nameIndex := 5, descriptorIndex := 52, attributes := #[] }, { accessFlags := 9, nameIndex := 76, descriptorIndex := 73, attributes := #[] }, { accessFlags := 1, nameIndex := 8, descriptorIndex := 80, attributes := #[] }, { accessFlags := 1, nameIndex := 42, descriptorIndex := 77, attributes := #[] }, { accessFlags := 1, nameIndex := 46, descriptorIndex := 77, attributes := #[] }] 49 2 #[] #[{ accessFlags := 18, nameIndex := 8, descriptorIndex := 33, attributes := #[] }, { accessFlags := 18, nameIndex := 42, descriptorIndex := 43, attributes := #[] }, { accessFlags := 18, nameIndex := 46, descriptorIndex := 43, attributes := #[] }])
  fields := #[{ name := "outcome", type := (.object "com/example/holdfast/holdfast/core/GatewayAnswer$Outcome"), accessFlags := 18, slot := 0, constantValue := 0 }, { name := "transactionId", type := (.object "java/lang/String"), accessFlags := 18, slot := 1, constantValue := 0 }, { name := "declineReason", type := (.object "java/lang/String"), accessFlags := 18, slot := 2, constantValue := 0 }]
  methods := #[k10m0, k10m1, k10m2, k10m3, k10m4]
  instanceTypes := #[(.object "com/example/holdfast/holdfast/core/GatewayAnswer$Outcome"), (.object "java/lang/String"), (.object "java/lang/String")]
  staticTypes := #[]
  resolved := Array.replicate 105 none
  statics := none }

def pool11 : Array CpInfo := pool [(2, .class_ 4), (1, u "java/lang/Enum"), (0, u "name"), (0, u "Ljava/lang/String;"), (2, u "ordinal"), (0, u "I"), (1, .class_ 14), (1, u "java/lang/Object"), (4, u "hash"), (86, .class_ 108), (1, u "java/lang/Enum$EnumDesc"), (2, .class_ 112), (0, u "java/lang/constant/Constable"), (0, .class_ 114), (0, u "java/lang/Comparable"), (0, .class_ 116), (0, u "java/io/Serializable")] 87

/-- java/lang/Enum -/
def k11 : Class := { plain "java/lang/Enum" (some 0) with
  accessFlags := 1057
  interfaces := #[5, 3, 2]
  cf := some (fileOf pool11 2 #[.nestMembers #[106]] #[] 1057 12 #[111, 113, 115] #[{ accessFlags := 18, nameIndex := 5, descriptorIndex := 6, attributes := #[] }, { accessFlags := 18, nameIndex := 9, descriptorIndex := 10, attributes := #[] }, { accessFlags := 2, nameIndex := 19, descriptorIndex := 10, attributes := #[] }])
  fields := #[{ name := "name", type := (.object "java/lang/String"), accessFlags := 18, slot := 0, constantValue := 0 }, { name := "ordinal", type := .int, accessFlags := 18, slot := 1, constantValue := 0 }, { name := "hash", type := .int, accessFlags := 2, slot := 2, constantValue := 0 }]
  methods := #[]
  instanceTypes := #[(.object "java/lang/String"), .int, .int]
  staticTypes := #[]
  resolved := Array.replicate 204 none
  statics := none }

def pool12 : Array CpInfo := pool [(1, .class_ 2), (0, u "com/example/holdfast/holdfast/core/GatewayAnswer$Outcome"), (2, u "APPROVED"), (0, u "Lcom/example/holdfast/holdfast/core/GatewayAnswer$Outcome;"), (2, u "DECLINED"), (2, u "PENDING"), (2, u "$VALUES"), (0, u "[Lcom/example/holdfast/holdfast/core/GatewayAnswer$Outcome;"), (6, .class_ 25), (1, u "java/lang/Enum"), (49, .class_ 76), (0, u "com/example/holdfast/holdfast/core/GatewayAnswer")] 2

/-- com/example/holdfast/holdfast/core/GatewayAnswer$Outcome -/
def k12 : Class := { plain "com/example/holdfast/holdfast/core/GatewayAnswer$Outcome" (some 11) with
  accessFlags := 16433
  interfaces := #[]
  cf := some (fileOf pool12 1 #[.nestHost 75] #[] 16433 23 #[] #[{ accessFlags := 16409, nameIndex := 5, descriptorIndex := 6, attributes := #[] }, { accessFlags := 16409, nameIndex := 9, descriptorIndex := 6, attributes := #[] }, { accessFlags := 16409, nameIndex := 12, descriptorIndex := 6, attributes := #[] }, { accessFlags := 4122, nameIndex := 15, descriptorIndex := 16, attributes := #[] }])
  fields := #[{ name := "APPROVED", type := (.object "com/example/holdfast/holdfast/core/GatewayAnswer$Outcome"), accessFlags := 16409, slot := 0, constantValue := 0 }, { name := "DECLINED", type := (.object "com/example/holdfast/holdfast/core/GatewayAnswer$Outcome"), accessFlags := 16409, slot := 1, constantValue := 0 }, { name := "PENDING", type := (.object "com/example/holdfast/holdfast/core/GatewayAnswer$Outcome"), accessFlags := 16409, slot := 2, constantValue := 0 }, { name := "$VALUES", type := (.array (.object "com/example/holdfast/holdfast/core/GatewayAnswer$Outcome")), accessFlags := 4122, slot := 3, constantValue := 0 }]
  methods := #[]
  instanceTypes := #[(.object "java/lang/String"), .int, .int]
  staticTypes := #[(.object "com/example/holdfast/holdfast/core/GatewayAnswer$Outcome"), (.object "com/example/holdfast/holdfast/core/GatewayAnswer$Outcome"), (.object "com/example/holdfast/holdfast/core/GatewayAnswer$Outcome"), (.array (.object "com/example/holdfast/holdfast/core/GatewayAnswer$Outcome"))]
  resolved := Array.replicate 79 none
  statics := some 1 }

def pool13 : Array CpInfo := pool [(2, .class_ 4), (1, u "java/lang/Object"), (0, u "<init>"), (0, u "()V"), (35, .class_ 44), (1, u "java/util/Objects"), (0, u "requireNonNull"), (48, u "(Ljava/lang/Object;Ljava/lang/String;)Ljava/lang/Object;")] 89

def k13m0 : Method := { name := "<init>", desc := "()V", sig := { parameters := [], returnType := none }, accessFlags := 2, code := none }
def k13c1 : Code := { maxStack := 3, maxLocals := 2, code := jdk_31_method_11_code, exceptionTable := #[], attributes := #[] }
def k13m1 : Method := { name := "requireNonNull", desc := "(Ljava/lang/Object;Ljava/lang/String;)Ljava/lang/Object;", sig := { parameters := [(.object "java/lang/Object"), (.object "java/lang/String")], returnType := some (.object "java/lang/Object") }, accessFlags := 9, code := some k13c1 }
/-- java/util/Objects -/
def k13 : Class := { plain "java/util/Objects" (some 0) with
  accessFlags := 49
  interfaces := #[]
  cf := some (fileOf pool13 42 #[] #[{ accessFlags := 2, nameIndex := 5, descriptorIndex := 6, attributes := #[] }, { accessFlags := 9, nameIndex := 45, descriptorIndex := 94, attributes := #[] }] 49 2 #[] #[])
  fields := #[]
  methods := #[k13m0, k13m1]
  instanceTypes := #[]
  staticTypes := #[]
  resolved := Array.replicate 184 none
  statics := none }

def pool14 : Array CpInfo := pool [(4, .class_ 6), (1, u "java/lang/Object"), (0, u "<init>"), (0, u "()V"), (5, .class_ 16), (1, u "java/lang/StringLatin1"), (104, u "$assertionsDisabled"), (0, u "Z"), (98, .class_ 223), (1, u "java/lang/StringLatin1$LinesSpliterator"), (166, .class_ 391), (0, u "java/lang/StringLatin1$CharsSpliterator")] 3

def k14m0 : Method := { name := "<init>", desc := "()V", sig := { parameters := [], returnType := none }, accessFlags := 0, code := none }
/-- java/lang/StringLatin1 -/
def k14 : Class := { plain "java/lang/StringLatin1" (some 0) with
  accessFlags := 48
  interfaces := #[]
  cf := some (fileOf pool14 14 #[.nestMembers #[390, 221]] #[{ accessFlags := 0, nameIndex := 7, descriptorIndex := 8, attributes := #[] }] 48 4 #[] #[{ accessFlags := 4120, nameIndex := 121, descriptorIndex := 122, attributes := #[] }])
  fields := #[{ name := "$assertionsDisabled", type := .boolean, accessFlags := 4120, slot := 0, constantValue := 0 }]
  methods := #[k14m0]
  instanceTypes := #[]
  staticTypes := #[.boolean]
  resolved := Array.replicate 395 none
  statics := none }

def pool15 : Array CpInfo := pool [(2, .class_ 4), (1, u "java/lang/Object"), (0, u "<init>"), (0, u "()V"), (17, .class_ 26), (1, u "jdk/internal/util/Preconditions"), (28, .class_ 56), (0, u "jdk/internal/util/Preconditions$4"), (57, .class_ 115), (0, u "jdk/internal/util/Preconditions$1"), (7, u "SIOOBE_FORMATTER"), (0, u "Ljava/util/function/BiFunction;"), (0, .class_ 126), (0, u "jdk/internal/util/Preconditions$2"), (3, u "AIOOBE_FORMATTER"), (0, .class_ 132), (0, u "jdk/internal/util/Preconditions$3"), (3, u "IOOBE_FORMATTER")] 57

def k15m0 : Method := { name := "<init>", desc := "()V", sig := { parameters := [], returnType := none }, accessFlags := 1, code := none }
/-- jdk/internal/util/Preconditions -/
def k15 : Class := { plain "jdk/internal/util/Preconditions" (some 0) with
  accessFlags := 33
  interfaces := #[]
  cf := some (fileOf pool15 24 #[.nestMembers #[55, 131, 125, 114]] #[{ accessFlags := 1, nameIndex := 5, descriptorIndex := 6, attributes := #[] }] 33 2 #[] #[{ accessFlags := 25, nameIndex := 123, descriptorIndex := 124, attributes := #[] }, { accessFlags := 25, nameIndex := 130, descriptorIndex := 124, attributes := #[] }, { accessFlags := 25, nameIndex := 136, descriptorIndex := 124, attributes := #[] }])
  fields := #[{ name := "SIOOBE_FORMATTER", type := (.object "java/util/function/BiFunction"), accessFlags := 25, slot := 0, constantValue := 0 }, { name := "AIOOBE_FORMATTER", type := (.object "java/util/function/BiFunction"), accessFlags := 25, slot := 1, constantValue := 0 }, { name := "IOOBE_FORMATTER", type := (.object "java/util/function/BiFunction"), accessFlags := 25, slot := 2, constantValue := 0 }]
  methods := #[k15m0]
  instanceTypes := #[]
  staticTypes := #[(.object "java/util/function/BiFunction"), (.object "java/util/function/BiFunction"), (.object "java/util/function/BiFunction")]
  resolved := Array.replicate 194 none
  statics := some 2 }

def pool16 : Array CpInfo := pool [(9, u "<init>"), (6, .class_ 18), (1, u "java/lang/Object"), (0, u "()V"), (1, .class_ 23), (1, u "jdk/internal/util/ArraysSupport"), (0, u "LOG2_ARRAY_LONG_INDEX_SCALE"), (0, u "I"), (2, u "U"), (0, u "Ljdk/internal/misc/Unsafe;"), (8, u "BIG_ENDIAN"), (0, u "Z"), (8, u "LOG2_BYTE_BIT_SIZE"), (4, u "LOG2_ARRAY_INT_INDEX_SCALE"), (54, u "JLA"), (0, u "Ljdk/internal/access/JavaLangAccess;"), (11, u "LOG2_ARRAY_BOOLEAN_INDEX_SCALE"), (9, u "LOG2_ARRAY_BYTE_INDEX_SCALE"), (5, u "LOG2_ARRAY_CHAR_INDEX_SCALE"), (5, u "LOG2_ARRAY_SHORT_INDEX_SCALE"), (18, u "LOG2_ARRAY_FLOAT_INDEX_SCALE"), (24, u "LOG2_ARRAY_DOUBLE_INDEX_SCALE"), (89, u "T_BOOLEAN"), (2, u "T_CHAR"), (1, u "T_FLOAT"), (1, u "T_DOUBLE"), (1, u "T_BYTE"), (1, u "T_SHORT"), (1, u "T_INT"), (1, u "T_LONG"), (1, u "SOFT_MAX_ARRAY_LENGTH")] 83

def k16m0 : Method := { name := "<init>", desc := "()V", sig := { parameters := [], returnType := none }, accessFlags := 2, code := none }
/-- jdk/internal/util/ArraysSupport -/
def k16 : Class := { plain "jdk/internal/util/ArraysSupport" (some 0) with
  accessFlags := 33
  interfaces := #[]
  cf := some (fileOf pool16 21 #[] #[{ accessFlags := 2, nameIndex := 9, descriptorIndex := 19, attributes := #[] }] 33 16 #[] #[{ accessFlags := 24, nameIndex := 28, descriptorIndex := 29, attributes := #[] }, { accessFlags := 26, nameIndex := 38, descriptorIndex := 39, attributes := #[] }, { accessFlags := 25, nameIndex := 121, descriptorIndex := 25, attributes := #[] }, { accessFlags := 25, nameIndex := 131, descriptorIndex := 25, attributes := #[] }, { accessFlags := 25, nameIndex := 137, descriptorIndex := 25, attributes := #[] }, { accessFlags := 25, nameIndex := 143, descriptorIndex := 25, attributes := #[] }, { accessFlags := 25, nameIndex := 53, descriptorIndex := 25, attributes := #[] }, { accessFlags := 25, nameIndex := 24, descriptorIndex := 25, attributes := #[] }, { accessFlags := 25, nameIndex := 162, descriptorIndex := 25, attributes := #[] }, { accessFlags := 25, nameIndex := 187, descriptorIndex := 25, attributes := #[] }, { accessFlags := 26, nameIndex := 48, descriptorIndex := 25, attributes := #[] }, { accessFlags := 25, nameIndex := 277, descriptorIndex := 25, attributes := #[] }, { accessFlags := 25, nameIndex := 280, descriptorIndex := 25, attributes := #[] }, { accessFlags := 25, nameIndex := 282, descriptorIndex := 25, attributes := #[] }, { accessFlags := 25, nameIndex := 284, descriptorIndex := 25, attributes := #[] }, { accessFlags := 25, nameIndex := 286, descriptorIndex := 25, attributes := #[] }, { accessFlags := 25, nameIndex := 288, descriptorIndex := 25, attributes := #[] }, { accessFlags := 25, nameIndex := 290, descriptorIndex := 25, attributes := #[] }, { accessFlags := 25, nameIndex := 292, descriptorIndex := 25, attributes := #[] }, { accessFlags := 26, nameIndex := 108, descriptorIndex := 109, attributes := #[] }, { accessFlags := 25, nameIndex := 294, descriptorIndex := 25, attributes := #[] }])
  fields := #[{ name := "U", type := (.object "jdk/internal/misc/Unsafe"), accessFlags := 24, slot := 0, constantValue := 0 }, { name := "BIG_ENDIAN", type := .boolean, accessFlags := 26, slot := 1, constantValue := 0 }, { name := "LOG2_ARRAY_BOOLEAN_INDEX_SCALE", type := .int, accessFlags := 25, slot := 2, constantValue := 0 }, { name := "LOG2_ARRAY_BYTE_INDEX_SCALE", type := .int, accessFlags := 25, slot := 3, constantValue := 0 }, { name := "LOG2_ARRAY_CHAR_INDEX_SCALE", type := .int, accessFlags := 25, slot := 4, constantValue := 0 }, { name := "LOG2_ARRAY_SHORT_INDEX_SCALE", type := .int, accessFlags := 25, slot := 5, constantValue := 0 }, { name := "LOG2_ARRAY_INT_INDEX_SCALE", type := .int, accessFlags := 25, slot := 6, constantValue := 0 }, { name := "LOG2_ARRAY_LONG_INDEX_SCALE", type := .int, accessFlags := 25, slot := 7, constantValue := 0 }, { name := "LOG2_ARRAY_FLOAT_INDEX_SCALE", type := .int, accessFlags := 25, slot := 8, constantValue := 0 }, { name := "LOG2_ARRAY_DOUBLE_INDEX_SCALE", type := .int, accessFlags := 25, slot := 9, constantValue := 0 }, { name := "LOG2_BYTE_BIT_SIZE", type := .int, accessFlags := 26, slot := 10, constantValue := 0 }, { name := "T_BOOLEAN", type := .int, accessFlags := 25, slot := 11, constantValue := 0 }, { name := "T_CHAR", type := .int, accessFlags := 25, slot := 12, constantValue := 0 }, { name := "T_FLOAT", type := .int, accessFlags := 25, slot := 13, constantValue := 0 }, { name := "T_DOUBLE", type := .int, accessFlags := 25, slot := 14, constantValue := 0 }, { name := "T_BYTE", type := .int, accessFlags := 25, slot := 15, constantValue := 0 }, { name := "T_SHORT", type := .int, accessFlags := 25, slot := 16, constantValue := 0 }, { name := "T_INT", type := .int, accessFlags := 25, slot := 17, constantValue := 0 }, { name := "T_LONG", type := .int, accessFlags := 25, slot := 18, constantValue := 0 }, { name := "JLA", type := (.object "jdk/internal/access/JavaLangAccess"), accessFlags := 26, slot := 19, constantValue := 0 }, { name := "SOFT_MAX_ARRAY_LENGTH", type := .int, accessFlags := 25, slot := 20, constantValue := 0 }]
  methods := #[k16m0]
  instanceTypes := #[]
  staticTypes := #[(.object "jdk/internal/misc/Unsafe"), .boolean, .int, .int, .int, .int, .int, .int, .int, .int, .int, .int, .int, .int, .int, .int, .int, .int, .int, (.object "jdk/internal/access/JavaLangAccess"), .int]
  resolved := Array.replicate 378 none
  statics := none }

def pool17 : Array CpInfo := pool [(1, u "java/lang/Cloneable"), (0, .class_ 1), (0, u "java/lang/Object"), (0, .class_ 3)] 3

/-- java/lang/Cloneable -/
def k17 : Class := { plain "java/lang/Cloneable" (some 0) with
  accessFlags := 1537
  interfaces := #[]
  cf := some (fileOf pool17 2 #[] #[] 1537 4 #[] #[])
  fields := #[]
  methods := #[]
  instanceTypes := #[]
  staticTypes := #[]
  resolved := Array.replicate 8 none
  statics := none }

/-- the primitive byte -/
def k18 : Class := { plain "byte" none with kind := .primitive 'B', accessFlags := 0x411 }
/-- [B -/
def k19 : Class := { plain "[B" (some 0) with kind := .array 18 .byte, interfaces := #[17, 2], accessFlags := 1041 }

/-- the primitive char -/
def k20 : Class := { plain "char" none with kind := .primitive 'C', accessFlags := 0x411 }
/-- [C -/
def k21 : Class := { plain "[C" (some 0) with kind := .array 20 .char, interfaces := #[17, 2], accessFlags := 1041 }

def heap : Heap := #[{ cls := 7, slots := #[.long 0, .int 1, .null, .int 0, .null, .int 0, .int 0], vm := .statics 7 },
  { cls := 12, slots := #[.null, .ref 4, .ref 3, .null], vm := .statics 12 },
  { cls := 15, slots := #[.null, .null, .null], vm := .statics 15 },
  { cls := 12, slots := #[.null, .int 2, .int 0], vm := .none },
  { cls := 12, slots := #[.null, .int 1, .int 0], vm := .none }]
def classes : Array Class := #[k0, k1, k2, k3, k4, k5, k6, k7, k8, k9, k10, k11, k12, k13, k14, k15, k16, k17, k18, k19, k20, k21]
def interned : List (Array UInt16 × Addr) := []
def slotsUsed : Nat := 20
def theMethod : MethodId := ⟨1, 2⟩
def args0 : Array Value := #[.int 0, .int 0, .int 0, .int 0]
def aboutOver (below : List Frame) : State where
  vm := { classes := classes, interned := interned.toArray }
  heap := heap
  slotsUsed := slotsUsed
  threads := #[{ frames := .invoking theMethod args0 :: below }]
def below0 : List Frame := [.native { method := ⟨0, 0⟩, args := #[] }]
def about1 : State := aboutOver below0
def p0 : Program := .bare "" "" ""
def e0 : Env := launch0.env 0 0 0
theorem w_frames : about1.frames = Frame.invoking theMethod args0 :: below0 := rfl
set_option maxRecDepth 65536 in
theorem w_args : argsFit about1.vm theMethod args0 = true := by decide +kernel
set_option maxRecDepth 65536 in
theorem w_heap : heapFits about1 = true := by decide +kernel
set_option maxRecDepth 65536 in
theorem w_runnable : about1.curStatus? = some .runnable := by decide +kernel
set_option maxRecDepth 65536 in
theorem w_alone : about1.alone = true := by decide +kernel
set_option maxRecDepth 65536 in
theorem w_named : about1.methodNamed? x = some theMethod := by decide +kernel
set_option maxRecDepth 65536 in
theorem w_hears : about1.hears theMethod below0 = true := by decide +kernel
set_option maxRecDepth 65536 in
theorem w_ripe : about1.ripe theMethod args0 below0 = true := by decide +kernel
theorem w_running : about1.status = .running := rfl
set_option maxRecDepth 65536 in
theorem w_room : about1.hasRoom e0.platform room_1 = true :=
  launch0.hasRoom_least _ room_1 (by decide +kernel) (by decide +kernel) (by decide +kernel) (by decide +kernel) (by decide +kernel) (by decide +kernel)
theorem allAtoms_all (ts : List Jvm.Cond) (a : Array Jvm.Value) (st : Jvm.State) : (allAtoms ts).before a st = ts.all (fun c => c.before a st) := by
  induction ts with
  | nil => rfl
  | cons c t ih =>
    show (Jvm.Cond.and c (allAtoms t)).before a st = _
    rw [Jvm.Cond.before_and, ih, List.all_cons]
def words1 : List Jvm.Cond := Jvm.Cond.code x code maxLocals ret :: tables_1
/-- a 'code' word, met by the world's own term for the bytes: nothing is compared byte by byte -/
theorem code_word {y : MethodName} {bytes : ByteArray} {mx : Nat} {rt : Option FieldType} {a : Array Value} {s : State} {m : MethodId} {meth : Method} {c : Code} (h1 : s.methodNamed? y = some m) (h2 : s.vm.method? m = some meth) (h3 : meth.code = some c) (h4 : c.code = bytes)
    (h5 : (c.maxLocals == mx && c.exceptionTable.isEmpty && decide (c.maxStack ≤ mostOperands) && decide (meth.sig.returnType = rt) && !meth.locks && decide (parseMethodDescriptor y.desc = some meth.sig)) = true) : (Jvm.Cond.code y bytes mx rt).before a s = true := by
  simp only [Bool.and_eq_true, beq_iff_eq, Bool.not_eq_true', decide_eq_true_eq] at h5
  obtain ⟨⟨⟨⟨⟨g1, g2⟩, g3⟩, g4⟩, g5⟩, g6⟩ := h5
  simp [Cond.before, Cond.holds, Cond.value, h1, h2, h3, h4, g1, g2, g3, g4, g5, g6]
def isCode : Jvm.Cond → Bool
  | .code _ _ _ _ => true
  | _ => false
theorem all_split {L : List Jvm.Cond} {P : Jvm.Cond → Bool} (h1 : L.all (fun c => isCode c || P c) = true) (h2 : ∀ c ∈ L.filter isCode, P c = true) : L.all P = true := by
  refine List.all_eq_true.mpr fun c hc => ?_
  have h := List.all_eq_true.mp h1 c hc
  rcases Bool.eq_false_or_eq_true (isCode c) with hi | hi
  · exact h2 c (List.mem_filter.mpr ⟨hc, hi⟩)
  · simpa [hi] using h
set_option maxRecDepth 65536 in
theorem w_c0 : (Jvm.Cond.code x code maxLocals ret).before args0 about1 = true := code_word (m := ⟨1, 2⟩) (meth := k1m2) (c := k1c2) (by decide +kernel) rfl rfl rfl (by decide +kernel)
set_option maxRecDepth 65536 in
theorem w_c1 : (Jvm.Cond.code ({ cls := "com/example/holdfast/holdfast/core/GatewayAnswerPendingPinLaw", name := "draw", desc := "(IIII)Ljava/lang/String;" } : Jvm.MethodName) method_2_code (6 : Nat) (Option.some (Jvm.ClassFile.FieldType.object "java/lang/String"))).before args0 about1 = true := code_word (m := ⟨1, 1⟩) (meth := k1m1) (c := k1c1) (by decide +kernel) rfl rfl rfl (by decide +kernel)
set_option maxRecDepth 65536 in
theorem w_c2 : (Jvm.Cond.code ({ cls := "java/lang/String", name := "<init>", desc := "([C)V" } : Jvm.MethodName) jdk_42_method_3_code (2 : Nat) (Option.none : Option Jvm.ClassFile.FieldType)).before args0 about1 = true := code_word (m := ⟨7, 1⟩) (meth := k7m1) (c := k7c1) (by decide +kernel) rfl rfl rfl (by decide +kernel)
set_option maxRecDepth 65536 in
theorem w_c3 : (Jvm.Cond.code ({ cls := "java/lang/String", name := "<init>", desc := "([CIILjava/lang/Void;)V" } : Jvm.MethodName) jdk_42_method_149_code (6 : Nat) (Option.none : Option Jvm.ClassFile.FieldType)).before args0 about1 = true := code_word (m := ⟨7, 4⟩) (meth := k7m4) (c := k7c4) (by decide +kernel) rfl rfl rfl (by decide +kernel)
set_option maxRecDepth 65536 in
theorem w_c4 : (Jvm.Cond.code ({ cls := "java/lang/Object", name := "<init>", desc := "()V" } : Jvm.MethodName) object_method_1_code (1 : Nat) (Option.none : Option Jvm.ClassFile.FieldType)).before args0 about1 = true := code_word (m := ⟨0, 0⟩) (meth := k0m0) (c := k0c0) (by decide +kernel) rfl rfl rfl (by decide +kernel)
set_option maxRecDepth 65536 in
theorem w_c5 : (Jvm.Cond.code ({ cls := "java/lang/StringUTF16", name := "compress", desc := "([CII)[B" } : Jvm.MethodName) jdk_52_method_16_code (6 : Nat) (Option.some (Jvm.ClassFile.FieldType.array Jvm.ClassFile.FieldType.byte))).before args0 about1 = true := code_word (m := ⟨8, 2⟩) (meth := k8m2) (c := k8c2) (by decide +kernel) rfl rfl rfl (by decide +kernel)
set_option maxRecDepth 65536 in
theorem w_c6 : (Jvm.Cond.code ({ cls := "java/lang/StringUTF16", name := "compress", desc := "([CI[BII)I" } : Jvm.MethodName) jdk_52_method_21_code (7 : Nat) (Option.some Jvm.ClassFile.FieldType.int)).before args0 about1 = true := code_word (m := ⟨8, 3⟩) (meth := k8m3) (c := k8c3) (by decide +kernel) rfl rfl rfl (by decide +kernel)
set_option maxRecDepth 65536 in
theorem w_c7 : (Jvm.Cond.code ({ cls := "java/lang/StringUTF16", name := "coderFromArrayLen", desc := "([BI)B" } : Jvm.MethodName) jdk_52_method_15_code (2 : Nat) (Option.some Jvm.ClassFile.FieldType.byte)).before args0 about1 = true := code_word (m := ⟨8, 1⟩) (meth := k8m1) (c := k8c1) (by decide +kernel) rfl rfl rfl (by decide +kernel)
set_option maxRecDepth 65536 in
theorem w_c8 : (Jvm.Cond.code ({ cls := "com/example/holdfast/holdfast/core/GatewayAnswer", name := "pending", desc := "(Ljava/lang/String;)Lcom/example/holdfast/holdfast/core/GatewayAnswer;" } : Jvm.MethodName) prog_1_method_4_code (1 : Nat) (Option.some (Jvm.ClassFile.FieldType.object "com/example/holdfast/holdfast/core/GatewayAnswer"))).before args0 about1 = true := code_word (m := ⟨10, 1⟩) (meth := k10m1) (c := k10c1) (by decide +kernel) rfl rfl rfl (by decide +kernel)
set_option maxRecDepth 65536 in
theorem w_c9 : (Jvm.Cond.code ({ cls := "com/example/holdfast/holdfast/core/GatewayAnswer", name := "<init>", desc := "(Lcom/example/holdfast/holdfast/core/GatewayAnswer$Outcome;Ljava/lang/String;Ljava/lang/String;)V" } : Jvm.MethodName) prog_1_method_1_code (5 : Nat) (Option.none : Option Jvm.ClassFile.FieldType)).before args0 about1 = true := code_word (m := ⟨10, 0⟩) (meth := k10m0) (c := k10c0) (by decide +kernel) rfl rfl rfl (by decide +kernel)
set_option maxRecDepth 65536 in
theorem w_c10 : (Jvm.Cond.code ({ cls := "java/lang/Record", name := "<init>", desc := "()V" } : Jvm.MethodName) jdk_30_method_1_code (1 : Nat) (Option.none : Option Jvm.ClassFile.FieldType)).before args0 about1 = true := code_word (m := ⟨9, 0⟩) (meth := k9m0) (c := k9c0) (by decide +kernel) rfl rfl rfl (by decide +kernel)
set_option maxRecDepth 65536 in
theorem w_c11 : (Jvm.Cond.code ({ cls := "java/util/Objects", name := "requireNonNull", desc := "(Ljava/lang/Object;Ljava/lang/String;)Ljava/lang/Object;" } : Jvm.MethodName) jdk_31_method_11_code (2 : Nat) (Option.some (Jvm.ClassFile.FieldType.object "java/lang/Object"))).before args0 about1 = true := code_word (m := ⟨13, 1⟩) (meth := k13m1) (c := k13c1) (by decide +kernel) rfl rfl rfl (by decide +kernel)
set_option maxRecDepth 65536 in
theorem w_c12 : (Jvm.Cond.code ({ cls := "java/lang/String", name := "isEmpty", desc := "()Z" } : Jvm.MethodName) jdk_42_method_55_code (1 : Nat) (Option.some Jvm.ClassFile.FieldType.boolean)).before args0 about1 = true := code_word (m := ⟨7, 2⟩) (meth := k7m2) (c := k7c2) (by decide +kernel) rfl rfl rfl (by decide +kernel)
set_option maxRecDepth 65536 in
theorem w_c13 : (Jvm.Cond.code ({ cls := "com/example/holdfast/holdfast/core/GatewayAnswer", name := "outcome", desc := "()Lcom/example/holdfast/holdfast/core/GatewayAnswer$Outcome;" } : Jvm.MethodName) prog_1_method_8_code (1 : Nat) (Option.some (Jvm.ClassFile.FieldType.object "com/example/holdfast/holdfast/core/GatewayAnswer$Outcome"))).before args0 about1 = true := code_word (m := ⟨10, 2⟩) (meth := k10m2) (c := k10c2) (by decide +kernel) rfl rfl rfl (by decide +kernel)
set_option maxRecDepth 65536 in
theorem w_c14 : (Jvm.Cond.code ({ cls := "com/example/holdfast/holdfast/core/GatewayAnswer", name := "transactionId", desc := "()Ljava/lang/String;" } : Jvm.MethodName) prog_1_method_9_code (1 : Nat) (Option.some (Jvm.ClassFile.FieldType.object "java/lang/String"))).before args0 about1 = true := code_word (m := ⟨10, 3⟩) (meth := k10m3) (c := k10c3) (by decide +kernel) rfl rfl rfl (by decide +kernel)
set_option maxRecDepth 65536 in
theorem w_c15 : (Jvm.Cond.code ({ cls := "java/lang/String", name := "equals", desc := "(Ljava/lang/Object;)Z" } : Jvm.MethodName) jdk_42_method_66_code (3 : Nat) (Option.some Jvm.ClassFile.FieldType.boolean)).before args0 about1 = true := code_word (m := ⟨7, 3⟩) (meth := k7m3) (c := k7c3) (by decide +kernel) rfl rfl rfl (by decide +kernel)
set_option maxRecDepth 65536 in
theorem w_c16 : (Jvm.Cond.code ({ cls := "com/example/holdfast/holdfast/core/GatewayAnswer", name := "declineReason", desc := "()Ljava/lang/String;" } : Jvm.MethodName) prog_1_method_10_code (1 : Nat) (Option.some (Jvm.ClassFile.FieldType.object "java/lang/String"))).before args0 about1 = true := code_word (m := ⟨10, 4⟩) (meth := k10m4) (c := k10c4) (by decide +kernel) rfl rfl rfl (by decide +kernel)
def codes1 : List Jvm.Cond := [Jvm.Cond.code x code maxLocals ret, Jvm.Cond.code ({ cls := "com/example/holdfast/holdfast/core/GatewayAnswerPendingPinLaw", name := "draw", desc := "(IIII)Ljava/lang/String;" } : Jvm.MethodName) method_2_code (6 : Nat) (Option.some (Jvm.ClassFile.FieldType.object "java/lang/String")), Jvm.Cond.code ({ cls := "java/lang/String", name := "<init>", desc := "([C)V" } : Jvm.MethodName) jdk_42_method_3_code (2 : Nat) (Option.none : Option Jvm.ClassFile.FieldType), Jvm.Cond.code ({ cls := "java/lang/String", name := "<init>", desc := "([CIILjava/lang/Void;)V" } : Jvm.MethodName) jdk_42_method_149_code (6 : Nat) (Option.none : Option Jvm.ClassFile.FieldType), Jvm.Cond.code ({ cls := "java/lang/Object", name := "<init>", desc := "()V" } : Jvm.MethodName) object_method_1_code (1 : Nat) (Option.none : Option Jvm.ClassFile.FieldType), Jvm.Cond.code ({ cls := "java/lang/StringUTF16", name := "compress", desc := "([CII)[B" } : Jvm.MethodName) jdk_52_method_16_code (6 : Nat) (Option.some (Jvm.ClassFile.FieldType.array Jvm.ClassFile.FieldType.byte)), Jvm.Cond.code ({ cls := "java/lang/StringUTF16", name := "compress", desc := "([CI[BII)I" } : Jvm.MethodName) jdk_52_method_21_code (7 : Nat) (Option.some Jvm.ClassFile.FieldType.int), Jvm.Cond.code ({ cls := "java/lang/StringUTF16", name := "coderFromArrayLen", desc := "([BI)B" } : Jvm.MethodName) jdk_52_method_15_code (2 : Nat) (Option.some Jvm.ClassFile.FieldType.byte), Jvm.Cond.code ({ cls := "com/example/holdfast/holdfast/core/GatewayAnswer", name := "pending", desc := "(Ljava/lang/String;)Lcom/example/holdfast/holdfast/core/GatewayAnswer;" } : Jvm.MethodName) prog_1_method_4_code (1 : Nat) (Option.some (Jvm.ClassFile.FieldType.object "com/example/holdfast/holdfast/core/GatewayAnswer")), Jvm.Cond.code ({ cls := "com/example/holdfast/holdfast/core/GatewayAnswer", name := "<init>", desc := "(Lcom/example/holdfast/holdfast/core/GatewayAnswer$Outcome;Ljava/lang/String;Ljava/lang/String;)V" } : Jvm.MethodName) prog_1_method_1_code (5 : Nat) (Option.none : Option Jvm.ClassFile.FieldType), Jvm.Cond.code ({ cls := "java/lang/Record", name := "<init>", desc := "()V" } : Jvm.MethodName) jdk_30_method_1_code (1 : Nat) (Option.none : Option Jvm.ClassFile.FieldType), Jvm.Cond.code ({ cls := "java/util/Objects", name := "requireNonNull", desc := "(Ljava/lang/Object;Ljava/lang/String;)Ljava/lang/Object;" } : Jvm.MethodName) jdk_31_method_11_code (2 : Nat) (Option.some (Jvm.ClassFile.FieldType.object "java/lang/Object")), Jvm.Cond.code ({ cls := "java/lang/String", name := "isEmpty", desc := "()Z" } : Jvm.MethodName) jdk_42_method_55_code (1 : Nat) (Option.some Jvm.ClassFile.FieldType.boolean), Jvm.Cond.code ({ cls := "com/example/holdfast/holdfast/core/GatewayAnswer", name := "outcome", desc := "()Lcom/example/holdfast/holdfast/core/GatewayAnswer$Outcome;" } : Jvm.MethodName) prog_1_method_8_code (1 : Nat) (Option.some (Jvm.ClassFile.FieldType.object "com/example/holdfast/holdfast/core/GatewayAnswer$Outcome")), Jvm.Cond.code ({ cls := "com/example/holdfast/holdfast/core/GatewayAnswer", name := "transactionId", desc := "()Ljava/lang/String;" } : Jvm.MethodName) prog_1_method_9_code (1 : Nat) (Option.some (Jvm.ClassFile.FieldType.object "java/lang/String")), Jvm.Cond.code ({ cls := "java/lang/String", name := "equals", desc := "(Ljava/lang/Object;)Z" } : Jvm.MethodName) jdk_42_method_66_code (3 : Nat) (Option.some Jvm.ClassFile.FieldType.boolean), Jvm.Cond.code ({ cls := "com/example/holdfast/holdfast/core/GatewayAnswer", name := "declineReason", desc := "()Ljava/lang/String;" } : Jvm.MethodName) prog_1_method_10_code (1 : Nat) (Option.some (Jvm.ClassFile.FieldType.object "java/lang/String"))]
set_option maxRecDepth 65536 in
theorem codes_eq : words1.filter isCode = codes1 := rfl
theorem w_codes : ∀ c ∈ words1.filter isCode, c.before args0 about1 = true := by
  rw [codes_eq]
  intro c hc
  simp only [codes1, List.mem_cons, List.not_mem_nil, or_false] at hc
  rcases hc with rfl | rfl | rfl | rfl | rfl | rfl | rfl | rfl | rfl | rfl | rfl | rfl | rfl | rfl | rfl | rfl | rfl
  · exact w_c0
  · exact w_c1
  · exact w_c2
  · exact w_c3
  · exact w_c4
  · exact w_c5
  · exact w_c6
  · exact w_c7
  · exact w_c8
  · exact w_c9
  · exact w_c10
  · exact w_c11
  · exact w_c12
  · exact w_c13
  · exact w_c14
  · exact w_c15
  · exact w_c16
set_option maxRecDepth 65536 in
theorem w_t1 : (words1.take 24).all (fun c => isCode c || c.before args0 about1) = true := by decide +kernel
set_option maxRecDepth 65536 in
theorem w_t2 : ((words1.drop 24).take 24).all (fun c => isCode c || c.before args0 about1) = true := by decide +kernel
set_option maxRecDepth 65536 in
theorem w_t3 : (((words1.drop 24).drop 24).take 24).all (fun c => isCode c || c.before args0 about1) = true := by decide +kernel
set_option maxRecDepth 65536 in
theorem w_t4 : (((words1.drop 24).drop 24).drop 24).all (fun c => isCode c || c.before args0 about1) = true := by decide +kernel
theorem w_tables : (allAtoms (Jvm.Cond.code x code maxLocals ret :: tables_1)).before args0 about1 = true := by
  rw [allAtoms_all]
  show words1.all (fun c => c.before args0 about1) = true
  refine all_split ?_ w_codes
  rw [← List.take_append_drop 24 words1, List.all_append, w_t1, ← List.take_append_drop 24 (words1.drop 24), List.all_append, w_t2, ← List.take_append_drop 24 ((words1.drop 24).drop 24), List.all_append, w_t3, w_t4]
  rfl
set_option maxRecDepth 65536 in
theorem w_rest : rest_1_c.before args0 about1 = true := by decide +kernel
set_option maxRecDepth 65536 in
theorem w_case : (Jvm.Cond.and given_1 narrow_1).before args0 about1 = true := by decide +kernel
theorem w_applies : (headSpec (Jvm.Cond.code x code maxLocals ret :: tables_1) room_1).applies x e0.platform about1 = true :=
  (Spec.applies_iff w_frames).mpr ⟨w_running, w_runnable, w_alone, w_named, w_hears, w_ripe, w_room, w_tables⟩
theorem atStart : AtStart classFile x code maxLocals ret World_1 tables_1 room_1 Calls_1 rest_1 Pre_1 launch0 p0 e0 about1 theMethod args0 below0 :=
  ⟨lists_1, trivial, launch0.admits_env _ _ _, launch0.least_env, fairChoices_fair.cas, fairChoices_fair.clock, w_frames, w_args, w_heap, w_applies, trivial, w_rest, w_case⟩
end start1
theorem witness_1 : WitnessClaimed_1 := ⟨start1.p0, start1.e0, start1.about1, start1.theMethod, start1.args0, start1.below0, start1.atStart⟩
end Jvm.Pilot.@@N@@
