import JvmDerived
import JvmDerived.Pilot.@@N@@Statement
import JvmDerived.Pilot.@@N@@Code
set_option linter.unusedVariables false
set_option linter.unusedSimpArgs false
/- laws to paste: Road.backV (cut by pick.py; bodies as the Statement names them) -/
namespace Jvm.Pilot.@@N@@
namespace StrChars
open Jvm Sem ClassFile Op Lib Jvm.Stand Jvm.Free.XT Jvm.Free.ALB Jvm.Free.JM Jvm.Free
open Jvm.Lib.Cold (StaticIs)
/-- a char array whose places are chars -/
def Ch (a : Addr) (A : Cell) (U : State) : Prop := Arr .char a A U ∧ Typed .char A
theorem Ch.mv {a : Addr} {A : Cell} {U U' : State} (h : Ch a A U) (hal : U.vm.Alike U'.vm) (hh : U'.heap = U.heap) : Ch a A U' := ⟨h.1.mv hal hh, h.2⟩
theorem Ch.keep {a : Addr} {A : Cell} {U U' : State} (h : Ch a A U) (hal : U.vm.Alike U'.vm) (hk : U'.heap[a]? = some A) : Ch a A U' := ⟨h.1.keep hal hk, h.2⟩
/-- what place i of a char[]'s cell holds -/
def cv (A : Cell) (i : Nat) : Int32 := match A.slots[i]? with | some (.int x) => x | _ => 0
theorem Ch.get {a : Addr} {A : Cell} {U : State} (h : Ch a A U) {i : Nat} (hi : i < A.slots.size) : A.slots[i]? = some (.int (cv A i)) := by
  have e := Array.getElem?_eq_getElem hi
  have f := h.2 i _ e
  unfold cv; rw [e]
  generalize A.slots[i] = v at f
  cases v <;> simp [fits] at f ⊢
/-- the byte that i2b leaves of a char -/
def lo8 (x : Int32) : Int32 := x.toInt8.toInt32
theorem fits_lo8 (y : Int32) : fits .byte (.int (lo8 y)) = true := by
  have h1 := y.toInt8.le_toInt
  have h2 := y.toInt8.toInt_lt
  simp only [lo8, fits, Bool.and_eq_true, decide_eq_true_eq, Int32.le_iff_toInt_le, Int8.toInt_toInt32, show (-128 : Int32).toInt = -128 from by decide, show (127 : Int32).toInt = 127 from by decide]
  omega
/-- A' is A but that each place j of lo .. hi - 1 holds f j -/
def Laid (A A' : Cell) (lo hi : Nat) (f : Nat → Value) : Prop := A'.cls = A.cls ∧ A'.vm = A.vm ∧ A'.slots.size = A.slots.size ∧ ∀ i, A'.slots[i]? = if lo ≤ i ∧ i < hi then some (f i) else A.slots[i]?
theorem Laid.zero (A : Cell) (lo : Nat) (f : Nat → Value) : Laid A A lo (lo + 0) f := ⟨rfl, rfl, rfl, fun i => by rw [if_neg (by omega)]⟩
theorem Laid.step {A Ak : Cell} {lo k : Nat} {f : Nat → Value} {v : Value} (h : Laid A Ak lo k f) (hlo : lo ≤ k) (hk : k < Ak.slots.size) (hv : v = f k) : Laid A (Ak.setSlot k v) lo (k + 1) f := by
  refine ⟨h.1, h.2.1, by simpa [Cell.setSlot] using h.2.2.1, fun i => ?_⟩
  by_cases e : k = i
  · subst e; rw [Cell.slots_setSlot_self v hk, if_pos (by omega), hv]
  · rw [Cell.slots_setSlot_ne v e, h.2.2.2 i]
    by_cases q : lo ≤ i ∧ i < k
    · rw [if_pos q, if_pos (by omega)]
    · rw [if_neg q, if_neg (by omega)]
def U16 : String := "java/lang/StringUTF16"
namespace Cmp5
def yN : MethodName := ⟨"java/lang/StringUTF16", "compress", "([CI[BII)I"⟩
abbrev yB : ByteArray := jdk_52_method_21_code
theorem d0 : decode yB 0 = .ok (.iconst 0, 1) := by decide +kernel
theorem d1 : decode yB 1 = .ok (.istore 5, 2) := by decide +kernel
theorem d3 : decode yB 3 = .ok (.iload 5, 2) := by decide +kernel
theorem d5 : decode yB 5 = .ok (.iload 4, 2) := by decide +kernel
theorem d7 : decode yB 7 = .ok (.if_icmp (.ge) 37, 3) := by decide +kernel
theorem d10 : decode yB 10 = .ok (.aload_n 0, 1) := by decide +kernel
theorem d11 : decode yB 11 = .ok (.iload_n 1, 1) := by decide +kernel
theorem d12 : decode yB 12 = .ok (.caload, 1) := by decide +kernel
theorem d13 : decode yB 13 = .ok (.istore 6, 2) := by decide +kernel
theorem d15 : decode yB 15 = .ok (.iload 6, 2) := by decide +kernel
theorem d17 : decode yB 17 = .ok (.sipush 255, 3) := by decide +kernel
theorem d20 : decode yB 20 = .ok (.if_icmp (.le) 6, 3) := by decide +kernel
theorem d26 : decode yB 26 = .ok (.aload_n 2, 1) := by decide +kernel
theorem d27 : decode yB 27 = .ok (.iload_n 3, 1) := by decide +kernel
theorem d28 : decode yB 28 = .ok (.iload 6, 2) := by decide +kernel
theorem d30 : decode yB 30 = .ok (.i2b, 1) := by decide +kernel
theorem d31 : decode yB 31 = .ok (.bastore, 1) := by decide +kernel
theorem d32 : decode yB 32 = .ok (.iinc 1 1, 3) := by decide +kernel
theorem d35 : decode yB 35 = .ok (.iinc 3 1, 3) := by decide +kernel
theorem d38 : decode yB 38 = .ok (.iinc 5 1, 3) := by decide +kernel
theorem d41 : decode yB 41 = .ok (.goto (-38), 3) := by decide +kernel
theorem d44 : decode yB 44 = .ok (.iload 4, 2) := by decide +kernel
theorem d46 : decode yB 46 = .ok (.ireturn, 1) := by decide +kernel
def site : List Cond := []
def tab : Cond := tabOf yN yB 7 (some .int) site
def P (b : Addr) (A : Cell) (d : Addr) (B : Cell) (o q len : Nat) (args : Array Value) (s : State) : Prop := args = #[.ref b, .int (Int32.ofNat o), .ref d, .int (Int32.ofNat q), .int (Int32.ofNat len)] ∧ Ch b A s ∧ Arr .byte d B s ∧ b ≠ d ∧ o + len ≤ A.slots.size ∧ q + len ≤ B.slots.size ∧ ∀ i, i < len → ¬ 255 < cv A (o + i)
def E (b : Addr) (A : Cell) (d : Addr) (B : Cell) (o q len : Nat) (r : Option Value) (s u : State) : Prop := r = some (.int (Int32.ofNat len)) ∧ ∃ B', Put d B' s u ∧ Laid B B' q (q + len) (fun j => Value.int (lo8 (cv A (o + (j - q)))))
/-- no char of the range above 255: len; the places written hold each char's low byte -/
theorem law (l : Launch) (b : Addr) (A : Cell) (d : Addr) (B : Cell) (o q len : Nat) : Law l yN 5 5 0 0 yB 7 (some .int) site (P b A d B o q len) (E b A d B o q len) (copyLocs d q len) 0 0 := by
  refine Law.of_walk (plainFor_of_name (by decide +kernel)) (by decide +kernel) (by decide +kernel) (by decide) (fun _ _ h => by rw [h.1]; rfl) (fun _ U U' hal hh h => ⟨h.1, h.2.1.mv hal hh, h.2.2.1.mv hal hh, h.2.2.2⟩) (fun r U U' V V' h1 hal h2 h => ⟨h.1, h.2.elim fun B' q => ⟨B', q.1.mv h1 h2, q.2⟩⟩) ?_
  intro p e s m args below meth c s₁ X0 hexec hbytes hml hret hlk hnm hown hh0 W hP
  obtain ⟨rfl, hA, hB, hne, l1, l2, hp⟩ := hP
  have c1 : Steps p.tables e below (s₁.setTop (entryFrame m #[.ref b, .int (Int32.ofNat o), .ref d, .int (Int32.ofNat q), .int (Int32.ofNat len)] 7)) (s₁.setTop (mkF m 0 #[.val (.ref b), .val (.int (Int32.ofNat o)), .val (.ref d), .val (.int (Int32.ofNat q)), .val (.int (Int32.ofNat len)), .unset, .unset] [])) := entry rfl
  have hA0 := hA.1.mv X0.warmed.alike hh0
  have hB0 := hB.mv X0.warmed.alike hh0
  have a31 := hA.1.2.2.2
  have c2 : Steps p.tables e below (s₁.setTop (entryFrame m #[.ref b, .int (Int32.ofNat o), .ref d, .int (Int32.ofNat q), .int (Int32.ofNat len)] 7)) (s₁.setTop (mkF m 3 #[.val (.ref b), .val (.int (Int32.ofNat o)), .val (.ref d), .val (.int (Int32.ofNat q)), .val (.int (Int32.ofNat len)), .val (.int 0), .unset] [])) := c1.trans (by
    refine iconstV X0.here hexec rfl 0 (hb hbytes d0) (by decide) ?_
    refine XS.istore X0.here hexec rfl (hb hbytes d1) rfl rfl ?_
    exact Steps.refl _)
  have loop : ∀ (r i : Nat), i + r = len → ∀ (z : Slot), (z = .unset ∨ ∃ w, z = .val w ∧ w.category = 1) → ∀ (Tl : State) (Bk : Cell), Stand p l e { frames := 0, locals := 0, cells := 0, slots := 0 } s m #[.ref b, .int (Int32.ofNat o), .ref d, .int (Int32.ofNat q), .int (Int32.ofNat len)] below meth c Tl ([] ++ copyLocs d q i) 0 0 → Put d Bk s₁ Tl → Laid B Bk q (q + i) (fun j => Value.int (lo8 (cv A (o + (j - q))))) →
      Steps p.tables e below (s₁.setTop (entryFrame m #[.ref b, .int (Int32.ofNat o), .ref d, .int (Int32.ofNat q), .int (Int32.ofNat len)] 7)) (Tl.setTop (mkF m 3 #[.val (.ref b), .val (.int (Int32.ofNat (o + i))), .val (.ref d), .val (.int (Int32.ofNat (q + i))), .val (.int (Int32.ofNat len)), .val (.int (Int32.ofNat i)), z] [])) → ∃ (T' : State) (B' : Cell) (z' : Slot), Stand p l e { frames := 0, locals := 0, cells := 0, slots := 0 } s m #[.ref b, .int (Int32.ofNat o), .ref d, .int (Int32.ofNat q), .int (Int32.ofNat len)] below meth c T' ([] ++ copyLocs d q len) 0 0 ∧ Put d B' s₁ T' ∧ Laid B B' q (q + len) (fun j => Value.int (lo8 (cv A (o + (j - q))))) ∧
      Steps p.tables e below (s₁.setTop (entryFrame m #[.ref b, .int (Int32.ofNat o), .ref d, .int (Int32.ofNat q), .int (Int32.ofNat len)] 7)) (T'.setTop (mkF m 3 #[.val (.ref b), .val (.int (Int32.ofNat (o + len))), .val (.ref d), .val (.int (Int32.ofNat (q + len))), .val (.int (Int32.ofNat len)), .val (.int (Int32.ofNat len)), z'] [])) := by
    intro r
    induction r with
    | zero =>
      intro i hi z hz Tl Bk Xl pl fl cl
      have hil : i = len := by omega
      rw [hil] at Xl fl cl
      exact ⟨Tl, Bk, z, Xl, pl, fl, cl⟩
    | succ r ih =>
      intro i hi z hz Tl Bk Xl pl fl cl
      have all := X0.warmed.alike.symm.trans Xl.warmed.alike
      have hAl := hA0.keep all (pl.other hne hA0.1)
      have hBk := hB0.like all pl.1 fl.1 fl.2.1 fl.2.2.1
      have hlt : q + i < Bk.slots.size := by rw [fl.2.2.1]; omega
      have c3 : Steps p.tables e below (s₁.setTop (entryFrame m #[.ref b, .int (Int32.ofNat o), .ref d, .int (Int32.ofNat q), .int (Int32.ofNat len)] 7)) (Tl.setTop (mkF m 12 #[.val (.ref b), .val (.int (Int32.ofNat (o + i))), .val (.ref d), .val (.int (Int32.ofNat (q + i))), .val (.int (Int32.ofNat len)), .val (.int (Int32.ofNat i)), z] [.int (Int32.ofNat (o + i)), .ref b])) := cl.trans (by
        refine XS.iload Xl.here hexec rfl (hb hbytes d3) rfl ?_
        refine XS.iload Xl.here hexec rfl (hb hbytes d5) rfl ?_
        refine XS.icmpNo Xl.here hexec rfl (hb hbytes d7) rfl (ii_ge_f (lt32 (by omega) (by omega))) ?_
        refine XS.aloadN Xl.here hexec rfl (hb hbytes d10) rfl rfl ?_
        refine XS.iloadN Xl.here hexec rfl (hb hbytes d11) rfl ?_
        exact Steps.refl _)
      have c4 : Steps p.tables e below (s₁.setTop (entryFrame m #[.ref b, .int (Int32.ofNat o), .ref d, .int (Int32.ofNat q), .int (Int32.ofNat len)] 7)) (Tl.setTop (mkF m 13 #[.val (.ref b), .val (.int (Int32.ofNat (o + i))), .val (.ref d), .val (.int (Int32.ofNat (q + i))), .val (.int (Int32.ofNat len)), .val (.int (Int32.ofNat i)), z] [.int (cv A (o + i))])) := c3.trans (by
        refine Xl.aget hexec hAl rfl (hA.get (i := o + i) (by omega)) rfl rfl (hb hbytes d12) ?_
        exact Steps.refl _)
      have c5 : Steps p.tables e below (s₁.setTop (entryFrame m #[.ref b, .int (Int32.ofNat o), .ref d, .int (Int32.ofNat q), .int (Int32.ofNat len)] 7)) (Tl.setTop (mkF m 15 #[.val (.ref b), .val (.int (Int32.ofNat (o + i))), .val (.ref d), .val (.int (Int32.ofNat (q + i))), .val (.int (Int32.ofNat len)), .val (.int (Int32.ofNat i)), .val (.int (cv A (o + i)))] [])) := c4.trans (by
        refine XS.istoreS Xl.here hexec rfl (hb hbytes d13) rfl rfl hz ?_
        exact Steps.refl _)
      have c6 : Steps p.tables e below (s₁.setTop (entryFrame m #[.ref b, .int (Int32.ofNat o), .ref d, .int (Int32.ofNat q), .int (Int32.ofNat len)] 7)) (Tl.setTop (mkF m 31 #[.val (.ref b), .val (.int (Int32.ofNat (o + i))), .val (.ref d), .val (.int (Int32.ofNat (q + i))), .val (.int (Int32.ofNat len)), .val (.int (Int32.ofNat i)), .val (.int (cv A (o + i)))] [.int (lo8 (cv A (o + i))), .int (Int32.ofNat (q + i)), .ref d])) := c5.trans (by
        refine XS.iload Xl.here hexec rfl (hb hbytes d15) rfl ?_
        refine sipushV Xl.here hexec rfl 255 (hb hbytes d17) (by decide) ?_
        refine XS.icmpYes Xl.here hexec rfl (pc0 := 20) rfl (hb hbytes d20) rfl (ii_le_t (hp i (by omega))) (by decide) rfl ?_
        refine XS.aloadN Xl.here hexec rfl (hb hbytes d26) rfl rfl ?_
        refine XS.iloadN Xl.here hexec rfl (hb hbytes d27) rfl ?_
        refine XS.iload Xl.here hexec rfl (hb hbytes d28) rfl ?_
        refine i2b Xl.here hexec rfl (hb hbytes d30) rfl ?_
        exact Steps.refl _)
      obtain ⟨T7, X7, p7, st7⟩ := Xl.aput hexec hBk rfl hlt rfl (fits_lo8 (cv A (o + i))) (g := (mkF m 31 #[.val (.ref b), .val (.int (Int32.ofNat (o + i))), .val (.ref d), .val (.int (Int32.ofNat (q + i))), .val (.int (Int32.ofNat len)), .val (.int (Int32.ofNat i)), .val (.int (cv A (o + i)))] [.int (lo8 (cv A (o + i))), .int (Int32.ofNat (q + i)), .ref d])) rfl (rest := []) rfl (hb hbytes d31)
      have c8 : Steps p.tables e below (s₁.setTop (entryFrame m #[.ref b, .int (Int32.ofNat o), .ref d, .int (Int32.ofNat q), .int (Int32.ofNat len)] 7)) (T7.setTop (mkF m 32 #[.val (.ref b), .val (.int (Int32.ofNat (o + i))), .val (.ref d), .val (.int (Int32.ofNat (q + i))), .val (.int (Int32.ofNat len)), .val (.int (Int32.ofNat i)), .val (.int (cv A (o + i)))] [])) := c6.trans (st7 _ (Steps.refl _))
      have c9 : Steps p.tables e below (s₁.setTop (entryFrame m #[.ref b, .int (Int32.ofNat o), .ref d, .int (Int32.ofNat q), .int (Int32.ofNat len)] 7)) (T7.setTop (mkF m 3 #[.val (.ref b), .val (.int (Int32.ofNat (o + i) + 1)), .val (.ref d), .val (.int (Int32.ofNat (q + i) + 1)), .val (.int (Int32.ofNat len)), .val (.int (Int32.ofNat i + 1)), .val (.int (cv A (o + i)))] [])) := c8.trans (by
        refine iincV X7.here hexec rfl 1 (hb hbytes d32) (by decide) rfl rfl ?_
        refine iincV X7.here hexec rfl 1 (hb hbytes d35) (by decide) rfl rfl ?_
        refine iincV X7.here hexec rfl 1 (hb hbytes d38) (by decide) rfl rfl ?_
        refine XS.goto X7.here hexec rfl (pc0 := 41) rfl (hb hbytes d41) (by decide) rfl ?_
        exact Steps.refl _)
      have c10 : Steps p.tables e below (s₁.setTop (entryFrame m #[.ref b, .int (Int32.ofNat o), .ref d, .int (Int32.ofNat q), .int (Int32.ofNat len)] 7)) (T7.setTop (mkF m 3 #[.val (.ref b), .val (.int (Int32.ofNat (o + (i + 1)))), .val (.ref d), .val (.int (Int32.ofNat (q + (i + 1)))), .val (.int (Int32.ofNat len)), .val (.int (Int32.ofNat (i + 1))), .val (.int (cv A (o + i)))] [])) := by
        have := c9
        rw [succ32, succ32, succ32] at this
        exact this
      exact ih (i + 1) (by omega) _ (Or.inr ⟨_, rfl, rfl⟩) T7 _ (by rw [copyLocs_step, ← List.append_assoc]; exact X7) (pl.trans p7) (fl.step (by omega) hlt (by simp)) c10
  obtain ⟨T9, B9, z9, X9, p9, f9, g9⟩ := loop len 0 (by omega) .unset (Or.inl rfl) s₁ B (by simpa [copyLocs] using X0) ⟨hB0.1, fun _ _ => rfl, rfl⟩ (Laid.zero _ _ _) c2
  have c11 : Steps p.tables e below (s₁.setTop (entryFrame m #[.ref b, .int (Int32.ofNat o), .ref d, .int (Int32.ofNat q), .int (Int32.ofNat len)] 7)) (T9.setTop (mkF m 46 #[.val (.ref b), .val (.int (Int32.ofNat (o + len))), .val (.ref d), .val (.int (Int32.ofNat (q + len))), .val (.int (Int32.ofNat len)), .val (.int (Int32.ofNat len)), z9] [.int (Int32.ofNat len)])) := g9.trans (by
    refine XS.iload X9.here hexec rfl (hb hbytes d3) rfl ?_
    refine XS.iload X9.here hexec rfl (hb hbytes d5) rfl ?_
    refine XS.icmpYes X9.here hexec rfl (pc0 := 7) rfl (hb hbytes d7) rfl (ii_ge_t (nlt32 (by omega) (Nat.le_refl _))) (by decide) rfl ?_
    refine XS.iload X9.here hexec rfl (hb hbytes d44) rfl ?_
    exact Steps.refl _)
  exact ⟨T9, some (.int (Int32.ofNat len)), _, _, _, X9, by simp, rfl, rfl, (fun h => by cases h), ⟨rfl, B9, p9.from hh0, f9⟩, fun fs hl => c11.trans (X9.ireturnOut hexec hret rfl (Or.inl rfl) (hb hbytes d46) hl)⟩
end Cmp5
namespace Cmp3
def yN : MethodName := ⟨"java/lang/StringUTF16", "compress", "([CII)[B"⟩
abbrev yB : ByteArray := jdk_52_method_16_code
theorem d0 : decode yB 0 = .ok (.iload_n 2, 1) := by decide +kernel
theorem d1 : decode yB 1 = .ok (.newarray .byte, 2) := by decide +kernel
theorem d3 : decode yB 3 = .ok (.astore_n 3, 1) := by decide +kernel
theorem d4 : decode yB 4 = .ok (.aload_n 0, 1) := by decide +kernel
theorem d5 : decode yB 5 = .ok (.iload_n 1, 1) := by decide +kernel
theorem d6 : decode yB 6 = .ok (.aload_n 3, 1) := by decide +kernel
theorem d7 : decode yB 7 = .ok (.iconst 0, 1) := by decide +kernel
theorem d8 : decode yB 8 = .ok (.iload_n 2, 1) := by decide +kernel
theorem d9 : decode yB 9 = .ok (.invokestatic 115, 3) := by decide +kernel
theorem d12 : decode yB 12 = .ok (.istore 4, 2) := by decide +kernel
theorem d14 : decode yB 14 = .ok (.iload 4, 2) := by decide +kernel
theorem d16 : decode yB 16 = .ok (.iload_n 2, 1) := by decide +kernel
theorem d17 : decode yB 17 = .ok (.if_icmp (.eq) 40, 3) := by decide +kernel
theorem d57 : decode yB 57 = .ok (.aload_n 3, 1) := by decide +kernel
theorem d58 : decode yB 58 = .ok (.areturn, 1) := by decide +kernel
def site : List Cond := [.arrayClass .byte, Cmp5.tab] ++ staticW U16 115 Cmp5.yN
def tab : Cond := tabOf yN yB 6 (some (.array .byte)) site
def P (b : Addr) (A : Cell) (o len : Nat) (args : Array Value) (s : State) : Prop := args = #[.ref b, .int (Int32.ofNat o), .int (Int32.ofNat len)] ∧ Ch b A s ∧ o + len ≤ A.slots.size ∧ len ≤ 536870912 ∧ ∀ i, i < len → ¬ 255 < cv A (o + i)
def E (b : Addr) (A : Cell) (o len : Nat) (r : Option Value) (s u : State) : Prop := NewArr .byte "[B" len (fun j => .int (lo8 (cv A (o + j)))) r s u ∧ u.heap.size = s.heap.size + 1
/-- no char of the range above 255: a new byte[] of their low bytes -/
theorem law (l : Launch) (b : Addr) (A : Cell) (o len : Nat) : Law l yN 3 3 1 18 yB 6 (some (.array .byte)) site (P b A o len) (E b A o len) [] 1 len := by
  refine Law.of_walk (plainFor_of_name (by decide +kernel)) (by decide +kernel) (by decide +kernel) (by decide) (fun _ _ h => by rw [h.1]; rfl) (fun _ U U' hal hh h => ⟨h.1, h.2.1.mv hal hh, h.2.2⟩) (fun r U U' V V' h1 hal h2 h => ⟨NewArr.mv r U U' V V' h1 hal h2 h.1, by rw [h1, h2]; exact h.2⟩) ?_
  intro p e s m args below meth c s₁ X0 hexec hbytes hml hret hlk hnm hown hh0 W hP
  obtain ⟨rfl, hA, l1, l2, hp⟩ := hP
  have a31 := hA.1.2.2.2
  have c1 : Steps p.tables e below (s₁.setTop (entryFrame m #[.ref b, .int (Int32.ofNat o), .int (Int32.ofNat len)] 6)) (s₁.setTop (mkF m 0 #[.val (.ref b), .val (.int (Int32.ofNat o)), .val (.int (Int32.ofNat len)), .unset, .unset, .unset] [])) := entry rfl
  have c2 : Steps p.tables e below (s₁.setTop (entryFrame m #[.ref b, .int (Int32.ofNat o), .int (Int32.ofNat len)] 6)) (s₁.setTop (mkF m 1 #[.val (.ref b), .val (.int (Int32.ofNat o)), .val (.int (Int32.ofNat len)), .unset, .unset, .unset] [.int (Int32.ofNat len)])) := c1.trans (by
    refine XS.iloadN X0.here hexec rfl (hb hbytes d0) rfl ?_
    exact Steps.refl _)
  obtain ⟨T3, B3, X3, ba3, bs3, bv3, bh3, bf3, st3⟩ := X0.anew hexec (atype := .byte) (wk W (.arrayClass .byte)) rfl (by show len * 1 ≤ _; omega) (by omega) (g := (mkF m 1 #[.val (.ref b), .val (.int (Int32.ofNat o)), .val (.int (Int32.ofNat len)), .unset, .unset, .unset] [.int (Int32.ofNat len)])) rfl (hb hbytes d1) (rest := []) rfl (Nat.le_refl _) (by show 0 + len ≤ len; omega)
  rw [hh0] at ba3 st3
  have kp3 : XT.Kept s T3 := (XT.Kept.of_eq hh0).push bh3
  have hA3 := hA.keep X3.warmed.alike (kp3 _ _ hA.1.1)
  have hne : b ≠ s.heap.size := hA.1.ne
  have c4 : Steps p.tables e below (s₁.setTop (entryFrame m #[.ref b, .int (Int32.ofNat o), .int (Int32.ofNat len)] 6)) (T3.setTop (mkF m 3 #[.val (.ref b), .val (.int (Int32.ofNat o)), .val (.int (Int32.ofNat len)), .unset, .unset, .unset] [.ref s.heap.size])) := c2.trans (st3 _ (Steps.refl _))
  have c5 : Steps p.tables e below (s₁.setTop (entryFrame m #[.ref b, .int (Int32.ofNat o), .int (Int32.ofNat len)] 6)) (T3.setTop (mkF m 9 #[.val (.ref b), .val (.int (Int32.ofNat o)), .val (.int (Int32.ofNat len)), .val (.ref s.heap.size), .unset, .unset] [.int (Int32.ofNat len), .int 0, .ref s.heap.size, .int (Int32.ofNat o), .ref b])) := c4.trans (by
    refine XS.astoreN X3.here hexec rfl (hb hbytes d3) rfl rfl rfl ?_
    refine XS.aloadN X3.here hexec rfl (hb hbytes d4) rfl rfl ?_
    refine XS.iloadN X3.here hexec rfl (hb hbytes d5) rfl ?_
    refine XS.aloadN X3.here hexec rfl (hb hbytes d6) rfl rfl ?_
    refine iconstV X3.here hexec rfl 0 (hb hbytes d7) (by decide) ?_
    refine XS.iloadN X3.here hexec rfl (hb hbytes d8) rfl ?_
    exact Steps.refl _)
  obtain ⟨v6, T6, X6, E6, g6⟩ := X3.callS hexec (Cmp5.law l b A s.heap.size B3 o 0 len) hown (wks W (staticW U16 115 Cmp5.yN)) (wk W Cmp5.tab) (W := 0) (Nat.le_of_ble_eq_true rfl) (Nat.le_of_ble_eq_true rfl) (Nat.le_refl _) (by show 0 + len + 0 ≤ len; omega) (g := (mkF m 9 #[.val (.ref b), .val (.int (Int32.ofNat o)), .val (.int (Int32.ofNat len)), .val (.ref s.heap.size), .unset, .unset] [.int (Int32.ofNat len), .int (Int32.ofNat 0), .ref s.heap.size, .int (Int32.ofNat o), .ref b])) rfl (by rw [hml]; rfl) c5 (argsL := [.ref b, .int (Int32.ofNat o), .ref s.heap.size, .int (Int32.ofNat 0), .int (Int32.ofNat len)]) (rest := []) rfl rfl (by show 2 * 0 + 0 ≤ _; decide) (hb hbytes d9) (⟨rfl, hA3, ba3, hne, l1, by rw [bs3]; simp, hp⟩)
  obtain ⟨rfl, B6, p6, f6⟩ := E6
  have c7 : Steps p.tables e below (s₁.setTop (entryFrame m #[.ref b, .int (Int32.ofNat o), .int (Int32.ofNat len)] 6)) (T6.setTop (mkF m 12 #[.val (.ref b), .val (.int (Int32.ofNat o)), .val (.int (Int32.ofNat len)), .val (.ref s.heap.size), .unset, .unset] [.int (Int32.ofNat len)])) := g6
  have c8 : Steps p.tables e below (s₁.setTop (entryFrame m #[.ref b, .int (Int32.ofNat o), .int (Int32.ofNat len)] 6)) (T6.setTop (mkF m 58 #[.val (.ref b), .val (.int (Int32.ofNat o)), .val (.int (Int32.ofNat len)), .val (.ref s.heap.size), .val (.int (Int32.ofNat len)), .unset] [.ref s.heap.size])) := c7.trans (by
    refine XS.istore X6.here hexec rfl (hb hbytes d12) rfl rfl ?_
    refine XS.iload X6.here hexec rfl (hb hbytes d14) rfl ?_
    refine XS.iloadN X6.here hexec rfl (hb hbytes d16) rfl ?_
    refine XS.icmpYes X6.here hexec rfl (pc0 := 17) rfl (hb hbytes d17) rfl (ii_eq_t rfl) (by decide) rfl ?_
    refine XS.aloadN X6.here hexec rfl (hb hbytes d57) rfl rfl ?_
    exact Steps.refl _)
  have X8 := X6.wide (L' := []) (cells' := 1) (slots' := len) (fun x hx hlt => by
    simp only [List.nil_append, copyLocs, List.mem_map, List.mem_range] at hx
    obtain ⟨i, -, rfl⟩ := hx
    exact absurd hlt (Nat.lt_irrefl _)) (Nat.le_refl _) (by omega)
  exact ⟨T6, some (.ref s.heap.size), _, _, _, X8, rfl, rfl, rfl, (fun h => by cases h), ⟨⟨rfl, B6, ba3.like (X3.warmed.alike.symm.trans X6.warmed.alike) p6.1 f6.1 f6.2.1 f6.2.2.1, f6.2.1.trans bv3, by rw [X6.warmed.alike.findClass, f6.1]; exact bf3, by rw [f6.2.2.1, bs3]; simp, fun j hj => by rw [f6.2.2.2 j, if_pos (by omega)]; rfl, kp3.put p6 (Nat.le_refl _)⟩, by rw [p6.2.2, bh3, hh0]; simp⟩, fun fs hl => c8.trans (X8.areturnOut hexec rfl hret rfl (hb hbytes d58) hl)⟩
end Cmp3
namespace CodL
def yN : MethodName := ⟨"java/lang/StringUTF16", "coderFromArrayLen", "([BI)B"⟩
abbrev yB : ByteArray := jdk_52_method_15_code
theorem d0 : decode yB 0 = .ok (.iload_n 1, 1) := by decide +kernel
theorem d1 : decode yB 1 = .ok (.aload_n 0, 1) := by decide +kernel
theorem d2 : decode yB 2 = .ok (.arraylength, 1) := by decide +kernel
theorem d3 : decode yB 3 = .ok (.isub, 1) := by decide +kernel
theorem d4 : decode yB 4 = .ok (.bipush 31, 2) := by decide +kernel
theorem d6 : decode yB 6 = .ok (.iushr, 1) := by decide +kernel
theorem d7 : decode yB 7 = .ok (.i2b, 1) := by decide +kernel
theorem d8 : decode yB 8 = .ok (.ireturn, 1) := by decide +kernel
def site : List Cond := []
def tab : Cond := tabOf yN yB 2 (some .byte) site
def P (d : Addr) (B : Cell) (args : Array Value) (s : State) : Prop := args = #[.ref d, .int (Int32.ofNat B.slots.size)] ∧ Arr .byte d B s
def E (r : Option Value) (s u : State) : Prop := XT.PureE (some (.int 0)) r s u
/-- an array as long as the number of chars: LATIN1 -/
theorem law (l : Launch) (d : Addr) (B : Cell) : Law l yN 2 2 0 0 yB 2 (some .byte) site (P d B) E [] 0 0 := by
  refine Law.of_walk (plainFor_of_name (by decide +kernel)) (by decide +kernel) (by decide +kernel) (by decide) (fun _ _ h => by rw [h.1]; rfl) (fun _ U U' hal hh h => ⟨h.1, h.2.mv hal hh⟩) (fun r U U' V V' h1 hal h2 h => XT.PureE.mv r U U' V V' h1 hal h2 h) ?_
  intro p e s m args below meth c s₁ X0 hexec hbytes hml hret hlk hnm hown hh0 W hP
  obtain ⟨rfl, hB⟩ := hP
  have hB0 := hB.mv X0.warmed.alike hh0
  have c1 : Steps p.tables e below (s₁.setTop (entryFrame m #[.ref d, .int (Int32.ofNat B.slots.size)] 2)) (s₁.setTop (mkF m 0 #[.val (.ref d), .val (.int (Int32.ofNat B.slots.size))] [])) := entry rfl
  have c2 : Steps p.tables e below (s₁.setTop (entryFrame m #[.ref d, .int (Int32.ofNat B.slots.size)] 2)) (s₁.setTop (mkF m 2 #[.val (.ref d), .val (.int (Int32.ofNat B.slots.size))] [.ref d, .int (Int32.ofNat B.slots.size)])) := c1.trans (by
    refine XS.iloadN X0.here hexec rfl (hb hbytes d0) rfl ?_
    refine XS.aloadN X0.here hexec rfl (hb hbytes d1) rfl rfl ?_
    exact Steps.refl _)
  have c3 : Steps p.tables e below (s₁.setTop (entryFrame m #[.ref d, .int (Int32.ofNat B.slots.size)] 2)) (s₁.setTop (mkF m 8 #[.val (.ref d), .val (.int (Int32.ofNat B.slots.size))] [.int (lo8 (ushr (Int32.ofNat B.slots.size - Int32.ofNat B.slots.size) 31))])) := c2.trans (by
    refine X0.alen hexec hB0 rfl rfl (hb hbytes d2) ?_
    refine XS.isub X0.here hexec rfl (hb hbytes d3) rfl ?_
    refine bipushV X0.here hexec rfl 31 (hb hbytes d4) (by decide) ?_
    refine iushr X0.here hexec rfl (hb hbytes d6) rfl ?_
    refine i2b X0.here hexec rfl (hb hbytes d7) rfl ?_
    exact Steps.refl _)
  have e0 : lo8 (ushr (Int32.ofNat B.slots.size - Int32.ofNat B.slots.size) 31) = 0 := by rw [Int32.sub_self]; decide
  rw [e0] at c3
  exact ⟨s₁, some (.int 0), _, _, _, X0, rfl, rfl, rfl, (fun h => by cases h), ⟨rfl, hh0⟩, fun fs hl => c3.trans (X0.ireturnOut hexec hret rfl (Or.inr (Or.inr (Or.inl rfl))) (hb hbytes d8) hl)⟩
end CodL
/-- the String at a is Latin-1 over a new byte[] (the heap's one new cell): the low bytes of the len chars of A from o on; every cell but a is kept -/
def Got (a : Addr) (D : Cell) (fV fC : Field) (A : Cell) (o len : Nat) (r : Option Value) (s u : State) : Prop := r = none ∧ ∃ D' V : Cell, Blank "java/lang/String" a D' u ∧ Same D D' [fV.slot, fC.slot] ∧ D'.slots[fV.slot]? = some (.ref s.heap.size) ∧ D'.slots[fC.slot]? = some (.int 0) ∧ Arr .byte s.heap.size V u ∧ V.vm = .none ∧ u.vm.findClass "[B" = some V.cls ∧ V.slots.size = len ∧ (∀ j, j < len → V.slots[j]? = some (.int (lo8 (cv A (o + j))))) ∧ (∀ (y : Addr) (c : Cell), y ≠ a → s.heap[y]? = some c → u.heap[y]? = some c) ∧ u.heap.size = s.heap.size + 1
theorem Got.mv {a : Addr} {D A : Cell} {fV fC : Field} {o len : Nat} : ∀ r (U U' V V' : State), U'.heap = U.heap → V.vm.Alike V'.vm → V'.heap = V.heap → Got a D fV fC A o len r U V → Got a D fV fC A o len r U' V' :=
  fun r U U' V V' h1 hal h2 ⟨e0, D', X, a1, a2, a3, a4, a5, a6, a7, a8, a9, a10, a11⟩ => ⟨e0, D', X, a1.mv hal h2, a2, by rw [h1]; exact a3, a4, by rw [h1]; exact a5.mv hal h2, a6, by rw [hal.findClass]; exact a7, a8, a9, by rw [h1, h2]; exact a10, by rw [h1, h2]; exact a11⟩
namespace New4
def yN : MethodName := ⟨"java/lang/String", "<init>", "([CIILjava/lang/Void;)V"⟩
abbrev yB : ByteArray := jdk_42_method_149_code
theorem d0 : decode yB 0 = .ok (.aload_n 0, 1) := by decide +kernel
theorem d1 : decode yB 1 = .ok (.invokespecial 1, 3) := by decide +kernel
theorem d4 : decode yB 4 = .ok (.iload_n 3, 1) := by decide +kernel
theorem d5 : decode yB 5 = .ok (.ifCond (.ne) 22, 3) := by decide +kernel
theorem d27 : decode yB 27 = .ok (.getstatic 38, 3) := by decide +kernel
theorem d30 : decode yB 30 = .ok (.ifCond (.eq) 28, 3) := by decide +kernel
theorem d33 : decode yB 33 = .ok (.aload_n 1, 1) := by decide +kernel
theorem d34 : decode yB 34 = .ok (.iload_n 2, 1) := by decide +kernel
theorem d35 : decode yB 35 = .ok (.iload_n 3, 1) := by decide +kernel
theorem d36 : decode yB 36 = .ok (.invokestatic 177, 3) := by decide +kernel
theorem d39 : decode yB 39 = .ok (.astore 5, 2) := by decide +kernel
theorem d41 : decode yB 41 = .ok (.aload_n 0, 1) := by decide +kernel
theorem d42 : decode yB 42 = .ok (.aload 5, 2) := by decide +kernel
theorem d44 : decode yB 44 = .ok (.iload_n 3, 1) := by decide +kernel
theorem d45 : decode yB 45 = .ok (.invokestatic 47, 3) := by decide +kernel
theorem d48 : decode yB 48 = .ok (.putfield 15, 3) := by decide +kernel
theorem d51 : decode yB 51 = .ok (.aload_n 0, 1) := by decide +kernel
theorem d52 : decode yB 52 = .ok (.aload 5, 2) := by decide +kernel
theorem d54 : decode yB 54 = .ok (.putfield 9, 3) := by decide +kernel
theorem d57 : decode yB 57 = .ok (.return_, 1) := by decide +kernel
def site : List Cond := [.fieldLink "java/lang/String" 38 "java/lang/String" "COMPACT_STRINGS" "Z", Cmp3.tab, CodL.tab, .laysFinal "java/lang/String" "java/lang/String" "value" "[B", .fieldLink "java/lang/String" 9 "java/lang/String" "value" "[B", .laysFinal "java/lang/String" "java/lang/String" "coder" "B", .fieldLink "java/lang/String" 15 "java/lang/String" "coder" "B"] ++ objW "java/lang/String" 1 ++ staticW "java/lang/String" 177 Cmp3.yN ++ staticW "java/lang/String" 47 CodL.yN
def tab : Cond := tabOf yN yB 6 none site
def P (a : Addr) (D : Cell) (fV fC : Field) (b : Addr) (A : Cell) (z : Int32) (o len : Nat) (args : Array Value) (s : State) : Prop := args = #[.ref a, .ref b, .int (Int32.ofNat o), .int (Int32.ofNat len), .null] ∧ Blank "java/lang/String" a D s ∧ Found "java/lang/String" "value" "[B" fV s ∧ Found "java/lang/String" "coder" "B" fC s ∧ Ch b A s ∧ StaticIs s "java/lang/String" "COMPACT_STRINGS" "Z" (.int z) ∧ ¬ z = 0 ∧ 0 < len ∧ o + len ≤ A.slots.size ∧ len ≤ 536870912 ∧ ∀ i, i < len → ¬ 255 < cv A (o + i)
def E (a : Addr) (D : Cell) (fV fC : Field) (A : Cell) (o len : Nat) (r : Option Value) (s u : State) : Prop := Got a D fV fC A o len r s u
/-- len > 0, no char of the range above 255: a Latin-1 String of their low bytes -/
theorem law (l : Launch) (a : Addr) (D : Cell) (fV fC : Field) (b : Addr) (A : Cell) (z : Int32) (o len : Nat) : Law l yN 5 4 2 35 yB 6 none site (P a D fV fC b A z o len) (E a D fV fC A o len) [⟨a, fC.slot⟩, ⟨a, fV.slot⟩] 1 len := by
  refine Law.of_walk (plainFor_of_name (by decide +kernel)) (by decide +kernel) (by decide +kernel) (by decide) (fun _ _ h => by rw [h.1]; rfl) (fun _ U U' hal hh h => ⟨h.1, h.2.1.mv hal hh, h.2.2.1.al hal, h.2.2.2.1.al hal, h.2.2.2.2.1.mv hal hh, h.2.2.2.2.2.1.there hal hh, h.2.2.2.2.2.2⟩) (fun r U U' V V' h1 hal h2 h => Got.mv r U U' V V' h1 hal h2 h) ?_
  intro p e s m args below meth c s₁ X0 hexec hbytes hml hret hlk hnm hown hh0 W hP
  obtain ⟨rfl, hB, f1, f2, hA, s1, hz, l0, l1, l2, hp⟩ := hP
  have a31 := hA.1.2.2.2
  have c1 : Steps p.tables e below (s₁.setTop (entryFrame m #[.ref a, .ref b, .int (Int32.ofNat o), .int (Int32.ofNat len), .null] 6)) (s₁.setTop (mkF m 0 #[.val (.ref a), .val (.ref b), .val (.int (Int32.ofNat o)), .val (.int (Int32.ofNat len)), .val .null, .unset] [])) := entry rfl
  have c2 : Steps p.tables e below (s₁.setTop (entryFrame m #[.ref a, .ref b, .int (Int32.ofNat o), .int (Int32.ofNat len), .null] 6)) (s₁.setTop (mkF m 1 #[.val (.ref a), .val (.ref b), .val (.int (Int32.ofNat o)), .val (.int (Int32.ofNat len)), .val .null, .unset] [.ref a])) := c1.trans (by
    refine XS.aloadN X0.here hexec rfl (hb hbytes d0) rfl rfl ?_
    exact Steps.refl _)
  obtain ⟨T3, X3, q3, st3⟩ := X0.oinit hexec hown (wks W (objW "java/lang/String" 1)) (g := (mkF m 1 #[.val (.ref a), .val (.ref b), .val (.int (Int32.ofNat o)), .val (.int (Int32.ofNat len)), .val .null, .unset] [.ref a])) rfl (by rw [hml]; rfl) (rest := []) rfl (hb hbytes d1) (W := 0) (by show 2 * 0 + 0 ≤ _; decide) (Nat.le_of_ble_eq_true rfl) (Nat.le_of_ble_eq_true rfl)
  have hh3 := q3.trans hh0
  have c4 : Steps p.tables e below (s₁.setTop (entryFrame m #[.ref a, .ref b, .int (Int32.ofNat o), .int (Int32.ofNat len), .null] 6)) (T3.setTop (mkF m 27 #[.val (.ref a), .val (.ref b), .val (.int (Int32.ofNat o)), .val (.int (Int32.ofNat len)), .val .null, .unset] [])) := (c2.trans (st3 _ (Steps.refl _))).trans (by
    refine XS.iloadN X3.here hexec rfl (hb hbytes d4) rfl ?_
    refine XS.ifYes X3.here hexec rfl (pc0 := 5) rfl (hb hbytes d5) rfl (i0_ne_t (nz32 (by omega) l0)) (by decide) rfl ?_
    exact Steps.refl _)
  obtain ⟨T5, X5, q5, st5⟩ := X3.sget hexec hown (wk W (.fieldLink "java/lang/String" 38 "java/lang/String" "COMPACT_STRINGS" "Z")) s1 (fun _ _ h => by rw [hh3]; exact h) (g := (mkF m 27 #[.val (.ref a), .val (.ref b), .val (.int (Int32.ofNat o)), .val (.int (Int32.ofNat len)), .val .null, .unset] [])) rfl (hb hbytes d27)
  have hh5 := q5.trans hh3
  have c6 : Steps p.tables e below (s₁.setTop (entryFrame m #[.ref a, .ref b, .int (Int32.ofNat o), .int (Int32.ofNat len), .null] 6)) (T5.setTop (mkF m 30 #[.val (.ref a), .val (.ref b), .val (.int (Int32.ofNat o)), .val (.int (Int32.ofNat len)), .val .null, .unset] [.int z])) := c4.trans (st5 _ (Steps.refl _))
  have c7 : Steps p.tables e below (s₁.setTop (entryFrame m #[.ref a, .ref b, .int (Int32.ofNat o), .int (Int32.ofNat len), .null] 6)) (T5.setTop (mkF m 36 #[.val (.ref a), .val (.ref b), .val (.int (Int32.ofNat o)), .val (.int (Int32.ofNat len)), .val .null, .unset] [.int (Int32.ofNat len), .int (Int32.ofNat o), .ref b])) := c6.trans (by
    refine XS.ifNo X5.here hexec rfl (hb hbytes d30) rfl (i0_eq_f hz) ?_
    refine XS.aloadN X5.here hexec rfl (hb hbytes d33) rfl rfl ?_
    refine XS.iloadN X5.here hexec rfl (hb hbytes d34) rfl ?_
    refine XS.iloadN X5.here hexec rfl (hb hbytes d35) rfl ?_
    exact Steps.refl _)
  obtain ⟨v8, T8, X8, E8, g8⟩ := X5.callS hexec (Cmp3.law l b A o len) hown (wks W (staticW "java/lang/String" 177 Cmp3.yN)) (wk W Cmp3.tab) (W := 0) (Nat.le_of_ble_eq_true rfl) (Nat.le_of_ble_eq_true rfl) (Nat.le_refl _) (by show 0 + len ≤ len; omega) (g := (mkF m 36 #[.val (.ref a), .val (.ref b), .val (.int (Int32.ofNat o)), .val (.int (Int32.ofNat len)), .val .null, .unset] [.int (Int32.ofNat len), .int (Int32.ofNat o), .ref b])) rfl (by rw [hml]; rfl) c7 (argsL := [.ref b, .int (Int32.ofNat o), .int (Int32.ofNat len)]) (rest := []) rfl rfl (by show 2 * 0 + 0 ≤ _; decide) (hb hbytes d36) (⟨rfl, hA.mv X5.warmed.alike hh5, l1, l2, hp⟩)
  obtain ⟨e8, z8⟩ := E8
  obtain ⟨rfl, N, n1, n2, n3, n4, n5, n6⟩ := NewArr.mv _ T5 s _ _ hh5.symm (Vm.Alike.refl _) rfl e8
  rw [hh5] at z8
  have hB1 := hB.keep X8.warmed.alike (n6 _ _ hB.1)
  have hne : s.heap.size ≠ a := (Nat.ne_of_lt (Array.getElem?_eq_some_iff.mp hB.1).1).symm
  have c9 : Steps p.tables e below (s₁.setTop (entryFrame m #[.ref a, .ref b, .int (Int32.ofNat o), .int (Int32.ofNat len), .null] 6)) (T8.setTop (mkF m 39 #[.val (.ref a), .val (.ref b), .val (.int (Int32.ofNat o)), .val (.int (Int32.ofNat len)), .val .null, .unset] [.ref s.heap.size])) := g8
  have c10 : Steps p.tables e below (s₁.setTop (entryFrame m #[.ref a, .ref b, .int (Int32.ofNat o), .int (Int32.ofNat len), .null] 6)) (T8.setTop (mkF m 45 #[.val (.ref a), .val (.ref b), .val (.int (Int32.ofNat o)), .val (.int (Int32.ofNat len)), .val .null, .val (.ref s.heap.size)] [.int (Int32.ofNat N.slots.size), .ref s.heap.size, .ref a])) := by
    have hc : Steps p.tables e below (s₁.setTop (entryFrame m #[.ref a, .ref b, .int (Int32.ofNat o), .int (Int32.ofNat len), .null] 6)) (T8.setTop (mkF m 45 #[.val (.ref a), .val (.ref b), .val (.int (Int32.ofNat o)), .val (.int (Int32.ofNat len)), .val .null, .val (.ref s.heap.size)] [.int (Int32.ofNat len), .ref s.heap.size, .ref a])) := c9.trans (by
      refine XS.astore X8.here hexec rfl (hb hbytes d39) rfl rfl rfl ?_
      refine XS.aloadN X8.here hexec rfl (hb hbytes d41) rfl rfl ?_
      refine XS.aload X8.here hexec rfl (hb hbytes d42) rfl rfl ?_
      refine XS.iloadN X8.here hexec rfl (hb hbytes d44) rfl ?_
      exact Steps.refl _)
    rw [n4]; exact hc
  obtain ⟨v11, T11, X11, E11, g11⟩ := X8.callS hexec (CodL.law l s.heap.size N) hown (wks W (staticW "java/lang/String" 47 CodL.yN)) (wk W CodL.tab) (W := 1) (Nat.le_of_ble_eq_true rfl) (Nat.le_of_ble_eq_true rfl) (Nat.le_refl _) (by show 0 + len + 0 ≤ len; omega) (g := (mkF m 45 #[.val (.ref a), .val (.ref b), .val (.int (Int32.ofNat o)), .val (.int (Int32.ofNat len)), .val .null, .val (.ref s.heap.size)] [.int (Int32.ofNat N.slots.size), .ref s.heap.size, .ref a])) rfl (by rw [hml]; rfl) c10 (argsL := [.ref s.heap.size, .int (Int32.ofNat N.slots.size)]) (rest := [.ref a]) rfl rfl (by show 2 * 0 + (1 + 0) ≤ _; decide) (hb hbytes d45) (⟨rfl, n1⟩)
  obtain ⟨rfl, q11⟩ := E11
  have hB11 := hB1.mv (X8.warmed.alike.symm.trans X11.warmed.alike) q11
  have c12 : Steps p.tables e below (s₁.setTop (entryFrame m #[.ref a, .ref b, .int (Int32.ofNat o), .int (Int32.ofNat len), .null] 6)) (T11.setTop (mkF m 48 #[.val (.ref a), .val (.ref b), .val (.int (Int32.ofNat o)), .val (.int (Int32.ofNat len)), .val .null, .val (.ref s.heap.size)] [.int 0, .ref a])) := g11
  obtain ⟨T13, X13, p13, bl13, sl13, st13⟩ := X11.finit hexec hown (wk W (.fieldLink "java/lang/String" 15 "java/lang/String" "coder" "B")) (Or.inr ⟨_, (wk W (.laysFinal "java/lang/String" "java/lang/String" "coder" "B"))⟩) (Or.inl ⟨rfl, hnm⟩) f2 (Or.inl rfl) hB11 (t := .byte) (by decide +kernel) rfl (g := (mkF m 48 #[.val (.ref a), .val (.ref b), .val (.int (Int32.ofNat o)), .val (.int (Int32.ofNat len)), .val .null, .val (.ref s.heap.size)] [.int 0, .ref a])) rfl (rest := []) rfl (hb hbytes d48)
  have c14 : Steps p.tables e below (s₁.setTop (entryFrame m #[.ref a, .ref b, .int (Int32.ofNat o), .int (Int32.ofNat len), .null] 6)) (T13.setTop (mkF m 54 #[.val (.ref a), .val (.ref b), .val (.int (Int32.ofNat o)), .val (.int (Int32.ofNat len)), .val .null, .val (.ref s.heap.size)] [.ref s.heap.size, .ref a])) := (c12.trans (st13 _ (Steps.refl _))).trans (by
    refine XS.aloadN X13.here hexec rfl (hb hbytes d51) rfl rfl ?_
    refine XS.aload X13.here hexec rfl (hb hbytes d52) rfl rfl ?_
    exact Steps.refl _)
  obtain ⟨T15, X15, p15, bl15, sl15, st15⟩ := X13.finit hexec hown (wk W (.fieldLink "java/lang/String" 9 "java/lang/String" "value" "[B")) (Or.inr ⟨_, (wk W (.laysFinal "java/lang/String" "java/lang/String" "value" "[B"))⟩) (Or.inl ⟨rfl, hnm⟩) f1 (Or.inl rfl) bl13 (t := (.array .byte)) (by decide +kernel) rfl (g := (mkF m 54 #[.val (.ref a), .val (.ref b), .val (.int (Int32.ofNat o)), .val (.int (Int32.ofNat len)), .val .null, .val (.ref s.heap.size)] [.ref s.heap.size, .ref a])) rfl (rest := []) rfl (hb hbytes d54)
  have c16 : Steps p.tables e below (s₁.setTop (entryFrame m #[.ref a, .ref b, .int (Int32.ofNat o), .int (Int32.ofNat len), .null] 6)) (T15.setTop (mkF m 57 #[.val (.ref a), .val (.ref b), .val (.int (Int32.ofNat o)), .val (.int (Int32.ofNat len)), .val .null, .val (.ref s.heap.size)] [])) := c14.trans (st15 _ (Steps.refl _))
  have ap := apart (Or.inr ⟨_, (wk W (.laysFinal "java/lang/String" "java/lang/String" "value" "[B"))⟩) (Or.inr ⟨_, (wk W (.laysFinal "java/lang/String" "java/lang/String" "coder" "B"))⟩) f1 f2 (t₁ := .array .byte) (t₂ := .byte) (by decide +kernel) (by decide +kernel) (by decide)
  have al := X8.warmed.alike.symm.trans X15.warmed.alike
  have n7 : T11.heap[s.heap.size]? = some N := by rw [q11]; exact n1.1
  exact ⟨T15, none, _, _, _, X15, by simp, rfl, by omega, (fun _ => rfl), ⟨rfl, _, N, bl15, ((Same.refl D _).set _ (by simp)).set _ (by simp), sl15, (Cell.slots_setSlot_ne _ ap).trans sl13, n1.keep al (p15.other hne (p13.other hne n7)), n2, by rw [al.findClass]; exact n3, n4, n5, fun y c h1 h2 => p15.other h1 (p13.other h1 (by rw [q11]; exact n6 y c h2)), by rw [p15.2.2, p13.2.2, q11]; exact z8⟩, fun fs hl => c16.trans (X15.returnOut hexec hret (hb hbytes d57) hl)⟩
end New4
namespace New1
def yN : MethodName := ⟨"java/lang/String", "<init>", "([C)V"⟩
abbrev yB : ByteArray := jdk_42_method_3_code
theorem d0 : decode yB 0 = .ok (.aload_n 0, 1) := by decide +kernel
theorem d1 : decode yB 1 = .ok (.aload_n 1, 1) := by decide +kernel
theorem d2 : decode yB 2 = .ok (.iconst 0, 1) := by decide +kernel
theorem d3 : decode yB 3 = .ok (.aload_n 1, 1) := by decide +kernel
theorem d4 : decode yB 4 = .ok (.arraylength, 1) := by decide +kernel
theorem d5 : decode yB 5 = .ok (.aconst_null, 1) := by decide +kernel
theorem d6 : decode yB 6 = .ok (.invokespecial 27, 3) := by decide +kernel
theorem d9 : decode yB 9 = .ok (.return_, 1) := by decide +kernel
def site : List Cond := [New4.tab] ++ initW "java/lang/String" 27 New4.yN
def tab : Cond := tabOf yN yB 2 none site
def P (a : Addr) (D : Cell) (fV fC : Field) (b : Addr) (A : Cell) (z : Int32) (args : Array Value) (s : State) : Prop := args = #[.ref a, .ref b] ∧ Blank "java/lang/String" a D s ∧ Found "java/lang/String" "value" "[B" fV s ∧ Found "java/lang/String" "coder" "B" fC s ∧ Ch b A s ∧ StaticIs s "java/lang/String" "COMPACT_STRINGS" "Z" (.int z) ∧ ¬ z = 0 ∧ 0 < A.slots.size ∧ A.slots.size ≤ 536870912 ∧ ∀ i, i < A.slots.size → ¬ 255 < cv A i
def E (a : Addr) (D : Cell) (fV fC : Field) (A : Cell) (r : Option Value) (s u : State) : Prop := Got a D fV fC A 0 A.slots.size r s u
/-- new String(chars), not empty, no char above 255: a Latin-1 String of their low bytes -/
theorem law (l : Launch) (a : Addr) (D : Cell) (fV fC : Field) (b : Addr) (A : Cell) (z : Int32) : Law l yN 2 1 3 52 yB 2 none site (P a D fV fC b A z) (E a D fV fC A) [⟨a, fC.slot⟩, ⟨a, fV.slot⟩] 1 A.slots.size := by
  refine Law.of_walk (plainFor_of_name (by decide +kernel)) (by decide +kernel) (by decide +kernel) (by decide) (fun _ _ h => by rw [h.1]; rfl) (fun _ U U' hal hh h => ⟨h.1, h.2.1.mv hal hh, h.2.2.1.al hal, h.2.2.2.1.al hal, h.2.2.2.2.1.mv hal hh, h.2.2.2.2.2.1.there hal hh, h.2.2.2.2.2.2⟩) (fun r U U' V V' h1 hal h2 h => Got.mv r U U' V V' h1 hal h2 h) ?_
  intro p e s m args below meth c s₁ X0 hexec hbytes hml hret hlk hnm hown hh0 W hP
  obtain ⟨rfl, hB, f1, f2, hA, s1, hz, l0, l2, hp⟩ := hP
  have c1 : Steps p.tables e below (s₁.setTop (entryFrame m #[.ref a, .ref b] 2)) (s₁.setTop (mkF m 0 #[.val (.ref a), .val (.ref b)] [])) := entry rfl
  have c2 : Steps p.tables e below (s₁.setTop (entryFrame m #[.ref a, .ref b] 2)) (s₁.setTop (mkF m 6 #[.val (.ref a), .val (.ref b)] [.null, .int (Int32.ofNat A.slots.size), .int 0, .ref b, .ref a])) := c1.trans (by
    refine XS.aloadN X0.here hexec rfl (hb hbytes d0) rfl rfl ?_
    refine XS.aloadN X0.here hexec rfl (hb hbytes d1) rfl rfl ?_
    refine iconstV X0.here hexec rfl 0 (hb hbytes d2) (by decide) ?_
    refine XS.aloadN X0.here hexec rfl (hb hbytes d3) rfl rfl ?_
    refine X0.alen hexec (hA.1.mv X0.warmed.alike hh0) rfl rfl (hb hbytes d4) ?_
    refine XS.aconstNull X0.here hexec rfl (hb hbytes d5) ?_
    exact Steps.refl _)
  obtain ⟨v3, T3, X3, E3, g3⟩ := X0.callN hexec (New4.law l a D fV fC b A z 0 A.slots.size) rfl hown (wks W (initW "java/lang/String" 27 New4.yN)) (W New4.tab (by simp only [site, List.mem_cons, List.mem_append, true_or, or_true])) (W := 0) (Nat.le_of_ble_eq_true rfl) (Nat.le_of_ble_eq_true rfl) (Nat.le_refl _) (by show 0 + A.slots.size ≤ A.slots.size; omega) (g := (mkF m 6 #[.val (.ref a), .val (.ref b)] [.null, .int (Int32.ofNat A.slots.size), .int (Int32.ofNat 0), .ref b, .ref a])) rfl (by rw [hml]; rfl) c2 (argsL := [.ref b, .int (Int32.ofNat 0), .int (Int32.ofNat A.slots.size), .null]) (rest := []) rfl rfl (by show 2 * 0 + 0 ≤ _; decide) (hb hbytes d6) (⟨rfl, hB.mv X0.warmed.alike hh0, f1.al X0.warmed.alike, f2.al X0.warmed.alike, hA.mv X0.warmed.alike hh0, s1.there X0.warmed.alike hh0, hz, l0, by omega, l2, fun i hi => by rw [Nat.zero_add]; exact hp i hi⟩)
  have e0 := Got.mv _ s₁ s _ _ hh0.symm (Vm.Alike.refl _) rfl E3
  obtain rfl := e0.1
  have c4 : Steps p.tables e below (s₁.setTop (entryFrame m #[.ref a, .ref b] 2)) (T3.setTop (mkF m 9 #[.val (.ref a), .val (.ref b)] [])) := g3
  exact ⟨T3, none, _, _, _, X3, by simp, rfl, by omega, (fun _ => rfl), e0, fun fs hl => c4.trans (X3.returnOut hexec hret (hb hbytes d9) hl)⟩
theorem pays {l : Launch} {R : Room} {p : Program} {e : Env} {below : List Frame} {s : State} {sargs : Array Value} {len W : Nat} (a : Addr) (D : Cell) (fV fC : Field) (b : Addr) (A : Cell) (z : Int32) (htab : tab.before sargs s = true) (hfr : 4 ≤ R.frames) (hlo : W + 65 ≤ R.locals) :
    Back l R p e below s sargs yN len W (fun A₁ a₁ => A₁.cells + 1 ≤ R.cells ∧ A₁.slots + A.slots.size ≤ R.slots ∧ P a D fV fC b A z a₁ A₁.U) (fun A₁ _ v₁ B₁ => E a D fV fC A v₁ A₁.U B₁.U ∧ B₁.locs = A₁.locs ++ [⟨a, fC.slot⟩, ⟨a, fV.slot⟩] ∧ B₁.cells = A₁.cells + 1 ∧ B₁.slots = A₁.slots + A.slots.size) :=
  (law l a D fV fC b A z).pays htab hfr (by omega)
end New1
end StrChars
namespace StrChars.Road
open Jvm Sem ClassFile Op Lib Jvm.Stand Jvm.Free Jvm.Free.XT
open Jvm.Lib.Cold (StaticIs)
abbrev ST : String := "java/lang/String"
/-- every table word that New1's law asks, flat -/
abbrev words : List Jvm.Cond := [.code New1.yN New1.yB 2 none, .initialized ST, .methodLink ST 27 New4.yN, .instanceMethod New4.yN,
  .code New4.yN New4.yB 6 none, .fieldLink ST 38 ST "COMPACT_STRINGS" "Z", .laysFinal ST ST "value" "[B", .fieldLink ST 9 ST "value" "[B", .laysFinal ST ST "coder" "B", .fieldLink ST 15 ST "coder" "B",
  .methodLink ST 1 Lib.objectInit, .instanceMethod Lib.objectInit, .code Lib.objectInit ⟨#[0xb1]⟩ 1 none, .methodLink ST 177 Cmp3.yN, .static Cmp3.yN, .methodLink ST 47 CodL.yN, .static CodL.yN,
  .code Cmp3.yN Cmp3.yB 6 (some (.array .byte)), .initialized U16, .arrayClass .byte, .methodLink U16 115 Cmp5.yN, .static Cmp5.yN, .code Cmp5.yN Cmp5.yB 7 (some .int), .code CodL.yN CodL.yB 2 (some .byte)]
theorem tab_of {a : Array Value} {s : State} (h : ∀ w ∈ words, w.before a s = true) : New1.tab.before a s = true := by
  have h5 : Cmp5.tab.before a s = true := unparts (wk h (.code Cmp5.yN Cmp5.yB 7 (some .int))) (wks h (.initialized Cmp5.yN.cls :: Cmp5.site))
  have hc : CodL.tab.before a s = true := unparts (wk h (.code CodL.yN CodL.yB 2 (some .byte))) (wks h (.initialized CodL.yN.cls :: CodL.site))
  have q5 : ∀ w ∈ Cmp5.tab :: words, w.before a s = true := fun w hw => (List.mem_cons.mp hw).elim (fun e => e ▸ h5) (h w)
  have h3 : Cmp3.tab.before a s = true := unparts (wk q5 (.code Cmp3.yN Cmp3.yB 6 (some (.array .byte)))) (wks q5 (.initialized Cmp3.yN.cls :: Cmp3.site))
  have q3 : ∀ w ∈ Cmp3.tab :: CodL.tab :: words, w.before a s = true := fun w hw => (List.mem_cons.mp hw).elim (fun e => e ▸ h3) fun hw => (List.mem_cons.mp hw).elim (fun e => e ▸ hc) (h w)
  have h4 : New4.tab.before a s = true := unparts (wk q3 (.code New4.yN New4.yB 6 none)) (wks q3 (.initialized New4.yN.cls :: New4.site))
  have q4 : ∀ w ∈ New4.tab :: words, w.before a s = true := fun w hw => (List.mem_cons.mp hw).elim (fun e => e ▸ h4) (h w)
  exact unparts (wk q4 (.code New1.yN New1.yB 2 none)) (wks q4 (.initialized New1.yN.cls :: New1.site))
/-- the words ride from the start Z to the walk's own state -/
theorem moved {Z s : State} {a0 args : Array Value} (hZ : Z.Warmed39 s.vm) (hw : ∀ d ∈ words, d.before a0 Z = true) : ∀ d ∈ words, d.before args s = true := fun d hd => by
  have q := hw d hd
  have t : ∀ d ∈ words, d = .arrayClass .byte ∨ (d.onTables && d.keepsFace) = true := by decide +kernel
  rcases t d hd with rfl | t
  · exact RoadKit.mvA hZ q
  · exact RoadKit.mv hZ q t
/-- WHAT COMES BACK, over the tables of the start Z: h the heap at the call, h' behind it -/
def Q (Z : State) (x : Addr) (A : Cell) (h : Heap) (v : Option Value) (h' : Heap) (L : List Loc) : Prop := v = none ∧ (∀ y ∈ L, y.base = x) ∧ RoadKit.Keep h h' [x] ∧ h'.size = h.size + 1 ∧ RoadKit.Exa Z h' x ST ∧ RoadKit.Fld Z h' x ST "value" "[B" (.ref h.size) ∧ RoadKit.Fld Z h' x ST "coder" "B" (.int 0) ∧
  (∃ V : Cell, RoadKit.Arr Z h' h.size V .byte ∧ V.vm = .none ∧ Z.vm.findClass "[B" = some V.cls ∧ V.slots.size = A.slots.size ∧ ∀ j, j < A.slots.size → V.slots[j]? = some (.int (lo8 (cv A j)))) ∧
  ∀ (O n d : String) (w : Value), RoadKit.Fld Z h x O n d w → RoadKit.slotOf Z O n d ≠ RoadKit.slotOf Z ST "value" "[B" → RoadKit.slotOf Z O n d ≠ RoadKit.slotOf Z ST "coder" "B" → RoadKit.Fld Z h' x O n d w
/-- **new String(chars) AT A CALL, IN THE ROAD'S FORM**: for specialBack behind newO: x the fresh String, b the char[] with the cell A -/
theorem back {p : Program} {l : Launch} {e : Env} {R : Room} {s : State} {args : Array Value} {below : List Frame} {len W : Nat} {Z : State} {a0 : Array Value} {h : Heap} (hZ : Z.Warmed39 s.vm) (hw : ∀ d ∈ words, d.before a0 Z = true) {kI : Nat} (wi : (Jvm.Cond.instantiable ST kI).before a0 Z = true)
    {x b : Addr} {A : Cell} {z : Int32} {v0 c0 : Value} (E : RoadKit.Exa Z h x ST) (V : RoadKit.Fld Z h x ST "value" "[B" v0) (C : RoadKit.Fld Z h x ST "coder" "B" c0) (K : RoadKit.Arr Z h b A .char) (hty : Typed .char A) (S : RoadKit.Sta Z h ST "COMPACT_STRINGS" "Z" (.int z)) (hz : ¬ z = 0)
    (l0 : 0 < A.slots.size) (l2 : A.slots.size ≤ 536870912) (hp : ∀ i, i < A.slots.size → ¬ 255 < cv A i) (hfr : 4 ≤ R.frames) (hlo : W + 65 ≤ R.locals) :
    Back l R p e below s args New1.yN len W (fun P a => a = #[.ref x, .ref b] ∧ P.U.heap = h ∧ P.cells + 1 ≤ R.cells ∧ P.slots + A.slots.size ≤ R.slots)
      (fun P _ v B => ∃ L, Q Z x A h v B.U.heap L ∧ B.locs = P.locs ++ L ∧ B.cells = P.cells + 1 ∧ B.slots = P.slots + A.slots.size) := by
  intro m meth c P g ig mk a X hg hsize hdg hW hn hp'
  obtain ⟨rfl, rfl, r1, r2⟩ := hp'
  have al : Z.vm.Alike P.U.vm := hZ.alike.trans X.warmed.alike
  obtain ⟨D, cfV, kV, iV, fV, hD, gV, stV, knV, obV, asV, slV⟩ := id V
  obtain ⟨D', cfC, kC, iC, fC, hD', gC, stC, -, -, asC, slC⟩ := id C
  cases hD.symm.trans hD'
  obtain ⟨D2, kD, e1, e2, e3, e4, e5⟩ := id E
  cases hD.symm.trans e1
  obtain ⟨c2, k2, i1, i2, i3, -⟩ := Cond.instantiable_spec wi
  cases e2.symm.trans i1
  cases e3.symm.trans i2
  obtain ⟨kU, u1, u2⟩ := al.2.2 _ _ e3
  have hB : Blank ST x D P.U := ⟨hD, ⟨knV, fun q hq => by rw [hq] at obV; cases obV⟩, by rw [al.findClass]; exact e2, kU, u1, by rw [u2]; exact i3, by rw [u2]; exact e5 i3⟩
  have F1 : Found ST "value" "[B" fV P.U := ⟨SBG.found_only al ⟨cfV, kV, iV, gV⟩, stV⟩
  have F2 : Found ST "coder" "B" fC P.U := ⟨SBG.found_only al ⟨cfC, kC, iC, gC⟩, stC⟩
  have hA : Ch b A P.U := ⟨⟨K.1, State.isArrayOf_alike al K.2.1, K.2.2, by omega⟩, hty⟩
  have hS : StaticIs P.U ST "COMPACT_STRINGS" "Z" (.int z) := by
    obtain ⟨cfS, iS, kS, fS, st, cS, t1, t2, t3, t4, t5, t6, t7⟩ := S
    exact StaticIs.there (s := { Z with heap := P.U.heap }) ⟨cfS, iS, kS, fS, st, cS, t1, t2, t3, t4, t5, (fun q => by rw [q] at t6; cases t6), t7⟩ al rfl
  obtain ⟨v, B, X', ⟨⟨hv, E', V', q1, q2, q3, q4, q5, q6, q7, q8, q9, q10, q11⟩, hl, hc, hs⟩, st⟩ := New1.pays x D fV fC b A z (tab_of (moved hZ hw)) hfr hlo m meth c P g ig mk _ X hg hsize hdg hW hn ⟨r1, r2, rfl, hB, F1, F2, hA, hS, hz, l0, l2, hp⟩
  have al' : Z.vm.Alike B.U.vm := hZ.alike.trans X'.warmed.alike
  have hsz : E'.slots.size = D.slots.size := by
    obtain ⟨-, -, -, kB, w1, w2, w3⟩ := q1
    obtain ⟨kB', y1, y2⟩ := al'.2.2 _ _ e3
    rw [q2.2.1] at w1
    cases w1.symm.trans y1
    rw [w3, e5 i3, y2]
  refine ⟨v, B, X', ⟨_, ⟨hv, ?_, ⟨by omega, fun y cy hy hn' => q10 y cy (by simpa using hn') hy, fun y cy hy => ?_⟩, q11, ⟨E', _, q1.1, by rw [q2.2.1]; exact e2, by rw [q2.2.1]; exact e3, by rw [q2.1]; exact obV, fun _ => by rw [hsz]; exact e5 i3⟩,
    ⟨E', cfV, kV, iV, fV, q1.1, gV, stV, by rw [q2.1]; exact knV, by rw [q2.1]; exact obV, by rw [q2.2.1]; exact asV, q3⟩, ⟨E', cfC, kC, iC, fC, q1.1, gC, stC, by rw [q2.1]; exact knV, by rw [q2.1]; exact obV, by rw [q2.2.1]; exact asC, q4⟩,
    ⟨V', ⟨q5.1, State.isArrayOf_alike al'.symm q5.2.1, q5.2.2.1⟩, q6, by rw [← al'.findClass]; exact q7, q8, fun j hj => by have := q9 j hj; rwa [Nat.zero_add] at this⟩, fun O n d w F n1 n2 => ?_⟩, hl, hc, hs⟩, st⟩
  · intro y hy
    simp only [List.mem_cons, List.not_mem_nil, or_false] at hy
    rcases hy with rfl | rfl <;> rfl
  · by_cases q : y = x
    · subst q
      cases hD.symm.trans hy
      exact ⟨E', q1.1, q2.2.1, q2.1, hsz⟩
    · exact ⟨cy, q10 y cy q hy, rfl, rfl, rfl⟩
  · obtain ⟨D3, cf, k, i, f, g1, g2, g3, g4, g5, g6, g7⟩ := F
    cases hD.symm.trans g1
    simp only [RoadKit.slotOf, g2, gV, gC, Option.map_some, Option.getD_some] at n1 n2
    exact ⟨E', cf, k, i, f, q1.1, g2, g3, by rw [q2.1]; exact g4, by rw [q2.1]; exact g5, by rw [q2.2.1]; exact g6, by rw [q2.2.2 f.slot (by simp [n1, n2])]; exact g7⟩
end StrChars.Road
namespace StrChars.Road
open Jvm Sem ClassFile Op Lib Jvm.Stand Jvm.Free Jvm.Free.XT
/-- WHAT COMES BACK, the byte[] as a list of values -/
def QA (Z : State) (x : Addr) (zn : Int32) (cs : List Int32) (h : Heap) (v : Option Value) (h' : Heap) (L : List Loc) : Prop := v = none ∧ (∀ y ∈ L, y.base = x) ∧ RoadKit.Keep h h' [x] ∧ h'.size = h.size + 1 ∧ RoadKit.Exa Z h' x ST ∧ RoadKit.Fld Z h' x ST "value" "[B" (.ref h.size) ∧ RoadKit.Fld Z h' x ST "coder" "B" (.int 0) ∧
  (∃ kb, Z.vm.findClass "[B" = some kb ∧ RoadKit.Arv Z h' h.size kb .byte zn (cs.map fun c => .int (lo8 c)) (.int 0)) ∧
  ∀ (O n d : String) (w : Value), RoadKit.Fld Z h x O n d w → RoadKit.slotOf Z O n d ≠ RoadKit.slotOf Z ST "value" "[B" → RoadKit.slotOf Z O n d ≠ RoadKit.slotOf Z ST "coder" "B" → RoadKit.Fld Z h' x O n d w
/-- **new String(chars) AT A CALL, THE ARRAYS AS LISTS**: the char[] at b holds cs, not empty, no char above 255 -/
theorem backArv {p : Program} {l : Launch} {e : Env} {R : Room} {s : State} {args : Array Value} {below : List Frame} {len W : Nat} {Z : State} {a0 : Array Value} {h : Heap} (hZ : Z.Warmed39 s.vm) (hw : ∀ d ∈ words, d.before a0 Z = true) {kI : Nat} (wi : (Jvm.Cond.instantiable ST kI).before a0 Z = true)
    {x b : Addr} {k : ClassId} {zn z : Int32} {cs : List Int32} {dv v0 c0 : Value} (E : RoadKit.Exa Z h x ST) (V : RoadKit.Fld Z h x ST "value" "[B" v0) (C : RoadKit.Fld Z h x ST "coder" "B" c0) (K : RoadKit.Arv Z h b k .char zn (cs.map Value.int) dv) (S : RoadKit.Sta Z h ST "COMPACT_STRINGS" "Z" (.int z)) (hz : ¬ z = 0)
    (hlen : zn.toNatClampNeg = cs.length) (h0 : 0 < cs.length) (hbig : cs.length ≤ 536870912) (hall : ∀ c ∈ cs, ¬ 255 < c) (hfr : 4 ≤ R.frames) (hlo : W + 65 ≤ R.locals) :
    Back l R p e below s args New1.yN len W (fun P a => a = #[.ref x, .ref b] ∧ P.U.heap = h ∧ P.cells + 1 ≤ R.cells ∧ P.slots + cs.length ≤ R.slots)
      (fun P _ v B => ∃ L, QA Z x zn cs h v B.U.heap L ∧ B.locs = P.locs ++ L ∧ B.cells = P.cells + 1 ∧ B.slots = P.slots + cs.length) := by
  obtain ⟨A, K1, K2, K3, K4, K5, K6⟩ := K
  have e : A.slots.size = cs.length := K3.trans hlen
  have hat : ∀ (i : Nat) (hi : i < cs.length), A.slots[i]? = some (.int cs[i]) := fun i hi => by rw [K5 i (by omega)]; simp [List.getD_eq_getElem?_getD, hi]
  have hcv : ∀ (i : Nat) (hi : i < cs.length), cv A i = cs[i] := fun i hi => by unfold cv; rw [hat i hi]
  have hty : Typed .char A := fun i v hv => by
    have hi : i < A.slots.size := (Array.getElem?_eq_some_iff.mp hv).1
    have q := K5 i hi
    rw [hv] at q
    rw [Option.some.inj q]
    exact K6 i hi
  refine Back.mono (back hZ hw wi E V C K1 hty S hz (by omega) (by omega) (fun i hi => by rw [hcv i (by omega)]; exact hall _ (List.getElem_mem _)) hfr hlo) (fun P a hp => ⟨hp.1, hp.2.1, hp.2.2.1, by rw [e]; exact hp.2.2.2⟩) (fun P a v B hp hq => ?_)
  obtain ⟨L, ⟨q1, q2, q3, q4, q5, q6, q7, ⟨V', v1, v2, v3, v4, v5⟩, q9⟩, hl, hc, hs⟩ := hq
  refine ⟨L, ⟨q1, q2, q3, q4, q5, q6, q7, ⟨V'.cls, v3, V', v1, rfl, by rw [v4, e, hlen], K4, fun i hi => ?_, fun i hi => ?_⟩, q9⟩, hl, hc, by rw [hs, e]⟩
  · have hi' : i < cs.length := by omega
    rw [v5 i (by omega), hcv i hi']; simp [List.getD_eq_getElem?_getD, hi']
  · have hi' : i < cs.length := by omega
    simp only [List.getD_eq_getElem?_getD, List.getElem?_map, List.getElem?_eq_getElem hi', Option.map_some, Option.getD_some]
    exact fits_lo8 _
end StrChars.Road
namespace StrChars.Road
open Jvm Sem ClassFile Op Lib Jvm.Stand Jvm.Free Jvm.Free.XT
/-- WHAT COMES BACK, in the writer's own shape -/
def QV (Z : State) (x : Addr) (N : Int32) (bs : List Int32) (h : Heap) (n0 : Nat) (v : Option Value) (h' : Heap) (L : List Loc) : Prop := v = none ∧ RoadKit.Fr n0 L ∧ RoadKit.Keep h h' [x] ∧ RoadKit.Exa Z h' x ST ∧ RoadKit.Fld Z h' x ST "coder" "B" (.int 0) ∧
  ∃ (t : Addr) (kb : ClassId), n0 ≤ t ∧ h.size ≤ t ∧ ¬ t = x ∧ RoadKit.Fld Z h' x ST "value" "[B" (.ref t) ∧ RoadKit.Arv Z h' t kb .byte N (bs.map Value.int) (.int 0)
/-- **new String(chars) AT A CALL, FOR THE WRITER**: a char[] of n known ints, each 0 to 255 -/
theorem backV {p : Program} {l : Launch} {e : Env} {R : Room} {s : State} {args : Array Value} {below : List Frame} {len W : Nat} {Z : State} {a0 : Array Value} {h : Heap} (hZ : Z.Warmed39 s.vm) (hw : ∀ d ∈ words, d.before a0 Z = true) {kI : Nat} (wi : (Jvm.Cond.instantiable ST kI).before a0 Z = true)
    {x b : Addr} {kC : ClassId} {cs bs : List Int32} {d v0 c0 : Value} {z N : Int32} {n n0 : Nat} (hx0 : n0 ≤ x) (hh0 : n0 ≤ h.size) (E : RoadKit.Exa Z h x ST) (V : RoadKit.Fld Z h x ST "value" "[B" v0) (C : RoadKit.Fld Z h x ST "coder" "B" c0) (K : RoadKit.Arv Z h b kC .char N (cs.map Value.int) d) (S : RoadKit.Sta Z h ST "COMPACT_STRINGS" "Z" (.int z)) (hz : ¬ z = 0)
    (hn : cs.length = n) (hN : N = Int32.ofNat n) (l0 : 0 < n) (l2 : n ≤ 4000) (hp : ∀ c ∈ cs, ¬ c < 0 ∧ ¬ (255 : Int32) < c) (hb : bs = cs.map (fun c => c.toInt8.toInt32)) (hfr : 4 ≤ R.frames) (hlo : W + 65 ≤ R.locals) :
    Back l R p e below s args (⟨"java/lang/String", "<init>", "([C)V"⟩ : MethodName) len W (fun P a => a = #[.ref x, .ref b] ∧ P.U.heap = h ∧ P.cells + 1 ≤ R.cells ∧ P.slots + n ≤ R.slots)
      (fun P _ v B => ∃ L, QV Z x N bs h n0 v B.U.heap L ∧ B.locs = P.locs ++ L ∧ B.cells = P.cells + 1 ∧ B.slots = P.slots + n) := by
  subst hn hN hb
  refine Back.mono (backArv hZ hw wi E V C K S hz (n32 (by omega)) l0 (by omega) (fun c hc => (hp c hc).2) hfr hlo) (fun P a hp => hp) (fun P a v B hp hq => ?_)
  obtain ⟨L, ⟨q1, q2, q3, q4, q5, q6, q7, ⟨kb, v1, v2⟩, q9⟩, hl, hc, hs⟩ := hq
  exact ⟨L, ⟨q1, fun y hy => by rw [q2 y hy]; exact hx0, q3, q5, q7, h.size, kb, hh0, Nat.le_refl _, Nat.ne_of_gt E.lt, q6, by rw [List.map_map]; exact v2⟩, hl, hc, hs⟩
end StrChars.Road
end Jvm.Pilot.@@N@@

namespace Jvm.Pilot.@@N@@
open Jvm Jvm.ClassFile Sem Op Lib Jvm.Free Jvm.Stand Jvm.LawKit Jvm.RoadKit Bundle Jvm.Pilot.@@N@@.Jvm.D
abbrev HW (a0 : Array Value) (Z : State) : Prop := ∀ d ∈ tables_1, d.before a0 Z = true
theorem WW {Z : State} {a0 : Array Value} (hw : HW a0 Z) (i : Nat) {d : Jvm.Cond} (h : tables_1[i]? = some d := by rfl) : d.before a0 Z = true := hw _ (List.mem_of_getElem? h)
abbrev VI (x : Int32) : Value := .int x
abbrev VJ (x : Int64) : Value := .long x
abbrev VR (a : Addr) : Value := .ref a
abbrev SI (x : Int32) : Slot := .val (.int x)
abbrev SJ (x : Int64) : Slot := .val (.long x)
abbrev SR (a : Addr) : Slot := .val (.ref a)
abbrev SN : Slot := .val .null
abbrev SU : Slot := .unset
abbrev SS : Slot := .second
/-- from the frame g of T the run comes to an end of which G holds -/
def own_Fin (p : Program) (e : Env) (below : List Frame) (G : State → Outcome → Prop) (T : State) (g : JFrame) : Prop := ∃ U o, Steps p.tables e below (T.setTop g) U ∧ U.status = .running ∧ Ended U below o ∧ G U o
theorem own_go {p : Program} {e : Env} {below : List Frame} {G : State → Outcome → Prop} {T T' : State} {g g' : JFrame} (st : ∀ t, Steps p.tables e below (T'.setTop g') t → Steps p.tables e below (T.setTop g) t) (k : own_Fin p e below G T' g') : own_Fin p e below G T g := by
  obtain ⟨U, o, h1, h2⟩ := k
  exact ⟨U, o, st _ h1, h2⟩
theorem own_start {p : Program} {e : Env} {below : List Frame} {G : State → Outcome → Prop} {T : State} {g g' : JFrame} (q : g = g') (k : own_Fin p e below G T g') : ∃ U o, Steps p.tables e below (T.setTop g) U ∧ U.status = .running ∧ Ended U below o ∧ G U o := by
  subst q; exact k
theorem own_enter {l : Launch} {Z : State} {y : MethodName} {bytes : ByteArray} {maxL : Nat} {ret : Option FieldType} {ws : List Jvm.Cond} {R : Room} {A : Array Value} {h0 : Heap} {n0 : Nat} {Ls : Array Slot} {Q : Array Value → State → Outcome → State → Prop} (hp : plainFor y = true) (ef : ∀ m, entryFrame m A maxL = mkF m 0 Ls [])
    (k : ∀ (p : Program) (e : Env) (s : State) (m : MethodId) (below : List Frame) (meth : Method) (c : Code) (s₁ : State), p.tables.exec = Jvm.exec → c.code = bytes → c.maxLocals = maxL → s.vm.findClass y.cls = some m.cls → meth.name = y.name → meth.sig.returnType = ret → meth.locks = false →
      Stand p l e R s m A below meth c s₁ [] 0 0 → s₁.heap = h0 → Z.Warmed39 s.vm → s.heap = h0 → Fr n0 [] → own_Fin p e below (fun U o => Q A s o U) s₁ (mkF m 0 Ls [])) :
    MetFree l y (head1 (Jvm.Cond.code y bytes maxL ret :: ws) R) (fun a U => a = A ∧ Z.Warmed39 U.vm ∧ U.heap = h0) (fun _ _ _ _ _ => True) Q := by
  refine MetFree.of_bodySF hp hisR ?_
  intro p e s m args below meth c s₁ Bd hml hP hK
  obtain ⟨rfl, hZ, hh⟩ := hP
  exact own_start (ef m) (k p e s m below meth c s₁ Bd.exec Bd.bytes hml (findClass_of_methodNamed Bd.named) (name_of_methodNamed Bd.named Bd.method).1 Bd.returns Bd.notSynchronized (Stand.of_body Bd) (by rw [← hh, Bd.state]; rfl) hZ hh (Fr.nil n0))
theorem own_weak {l : Launch} {y : MethodName} {S : Spec} {P : Array Value → State → Prop} {K : Program → Env → List Frame → State → Array Value → Prop} {Q Q' : Array Value → State → Outcome → State → Prop} (h : MetFree l y S P K Q) (w : ∀ a s o t, Q a s o t → Q' a s o t) : MetFree l y S P K Q' := by
  intro p e ha hc hk s m args below hf happ hP hK
  obtain ⟨n, o, h1, h2, h3, h4⟩ := h p e ha hc hk s m args below hf happ hP hK
  exact ⟨n, o, h1, h2, h3, w _ _ _ _ h4⟩
theorem own_end {p : Program} {e : Env} {below : List Frame} {G : State → Outcome → Prop} {T U : State} {g : JFrame} {o : Outcome} (h1 : Steps p.tables e below (T.setTop g) U) (h2 : U.status = .running) (h3 : Ended U below o) (h4 : G U o) : own_Fin p e below G T g := ⟨U, o, h1, h2, h3, h4⟩
section Calls
variable {p : Program} {l : Launch} {e : Env} {R : Room} {s : State} {m : MethodId} {args : Array Value} {below : List Frame} {meth : Method} {c : Code} {T : State} {locs : List Loc} {cells slots : Nat} {Z : State} {a0 : Array Value} {h : Heap}
abbrev own_In (Z : State) (as' : Array Value) (h : Heap) : Array Value → State → Prop := fun a U => a = as' ∧ Z.Warmed39 U.vm ∧ U.heap = h
abbrev own_Out (Q : Option Value → Heap → List Loc → Prop) (rm : Room) : Array Value → State → Outcome → State → Prop := fun _ U o U' => ∃ v L, o = .returned v ∧ Q v U'.heap L ∧ FrameEnd U o U' L rm.cells rm.slots
abbrev own_OutW (Q : Option Value → Heap → List Loc → Prop) (rm : Room) : Array Value → State → Outcome → State → Prop := fun _ U o U' => ∃ v L, o = .returned v ∧ Q v U'.heap L ∧ ReturnedEndW U o U' L rm.cells rm.slots
abbrev own_np (y : MethodName) : Prop := y.cls ≠ "java/lang/invoke/MethodHandle" ∧ y.cls ≠ "java/lang/invoke/VarHandle"
/-- a static method by its contract -/
theorem own_cS {own : String} {index maxL k W : Nat} {y : MethodName} {bytes : ByteArray} {ret : Option FieldType} {rm : Room} {as' : Array Value} {Q : Option Value → Heap → List Loc → Prop} (X : Stand p l e R s m args below meth c T locs cells slots) (hx : p.tables.exec = Jvm.exec) (hZ : Z.Warmed39 s.vm) (hown : s.vm.findClass own = some m.cls)
    (w1 : (Jvm.Cond.methodLink own index y).before a0 Z = true) (w2 : (Jvm.Cond.static y).before a0 Z = true) (w3 : (Jvm.Cond.initialized y.cls).before a0 Z = true) (w4 : (Jvm.Cond.code y bytes maxL ret).before a0 Z = true)
    (hM : MetFree l y (head1 [Jvm.Cond.code y bytes maxL ret] rm) (own_In Z as' h) (fun _ _ _ _ _ => True) (own_Out Q rm)) (eT : T.heap = h) (hml : c.maxLocals = k) {g : JFrame} {ps : List FieldType} {r : Option FieldType} (hd : parseMethodDescriptor y.desc = some ⟨ps, r⟩) (hdg : decode c.code g.pc = .ok (.invokestatic index, 3)) (argsL rest : List Value)
    (hst : g.stack = argsL.reverse ++ rest := by rfl) (has : argsL.toArray = as' := by rfl) (hg : g.method = m := by rfl) (hsz : g.locals.size = k := by rfl) (hln : argsL.length = ps.length := by rfl) (hy : own_np y := by decide) (hW : 2 * g.monitorRoom + (rest.map fun v => v.category).sum ≤ W := by show 2 * 0 + _ ≤ _; exact Nat.le_of_eq rfl) (hf : rm.frames + 1 ≤ R.frames := by decide) (hl : W + (maxL + 11) + rm.locals ≤ R.locals := by decide) (hc : cells + rm.cells ≤ R.cells := by decide) (hs : slots + rm.slots ≤ R.slots := by decide) :
    ∃ (v : Option Value) (T' : State) (L : List Loc), Stand p l e R s m args below meth c T' (locs ++ L) (cells + rm.cells) (slots + rm.slots) ∧ Q v T'.heap L ∧ ∀ t, Steps p.tables e below (T'.setTop { g with pc := g.pc + 3, stack := v.toList ++ rest }) t → Steps p.tables e below (T.setTop g) t := by
  obtain ⟨v, _, ⟨T', L', k', n'⟩, -, X', ⟨L, hQ, h1, h2, h3⟩, st⟩ := Jvm.LawKit.callS X hx (y := y) hown (mvT hZ w1) (mvT hZ w2) (mvT hZ w3) (mvT hZ w4) hy (backOf (W := W) hM hZ w4 w3 hf hl) (g := g) hg (hsz.trans hml.symm) (argsL := argsL) (rest := rest) (lenOf hd hln) hst hW hdg (fun _ _ => ⟨has, eT, hc, hs⟩)
  dsimp only [Pt.U, Pt.locs, Pt.cells, Pt.slots] at X' h1 h2 h3 st hQ
  subst h1 h2 h3
  exact ⟨v, T', L, X', hQ, st⟩
/-- a constructor by its contract -/
theorem own_cI {own : String} {index maxL k W : Nat} {y : MethodName} {bytes : ByteArray} {rm : Room} {as' : Array Value} {Q : Option Value → Heap → List Loc → Prop} (X : Stand p l e R s m args below meth c T locs cells slots) (hx : p.tables.exec = Jvm.exec) (hZ : Z.Warmed39 s.vm) (hown : s.vm.findClass own = some m.cls)
    (w1 : (Jvm.Cond.methodLink own index y).before a0 Z = true) (w2 : (Jvm.Cond.instanceMethod y).before a0 Z = true) (w3 : (Jvm.Cond.initialized y.cls).before a0 Z = true) (w4 : (Jvm.Cond.code y bytes maxL none).before a0 Z = true)
    (hM : MetFree l y (head1 [Jvm.Cond.code y bytes maxL none] rm) (own_In Z as' h) (fun _ _ _ _ _ => True) (own_Out Q rm)) (eT : T.heap = h) (hml : c.maxLocals = k) {g : JFrame} {ps : List FieldType} {r : Option FieldType} (hd : parseMethodDescriptor y.desc = some ⟨ps, r⟩) (hdg : decode c.code g.pc = .ok (.invokespecial index, 3)) (a : Addr) (argsL rest : List Value)
    (hst : g.stack = argsL.reverse ++ .ref a :: rest := by rfl) (has : (.ref a :: argsL).toArray = as' := by rfl) (hg : g.method = m := by rfl) (hsz : g.locals.size = k := by rfl) (hln : argsL.length = ps.length := by rfl) (hn : y.name = "<init>" := by rfl) (hy : own_np y := by decide) (hW : 2 * g.monitorRoom + (rest.map fun v => v.category).sum ≤ W := by show 2 * 0 + _ ≤ _; exact Nat.le_of_eq rfl) (hf : rm.frames + 1 ≤ R.frames := by decide) (hl : W + (maxL + 11) + rm.locals ≤ R.locals := by decide) (hc : cells + rm.cells ≤ R.cells := by decide) (hs : slots + rm.slots ≤ R.slots := by decide) :
    ∃ (v : Option Value) (T' : State) (L : List Loc), Stand p l e R s m args below meth c T' (locs ++ L) (cells + rm.cells) (slots + rm.slots) ∧ Q v T'.heap L ∧ ∀ t, Steps p.tables e below (T'.setTop { g with pc := g.pc + 3, stack := v.toList ++ rest }) t → Steps p.tables e below (T.setTop g) t := by
  obtain ⟨v, _, ⟨T', L', k', n'⟩, -, X', ⟨L, hQ, h1, h2, h3⟩, st⟩ := X.specialBack hx (y := y) hn hown (mvT hZ w1) (mvT hZ w2) (mvT hZ w4) hy (backOf (W := W) hM hZ w4 w3 hf hl) (g := g) hg (hsz.trans hml.symm) (Steps.refl _) (a := a) (argsL := argsL) (rest := rest) (lenOf hd hln) hst hW hdg (fun _ _ => ⟨has, eT, hc, hs⟩)
  dsimp only [Pt.U, Pt.locs, Pt.cells, Pt.slots] at X' h1 h2 h3 st hQ
  subst h1 h2 h3
  exact ⟨v, T', L, X', hQ, fun t q => st.trans q⟩
/-- an instance method by its contract -/
theorem own_cV {own C : String} {index maxL k W : Nat} {y z : MethodName} {bytes : ByteArray} {ret : Option FieldType} {rm : Room} {as' : Array Value} {Q : Option Value → Heap → List Loc → Prop} (X : Stand p l e R s m args below meth c T locs cells slots) (hx : p.tables.exec = Jvm.exec) (hZ : Z.Warmed39 s.vm) (hown : s.vm.findClass own = some m.cls)
    (w1 : (Jvm.Cond.methodLink own index y).before a0 Z = true) (w2 : (Jvm.Cond.declares y).before a0 Z = true) (nf : NotFace s y) (w5 : (Jvm.Cond.selects C y z).before a0 Z = true) (w6 : (Jvm.Cond.instanceMethod z).before a0 Z = true) (w3 : (Jvm.Cond.initialized z.cls).before a0 Z = true) (w4 : (Jvm.Cond.code z bytes maxL ret).before a0 Z = true)
    (hM : MetFree l z (head1 [Jvm.Cond.code z bytes maxL ret] rm) (own_In Z as' h) (fun _ _ _ _ _ => True) (own_Out Q rm)) (eT : T.heap = h) {b : Addr} (E : Exa Z h b C) (hml : c.maxLocals = k) {g : JFrame} {ps : List FieldType} {r : Option FieldType} (hd : parseMethodDescriptor y.desc = some ⟨ps, r⟩) (hdg : decode c.code g.pc = .ok (.invokevirtual index, 3)) (argsL rest : List Value)
    (hst : g.stack = argsL.reverse ++ .ref b :: rest := by rfl) (has : (.ref b :: argsL).toArray = as' := by rfl) (hg : g.method = m := by rfl) (hsz : g.locals.size = k := by rfl) (hln : argsL.length = ps.length := by rfl) (hy : own_np y := by decide) (hW : 2 * g.monitorRoom + (rest.map fun v => v.category).sum ≤ W := by show 2 * 0 + _ ≤ _; exact Nat.le_of_eq rfl) (hf : rm.frames + 1 ≤ R.frames := by decide) (hl : W + (maxL + 11) + rm.locals ≤ R.locals := by decide) (hc : cells + rm.cells ≤ R.cells := by decide) (hs : slots + rm.slots ≤ R.slots := by decide) :
    ∃ (v : Option Value) (T' : State) (L : List Loc), Stand p l e R s m args below meth c T' (locs ++ L) (cells + rm.cells) (slots + rm.slots) ∧ Q v T'.heap L ∧ ∀ t, Steps p.tables e below (T'.setTop { g with pc := g.pc + 3, stack := v.toList ++ rest }) t → Steps p.tables e below (T.setTop g) t := by
  obtain ⟨cq, kq, qa, qb, qc⟩ := isOf hZ eT E
  obtain ⟨v, _, ⟨T', L', k', n'⟩, -, X', ⟨L, hQ, h1, h2, h3⟩, st⟩ := X.virtualBack hx (y := y) (z := z) hown (mvT hZ w1) (mvT hZ w2) nf (mvT hZ w5) (mvT hZ w6) hy (backOf (W := W) hM hZ w4 w3 hf hl) qa qc (g := g) hg (hsz.trans hml.symm) (Steps.refl _) (argsL := argsL) (rest := rest) (lenOf hd hln) hst hW hdg (fun _ _ => ⟨has, eT, hc, hs⟩)
  dsimp only [Pt.U, Pt.locs, Pt.cells, Pt.slots] at X' h1 h2 h3 st hQ
  subst h1 h2 h3
  exact ⟨v, T', L, X', hQ, fun t q => st.trans q⟩
theorem own_cF {own C : String} {index count maxL k W : Nat} {y z : MethodName} {bytes : ByteArray} {ret : Option FieldType} {rm : Room} {as' : Array Value} {Q : Option Value → Heap → List Loc → Prop} (X : Stand p l e R s m args below meth c T locs cells slots) (hx : p.tables.exec = Jvm.exec) (hZ : Z.Warmed39 s.vm) (hown : s.vm.findClass own = some m.cls)
    (w1 : (Jvm.Cond.methodLink own index y).before a0 Z = true) (w2 : (Jvm.Cond.declares y).before a0 Z = true) (w7 : (Jvm.Cond.interfaceMethod y.cls y.cls y.name y.desc).before args s = true) (w5 : (Jvm.Cond.selects C y z).before a0 Z = true) (w6 : (Jvm.Cond.instanceMethod z).before a0 Z = true) (w8 : (Jvm.Cond.publicMethod z).before a0 Z = true) (w9 : (Jvm.Cond.unhidden C y.name y.desc).before a0 Z = true) (w10 : (Jvm.Cond.castable C y.cls).before a0 Z = true) (w3 : (Jvm.Cond.initialized z.cls).before a0 Z = true) (w4 : (Jvm.Cond.code z bytes maxL ret).before a0 Z = true)
    (hM : MetFree l z (head1 [Jvm.Cond.code z bytes maxL ret] rm) (own_In Z as' h) (fun _ _ _ _ _ => True) (own_Out Q rm)) (eT : T.heap = h) {b : Addr} (E : Exa Z h b C) (hml : c.maxLocals = k) {g : JFrame} {ps : List FieldType} {r : Option FieldType} (hd : parseMethodDescriptor y.desc = some ⟨ps, r⟩) (hdg : decode c.code g.pc = .ok (.invokeinterface index count, 5)) (argsL rest : List Value)
    (hst : g.stack = argsL.reverse ++ .ref b :: rest := by rfl) (has : (.ref b :: argsL).toArray = as' := by rfl) (hg : g.method = m := by rfl) (hsz : g.locals.size = k := by rfl) (hln : argsL.length = ps.length := by rfl) (hy : own_np y := by decide) (hW : 2 * g.monitorRoom + (rest.map fun v => v.category).sum ≤ W := by show 2 * 0 + _ ≤ _; exact Nat.le_of_eq rfl) (hf : rm.frames + 1 ≤ R.frames := by decide) (hl : W + (maxL + 11) + rm.locals ≤ R.locals := by decide) (hc : cells + rm.cells ≤ R.cells := by decide) (hs : slots + rm.slots ≤ R.slots := by decide) :
    ∃ (v : Option Value) (T' : State) (L : List Loc), Stand p l e R s m args below meth c T' (locs ++ L) (cells + rm.cells) (slots + rm.slots) ∧ Q v T'.heap L ∧ ∀ t, Steps p.tables e below (T'.setTop { g with pc := g.pc + 5, stack := v.toList ++ rest }) t → Steps p.tables e below (T.setTop g) t := by
  obtain ⟨cq, kq, qa, qb, qc⟩ := isOf hZ eT E
  obtain ⟨v, _, ⟨T', L', k', n'⟩, -, X', ⟨L, hQ, h1, h2, h3⟩, st⟩ := X.interfaceBack hx (xi := y) (y := z) hown (mvT hZ w1) (mvT hZ w2) w7 (mvT hZ w5) (mvT hZ w6) (mvT hZ w8) (mvT hZ w9) (mvT hZ w10) hy (backOf (W := W) hM hZ w4 w3 hf hl) qa qb qc (g := g) hg (hsz.trans hml.symm) (Steps.refl _) (argsL := argsL) (rest := rest) (lenOf hd hln) hst hW hdg (fun _ _ => ⟨has, eT, hc, hs⟩)
  dsimp only [Pt.U, Pt.locs, Pt.cells, Pt.slots] at X' h1 h2 h3 st hQ
  subst h1 h2 h3
  exact ⟨v, T', L, X', hQ, fun t q => st.trans q⟩
end Calls
section CallsW
variable {p : Program} {l : Launch} {e : Env} {R : Room} {s : State} {vm0 : Vm} {m : MethodId} {args : Array Value} {below : List Frame} {meth : Method} {c : Code} {T : State} {locs : List Loc} {cells slots : Nat} {Z : State} {a0 : Array Value} {h : Heap} {k0 : Nat}
theorem own_cSW {own : String} {index maxL k W : Nat} {y : MethodName} {bytes : ByteArray} {ret : Option FieldType} {rm : Room} {as' : Array Value} {Q : Option Value → Heap → List Loc → Prop} (X : Stand p l e R (s.setVm vm0) m args below meth c T locs cells slots) (hx : p.tables.exec = Jvm.exec) (hZ : Z.Warmed39 (s.setVm vm0).vm) (hown : (s.setVm vm0).vm.findClass own = some m.cls) (hS : s.Since vm0 k0) (hk : k0 ≤ h.size)
    (w1 : (Jvm.Cond.methodLink own index y).before a0 Z = true) (w2 : (Jvm.Cond.static y).before a0 Z = true) (w3 : (Jvm.Cond.initialized y.cls).before a0 Z = true) (w4 : (Jvm.Cond.code y bytes maxL ret).before a0 Z = true)
    (hM : MetFree l y (head1 [Jvm.Cond.code y bytes maxL ret] rm) (own_In Z as' h) (fun _ _ _ _ _ => True) (own_OutW Q rm)) (eT : T.heap = h) (hml : c.maxLocals = k) {g : JFrame} {ps : List FieldType} {r : Option FieldType} (hd : parseMethodDescriptor y.desc = some ⟨ps, r⟩) (hdg : decode c.code g.pc = .ok (.invokestatic index, 3)) (argsL rest : List Value)
    (hst : g.stack = argsL.reverse ++ rest := by rfl) (has : argsL.toArray = as' := by rfl) (hg : g.method = m := by rfl) (hsz : g.locals.size = k := by rfl) (hln : argsL.length = ps.length := by rfl) (hy : own_np y := by decide) (hW : 2 * g.monitorRoom + (rest.map fun v => v.category).sum ≤ W := by show 2 * 0 + _ ≤ _; exact Nat.le_of_eq rfl) (hf : rm.frames + 1 ≤ R.frames := by decide) (hl : W + (maxL + 11) + rm.locals ≤ R.locals := by decide) (hc : cells + rm.cells ≤ R.cells := by decide) (hs : slots + rm.slots ≤ R.slots := by decide) :
    ∃ (v : Option Value) (T' : State) (L : List Loc), Stand p l e R (s.setVm T'.vm) m args below meth c T' (locs ++ L) (cells + rm.cells) (slots + rm.slots) ∧ Q v T'.heap L ∧ s.Since T'.vm T'.heap.size ∧ Z.Warmed39 (s.setVm T'.vm).vm ∧ (s.setVm T'.vm).vm.findClass own = some m.cls ∧ ∀ t, Steps p.tables e below (T'.setTop { g with pc := g.pc + 3, stack := v.toList ++ rest }) t → Steps p.tables e below (T.setTop g) t := by
  obtain ⟨v, _, ⟨T', L', k', n'⟩, -, X', hs', hg', ⟨L, hQ, h1, h2, h3⟩, st⟩ := callSS X hx (y := y) hown (mvT hZ w1) (mvT hZ w2) (mvT hZ w3) (mvT hZ w4) hy (backOfS (W := W) hM hZ w4 w3 hf hl) (g := g) hg (hsz.trans hml.symm) (argsL := argsL) (rest := rest) (lenOf hd hln) hst hW hdg (fun _ _ => ⟨has, eT, hc, hs⟩)
  dsimp only [Pt.U, Pt.locs, Pt.cells, Pt.slots] at X' h1 h2 h3 st hQ hs' hg'
  subst h1 h2 h3
  obtain ⟨Y, hS', hZ', ho'⟩ := rebS hS (n1 := T.heap.size) (by rw [eT]; exact hk) X' hs' hg' hZ hown
  exact ⟨v, T', L, Y, hQ, hS', hZ', ho', fun t q => st.trans q⟩
theorem own_cIW {own : String} {index maxL k W : Nat} {y : MethodName} {bytes : ByteArray} {rm : Room} {as' : Array Value} {Q : Option Value → Heap → List Loc → Prop} (X : Stand p l e R (s.setVm vm0) m args below meth c T locs cells slots) (hx : p.tables.exec = Jvm.exec) (hZ : Z.Warmed39 (s.setVm vm0).vm) (hown : (s.setVm vm0).vm.findClass own = some m.cls) (hS : s.Since vm0 k0) (hk : k0 ≤ h.size)
    (w1 : (Jvm.Cond.methodLink own index y).before a0 Z = true) (w2 : (Jvm.Cond.instanceMethod y).before a0 Z = true) (w3 : (Jvm.Cond.initialized y.cls).before a0 Z = true) (w4 : (Jvm.Cond.code y bytes maxL none).before a0 Z = true)
    (hM : MetFree l y (head1 [Jvm.Cond.code y bytes maxL none] rm) (own_In Z as' h) (fun _ _ _ _ _ => True) (own_OutW Q rm)) (eT : T.heap = h) (hml : c.maxLocals = k) {g : JFrame} {ps : List FieldType} {r : Option FieldType} (hd : parseMethodDescriptor y.desc = some ⟨ps, r⟩) (hdg : decode c.code g.pc = .ok (.invokespecial index, 3)) (a : Addr) (argsL rest : List Value)
    (hst : g.stack = argsL.reverse ++ .ref a :: rest := by rfl) (has : (.ref a :: argsL).toArray = as' := by rfl) (hg : g.method = m := by rfl) (hsz : g.locals.size = k := by rfl) (hln : argsL.length = ps.length := by rfl) (hn : y.name = "<init>" := by rfl) (hy : own_np y := by decide) (hW : 2 * g.monitorRoom + (rest.map fun v => v.category).sum ≤ W := by show 2 * 0 + _ ≤ _; exact Nat.le_of_eq rfl) (hf : rm.frames + 1 ≤ R.frames := by decide) (hl : W + (maxL + 11) + rm.locals ≤ R.locals := by decide) (hc : cells + rm.cells ≤ R.cells := by decide) (hs : slots + rm.slots ≤ R.slots := by decide) :
    ∃ (v : Option Value) (T' : State) (L : List Loc), Stand p l e R (s.setVm T'.vm) m args below meth c T' (locs ++ L) (cells + rm.cells) (slots + rm.slots) ∧ Q v T'.heap L ∧ s.Since T'.vm T'.heap.size ∧ Z.Warmed39 (s.setVm T'.vm).vm ∧ (s.setVm T'.vm).vm.findClass own = some m.cls ∧ ∀ t, Steps p.tables e below (T'.setTop { g with pc := g.pc + 3, stack := v.toList ++ rest }) t → Steps p.tables e below (T.setTop g) t := by
  obtain ⟨v, _, ⟨T', L', k', n'⟩, -, X', hs', hg', ⟨L, hQ, h1, h2, h3⟩, st⟩ := X.specialBackS hx (y := y) hn hown (mvT hZ w1) (mvT hZ w2) (mvT hZ w4) hy (backOfS (W := W) hM hZ w4 w3 hf hl) (g := g) hg (hsz.trans hml.symm) (Steps.refl _) (a := a) (argsL := argsL) (rest := rest) (lenOf hd hln) hst hW hdg (fun _ _ => ⟨has, eT, hc, hs⟩)
  dsimp only [Pt.U, Pt.locs, Pt.cells, Pt.slots] at X' h1 h2 h3 st hQ hs' hg'
  subst h1 h2 h3
  obtain ⟨Y, hS', hZ', ho'⟩ := rebS hS (n1 := T.heap.size) (by rw [eT]; exact hk) X' hs' hg' hZ hown
  exact ⟨v, T', L, Y, hQ, hS', hZ', ho', fun t q => st.trans q⟩
end CallsW
theorem own_and3 (x : Int32) (h0 : ¬ (x &&& (3 : Int32)) = (0 : Int32)) (h1 : ¬ (x &&& (3 : Int32)) = (1 : Int32)) (h2 : ¬ (x &&& (3 : Int32)) = (2 : Int32)) : (x &&& (3 : Int32)) = (3 : Int32) := by
  have h : (x &&& 3).toBitVec.toNat < 4 := by
    simp only [Int32.toBitVec_and, BitVec.toNat_and]
    exact Nat.lt_succ_of_le Nat.and_le_right
  have e : (x &&& 3) = Int32.ofNat (x &&& 3).toBitVec.toNat := by
    apply Int32.toBitVec_inj.mp
    show _ = BitVec.ofNat 32 _
    rw [BitVec.ofNat_toNat]; simp
  have t : ∀ k : Fin 4, ¬ Int32.ofNat k.val = 0 → ¬ Int32.ofNat k.val = 1 → ¬ Int32.ofNat k.val = 2 → Int32.ofNat k.val = 3 := by decide +kernel
  rw [e] at h0 h1 h2 ⊢
  exact t ⟨_, h⟩ h0 h1 h2
theorem own_c255 (x : Int32) : ¬ ((x &&& (255 : Int32)).toUInt32.toUInt16.toUInt32.toInt32) < 0 ∧ ¬ (255 : Int32) < ((x &&& (255 : Int32)).toUInt32.toUInt16.toUInt32.toInt32) := by
  have t : ∀ k : Fin 256, ¬ ((Int32.ofNat k.val).toUInt32.toUInt16.toUInt32.toInt32) < 0 ∧ ¬ (255 : Int32) < ((Int32.ofNat k.val).toUInt32.toUInt16.toUInt32.toInt32) := by decide +kernel
  have h : (x &&& 255).toBitVec.toNat < 256 := by
    simp only [Int32.toBitVec_and, BitVec.toNat_and]
    exact Nat.lt_succ_of_le Nat.and_le_right
  have e : (x &&& 255) = Int32.ofNat (x &&& 255).toBitVec.toNat := by
    apply Int32.toBitVec_inj.mp
    show _ = BitVec.ofNat 32 _
    rw [BitVec.ofNat_toNat]; simp
  rw [e]
  exact t ⟨_, h⟩
theorem own_and255 (x : Int32) : ¬ nar .char ((x &&& (255 : Int32)).toUInt32.toUInt16.toUInt32.toInt32) < 0 ∧ ¬ (255 : Int32) < nar .char ((x &&& (255 : Int32)).toUInt32.toUInt16.toUInt32.toInt32) := by
  have e : nar .char ((x &&& (255 : Int32)).toUInt32.toUInt16.toUInt32.toInt32) = ((x &&& (255 : Int32)).toUInt32.toUInt16.toUInt32.toInt32) := by simp only [nar, UInt32.toUInt32_toInt32, UInt16.toUInt16_toUInt32]
  rw [e]; exact own_c255 x
theorem own_nar2 (x : Int32) : ¬ nar .char (nar .char ((x &&& (255 : Int32)).toUInt32.toUInt16.toUInt32.toInt32)) < 0 ∧ ¬ (255 : Int32) < nar .char (nar .char ((x &&& (255 : Int32)).toUInt32.toUInt16.toUInt32.toInt32)) := by
  have e : nar .char (nar .char ((x &&& (255 : Int32)).toUInt32.toUInt16.toUInt32.toInt32)) = ((x &&& (255 : Int32)).toUInt32.toUInt16.toUInt32.toInt32) := by simp only [nar, UInt32.toUInt32_toInt32, UInt16.toUInt16_toUInt32]
  rw [e]; exact own_c255 x
theorem own_b63c (x : Int32) : (nar .char (nar .char ((x &&& (255 : Int32)).toUInt32.toUInt16.toUInt32.toInt32))).toInt8.toInt32 = (63 : Int32) ↔ nar .char ((x &&& (255 : Int32)).toUInt32.toUInt16.toUInt32.toInt32) = (63 : Int32) := by
  have t : ∀ k : Fin 256, (nar .char (nar .char ((Int32.ofNat k.val).toUInt32.toUInt16.toUInt32.toInt32))).toInt8.toInt32 = (63 : Int32) ↔ nar .char ((Int32.ofNat k.val).toUInt32.toUInt16.toUInt32.toInt32) = (63 : Int32) := by decide +kernel
  have h : (x &&& 255).toBitVec.toNat < 256 := by
    simp only [Int32.toBitVec_and, BitVec.toNat_and]
    exact Nat.lt_succ_of_le Nat.and_le_right
  have e : (x &&& 255) = Int32.ofNat (x &&& 255).toBitVec.toNat := by
    apply Int32.toBitVec_inj.mp
    show _ = BitVec.ofNat 32 _
    rw [BitVec.ofNat_toNat]; simp
  rw [e]
  exact t ⟨_, h⟩
theorem own_all0 {P : Int32 → Prop} : ∀ c ∈ ([] : List Int32), P c := fun _ q => nomatch q
theorem own_allS {P : Int32 → Prop} {y : Int32} {L : List Int32} (q : P y) (r : ∀ x ∈ L, P x) : ∀ x ∈ y :: L, P x := fun x z => (List.mem_cons.mp z).elim (fun u => u ▸ q) (r x)
abbrev cC0 : String := "java/lang/String"
theorem pd0 : parseMethodDescriptor "([C)V" = some ⟨[(.array .char)], none⟩ := by decide +kernel
abbrev yM0 : MethodName := ⟨cC0, "<init>", "([C)V"⟩
theorem d7_0 : decode jdk_42_method_139_code 0 = .ok (.getstatic 38, 3) := by decide +kernel
theorem d7_3 : decode jdk_42_method_139_code 3 = .ok (.ifCond .eq 23, 3) := by decide +kernel
theorem d7_6 : decode jdk_42_method_139_code 6 = .ok (.iload_n 0, 1) := by decide +kernel
theorem d7_7 : decode jdk_42_method_139_code 7 = .ok (.invokestatic 1015, 3) := by decide +kernel
theorem d8_0 : decode jdk_43_method_3_code 0 = .ok (.iload_n 0, 1) := by decide +kernel
theorem d8_1 : decode jdk_43_method_3_code 1 = .ok (.sipush 255, 3) := by decide +kernel
theorem d8_4 : decode jdk_43_method_3_code 4 = .ok (.if_icmp .gt 7, 3) := by decide +kernel
theorem d8_7 : decode jdk_43_method_3_code 7 = .ok (.iconst 1, 1) := by decide +kernel
theorem d8_8 : decode jdk_43_method_3_code 8 = .ok (.goto 4, 3) := by decide +kernel
theorem d8_12 : decode jdk_43_method_3_code 12 = .ok (.ireturn, 1) := by decide +kernel
abbrev cC1 : String := "java/lang/StringLatin1"
abbrev yM1 : MethodName := ⟨cC1, "canEncode", "(C)Z"⟩
theorem pn8 : plainName "java/lang/StringLatin1" = true := by first | (simp [plainName, overriddenIn]; done) | decide +kernel
theorem pd1 : parseMethodDescriptor "(C)Z" = some ⟨[.char], some .boolean⟩ := by decide +kernel
theorem d7_10 : decode jdk_42_method_139_code 10 = .ok (.ifCond .eq 16, 3) := by decide +kernel
theorem d7_13 : decode jdk_42_method_139_code 13 = .ok (.new 10, 3) := by decide +kernel
theorem d7_16 : decode jdk_42_method_139_code 16 = .ok (.dup, 1) := by decide +kernel
theorem d7_17 : decode jdk_42_method_139_code 17 = .ok (.iload_n 0, 1) := by decide +kernel
theorem d7_18 : decode jdk_42_method_139_code 18 = .ok (.invokestatic 1018, 3) := by decide +kernel
theorem d9_0 : decode jdk_43_method_46_code 0 = .ok (.iconst 1, 1) := by decide +kernel
theorem d9_1 : decode jdk_43_method_46_code 1 = .ok (.newarray .byte, 2) := by decide +kernel
theorem d9_3 : decode jdk_43_method_46_code 3 = .ok (.dup, 1) := by decide +kernel
theorem d9_4 : decode jdk_43_method_46_code 4 = .ok (.iconst 0, 1) := by decide +kernel
theorem d9_5 : decode jdk_43_method_46_code 5 = .ok (.iload_n 0, 1) := by decide +kernel
theorem d9_6 : decode jdk_43_method_46_code 6 = .ok (.i2b, 1) := by decide +kernel
theorem d9_7 : decode jdk_43_method_46_code 7 = .ok (.bastore, 1) := by decide +kernel
theorem d9_8 : decode jdk_43_method_46_code 8 = .ok (.areturn, 1) := by decide +kernel
abbrev yM2 : MethodName := ⟨cC1, "toBytes", "(C)[B"⟩
theorem pd2 : parseMethodDescriptor "(C)[B" = some ⟨[.char], some (.array .byte)⟩ := by decide +kernel
theorem d7_21 : decode jdk_42_method_139_code 21 = .ok (.iconst 0, 1) := by decide +kernel
theorem d7_22 : decode jdk_42_method_139_code 22 = .ok (.invokespecial 209, 3) := by decide +kernel
theorem d10_0 : decode jdk_42_method_151_code 0 = .ok (.aload_n 0, 1) := by decide +kernel
theorem d10_1 : decode jdk_42_method_151_code 1 = .ok (.invokespecial 1, 3) := by decide +kernel
theorem d10_4 : decode jdk_42_method_151_code 4 = .ok (.aload_n 0, 1) := by decide +kernel
theorem d10_5 : decode jdk_42_method_151_code 5 = .ok (.aload_n 1, 1) := by decide +kernel
theorem d10_6 : decode jdk_42_method_151_code 6 = .ok (.putfield 9, 3) := by decide +kernel
theorem d10_9 : decode jdk_42_method_151_code 9 = .ok (.aload_n 0, 1) := by decide +kernel
theorem d10_10 : decode jdk_42_method_151_code 10 = .ok (.iload_n 2, 1) := by decide +kernel
theorem d10_11 : decode jdk_42_method_151_code 11 = .ok (.putfield 15, 3) := by decide +kernel
theorem d10_14 : decode jdk_42_method_151_code 14 = .ok (.return_, 1) := by decide +kernel
abbrev yM3 : MethodName := ⟨cC0, "<init>", "([BB)V"⟩
theorem pn1 : plainName "java/lang/String" = true := by first | (simp [plainName, overriddenIn]; done) | decide +kernel
theorem pd3 : parseMethodDescriptor "([BB)V" = some ⟨[(.array .byte), .byte], none⟩ := by decide +kernel
theorem d7_25 : decode jdk_42_method_139_code 25 = .ok (.areturn, 1) := by decide +kernel
abbrev yM4 : MethodName := ⟨cC0, "valueOf", "(C)Ljava/lang/String;"⟩
theorem pd4 : parseMethodDescriptor "(C)Ljava/lang/String;" = some ⟨[.char], some (.object "java/lang/String")⟩ := by decide +kernel
abbrev cC2 : String := site_107.cls
abbrev cC3 : String := "Ljava/lang/String;"
theorem d11_0 : decode prog_86_method_1_code 0 = .ok (.aload_n 0, 1) := by decide +kernel
theorem d11_1 : decode prog_86_method_1_code 1 = .ok (.invokespecial 1, 3) := by decide +kernel
theorem d12_0 : decode jdk_30_method_1_code 0 = .ok (.aload_n 0, 1) := by decide +kernel
theorem d12_1 : decode jdk_30_method_1_code 1 = .ok (.invokespecial 1, 3) := by decide +kernel
theorem d12_4 : decode jdk_30_method_1_code 4 = .ok (.return_, 1) := by decide +kernel
abbrev cC4 : String := "java/lang/Record"
abbrev yM5 : MethodName := ⟨cC4, "<init>", "()V"⟩
theorem pn12 : plainName "java/lang/Record" = true := by first | (simp [plainName, overriddenIn]; done) | decide +kernel
theorem pd5 : parseMethodDescriptor "()V" = some ⟨[], none⟩ := by decide +kernel
theorem d11_4 : decode prog_86_method_1_code 4 = .ok (.aload_n 0, 1) := by decide +kernel
theorem d11_5 : decode prog_86_method_1_code 5 = .ok (.iload_n 1, 1) := by decide +kernel
theorem d11_6 : decode prog_86_method_1_code 6 = .ok (.putfield 7, 3) := by decide +kernel
theorem d11_9 : decode prog_86_method_1_code 9 = .ok (.aload_n 0, 1) := by decide +kernel
theorem d11_10 : decode prog_86_method_1_code 10 = .ok (.iload_n 2, 1) := by decide +kernel
theorem d11_11 : decode prog_86_method_1_code 11 = .ok (.putfield 13, 3) := by decide +kernel
theorem d11_14 : decode prog_86_method_1_code 14 = .ok (.aload_n 0, 1) := by decide +kernel
theorem d11_15 : decode prog_86_method_1_code 15 = .ok (.aload_n 3, 1) := by decide +kernel
theorem d11_16 : decode prog_86_method_1_code 16 = .ok (.putfield 16, 3) := by decide +kernel
theorem d11_19 : decode prog_86_method_1_code 19 = .ok (.aload_n 0, 1) := by decide +kernel
theorem d11_20 : decode prog_86_method_1_code 20 = .ok (.iload 4, 2) := by decide +kernel
theorem d11_22 : decode prog_86_method_1_code 22 = .ok (.putfield 20, 3) := by decide +kernel
theorem d11_25 : decode prog_86_method_1_code 25 = .ok (.aload_n 0, 1) := by decide +kernel
theorem d11_26 : decode prog_86_method_1_code 26 = .ok (.aload 5, 2) := by decide +kernel
theorem d11_28 : decode prog_86_method_1_code 28 = .ok (.putfield 23, 3) := by decide +kernel
theorem d11_31 : decode prog_86_method_1_code 31 = .ok (.aload_n 0, 1) := by decide +kernel
theorem d11_32 : decode prog_86_method_1_code 32 = .ok (.iload 6, 2) := by decide +kernel
theorem d11_34 : decode prog_86_method_1_code 34 = .ok (.putfield 26, 3) := by decide +kernel
theorem d11_37 : decode prog_86_method_1_code 37 = .ok (.return_, 1) := by decide +kernel
abbrev yM6 : MethodName := ⟨cC2, "<init>", "(IILjava/lang/String;ILjava/lang/String;I)V"⟩
theorem pn11 : plainName site_107.cls = true := by first | (simp [plainName, overriddenIn]; done) | decide +kernel
theorem pd6 : parseMethodDescriptor "(IILjava/lang/String;ILjava/lang/String;I)V" = some ⟨[.int, .int, (.object "java/lang/String"), .int, (.object "java/lang/String"), .int], none⟩ := by decide +kernel
theorem d13_0 : decode prog_86_method_2_code 0 = .ok (.aload_n 0, 1) := by decide +kernel
theorem d13_1 : decode prog_86_method_2_code 1 = .ok (.getfield 7, 3) := by decide +kernel
theorem d13_4 : decode prog_86_method_2_code 4 = .ok (.ifCond .le 10, 3) := by decide +kernel
theorem d13_14 : decode prog_86_method_2_code 14 = .ok (.aload_n 0, 1) := by decide +kernel
theorem d13_15 : decode prog_86_method_2_code 15 = .ok (.getfield 13, 3) := by decide +kernel
theorem d13_18 : decode prog_86_method_2_code 18 = .ok (.ireturn, 1) := by decide +kernel
abbrev yM7 : MethodName := ⟨cC2, "read", "()I"⟩
theorem pd7 : parseMethodDescriptor "()I" = some ⟨[], some .int⟩ := by decide +kernel
theorem d13_7 : decode prog_86_method_2_code 7 = .ok (.aload_n 0, 1) := by decide +kernel
theorem d13_8 : decode prog_86_method_2_code 8 = .ok (.getfield 7, 3) := by decide +kernel
theorem d13_11 : decode prog_86_method_2_code 11 = .ok (.goto 7, 3) := by decide +kernel
theorem pn0 : plainName x.cls = true := by first | (simp [plainName, overriddenIn]; done) | decide +kernel
def Q0 (n0 : Nat) (v : Option Value) (h : Heap) (L : List Loc) : Prop := v = some (.int (1 : Int32)) ∧ Fr n0 L
theorem ef8_1 (m : MethodId) (p1 : Int32) : entryFrame m #[(.int p1)] 1 = mkF m 0 #[SI p1] [] := by first | (simp [entryFrame, mkF, argsToLocals, Value.category]; done) | rfl
def Q8_1 (Z : State) (p1 : Int32) (h0 : Heap) (n0 : Nat) (v : Option Value) (h : Heap) (L : List Loc) : Prop := v = some (.int (1 : Int32)) ∧ Fr n0 L ∧ h = h0
set_option maxRecDepth 65536 in
set_option maxHeartbeats 40000000 in
theorem rm8_1 (l : Launch) (Z : State) (a0 : Array Value) (hw : HW a0 Z) (ws : List Jvm.Cond) (p1 : Int32) (h0 : Heap) (n0 : Nat) (Z0 : n0 ≤ h0.size) (f2 : ¬ ((255 : Int32) < p1)) :
    MetFree l yM1 (head1 (Jvm.Cond.code yM1 jdk_43_method_3_code 1 (some .boolean) :: ws) ({ frames := 0, cells := 0, slots := 0, locals := 0 } : Room)) (fun a U => a = #[(.int p1)] ∧ Z.Warmed39 U.vm ∧ U.heap = h0) (fun _ _ _ _ _ => True) (fun _ U o U' => ∃ v L, o = .returned v ∧ Q8_1 Z p1 h0 n0 v U'.heap L ∧ FrameEnd U o U' L ({ frames := 0, cells := 0, slots := 0, locals := 0 } : Room).cells ({ frames := 0, cells := 0, slots := 0, locals := 0 } : Room).slots) := by
  refine own_enter (n0 := n0) (plainFor_of_name pn8) (fun m => ef8_1 m p1) ?_
  intro p e s m below meth c s₁ hx hby hml hown hnm hret hlk X0 e0 hZ hh N0
  show own_Fin p e below _ s₁ (mkF m 0 #[SI p1] [])
  refine own_go (fun _ k => XS.iloadN X0.here hx rfl (hb hby d8_0) rfl (XS.sipush X0.here hx rfl (hb hby d8_1) (XS.icmpNo X0.here hx rfl (hb hby d8_4) rfl (flt f2).2.2.1 (XS.iconst X0.here hx rfl (hb hby d8_7) (XS.goto X0.here hx rfl (pc0 := 8) (pc' := 12) rfl (hb hby d8_8) (by decide) (by decide) k))))) ?_
  show own_Fin p e below _ s₁ (mkF m 12 #[SI p1] [VI 1])
  obtain ⟨fs, hr, hrun, hended, hW, hsame⟩ := X0.leave (v := some (.int (1 : Int32))) (fun h => by rw [hret] at h; cases h)
  refine own_end (retN X0 hx (t := .boolean) hret (by simp) (hb hby d8_12) hr) hrun hended ⟨_, _, rfl, ?_, ⟨_, rfl⟩, hW, hsame.mono (by decide) (by decide)⟩
  show Q8_1 Z p1 h0 n0 _ s₁.heap _
  rw [e0]
  exact ⟨rfl, N0, rfl⟩
theorem ef9_1 (m : MethodId) (p1 : Int32) : entryFrame m #[(.int p1)] 1 = mkF m 0 #[SI p1] [] := by first | (simp [entryFrame, mkF, argsToLocals, Value.category]; done) | rfl
def Q9_1 (Z : State) (p1 : Int32) (h0 : Heap) (n0 : Nat) (v : Option Value) (h : Heap) (L : List Loc) : Prop := ∃ (b2 : Addr) (k2 : ClassId), v = some (.ref b2) ∧ Fr n0 L ∧ Keep h0 h [] ∧ h0.size ≤ b2 ∧ Arv Z h b2 k2 .byte 1 [VI (nar .byte (p1.toInt8.toInt32))] (VI 0)
set_option maxRecDepth 65536 in
set_option maxHeartbeats 40000000 in
theorem rm9_1 (l : Launch) (Z : State) (a0 : Array Value) (hw : HW a0 Z) (ws : List Jvm.Cond) (p1 : Int32) (h0 : Heap) (n0 : Nat) (Z0 : n0 ≤ h0.size) :
    MetFree l yM2 (head1 (Jvm.Cond.code yM2 jdk_43_method_46_code 1 (some (.array .byte)) :: ws) ({ frames := 0, cells := 1, slots := 1, locals := 0 } : Room)) (fun a U => a = #[(.int p1)] ∧ Z.Warmed39 U.vm ∧ U.heap = h0) (fun _ _ _ _ _ => True) (fun _ U o U' => ∃ v L, o = .returned v ∧ Q9_1 Z p1 h0 n0 v U'.heap L ∧ FrameEnd U o U' L ({ frames := 0, cells := 1, slots := 1, locals := 0 } : Room).cells ({ frames := 0, cells := 1, slots := 1, locals := 0 } : Room).slots) := by
  refine own_enter (n0 := n0) (plainFor_of_name pn8) (fun m => ef9_1 m p1) ?_
  intro p e s m below meth c s₁ hx hby hml hown hnm hret hlk X0 e0 hZ hh N0
  show own_Fin p e below _ s₁ (mkF m 0 #[SI p1] [])
  refine own_go (fun _ k => XS.iconst X0.here hx rfl (hb hby d9_0) k) ?_
  show own_Fin p e below _ s₁ (mkF m 1 #[SI p1] [VI 1])
  obtain ⟨T2, h2, k2, X2, e2, E2, A2, st2⟩ := newP X0 hx hZ (WW hw 19) e0 (g := (mkF m 1 #[SI p1] [VI 1])) rfl (hb hby d9_1) rfl (by decide) (cap := 1) (by decide) (by decide) (by decide) (by decide)
  obtain ⟨b2, g2⟩ : ∃ z, z = h0.size := ⟨_, rfl⟩
  rw [← g2] at A2 st2
  have V2 : Arv Z h2 b2 k2 .byte 1 [VI 0] (VI 0) := (Arv.new A2 (by decide)).pad (pad_rep [] (.int (0 : Int32)) 1)
  refine own_go st2 ?_
  show own_Fin p e below _ T2 (mkF m 3 #[SI p1] [VR b2])
  refine own_go (fun _ k => XS.dup X2.here hx rfl (hb hby d9_3) rfl rfl (XS.iconst X2.here hx rfl (hb hby d9_4) (XS.iloadN X2.here hx rfl (hb hby d9_5) rfl (XS.i2b X2.here hx rfl (hb hby d9_6) rfl k)))) ?_
  show own_Fin p e below _ T2 (mkF m 7 #[SI p1] [VI (p1.toInt8.toInt32), VI 0, VR b2, VR b2])
  obtain ⟨cl3, Ar3, q3, Sz3, Nn3, Hs3, Gg3⟩ := id V2
  have i4 : ¬ ((0 : Int32) < 0 ∨ cl3.slots.size ≤ ((0 : Int32)).toNatClampNeg) := inb_of Sz3 ⟨(by decide : ¬ ((0 : Int32) < (0 : Int32))), (by decide : (0 : Int32) < (1 : Int32))⟩
  obtain ⟨T5, h5, X5, e5, W5, st5⟩ := stB X2 hx hZ e2 Ar3 (j := (0 : Int32)) i4 (g := (mkF m 7 #[SI p1] [VI (p1.toInt8.toInt32), VI 0, VR b2, VR b2])) rfl rfl (hb hby d9_7)
  have u6 : n0 ≤ b2 := Nat.le_trans Z0 (Nat.le_of_eq g2.symm)
  have N5 := Fr.snoc X5 N0 u6
  have V5 : Arv Z h5 b2 k2 .byte 1 [VI (nar .byte (p1.toInt8.toInt32))] (VI 0) := Arv.set Ar3 q3 Sz3 Nn3 Hs3 Gg3 (fits_nar_byte _) W5 0 rfl (Nat.le_of_ble_eq_true rfl)
  refine own_go st5 ?_
  show own_Fin p e below _ T5 (mkF m 8 #[SI p1] [VR b2])
  have K7 : Keep h0 h5 [] := (((Keep.refl h0 []).ext E2).wr W5 (Or.inr (Nat.le_of_eq g2.symm)))
  obtain ⟨fs, hr, hrun, hended, hW, hsame⟩ := X5.leave (v := some (.ref b2)) (fun h => by rw [hret] at h; cases h)
  refine own_end (retOut X5 hx hret rfl (Or.inr (Or.inr (Or.inr (Or.inr ⟨rfl, rfl, rfl⟩)))) (hb hby d9_8) hr) hrun hended ⟨_, _, rfl, ?_, ⟨_, rfl⟩, hW, hsame.mono (by decide) (by decide)⟩
  show Q9_1 Z p1 h0 n0 _ T5.heap _
  rw [e5]
  exact ⟨b2, k2, rfl, N5, K7, (Nat.le_of_eq g2.symm), V5⟩
theorem ef10_1 (m : MethodId) (a1 : Addr) (a2 : Addr) (p3 : Int32) : entryFrame m #[(.ref a1), (.ref a2), (.int p3)] 3 = mkF m 0 #[SR a1, SR a2, SI p3] [] := by first | (simp [entryFrame, mkF, argsToLocals, Value.category]; done) | rfl
def Q10_1 (Z : State) (a1 : Addr) (a2 : Addr) (p3 : Int32) (h0 : Heap) (n0 : Nat) (v : Option Value) (h : Heap) (L : List Loc) : Prop := v = none ∧ Fr n0 L ∧ Keep h0 h [a1] ∧ Exa Z h a1 cC0 ∧ Fld Z h a1 cC0 "value" "[B" (VR a2) ∧ Fld Z h a1 cC0 "coder" "B" (VI (nar .byte p3))
set_option maxRecDepth 65536 in
set_option maxHeartbeats 40000000 in
theorem rm10_1 (l : Launch) (Z : State) (a0 : Array Value) (hw : HW a0 Z) (ws : List Jvm.Cond) (a1 : Addr) (a2 : Addr) (p3 : Int32) (h0 : Heap) (n0 : Nat) (Z0 : n0 ≤ h0.size) (f5 : Exa Z h0 a1 cC0) (f6 : Fld Z h0 a1 cC0 "value" "[B" (.null)) (f8 : n0 ≤ a1) (f10 : Fld Z h0 a1 cC0 "coder" "B" (VI 0)) :
    MetFree l yM3 (head1 (Jvm.Cond.code yM3 jdk_42_method_151_code 3 none :: ws) ({ frames := 1, cells := 0, slots := 0, locals := 12 } : Room)) (fun a U => a = #[(.ref a1), (.ref a2), (.int p3)] ∧ Z.Warmed39 U.vm ∧ U.heap = h0) (fun _ _ _ _ _ => True) (fun _ U o U' => ∃ v L, o = .returned v ∧ Q10_1 Z a1 a2 p3 h0 n0 v U'.heap L ∧ FrameEnd U o U' L ({ frames := 1, cells := 0, slots := 0, locals := 12 } : Room).cells ({ frames := 1, cells := 0, slots := 0, locals := 12 } : Room).slots) := by
  refine own_enter (n0 := n0) (plainFor_of_name pn1) (fun m => ef10_1 m a1 a2 p3) ?_
  intro p e s m below meth c s₁ hx hby hml hown hnm hret hlk X0 e0 hZ hh N0
  show own_Fin p e below _ s₁ (mkF m 0 #[SR a1, SR a2, SI p3] [])
  refine own_go (fun _ k => XS.aloadN X0.here hx rfl (hb hby d10_0) rfl rfl k) ?_
  show own_Fin p e below _ s₁ (mkF m 1 #[SR a1, SR a2, SI p3] [VR a1])
  obtain ⟨T4, X4, e4, st4⟩ := initO X0 hx hZ hown (WW hw 11) (WW hw 12) (WW hw 13) e0 (g := (mkF m 1 #[SR a1, SR a2, SI p3] [VR a1])) rfl (by rw [hml]; rfl) rfl (hb hby d10_1) (by decide) (W := 0) (by show 2 * 0 + _ ≤ _; exact Nat.le_of_eq rfl) (by decide)
  refine own_go st4 ?_
  show own_Fin p e below _ T4 (mkF m 4 #[SR a1, SR a2, SI p3] [])
  refine own_go (fun _ k => XS.aloadN X4.here hx rfl (hb hby d10_4) rfl rfl (XS.aloadN X4.here hx rfl (hb hby d10_5) rfl rfl k)) ?_
  show own_Fin p e below _ T4 (mkF m 6 #[SR a1, SR a2, SI p3] [VR a2, VR a1])
  obtain ⟨T7, h7, X7, e7, W7, st7⟩ := putF X4 hx hZ hown (host := "") (Or.inl (WW hw 28)) Via.refl e4 f6 f5 (Or.inr ⟨(WW hw 29), rfl, hnm⟩) (WW hw 2) (ty := (.array .byte)) (by decide) rfl rfl (g := (mkF m 6 #[SR a1, SR a2, SI p3] [VR a2, VR a1])) rfl rfl (hb hby d10_6)
  have N7 := Fr.snoc X7 N0 f8
  have Fw7 : Fld Z h7 a1 cC0 "value" "[B" (VR a2) := f6.same W7
  refine own_go st7 ?_
  show own_Fin p e below _ T7 (mkF m 9 #[SR a1, SR a2, SI p3] [])
  refine own_go (fun _ k => XS.aloadN X7.here hx rfl (hb hby d10_9) rfl rfl (XS.iloadN X7.here hx rfl (hb hby d10_10) rfl k)) ?_
  show own_Fin p e below _ T7 (mkF m 11 #[SR a1, SR a2, SI p3] [VI p3, VR a1])
  have F9 : Exa Z h7 a1 cC0 := (f5.wr W7)
  have F11 : Fld Z h7 a1 cC0 "coder" "B" (VI 0) := (f10.other W7 (Or.inr (slot_ne (Or.inr (WW hw 27)) (Or.inr (WW hw 29)) (by decide) (t := .byte) (t' := (.array .byte)) (by decide) (by decide))))
  obtain ⟨T12, h12, X12, e12, W12, st12⟩ := putFN X7 hx hZ hown (WW hw 26) Via.refl e7 F11 F9 (Or.inr ⟨(WW hw 27), rfl, hnm⟩) (WW hw 2) (ty := .byte) (v' := (.int (nar .byte p3))) (by decide) rfl (fits_nar_byte _) (g := (mkF m 11 #[SR a1, SR a2, SI p3] [VI p3, VR a1])) rfl rfl (hb hby d10_11)
  have N12 := Fr.snoc X12 N7 f8
  have Fw12 : Fld Z h12 a1 cC0 "coder" "B" (VI (nar .byte p3)) := F11.same W12
  refine own_go st12 ?_
  show own_Fin p e below _ T12 (mkF m 14 #[SR a1, SR a2, SI p3] [])
  have F13 : Exa Z h12 a1 cC0 := (F9.wr W12)
  have F14 : Fld Z h12 a1 cC0 "value" "[B" (VR a2) := (Fw7.other W12 (Or.inr (slot_ne (Or.inr (WW hw 29)) (Or.inr (WW hw 27)) (by decide) (t := (.array .byte)) (t' := .byte) (by decide) (by decide))))
  have K15 : Keep h0 h12 [a1] := (((Keep.refl h0 [a1]).wr W7 (Or.inl (List.mem_of_getElem? (i := 0) rfl))).wr W12 (Or.inl (List.mem_of_getElem? (i := 0) rfl)))
  obtain ⟨fs, hr, hrun, hended, hW, hsame⟩ := X12.leave (v := none) (fun _ => rfl)
  refine own_end (X12.returnOut hx hret (hb hby d10_14) hr) hrun hended ⟨_, _, rfl, ?_, ⟨_, rfl⟩, hW, hsame.mono (by decide) (by decide)⟩
  show Q10_1 Z a1 a2 p3 h0 n0 _ T12.heap _
  rw [e12]
  exact ⟨rfl, N12, K15, F13, F14, Fw12⟩
theorem ef7_1 (m : MethodId) (p1 : Int32) : entryFrame m #[(.int p1)] 1 = mkF m 0 #[SI p1] [] := by first | (simp [entryFrame, mkF, argsToLocals, Value.category]; done) | rfl
def Q7_1 (Z : State) (p1 : Int32) (p2 : Int32) (h0 : Heap) (n0 : Nat) (v : Option Value) (h : Heap) (L : List Loc) : Prop := ∃ (b9 : Addr) (b2_12 : Addr) (k2_12 : ClassId), v = some (.ref b9) ∧ Fr n0 L ∧ Keep h0 h [] ∧ h0.size ≤ b9 ∧ h0.size ≤ b2_12 ∧ b9 ≠ b2_12 ∧ Exa Z h b9 cC0 ∧ Fld Z h b9 cC0 "value" "[B" (VR b2_12) ∧ Fld Z h b9 cC0 "coder" "B" (VI 0) ∧ Arv Z h b2_12 k2_12 .byte 1 [VI (nar .byte (p1.toInt8.toInt32))] (VI 0)
set_option maxRecDepth 65536 in
set_option maxHeartbeats 40000000 in
theorem rm7_1 (l : Launch) (Z : State) (a0 : Array Value) (hw : HW a0 Z) (ws : List Jvm.Cond) (p1 : Int32) (p2 : Int32) (h0 : Heap) (n0 : Nat) (Z0 : n0 ≤ h0.size) (f3 : Sta Z Z.heap "java/lang/String" "COMPACT_STRINGS" "Z" (.int p2)) (f4 : Old Z n0 h0) (f6 : ¬ (p2 = (0 : Int32))) (f7 : ¬ ((255 : Int32) < p1)) :
    MetFree l yM4 (head1 (Jvm.Cond.code yM4 jdk_42_method_139_code 1 (some (.object "java/lang/String")) :: ws) ({ frames := 2, cells := 2, slots := 5, locals := 27 } : Room)) (fun a U => a = #[(.int p1)] ∧ Z.Warmed39 U.vm ∧ U.heap = h0) (fun _ _ _ _ _ => True) (fun _ U o U' => ∃ v L, o = .returned v ∧ Q7_1 Z p1 p2 h0 n0 v U'.heap L ∧ FrameEnd U o U' L ({ frames := 2, cells := 2, slots := 5, locals := 27 } : Room).cells ({ frames := 2, cells := 2, slots := 5, locals := 27 } : Room).slots) := by
  refine own_enter (n0 := n0) (plainFor_of_name pn1) (fun m => ef7_1 m p1) ?_
  intro p e s m below meth c s₁ hx hby hml hown hnm hret hlk X0 e0 hZ hh N0
  show own_Fin p e below _ s₁ (mkF m 0 #[SI p1] [])
  obtain ⟨T5, X5, e5, st5⟩ := getS2 X0 hx hZ hown (host := "") (Or.inl (WW hw 14)) Via.refl e0 (f3.ext f4.2) (g := (mkF m 0 #[SI p1] [])) rfl (hb hby d7_0)
  refine own_go st5 ?_
  show own_Fin p e below _ T5 (mkF m 3 #[SI p1] [VI p2])
  refine own_go (fun _ k => XS.ifNo X5.here hx rfl (hb hby d7_3) rfl ((if0 _ _).trans (feq f6).1) (XS.iloadN X5.here hx rfl (hb hby d7_6) rfl k)) ?_
  show own_Fin p e below _ T5 (mkF m 7 #[SI p1] [VI p1])
  obtain ⟨_, T8, L8, X8, hQ8, st8⟩ := own_cS X5 hx hZ hown (WW hw 33) (WW hw 34) (WW hw 35) (WW hw 36) (rm8_1 l Z a0 hw [] p1 h0 n0 Z0 f7) e5 hml (g := (mkF m 7 #[SI p1] [VI p1])) pd1 (hb hby d7_7) [VI p1] [] (W := 0)
  obtain ⟨rfl, N8q, e8⟩ := hQ8
  have N8 := Fr.app N0 N8q
  refine own_go st8 ?_
  show own_Fin p e below _ T8 (mkF m 10 #[SI p1] [VI 1])
  refine own_go (fun _ k => XS.ifNo X8.here hx rfl (hb hby d7_10) rfl ((if0 _ _).trans (feq (by decide : ¬ ((1 : Int32) = (0 : Int32)))).1) k) ?_
  show own_Fin p e below _ T8 (mkF m 13 #[SI p1] [])
  obtain ⟨T9, h9, X9, e9, E9, A9, D9, -, st9⟩ := newO X8 hx hZ hown (WW hw 37) (WW hw 2) (WW hw 3) e8 (g := (mkF m 13 #[SI p1] [])) rfl (hb hby d7_13) (by decide) (by decide)
  obtain ⟨b9, g9⟩ : ∃ z, z = h0.size := ⟨_, rfl⟩
  rw [← g9] at A9 D9 st9
  have F10 : Fld Z h9 b9 cC0 "coder" "B" (VI 0) := D9 (Or.inr (WW hw 27)) (ty := .byte) (by decide)
  have F11 : Fld Z h9 b9 cC0 "value" "[B" (.null) := D9 (Or.inr (WW hw 29)) (ty := (.array .byte)) (by decide)
  refine own_go st9 ?_
  show own_Fin p e below _ T9 (mkF m 16 #[SI p1] [VR b9])
  refine own_go (fun _ k => XS.dup X9.here hx rfl (hb hby d7_16) rfl rfl (XS.iloadN X9.here hx rfl (hb hby d7_17) rfl k)) ?_
  show own_Fin p e below _ T9 (mkF m 18 #[SI p1] [VI p1, VR b9, VR b9])
  have z13 : h0.size ≤ h9.size := E9.1
  obtain ⟨_, T12, L12, X12, hQ12, st12⟩ := own_cS X9 hx hZ hown (WW hw 38) (WW hw 39) (WW hw 35) (WW hw 40) (rm9_1 l Z a0 hw [] p1 h9 n0 (Nat.le_trans Z0 z13) ) e9 hml (g := (mkF m 18 #[SI p1] [VI p1, VR b9, VR b9])) pd2 (hb hby d7_18) [VI p1] [VR b9, VR b9] (W := 2)
  obtain ⟨b2_12, k2_12, rfl, N12q, K12, lob2_12, o0_12⟩ := hQ12
  have N12 := Fr.app N8 N12q
  refine own_go st12 ?_
  show own_Fin p e below _ T12 (mkF m 21 #[SI p1] [VR b2_12, VR b9, VR b9])
  refine own_go (fun _ k => XS.iconst X12.here hx rfl (hb hby d7_21) k) ?_
  show own_Fin p e below _ T12 (mkF m 22 #[SI p1] [VI 0, VR b2_12, VR b9, VR b9])
  have F14 : Exa Z T12.heap b9 cC0 := (A9.keep K12)
  have F15 : Fld Z T12.heap b9 cC0 "value" "[B" (.null) := (F11.keep K12 nin0)
  have u16 : n0 ≤ b9 := Nat.le_trans Z0 (Nat.le_of_eq g9.symm)
  have F17 : Fld Z T12.heap b9 cC0 "coder" "B" (VI 0) := (F10.keep K12 nin0)
  have z19 : h0.size ≤ T12.heap.size := Nat.le_trans z13 K12.1
  obtain ⟨_, T18, L18, X18, hQ18, st18⟩ := own_cI X12 hx hZ hown (WW hw 41) (WW hw 42) (WW hw 3) (WW hw 43) (rm10_1 l Z a0 hw [] b9 b2_12 (0 : Int32) T12.heap n0 (Nat.le_trans Z0 z19) F14 F15 u16 F17) rfl hml (g := (mkF m 22 #[SI p1] [VI 0, VR b2_12, VR b9, VR b9])) pd3 (hb hby d7_22) b9 [VR b2_12, VI 0] [VR b9] (W := 1)
  obtain ⟨rfl, N18q, K18, o0_18, o1_18, o2_18⟩ := hQ18
  have N18 := Fr.app N12 N18q
  refine own_go st18 ?_
  show own_Fin p e below _ T18 (mkF m 25 #[SI p1] [VR b9])
  have v20 : b9 ≠ b2_12 := Nat.ne_of_lt (Nat.lt_of_lt_of_le A9.lt lob2_12)
  have F21 : Arv Z T18.heap b2_12 k2_12 .byte 1 [VI (nar .byte (p1.toInt8.toInt32))] (VI 0) := (o0_12.keep K18 (ninS (Ne.symm v20) nin0))
  have K22 : Keep h0 T18.heap [] := ((((Keep.refl h0 []).ext E9).trans K12 all0).trans K18 (allS (Or.inr (Nat.le_of_eq g9.symm)) all0))
  obtain ⟨fs, hr, hrun, hended, hW, hsame⟩ := X18.leave (v := some (.ref b9)) (fun h => by rw [hret] at h; cases h)
  refine own_end (retOut X18 hx hret rfl (Or.inr (Or.inr (Or.inr (Or.inr ⟨rfl, rfl, rfl⟩)))) (hb hby d7_25) hr) hrun hended ⟨_, _, rfl, ?_, ⟨_, rfl⟩, hW, hsame.mono (by decide) (by decide)⟩
  show Q7_1 Z p1 p2 h0 n0 _ T18.heap _
  exact ⟨b9, b2_12, k2_12, rfl, N18, K22, (Nat.le_of_eq g9.symm), (Nat.le_trans z13 lob2_12), v20, o0_18, o1_18, o2_18, F21⟩
theorem ef12_1 (m : MethodId) (a1 : Addr) : entryFrame m #[(.ref a1)] 1 = mkF m 0 #[SR a1] [] := by first | (simp [entryFrame, mkF, argsToLocals, Value.category]; done) | rfl
def Q12_1 (Z : State) (a1 : Addr) (h0 : Heap) (n0 : Nat) (v : Option Value) (h : Heap) (L : List Loc) : Prop := v = none ∧ Fr n0 L ∧ h = h0
set_option maxRecDepth 65536 in
set_option maxHeartbeats 40000000 in
theorem rm12_1 (l : Launch) (Z : State) (a0 : Array Value) (hw : HW a0 Z) (ws : List Jvm.Cond) (a1 : Addr) (h0 : Heap) (n0 : Nat) (Z0 : n0 ≤ h0.size) :
    MetFree l yM5 (head1 (Jvm.Cond.code yM5 jdk_30_method_1_code 1 none :: ws) ({ frames := 1, cells := 0, slots := 0, locals := 12 } : Room)) (fun a U => a = #[(.ref a1)] ∧ Z.Warmed39 U.vm ∧ U.heap = h0) (fun _ _ _ _ _ => True) (fun _ U o U' => ∃ v L, o = .returned v ∧ Q12_1 Z a1 h0 n0 v U'.heap L ∧ FrameEnd U o U' L ({ frames := 1, cells := 0, slots := 0, locals := 12 } : Room).cells ({ frames := 1, cells := 0, slots := 0, locals := 12 } : Room).slots) := by
  refine own_enter (n0 := n0) (plainFor_of_name pn12) (fun m => ef12_1 m a1) ?_
  intro p e s m below meth c s₁ hx hby hml hown hnm hret hlk X0 e0 hZ hh N0
  show own_Fin p e below _ s₁ (mkF m 0 #[SR a1] [])
  refine own_go (fun _ k => XS.aloadN X0.here hx rfl (hb hby d12_0) rfl rfl k) ?_
  show own_Fin p e below _ s₁ (mkF m 1 #[SR a1] [VR a1])
  obtain ⟨T2, X2, e2, st2⟩ := initO X0 hx hZ hown (WW hw 55) (WW hw 12) (WW hw 13) e0 (g := (mkF m 1 #[SR a1] [VR a1])) rfl (by rw [hml]; rfl) rfl (hb hby d12_1) (by decide) (W := 0) (by show 2 * 0 + _ ≤ _; exact Nat.le_of_eq rfl) (by decide)
  refine own_go st2 ?_
  show own_Fin p e below _ T2 (mkF m 4 #[SR a1] [])
  obtain ⟨fs, hr, hrun, hended, hW, hsame⟩ := X2.leave (v := none) (fun _ => rfl)
  refine own_end (X2.returnOut hx hret (hb hby d12_4) hr) hrun hended ⟨_, _, rfl, ?_, ⟨_, rfl⟩, hW, hsame.mono (by decide) (by decide)⟩
  show Q12_1 Z a1 h0 n0 _ T2.heap _
  rw [e2]
  exact ⟨rfl, N0, rfl⟩
theorem ef11_1 (m : MethodId) (a1 : Addr) (p2 : Int32) (p3 : Int32) (a4 : Addr) (p5 : Int32) (a6 : Addr) (p7 : Int32) : entryFrame m #[(.ref a1), (.int p2), (.int p3), (.ref a4), (.int p5), (.ref a6), (.int p7)] 7 = mkF m 0 #[SR a1, SI p2, SI p3, SR a4, SI p5, SR a6, SI p7] [] := by first | (simp [entryFrame, mkF, argsToLocals, Value.category]; done) | rfl
def Q11_1 (Z : State) (a1 : Addr) (p2 : Int32) (p3 : Int32) (a4 : Addr) (p5 : Int32) (a6 : Addr) (p7 : Int32) (h0 : Heap) (n0 : Nat) (v : Option Value) (h : Heap) (L : List Loc) : Prop := v = none ∧ Fr n0 L ∧ Keep h0 h [a1] ∧ Exa Z h a1 cC2 ∧ Fld Z h a1 cC2 "number" "I" (VI p2) ∧ Fld Z h a1 cC2 "misread" "I" (VI p3) ∧ Fld Z h a1 cC2 "printed" cC3 (VR a4) ∧ Fld Z h a1 cC2 "line" "I" (VI p5) ∧ Fld Z h a1 cC2 "title" cC3 (VR a6) ∧ Fld Z h a1 cC2 "headingLines" "I" (VI p7)
set_option maxRecDepth 65536 in
set_option maxHeartbeats 40000000 in
theorem rm11_1 (l : Launch) (Z : State) (a0 : Array Value) (hw : HW a0 Z) (ws : List Jvm.Cond) (a1 : Addr) (p2 : Int32) (p3 : Int32) (a4 : Addr) (p5 : Int32) (a6 : Addr) (p7 : Int32) (h0 : Heap) (n0 : Nat) (Z0 : n0 ≤ h0.size) (f9 : Exa Z h0 a1 cC2) (f10 : Fld Z h0 a1 cC2 "number" "I" (VI 0)) (f12 : n0 ≤ a1) (f14 : Fld Z h0 a1 cC2 "misread" "I" (VI 0)) (f18 : Fld Z h0 a1 cC2 "printed" cC3 (.null)) (f22 : Fld Z h0 a1 cC2 "line" "I" (VI 0)) (f26 : Fld Z h0 a1 cC2 "title" cC3 (.null)) (f30 : Fld Z h0 a1 cC2 "headingLines" "I" (VI 0)) :
    MetFree l yM6 (head1 (Jvm.Cond.code yM6 prog_86_method_1_code 7 none :: ws) ({ frames := 2, cells := 0, slots := 0, locals := 24 } : Room)) (fun a U => a = #[(.ref a1), (.int p2), (.int p3), (.ref a4), (.int p5), (.ref a6), (.int p7)] ∧ Z.Warmed39 U.vm ∧ U.heap = h0) (fun _ _ _ _ _ => True) (fun _ U o U' => ∃ v L, o = .returned v ∧ Q11_1 Z a1 p2 p3 a4 p5 a6 p7 h0 n0 v U'.heap L ∧ FrameEnd U o U' L ({ frames := 2, cells := 0, slots := 0, locals := 24 } : Room).cells ({ frames := 2, cells := 0, slots := 0, locals := 24 } : Room).slots) := by
  refine own_enter (n0 := n0) (plainFor_of_name pn11) (fun m => ef11_1 m a1 p2 p3 a4 p5 a6 p7) ?_
  intro p e s m below meth c s₁ hx hby hml hown hnm hret hlk X0 e0 hZ hh N0
  show own_Fin p e below _ s₁ (mkF m 0 #[SR a1, SI p2, SI p3, SR a4, SI p5, SR a6, SI p7] [])
  refine own_go (fun _ k => XS.aloadN X0.here hx rfl (hb hby d11_0) rfl rfl k) ?_
  show own_Fin p e below _ s₁ (mkF m 1 #[SR a1, SI p2, SI p3, SR a4, SI p5, SR a6, SI p7] [VR a1])
  obtain ⟨_, T8, L8, X8, hQ8, st8⟩ := own_cI X0 hx hZ hown (WW hw 50) (WW hw 51) (WW hw 53) (WW hw 54) (rm12_1 l Z a0 hw [] a1 h0 n0 Z0 ) e0 hml (g := (mkF m 1 #[SR a1, SI p2, SI p3, SR a4, SI p5, SR a6, SI p7] [VR a1])) pd5 (hb hby d11_1) a1 [] [] (W := 0)
  obtain ⟨rfl, N8q, e8⟩ := hQ8
  have N8 := Fr.app N0 N8q
  refine own_go st8 ?_
  show own_Fin p e below _ T8 (mkF m 4 #[SR a1, SI p2, SI p3, SR a4, SI p5, SR a6, SI p7] [])
  refine own_go (fun _ k => XS.aloadN X8.here hx rfl (hb hby d11_4) rfl rfl (XS.iloadN X8.here hx rfl (hb hby d11_5) rfl k)) ?_
  show own_Fin p e below _ T8 (mkF m 6 #[SR a1, SI p2, SI p3, SR a4, SI p5, SR a6, SI p7] [VI p2, VR a1])
  obtain ⟨T11, h11, X11, e11, W11, st11⟩ := putF X8 hx hZ hown (host := "") (Or.inl (WW hw 56)) Via.refl e8 f10 f9 (Or.inr ⟨(WW hw 57), rfl, hnm⟩) (WW hw 45) (ty := .int) (by decide) rfl rfl (g := (mkF m 6 #[SR a1, SI p2, SI p3, SR a4, SI p5, SR a6, SI p7] [VI p2, VR a1])) rfl rfl (hb hby d11_6)
  have N11 := Fr.snoc X11 N8 f12
  have Fw11 : Fld Z h11 a1 cC2 "number" "I" (VI p2) := f10.same W11
  refine own_go st11 ?_
  show own_Fin p e below _ T11 (mkF m 9 #[SR a1, SI p2, SI p3, SR a4, SI p5, SR a6, SI p7] [])
  refine own_go (fun _ k => XS.aloadN X11.here hx rfl (hb hby d11_9) rfl rfl (XS.iloadN X11.here hx rfl (hb hby d11_10) rfl k)) ?_
  show own_Fin p e below _ T11 (mkF m 11 #[SR a1, SI p2, SI p3, SR a4, SI p5, SR a6, SI p7] [VI p3, VR a1])
  have F13 : Exa Z h11 a1 cC2 := (f9.wr W11)
  have F15 : Fld Z h11 a1 cC2 "misread" "I" (VI 0) := (f14.other W11 (Or.inr (slot_ne (Or.inr (WW hw 59)) (Or.inr (WW hw 57)) (by decide) (t := .int) (t' := .int) (by decide) (by decide))))
  obtain ⟨T16, h16, X16, e16, W16, st16⟩ := putF X11 hx hZ hown (host := "") (Or.inl (WW hw 58)) Via.refl e11 F15 F13 (Or.inr ⟨(WW hw 59), rfl, hnm⟩) (WW hw 45) (ty := .int) (by decide) rfl rfl (g := (mkF m 11 #[SR a1, SI p2, SI p3, SR a4, SI p5, SR a6, SI p7] [VI p3, VR a1])) rfl rfl (hb hby d11_11)
  have N16 := Fr.snoc X16 N11 f12
  have Fw16 : Fld Z h16 a1 cC2 "misread" "I" (VI p3) := F15.same W16
  refine own_go st16 ?_
  show own_Fin p e below _ T16 (mkF m 14 #[SR a1, SI p2, SI p3, SR a4, SI p5, SR a6, SI p7] [])
  refine own_go (fun _ k => XS.aloadN X16.here hx rfl (hb hby d11_14) rfl rfl (XS.aloadN X16.here hx rfl (hb hby d11_15) rfl rfl k)) ?_
  show own_Fin p e below _ T16 (mkF m 16 #[SR a1, SI p2, SI p3, SR a4, SI p5, SR a6, SI p7] [VR a4, VR a1])
  have F17 : Exa Z h16 a1 cC2 := (F13.wr W16)
  have F19 : Fld Z h16 a1 cC2 "printed" cC3 (.null) := ((f18.other W11 (Or.inr (slot_ne (Or.inr (WW hw 61)) (Or.inr (WW hw 57)) (by decide) (t := (.object "java/lang/String")) (t' := .int) (by decide) (by decide)))).other W16 (Or.inr (slot_ne (Or.inr (WW hw 61)) (Or.inr (WW hw 59)) (by decide) (t := (.object "java/lang/String")) (t' := .int) (by decide) (by decide))))
  obtain ⟨T20, h20, X20, e20, W20, st20⟩ := putF X16 hx hZ hown (host := "") (Or.inl (WW hw 60)) Via.refl e16 F19 F17 (Or.inr ⟨(WW hw 61), rfl, hnm⟩) (WW hw 45) (ty := (.object "java/lang/String")) (by decide) rfl rfl (g := (mkF m 16 #[SR a1, SI p2, SI p3, SR a4, SI p5, SR a6, SI p7] [VR a4, VR a1])) rfl rfl (hb hby d11_16)
  have N20 := Fr.snoc X20 N16 f12
  have Fw20 : Fld Z h20 a1 cC2 "printed" cC3 (VR a4) := F19.same W20
  refine own_go st20 ?_
  show own_Fin p e below _ T20 (mkF m 19 #[SR a1, SI p2, SI p3, SR a4, SI p5, SR a6, SI p7] [])
  refine own_go (fun _ k => XS.aloadN X20.here hx rfl (hb hby d11_19) rfl rfl (XS.iload X20.here hx rfl (hb hby d11_20) rfl k)) ?_
  show own_Fin p e below _ T20 (mkF m 22 #[SR a1, SI p2, SI p3, SR a4, SI p5, SR a6, SI p7] [VI p5, VR a1])
  have F21 : Exa Z h20 a1 cC2 := (F17.wr W20)
  have F23 : Fld Z h20 a1 cC2 "line" "I" (VI 0) := (((f22.other W11 (Or.inr (slot_ne (Or.inr (WW hw 63)) (Or.inr (WW hw 57)) (by decide) (t := .int) (t' := .int) (by decide) (by decide)))).other W16 (Or.inr (slot_ne (Or.inr (WW hw 63)) (Or.inr (WW hw 59)) (by decide) (t := .int) (t' := .int) (by decide) (by decide)))).other W20 (Or.inr (slot_ne (Or.inr (WW hw 63)) (Or.inr (WW hw 61)) (by decide) (t := .int) (t' := (.object "java/lang/String")) (by decide) (by decide))))
  obtain ⟨T24, h24, X24, e24, W24, st24⟩ := putF X20 hx hZ hown (host := "") (Or.inl (WW hw 62)) Via.refl e20 F23 F21 (Or.inr ⟨(WW hw 63), rfl, hnm⟩) (WW hw 45) (ty := .int) (by decide) rfl rfl (g := (mkF m 22 #[SR a1, SI p2, SI p3, SR a4, SI p5, SR a6, SI p7] [VI p5, VR a1])) rfl rfl (hb hby d11_22)
  have N24 := Fr.snoc X24 N20 f12
  have Fw24 : Fld Z h24 a1 cC2 "line" "I" (VI p5) := F23.same W24
  refine own_go st24 ?_
  show own_Fin p e below _ T24 (mkF m 25 #[SR a1, SI p2, SI p3, SR a4, SI p5, SR a6, SI p7] [])
  refine own_go (fun _ k => XS.aloadN X24.here hx rfl (hb hby d11_25) rfl rfl (XS.aload X24.here hx rfl (hb hby d11_26) rfl rfl k)) ?_
  show own_Fin p e below _ T24 (mkF m 28 #[SR a1, SI p2, SI p3, SR a4, SI p5, SR a6, SI p7] [VR a6, VR a1])
  have F25 : Exa Z h24 a1 cC2 := (F21.wr W24)
  have F27 : Fld Z h24 a1 cC2 "title" cC3 (.null) := ((((f26.other W11 (Or.inr (slot_ne (Or.inr (WW hw 65)) (Or.inr (WW hw 57)) (by decide) (t := (.object "java/lang/String")) (t' := .int) (by decide) (by decide)))).other W16 (Or.inr (slot_ne (Or.inr (WW hw 65)) (Or.inr (WW hw 59)) (by decide) (t := (.object "java/lang/String")) (t' := .int) (by decide) (by decide)))).other W20 (Or.inr (slot_ne (Or.inr (WW hw 65)) (Or.inr (WW hw 61)) (by decide) (t := (.object "java/lang/String")) (t' := (.object "java/lang/String")) (by decide) (by decide)))).other W24 (Or.inr (slot_ne (Or.inr (WW hw 65)) (Or.inr (WW hw 63)) (by decide) (t := (.object "java/lang/String")) (t' := .int) (by decide) (by decide))))
  obtain ⟨T28, h28, X28, e28, W28, st28⟩ := putF X24 hx hZ hown (host := "") (Or.inl (WW hw 64)) Via.refl e24 F27 F25 (Or.inr ⟨(WW hw 65), rfl, hnm⟩) (WW hw 45) (ty := (.object "java/lang/String")) (by decide) rfl rfl (g := (mkF m 28 #[SR a1, SI p2, SI p3, SR a4, SI p5, SR a6, SI p7] [VR a6, VR a1])) rfl rfl (hb hby d11_28)
  have N28 := Fr.snoc X28 N24 f12
  have Fw28 : Fld Z h28 a1 cC2 "title" cC3 (VR a6) := F27.same W28
  refine own_go st28 ?_
  show own_Fin p e below _ T28 (mkF m 31 #[SR a1, SI p2, SI p3, SR a4, SI p5, SR a6, SI p7] [])
  refine own_go (fun _ k => XS.aloadN X28.here hx rfl (hb hby d11_31) rfl rfl (XS.iload X28.here hx rfl (hb hby d11_32) rfl k)) ?_
  show own_Fin p e below _ T28 (mkF m 34 #[SR a1, SI p2, SI p3, SR a4, SI p5, SR a6, SI p7] [VI p7, VR a1])
  have F29 : Exa Z h28 a1 cC2 := (F25.wr W28)
  have F31 : Fld Z h28 a1 cC2 "headingLines" "I" (VI 0) := (((((f30.other W11 (Or.inr (slot_ne (Or.inr (WW hw 67)) (Or.inr (WW hw 57)) (by decide) (t := .int) (t' := .int) (by decide) (by decide)))).other W16 (Or.inr (slot_ne (Or.inr (WW hw 67)) (Or.inr (WW hw 59)) (by decide) (t := .int) (t' := .int) (by decide) (by decide)))).other W20 (Or.inr (slot_ne (Or.inr (WW hw 67)) (Or.inr (WW hw 61)) (by decide) (t := .int) (t' := (.object "java/lang/String")) (by decide) (by decide)))).other W24 (Or.inr (slot_ne (Or.inr (WW hw 67)) (Or.inr (WW hw 63)) (by decide) (t := .int) (t' := .int) (by decide) (by decide)))).other W28 (Or.inr (slot_ne (Or.inr (WW hw 67)) (Or.inr (WW hw 65)) (by decide) (t := .int) (t' := (.object "java/lang/String")) (by decide) (by decide))))
  obtain ⟨T32, h32, X32, e32, W32, st32⟩ := putF X28 hx hZ hown (host := "") (Or.inl (WW hw 66)) Via.refl e28 F31 F29 (Or.inr ⟨(WW hw 67), rfl, hnm⟩) (WW hw 45) (ty := .int) (by decide) rfl rfl (g := (mkF m 34 #[SR a1, SI p2, SI p3, SR a4, SI p5, SR a6, SI p7] [VI p7, VR a1])) rfl rfl (hb hby d11_34)
  have N32 := Fr.snoc X32 N28 f12
  have Fw32 : Fld Z h32 a1 cC2 "headingLines" "I" (VI p7) := F31.same W32
  refine own_go st32 ?_
  show own_Fin p e below _ T32 (mkF m 37 #[SR a1, SI p2, SI p3, SR a4, SI p5, SR a6, SI p7] [])
  have F33 : Exa Z h32 a1 cC2 := (F29.wr W32)
  have F34 : Fld Z h32 a1 cC2 "number" "I" (VI p2) := (((((Fw11.other W16 (Or.inr (slot_ne (Or.inr (WW hw 57)) (Or.inr (WW hw 59)) (by decide) (t := .int) (t' := .int) (by decide) (by decide)))).other W20 (Or.inr (slot_ne (Or.inr (WW hw 57)) (Or.inr (WW hw 61)) (by decide) (t := .int) (t' := (.object "java/lang/String")) (by decide) (by decide)))).other W24 (Or.inr (slot_ne (Or.inr (WW hw 57)) (Or.inr (WW hw 63)) (by decide) (t := .int) (t' := .int) (by decide) (by decide)))).other W28 (Or.inr (slot_ne (Or.inr (WW hw 57)) (Or.inr (WW hw 65)) (by decide) (t := .int) (t' := (.object "java/lang/String")) (by decide) (by decide)))).other W32 (Or.inr (slot_ne (Or.inr (WW hw 57)) (Or.inr (WW hw 67)) (by decide) (t := .int) (t' := .int) (by decide) (by decide))))
  have F35 : Fld Z h32 a1 cC2 "misread" "I" (VI p3) := ((((Fw16.other W20 (Or.inr (slot_ne (Or.inr (WW hw 59)) (Or.inr (WW hw 61)) (by decide) (t := .int) (t' := (.object "java/lang/String")) (by decide) (by decide)))).other W24 (Or.inr (slot_ne (Or.inr (WW hw 59)) (Or.inr (WW hw 63)) (by decide) (t := .int) (t' := .int) (by decide) (by decide)))).other W28 (Or.inr (slot_ne (Or.inr (WW hw 59)) (Or.inr (WW hw 65)) (by decide) (t := .int) (t' := (.object "java/lang/String")) (by decide) (by decide)))).other W32 (Or.inr (slot_ne (Or.inr (WW hw 59)) (Or.inr (WW hw 67)) (by decide) (t := .int) (t' := .int) (by decide) (by decide))))
  have F36 : Fld Z h32 a1 cC2 "printed" cC3 (VR a4) := (((Fw20.other W24 (Or.inr (slot_ne (Or.inr (WW hw 61)) (Or.inr (WW hw 63)) (by decide) (t := (.object "java/lang/String")) (t' := .int) (by decide) (by decide)))).other W28 (Or.inr (slot_ne (Or.inr (WW hw 61)) (Or.inr (WW hw 65)) (by decide) (t := (.object "java/lang/String")) (t' := (.object "java/lang/String")) (by decide) (by decide)))).other W32 (Or.inr (slot_ne (Or.inr (WW hw 61)) (Or.inr (WW hw 67)) (by decide) (t := (.object "java/lang/String")) (t' := .int) (by decide) (by decide))))
  have F37 : Fld Z h32 a1 cC2 "line" "I" (VI p5) := ((Fw24.other W28 (Or.inr (slot_ne (Or.inr (WW hw 63)) (Or.inr (WW hw 65)) (by decide) (t := .int) (t' := (.object "java/lang/String")) (by decide) (by decide)))).other W32 (Or.inr (slot_ne (Or.inr (WW hw 63)) (Or.inr (WW hw 67)) (by decide) (t := .int) (t' := .int) (by decide) (by decide))))
  have F38 : Fld Z h32 a1 cC2 "title" cC3 (VR a6) := (Fw28.other W32 (Or.inr (slot_ne (Or.inr (WW hw 65)) (Or.inr (WW hw 67)) (by decide) (t := (.object "java/lang/String")) (t' := .int) (by decide) (by decide))))
  have K39 : Keep h0 h32 [a1] := (((((((Keep.refl h0 [a1]).wr W11 (Or.inl (List.mem_of_getElem? (i := 0) rfl))).wr W16 (Or.inl (List.mem_of_getElem? (i := 0) rfl))).wr W20 (Or.inl (List.mem_of_getElem? (i := 0) rfl))).wr W24 (Or.inl (List.mem_of_getElem? (i := 0) rfl))).wr W28 (Or.inl (List.mem_of_getElem? (i := 0) rfl))).wr W32 (Or.inl (List.mem_of_getElem? (i := 0) rfl)))
  obtain ⟨fs, hr, hrun, hended, hW, hsame⟩ := X32.leave (v := none) (fun _ => rfl)
  refine own_end (X32.returnOut hx hret (hb hby d11_37) hr) hrun hended ⟨_, _, rfl, ?_, ⟨_, rfl⟩, hW, hsame.mono (by decide) (by decide)⟩
  show Q11_1 Z a1 p2 p3 a4 p5 a6 p7 h0 n0 _ T32.heap _
  rw [e32]
  exact ⟨rfl, N32, K39, F33, F34, F35, F36, F37, F38, Fw32⟩
theorem ef13_1 (m : MethodId) (a1 : Addr) : entryFrame m #[(.ref a1)] 1 = mkF m 0 #[SR a1] [] := by first | (simp [entryFrame, mkF, argsToLocals, Value.category]; done) | rfl
def Q13_1 (Z : State) (a1 : Addr) (p4 : Int32) (h0 : Heap) (n0 : Nat) (v : Option Value) (h : Heap) (L : List Loc) : Prop := v = some (.int p4) ∧ Fr n0 L ∧ h = h0
set_option maxRecDepth 65536 in
set_option maxHeartbeats 40000000 in
theorem rm13_1 (l : Launch) (Z : State) (a0 : Array Value) (hw : HW a0 Z) (ws : List Jvm.Cond) (a1 : Addr) (p4 : Int32) (h0 : Heap) (n0 : Nat) (Z0 : n0 ≤ h0.size) (f2 : Fld Z h0 a1 cC2 "number" "I" (VI 0)) (f5 : Fld Z h0 a1 cC2 "misread" "I" (VI p4)) :
    MetFree l yM7 (head1 (Jvm.Cond.code yM7 prog_86_method_2_code 1 (some .int) :: ws) ({ frames := 0, cells := 0, slots := 0, locals := 0 } : Room)) (fun a U => a = #[(.ref a1)] ∧ Z.Warmed39 U.vm ∧ U.heap = h0) (fun _ _ _ _ _ => True) (fun _ U o U' => ∃ v L, o = .returned v ∧ Q13_1 Z a1 p4 h0 n0 v U'.heap L ∧ FrameEnd U o U' L ({ frames := 0, cells := 0, slots := 0, locals := 0 } : Room).cells ({ frames := 0, cells := 0, slots := 0, locals := 0 } : Room).slots) := by
  refine own_enter (n0 := n0) (plainFor_of_name pn11) (fun m => ef13_1 m a1) ?_
  intro p e s m below meth c s₁ hx hby hml hown hnm hret hlk X0 e0 hZ hh N0
  show own_Fin p e below _ s₁ (mkF m 0 #[SR a1] [])
  refine own_go (fun _ k => XS.aloadN X0.here hx rfl (hb hby d13_0) rfl rfl k) ?_
  show own_Fin p e below _ s₁ (mkF m 1 #[SR a1] [VR a1])
  obtain ⟨T3, X3, e3, st3⟩ := getF X0 hx hZ hown (host := "") (Or.inl (WW hw 56)) Via.refl e0 f2 (g := (mkF m 1 #[SR a1] [VR a1])) rfl rfl (hb hby d13_1)
  refine own_go st3 ?_
  show own_Fin p e below _ T3 (mkF m 4 #[SR a1] [VI 0])
  refine own_go (fun _ k => XS.ifYes X3.here hx rfl (pc0 := 4) (pc' := 14) rfl (hb hby d13_4) rfl ((if0 _ _).trans (flt (by decide : ¬ ((0 : Int32) < (0 : Int32)))).2.2.2) (by decide) (by decide) (XS.aloadN X3.here hx rfl (hb hby d13_14) rfl rfl k)) ?_
  show own_Fin p e below _ T3 (mkF m 15 #[SR a1] [VR a1])
  obtain ⟨T6, X6, e6, st6⟩ := getF X3 hx hZ hown (host := "") (Or.inl (WW hw 58)) Via.refl e3 f5 (g := (mkF m 15 #[SR a1] [VR a1])) rfl rfl (hb hby d13_15)
  refine own_go st6 ?_
  show own_Fin p e below _ T6 (mkF m 18 #[SR a1] [VI p4])
  obtain ⟨fs, hr, hrun, hended, hW, hsame⟩ := X6.leave (v := some (.int p4)) (fun h => by rw [hret] at h; cases h)
  refine own_end (retOut X6 hx hret rfl (Or.inl ⟨rfl, Or.inl rfl, _, rfl⟩) (hb hby d13_18) hr) hrun hended ⟨_, _, rfl, ?_, ⟨_, rfl⟩, hW, hsame.mono (by decide) (by decide)⟩
  show Q13_1 Z a1 p4 h0 n0 _ T6.heap _
  rw [e6]
  exact ⟨rfl, N0, rfl⟩
theorem ef13_2 (m : MethodId) (a1 : Addr) : entryFrame m #[(.ref a1)] 1 = mkF m 0 #[SR a1] [] := by first | (simp [entryFrame, mkF, argsToLocals, Value.category]; done) | rfl
def Q13_2 (Z : State) (a1 : Addr) (h0 : Heap) (n0 : Nat) (v : Option Value) (h : Heap) (L : List Loc) : Prop := v = some (.int (1 : Int32)) ∧ Fr n0 L ∧ h = h0
set_option maxRecDepth 65536 in
set_option maxHeartbeats 40000000 in
theorem rm13_2 (l : Launch) (Z : State) (a0 : Array Value) (hw : HW a0 Z) (ws : List Jvm.Cond) (a1 : Addr) (h0 : Heap) (n0 : Nat) (Z0 : n0 ≤ h0.size) (f2 : Fld Z h0 a1 cC2 "number" "I" (VI 1)) :
    MetFree l yM7 (head1 (Jvm.Cond.code yM7 prog_86_method_2_code 1 (some .int) :: ws) ({ frames := 0, cells := 0, slots := 0, locals := 0 } : Room)) (fun a U => a = #[(.ref a1)] ∧ Z.Warmed39 U.vm ∧ U.heap = h0) (fun _ _ _ _ _ => True) (fun _ U o U' => ∃ v L, o = .returned v ∧ Q13_2 Z a1 h0 n0 v U'.heap L ∧ FrameEnd U o U' L ({ frames := 0, cells := 0, slots := 0, locals := 0 } : Room).cells ({ frames := 0, cells := 0, slots := 0, locals := 0 } : Room).slots) := by
  refine own_enter (n0 := n0) (plainFor_of_name pn11) (fun m => ef13_2 m a1) ?_
  intro p e s m below meth c s₁ hx hby hml hown hnm hret hlk X0 e0 hZ hh N0
  show own_Fin p e below _ s₁ (mkF m 0 #[SR a1] [])
  refine own_go (fun _ k => XS.aloadN X0.here hx rfl (hb hby d13_0) rfl rfl k) ?_
  show own_Fin p e below _ s₁ (mkF m 1 #[SR a1] [VR a1])
  obtain ⟨T3, X3, e3, st3⟩ := getF X0 hx hZ hown (host := "") (Or.inl (WW hw 56)) Via.refl e0 f2 (g := (mkF m 1 #[SR a1] [VR a1])) rfl rfl (hb hby d13_1)
  refine own_go st3 ?_
  show own_Fin p e below _ T3 (mkF m 4 #[SR a1] [VI 1])
  refine own_go (fun _ k => XS.ifNo X3.here hx rfl (hb hby d13_4) rfl ((if0 _ _).trans (tlt (by decide : (0 : Int32) < (1 : Int32))).2.2.2) (XS.aloadN X3.here hx rfl (hb hby d13_7) rfl rfl k)) ?_
  show own_Fin p e below _ T3 (mkF m 8 #[SR a1] [VR a1])
  obtain ⟨T4, X4, e4, st4⟩ := getF X3 hx hZ hown (host := "") (Or.inl (WW hw 56)) Via.refl e3 f2 (g := (mkF m 8 #[SR a1] [VR a1])) rfl rfl (hb hby d13_8)
  refine own_go st4 ?_
  show own_Fin p e below _ T4 (mkF m 11 #[SR a1] [VI 1])
  refine own_go (fun _ k => XS.goto X4.here hx rfl (pc0 := 11) (pc' := 18) rfl (hb hby d13_11) (by decide) (by decide) k) ?_
  show own_Fin p e below _ T4 (mkF m 18 #[SR a1] [VI 1])
  obtain ⟨fs, hr, hrun, hended, hW, hsame⟩ := X4.leave (v := some (.int (1 : Int32))) (fun h => by rw [hret] at h; cases h)
  refine own_end (retOut X4 hx hret rfl (Or.inl ⟨rfl, Or.inl rfl, _, rfl⟩) (hb hby d13_18) hr) hrun hended ⟨_, _, rfl, ?_, ⟨_, rfl⟩, hW, hsame.mono (by decide) (by decide)⟩
  show Q13_2 Z a1 h0 n0 _ T4.heap _
  rw [e4]
  exact ⟨rfl, N0, rfl⟩
theorem ef13_3 (m : MethodId) (a1 : Addr) : entryFrame m #[(.ref a1)] 1 = mkF m 0 #[SR a1] [] := by first | (simp [entryFrame, mkF, argsToLocals, Value.category]; done) | rfl
def Q13_3 (Z : State) (a1 : Addr) (p4 : Int32) (h0 : Heap) (n0 : Nat) (v : Option Value) (h : Heap) (L : List Loc) : Prop := v = some (.int p4) ∧ Fr n0 L ∧ h = h0
set_option maxRecDepth 65536 in
set_option maxHeartbeats 40000000 in
theorem rm13_3 (l : Launch) (Z : State) (a0 : Array Value) (hw : HW a0 Z) (ws : List Jvm.Cond) (a1 : Addr) (p4 : Int32) (h0 : Heap) (n0 : Nat) (Z0 : n0 ≤ h0.size) (f2 : Fld Z h0 a1 cC2 "number" "I" (VI (-1))) (f5 : Fld Z h0 a1 cC2 "misread" "I" (VI p4)) :
    MetFree l yM7 (head1 (Jvm.Cond.code yM7 prog_86_method_2_code 1 (some .int) :: ws) ({ frames := 0, cells := 0, slots := 0, locals := 0 } : Room)) (fun a U => a = #[(.ref a1)] ∧ Z.Warmed39 U.vm ∧ U.heap = h0) (fun _ _ _ _ _ => True) (fun _ U o U' => ∃ v L, o = .returned v ∧ Q13_3 Z a1 p4 h0 n0 v U'.heap L ∧ FrameEnd U o U' L ({ frames := 0, cells := 0, slots := 0, locals := 0 } : Room).cells ({ frames := 0, cells := 0, slots := 0, locals := 0 } : Room).slots) := by
  refine own_enter (n0 := n0) (plainFor_of_name pn11) (fun m => ef13_3 m a1) ?_
  intro p e s m below meth c s₁ hx hby hml hown hnm hret hlk X0 e0 hZ hh N0
  show own_Fin p e below _ s₁ (mkF m 0 #[SR a1] [])
  refine own_go (fun _ k => XS.aloadN X0.here hx rfl (hb hby d13_0) rfl rfl k) ?_
  show own_Fin p e below _ s₁ (mkF m 1 #[SR a1] [VR a1])
  obtain ⟨T3, X3, e3, st3⟩ := getF X0 hx hZ hown (host := "") (Or.inl (WW hw 56)) Via.refl e0 f2 (g := (mkF m 1 #[SR a1] [VR a1])) rfl rfl (hb hby d13_1)
  refine own_go st3 ?_
  show own_Fin p e below _ T3 (mkF m 4 #[SR a1] [VI (-1)])
  refine own_go (fun _ k => XS.ifYes X3.here hx rfl (pc0 := 4) (pc' := 14) rfl (hb hby d13_4) rfl ((if0 _ _).trans (flt (by decide : ¬ ((0 : Int32) < (-1 : Int32)))).2.2.2) (by decide) (by decide) (XS.aloadN X3.here hx rfl (hb hby d13_14) rfl rfl k)) ?_
  show own_Fin p e below _ T3 (mkF m 15 #[SR a1] [VR a1])
  obtain ⟨T6, X6, e6, st6⟩ := getF X3 hx hZ hown (host := "") (Or.inl (WW hw 58)) Via.refl e3 f5 (g := (mkF m 15 #[SR a1] [VR a1])) rfl rfl (hb hby d13_15)
  refine own_go st6 ?_
  show own_Fin p e below _ T6 (mkF m 18 #[SR a1] [VI p4])
  obtain ⟨fs, hr, hrun, hended, hW, hsame⟩ := X6.leave (v := some (.int p4)) (fun h => by rw [hret] at h; cases h)
  refine own_end (retOut X6 hx hret rfl (Or.inl ⟨rfl, Or.inl rfl, _, rfl⟩) (hb hby d13_18) hr) hrun hended ⟨_, _, rfl, ?_, ⟨_, rfl⟩, hW, hsame.mono (by decide) (by decide)⟩
  show Q13_3 Z a1 p4 h0 n0 _ T6.heap _
  rw [e6]
  exact ⟨rfl, N0, rfl⟩
theorem ef13_4 (m : MethodId) (a1 : Addr) : entryFrame m #[(.ref a1)] 1 = mkF m 0 #[SR a1] [] := by first | (simp [entryFrame, mkF, argsToLocals, Value.category]; done) | rfl
def Q13_4 (Z : State) (a1 : Addr) (p2 : Int32) (h0 : Heap) (n0 : Nat) (v : Option Value) (h : Heap) (L : List Loc) : Prop := v = some (.int p2) ∧ Fr n0 L ∧ h = h0
set_option maxRecDepth 65536 in
set_option maxHeartbeats 40000000 in
theorem rm13_4 (l : Launch) (Z : State) (a0 : Array Value) (hw : HW a0 Z) (ws : List Jvm.Cond) (a1 : Addr) (p2 : Int32) (h0 : Heap) (n0 : Nat) (Z0 : n0 ≤ h0.size) (f3 : Fld Z h0 a1 cC2 "number" "I" (VI p2)) (f5 : (0 : Int32) < p2) :
    MetFree l yM7 (head1 (Jvm.Cond.code yM7 prog_86_method_2_code 1 (some .int) :: ws) ({ frames := 0, cells := 0, slots := 0, locals := 0 } : Room)) (fun a U => a = #[(.ref a1)] ∧ Z.Warmed39 U.vm ∧ U.heap = h0) (fun _ _ _ _ _ => True) (fun _ U o U' => ∃ v L, o = .returned v ∧ Q13_4 Z a1 p2 h0 n0 v U'.heap L ∧ FrameEnd U o U' L ({ frames := 0, cells := 0, slots := 0, locals := 0 } : Room).cells ({ frames := 0, cells := 0, slots := 0, locals := 0 } : Room).slots) := by
  refine own_enter (n0 := n0) (plainFor_of_name pn11) (fun m => ef13_4 m a1) ?_
  intro p e s m below meth c s₁ hx hby hml hown hnm hret hlk X0 e0 hZ hh N0
  show own_Fin p e below _ s₁ (mkF m 0 #[SR a1] [])
  refine own_go (fun _ k => XS.aloadN X0.here hx rfl (hb hby d13_0) rfl rfl k) ?_
  show own_Fin p e below _ s₁ (mkF m 1 #[SR a1] [VR a1])
  obtain ⟨T4, X4, e4, st4⟩ := getF X0 hx hZ hown (host := "") (Or.inl (WW hw 56)) Via.refl e0 f3 (g := (mkF m 1 #[SR a1] [VR a1])) rfl rfl (hb hby d13_1)
  refine own_go st4 ?_
  show own_Fin p e below _ T4 (mkF m 4 #[SR a1] [VI p2])
  refine own_go (fun _ k => XS.ifNo X4.here hx rfl (hb hby d13_4) rfl ((if0 _ _).trans (tlt f5).2.2.2) (XS.aloadN X4.here hx rfl (hb hby d13_7) rfl rfl k)) ?_
  show own_Fin p e below _ T4 (mkF m 8 #[SR a1] [VR a1])
  obtain ⟨T6, X6, e6, st6⟩ := getF X4 hx hZ hown (host := "") (Or.inl (WW hw 56)) Via.refl e4 f3 (g := (mkF m 8 #[SR a1] [VR a1])) rfl rfl (hb hby d13_8)
  refine own_go st6 ?_
  show own_Fin p e below _ T6 (mkF m 11 #[SR a1] [VI p2])
  refine own_go (fun _ k => XS.goto X6.here hx rfl (pc0 := 11) (pc' := 18) rfl (hb hby d13_11) (by decide) (by decide) k) ?_
  show own_Fin p e below _ T6 (mkF m 18 #[SR a1] [VI p2])
  obtain ⟨fs, hr, hrun, hended, hW, hsame⟩ := X6.leave (v := some (.int p2)) (fun h => by rw [hret] at h; cases h)
  refine own_end (retOut X6 hx hret rfl (Or.inl ⟨rfl, Or.inl rfl, _, rfl⟩) (hb hby d13_18) hr) hrun hended ⟨_, _, rfl, ?_, ⟨_, rfl⟩, hW, hsame.mono (by decide) (by decide)⟩
  show Q13_4 Z a1 p2 h0 n0 _ T6.heap _
  rw [e6]
  exact ⟨rfl, N0, rfl⟩
theorem ef13_5 (m : MethodId) (a1 : Addr) : entryFrame m #[(.ref a1)] 1 = mkF m 0 #[SR a1] [] := by first | (simp [entryFrame, mkF, argsToLocals, Value.category]; done) | rfl
def Q13_5 (Z : State) (a1 : Addr) (p2 : Int32) (p6 : Int32) (h0 : Heap) (n0 : Nat) (v : Option Value) (h : Heap) (L : List Loc) : Prop := v = some (.int p6) ∧ Fr n0 L ∧ h = h0
set_option maxRecDepth 65536 in
set_option maxHeartbeats 40000000 in
theorem rm13_5 (l : Launch) (Z : State) (a0 : Array Value) (hw : HW a0 Z) (ws : List Jvm.Cond) (a1 : Addr) (p2 : Int32) (p6 : Int32) (h0 : Heap) (n0 : Nat) (Z0 : n0 ≤ h0.size) (f3 : Fld Z h0 a1 cC2 "number" "I" (VI p2)) (f5 : ¬ ((0 : Int32) < p2)) (f7 : Fld Z h0 a1 cC2 "misread" "I" (VI p6)) :
    MetFree l yM7 (head1 (Jvm.Cond.code yM7 prog_86_method_2_code 1 (some .int) :: ws) ({ frames := 0, cells := 0, slots := 0, locals := 0 } : Room)) (fun a U => a = #[(.ref a1)] ∧ Z.Warmed39 U.vm ∧ U.heap = h0) (fun _ _ _ _ _ => True) (fun _ U o U' => ∃ v L, o = .returned v ∧ Q13_5 Z a1 p2 p6 h0 n0 v U'.heap L ∧ FrameEnd U o U' L ({ frames := 0, cells := 0, slots := 0, locals := 0 } : Room).cells ({ frames := 0, cells := 0, slots := 0, locals := 0 } : Room).slots) := by
  refine own_enter (n0 := n0) (plainFor_of_name pn11) (fun m => ef13_5 m a1) ?_
  intro p e s m below meth c s₁ hx hby hml hown hnm hret hlk X0 e0 hZ hh N0
  show own_Fin p e below _ s₁ (mkF m 0 #[SR a1] [])
  refine own_go (fun _ k => XS.aloadN X0.here hx rfl (hb hby d13_0) rfl rfl k) ?_
  show own_Fin p e below _ s₁ (mkF m 1 #[SR a1] [VR a1])
  obtain ⟨T4, X4, e4, st4⟩ := getF X0 hx hZ hown (host := "") (Or.inl (WW hw 56)) Via.refl e0 f3 (g := (mkF m 1 #[SR a1] [VR a1])) rfl rfl (hb hby d13_1)
  refine own_go st4 ?_
  show own_Fin p e below _ T4 (mkF m 4 #[SR a1] [VI p2])
  refine own_go (fun _ k => XS.ifYes X4.here hx rfl (pc0 := 4) (pc' := 14) rfl (hb hby d13_4) rfl ((if0 _ _).trans (flt f5).2.2.2) (by decide) (by decide) (XS.aloadN X4.here hx rfl (hb hby d13_14) rfl rfl k)) ?_
  show own_Fin p e below _ T4 (mkF m 15 #[SR a1] [VR a1])
  obtain ⟨T8, X8, e8, st8⟩ := getF X4 hx hZ hown (host := "") (Or.inl (WW hw 58)) Via.refl e4 f7 (g := (mkF m 15 #[SR a1] [VR a1])) rfl rfl (hb hby d13_15)
  refine own_go st8 ?_
  show own_Fin p e below _ T8 (mkF m 18 #[SR a1] [VI p6])
  obtain ⟨fs, hr, hrun, hended, hW, hsame⟩ := X8.leave (v := some (.int p6)) (fun h => by rw [hret] at h; cases h)
  refine own_end (retOut X8 hx hret rfl (Or.inl ⟨rfl, Or.inl rfl, _, rfl⟩) (hb hby d13_18) hr) hrun hended ⟨_, _, rfl, ?_, ⟨_, rfl⟩, hW, hsame.mono (by decide) (by decide)⟩
  show Q13_5 Z a1 p2 p6 h0 n0 _ T8.heap _
  rw [e8]
  exact ⟨rfl, N0, rfl⟩
theorem ef0 (m : MethodId) (p1 : Int32) (p2 : Int32) (p3 : Int32) (p4 : Int32) (p5 : Int32) (p6 : Int32) : entryFrame m #[(.int p1), (.int p2), (.int p3), (.int p4), (.int p5), (.int p6)] maxLocals = mkF m 0 #[SI p1, SI p2, SI p3, SI p4, SI p5, SI p6, SU, SU, SU, SU, SU, SU, SU] [] := by first | (simp [entryFrame, mkF, argsToLocals, Value.category, maxLocals]; done) | rfl
set_option maxRecDepth 65536 in
set_option maxHeartbeats 40000000 in
theorem rm0 (l : Launch) (Z : State) (a0 : Array Value) (hw : HW a0 Z) (ws : List Jvm.Cond) (p1 : Int32) (p2 : Int32) (p3 : Int32) (p4 : Int32) (p5 : Int32) (p6 : Int32) (G1 : Int32) (h0 : Heap) (n0 : Nat) (Z0 : n0 ≤ h0.size) (X00 : Old Z n0 h0) (O_G1 : Sta Z Z.heap "java/lang/String" "COMPACT_STRINGS" "Z" (.int G1)) (P_G1 : ¬ (G1 = (0 : Int32))) :
    MetFree l x (head1 (Jvm.Cond.code x code maxLocals ret :: ws) room_1) (fun a U => a = #[(.int p1), (.int p2), (.int p3), (.int p4), (.int p5), (.int p6)] ∧ Z.Warmed39 U.vm ∧ U.heap = h0) (fun _ _ _ _ _ => True) (fun _ U o U' => ∃ v L, o = .returned v ∧ Q0 n0 v U'.heap L ∧ FrameEnd U o U' L 24 128) := by
  refine own_enter (n0 := n0) (plainFor_of_name pn0) (fun m => ef0 m p1 p2 p3 p4 p5 p6) ?_
  intro p e s m below meth c s₁ hx hby hml hown hnm hret hlk X0 e0 hZ hh N0
  replace hml : c.maxLocals = 13 := hml
  show own_Fin p e below _ s₁ (mkF m 0 #[SI p1, SI p2, SI p3, SI p4, SI p5, SI p6, SU, SU, SU, SU, SU, SU, SU] [])
  by_cases hc0 : (p1 &&& (3 : Int32)) = (0 : Int32)
  ·
    refine own_go (fun _ k => XS.iloadN X0.here hx rfl (hb hby at_0) rfl (XS.iconst X0.here hx rfl (hb hby at_1) (XS.iand X0.here hx rfl (hb hby at_2) rfl (XS.istore X0.here hx rfl (hb hby at_3) rfl (l' := #[SI p1, SI p2, SI p3, SI p4, SI p5, SI p6, SI (p1 &&& (3 : Int32)), SU, SU, SU, SU, SU, SU]) rfl (XS.iload X0.here hx rfl (hb hby at_5) rfl (XS.ifNo X0.here hx rfl (hb hby at_7) rfl ((if0 _ _).trans (teq hc0).2) (XS.iconst X0.here hx rfl (hb hby at_10) (XS.goto X0.here hx rfl (pc0 := 11) (pc' := 35) rfl (hb hby at_11) (by decide) (by decide) (XS.istore X0.here hx rfl (hb hby at_35) rfl (l' := #[SI p1, SI p2, SI p3, SI p4, SI p5, SI p6, SI (p1 &&& (3 : Int32)), SI 0, SU, SU, SU, SU, SU]) rfl (XS.iconst X0.here hx rfl (hb hby at_37) k)))))))))) ?_
    show own_Fin p e below _ s₁ (mkF m 38 #[SI p1, SI p2, SI p3, SI p4, SI p5, SI p6, SI (p1 &&& (3 : Int32)), SI 0, SU, SU, SU, SU, SU] [VI 2])
    obtain ⟨T101, h101, k101, X101, e101, E101, A101, st101⟩ := newP X0 hx hZ (WW hw 0) e0 (g := (mkF m 38 #[SI p1, SI p2, SI p3, SI p4, SI p5, SI p6, SI (p1 &&& (3 : Int32)), SI 0, SU, SU, SU, SU, SU] [VI 2])) rfl (hb hby at_38) rfl (by decide) (cap := 2) (by decide) (by decide) (by decide) (by decide)
    obtain ⟨b101, g101⟩ : ∃ z, z = h0.size := ⟨_, rfl⟩
    rw [← g101] at A101 st101
    have V101 : Arv Z h101 b101 k101 .char 2 [VI 0, VI 0] (VI 0) := (Arv.new A101 (by decide)).pad (pad_rep [] (.int (0 : Int32)) 2)
    refine own_go st101 ?_
    show own_Fin p e below _ T101 (mkF m 40 #[SI p1, SI p2, SI p3, SI p4, SI p5, SI p6, SI (p1 &&& (3 : Int32)), SI 0, SU, SU, SU, SU, SU] [VR b101])
    refine own_go (fun _ k => XS.astore X101.here hx rfl (hb hby at_40) rfl rfl (l' := #[SI p1, SI p2, SI p3, SI p4, SI p5, SI p6, SI (p1 &&& (3 : Int32)), SI 0, SR b101, SU, SU, SU, SU]) rfl (XS.aload X101.here hx rfl (hb hby at_42) rfl rfl (XS.iconst X101.here hx rfl (hb hby at_44) (XS.iload X101.here hx rfl (hb hby at_45) rfl (XS.sipush X101.here hx rfl (hb hby at_47) (XS.iand X101.here hx rfl (hb hby at_50) rfl (XS.i2c X101.here hx rfl (hb hby at_51) rfl k))))))) ?_
    show own_Fin p e below _ T101 (mkF m 52 #[SI p1, SI p2, SI p3, SI p4, SI p5, SI p6, SI (p1 &&& (3 : Int32)), SI 0, SR b101, SU, SU, SU, SU] [VI ((p6 &&& (255 : Int32)).toUInt32.toUInt16.toUInt32.toInt32), VI 0, VR b101])
    obtain ⟨cl102, Ar102, q102, Sz102, Nn102, Hs102, Gg102⟩ := id V101
    have i103 : ¬ ((0 : Int32) < 0 ∨ cl102.slots.size ≤ ((0 : Int32)).toNatClampNeg) := inb_of Sz102 ⟨(by decide : ¬ ((0 : Int32) < (0 : Int32))), (by decide : (0 : Int32) < (2 : Int32))⟩
    obtain ⟨T104, h104, X104, e104, W104, st104⟩ := stC X101 hx hZ e101 Ar102 (j := (0 : Int32)) i103 (g := (mkF m 52 #[SI p1, SI p2, SI p3, SI p4, SI p5, SI p6, SI (p1 &&& (3 : Int32)), SI 0, SR b101, SU, SU, SU, SU] [VI ((p6 &&& (255 : Int32)).toUInt32.toUInt16.toUInt32.toInt32), VI 0, VR b101])) rfl rfl (hb hby at_52)
    have u105 : n0 ≤ b101 := Nat.le_trans Z0 (Nat.le_of_eq g101.symm)
    have N104 := Fr.snoc X104 N0 u105
    have V104 : Arv Z h104 b101 k101 .char 2 [VI (nar .char ((p6 &&& (255 : Int32)).toUInt32.toUInt16.toUInt32.toInt32)), VI 0] (VI 0) := Arv.set Ar102 q102 Sz102 Nn102 Hs102 Gg102 (fits_nar_char _) W104 0 rfl (Nat.le_of_ble_eq_true rfl)
    refine own_go st104 ?_
    show own_Fin p e below _ T104 (mkF m 53 #[SI p1, SI p2, SI p3, SI p4, SI p5, SI p6, SI (p1 &&& (3 : Int32)), SI 0, SR b101, SU, SU, SU, SU] [])
    refine own_go (fun _ k => XS.aload X104.here hx rfl (hb hby at_53) rfl rfl (XS.iconst X104.here hx rfl (hb hby at_55) (XS.iload X104.here hx rfl (hb hby at_56) rfl (XS.bipush X104.here hx rfl (hb hby at_58) (XS.iushr X104.here hx rfl (hb hby at_60) rfl (XS.sipush X104.here hx rfl (hb hby at_61) (XS.iand X104.here hx rfl (hb hby at_64) rfl (XS.i2c X104.here hx rfl (hb hby at_65) rfl k)))))))) ?_
    show own_Fin p e below _ T104 (mkF m 66 #[SI p1, SI p2, SI p3, SI p4, SI p5, SI p6, SI (p1 &&& (3 : Int32)), SI 0, SR b101, SU, SU, SU, SU] [VI ((((p6.toUInt32 >>> ((8 : Int32) &&& 31).toUInt32).toInt32) &&& (255 : Int32)).toUInt32.toUInt16.toUInt32.toInt32), VI 1, VR b101])
    obtain ⟨cl106, Ar106, q106, Sz106, Nn106, Hs106, Gg106⟩ := id V104
    have i107 : ¬ ((1 : Int32) < 0 ∨ cl106.slots.size ≤ ((1 : Int32)).toNatClampNeg) := inb_of Sz106 ⟨(by decide : ¬ ((1 : Int32) < (0 : Int32))), (by decide : (1 : Int32) < (2 : Int32))⟩
    obtain ⟨T108, h108, X108, e108, W108, st108⟩ := stC X104 hx hZ e104 Ar106 (j := (1 : Int32)) i107 (g := (mkF m 66 #[SI p1, SI p2, SI p3, SI p4, SI p5, SI p6, SI (p1 &&& (3 : Int32)), SI 0, SR b101, SU, SU, SU, SU] [VI ((((p6.toUInt32 >>> ((8 : Int32) &&& 31).toUInt32).toInt32) &&& (255 : Int32)).toUInt32.toUInt16.toUInt32.toInt32), VI 1, VR b101])) rfl rfl (hb hby at_66)
    have N108 := Fr.snoc X108 N104 u105
    have V108 : Arv Z h108 b101 k101 .char 2 [VI (nar .char ((p6 &&& (255 : Int32)).toUInt32.toUInt16.toUInt32.toInt32)), VI (nar .char ((((p6.toUInt32 >>> ((8 : Int32) &&& 31).toUInt32).toInt32) &&& (255 : Int32)).toUInt32.toUInt16.toUInt32.toInt32))] (VI 0) := Arv.set Ar106 q106 Sz106 Nn106 Hs106 Gg106 (fits_nar_char _) W108 1 rfl (Nat.le_of_ble_eq_true rfl)
    refine own_go st108 ?_
    show own_Fin p e below _ T108 (mkF m 67 #[SI p1, SI p2, SI p3, SI p4, SI p5, SI p6, SI (p1 &&& (3 : Int32)), SI 0, SR b101, SU, SU, SU, SU] [])
    obtain ⟨T109, h109, X109, e109, E109, A109, D109, -, st109⟩ := newO X108 hx hZ hown (WW hw 1) (WW hw 2) (WW hw 3) e108 (g := (mkF m 67 #[SI p1, SI p2, SI p3, SI p4, SI p5, SI p6, SI (p1 &&& (3 : Int32)), SI 0, SR b101, SU, SU, SU, SU] [])) rfl (hb hby at_67) (by decide) (by decide)
    obtain ⟨b109, g109⟩ : ∃ z, z = h108.size := ⟨_, rfl⟩
    rw [← g109] at A109 D109 st109
    have F110 : Fld Z h109 b109 cC0 "coder" "B" (VI 0) := D109 (Or.inr (WW hw 27)) (ty := .byte) (by decide)
    have F111 : Fld Z h109 b109 cC0 "value" "[B" (.null) := D109 (Or.inr (WW hw 29)) (ty := (.array .byte)) (by decide)
    refine own_go st109 ?_
    show own_Fin p e below _ T109 (mkF m 70 #[SI p1, SI p2, SI p3, SI p4, SI p5, SI p6, SI (p1 &&& (3 : Int32)), SI 0, SR b101, SU, SU, SU, SU] [VR b109])
    refine own_go (fun _ k => XS.dup X109.here hx rfl (hb hby at_70) rfl rfl (XS.aload X109.here hx rfl (hb hby at_71) rfl rfl k)) ?_
    show own_Fin p e below _ T109 (mkF m 73 #[SI p1, SI p2, SI p3, SI p4, SI p5, SI p6, SI (p1 &&& (3 : Int32)), SI 0, SR b101, SU, SU, SU, SU] [VR b101, VR b109, VR b109])
    have F112 : Arv Z h109 b101 k101 .char 2 [VI (nar .char ((p6 &&& (255 : Int32)).toUInt32.toUInt16.toUInt32.toInt32)), VI (nar .char ((((p6.toUInt32 >>> ((8 : Int32) &&& 31).toUInt32).toInt32) &&& (255 : Int32)).toUInt32.toUInt16.toUInt32.toInt32))] (VI 0) := (V108.ext E109)
    have O114 : Old Z n0 h109 := ((((X00.ext E101).wr W104 u105).wr W108 u105).ext E109)
    have hws : ∀ d ∈ StrChars.Road.words, d.before a0 Z = true := fun d hd => hw d ((by decide +kernel : ∀ d ∈ StrChars.Road.words, d ∈ tables_1) d hd)
    have hp115 : ∀ c ∈ ([(nar .char ((p6 &&& (255 : Int32)).toUInt32.toUInt16.toUInt32.toInt32)), (nar .char ((((p6.toUInt32 >>> ((8 : Int32) &&& 31).toUInt32).toInt32) &&& (255 : Int32)).toUInt32.toUInt16.toUInt32.toInt32))] : List Int32), ¬ c < 0 ∧ ¬ (255 : Int32) < c := (own_allS (own_and255 p6) (own_allS (own_and255 ((p6.toUInt32 >>> ((8 : Int32) &&& 31).toUInt32).toInt32)) own_all0))
    have z117 : h0.size ≤ h101.size := E101.1
    have z118 : h0.size ≤ h104.size := Nat.le_trans z117 (Nat.le_of_eq (Wr.size W104).symm)
    have z119 : h0.size ≤ h108.size := Nat.le_trans z118 (Nat.le_of_eq (Wr.size W108).symm)
    have u116 : n0 ≤ b109 := Nat.le_trans Z0 (Nat.le_trans z119 (Nat.le_of_eq g109.symm))
    have z120 : h0.size ≤ h109.size := Nat.le_trans z119 E109.1
    obtain ⟨_, _, ⟨T113, L113, k113, n113⟩, -, X113, ⟨Lc113, hQ113, l113, y113, z113⟩, st113⟩ := X109.specialBack hx (y := yM0) rfl hown (mvT hZ (WW hw 4)) (mvT hZ (WW hw 5)) (mvT hZ (WW hw 6)) (by decide) (StrChars.Road.backV (W := 1) hZ hws (kI := 4) (WW hw 2) (cs := ([(nar .char ((p6 &&& (255 : Int32)).toUInt32.toUInt16.toUInt32.toInt32)), (nar .char ((((p6.toUInt32 >>> ((8 : Int32) &&& 31).toUInt32).toInt32) &&& (255 : Int32)).toUInt32.toUInt16.toUInt32.toInt32))] : List Int32)) (bs := ([(nar .char ((p6 &&& (255 : Int32)).toUInt32.toUInt16.toUInt32.toInt32)), (nar .char ((((p6.toUInt32 >>> ((8 : Int32) &&& 31).toUInt32).toInt32) &&& (255 : Int32)).toUInt32.toUInt16.toUInt32.toInt32))] : List Int32).map (fun c => c.toInt8.toInt32)) (n := 2) u116 (Nat.le_trans Z0 z120) A109 F111 F110 F112 (O_G1.ext O114.2) P_G1 rfl rfl (by decide) (by decide) hp115 rfl (by decide) (by decide)) (g := (mkF m 73 #[SI p1, SI p2, SI p3, SI p4, SI p5, SI p6, SI (p1 &&& (3 : Int32)), SI 0, SR b101, SU, SU, SU, SU] [VR b101, VR b109, VR b109])) rfl (by rw [hml]; rfl) (Steps.refl _) (a := b109) (argsL := [VR b101]) (rest := [VR b109]) (lenOf pd0 rfl) rfl (by show 2 * 0 + _ ≤ _; exact Nat.le_of_eq rfl) (hb hby at_73) (fun _ _ => ⟨rfl, e109, (by decide : 2 + 1 ≤ _), (by decide : 6 + 2 ≤ _)⟩)
    dsimp only [Pt.U, Pt.locs, Pt.cells, Pt.slots] at X113 l113 y113 z113 st113 hQ113
    subst l113 y113 z113
    obtain ⟨rfl, N113q, K113, oE113, oC113, t113, kb113, -, lo113, nt113, oV113, oA113⟩ := hQ113
    have N113 := Fr.app N108 N113q
    refine own_go (fun _ k => st113.trans k) ?_
    show own_Fin p e below _ T113 (mkF m 76 #[SI p1, SI p2, SI p3, SI p4, SI p5, SI p6, SI (p1 &&& (3 : Int32)), SI 0, SR b101, SU, SU, SU, SU] [VR b109])
    refine own_go (fun _ k => XS.astore X113.here hx rfl (hb hby at_76) rfl rfl (l' := #[SI p1, SI p2, SI p3, SI p4, SI p5, SI p6, SI (p1 &&& (3 : Int32)), SI 0, SR b101, SR b109, SU, SU, SU]) rfl (XS.iload X113.here hx rfl (hb hby at_78) rfl (XS.bipush X113.here hx rfl (hb hby at_80) (XS.iushr X113.here hx rfl (hb hby at_82) rfl (XS.sipush X113.here hx rfl (hb hby at_83) (XS.iand X113.here hx rfl (hb hby at_86) rfl (XS.i2c X113.here hx rfl (hb hby at_87) rfl k))))))) ?_
    show own_Fin p e below _ T113 (mkF m 88 #[SI p1, SI p2, SI p3, SI p4, SI p5, SI p6, SI (p1 &&& (3 : Int32)), SI 0, SR b101, SR b109, SU, SU, SU] [VI ((((p6.toUInt32 >>> ((16 : Int32) &&& 31).toUInt32).toInt32) &&& (255 : Int32)).toUInt32.toUInt16.toUInt32.toInt32)])
    have O121 : Old Z n0 T113.heap := (O114.keep K113 (allS u116 all0))
    have z123 : h0.size ≤ T113.heap.size := Nat.le_trans z120 K113.1
    obtain ⟨_, T122, L122, X122, hQ122, st122⟩ := own_cS X113 hx hZ hown (WW hw 30) (WW hw 31) (WW hw 3) (WW hw 32) (rm7_1 l Z a0 hw [] ((((p6.toUInt32 >>> ((16 : Int32) &&& 31).toUInt32).toInt32) &&& (255 : Int32)).toUInt32.toUInt16.toUInt32.toInt32) G1 T113.heap n0 (Nat.le_trans Z0 z123) O_G1 O121 P_G1 (own_c255 ((p6.toUInt32 >>> ((16 : Int32) &&& 31).toUInt32).toInt32)).2) rfl hml (g := (mkF m 88 #[SI p1, SI p2, SI p3, SI p4, SI p5, SI p6, SI (p1 &&& (3 : Int32)), SI 0, SR b101, SR b109, SU, SU, SU] [VI ((((p6.toUInt32 >>> ((16 : Int32) &&& 31).toUInt32).toInt32) &&& (255 : Int32)).toUInt32.toUInt16.toUInt32.toInt32)])) pd4 (hb hby at_88) [VI ((((p6.toUInt32 >>> ((16 : Int32) &&& 31).toUInt32).toInt32) &&& (255 : Int32)).toUInt32.toUInt16.toUInt32.toInt32)] [] (W := 0)
    obtain ⟨b9_122, b2_12_122, k2_12_122, rfl, N122q, K122, lob9_122, lob2_12_122, neb9b2_12_122, o0_122, o1_122, o2_122, o3_122⟩ := hQ122
    have N122 := Fr.app N113 N122q
    refine own_go st122 ?_
    show own_Fin p e below _ T122 (mkF m 91 #[SI p1, SI p2, SI p3, SI p4, SI p5, SI p6, SI (p1 &&& (3 : Int32)), SI 0, SR b101, SR b109, SU, SU, SU] [VR b9_122])
    refine own_go (fun _ k => XS.astore X122.here hx rfl (hb hby at_91) rfl rfl (l' := #[SI p1, SI p2, SI p3, SI p4, SI p5, SI p6, SI (p1 &&& (3 : Int32)), SI 0, SR b101, SR b109, SR b9_122, SU, SU]) rfl k) ?_
    show own_Fin p e below _ T122 (mkF m 93 #[SI p1, SI p2, SI p3, SI p4, SI p5, SI p6, SI (p1 &&& (3 : Int32)), SI 0, SR b101, SR b109, SR b9_122, SU, SU] [])
    obtain ⟨T124, h124, X124, e124, E124, A124, D124, -, st124⟩ := newO X122 hx hZ hown (WW hw 44) (WW hw 45) (WW hw 46) rfl (g := (mkF m 93 #[SI p1, SI p2, SI p3, SI p4, SI p5, SI p6, SI (p1 &&& (3 : Int32)), SI 0, SR b101, SR b109, SR b9_122, SU, SU] [])) rfl (hb hby at_93) (by decide) (by decide)
    obtain ⟨b124, g124⟩ : ∃ z, z = T122.heap.size := ⟨_, rfl⟩
    rw [← g124] at A124 D124 st124
    have F125 : Fld Z h124 b124 cC2 "number" "I" (VI 0) := D124 (Or.inr (WW hw 57)) (ty := .int) (by decide)
    have F126 : Fld Z h124 b124 cC2 "misread" "I" (VI 0) := D124 (Or.inr (WW hw 59)) (ty := .int) (by decide)
    have F127 : Fld Z h124 b124 cC2 "printed" cC3 (.null) := D124 (Or.inr (WW hw 61)) (ty := (.object "java/lang/String")) (by decide)
    have F128 : Fld Z h124 b124 cC2 "line" "I" (VI 0) := D124 (Or.inr (WW hw 63)) (ty := .int) (by decide)
    have F129 : Fld Z h124 b124 cC2 "title" cC3 (.null) := D124 (Or.inr (WW hw 65)) (ty := (.object "java/lang/String")) (by decide)
    have F130 : Fld Z h124 b124 cC2 "headingLines" "I" (VI 0) := D124 (Or.inr (WW hw 67)) (ty := .int) (by decide)
    refine own_go st124 ?_
    show own_Fin p e below _ T124 (mkF m 96 #[SI p1, SI p2, SI p3, SI p4, SI p5, SI p6, SI (p1 &&& (3 : Int32)), SI 0, SR b101, SR b109, SR b9_122, SU, SU] [VR b124])
    refine own_go (fun _ k => XS.dup X124.here hx rfl (hb hby at_96) rfl rfl (XS.iload X124.here hx rfl (hb hby at_97) rfl (XS.iloadN X124.here hx rfl (hb hby at_99) rfl (XS.aload X124.here hx rfl (hb hby at_100) rfl rfl (XS.iloadN X124.here hx rfl (hb hby at_102) rfl (XS.aload X124.here hx rfl (hb hby at_103) rfl rfl (XS.iload X124.here hx rfl (hb hby at_105) rfl k))))))) ?_
    show own_Fin p e below _ T124 (mkF m 107 #[SI p1, SI p2, SI p3, SI p4, SI p5, SI p6, SI (p1 &&& (3 : Int32)), SI 0, SR b101, SR b109, SR b9_122, SU, SU] [VI p5, VR b9_122, VI p4, VR b109, VI p3, VI 0, VR b124, VR b124])
    have z132 : h0.size ≤ T122.heap.size := Nat.le_trans z123 K122.1
    have u131 : n0 ≤ b124 := Nat.le_trans Z0 (Nat.le_trans z132 (Nat.le_of_eq g124.symm))
    have z134 : h0.size ≤ h124.size := Nat.le_trans z132 E124.1
    obtain ⟨_, T133, L133, X133, hQ133, st133⟩ := own_cI X124 hx hZ hown (WW hw 47) (WW hw 48) (WW hw 46) (WW hw 49) (rm11_1 l Z a0 hw [] b124 (0 : Int32) p3 b109 p4 b9_122 p5 h124 n0 (Nat.le_trans Z0 z134) A124 F125 u131 F126 F127 F128 F129 F130) e124 hml (g := (mkF m 107 #[SI p1, SI p2, SI p3, SI p4, SI p5, SI p6, SI (p1 &&& (3 : Int32)), SI 0, SR b101, SR b109, SR b9_122, SU, SU] [VI p5, VR b9_122, VI p4, VR b109, VI p3, VI 0, VR b124, VR b124])) pd6 (hb hby at_107) b124 [VI 0, VI p3, VR b109, VI p4, VR b9_122, VI p5] [VR b124] (W := 1)
    obtain ⟨rfl, N133q, K133, o0_133, o1_133, o2_133, o3_133, o4_133, o5_133, o6_133⟩ := hQ133
    have N133 := Fr.app N122 N133q
    refine own_go st133 ?_
    show own_Fin p e below _ T133 (mkF m 110 #[SI p1, SI p2, SI p3, SI p4, SI p5, SI p6, SI (p1 &&& (3 : Int32)), SI 0, SR b101, SR b109, SR b9_122, SU, SU] [VR b124])
    refine own_go (fun _ k => XS.astore X133.here hx rfl (hb hby at_110) rfl rfl (l' := #[SI p1, SI p2, SI p3, SI p4, SI p5, SI p6, SI (p1 &&& (3 : Int32)), SI 0, SR b101, SR b109, SR b9_122, SR b124, SU]) rfl (XS.aload X133.here hx rfl (hb hby at_112) rfl rfl k)) ?_
    show own_Fin p e below _ T133 (mkF m 114 #[SI p1, SI p2, SI p3, SI p4, SI p5, SI p6, SI (p1 &&& (3 : Int32)), SI 0, SR b101, SR b109, SR b9_122, SR b124, SU] [VR b124])
    have z136 : h0.size ≤ T133.heap.size := Nat.le_trans z134 K133.1
    obtain ⟨_, T135, L135, X135, hQ135, st135⟩ := own_cV X133 hx hZ hown (WW hw 68) (WW hw 69) (notFace_of_selects (args := #[]) (mvT hZ (WW hw 71))) (WW hw 71) (WW hw 70) (WW hw 46) (WW hw 72) (rm13_1 l Z a0 hw [] b124 p3 T133.heap n0 (Nat.le_trans Z0 z136) o1_133 o2_133) rfl o0_133 hml (g := (mkF m 114 #[SI p1, SI p2, SI p3, SI p4, SI p5, SI p6, SI (p1 &&& (3 : Int32)), SI 0, SR b101, SR b109, SR b9_122, SR b124, SU] [VR b124])) pd7 (hb hby at_114) [] [] (W := 0)
    obtain ⟨rfl, N135q, e135⟩ := hQ135
    have N135 := Fr.app N133 N135q
    refine own_go st135 ?_
    show own_Fin p e below _ T135 (mkF m 117 #[SI p1, SI p2, SI p3, SI p4, SI p5, SI p6, SI (p1 &&& (3 : Int32)), SI 0, SR b101, SR b109, SR b9_122, SR b124, SU] [VI p3])
    refine own_go (fun _ k => XS.istore X135.here hx rfl (hb hby at_117) rfl (l' := #[SI p1, SI p2, SI p3, SI p4, SI p5, SI p6, SI (p1 &&& (3 : Int32)), SI 0, SR b101, SR b109, SR b9_122, SR b124, SI p3]) rfl (XS.iload X135.here hx rfl (hb hby at_119) rfl (XS.ifYes X135.here hx rfl (pc0 := 121) (pc' := 137) rfl (hb hby at_121) rfl ((if0 _ _).trans (flt (by decide : ¬ ((0 : Int32) < (0 : Int32)))).2.2.2) (by decide) (by decide) (XS.iload X135.here hx rfl (hb hby at_137) rfl (XS.iloadN X135.here hx rfl (hb hby at_139) rfl (XS.icmpNo X135.here hx rfl (hb hby at_140) rfl (teq (rfl : p3 = p3)).2 (XS.iconst X135.here hx rfl (hb hby at_143) (XS.goto X135.here hx rfl (pc0 := 144) (pc' := 148) rfl (hb hby at_144) (by decide) (by decide) k)))))))) ?_
    show own_Fin p e below _ T135 (mkF m 148 #[SI p1, SI p2, SI p3, SI p4, SI p5, SI p6, SI (p1 &&& (3 : Int32)), SI 0, SR b101, SR b109, SR b9_122, SR b124, SI p3] [VI 1])
    obtain ⟨fs, hr, hrun, hended, hW, hsame⟩ := X135.leave (v := some (.int (1 : Int32))) (fun h => by rw [hret] at h; cases h)
    refine own_end (retN X135 hx (t := .boolean) hret (by simp) (hb hby at_148) hr) hrun hended ⟨_, _, rfl, ?_, ⟨_, rfl⟩, hW, hsame.mono (by decide) (by decide)⟩
    show Q0 n0 _ T135.heap _
    rw [e135]
    exact ⟨rfl, N135⟩
  ·
    by_cases hc1 : (p1 &&& (3 : Int32)) = (1 : Int32)
    ·
      refine own_go (fun _ k => XS.iloadN X0.here hx rfl (hb hby at_0) rfl (XS.iconst X0.here hx rfl (hb hby at_1) (XS.iand X0.here hx rfl (hb hby at_2) rfl (XS.istore X0.here hx rfl (hb hby at_3) rfl (l' := #[SI p1, SI p2, SI p3, SI p4, SI p5, SI p6, SI (p1 &&& (3 : Int32)), SU, SU, SU, SU, SU, SU]) rfl (XS.iload X0.here hx rfl (hb hby at_5) rfl (XS.ifYes X0.here hx rfl (pc0 := 7) (pc' := 14) rfl (hb hby at_7) rfl ((if0 _ _).trans (feq hc0).2) (by decide) (by decide) (XS.iload X0.here hx rfl (hb hby at_14) rfl (XS.iconst X0.here hx rfl (hb hby at_16) (XS.icmpNo X0.here hx rfl (hb hby at_17) rfl (teq hc1).2 (XS.iconst X0.here hx rfl (hb hby at_20) k)))))))))) ?_
      show own_Fin p e below _ s₁ (mkF m 21 #[SI p1, SI p2, SI p3, SI p4, SI p5, SI p6, SI (p1 &&& (3 : Int32)), SU, SU, SU, SU, SU, SU] [VI 1])
      refine own_go (fun _ k => XS.goto X0.here hx rfl (pc0 := 21) (pc' := 35) rfl (hb hby at_21) (by decide) (by decide) (XS.istore X0.here hx rfl (hb hby at_35) rfl (l' := #[SI p1, SI p2, SI p3, SI p4, SI p5, SI p6, SI (p1 &&& (3 : Int32)), SI 1, SU, SU, SU, SU, SU]) rfl (XS.iconst X0.here hx rfl (hb hby at_37) k))) ?_
      show own_Fin p e below _ s₁ (mkF m 38 #[SI p1, SI p2, SI p3, SI p4, SI p5, SI p6, SI (p1 &&& (3 : Int32)), SI 1, SU, SU, SU, SU, SU] [VI 2])
      obtain ⟨T101, h101, k101, X101, e101, E101, A101, st101⟩ := newP X0 hx hZ (WW hw 0) e0 (g := (mkF m 38 #[SI p1, SI p2, SI p3, SI p4, SI p5, SI p6, SI (p1 &&& (3 : Int32)), SI 1, SU, SU, SU, SU, SU] [VI 2])) rfl (hb hby at_38) rfl (by decide) (cap := 2) (by decide) (by decide) (by decide) (by decide)
      obtain ⟨b101, g101⟩ : ∃ z, z = h0.size := ⟨_, rfl⟩
      rw [← g101] at A101 st101
      have V101 : Arv Z h101 b101 k101 .char 2 [VI 0, VI 0] (VI 0) := (Arv.new A101 (by decide)).pad (pad_rep [] (.int (0 : Int32)) 2)
      refine own_go st101 ?_
      show own_Fin p e below _ T101 (mkF m 40 #[SI p1, SI p2, SI p3, SI p4, SI p5, SI p6, SI (p1 &&& (3 : Int32)), SI 1, SU, SU, SU, SU, SU] [VR b101])
      refine own_go (fun _ k => XS.astore X101.here hx rfl (hb hby at_40) rfl rfl (l' := #[SI p1, SI p2, SI p3, SI p4, SI p5, SI p6, SI (p1 &&& (3 : Int32)), SI 1, SR b101, SU, SU, SU, SU]) rfl (XS.aload X101.here hx rfl (hb hby at_42) rfl rfl (XS.iconst X101.here hx rfl (hb hby at_44) (XS.iload X101.here hx rfl (hb hby at_45) rfl (XS.sipush X101.here hx rfl (hb hby at_47) (XS.iand X101.here hx rfl (hb hby at_50) rfl (XS.i2c X101.here hx rfl (hb hby at_51) rfl k))))))) ?_
      show own_Fin p e below _ T101 (mkF m 52 #[SI p1, SI p2, SI p3, SI p4, SI p5, SI p6, SI (p1 &&& (3 : Int32)), SI 1, SR b101, SU, SU, SU, SU] [VI ((p6 &&& (255 : Int32)).toUInt32.toUInt16.toUInt32.toInt32), VI 0, VR b101])
      obtain ⟨cl102, Ar102, q102, Sz102, Nn102, Hs102, Gg102⟩ := id V101
      have i103 : ¬ ((0 : Int32) < 0 ∨ cl102.slots.size ≤ ((0 : Int32)).toNatClampNeg) := inb_of Sz102 ⟨(by decide : ¬ ((0 : Int32) < (0 : Int32))), (by decide : (0 : Int32) < (2 : Int32))⟩
      obtain ⟨T104, h104, X104, e104, W104, st104⟩ := stC X101 hx hZ e101 Ar102 (j := (0 : Int32)) i103 (g := (mkF m 52 #[SI p1, SI p2, SI p3, SI p4, SI p5, SI p6, SI (p1 &&& (3 : Int32)), SI 1, SR b101, SU, SU, SU, SU] [VI ((p6 &&& (255 : Int32)).toUInt32.toUInt16.toUInt32.toInt32), VI 0, VR b101])) rfl rfl (hb hby at_52)
      have u105 : n0 ≤ b101 := Nat.le_trans Z0 (Nat.le_of_eq g101.symm)
      have N104 := Fr.snoc X104 N0 u105
      have V104 : Arv Z h104 b101 k101 .char 2 [VI (nar .char ((p6 &&& (255 : Int32)).toUInt32.toUInt16.toUInt32.toInt32)), VI 0] (VI 0) := Arv.set Ar102 q102 Sz102 Nn102 Hs102 Gg102 (fits_nar_char _) W104 0 rfl (Nat.le_of_ble_eq_true rfl)
      refine own_go st104 ?_
      show own_Fin p e below _ T104 (mkF m 53 #[SI p1, SI p2, SI p3, SI p4, SI p5, SI p6, SI (p1 &&& (3 : Int32)), SI 1, SR b101, SU, SU, SU, SU] [])
      refine own_go (fun _ k => XS.aload X104.here hx rfl (hb hby at_53) rfl rfl (XS.iconst X104.here hx rfl (hb hby at_55) (XS.iload X104.here hx rfl (hb hby at_56) rfl (XS.bipush X104.here hx rfl (hb hby at_58) (XS.iushr X104.here hx rfl (hb hby at_60) rfl (XS.sipush X104.here hx rfl (hb hby at_61) (XS.iand X104.here hx rfl (hb hby at_64) rfl (XS.i2c X104.here hx rfl (hb hby at_65) rfl k)))))))) ?_
      show own_Fin p e below _ T104 (mkF m 66 #[SI p1, SI p2, SI p3, SI p4, SI p5, SI p6, SI (p1 &&& (3 : Int32)), SI 1, SR b101, SU, SU, SU, SU] [VI ((((p6.toUInt32 >>> ((8 : Int32) &&& 31).toUInt32).toInt32) &&& (255 : Int32)).toUInt32.toUInt16.toUInt32.toInt32), VI 1, VR b101])
      obtain ⟨cl106, Ar106, q106, Sz106, Nn106, Hs106, Gg106⟩ := id V104
      have i107 : ¬ ((1 : Int32) < 0 ∨ cl106.slots.size ≤ ((1 : Int32)).toNatClampNeg) := inb_of Sz106 ⟨(by decide : ¬ ((1 : Int32) < (0 : Int32))), (by decide : (1 : Int32) < (2 : Int32))⟩
      obtain ⟨T108, h108, X108, e108, W108, st108⟩ := stC X104 hx hZ e104 Ar106 (j := (1 : Int32)) i107 (g := (mkF m 66 #[SI p1, SI p2, SI p3, SI p4, SI p5, SI p6, SI (p1 &&& (3 : Int32)), SI 1, SR b101, SU, SU, SU, SU] [VI ((((p6.toUInt32 >>> ((8 : Int32) &&& 31).toUInt32).toInt32) &&& (255 : Int32)).toUInt32.toUInt16.toUInt32.toInt32), VI 1, VR b101])) rfl rfl (hb hby at_66)
      have N108 := Fr.snoc X108 N104 u105
      have V108 : Arv Z h108 b101 k101 .char 2 [VI (nar .char ((p6 &&& (255 : Int32)).toUInt32.toUInt16.toUInt32.toInt32)), VI (nar .char ((((p6.toUInt32 >>> ((8 : Int32) &&& 31).toUInt32).toInt32) &&& (255 : Int32)).toUInt32.toUInt16.toUInt32.toInt32))] (VI 0) := Arv.set Ar106 q106 Sz106 Nn106 Hs106 Gg106 (fits_nar_char _) W108 1 rfl (Nat.le_of_ble_eq_true rfl)
      refine own_go st108 ?_
      show own_Fin p e below _ T108 (mkF m 67 #[SI p1, SI p2, SI p3, SI p4, SI p5, SI p6, SI (p1 &&& (3 : Int32)), SI 1, SR b101, SU, SU, SU, SU] [])
      obtain ⟨T109, h109, X109, e109, E109, A109, D109, -, st109⟩ := newO X108 hx hZ hown (WW hw 1) (WW hw 2) (WW hw 3) e108 (g := (mkF m 67 #[SI p1, SI p2, SI p3, SI p4, SI p5, SI p6, SI (p1 &&& (3 : Int32)), SI 1, SR b101, SU, SU, SU, SU] [])) rfl (hb hby at_67) (by decide) (by decide)
      obtain ⟨b109, g109⟩ : ∃ z, z = h108.size := ⟨_, rfl⟩
      rw [← g109] at A109 D109 st109
      have F110 : Fld Z h109 b109 cC0 "coder" "B" (VI 0) := D109 (Or.inr (WW hw 27)) (ty := .byte) (by decide)
      have F111 : Fld Z h109 b109 cC0 "value" "[B" (.null) := D109 (Or.inr (WW hw 29)) (ty := (.array .byte)) (by decide)
      refine own_go st109 ?_
      show own_Fin p e below _ T109 (mkF m 70 #[SI p1, SI p2, SI p3, SI p4, SI p5, SI p6, SI (p1 &&& (3 : Int32)), SI 1, SR b101, SU, SU, SU, SU] [VR b109])
      refine own_go (fun _ k => XS.dup X109.here hx rfl (hb hby at_70) rfl rfl (XS.aload X109.here hx rfl (hb hby at_71) rfl rfl k)) ?_
      show own_Fin p e below _ T109 (mkF m 73 #[SI p1, SI p2, SI p3, SI p4, SI p5, SI p6, SI (p1 &&& (3 : Int32)), SI 1, SR b101, SU, SU, SU, SU] [VR b101, VR b109, VR b109])
      have F112 : Arv Z h109 b101 k101 .char 2 [VI (nar .char ((p6 &&& (255 : Int32)).toUInt32.toUInt16.toUInt32.toInt32)), VI (nar .char ((((p6.toUInt32 >>> ((8 : Int32) &&& 31).toUInt32).toInt32) &&& (255 : Int32)).toUInt32.toUInt16.toUInt32.toInt32))] (VI 0) := (V108.ext E109)
      have O114 : Old Z n0 h109 := ((((X00.ext E101).wr W104 u105).wr W108 u105).ext E109)
      have hws : ∀ d ∈ StrChars.Road.words, d.before a0 Z = true := fun d hd => hw d ((by decide +kernel : ∀ d ∈ StrChars.Road.words, d ∈ tables_1) d hd)
      have hp115 : ∀ c ∈ ([(nar .char ((p6 &&& (255 : Int32)).toUInt32.toUInt16.toUInt32.toInt32)), (nar .char ((((p6.toUInt32 >>> ((8 : Int32) &&& 31).toUInt32).toInt32) &&& (255 : Int32)).toUInt32.toUInt16.toUInt32.toInt32))] : List Int32), ¬ c < 0 ∧ ¬ (255 : Int32) < c := (own_allS (own_and255 p6) (own_allS (own_and255 ((p6.toUInt32 >>> ((8 : Int32) &&& 31).toUInt32).toInt32)) own_all0))
      have z117 : h0.size ≤ h101.size := E101.1
      have z118 : h0.size ≤ h104.size := Nat.le_trans z117 (Nat.le_of_eq (Wr.size W104).symm)
      have z119 : h0.size ≤ h108.size := Nat.le_trans z118 (Nat.le_of_eq (Wr.size W108).symm)
      have u116 : n0 ≤ b109 := Nat.le_trans Z0 (Nat.le_trans z119 (Nat.le_of_eq g109.symm))
      have z120 : h0.size ≤ h109.size := Nat.le_trans z119 E109.1
      obtain ⟨_, _, ⟨T113, L113, k113, n113⟩, -, X113, ⟨Lc113, hQ113, l113, y113, z113⟩, st113⟩ := X109.specialBack hx (y := yM0) rfl hown (mvT hZ (WW hw 4)) (mvT hZ (WW hw 5)) (mvT hZ (WW hw 6)) (by decide) (StrChars.Road.backV (W := 1) hZ hws (kI := 4) (WW hw 2) (cs := ([(nar .char ((p6 &&& (255 : Int32)).toUInt32.toUInt16.toUInt32.toInt32)), (nar .char ((((p6.toUInt32 >>> ((8 : Int32) &&& 31).toUInt32).toInt32) &&& (255 : Int32)).toUInt32.toUInt16.toUInt32.toInt32))] : List Int32)) (bs := ([(nar .char ((p6 &&& (255 : Int32)).toUInt32.toUInt16.toUInt32.toInt32)), (nar .char ((((p6.toUInt32 >>> ((8 : Int32) &&& 31).toUInt32).toInt32) &&& (255 : Int32)).toUInt32.toUInt16.toUInt32.toInt32))] : List Int32).map (fun c => c.toInt8.toInt32)) (n := 2) u116 (Nat.le_trans Z0 z120) A109 F111 F110 F112 (O_G1.ext O114.2) P_G1 rfl rfl (by decide) (by decide) hp115 rfl (by decide) (by decide)) (g := (mkF m 73 #[SI p1, SI p2, SI p3, SI p4, SI p5, SI p6, SI (p1 &&& (3 : Int32)), SI 1, SR b101, SU, SU, SU, SU] [VR b101, VR b109, VR b109])) rfl (by rw [hml]; rfl) (Steps.refl _) (a := b109) (argsL := [VR b101]) (rest := [VR b109]) (lenOf pd0 rfl) rfl (by show 2 * 0 + _ ≤ _; exact Nat.le_of_eq rfl) (hb hby at_73) (fun _ _ => ⟨rfl, e109, (by decide : 2 + 1 ≤ _), (by decide : 6 + 2 ≤ _)⟩)
      dsimp only [Pt.U, Pt.locs, Pt.cells, Pt.slots] at X113 l113 y113 z113 st113 hQ113
      subst l113 y113 z113
      obtain ⟨rfl, N113q, K113, oE113, oC113, t113, kb113, -, lo113, nt113, oV113, oA113⟩ := hQ113
      have N113 := Fr.app N108 N113q
      refine own_go (fun _ k => st113.trans k) ?_
      show own_Fin p e below _ T113 (mkF m 76 #[SI p1, SI p2, SI p3, SI p4, SI p5, SI p6, SI (p1 &&& (3 : Int32)), SI 1, SR b101, SU, SU, SU, SU] [VR b109])
      refine own_go (fun _ k => XS.astore X113.here hx rfl (hb hby at_76) rfl rfl (l' := #[SI p1, SI p2, SI p3, SI p4, SI p5, SI p6, SI (p1 &&& (3 : Int32)), SI 1, SR b101, SR b109, SU, SU, SU]) rfl (XS.iload X113.here hx rfl (hb hby at_78) rfl (XS.bipush X113.here hx rfl (hb hby at_80) (XS.iushr X113.here hx rfl (hb hby at_82) rfl (XS.sipush X113.here hx rfl (hb hby at_83) (XS.iand X113.here hx rfl (hb hby at_86) rfl (XS.i2c X113.here hx rfl (hb hby at_87) rfl k))))))) ?_
      show own_Fin p e below _ T113 (mkF m 88 #[SI p1, SI p2, SI p3, SI p4, SI p5, SI p6, SI (p1 &&& (3 : Int32)), SI 1, SR b101, SR b109, SU, SU, SU] [VI ((((p6.toUInt32 >>> ((16 : Int32) &&& 31).toUInt32).toInt32) &&& (255 : Int32)).toUInt32.toUInt16.toUInt32.toInt32)])
      have O121 : Old Z n0 T113.heap := (O114.keep K113 (allS u116 all0))
      have z123 : h0.size ≤ T113.heap.size := Nat.le_trans z120 K113.1
      obtain ⟨_, T122, L122, X122, hQ122, st122⟩ := own_cS X113 hx hZ hown (WW hw 30) (WW hw 31) (WW hw 3) (WW hw 32) (rm7_1 l Z a0 hw [] ((((p6.toUInt32 >>> ((16 : Int32) &&& 31).toUInt32).toInt32) &&& (255 : Int32)).toUInt32.toUInt16.toUInt32.toInt32) G1 T113.heap n0 (Nat.le_trans Z0 z123) O_G1 O121 P_G1 (own_c255 ((p6.toUInt32 >>> ((16 : Int32) &&& 31).toUInt32).toInt32)).2) rfl hml (g := (mkF m 88 #[SI p1, SI p2, SI p3, SI p4, SI p5, SI p6, SI (p1 &&& (3 : Int32)), SI 1, SR b101, SR b109, SU, SU, SU] [VI ((((p6.toUInt32 >>> ((16 : Int32) &&& 31).toUInt32).toInt32) &&& (255 : Int32)).toUInt32.toUInt16.toUInt32.toInt32)])) pd4 (hb hby at_88) [VI ((((p6.toUInt32 >>> ((16 : Int32) &&& 31).toUInt32).toInt32) &&& (255 : Int32)).toUInt32.toUInt16.toUInt32.toInt32)] [] (W := 0)
      obtain ⟨b9_122, b2_12_122, k2_12_122, rfl, N122q, K122, lob9_122, lob2_12_122, neb9b2_12_122, o0_122, o1_122, o2_122, o3_122⟩ := hQ122
      have N122 := Fr.app N113 N122q
      refine own_go st122 ?_
      show own_Fin p e below _ T122 (mkF m 91 #[SI p1, SI p2, SI p3, SI p4, SI p5, SI p6, SI (p1 &&& (3 : Int32)), SI 1, SR b101, SR b109, SU, SU, SU] [VR b9_122])
      refine own_go (fun _ k => XS.astore X122.here hx rfl (hb hby at_91) rfl rfl (l' := #[SI p1, SI p2, SI p3, SI p4, SI p5, SI p6, SI (p1 &&& (3 : Int32)), SI 1, SR b101, SR b109, SR b9_122, SU, SU]) rfl k) ?_
      show own_Fin p e below _ T122 (mkF m 93 #[SI p1, SI p2, SI p3, SI p4, SI p5, SI p6, SI (p1 &&& (3 : Int32)), SI 1, SR b101, SR b109, SR b9_122, SU, SU] [])
      obtain ⟨T124, h124, X124, e124, E124, A124, D124, -, st124⟩ := newO X122 hx hZ hown (WW hw 44) (WW hw 45) (WW hw 46) rfl (g := (mkF m 93 #[SI p1, SI p2, SI p3, SI p4, SI p5, SI p6, SI (p1 &&& (3 : Int32)), SI 1, SR b101, SR b109, SR b9_122, SU, SU] [])) rfl (hb hby at_93) (by decide) (by decide)
      obtain ⟨b124, g124⟩ : ∃ z, z = T122.heap.size := ⟨_, rfl⟩
      rw [← g124] at A124 D124 st124
      have F125 : Fld Z h124 b124 cC2 "number" "I" (VI 0) := D124 (Or.inr (WW hw 57)) (ty := .int) (by decide)
      have F126 : Fld Z h124 b124 cC2 "misread" "I" (VI 0) := D124 (Or.inr (WW hw 59)) (ty := .int) (by decide)
      have F127 : Fld Z h124 b124 cC2 "printed" cC3 (.null) := D124 (Or.inr (WW hw 61)) (ty := (.object "java/lang/String")) (by decide)
      have F128 : Fld Z h124 b124 cC2 "line" "I" (VI 0) := D124 (Or.inr (WW hw 63)) (ty := .int) (by decide)
      have F129 : Fld Z h124 b124 cC2 "title" cC3 (.null) := D124 (Or.inr (WW hw 65)) (ty := (.object "java/lang/String")) (by decide)
      have F130 : Fld Z h124 b124 cC2 "headingLines" "I" (VI 0) := D124 (Or.inr (WW hw 67)) (ty := .int) (by decide)
      refine own_go st124 ?_
      show own_Fin p e below _ T124 (mkF m 96 #[SI p1, SI p2, SI p3, SI p4, SI p5, SI p6, SI (p1 &&& (3 : Int32)), SI 1, SR b101, SR b109, SR b9_122, SU, SU] [VR b124])
      refine own_go (fun _ k => XS.dup X124.here hx rfl (hb hby at_96) rfl rfl (XS.iload X124.here hx rfl (hb hby at_97) rfl (XS.iloadN X124.here hx rfl (hb hby at_99) rfl (XS.aload X124.here hx rfl (hb hby at_100) rfl rfl (XS.iloadN X124.here hx rfl (hb hby at_102) rfl (XS.aload X124.here hx rfl (hb hby at_103) rfl rfl (XS.iload X124.here hx rfl (hb hby at_105) rfl k))))))) ?_
      show own_Fin p e below _ T124 (mkF m 107 #[SI p1, SI p2, SI p3, SI p4, SI p5, SI p6, SI (p1 &&& (3 : Int32)), SI 1, SR b101, SR b109, SR b9_122, SU, SU] [VI p5, VR b9_122, VI p4, VR b109, VI p3, VI 1, VR b124, VR b124])
      have z133 : h0.size ≤ T122.heap.size := Nat.le_trans z123 K122.1
      have u132 : n0 ≤ b124 := Nat.le_trans Z0 (Nat.le_trans z133 (Nat.le_of_eq g124.symm))
      have z134 : h0.size ≤ h124.size := Nat.le_trans z133 E124.1
      obtain ⟨_, T131, L131, X131, hQ131, st131⟩ := own_cI X124 hx hZ hown (WW hw 47) (WW hw 48) (WW hw 46) (WW hw 49) (rm11_1 l Z a0 hw [] b124 (1 : Int32) p3 b109 p4 b9_122 p5 h124 n0 (Nat.le_trans Z0 z134) A124 F125 u132 F126 F127 F128 F129 F130) e124 hml (g := (mkF m 107 #[SI p1, SI p2, SI p3, SI p4, SI p5, SI p6, SI (p1 &&& (3 : Int32)), SI 1, SR b101, SR b109, SR b9_122, SU, SU] [VI p5, VR b9_122, VI p4, VR b109, VI p3, VI 1, VR b124, VR b124])) pd6 (hb hby at_107) b124 [VI 1, VI p3, VR b109, VI p4, VR b9_122, VI p5] [VR b124] (W := 1)
      obtain ⟨rfl, N131q, K131, o0_131, o1_131, o2_131, o3_131, o4_131, o5_131, o6_131⟩ := hQ131
      have N131 := Fr.app N122 N131q
      refine own_go st131 ?_
      show own_Fin p e below _ T131 (mkF m 110 #[SI p1, SI p2, SI p3, SI p4, SI p5, SI p6, SI (p1 &&& (3 : Int32)), SI 1, SR b101, SR b109, SR b9_122, SU, SU] [VR b124])
      refine own_go (fun _ k => XS.astore X131.here hx rfl (hb hby at_110) rfl rfl (l' := #[SI p1, SI p2, SI p3, SI p4, SI p5, SI p6, SI (p1 &&& (3 : Int32)), SI 1, SR b101, SR b109, SR b9_122, SR b124, SU]) rfl (XS.aload X131.here hx rfl (hb hby at_112) rfl rfl k)) ?_
      show own_Fin p e below _ T131 (mkF m 114 #[SI p1, SI p2, SI p3, SI p4, SI p5, SI p6, SI (p1 &&& (3 : Int32)), SI 1, SR b101, SR b109, SR b9_122, SR b124, SU] [VR b124])
      have z136 : h0.size ≤ T131.heap.size := Nat.le_trans z134 K131.1
      obtain ⟨_, T135, L135, X135, hQ135, st135⟩ := own_cV X131 hx hZ hown (WW hw 68) (WW hw 69) (notFace_of_selects (args := #[]) (mvT hZ (WW hw 71))) (WW hw 71) (WW hw 70) (WW hw 46) (WW hw 72) (rm13_2 l Z a0 hw [] b124 T131.heap n0 (Nat.le_trans Z0 z136) o1_131) rfl o0_131 hml (g := (mkF m 114 #[SI p1, SI p2, SI p3, SI p4, SI p5, SI p6, SI (p1 &&& (3 : Int32)), SI 1, SR b101, SR b109, SR b9_122, SR b124, SU] [VR b124])) pd7 (hb hby at_114) [] [] (W := 0)
      obtain ⟨rfl, N135q, e135⟩ := hQ135
      have N135 := Fr.app N131 N135q
      refine own_go st135 ?_
      show own_Fin p e below _ T135 (mkF m 117 #[SI p1, SI p2, SI p3, SI p4, SI p5, SI p6, SI (p1 &&& (3 : Int32)), SI 1, SR b101, SR b109, SR b9_122, SR b124, SU] [VI 1])
      refine own_go (fun _ k => XS.istore X135.here hx rfl (hb hby at_117) rfl (l' := #[SI p1, SI p2, SI p3, SI p4, SI p5, SI p6, SI (p1 &&& (3 : Int32)), SI 1, SR b101, SR b109, SR b9_122, SR b124, SI 1]) rfl (XS.iload X135.here hx rfl (hb hby at_119) rfl (XS.ifNo X135.here hx rfl (hb hby at_121) rfl ((if0 _ _).trans (tlt (by decide : (0 : Int32) < (1 : Int32))).2.2.2) (XS.iload X135.here hx rfl (hb hby at_124) rfl (XS.iload X135.here hx rfl (hb hby at_126) rfl (XS.icmpNo X135.here hx rfl (hb hby at_128) rfl (teq (by decide : (1 : Int32) = (1 : Int32))).2 (XS.iconst X135.here hx rfl (hb hby at_131) (XS.goto X135.here hx rfl (pc0 := 132) (pc' := 136) rfl (hb hby at_132) (by decide) (by decide) k)))))))) ?_
      show own_Fin p e below _ T135 (mkF m 136 #[SI p1, SI p2, SI p3, SI p4, SI p5, SI p6, SI (p1 &&& (3 : Int32)), SI 1, SR b101, SR b109, SR b9_122, SR b124, SI 1] [VI 1])
      obtain ⟨fs, hr, hrun, hended, hW, hsame⟩ := X135.leave (v := some (.int (1 : Int32))) (fun h => by rw [hret] at h; cases h)
      refine own_end (retN X135 hx (t := .boolean) hret (by simp) (hb hby at_136) hr) hrun hended ⟨_, _, rfl, ?_, ⟨_, rfl⟩, hW, hsame.mono (by decide) (by decide)⟩
      show Q0 n0 _ T135.heap _
      rw [e135]
      exact ⟨rfl, N135⟩
    ·
      refine own_go (fun _ k => XS.iloadN X0.here hx rfl (hb hby at_0) rfl (XS.iconst X0.here hx rfl (hb hby at_1) (XS.iand X0.here hx rfl (hb hby at_2) rfl (XS.istore X0.here hx rfl (hb hby at_3) rfl (l' := #[SI p1, SI p2, SI p3, SI p4, SI p5, SI p6, SI (p1 &&& (3 : Int32)), SU, SU, SU, SU, SU, SU]) rfl (XS.iload X0.here hx rfl (hb hby at_5) rfl (XS.ifYes X0.here hx rfl (pc0 := 7) (pc' := 14) rfl (hb hby at_7) rfl ((if0 _ _).trans (feq hc0).2) (by decide) (by decide) (XS.iload X0.here hx rfl (hb hby at_14) rfl (XS.iconst X0.here hx rfl (hb hby at_16) (XS.icmpYes X0.here hx rfl (pc0 := 17) (pc' := 24) rfl (hb hby at_17) rfl (feq hc1).2 (by decide) (by decide) (XS.iload X0.here hx rfl (hb hby at_24) rfl k)))))))))) ?_
      show own_Fin p e below _ s₁ (mkF m 26 #[SI p1, SI p2, SI p3, SI p4, SI p5, SI p6, SI (p1 &&& (3 : Int32)), SU, SU, SU, SU, SU, SU] [VI (p1 &&& (3 : Int32))])
      by_cases hc2 : (p1 &&& (3 : Int32)) = (2 : Int32)
      ·
        refine own_go (fun _ k => XS.iconst X0.here hx rfl (hb hby at_26) (XS.icmpNo X0.here hx rfl (hb hby at_27) rfl (teq hc2).2 (XS.iconst X0.here hx rfl (hb hby at_30) (XS.goto X0.here hx rfl (pc0 := 31) (pc' := 35) rfl (hb hby at_31) (by decide) (by decide) (XS.istore X0.here hx rfl (hb hby at_35) rfl (l' := #[SI p1, SI p2, SI p3, SI p4, SI p5, SI p6, SI (p1 &&& (3 : Int32)), SI (-1), SU, SU, SU, SU, SU]) rfl (XS.iconst X0.here hx rfl (hb hby at_37) k)))))) ?_
        show own_Fin p e below _ s₁ (mkF m 38 #[SI p1, SI p2, SI p3, SI p4, SI p5, SI p6, SI (p1 &&& (3 : Int32)), SI (-1), SU, SU, SU, SU, SU] [VI 2])
        obtain ⟨T101, h101, k101, X101, e101, E101, A101, st101⟩ := newP X0 hx hZ (WW hw 0) e0 (g := (mkF m 38 #[SI p1, SI p2, SI p3, SI p4, SI p5, SI p6, SI (p1 &&& (3 : Int32)), SI (-1), SU, SU, SU, SU, SU] [VI 2])) rfl (hb hby at_38) rfl (by decide) (cap := 2) (by decide) (by decide) (by decide) (by decide)
        obtain ⟨b101, g101⟩ : ∃ z, z = h0.size := ⟨_, rfl⟩
        rw [← g101] at A101 st101
        have V101 : Arv Z h101 b101 k101 .char 2 [VI 0, VI 0] (VI 0) := (Arv.new A101 (by decide)).pad (pad_rep [] (.int (0 : Int32)) 2)
        refine own_go st101 ?_
        show own_Fin p e below _ T101 (mkF m 40 #[SI p1, SI p2, SI p3, SI p4, SI p5, SI p6, SI (p1 &&& (3 : Int32)), SI (-1), SU, SU, SU, SU, SU] [VR b101])
        refine own_go (fun _ k => XS.astore X101.here hx rfl (hb hby at_40) rfl rfl (l' := #[SI p1, SI p2, SI p3, SI p4, SI p5, SI p6, SI (p1 &&& (3 : Int32)), SI (-1), SR b101, SU, SU, SU, SU]) rfl (XS.aload X101.here hx rfl (hb hby at_42) rfl rfl (XS.iconst X101.here hx rfl (hb hby at_44) (XS.iload X101.here hx rfl (hb hby at_45) rfl (XS.sipush X101.here hx rfl (hb hby at_47) (XS.iand X101.here hx rfl (hb hby at_50) rfl (XS.i2c X101.here hx rfl (hb hby at_51) rfl k))))))) ?_
        show own_Fin p e below _ T101 (mkF m 52 #[SI p1, SI p2, SI p3, SI p4, SI p5, SI p6, SI (p1 &&& (3 : Int32)), SI (-1), SR b101, SU, SU, SU, SU] [VI ((p6 &&& (255 : Int32)).toUInt32.toUInt16.toUInt32.toInt32), VI 0, VR b101])
        obtain ⟨cl102, Ar102, q102, Sz102, Nn102, Hs102, Gg102⟩ := id V101
        have i103 : ¬ ((0 : Int32) < 0 ∨ cl102.slots.size ≤ ((0 : Int32)).toNatClampNeg) := inb_of Sz102 ⟨(by decide : ¬ ((0 : Int32) < (0 : Int32))), (by decide : (0 : Int32) < (2 : Int32))⟩
        obtain ⟨T104, h104, X104, e104, W104, st104⟩ := stC X101 hx hZ e101 Ar102 (j := (0 : Int32)) i103 (g := (mkF m 52 #[SI p1, SI p2, SI p3, SI p4, SI p5, SI p6, SI (p1 &&& (3 : Int32)), SI (-1), SR b101, SU, SU, SU, SU] [VI ((p6 &&& (255 : Int32)).toUInt32.toUInt16.toUInt32.toInt32), VI 0, VR b101])) rfl rfl (hb hby at_52)
        have u105 : n0 ≤ b101 := Nat.le_trans Z0 (Nat.le_of_eq g101.symm)
        have N104 := Fr.snoc X104 N0 u105
        have V104 : Arv Z h104 b101 k101 .char 2 [VI (nar .char ((p6 &&& (255 : Int32)).toUInt32.toUInt16.toUInt32.toInt32)), VI 0] (VI 0) := Arv.set Ar102 q102 Sz102 Nn102 Hs102 Gg102 (fits_nar_char _) W104 0 rfl (Nat.le_of_ble_eq_true rfl)
        refine own_go st104 ?_
        show own_Fin p e below _ T104 (mkF m 53 #[SI p1, SI p2, SI p3, SI p4, SI p5, SI p6, SI (p1 &&& (3 : Int32)), SI (-1), SR b101, SU, SU, SU, SU] [])
        refine own_go (fun _ k => XS.aload X104.here hx rfl (hb hby at_53) rfl rfl (XS.iconst X104.here hx rfl (hb hby at_55) (XS.iload X104.here hx rfl (hb hby at_56) rfl (XS.bipush X104.here hx rfl (hb hby at_58) (XS.iushr X104.here hx rfl (hb hby at_60) rfl (XS.sipush X104.here hx rfl (hb hby at_61) (XS.iand X104.here hx rfl (hb hby at_64) rfl (XS.i2c X104.here hx rfl (hb hby at_65) rfl k)))))))) ?_
        show own_Fin p e below _ T104 (mkF m 66 #[SI p1, SI p2, SI p3, SI p4, SI p5, SI p6, SI (p1 &&& (3 : Int32)), SI (-1), SR b101, SU, SU, SU, SU] [VI ((((p6.toUInt32 >>> ((8 : Int32) &&& 31).toUInt32).toInt32) &&& (255 : Int32)).toUInt32.toUInt16.toUInt32.toInt32), VI 1, VR b101])
        obtain ⟨cl106, Ar106, q106, Sz106, Nn106, Hs106, Gg106⟩ := id V104
        have i107 : ¬ ((1 : Int32) < 0 ∨ cl106.slots.size ≤ ((1 : Int32)).toNatClampNeg) := inb_of Sz106 ⟨(by decide : ¬ ((1 : Int32) < (0 : Int32))), (by decide : (1 : Int32) < (2 : Int32))⟩
        obtain ⟨T108, h108, X108, e108, W108, st108⟩ := stC X104 hx hZ e104 Ar106 (j := (1 : Int32)) i107 (g := (mkF m 66 #[SI p1, SI p2, SI p3, SI p4, SI p5, SI p6, SI (p1 &&& (3 : Int32)), SI (-1), SR b101, SU, SU, SU, SU] [VI ((((p6.toUInt32 >>> ((8 : Int32) &&& 31).toUInt32).toInt32) &&& (255 : Int32)).toUInt32.toUInt16.toUInt32.toInt32), VI 1, VR b101])) rfl rfl (hb hby at_66)
        have N108 := Fr.snoc X108 N104 u105
        have V108 : Arv Z h108 b101 k101 .char 2 [VI (nar .char ((p6 &&& (255 : Int32)).toUInt32.toUInt16.toUInt32.toInt32)), VI (nar .char ((((p6.toUInt32 >>> ((8 : Int32) &&& 31).toUInt32).toInt32) &&& (255 : Int32)).toUInt32.toUInt16.toUInt32.toInt32))] (VI 0) := Arv.set Ar106 q106 Sz106 Nn106 Hs106 Gg106 (fits_nar_char _) W108 1 rfl (Nat.le_of_ble_eq_true rfl)
        refine own_go st108 ?_
        show own_Fin p e below _ T108 (mkF m 67 #[SI p1, SI p2, SI p3, SI p4, SI p5, SI p6, SI (p1 &&& (3 : Int32)), SI (-1), SR b101, SU, SU, SU, SU] [])
        obtain ⟨T109, h109, X109, e109, E109, A109, D109, -, st109⟩ := newO X108 hx hZ hown (WW hw 1) (WW hw 2) (WW hw 3) e108 (g := (mkF m 67 #[SI p1, SI p2, SI p3, SI p4, SI p5, SI p6, SI (p1 &&& (3 : Int32)), SI (-1), SR b101, SU, SU, SU, SU] [])) rfl (hb hby at_67) (by decide) (by decide)
        obtain ⟨b109, g109⟩ : ∃ z, z = h108.size := ⟨_, rfl⟩
        rw [← g109] at A109 D109 st109
        have F110 : Fld Z h109 b109 cC0 "coder" "B" (VI 0) := D109 (Or.inr (WW hw 27)) (ty := .byte) (by decide)
        have F111 : Fld Z h109 b109 cC0 "value" "[B" (.null) := D109 (Or.inr (WW hw 29)) (ty := (.array .byte)) (by decide)
        refine own_go st109 ?_
        show own_Fin p e below _ T109 (mkF m 70 #[SI p1, SI p2, SI p3, SI p4, SI p5, SI p6, SI (p1 &&& (3 : Int32)), SI (-1), SR b101, SU, SU, SU, SU] [VR b109])
        refine own_go (fun _ k => XS.dup X109.here hx rfl (hb hby at_70) rfl rfl (XS.aload X109.here hx rfl (hb hby at_71) rfl rfl k)) ?_
        show own_Fin p e below _ T109 (mkF m 73 #[SI p1, SI p2, SI p3, SI p4, SI p5, SI p6, SI (p1 &&& (3 : Int32)), SI (-1), SR b101, SU, SU, SU, SU] [VR b101, VR b109, VR b109])
        have F112 : Arv Z h109 b101 k101 .char 2 [VI (nar .char ((p6 &&& (255 : Int32)).toUInt32.toUInt16.toUInt32.toInt32)), VI (nar .char ((((p6.toUInt32 >>> ((8 : Int32) &&& 31).toUInt32).toInt32) &&& (255 : Int32)).toUInt32.toUInt16.toUInt32.toInt32))] (VI 0) := (V108.ext E109)
        have O114 : Old Z n0 h109 := ((((X00.ext E101).wr W104 u105).wr W108 u105).ext E109)
        have hws : ∀ d ∈ StrChars.Road.words, d.before a0 Z = true := fun d hd => hw d ((by decide +kernel : ∀ d ∈ StrChars.Road.words, d ∈ tables_1) d hd)
        have hp115 : ∀ c ∈ ([(nar .char ((p6 &&& (255 : Int32)).toUInt32.toUInt16.toUInt32.toInt32)), (nar .char ((((p6.toUInt32 >>> ((8 : Int32) &&& 31).toUInt32).toInt32) &&& (255 : Int32)).toUInt32.toUInt16.toUInt32.toInt32))] : List Int32), ¬ c < 0 ∧ ¬ (255 : Int32) < c := (own_allS (own_and255 p6) (own_allS (own_and255 ((p6.toUInt32 >>> ((8 : Int32) &&& 31).toUInt32).toInt32)) own_all0))
        have z117 : h0.size ≤ h101.size := E101.1
        have z118 : h0.size ≤ h104.size := Nat.le_trans z117 (Nat.le_of_eq (Wr.size W104).symm)
        have z119 : h0.size ≤ h108.size := Nat.le_trans z118 (Nat.le_of_eq (Wr.size W108).symm)
        have u116 : n0 ≤ b109 := Nat.le_trans Z0 (Nat.le_trans z119 (Nat.le_of_eq g109.symm))
        have z120 : h0.size ≤ h109.size := Nat.le_trans z119 E109.1
        obtain ⟨_, _, ⟨T113, L113, k113, n113⟩, -, X113, ⟨Lc113, hQ113, l113, y113, z113⟩, st113⟩ := X109.specialBack hx (y := yM0) rfl hown (mvT hZ (WW hw 4)) (mvT hZ (WW hw 5)) (mvT hZ (WW hw 6)) (by decide) (StrChars.Road.backV (W := 1) hZ hws (kI := 4) (WW hw 2) (cs := ([(nar .char ((p6 &&& (255 : Int32)).toUInt32.toUInt16.toUInt32.toInt32)), (nar .char ((((p6.toUInt32 >>> ((8 : Int32) &&& 31).toUInt32).toInt32) &&& (255 : Int32)).toUInt32.toUInt16.toUInt32.toInt32))] : List Int32)) (bs := ([(nar .char ((p6 &&& (255 : Int32)).toUInt32.toUInt16.toUInt32.toInt32)), (nar .char ((((p6.toUInt32 >>> ((8 : Int32) &&& 31).toUInt32).toInt32) &&& (255 : Int32)).toUInt32.toUInt16.toUInt32.toInt32))] : List Int32).map (fun c => c.toInt8.toInt32)) (n := 2) u116 (Nat.le_trans Z0 z120) A109 F111 F110 F112 (O_G1.ext O114.2) P_G1 rfl rfl (by decide) (by decide) hp115 rfl (by decide) (by decide)) (g := (mkF m 73 #[SI p1, SI p2, SI p3, SI p4, SI p5, SI p6, SI (p1 &&& (3 : Int32)), SI (-1), SR b101, SU, SU, SU, SU] [VR b101, VR b109, VR b109])) rfl (by rw [hml]; rfl) (Steps.refl _) (a := b109) (argsL := [VR b101]) (rest := [VR b109]) (lenOf pd0 rfl) rfl (by show 2 * 0 + _ ≤ _; exact Nat.le_of_eq rfl) (hb hby at_73) (fun _ _ => ⟨rfl, e109, (by decide : 2 + 1 ≤ _), (by decide : 6 + 2 ≤ _)⟩)
        dsimp only [Pt.U, Pt.locs, Pt.cells, Pt.slots] at X113 l113 y113 z113 st113 hQ113
        subst l113 y113 z113
        obtain ⟨rfl, N113q, K113, oE113, oC113, t113, kb113, -, lo113, nt113, oV113, oA113⟩ := hQ113
        have N113 := Fr.app N108 N113q
        refine own_go (fun _ k => st113.trans k) ?_
        show own_Fin p e below _ T113 (mkF m 76 #[SI p1, SI p2, SI p3, SI p4, SI p5, SI p6, SI (p1 &&& (3 : Int32)), SI (-1), SR b101, SU, SU, SU, SU] [VR b109])
        refine own_go (fun _ k => XS.astore X113.here hx rfl (hb hby at_76) rfl rfl (l' := #[SI p1, SI p2, SI p3, SI p4, SI p5, SI p6, SI (p1 &&& (3 : Int32)), SI (-1), SR b101, SR b109, SU, SU, SU]) rfl (XS.iload X113.here hx rfl (hb hby at_78) rfl (XS.bipush X113.here hx rfl (hb hby at_80) (XS.iushr X113.here hx rfl (hb hby at_82) rfl (XS.sipush X113.here hx rfl (hb hby at_83) (XS.iand X113.here hx rfl (hb hby at_86) rfl (XS.i2c X113.here hx rfl (hb hby at_87) rfl k))))))) ?_
        show own_Fin p e below _ T113 (mkF m 88 #[SI p1, SI p2, SI p3, SI p4, SI p5, SI p6, SI (p1 &&& (3 : Int32)), SI (-1), SR b101, SR b109, SU, SU, SU] [VI ((((p6.toUInt32 >>> ((16 : Int32) &&& 31).toUInt32).toInt32) &&& (255 : Int32)).toUInt32.toUInt16.toUInt32.toInt32)])
        have O121 : Old Z n0 T113.heap := (O114.keep K113 (allS u116 all0))
        have z123 : h0.size ≤ T113.heap.size := Nat.le_trans z120 K113.1
        obtain ⟨_, T122, L122, X122, hQ122, st122⟩ := own_cS X113 hx hZ hown (WW hw 30) (WW hw 31) (WW hw 3) (WW hw 32) (rm7_1 l Z a0 hw [] ((((p6.toUInt32 >>> ((16 : Int32) &&& 31).toUInt32).toInt32) &&& (255 : Int32)).toUInt32.toUInt16.toUInt32.toInt32) G1 T113.heap n0 (Nat.le_trans Z0 z123) O_G1 O121 P_G1 (own_c255 ((p6.toUInt32 >>> ((16 : Int32) &&& 31).toUInt32).toInt32)).2) rfl hml (g := (mkF m 88 #[SI p1, SI p2, SI p3, SI p4, SI p5, SI p6, SI (p1 &&& (3 : Int32)), SI (-1), SR b101, SR b109, SU, SU, SU] [VI ((((p6.toUInt32 >>> ((16 : Int32) &&& 31).toUInt32).toInt32) &&& (255 : Int32)).toUInt32.toUInt16.toUInt32.toInt32)])) pd4 (hb hby at_88) [VI ((((p6.toUInt32 >>> ((16 : Int32) &&& 31).toUInt32).toInt32) &&& (255 : Int32)).toUInt32.toUInt16.toUInt32.toInt32)] [] (W := 0)
        obtain ⟨b9_122, b2_12_122, k2_12_122, rfl, N122q, K122, lob9_122, lob2_12_122, neb9b2_12_122, o0_122, o1_122, o2_122, o3_122⟩ := hQ122
        have N122 := Fr.app N113 N122q
        refine own_go st122 ?_
        show own_Fin p e below _ T122 (mkF m 91 #[SI p1, SI p2, SI p3, SI p4, SI p5, SI p6, SI (p1 &&& (3 : Int32)), SI (-1), SR b101, SR b109, SU, SU, SU] [VR b9_122])
        refine own_go (fun _ k => XS.astore X122.here hx rfl (hb hby at_91) rfl rfl (l' := #[SI p1, SI p2, SI p3, SI p4, SI p5, SI p6, SI (p1 &&& (3 : Int32)), SI (-1), SR b101, SR b109, SR b9_122, SU, SU]) rfl k) ?_
        show own_Fin p e below _ T122 (mkF m 93 #[SI p1, SI p2, SI p3, SI p4, SI p5, SI p6, SI (p1 &&& (3 : Int32)), SI (-1), SR b101, SR b109, SR b9_122, SU, SU] [])
        obtain ⟨T124, h124, X124, e124, E124, A124, D124, -, st124⟩ := newO X122 hx hZ hown (WW hw 44) (WW hw 45) (WW hw 46) rfl (g := (mkF m 93 #[SI p1, SI p2, SI p3, SI p4, SI p5, SI p6, SI (p1 &&& (3 : Int32)), SI (-1), SR b101, SR b109, SR b9_122, SU, SU] [])) rfl (hb hby at_93) (by decide) (by decide)
        obtain ⟨b124, g124⟩ : ∃ z, z = T122.heap.size := ⟨_, rfl⟩
        rw [← g124] at A124 D124 st124
        have F125 : Fld Z h124 b124 cC2 "number" "I" (VI 0) := D124 (Or.inr (WW hw 57)) (ty := .int) (by decide)
        have F126 : Fld Z h124 b124 cC2 "misread" "I" (VI 0) := D124 (Or.inr (WW hw 59)) (ty := .int) (by decide)
        have F127 : Fld Z h124 b124 cC2 "printed" cC3 (.null) := D124 (Or.inr (WW hw 61)) (ty := (.object "java/lang/String")) (by decide)
        have F128 : Fld Z h124 b124 cC2 "line" "I" (VI 0) := D124 (Or.inr (WW hw 63)) (ty := .int) (by decide)
        have F129 : Fld Z h124 b124 cC2 "title" cC3 (.null) := D124 (Or.inr (WW hw 65)) (ty := (.object "java/lang/String")) (by decide)
        have F130 : Fld Z h124 b124 cC2 "headingLines" "I" (VI 0) := D124 (Or.inr (WW hw 67)) (ty := .int) (by decide)
        refine own_go st124 ?_
        show own_Fin p e below _ T124 (mkF m 96 #[SI p1, SI p2, SI p3, SI p4, SI p5, SI p6, SI (p1 &&& (3 : Int32)), SI (-1), SR b101, SR b109, SR b9_122, SU, SU] [VR b124])
        refine own_go (fun _ k => XS.dup X124.here hx rfl (hb hby at_96) rfl rfl (XS.iload X124.here hx rfl (hb hby at_97) rfl (XS.iloadN X124.here hx rfl (hb hby at_99) rfl (XS.aload X124.here hx rfl (hb hby at_100) rfl rfl (XS.iloadN X124.here hx rfl (hb hby at_102) rfl (XS.aload X124.here hx rfl (hb hby at_103) rfl rfl (XS.iload X124.here hx rfl (hb hby at_105) rfl k))))))) ?_
        show own_Fin p e below _ T124 (mkF m 107 #[SI p1, SI p2, SI p3, SI p4, SI p5, SI p6, SI (p1 &&& (3 : Int32)), SI (-1), SR b101, SR b109, SR b9_122, SU, SU] [VI p5, VR b9_122, VI p4, VR b109, VI p3, VI (-1), VR b124, VR b124])
        have z133 : h0.size ≤ T122.heap.size := Nat.le_trans z123 K122.1
        have u132 : n0 ≤ b124 := Nat.le_trans Z0 (Nat.le_trans z133 (Nat.le_of_eq g124.symm))
        have z134 : h0.size ≤ h124.size := Nat.le_trans z133 E124.1
        obtain ⟨_, T131, L131, X131, hQ131, st131⟩ := own_cI X124 hx hZ hown (WW hw 47) (WW hw 48) (WW hw 46) (WW hw 49) (rm11_1 l Z a0 hw [] b124 (-1 : Int32) p3 b109 p4 b9_122 p5 h124 n0 (Nat.le_trans Z0 z134) A124 F125 u132 F126 F127 F128 F129 F130) e124 hml (g := (mkF m 107 #[SI p1, SI p2, SI p3, SI p4, SI p5, SI p6, SI (p1 &&& (3 : Int32)), SI (-1), SR b101, SR b109, SR b9_122, SU, SU] [VI p5, VR b9_122, VI p4, VR b109, VI p3, VI (-1), VR b124, VR b124])) pd6 (hb hby at_107) b124 [VI (-1), VI p3, VR b109, VI p4, VR b9_122, VI p5] [VR b124] (W := 1)
        obtain ⟨rfl, N131q, K131, o0_131, o1_131, o2_131, o3_131, o4_131, o5_131, o6_131⟩ := hQ131
        have N131 := Fr.app N122 N131q
        refine own_go st131 ?_
        show own_Fin p e below _ T131 (mkF m 110 #[SI p1, SI p2, SI p3, SI p4, SI p5, SI p6, SI (p1 &&& (3 : Int32)), SI (-1), SR b101, SR b109, SR b9_122, SU, SU] [VR b124])
        refine own_go (fun _ k => XS.astore X131.here hx rfl (hb hby at_110) rfl rfl (l' := #[SI p1, SI p2, SI p3, SI p4, SI p5, SI p6, SI (p1 &&& (3 : Int32)), SI (-1), SR b101, SR b109, SR b9_122, SR b124, SU]) rfl (XS.aload X131.here hx rfl (hb hby at_112) rfl rfl k)) ?_
        show own_Fin p e below _ T131 (mkF m 114 #[SI p1, SI p2, SI p3, SI p4, SI p5, SI p6, SI (p1 &&& (3 : Int32)), SI (-1), SR b101, SR b109, SR b9_122, SR b124, SU] [VR b124])
        have z136 : h0.size ≤ T131.heap.size := Nat.le_trans z134 K131.1
        obtain ⟨_, T135, L135, X135, hQ135, st135⟩ := own_cV X131 hx hZ hown (WW hw 68) (WW hw 69) (notFace_of_selects (args := #[]) (mvT hZ (WW hw 71))) (WW hw 71) (WW hw 70) (WW hw 46) (WW hw 72) (rm13_3 l Z a0 hw [] b124 p3 T131.heap n0 (Nat.le_trans Z0 z136) o1_131 o2_131) rfl o0_131 hml (g := (mkF m 114 #[SI p1, SI p2, SI p3, SI p4, SI p5, SI p6, SI (p1 &&& (3 : Int32)), SI (-1), SR b101, SR b109, SR b9_122, SR b124, SU] [VR b124])) pd7 (hb hby at_114) [] [] (W := 0)
        obtain ⟨rfl, N135q, e135⟩ := hQ135
        have N135 := Fr.app N131 N135q
        refine own_go st135 ?_
        show own_Fin p e below _ T135 (mkF m 117 #[SI p1, SI p2, SI p3, SI p4, SI p5, SI p6, SI (p1 &&& (3 : Int32)), SI (-1), SR b101, SR b109, SR b9_122, SR b124, SU] [VI p3])
        refine own_go (fun _ k => XS.istore X135.here hx rfl (hb hby at_117) rfl (l' := #[SI p1, SI p2, SI p3, SI p4, SI p5, SI p6, SI (p1 &&& (3 : Int32)), SI (-1), SR b101, SR b109, SR b9_122, SR b124, SI p3]) rfl (XS.iload X135.here hx rfl (hb hby at_119) rfl (XS.ifYes X135.here hx rfl (pc0 := 121) (pc' := 137) rfl (hb hby at_121) rfl ((if0 _ _).trans (flt (by decide : ¬ ((0 : Int32) < (-1 : Int32)))).2.2.2) (by decide) (by decide) (XS.iload X135.here hx rfl (hb hby at_137) rfl (XS.iloadN X135.here hx rfl (hb hby at_139) rfl (XS.icmpNo X135.here hx rfl (hb hby at_140) rfl (teq (rfl : p3 = p3)).2 (XS.iconst X135.here hx rfl (hb hby at_143) (XS.goto X135.here hx rfl (pc0 := 144) (pc' := 148) rfl (hb hby at_144) (by decide) (by decide) k)))))))) ?_
        show own_Fin p e below _ T135 (mkF m 148 #[SI p1, SI p2, SI p3, SI p4, SI p5, SI p6, SI (p1 &&& (3 : Int32)), SI (-1), SR b101, SR b109, SR b9_122, SR b124, SI p3] [VI 1])
        obtain ⟨fs, hr, hrun, hended, hW, hsame⟩ := X135.leave (v := some (.int (1 : Int32))) (fun h => by rw [hret] at h; cases h)
        refine own_end (retN X135 hx (t := .boolean) hret (by simp) (hb hby at_148) hr) hrun hended ⟨_, _, rfl, ?_, ⟨_, rfl⟩, hW, hsame.mono (by decide) (by decide)⟩
        show Q0 n0 _ T135.heap _
        rw [e135]
        exact ⟨rfl, N135⟩
      ·
        refine own_go (fun _ k => XS.iconst X0.here hx rfl (hb hby at_26) (XS.icmpYes X0.here hx rfl (pc0 := 27) (pc' := 34) rfl (hb hby at_27) rfl (feq hc2).2 (by decide) (by decide) (XS.iloadN X0.here hx rfl (hb hby at_34) rfl (XS.istore X0.here hx rfl (hb hby at_35) rfl (l' := #[SI p1, SI p2, SI p3, SI p4, SI p5, SI p6, SI (p1 &&& (3 : Int32)), SI p2, SU, SU, SU, SU, SU]) rfl (XS.iconst X0.here hx rfl (hb hby at_37) k))))) ?_
        show own_Fin p e below _ s₁ (mkF m 38 #[SI p1, SI p2, SI p3, SI p4, SI p5, SI p6, SI (p1 &&& (3 : Int32)), SI p2, SU, SU, SU, SU, SU] [VI 2])
        obtain ⟨T101, h101, k101, X101, e101, E101, A101, st101⟩ := newP X0 hx hZ (WW hw 0) e0 (g := (mkF m 38 #[SI p1, SI p2, SI p3, SI p4, SI p5, SI p6, SI (p1 &&& (3 : Int32)), SI p2, SU, SU, SU, SU, SU] [VI 2])) rfl (hb hby at_38) rfl (by decide) (cap := 2) (by decide) (by decide) (by decide) (by decide)
        obtain ⟨b101, g101⟩ : ∃ z, z = h0.size := ⟨_, rfl⟩
        rw [← g101] at A101 st101
        have V101 : Arv Z h101 b101 k101 .char 2 [VI 0, VI 0] (VI 0) := (Arv.new A101 (by decide)).pad (pad_rep [] (.int (0 : Int32)) 2)
        refine own_go st101 ?_
        show own_Fin p e below _ T101 (mkF m 40 #[SI p1, SI p2, SI p3, SI p4, SI p5, SI p6, SI (p1 &&& (3 : Int32)), SI p2, SU, SU, SU, SU, SU] [VR b101])
        refine own_go (fun _ k => XS.astore X101.here hx rfl (hb hby at_40) rfl rfl (l' := #[SI p1, SI p2, SI p3, SI p4, SI p5, SI p6, SI (p1 &&& (3 : Int32)), SI p2, SR b101, SU, SU, SU, SU]) rfl (XS.aload X101.here hx rfl (hb hby at_42) rfl rfl (XS.iconst X101.here hx rfl (hb hby at_44) (XS.iload X101.here hx rfl (hb hby at_45) rfl (XS.sipush X101.here hx rfl (hb hby at_47) (XS.iand X101.here hx rfl (hb hby at_50) rfl (XS.i2c X101.here hx rfl (hb hby at_51) rfl k))))))) ?_
        show own_Fin p e below _ T101 (mkF m 52 #[SI p1, SI p2, SI p3, SI p4, SI p5, SI p6, SI (p1 &&& (3 : Int32)), SI p2, SR b101, SU, SU, SU, SU] [VI ((p6 &&& (255 : Int32)).toUInt32.toUInt16.toUInt32.toInt32), VI 0, VR b101])
        obtain ⟨cl102, Ar102, q102, Sz102, Nn102, Hs102, Gg102⟩ := id V101
        have i103 : ¬ ((0 : Int32) < 0 ∨ cl102.slots.size ≤ ((0 : Int32)).toNatClampNeg) := inb_of Sz102 ⟨(by decide : ¬ ((0 : Int32) < (0 : Int32))), (by decide : (0 : Int32) < (2 : Int32))⟩
        obtain ⟨T104, h104, X104, e104, W104, st104⟩ := stC X101 hx hZ e101 Ar102 (j := (0 : Int32)) i103 (g := (mkF m 52 #[SI p1, SI p2, SI p3, SI p4, SI p5, SI p6, SI (p1 &&& (3 : Int32)), SI p2, SR b101, SU, SU, SU, SU] [VI ((p6 &&& (255 : Int32)).toUInt32.toUInt16.toUInt32.toInt32), VI 0, VR b101])) rfl rfl (hb hby at_52)
        have u105 : n0 ≤ b101 := Nat.le_trans Z0 (Nat.le_of_eq g101.symm)
        have N104 := Fr.snoc X104 N0 u105
        have V104 : Arv Z h104 b101 k101 .char 2 [VI (nar .char ((p6 &&& (255 : Int32)).toUInt32.toUInt16.toUInt32.toInt32)), VI 0] (VI 0) := Arv.set Ar102 q102 Sz102 Nn102 Hs102 Gg102 (fits_nar_char _) W104 0 rfl (Nat.le_of_ble_eq_true rfl)
        refine own_go st104 ?_
        show own_Fin p e below _ T104 (mkF m 53 #[SI p1, SI p2, SI p3, SI p4, SI p5, SI p6, SI (p1 &&& (3 : Int32)), SI p2, SR b101, SU, SU, SU, SU] [])
        refine own_go (fun _ k => XS.aload X104.here hx rfl (hb hby at_53) rfl rfl (XS.iconst X104.here hx rfl (hb hby at_55) (XS.iload X104.here hx rfl (hb hby at_56) rfl (XS.bipush X104.here hx rfl (hb hby at_58) (XS.iushr X104.here hx rfl (hb hby at_60) rfl (XS.sipush X104.here hx rfl (hb hby at_61) (XS.iand X104.here hx rfl (hb hby at_64) rfl (XS.i2c X104.here hx rfl (hb hby at_65) rfl k)))))))) ?_
        show own_Fin p e below _ T104 (mkF m 66 #[SI p1, SI p2, SI p3, SI p4, SI p5, SI p6, SI (p1 &&& (3 : Int32)), SI p2, SR b101, SU, SU, SU, SU] [VI ((((p6.toUInt32 >>> ((8 : Int32) &&& 31).toUInt32).toInt32) &&& (255 : Int32)).toUInt32.toUInt16.toUInt32.toInt32), VI 1, VR b101])
        obtain ⟨cl106, Ar106, q106, Sz106, Nn106, Hs106, Gg106⟩ := id V104
        have i107 : ¬ ((1 : Int32) < 0 ∨ cl106.slots.size ≤ ((1 : Int32)).toNatClampNeg) := inb_of Sz106 ⟨(by decide : ¬ ((1 : Int32) < (0 : Int32))), (by decide : (1 : Int32) < (2 : Int32))⟩
        obtain ⟨T108, h108, X108, e108, W108, st108⟩ := stC X104 hx hZ e104 Ar106 (j := (1 : Int32)) i107 (g := (mkF m 66 #[SI p1, SI p2, SI p3, SI p4, SI p5, SI p6, SI (p1 &&& (3 : Int32)), SI p2, SR b101, SU, SU, SU, SU] [VI ((((p6.toUInt32 >>> ((8 : Int32) &&& 31).toUInt32).toInt32) &&& (255 : Int32)).toUInt32.toUInt16.toUInt32.toInt32), VI 1, VR b101])) rfl rfl (hb hby at_66)
        have N108 := Fr.snoc X108 N104 u105
        have V108 : Arv Z h108 b101 k101 .char 2 [VI (nar .char ((p6 &&& (255 : Int32)).toUInt32.toUInt16.toUInt32.toInt32)), VI (nar .char ((((p6.toUInt32 >>> ((8 : Int32) &&& 31).toUInt32).toInt32) &&& (255 : Int32)).toUInt32.toUInt16.toUInt32.toInt32))] (VI 0) := Arv.set Ar106 q106 Sz106 Nn106 Hs106 Gg106 (fits_nar_char _) W108 1 rfl (Nat.le_of_ble_eq_true rfl)
        refine own_go st108 ?_
        show own_Fin p e below _ T108 (mkF m 67 #[SI p1, SI p2, SI p3, SI p4, SI p5, SI p6, SI (p1 &&& (3 : Int32)), SI p2, SR b101, SU, SU, SU, SU] [])
        obtain ⟨T109, h109, X109, e109, E109, A109, D109, -, st109⟩ := newO X108 hx hZ hown (WW hw 1) (WW hw 2) (WW hw 3) e108 (g := (mkF m 67 #[SI p1, SI p2, SI p3, SI p4, SI p5, SI p6, SI (p1 &&& (3 : Int32)), SI p2, SR b101, SU, SU, SU, SU] [])) rfl (hb hby at_67) (by decide) (by decide)
        obtain ⟨b109, g109⟩ : ∃ z, z = h108.size := ⟨_, rfl⟩
        rw [← g109] at A109 D109 st109
        have F110 : Fld Z h109 b109 cC0 "coder" "B" (VI 0) := D109 (Or.inr (WW hw 27)) (ty := .byte) (by decide)
        have F111 : Fld Z h109 b109 cC0 "value" "[B" (.null) := D109 (Or.inr (WW hw 29)) (ty := (.array .byte)) (by decide)
        refine own_go st109 ?_
        show own_Fin p e below _ T109 (mkF m 70 #[SI p1, SI p2, SI p3, SI p4, SI p5, SI p6, SI (p1 &&& (3 : Int32)), SI p2, SR b101, SU, SU, SU, SU] [VR b109])
        refine own_go (fun _ k => XS.dup X109.here hx rfl (hb hby at_70) rfl rfl (XS.aload X109.here hx rfl (hb hby at_71) rfl rfl k)) ?_
        show own_Fin p e below _ T109 (mkF m 73 #[SI p1, SI p2, SI p3, SI p4, SI p5, SI p6, SI (p1 &&& (3 : Int32)), SI p2, SR b101, SU, SU, SU, SU] [VR b101, VR b109, VR b109])
        have F112 : Arv Z h109 b101 k101 .char 2 [VI (nar .char ((p6 &&& (255 : Int32)).toUInt32.toUInt16.toUInt32.toInt32)), VI (nar .char ((((p6.toUInt32 >>> ((8 : Int32) &&& 31).toUInt32).toInt32) &&& (255 : Int32)).toUInt32.toUInt16.toUInt32.toInt32))] (VI 0) := (V108.ext E109)
        have O114 : Old Z n0 h109 := ((((X00.ext E101).wr W104 u105).wr W108 u105).ext E109)
        have hws : ∀ d ∈ StrChars.Road.words, d.before a0 Z = true := fun d hd => hw d ((by decide +kernel : ∀ d ∈ StrChars.Road.words, d ∈ tables_1) d hd)
        have hp115 : ∀ c ∈ ([(nar .char ((p6 &&& (255 : Int32)).toUInt32.toUInt16.toUInt32.toInt32)), (nar .char ((((p6.toUInt32 >>> ((8 : Int32) &&& 31).toUInt32).toInt32) &&& (255 : Int32)).toUInt32.toUInt16.toUInt32.toInt32))] : List Int32), ¬ c < 0 ∧ ¬ (255 : Int32) < c := (own_allS (own_and255 p6) (own_allS (own_and255 ((p6.toUInt32 >>> ((8 : Int32) &&& 31).toUInt32).toInt32)) own_all0))
        have z117 : h0.size ≤ h101.size := E101.1
        have z118 : h0.size ≤ h104.size := Nat.le_trans z117 (Nat.le_of_eq (Wr.size W104).symm)
        have z119 : h0.size ≤ h108.size := Nat.le_trans z118 (Nat.le_of_eq (Wr.size W108).symm)
        have u116 : n0 ≤ b109 := Nat.le_trans Z0 (Nat.le_trans z119 (Nat.le_of_eq g109.symm))
        have z120 : h0.size ≤ h109.size := Nat.le_trans z119 E109.1
        obtain ⟨_, _, ⟨T113, L113, k113, n113⟩, -, X113, ⟨Lc113, hQ113, l113, y113, z113⟩, st113⟩ := X109.specialBack hx (y := yM0) rfl hown (mvT hZ (WW hw 4)) (mvT hZ (WW hw 5)) (mvT hZ (WW hw 6)) (by decide) (StrChars.Road.backV (W := 1) hZ hws (kI := 4) (WW hw 2) (cs := ([(nar .char ((p6 &&& (255 : Int32)).toUInt32.toUInt16.toUInt32.toInt32)), (nar .char ((((p6.toUInt32 >>> ((8 : Int32) &&& 31).toUInt32).toInt32) &&& (255 : Int32)).toUInt32.toUInt16.toUInt32.toInt32))] : List Int32)) (bs := ([(nar .char ((p6 &&& (255 : Int32)).toUInt32.toUInt16.toUInt32.toInt32)), (nar .char ((((p6.toUInt32 >>> ((8 : Int32) &&& 31).toUInt32).toInt32) &&& (255 : Int32)).toUInt32.toUInt16.toUInt32.toInt32))] : List Int32).map (fun c => c.toInt8.toInt32)) (n := 2) u116 (Nat.le_trans Z0 z120) A109 F111 F110 F112 (O_G1.ext O114.2) P_G1 rfl rfl (by decide) (by decide) hp115 rfl (by decide) (by decide)) (g := (mkF m 73 #[SI p1, SI p2, SI p3, SI p4, SI p5, SI p6, SI (p1 &&& (3 : Int32)), SI p2, SR b101, SU, SU, SU, SU] [VR b101, VR b109, VR b109])) rfl (by rw [hml]; rfl) (Steps.refl _) (a := b109) (argsL := [VR b101]) (rest := [VR b109]) (lenOf pd0 rfl) rfl (by show 2 * 0 + _ ≤ _; exact Nat.le_of_eq rfl) (hb hby at_73) (fun _ _ => ⟨rfl, e109, (by decide : 2 + 1 ≤ _), (by decide : 6 + 2 ≤ _)⟩)
        dsimp only [Pt.U, Pt.locs, Pt.cells, Pt.slots] at X113 l113 y113 z113 st113 hQ113
        subst l113 y113 z113
        obtain ⟨rfl, N113q, K113, oE113, oC113, t113, kb113, -, lo113, nt113, oV113, oA113⟩ := hQ113
        have N113 := Fr.app N108 N113q
        refine own_go (fun _ k => st113.trans k) ?_
        show own_Fin p e below _ T113 (mkF m 76 #[SI p1, SI p2, SI p3, SI p4, SI p5, SI p6, SI (p1 &&& (3 : Int32)), SI p2, SR b101, SU, SU, SU, SU] [VR b109])
        refine own_go (fun _ k => XS.astore X113.here hx rfl (hb hby at_76) rfl rfl (l' := #[SI p1, SI p2, SI p3, SI p4, SI p5, SI p6, SI (p1 &&& (3 : Int32)), SI p2, SR b101, SR b109, SU, SU, SU]) rfl (XS.iload X113.here hx rfl (hb hby at_78) rfl (XS.bipush X113.here hx rfl (hb hby at_80) (XS.iushr X113.here hx rfl (hb hby at_82) rfl (XS.sipush X113.here hx rfl (hb hby at_83) (XS.iand X113.here hx rfl (hb hby at_86) rfl (XS.i2c X113.here hx rfl (hb hby at_87) rfl k))))))) ?_
        show own_Fin p e below _ T113 (mkF m 88 #[SI p1, SI p2, SI p3, SI p4, SI p5, SI p6, SI (p1 &&& (3 : Int32)), SI p2, SR b101, SR b109, SU, SU, SU] [VI ((((p6.toUInt32 >>> ((16 : Int32) &&& 31).toUInt32).toInt32) &&& (255 : Int32)).toUInt32.toUInt16.toUInt32.toInt32)])
        have O121 : Old Z n0 T113.heap := (O114.keep K113 (allS u116 all0))
        have z123 : h0.size ≤ T113.heap.size := Nat.le_trans z120 K113.1
        obtain ⟨_, T122, L122, X122, hQ122, st122⟩ := own_cS X113 hx hZ hown (WW hw 30) (WW hw 31) (WW hw 3) (WW hw 32) (rm7_1 l Z a0 hw [] ((((p6.toUInt32 >>> ((16 : Int32) &&& 31).toUInt32).toInt32) &&& (255 : Int32)).toUInt32.toUInt16.toUInt32.toInt32) G1 T113.heap n0 (Nat.le_trans Z0 z123) O_G1 O121 P_G1 (own_c255 ((p6.toUInt32 >>> ((16 : Int32) &&& 31).toUInt32).toInt32)).2) rfl hml (g := (mkF m 88 #[SI p1, SI p2, SI p3, SI p4, SI p5, SI p6, SI (p1 &&& (3 : Int32)), SI p2, SR b101, SR b109, SU, SU, SU] [VI ((((p6.toUInt32 >>> ((16 : Int32) &&& 31).toUInt32).toInt32) &&& (255 : Int32)).toUInt32.toUInt16.toUInt32.toInt32)])) pd4 (hb hby at_88) [VI ((((p6.toUInt32 >>> ((16 : Int32) &&& 31).toUInt32).toInt32) &&& (255 : Int32)).toUInt32.toUInt16.toUInt32.toInt32)] [] (W := 0)
        obtain ⟨b9_122, b2_12_122, k2_12_122, rfl, N122q, K122, lob9_122, lob2_12_122, neb9b2_12_122, o0_122, o1_122, o2_122, o3_122⟩ := hQ122
        have N122 := Fr.app N113 N122q
        refine own_go st122 ?_
        show own_Fin p e below _ T122 (mkF m 91 #[SI p1, SI p2, SI p3, SI p4, SI p5, SI p6, SI (p1 &&& (3 : Int32)), SI p2, SR b101, SR b109, SU, SU, SU] [VR b9_122])
        refine own_go (fun _ k => XS.astore X122.here hx rfl (hb hby at_91) rfl rfl (l' := #[SI p1, SI p2, SI p3, SI p4, SI p5, SI p6, SI (p1 &&& (3 : Int32)), SI p2, SR b101, SR b109, SR b9_122, SU, SU]) rfl k) ?_
        show own_Fin p e below _ T122 (mkF m 93 #[SI p1, SI p2, SI p3, SI p4, SI p5, SI p6, SI (p1 &&& (3 : Int32)), SI p2, SR b101, SR b109, SR b9_122, SU, SU] [])
        obtain ⟨T124, h124, X124, e124, E124, A124, D124, -, st124⟩ := newO X122 hx hZ hown (WW hw 44) (WW hw 45) (WW hw 46) rfl (g := (mkF m 93 #[SI p1, SI p2, SI p3, SI p4, SI p5, SI p6, SI (p1 &&& (3 : Int32)), SI p2, SR b101, SR b109, SR b9_122, SU, SU] [])) rfl (hb hby at_93) (by decide) (by decide)
        obtain ⟨b124, g124⟩ : ∃ z, z = T122.heap.size := ⟨_, rfl⟩
        rw [← g124] at A124 D124 st124
        have F125 : Fld Z h124 b124 cC2 "number" "I" (VI 0) := D124 (Or.inr (WW hw 57)) (ty := .int) (by decide)
        have F126 : Fld Z h124 b124 cC2 "misread" "I" (VI 0) := D124 (Or.inr (WW hw 59)) (ty := .int) (by decide)
        have F127 : Fld Z h124 b124 cC2 "printed" cC3 (.null) := D124 (Or.inr (WW hw 61)) (ty := (.object "java/lang/String")) (by decide)
        have F128 : Fld Z h124 b124 cC2 "line" "I" (VI 0) := D124 (Or.inr (WW hw 63)) (ty := .int) (by decide)
        have F129 : Fld Z h124 b124 cC2 "title" cC3 (.null) := D124 (Or.inr (WW hw 65)) (ty := (.object "java/lang/String")) (by decide)
        have F130 : Fld Z h124 b124 cC2 "headingLines" "I" (VI 0) := D124 (Or.inr (WW hw 67)) (ty := .int) (by decide)
        refine own_go st124 ?_
        show own_Fin p e below _ T124 (mkF m 96 #[SI p1, SI p2, SI p3, SI p4, SI p5, SI p6, SI (p1 &&& (3 : Int32)), SI p2, SR b101, SR b109, SR b9_122, SU, SU] [VR b124])
        refine own_go (fun _ k => XS.dup X124.here hx rfl (hb hby at_96) rfl rfl (XS.iload X124.here hx rfl (hb hby at_97) rfl (XS.iloadN X124.here hx rfl (hb hby at_99) rfl (XS.aload X124.here hx rfl (hb hby at_100) rfl rfl (XS.iloadN X124.here hx rfl (hb hby at_102) rfl (XS.aload X124.here hx rfl (hb hby at_103) rfl rfl (XS.iload X124.here hx rfl (hb hby at_105) rfl k))))))) ?_
        show own_Fin p e below _ T124 (mkF m 107 #[SI p1, SI p2, SI p3, SI p4, SI p5, SI p6, SI (p1 &&& (3 : Int32)), SI p2, SR b101, SR b109, SR b9_122, SU, SU] [VI p5, VR b9_122, VI p4, VR b109, VI p3, VI p2, VR b124, VR b124])
        have z133 : h0.size ≤ T122.heap.size := Nat.le_trans z123 K122.1
        have u132 : n0 ≤ b124 := Nat.le_trans Z0 (Nat.le_trans z133 (Nat.le_of_eq g124.symm))
        have z134 : h0.size ≤ h124.size := Nat.le_trans z133 E124.1
        obtain ⟨_, T131, L131, X131, hQ131, st131⟩ := own_cI X124 hx hZ hown (WW hw 47) (WW hw 48) (WW hw 46) (WW hw 49) (rm11_1 l Z a0 hw [] b124 p2 p3 b109 p4 b9_122 p5 h124 n0 (Nat.le_trans Z0 z134) A124 F125 u132 F126 F127 F128 F129 F130) e124 hml (g := (mkF m 107 #[SI p1, SI p2, SI p3, SI p4, SI p5, SI p6, SI (p1 &&& (3 : Int32)), SI p2, SR b101, SR b109, SR b9_122, SU, SU] [VI p5, VR b9_122, VI p4, VR b109, VI p3, VI p2, VR b124, VR b124])) pd6 (hb hby at_107) b124 [VI p2, VI p3, VR b109, VI p4, VR b9_122, VI p5] [VR b124] (W := 1)
        obtain ⟨rfl, N131q, K131, o0_131, o1_131, o2_131, o3_131, o4_131, o5_131, o6_131⟩ := hQ131
        have N131 := Fr.app N122 N131q
        refine own_go st131 ?_
        show own_Fin p e below _ T131 (mkF m 110 #[SI p1, SI p2, SI p3, SI p4, SI p5, SI p6, SI (p1 &&& (3 : Int32)), SI p2, SR b101, SR b109, SR b9_122, SU, SU] [VR b124])
        refine own_go (fun _ k => XS.astore X131.here hx rfl (hb hby at_110) rfl rfl (l' := #[SI p1, SI p2, SI p3, SI p4, SI p5, SI p6, SI (p1 &&& (3 : Int32)), SI p2, SR b101, SR b109, SR b9_122, SR b124, SU]) rfl (XS.aload X131.here hx rfl (hb hby at_112) rfl rfl k)) ?_
        show own_Fin p e below _ T131 (mkF m 114 #[SI p1, SI p2, SI p3, SI p4, SI p5, SI p6, SI (p1 &&& (3 : Int32)), SI p2, SR b101, SR b109, SR b9_122, SR b124, SU] [VR b124])
        have z136 : h0.size ≤ T131.heap.size := Nat.le_trans z134 K131.1
        by_cases hc3 : (0 : Int32) < p2
        ·
          obtain ⟨_, T135, L135, X135, hQ135, st135⟩ := own_cV X131 hx hZ hown (WW hw 68) (WW hw 69) (notFace_of_selects (args := #[]) (mvT hZ (WW hw 71))) (WW hw 71) (WW hw 70) (WW hw 46) (WW hw 72) (rm13_4 l Z a0 hw [] b124 p2 T131.heap n0 (Nat.le_trans Z0 z136) o1_131 hc3) rfl o0_131 hml (g := (mkF m 114 #[SI p1, SI p2, SI p3, SI p4, SI p5, SI p6, SI (p1 &&& (3 : Int32)), SI p2, SR b101, SR b109, SR b9_122, SR b124, SU] [VR b124])) pd7 (hb hby at_114) [] [] (W := 0)
          obtain ⟨rfl, N135q, e135⟩ := hQ135
          have N135 := Fr.app N131 N135q
          refine own_go st135 ?_
          show own_Fin p e below _ T135 (mkF m 117 #[SI p1, SI p2, SI p3, SI p4, SI p5, SI p6, SI (p1 &&& (3 : Int32)), SI p2, SR b101, SR b109, SR b9_122, SR b124, SU] [VI p2])
          refine own_go (fun _ k => XS.istore X135.here hx rfl (hb hby at_117) rfl (l' := #[SI p1, SI p2, SI p3, SI p4, SI p5, SI p6, SI (p1 &&& (3 : Int32)), SI p2, SR b101, SR b109, SR b9_122, SR b124, SI p2]) rfl (XS.iload X135.here hx rfl (hb hby at_119) rfl (XS.ifNo X135.here hx rfl (hb hby at_121) rfl ((if0 _ _).trans (tlt hc3).2.2.2) (XS.iload X135.here hx rfl (hb hby at_124) rfl (XS.iload X135.here hx rfl (hb hby at_126) rfl (XS.icmpNo X135.here hx rfl (hb hby at_128) rfl (teq (rfl : p2 = p2)).2 (XS.iconst X135.here hx rfl (hb hby at_131) (XS.goto X135.here hx rfl (pc0 := 132) (pc' := 136) rfl (hb hby at_132) (by decide) (by decide) k)))))))) ?_
          show own_Fin p e below _ T135 (mkF m 136 #[SI p1, SI p2, SI p3, SI p4, SI p5, SI p6, SI (p1 &&& (3 : Int32)), SI p2, SR b101, SR b109, SR b9_122, SR b124, SI p2] [VI 1])
          obtain ⟨fs, hr, hrun, hended, hW, hsame⟩ := X135.leave (v := some (.int (1 : Int32))) (fun h => by rw [hret] at h; cases h)
          refine own_end (retN X135 hx (t := .boolean) hret (by simp) (hb hby at_136) hr) hrun hended ⟨_, _, rfl, ?_, ⟨_, rfl⟩, hW, hsame.mono (by decide) (by decide)⟩
          show Q0 n0 _ T135.heap _
          rw [e135]
          exact ⟨rfl, N135⟩
        ·
          obtain ⟨_, T135, L135, X135, hQ135, st135⟩ := own_cV X131 hx hZ hown (WW hw 68) (WW hw 69) (notFace_of_selects (args := #[]) (mvT hZ (WW hw 71))) (WW hw 71) (WW hw 70) (WW hw 46) (WW hw 72) (rm13_5 l Z a0 hw [] b124 p2 p3 T131.heap n0 (Nat.le_trans Z0 z136) o1_131 hc3 o2_131) rfl o0_131 hml (g := (mkF m 114 #[SI p1, SI p2, SI p3, SI p4, SI p5, SI p6, SI (p1 &&& (3 : Int32)), SI p2, SR b101, SR b109, SR b9_122, SR b124, SU] [VR b124])) pd7 (hb hby at_114) [] [] (W := 0)
          obtain ⟨rfl, N135q, e135⟩ := hQ135
          have N135 := Fr.app N131 N135q
          refine own_go st135 ?_
          show own_Fin p e below _ T135 (mkF m 117 #[SI p1, SI p2, SI p3, SI p4, SI p5, SI p6, SI (p1 &&& (3 : Int32)), SI p2, SR b101, SR b109, SR b9_122, SR b124, SU] [VI p3])
          refine own_go (fun _ k => XS.istore X135.here hx rfl (hb hby at_117) rfl (l' := #[SI p1, SI p2, SI p3, SI p4, SI p5, SI p6, SI (p1 &&& (3 : Int32)), SI p2, SR b101, SR b109, SR b9_122, SR b124, SI p3]) rfl (XS.iload X135.here hx rfl (hb hby at_119) rfl (XS.ifYes X135.here hx rfl (pc0 := 121) (pc' := 137) rfl (hb hby at_121) rfl ((if0 _ _).trans (flt hc3).2.2.2) (by decide) (by decide) (XS.iload X135.here hx rfl (hb hby at_137) rfl (XS.iloadN X135.here hx rfl (hb hby at_139) rfl (XS.icmpNo X135.here hx rfl (hb hby at_140) rfl (teq (rfl : p3 = p3)).2 (XS.iconst X135.here hx rfl (hb hby at_143) (XS.goto X135.here hx rfl (pc0 := 144) (pc' := 148) rfl (hb hby at_144) (by decide) (by decide) k)))))))) ?_
          show own_Fin p e below _ T135 (mkF m 148 #[SI p1, SI p2, SI p3, SI p4, SI p5, SI p6, SI (p1 &&& (3 : Int32)), SI p2, SR b101, SR b109, SR b9_122, SR b124, SI p3] [VI 1])
          obtain ⟨fs, hr, hrun, hended, hW, hsame⟩ := X135.leave (v := some (.int (1 : Int32))) (fun h => by rw [hret] at h; cases h)
          refine own_end (retN X135 hx (t := .boolean) hret (by simp) (hb hby at_148) hr) hrun hended ⟨_, _, rfl, ?_, ⟨_, rfl⟩, hW, hsame.mono (by decide) (by decide)⟩
          show Q0 n0 _ T135.heap _
          rw [e135]
          exact ⟨rfl, N135⟩
set_option maxRecDepth 65536 in
set_option maxHeartbeats 40000000 in
theorem comes_1 {Post : Tables → Env → Array Value → State → Outcome → State → Prop} (hpost : ∀ tb e args s v u, (limb_1_1.after args s (.returned v) u = true ∧ limb_1_2.after args s (.returned v) u = true ∧ True) → FrameEnd s (.returned v) u (Jvm.fieldLocs frame_1_writes args s ++ Jvm.arrayLocs frame_1_arrays args s ++ Jvm.staticLocs frame_1_statics s) 24 128 → Post tb e args s (.returned v) u) :
    ArmFor flags0 classFile x code maxLocals ret World_1 tables_1 room_1 Calls_1 rest_1 Pre_1 Post := by
  intro l hfl _ _ p e ha hc hk s m args below hf hA hF happ hP
  obtain ⟨hcalls, hrest, hpre⟩ := hP
  obtain ⟨-, -, -, hnamed, -, -, -, hat⟩ := (Spec.applies_iff hf).mp happ
  obtain ⟨hg, hn⟩ := and_e (Cond.before_iff.mp (show (Jvm.Cond.and given_1 narrow_1).before args s = true from hpre))
  obtain ⟨hcount, ha0⟩ := and_e hg
  obtain ⟨hv0, ha1⟩ := and_e ha0
  obtain ⟨hv1, ha2⟩ := and_e ha1
  obtain ⟨hv2, ha3⟩ := and_e ha2
  obtain ⟨hv3, ha4⟩ := and_e ha3
  obtain ⟨hv4, ha5⟩ := and_e ha4
  have hv5 := ha5
  obtain ⟨w0, w1, w2, w3, w4, w5, rfl⟩ : ∃ w0 w1 w2 w3 w4 w5 : Value, args = #[w0, w1, w2, w3, w4, w5] := by
    have hs : args.size = 6 := by simpa [Cond.value, given_1] using hcount
    obtain ⟨L⟩ := args
    match L, hs with
    | [w0, w1, w2, w3, w4, w5], _ => exact ⟨w0, w1, w2, w3, w4, w5, rfl⟩
  have hw := fun d (hd : d ∈ tables_1) => atoms_spec (ws := Jvm.Cond.code x code maxLocals ret :: tables_1) hat d (List.mem_cons_of_mem _ hd)
  obtain ⟨hsets, hown0⟩ := atoms_of _ (rest_1_c_eq ▸ (show rest_1_c.before _ s = true from hrest))
  obtain ⟨i0, ei0⟩ := is_v hv0
  obtain rfl : w0 = (.int i0) := Option.some.inj ei0
  obtain ⟨i1, ei1⟩ := is_v hv1
  obtain rfl : w1 = (.int i1) := Option.some.inj ei1
  obtain ⟨i2, ei2⟩ := is_v hv2
  obtain rfl : w2 = (.int i2) := Option.some.inj ei2
  obtain ⟨i3, ei3⟩ := is_v hv3
  obtain rfl : w3 = (.int i3) := Option.some.inj ei3
  obtain ⟨i4, ei4⟩ := is_v hv4
  obtain rfl : w4 = (.int i4) := Option.some.inj ei4
  obtain ⟨i5, ei5⟩ := is_v hv5
  obtain rfl : w5 = (.int i5) := Option.some.inj ei5
  obtain ⟨G1, e_G1⟩ := is_v (Cond.before_iff.mp (hsets _ (List.mem_of_getElem? (i := 1) rfl)))
  have S_G1 : Sta s s.heap "java/lang/String" "COMPACT_STRINGS" "Z" (.int G1) := Sta.start e_G1 (Or.inl (hsets _ (List.mem_of_getElem? (i := 0) rfl)))
  have c_G1 : ¬ (G1 = (0 : Int32)) := gotF (Cond.eq_ints e_G1 (Term.int_eval (0))) (not_v (Cond.before_iff.mp (hsets _ (List.mem_of_getElem? (i := 2) rfl))))
  obtain ⟨n, o, h1, h2, h3, _, L, rfl, ⟨rfl, N⟩, hq⟩ := rm0 l s _ hw tables_1 i0 i1 i2 i3 i4 i5 G1 s.heap s.heap.size (Nat.le_refl _) (Old.start s) S_G1 c_G1 p e ha hc hk s m _ below hf ((Spec.applies_iff_loose hf).mp happ).1 ⟨rfl, State.Warmed39.refl s, rfl⟩ trivial
  refine ⟨n, _, h1, h2, h3, hpost _ _ _ _ _ _ ⟨Cond.after_iff.mpr rfl, Cond.after_iff.mpr (eq_i res_at (Term.int_eval (1)) rfl), trivial⟩ ⟨hq.1, hq.2.1, (hq.2.2.sift fun y hy => Or.inr (N y hy)).mono (by decide) (by decide)⟩⟩
theorem main_1_1 : Claimed_1_1 := comes_1 fun _ _ _ _ _ _ h hF => ⟨h.1, hF⟩
theorem main_1_2 : Claimed_1_2 := comes_1 fun _ _ _ _ _ _ h hF => ⟨h.2.1, hF⟩
end Jvm.Pilot.@@N@@
namespace Jvm.Pilot.@@N@@
open Jvm Jvm.ClassFile Sem Op Lib Jvm.Free Jvm.Stand Jvm.Pilot.@@N@@.Jvm.D
/-! MADE BY PROGRAM (witnessworld.py) out of the Statement's table words and the real class files: 19 classes; the members and pool entries that the words name. The judged class is class 1, her method 1. -/
namespace start1
open Jvm.ClassFile
def u (s : String) : CpInfo := .utf8 (stringToUtf16 s)
/-- a pool by its gaps: so many unusable entries, then the entry; so many at the end -/
def gap : Nat → List CpInfo → List CpInfo
  | 0, r => r
  | n + 1, r => .unusable :: gap n r
def poolList (es : List (Nat × CpInfo)) (last : Nat) : List CpInfo := es.foldr (fun e r => gap e.1 (e.2 :: r)) (gap last [])
def pool (es : List (Nat × CpInfo)) (last : Nat) : Array CpInfo := ⟨poolList es last⟩
def fileOf (pool : Array CpInfo) (this : Nat) (attrs : Array Attribute := #[]) (ms : Array MethodInfo := #[]) (fl : Nat := 33) (sup : Nat := 0) (ifs : Array Nat := #[]) (fds : Array FieldInfo := #[]) : ClassFile where
  minorVersion := 0
  majorVersion := 65
  constantPool := pool
  accessFlags := fl
  thisClass := this
  superClass := sup
  interfaces := ifs
  fields := fds
  methods := ms
  attributes := attrs
def plain (name : String) (sup : Option ClassId) : Class where
  name := name
  kind := .ordinary
  loader := none
  accessFlags := 33
  super := sup
  interfaces := #[]
  cf := none
  fields := #[]
  methods := #[]
  instanceTypes := #[]
  staticTypes := #[]
  resolved := #[]
  callSites := []
  init := .initialized
  statics := none
  mirror := none

def pool0 : Array CpInfo := pool [(5, u "<init>"), (0, u "()V"), (1, .class_ 10), (1, u "java/lang/Object")] 113

def k0c0 : Code := { maxStack := 0, maxLocals := 1, code := object_method_1_code, exceptionTable := #[], attributes := #[] }
def k0m0 : Method := { name := "<init>", desc := "()V", sig := { parameters := [], returnType := none }, accessFlags := 1, code := some k0c0 }
/-- java/lang/Object -/
def k0 : Class := { plain "java/lang/Object" none with
  accessFlags := 33
  interfaces := #[]
  cf := some (fileOf pool0 8 #[] #[{ accessFlags := 1, nameIndex := 5, descriptorIndex := 6, attributes := #[] }] 33 0 #[] #[])
  fields := #[]
  methods := #[k0m0]
  instanceTypes := #[]
  staticTypes := #[]
  resolved := Array.replicate 124 none
  statics := none }

def pool1 : Array CpInfo := pool [(2, .class_ 4), (1, u "java/lang/Object"), (0, u "<init>"), (0, u "()V"), (0, .class_ 8), (0, u "java/lang/String"), (0, .methodref 7 10), (0, .nameAndType 5 11), (0, u "([C)V"), (0, .methodref 7 13), (0, .nameAndType 14 15), (0, u "valueOf"), (0, u "(C)Ljava/lang/String;"), (0, .class_ 17), (0, u site_107.cls), (0, .methodref 16 19), (0, .nameAndType 5 20), (0, u "(IILjava/lang/String;ILjava/lang/String;I)V"), (0, .methodref 16 22), (0, .nameAndType 23 24), (0, u "read"), (0, u "()I"), (0, .class_ 26), (0, u x.cls), (2, u "law"), (0, u "(IIIIII)Z")] 9

def k1m0 : Method := { name := "<init>", desc := "()V", sig := { parameters := [], returnType := none }, accessFlags := 2, code := none }
def k1c1 : Code := { maxStack := 8, maxLocals := 13, code := code, exceptionTable := #[], attributes := #[] }
def k1m1 : Method := { name := "law", desc := "(IIIIII)Z", sig := { parameters := [.int, .int, .int, .int, .int, .int], returnType := some .boolean }, accessFlags := 9, code := some k1c1 }
def k1 : Class := { plain x.cls (some 0) with
  accessFlags := 49
  interfaces := #[]
  cf := some (fileOf pool1 25 #[] #[{ accessFlags := 2, nameIndex := 5, descriptorIndex := 6, attributes := #[] }, { accessFlags := 9, nameIndex := 29, descriptorIndex := 30, attributes := #[] }] 49 2 #[] #[])
  fields := #[]
  methods := #[k1m0, k1m1]
  instanceTypes := #[]
  staticTypes := #[]
  resolved := Array.replicate 40 none
  statics := none }

def pool2 : Array CpInfo := pool [(1, .class_ 2), (0, u "java/io/Serializable"), (0, .class_ 4), (0, u "java/lang/Object")] 2

/-- java/io/Serializable -/
def k2 : Class := { plain "java/io/Serializable" (some 0) with
  accessFlags := 1537
  interfaces := #[]
  cf := some (fileOf pool2 1 #[] #[] 1537 3 #[] #[])
  fields := #[]
  methods := #[]
  instanceTypes := #[]
  staticTypes := #[]
  resolved := Array.replicate 7 none
  statics := none }

def pool3 : Array CpInfo := pool [(1, .class_ 2), (0, u "java/lang/Comparable"), (0, .class_ 4), (0, u "java/lang/Object")] 7

/-- java/lang/Comparable -/
def k3 : Class := { plain "java/lang/Comparable" (some 0) with
  accessFlags := 1537
  interfaces := #[]
  cf := some (fileOf pool3 1 #[] #[] 1537 3 #[] #[])
  fields := #[]
  methods := #[]
  instanceTypes := #[]
  staticTypes := #[]
  resolved := Array.replicate 12 none
  statics := none }

def pool4 : Array CpInfo := pool [(2, .class_ 4), (1, u "java/lang/CharSequence"), (42, .class_ 48), (0, u "java/lang/CharSequence$1CodePointIterator"), (10, .class_ 60), (0, u "java/lang/CharSequence$1CharIterator"), (5, .class_ 67), (0, u "java/lang/Object")] 63

/-- java/lang/CharSequence -/
def k4 : Class := { plain "java/lang/CharSequence" (some 0) with
  accessFlags := 1537
  interfaces := #[]
  cf := some (fileOf pool4 2 #[.nestMembers #[47, 59]] #[] 1537 66 #[] #[])
  fields := #[]
  methods := #[]
  instanceTypes := #[]
  staticTypes := #[]
  resolved := Array.replicate 131 none
  statics := none }

def pool5 : Array CpInfo := pool [(1, .class_ 2), (0, u "java/lang/constant/Constable"), (0, .class_ 4), (0, u "java/lang/Object")] 6

/-- java/lang/constant/Constable -/
def k5 : Class := { plain "java/lang/constant/Constable" (some 0) with
  accessFlags := 1537
  interfaces := #[]
  cf := some (fileOf pool5 1 #[] #[] 1537 3 #[] #[])
  fields := #[]
  methods := #[]
  instanceTypes := #[]
  staticTypes := #[]
  resolved := Array.replicate 11 none
  statics := none }

def pool6 : Array CpInfo := pool [(1, .class_ 2), (0, u "java/lang/constant/ConstantDesc"), (0, .class_ 4), (0, u "java/lang/Object")] 32

/-- java/lang/constant/ConstantDesc -/
def k6 : Class := { plain "java/lang/constant/ConstantDesc" (some 0) with
  accessFlags := 1537
  interfaces := #[]
  cf := some (fileOf pool6 1 #[] #[] 1537 3 #[] #[])
  fields := #[]
  methods := #[]
  instanceTypes := #[]
  staticTypes := #[]
  resolved := Array.replicate 37 none
  statics := none }

def pool7 : Array CpInfo := pool [(1, .methodref 2 3), (0, .class_ 4), (0, .nameAndType 5 6), (0, u "java/lang/Object"), (0, u "<init>"), (0, u "()V"), (2, .fieldref 10 11), (0, .class_ 12), (0, .nameAndType 13 14), (0, u "java/lang/String"), (0, u "value"), (0, u "[B"), (0, .fieldref 10 16), (0, .nameAndType 17 18), (0, u "coder"), (0, u "B"), (2, u "hash"), (0, u "I"), (2, u "hashIsZero"), (0, u "Z"), (0, .methodref 10 28), (0, .nameAndType 5 29), (0, u "([CIILjava/lang/Void;)V"), (8, .fieldref 10 39), (0, .nameAndType 40 26), (0, u "COMPACT_STRINGS"), (1, .class_ 44), (1, u "java/lang/StringUTF16"), (0, u "compress"), (1, .methodref 42 48), (0, .nameAndType 49 50), (0, u "coderFromArrayLen"), (0, u "([BI)B"), (2, u "toBytes"), (53, .class_ 109), (1, u "java/lang/StringLatin1"), (67, .methodref 42 178), (0, .nameAndType 45 179), (0, u "([CII)[B"), (29, .methodref 10 210), (0, .nameAndType 5 211), (0, u "([BB)V"), (157, u "(C)Z"), (205, .class_ 576), (0, u "java/lang/CharSequence"), (22, u "CASE_INSENSITIVE_ORDER"), (0, u "Ljava/util/Comparator;"), (181, u "valueOf"), (0, u "(C)Ljava/lang/String;"), (226, u "([C)V"), (4, .methodref 107 1016), (0, .nameAndType 1017 369), (0, u "canEncode"), (0, .methodref 107 1019), (0, .nameAndType 53 1020), (0, u "(C)[B"), (80, u "serialPersistentFields"), (0, u "[Ljava/io/ObjectStreamField;"), (0, .class_ 1104), (0, u "java/lang/String$CaseInsensitiveComparator"), (1, .class_ 1107), (0, u "java/io/Serializable"), (0, .class_ 1109), (0, u "java/lang/Comparable"), (0, .class_ 1111), (0, u "java/lang/constant/Constable"), (0, .class_ 1113), (0, u "java/lang/constant/ConstantDesc"), (2, u "serialVersionUID"), (0, u "J"), (3, u "REPL"), (0, u "C"), (2, u "LATIN1"), (1, u "UTF16")] 323

def k7m0 : Method := { name := "<init>", desc := "()V", sig := { parameters := [], returnType := none }, accessFlags := 1, code := none }
def k7c1 : Code := { maxStack := 5, maxLocals := 2, code := jdk_42_method_3_code, exceptionTable := #[], attributes := #[] }
def k7m1 : Method := { name := "<init>", desc := "([C)V", sig := { parameters := [(.array .char)], returnType := none }, accessFlags := 1, code := some k7c1 }
def k7c2 : Code := { maxStack := 4, maxLocals := 1, code := jdk_42_method_139_code, exceptionTable := #[], attributes := #[] }
def k7m2 : Method := { name := "valueOf", desc := "(C)Ljava/lang/String;", sig := { parameters := [.char], returnType := some (.object "java/lang/String") }, accessFlags := 9, code := some k7c2 }
def k7c3 : Code := { maxStack := 4, maxLocals := 6, code := jdk_42_method_149_code, exceptionTable := #[], attributes := #[] }
def k7m3 : Method := { name := "<init>", desc := "([CIILjava/lang/Void;)V", sig := { parameters := [(.array .char), .int, .int, (.object "java/lang/Void")], returnType := none }, accessFlags := 2, code := some k7c3 }
def k7c4 : Code := { maxStack := 2, maxLocals := 3, code := jdk_42_method_151_code, exceptionTable := #[], attributes := #[] }
def k7m4 : Method := { name := "<init>", desc := "([BB)V", sig := { parameters := [(.array .byte), .byte], returnType := none }, accessFlags := 0, code := some k7c4 }
/-- java/lang/String -/
def k7 : Class := { plain "java/lang/String" (some 0) with
  accessFlags := 49
  interfaces := #[2, 3, 4, 5, 6]
  cf := some (fileOf pool7 10 #[.nestMembers #[1103]] #[{ accessFlags := 1, nameIndex := 5, descriptorIndex := 6, attributes := #[] }, { accessFlags := 1, nameIndex := 5, descriptorIndex := 1010, attributes := #[] }, { accessFlags := 9, nameIndex := 782, descriptorIndex := 783, attributes := #[] }, { accessFlags := 2, nameIndex := 5, descriptorIndex := 29, attributes := #[] }, { accessFlags := 0, nameIndex := 5, descriptorIndex := 211, attributes := #[] }] 49 2 #[1106, 1108, 575, 1110, 1112] #[{ accessFlags := 18, nameIndex := 13, descriptorIndex := 14, attributes := #[] }, { accessFlags := 18, nameIndex := 17, descriptorIndex := 18, attributes := #[] }, { accessFlags := 2, nameIndex := 21, descriptorIndex := 22, attributes := #[] }, { accessFlags := 2, nameIndex := 25, descriptorIndex := 26, attributes := #[] }, { accessFlags := 26, nameIndex := 1116, descriptorIndex := 1117, attributes := #[] }, { accessFlags := 24, nameIndex := 40, descriptorIndex := 26, attributes := #[] }, { accessFlags := 26, nameIndex := 1101, descriptorIndex := 1102, attributes := #[] }, { accessFlags := 26, nameIndex := 1121, descriptorIndex := 1122, attributes := #[] }, { accessFlags := 25, nameIndex := 599, descriptorIndex := 600, attributes := #[] }, { accessFlags := 24, nameIndex := 1125, descriptorIndex := 18, attributes := #[] }, { accessFlags := 24, nameIndex := 1127, descriptorIndex := 18, attributes := #[] }])
  fields := #[{ name := "value", type := (.array .byte), accessFlags := 18, slot := 0, constantValue := 0 }, { name := "coder", type := .byte, accessFlags := 18, slot := 1, constantValue := 0 }, { name := "hash", type := .int, accessFlags := 2, slot := 2, constantValue := 0 }, { name := "hashIsZero", type := .boolean, accessFlags := 2, slot := 3, constantValue := 0 }, { name := "serialVersionUID", type := .long, accessFlags := 26, slot := 0, constantValue := 0 }, { name := "COMPACT_STRINGS", type := .boolean, accessFlags := 24, slot := 1, constantValue := 0 }, { name := "serialPersistentFields", type := (.array (.object "java/io/ObjectStreamField")), accessFlags := 26, slot := 2, constantValue := 0 }, { name := "REPL", type := .char, accessFlags := 26, slot := 3, constantValue := 0 }, { name := "CASE_INSENSITIVE_ORDER", type := (.object "java/util/Comparator"), accessFlags := 25, slot := 4, constantValue := 0 }, { name := "LATIN1", type := .byte, accessFlags := 24, slot := 5, constantValue := 0 }, { name := "UTF16", type := .byte, accessFlags := 24, slot := 6, constantValue := 0 }]
  methods := #[k7m0, k7m1, k7m2, k7m3, k7m4]
  instanceTypes := #[(.array .byte), .byte, .int, .boolean]
  staticTypes := #[.long, .boolean, (.array (.object "java/io/ObjectStreamField")), .char, (.object "java/util/Comparator"), .byte, .byte]
  resolved := Array.replicate 1451 none
  statics := some 0 }

def pool8 : Array CpInfo := pool [(6, .class_ 8), (1, u "java/lang/Object"), (0, u "<init>"), (0, u "()V"), (1, .class_ 14), (1, u "java/lang/StringUTF16"), (31, u "$assertionsDisabled"), (0, u "Z"), (13, u "HI_BYTE_SHIFT"), (0, u "I"), (2, u "LO_BYTE_SHIFT"), (49, .methodref 12 116), (0, .nameAndType 117 118), (0, u "compress"), (0, u "([CI[BII)I"), (3, u "([CII)[B"), (138, u "coderFromArrayLen"), (0, u "([BI)B"), (106, .class_ 371), (1, u "java/lang/StringUTF16$LinesSpliterator"), (58, u "MAX_LENGTH"), (196, .class_ 628), (0, u "java/lang/StringUTF16$CodePointsSpliterator"), (0, .class_ 630), (0, u "java/lang/StringUTF16$CharsSpliterator")] 4

def k8m0 : Method := { name := "<init>", desc := "()V", sig := { parameters := [], returnType := none }, accessFlags := 0, code := none }
def k8c1 : Code := { maxStack := 2, maxLocals := 2, code := jdk_52_method_15_code, exceptionTable := #[], attributes := #[] }
def k8m1 : Method := { name := "coderFromArrayLen", desc := "([BI)B", sig := { parameters := [(.array .byte), .int], returnType := some .byte }, accessFlags := 8, code := some k8c1 }
def k8c2 : Code := { maxStack := 5, maxLocals := 6, code := jdk_52_method_16_code, exceptionTable := #[], attributes := #[] }
def k8m2 : Method := { name := "compress", desc := "([CII)[B", sig := { parameters := [(.array .char), .int, .int], returnType := some (.array .byte) }, accessFlags := 9, code := some k8c2 }
def k8c3 : Code := { maxStack := 3, maxLocals := 7, code := jdk_52_method_21_code, exceptionTable := #[], attributes := #[] }
def k8m3 : Method := { name := "compress", desc := "([CI[BII)I", sig := { parameters := [(.array .char), .int, (.array .byte), .int, .int], returnType := some .int }, accessFlags := 9, code := some k8c3 }
/-- java/lang/StringUTF16 -/
def k8 : Class := { plain "java/lang/StringUTF16" (some 0) with
  accessFlags := 48
  interfaces := #[]
  cf := some (fileOf pool8 12 #[.nestMembers #[627, 629, 369]] #[{ accessFlags := 0, nameIndex := 9, descriptorIndex := 10, attributes := #[] }, { accessFlags := 8, nameIndex := 261, descriptorIndex := 262, attributes := #[] }, { accessFlags := 9, nameIndex := 117, descriptorIndex := 122, attributes := #[] }, { accessFlags := 9, nameIndex := 117, descriptorIndex := 118, attributes := #[] }] 48 6 #[] #[{ accessFlags := 26, nameIndex := 61, descriptorIndex := 62, attributes := #[] }, { accessFlags := 26, nameIndex := 65, descriptorIndex := 62, attributes := #[] }, { accessFlags := 24, nameIndex := 430, descriptorIndex := 62, attributes := #[] }, { accessFlags := 4120, nameIndex := 46, descriptorIndex := 47, attributes := #[] }])
  fields := #[{ name := "HI_BYTE_SHIFT", type := .int, accessFlags := 26, slot := 0, constantValue := 0 }, { name := "LO_BYTE_SHIFT", type := .int, accessFlags := 26, slot := 1, constantValue := 0 }, { name := "MAX_LENGTH", type := .int, accessFlags := 24, slot := 2, constantValue := 0 }, { name := "$assertionsDisabled", type := .boolean, accessFlags := 4120, slot := 3, constantValue := 0 }]
  methods := #[k8m0, k8m1, k8m2, k8m3]
  instanceTypes := #[]
  staticTypes := #[.int, .int, .int, .boolean]
  resolved := Array.replicate 635 none
  statics := none }

def pool9 : Array CpInfo := pool [(4, .class_ 6), (1, u "java/lang/Object"), (0, u "<init>"), (0, u "()V"), (5, .class_ 16), (1, u "java/lang/StringLatin1"), (73, u "canEncode"), (14, u "(C)Z"), (15, u "$assertionsDisabled"), (0, u "Z"), (98, .class_ 223), (1, u "java/lang/StringLatin1$LinesSpliterator"), (156, u "toBytes"), (1, u "(C)[B"), (7, .class_ 391), (0, u "java/lang/StringLatin1$CharsSpliterator")] 3

def k9m0 : Method := { name := "<init>", desc := "()V", sig := { parameters := [], returnType := none }, accessFlags := 0, code := none }
def k9c1 : Code := { maxStack := 2, maxLocals := 1, code := jdk_43_method_3_code, exceptionTable := #[], attributes := #[] }
def k9m1 : Method := { name := "canEncode", desc := "(C)Z", sig := { parameters := [.char], returnType := some .boolean }, accessFlags := 9, code := some k9c1 }
def k9c2 : Code := { maxStack := 4, maxLocals := 1, code := jdk_43_method_46_code, exceptionTable := #[], attributes := #[] }
def k9m2 : Method := { name := "toBytes", desc := "(C)[B", sig := { parameters := [.char], returnType := some (.array .byte) }, accessFlags := 9, code := some k9c2 }
/-- java/lang/StringLatin1 -/
def k9 : Class := { plain "java/lang/StringLatin1" (some 0) with
  accessFlags := 48
  interfaces := #[]
  cf := some (fileOf pool9 14 #[.nestMembers #[390, 221]] #[{ accessFlags := 0, nameIndex := 7, descriptorIndex := 8, attributes := #[] }, { accessFlags := 9, nameIndex := 90, descriptorIndex := 105, attributes := #[] }, { accessFlags := 9, nameIndex := 380, descriptorIndex := 382, attributes := #[] }] 48 4 #[] #[{ accessFlags := 4120, nameIndex := 121, descriptorIndex := 122, attributes := #[] }])
  fields := #[{ name := "$assertionsDisabled", type := .boolean, accessFlags := 4120, slot := 0, constantValue := 0 }]
  methods := #[k9m0, k9m1, k9m2]
  instanceTypes := #[]
  staticTypes := #[.boolean]
  resolved := Array.replicate 395 none
  statics := none }

def pool10 : Array CpInfo := pool [(1, .methodref 2 3), (0, .class_ 4), (0, .nameAndType 5 6), (0, u "java/lang/Object"), (0, u "<init>"), (0, u "()V"), (0, .class_ 8), (0, u "java/lang/Record")] 13

def k10c0 : Code := { maxStack := 1, maxLocals := 1, code := jdk_30_method_1_code, exceptionTable := #[], attributes := #[] }
def k10m0 : Method := { name := "<init>", desc := "()V", sig := { parameters := [], returnType := none }, accessFlags := 4, code := some k10c0 }
/-- java/lang/Record -/
def k10 : Class := { plain "java/lang/Record" (some 0) with
  accessFlags := 1057
  interfaces := #[]
  cf := some (fileOf pool10 7 #[] #[{ accessFlags := 4, nameIndex := 5, descriptorIndex := 6, attributes := #[] }] 1057 2 #[] #[])
  fields := #[]
  methods := #[k10m0]
  instanceTypes := #[]
  staticTypes := #[]
  resolved := Array.replicate 22 none
  statics := none }

def pool11 : Array CpInfo := pool [(1, .methodref 2 3), (0, .class_ 4), (0, .nameAndType 5 6), (0, u "java/lang/Record"), (0, u "<init>"), (0, u "()V"), (0, .fieldref 8 9), (0, .class_ 10), (0, .nameAndType 11 12), (0, u site_107.cls), (0, u "number"), (0, u "I"), (0, .fieldref 8 14), (0, .nameAndType 15 12), (0, u "misread"), (0, .fieldref 8 17), (0, .nameAndType 18 19), (0, u "printed"), (0, u "Ljava/lang/String;"), (0, .fieldref 8 21), (0, .nameAndType 22 12), (0, u "line"), (0, .fieldref 8 24), (0, .nameAndType 25 19), (0, u "title"), (0, .fieldref 8 27), (0, .nameAndType 28 12), (0, u "headingLines"), (17, u "(IILjava/lang/String;ILjava/lang/String;I)V"), (3, u "read"), (0, u "()I")] 34

def k11c0 : Code := { maxStack := 2, maxLocals := 7, code := prog_86_method_1_code, exceptionTable := #[], attributes := #[] }
def k11m0 : Method := { name := "<init>", desc := "(IILjava/lang/String;ILjava/lang/String;I)V", sig := { parameters := [.int, .int, (.object "java/lang/String"), .int, (.object "java/lang/String"), .int], returnType := none }, accessFlags := 0, code := some k11c0 }
def k11c1 : Code := { maxStack := 1, maxLocals := 1, code := prog_86_method_2_code, exceptionTable := #[], attributes := #[] }
def k11m1 : Method := { name := "read", desc := "()I", sig := { parameters := [], returnType := some .int }, accessFlags := 0, code := some k11c1 }
def k11 : Class := { plain site_107.cls (some 10) with
  accessFlags := 48
  interfaces := #[]
  cf := some (fileOf pool11 8 #[] #[{ accessFlags := 0, nameIndex := 5, descriptorIndex := 46, attributes := #[] }, { accessFlags := 0, nameIndex := 50, descriptorIndex := 51, attributes := #[] }] 48 2 #[] #[{ accessFlags := 18, nameIndex := 11, descriptorIndex := 12, attributes := #[] }, { accessFlags := 18, nameIndex := 15, descriptorIndex := 12, attributes := #[] }, { accessFlags := 18, nameIndex := 18, descriptorIndex := 19, attributes := #[] }, { accessFlags := 18, nameIndex := 22, descriptorIndex := 12, attributes := #[] }, { accessFlags := 18, nameIndex := 25, descriptorIndex := 19, attributes := #[] }, { accessFlags := 18, nameIndex := 28, descriptorIndex := 12, attributes := #[] }])
  fields := #[{ name := "number", type := .int, accessFlags := 18, slot := 0, constantValue := 0 }, { name := "misread", type := .int, accessFlags := 18, slot := 1, constantValue := 0 }, { name := "printed", type := (.object "java/lang/String"), accessFlags := 18, slot := 2, constantValue := 0 }, { name := "line", type := .int, accessFlags := 18, slot := 3, constantValue := 0 }, { name := "title", type := (.object "java/lang/String"), accessFlags := 18, slot := 4, constantValue := 0 }, { name := "headingLines", type := .int, accessFlags := 18, slot := 5, constantValue := 0 }]
  methods := #[k11m0, k11m1]
  instanceTypes := #[.int, .int, (.object "java/lang/String"), .int, (.object "java/lang/String"), .int]
  staticTypes := #[]
  resolved := Array.replicate 86 none
  statics := none }

def pool12 : Array CpInfo := pool [(2, .class_ 4), (1, u "java/lang/Object"), (0, u "<init>"), (0, u "()V"), (17, .class_ 26), (1, u "jdk/internal/util/Preconditions"), (28, .class_ 56), (0, u "jdk/internal/util/Preconditions$4"), (57, .class_ 115), (0, u "jdk/internal/util/Preconditions$1"), (7, u "SIOOBE_FORMATTER"), (0, u "Ljava/util/function/BiFunction;"), (0, .class_ 126), (0, u "jdk/internal/util/Preconditions$2"), (3, u "AIOOBE_FORMATTER"), (0, .class_ 132), (0, u "jdk/internal/util/Preconditions$3"), (3, u "IOOBE_FORMATTER")] 57

def k12m0 : Method := { name := "<init>", desc := "()V", sig := { parameters := [], returnType := none }, accessFlags := 1, code := none }
/-- jdk/internal/util/Preconditions -/
def k12 : Class := { plain "jdk/internal/util/Preconditions" (some 0) with
  accessFlags := 33
  interfaces := #[]
  cf := some (fileOf pool12 24 #[.nestMembers #[55, 131, 125, 114]] #[{ accessFlags := 1, nameIndex := 5, descriptorIndex := 6, attributes := #[] }] 33 2 #[] #[{ accessFlags := 25, nameIndex := 123, descriptorIndex := 124, attributes := #[] }, { accessFlags := 25, nameIndex := 130, descriptorIndex := 124, attributes := #[] }, { accessFlags := 25, nameIndex := 136, descriptorIndex := 124, attributes := #[] }])
  fields := #[{ name := "SIOOBE_FORMATTER", type := (.object "java/util/function/BiFunction"), accessFlags := 25, slot := 0, constantValue := 0 }, { name := "AIOOBE_FORMATTER", type := (.object "java/util/function/BiFunction"), accessFlags := 25, slot := 1, constantValue := 0 }, { name := "IOOBE_FORMATTER", type := (.object "java/util/function/BiFunction"), accessFlags := 25, slot := 2, constantValue := 0 }]
  methods := #[k12m0]
  instanceTypes := #[]
  staticTypes := #[(.object "java/util/function/BiFunction"), (.object "java/util/function/BiFunction"), (.object "java/util/function/BiFunction")]
  resolved := Array.replicate 194 none
  statics := some 1 }

def pool13 : Array CpInfo := pool [(9, u "<init>"), (6, .class_ 18), (1, u "java/lang/Object"), (0, u "()V"), (1, .class_ 23), (1, u "jdk/internal/util/ArraysSupport"), (0, u "LOG2_ARRAY_LONG_INDEX_SCALE"), (0, u "I"), (2, u "U"), (0, u "Ljdk/internal/misc/Unsafe;"), (8, u "BIG_ENDIAN"), (0, u "Z"), (8, u "LOG2_BYTE_BIT_SIZE"), (4, u "LOG2_ARRAY_INT_INDEX_SCALE"), (54, u "JLA"), (0, u "Ljdk/internal/access/JavaLangAccess;"), (11, u "LOG2_ARRAY_BOOLEAN_INDEX_SCALE"), (9, u "LOG2_ARRAY_BYTE_INDEX_SCALE"), (5, u "LOG2_ARRAY_CHAR_INDEX_SCALE"), (5, u "LOG2_ARRAY_SHORT_INDEX_SCALE"), (18, u "LOG2_ARRAY_FLOAT_INDEX_SCALE"), (24, u "LOG2_ARRAY_DOUBLE_INDEX_SCALE"), (89, u "T_BOOLEAN"), (2, u "T_CHAR"), (1, u "T_FLOAT"), (1, u "T_DOUBLE"), (1, u "T_BYTE"), (1, u "T_SHORT"), (1, u "T_INT"), (1, u "T_LONG"), (1, u "SOFT_MAX_ARRAY_LENGTH")] 83

def k13m0 : Method := { name := "<init>", desc := "()V", sig := { parameters := [], returnType := none }, accessFlags := 2, code := none }
/-- jdk/internal/util/ArraysSupport -/
def k13 : Class := { plain "jdk/internal/util/ArraysSupport" (some 0) with
  accessFlags := 33
  interfaces := #[]
  cf := some (fileOf pool13 21 #[] #[{ accessFlags := 2, nameIndex := 9, descriptorIndex := 19, attributes := #[] }] 33 16 #[] #[{ accessFlags := 24, nameIndex := 28, descriptorIndex := 29, attributes := #[] }, { accessFlags := 26, nameIndex := 38, descriptorIndex := 39, attributes := #[] }, { accessFlags := 25, nameIndex := 121, descriptorIndex := 25, attributes := #[] }, { accessFlags := 25, nameIndex := 131, descriptorIndex := 25, attributes := #[] }, { accessFlags := 25, nameIndex := 137, descriptorIndex := 25, attributes := #[] }, { accessFlags := 25, nameIndex := 143, descriptorIndex := 25, attributes := #[] }, { accessFlags := 25, nameIndex := 53, descriptorIndex := 25, attributes := #[] }, { accessFlags := 25, nameIndex := 24, descriptorIndex := 25, attributes := #[] }, { accessFlags := 25, nameIndex := 162, descriptorIndex := 25, attributes := #[] }, { accessFlags := 25, nameIndex := 187, descriptorIndex := 25, attributes := #[] }, { accessFlags := 26, nameIndex := 48, descriptorIndex := 25, attributes := #[] }, { accessFlags := 25, nameIndex := 277, descriptorIndex := 25, attributes := #[] }, { accessFlags := 25, nameIndex := 280, descriptorIndex := 25, attributes := #[] }, { accessFlags := 25, nameIndex := 282, descriptorIndex := 25, attributes := #[] }, { accessFlags := 25, nameIndex := 284, descriptorIndex := 25, attributes := #[] }, { accessFlags := 25, nameIndex := 286, descriptorIndex := 25, attributes := #[] }, { accessFlags := 25, nameIndex := 288, descriptorIndex := 25, attributes := #[] }, { accessFlags := 25, nameIndex := 290, descriptorIndex := 25, attributes := #[] }, { accessFlags := 25, nameIndex := 292, descriptorIndex := 25, attributes := #[] }, { accessFlags := 26, nameIndex := 108, descriptorIndex := 109, attributes := #[] }, { accessFlags := 25, nameIndex := 294, descriptorIndex := 25, attributes := #[] }])
  fields := #[{ name := "U", type := (.object "jdk/internal/misc/Unsafe"), accessFlags := 24, slot := 0, constantValue := 0 }, { name := "BIG_ENDIAN", type := .boolean, accessFlags := 26, slot := 1, constantValue := 0 }, { name := "LOG2_ARRAY_BOOLEAN_INDEX_SCALE", type := .int, accessFlags := 25, slot := 2, constantValue := 0 }, { name := "LOG2_ARRAY_BYTE_INDEX_SCALE", type := .int, accessFlags := 25, slot := 3, constantValue := 0 }, { name := "LOG2_ARRAY_CHAR_INDEX_SCALE", type := .int, accessFlags := 25, slot := 4, constantValue := 0 }, { name := "LOG2_ARRAY_SHORT_INDEX_SCALE", type := .int, accessFlags := 25, slot := 5, constantValue := 0 }, { name := "LOG2_ARRAY_INT_INDEX_SCALE", type := .int, accessFlags := 25, slot := 6, constantValue := 0 }, { name := "LOG2_ARRAY_LONG_INDEX_SCALE", type := .int, accessFlags := 25, slot := 7, constantValue := 0 }, { name := "LOG2_ARRAY_FLOAT_INDEX_SCALE", type := .int, accessFlags := 25, slot := 8, constantValue := 0 }, { name := "LOG2_ARRAY_DOUBLE_INDEX_SCALE", type := .int, accessFlags := 25, slot := 9, constantValue := 0 }, { name := "LOG2_BYTE_BIT_SIZE", type := .int, accessFlags := 26, slot := 10, constantValue := 0 }, { name := "T_BOOLEAN", type := .int, accessFlags := 25, slot := 11, constantValue := 0 }, { name := "T_CHAR", type := .int, accessFlags := 25, slot := 12, constantValue := 0 }, { name := "T_FLOAT", type := .int, accessFlags := 25, slot := 13, constantValue := 0 }, { name := "T_DOUBLE", type := .int, accessFlags := 25, slot := 14, constantValue := 0 }, { name := "T_BYTE", type := .int, accessFlags := 25, slot := 15, constantValue := 0 }, { name := "T_SHORT", type := .int, accessFlags := 25, slot := 16, constantValue := 0 }, { name := "T_INT", type := .int, accessFlags := 25, slot := 17, constantValue := 0 }, { name := "T_LONG", type := .int, accessFlags := 25, slot := 18, constantValue := 0 }, { name := "JLA", type := (.object "jdk/internal/access/JavaLangAccess"), accessFlags := 26, slot := 19, constantValue := 0 }, { name := "SOFT_MAX_ARRAY_LENGTH", type := .int, accessFlags := 25, slot := 20, constantValue := 0 }]
  methods := #[k13m0]
  instanceTypes := #[]
  staticTypes := #[(.object "jdk/internal/misc/Unsafe"), .boolean, .int, .int, .int, .int, .int, .int, .int, .int, .int, .int, .int, .int, .int, .int, .int, .int, .int, (.object "jdk/internal/access/JavaLangAccess"), .int]
  resolved := Array.replicate 378 none
  statics := none }

def pool14 : Array CpInfo := pool [(1, u "java/lang/Cloneable"), (0, .class_ 1), (0, u "java/lang/Object"), (0, .class_ 3)] 3

/-- java/lang/Cloneable -/
def k14 : Class := { plain "java/lang/Cloneable" (some 0) with
  accessFlags := 1537
  interfaces := #[]
  cf := some (fileOf pool14 2 #[] #[] 1537 4 #[] #[])
  fields := #[]
  methods := #[]
  instanceTypes := #[]
  staticTypes := #[]
  resolved := Array.replicate 8 none
  statics := none }

/-- the primitive byte -/
def k15 : Class := { plain "byte" none with kind := .primitive 'B', accessFlags := 0x411 }
/-- [B -/
def k16 : Class := { plain "[B" (some 0) with kind := .array 15 .byte, interfaces := #[14, 2], accessFlags := 1041 }

/-- the primitive char -/
def k17 : Class := { plain "char" none with kind := .primitive 'C', accessFlags := 0x411 }
/-- [C -/
def k18 : Class := { plain "[C" (some 0) with kind := .array 17 .char, interfaces := #[14, 2], accessFlags := 1041 }

def heap : Heap := #[{ cls := 7, slots := #[.long 0, .int 1, .null, .int 0, .null, .int 0, .int 0], vm := .statics 7 },
  { cls := 12, slots := #[.null, .null, .null], vm := .statics 12 }]
def classes : Array Class := #[k0, k1, k2, k3, k4, k5, k6, k7, k8, k9, k10, k11, k12, k13, k14, k15, k16, k17, k18]
def interned : List (Array UInt16 × Addr) := []
def slotsUsed : Nat := 10
def theMethod : MethodId := ⟨1, 1⟩
def args0 : Array Value := #[.int 0, .int 0, .int 0, .int 0, .int 0, .int 0]
def aboutOver (below : List Frame) : State where
  vm := { classes := classes, interned := interned.toArray }
  heap := heap
  slotsUsed := slotsUsed
  threads := #[{ frames := .invoking theMethod args0 :: below }]
def below0 : List Frame := [.native { method := ⟨0, 0⟩, args := #[] }]
def about1 : State := aboutOver below0
def p0 : Program := .bare "" "" ""
def e0 : Env := launch0.env 0 0 0
theorem w_frames : about1.frames = Frame.invoking theMethod args0 :: below0 := rfl
set_option maxRecDepth 65536 in
theorem w_args : argsFit about1.vm theMethod args0 = true := by decide +kernel
set_option maxRecDepth 65536 in
theorem w_heap : heapFits about1 = true := by decide +kernel
set_option maxRecDepth 65536 in
theorem w_runnable : about1.curStatus? = some .runnable := by decide +kernel
set_option maxRecDepth 65536 in
theorem w_alone : about1.alone = true := by decide +kernel
set_option maxRecDepth 65536 in
theorem w_named : about1.methodNamed? x = some theMethod := by decide +kernel
set_option maxRecDepth 65536 in
theorem w_hears : about1.hears theMethod below0 = true := by decide +kernel
set_option maxRecDepth 65536 in
theorem w_ripe : about1.ripe theMethod args0 below0 = true := by decide +kernel
theorem w_running : about1.status = .running := rfl
set_option maxRecDepth 65536 in
theorem w_room : about1.hasRoom e0.platform room_1 = true :=
  launch0.hasRoom_least _ room_1 (by decide +kernel) (by decide +kernel) (by decide +kernel) (by decide +kernel) (by decide +kernel) (by decide +kernel)
theorem allAtoms_all (ts : List Jvm.Cond) (a : Array Jvm.Value) (st : Jvm.State) : (allAtoms ts).before a st = ts.all (fun c => c.before a st) := by
  induction ts with
  | nil => rfl
  | cons c t ih =>
    show (Jvm.Cond.and c (allAtoms t)).before a st = _
    rw [Jvm.Cond.before_and, ih, List.all_cons]
def words1 : List Jvm.Cond := Jvm.Cond.code x code maxLocals ret :: tables_1
/-- a 'code' word, met by the world's own term for the bytes: nothing is compared byte by byte -/
theorem code_word {y : MethodName} {bytes : ByteArray} {mx : Nat} {rt : Option FieldType} {a : Array Value} {s : State} {m : MethodId} {meth : Method} {c : Code} (h1 : s.methodNamed? y = some m) (h2 : s.vm.method? m = some meth) (h3 : meth.code = some c) (h4 : c.code = bytes)
    (h5 : (c.maxLocals == mx && c.exceptionTable.isEmpty && decide (c.maxStack ≤ mostOperands) && decide (meth.sig.returnType = rt) && !meth.locks && decide (parseMethodDescriptor y.desc = some meth.sig)) = true) : (Jvm.Cond.code y bytes mx rt).before a s = true := by
  simp only [Bool.and_eq_true, beq_iff_eq, Bool.not_eq_true', decide_eq_true_eq] at h5
  obtain ⟨⟨⟨⟨⟨g1, g2⟩, g3⟩, g4⟩, g5⟩, g6⟩ := h5
  simp [Cond.before, Cond.holds, Cond.value, h1, h2, h3, h4, g1, g2, g3, g4, g5, g6]
def isCode : Jvm.Cond → Bool
  | .code _ _ _ _ => true
  | _ => false
theorem all_split {L : List Jvm.Cond} {P : Jvm.Cond → Bool} (h1 : L.all (fun c => isCode c || P c) = true) (h2 : ∀ c ∈ L.filter isCode, P c = true) : L.all P = true := by
  refine List.all_eq_true.mpr fun c hc => ?_
  have h := List.all_eq_true.mp h1 c hc
  rcases Bool.eq_false_or_eq_true (isCode c) with hi | hi
  · exact h2 c (List.mem_filter.mpr ⟨hc, hi⟩)
  · simpa [hi] using h
set_option maxRecDepth 65536 in
theorem w_c0 : (Jvm.Cond.code x code maxLocals ret).before args0 about1 = true := code_word (m := ⟨1, 1⟩) (meth := k1m1) (c := k1c1) (by decide +kernel) rfl rfl rfl (by decide +kernel)
set_option maxRecDepth 65536 in
theorem w_c1 : (Jvm.Cond.code ({ cls := "java/lang/String", name := "<init>", desc := "([C)V" } : Jvm.MethodName) jdk_42_method_3_code (2 : Nat) (Option.none : Option Jvm.ClassFile.FieldType)).before args0 about1 = true := code_word (m := ⟨7, 1⟩) (meth := k7m1) (c := k7c1) (by decide +kernel) rfl rfl rfl (by decide +kernel)
set_option maxRecDepth 65536 in
theorem w_c2 : (Jvm.Cond.code ({ cls := "java/lang/String", name := "<init>", desc := "([CIILjava/lang/Void;)V" } : Jvm.MethodName) jdk_42_method_149_code (6 : Nat) (Option.none : Option Jvm.ClassFile.FieldType)).before args0 about1 = true := code_word (m := ⟨7, 3⟩) (meth := k7m3) (c := k7c3) (by decide +kernel) rfl rfl rfl (by decide +kernel)
set_option maxRecDepth 65536 in
theorem w_c3 : (Jvm.Cond.code ({ cls := "java/lang/Object", name := "<init>", desc := "()V" } : Jvm.MethodName) object_method_1_code (1 : Nat) (Option.none : Option Jvm.ClassFile.FieldType)).before args0 about1 = true := code_word (m := ⟨0, 0⟩) (meth := k0m0) (c := k0c0) (by decide +kernel) rfl rfl rfl (by decide +kernel)
set_option maxRecDepth 65536 in
theorem w_c4 : (Jvm.Cond.code ({ cls := "java/lang/StringUTF16", name := "compress", desc := "([CII)[B" } : Jvm.MethodName) jdk_52_method_16_code (6 : Nat) (Option.some (Jvm.ClassFile.FieldType.array Jvm.ClassFile.FieldType.byte))).before args0 about1 = true := code_word (m := ⟨8, 2⟩) (meth := k8m2) (c := k8c2) (by decide +kernel) rfl rfl rfl (by decide +kernel)
set_option maxRecDepth 65536 in
theorem w_c5 : (Jvm.Cond.code ({ cls := "java/lang/StringUTF16", name := "compress", desc := "([CI[BII)I" } : Jvm.MethodName) jdk_52_method_21_code (7 : Nat) (Option.some Jvm.ClassFile.FieldType.int)).before args0 about1 = true := code_word (m := ⟨8, 3⟩) (meth := k8m3) (c := k8c3) (by decide +kernel) rfl rfl rfl (by decide +kernel)
set_option maxRecDepth 65536 in
theorem w_c6 : (Jvm.Cond.code ({ cls := "java/lang/StringUTF16", name := "coderFromArrayLen", desc := "([BI)B" } : Jvm.MethodName) jdk_52_method_15_code (2 : Nat) (Option.some Jvm.ClassFile.FieldType.byte)).before args0 about1 = true := code_word (m := ⟨8, 1⟩) (meth := k8m1) (c := k8c1) (by decide +kernel) rfl rfl rfl (by decide +kernel)
set_option maxRecDepth 65536 in
theorem w_c7 : (Jvm.Cond.code ({ cls := "java/lang/String", name := "valueOf", desc := "(C)Ljava/lang/String;" } : Jvm.MethodName) jdk_42_method_139_code (1 : Nat) (Option.some (Jvm.ClassFile.FieldType.object "java/lang/String"))).before args0 about1 = true := code_word (m := ⟨7, 2⟩) (meth := k7m2) (c := k7c2) (by decide +kernel) rfl rfl rfl (by decide +kernel)
set_option maxRecDepth 65536 in
theorem w_c8 : (Jvm.Cond.code ({ cls := "java/lang/StringLatin1", name := "canEncode", desc := "(C)Z" } : Jvm.MethodName) jdk_43_method_3_code (1 : Nat) (Option.some Jvm.ClassFile.FieldType.boolean)).before args0 about1 = true := code_word (m := ⟨9, 1⟩) (meth := k9m1) (c := k9c1) (by decide +kernel) rfl rfl rfl (by decide +kernel)
set_option maxRecDepth 65536 in
theorem w_c9 : (Jvm.Cond.code ({ cls := "java/lang/StringLatin1", name := "toBytes", desc := "(C)[B" } : Jvm.MethodName) jdk_43_method_46_code (1 : Nat) (Option.some (Jvm.ClassFile.FieldType.array Jvm.ClassFile.FieldType.byte))).before args0 about1 = true := code_word (m := ⟨9, 2⟩) (meth := k9m2) (c := k9c2) (by decide +kernel) rfl rfl rfl (by decide +kernel)
set_option maxRecDepth 65536 in
theorem w_c10 : (Jvm.Cond.code ({ cls := "java/lang/String", name := "<init>", desc := "([BB)V" } : Jvm.MethodName) jdk_42_method_151_code (3 : Nat) (Option.none : Option Jvm.ClassFile.FieldType)).before args0 about1 = true := code_word (m := ⟨7, 4⟩) (meth := k7m4) (c := k7c4) (by decide +kernel) rfl rfl rfl (by decide +kernel)
set_option maxRecDepth 65536 in
theorem w_c11 : (Jvm.Cond.code ({ cls := site_107.cls, name := "<init>", desc := "(IILjava/lang/String;ILjava/lang/String;I)V" } : Jvm.MethodName) prog_86_method_1_code (7 : Nat) (Option.none : Option Jvm.ClassFile.FieldType)).before args0 about1 = true := code_word (m := ⟨11, 0⟩) (meth := k11m0) (c := k11c0) (by decide +kernel) rfl rfl rfl (by decide +kernel)
set_option maxRecDepth 65536 in
theorem w_c12 : (Jvm.Cond.code ({ cls := "java/lang/Record", name := "<init>", desc := "()V" } : Jvm.MethodName) jdk_30_method_1_code (1 : Nat) (Option.none : Option Jvm.ClassFile.FieldType)).before args0 about1 = true := code_word (m := ⟨10, 0⟩) (meth := k10m0) (c := k10c0) (by decide +kernel) rfl rfl rfl (by decide +kernel)
set_option maxRecDepth 65536 in
theorem w_c13 : (Jvm.Cond.code ({ cls := site_107.cls, name := "read", desc := "()I" } : Jvm.MethodName) prog_86_method_2_code (1 : Nat) (Option.some Jvm.ClassFile.FieldType.int)).before args0 about1 = true := code_word (m := ⟨11, 1⟩) (meth := k11m1) (c := k11c1) (by decide +kernel) rfl rfl rfl (by decide +kernel)
def codes1 : List Jvm.Cond := [Jvm.Cond.code x code maxLocals ret, Jvm.Cond.code ({ cls := "java/lang/String", name := "<init>", desc := "([C)V" } : Jvm.MethodName) jdk_42_method_3_code (2 : Nat) (Option.none : Option Jvm.ClassFile.FieldType), Jvm.Cond.code ({ cls := "java/lang/String", name := "<init>", desc := "([CIILjava/lang/Void;)V" } : Jvm.MethodName) jdk_42_method_149_code (6 : Nat) (Option.none : Option Jvm.ClassFile.FieldType), Jvm.Cond.code ({ cls := "java/lang/Object", name := "<init>", desc := "()V" } : Jvm.MethodName) object_method_1_code (1 : Nat) (Option.none : Option Jvm.ClassFile.FieldType), Jvm.Cond.code ({ cls := "java/lang/StringUTF16", name := "compress", desc := "([CII)[B" } : Jvm.MethodName) jdk_52_method_16_code (6 : Nat) (Option.some (Jvm.ClassFile.FieldType.array Jvm.ClassFile.FieldType.byte)), Jvm.Cond.code ({ cls := "java/lang/StringUTF16", name := "compress", desc := "([CI[BII)I" } : Jvm.MethodName) jdk_52_method_21_code (7 : Nat) (Option.some Jvm.ClassFile.FieldType.int), Jvm.Cond.code ({ cls := "java/lang/StringUTF16", name := "coderFromArrayLen", desc := "([BI)B" } : Jvm.MethodName) jdk_52_method_15_code (2 : Nat) (Option.some Jvm.ClassFile.FieldType.byte), Jvm.Cond.code ({ cls := "java/lang/String", name := "valueOf", desc := "(C)Ljava/lang/String;" } : Jvm.MethodName) jdk_42_method_139_code (1 : Nat) (Option.some (Jvm.ClassFile.FieldType.object "java/lang/String")), Jvm.Cond.code ({ cls := "java/lang/StringLatin1", name := "canEncode", desc := "(C)Z" } : Jvm.MethodName) jdk_43_method_3_code (1 : Nat) (Option.some Jvm.ClassFile.FieldType.boolean), Jvm.Cond.code ({ cls := "java/lang/StringLatin1", name := "toBytes", desc := "(C)[B" } : Jvm.MethodName) jdk_43_method_46_code (1 : Nat) (Option.some (Jvm.ClassFile.FieldType.array Jvm.ClassFile.FieldType.byte)), Jvm.Cond.code ({ cls := "java/lang/String", name := "<init>", desc := "([BB)V" } : Jvm.MethodName) jdk_42_method_151_code (3 : Nat) (Option.none : Option Jvm.ClassFile.FieldType), Jvm.Cond.code ({ cls := site_107.cls, name := "<init>", desc := "(IILjava/lang/String;ILjava/lang/String;I)V" } : Jvm.MethodName) prog_86_method_1_code (7 : Nat) (Option.none : Option Jvm.ClassFile.FieldType), Jvm.Cond.code ({ cls := "java/lang/Record", name := "<init>", desc := "()V" } : Jvm.MethodName) jdk_30_method_1_code (1 : Nat) (Option.none : Option Jvm.ClassFile.FieldType), Jvm.Cond.code ({ cls := site_107.cls, name := "read", desc := "()I" } : Jvm.MethodName) prog_86_method_2_code (1 : Nat) (Option.some Jvm.ClassFile.FieldType.int)]
set_option maxRecDepth 65536 in
theorem codes_eq : words1.filter isCode = codes1 := rfl
theorem w_codes : ∀ c ∈ words1.filter isCode, c.before args0 about1 = true := by
  rw [codes_eq]
  intro c hc
  simp only [codes1, List.mem_cons, List.not_mem_nil, or_false] at hc
  rcases hc with rfl | rfl | rfl | rfl | rfl | rfl | rfl | rfl | rfl | rfl | rfl | rfl | rfl | rfl
  · exact w_c0
  · exact w_c1
  · exact w_c2
  · exact w_c3
  · exact w_c4
  · exact w_c5
  · exact w_c6
  · exact w_c7
  · exact w_c8
  · exact w_c9
  · exact w_c10
  · exact w_c11
  · exact w_c12
  · exact w_c13
set_option maxRecDepth 65536 in
theorem w_t1 : (words1.take 24).all (fun c => isCode c || c.before args0 about1) = true := by decide +kernel
set_option maxRecDepth 65536 in
theorem w_t2 : ((words1.drop 24).take 24).all (fun c => isCode c || c.before args0 about1) = true := by decide +kernel
set_option maxRecDepth 65536 in
theorem w_t3 : (((words1.drop 24).drop 24).take 24).all (fun c => isCode c || c.before args0 about1) = true := by decide +kernel
set_option maxRecDepth 65536 in
theorem w_t4 : (((words1.drop 24).drop 24).drop 24).all (fun c => isCode c || c.before args0 about1) = true := by decide +kernel
theorem w_tables : (allAtoms (Jvm.Cond.code x code maxLocals ret :: tables_1)).before args0 about1 = true := by
  rw [allAtoms_all]
  show words1.all (fun c => c.before args0 about1) = true
  refine all_split ?_ w_codes
  rw [← List.take_append_drop 24 words1, List.all_append, w_t1, ← List.take_append_drop 24 (words1.drop 24), List.all_append, w_t2, ← List.take_append_drop 24 ((words1.drop 24).drop 24), List.all_append, w_t3, w_t4]
  rfl
set_option maxRecDepth 65536 in
theorem w_rest : rest_1_c.before args0 about1 = true := by decide +kernel
set_option maxRecDepth 65536 in
theorem w_case : (Jvm.Cond.and given_1 narrow_1).before args0 about1 = true := by decide +kernel
theorem w_applies : (headSpec (Jvm.Cond.code x code maxLocals ret :: tables_1) room_1).applies x e0.platform about1 = true :=
  (Spec.applies_iff w_frames).mpr ⟨w_running, w_runnable, w_alone, w_named, w_hears, w_ripe, w_room, w_tables⟩
theorem atStart : AtStart classFile x code maxLocals ret World_1 tables_1 room_1 Calls_1 rest_1 Pre_1 launch0 p0 e0 about1 theMethod args0 below0 :=
  ⟨lists_1, trivial, launch0.admits_env _ _ _, launch0.least_env, fairChoices_fair.cas, fairChoices_fair.clock, w_frames, w_args, w_heap, w_applies, trivial, w_rest, w_case⟩
end start1
theorem witness_1 : WitnessClaimed_1 := ⟨start1.p0, start1.e0, start1.about1, start1.theMethod, start1.args0, start1.below0, start1.atStart⟩
end Jvm.Pilot.@@N@@
